import JvmDerived
import JvmDerived.Pilot.@@N@@Statement
import JvmDerived.Pilot.@@N@@Code
set_option linter.unusedVariables false
set_option linter.unusedSimpArgs false
namespace Jvm.OwnKit
open Sem ClassFile Op Lib Jvm.Stand Jvm.Free Jvm.LawKit Jvm.RoadKit
section Own
variable {p : Program} {l : Launch} {e : Env} {R : Room} {s : State} {m : MethodId} {args : Array Value} {below : List Frame} {meth : Method} {c : Code} {T : State} {locs : List Loc} {cells slots : Nat} {Z : State} {a0 : Array Value} {h : Heap}
/-- from S the run comes to an end that F admits -/
def W (p : Program) (e : Env) (below : List Frame) (F : Outcome → State → Prop) (S : State) : Prop := ∃ s₂ o, Steps p.tables e below S s₂ ∧ s₂.status = .running ∧ Ended s₂ below o ∧ F o s₂
def Fin (s : State) (Q : Option Value → Heap → List Loc → Prop) (rc rs : Nat) (o : Outcome) (U : State) : Prop := ∃ v L, o = .returned v ∧ Q v U.heap L ∧ FrameEnd s o U L rc rs
theorem W.go {F : Outcome → State → Prop} {S S' : State} (st : ∀ t, Steps p.tables e below S' t → Steps p.tables e below S t) (k : W p e below F S') : W p e below F S := by
  obtain ⟨s2, o, h1, h2⟩ := k; exact ⟨s2, o, st _ h1, h2⟩
theorem W.via {F : Outcome → State → Prop} {S S' : State} (st : Steps p.tables e below S S') (k : W p e below F S') : W p e below F S := by
  obtain ⟨s2, o, h1, h2⟩ := k; exact ⟨s2, o, st.trans h1, h2⟩
/-- a contract: called with these arguments, over this heap, the body returns and leaves what Q says -/
def Ctr (l : Launch) (Z : State) (y : MethodName) (bytes : ByteArray) (maxL : Nat) (ret : Option FieldType) (rm : Room) (as' : Array Value) (h0 : Heap) (Q : Option Value → Heap → List Loc → Prop) : Prop :=
  ∀ ws : List Jvm.Cond, MetFree l y (head1 (Jvm.Cond.code y bytes maxL ret :: ws) rm) (fun a U => a = as' ∧ Z.Warmed39 U.vm ∧ U.heap = h0) (fun _ _ _ _ _ => True) (fun _ U o U' => Fin U Q rm.cells rm.slots o U')
theorem Ctr.body {y : MethodName} {bytes : ByteArray} {maxL : Nat} {ret : Option FieldType} {rm : Room} {as' : Array Value} {h0 : Heap} {Q : Option Value → Heap → List Loc → Prop} {fr : MethodId → JFrame} (hpl : plainFor y = true) (hef : ∀ m, entryFrame m as' maxL = fr m)
    (body : ∀ (p : Program) (e : Env) (s : State) (m : MethodId) (below : List Frame) (meth : Method) (c : Code) (s₁ : State), p.tables.exec = Jvm.exec → c.code = bytes → c.maxLocals = maxL → Z.Warmed39 s.vm → s.vm.findClass y.cls = some m.cls → meth.name = y.name → meth.sig.returnType = ret → meth.locks = false →
      Stand p l e rm s m as' below meth c s₁ [] 0 0 → s₁.heap = h0 → W p e below (Fin s Q rm.cells rm.slots) (s₁.setTop (fr m))) : Ctr l Z y bytes maxL ret rm as' h0 Q := by
  intro ws
  refine MetFree.of_bodySF hpl hisR ?_
  intro p e s m args below meth c s₁ Bd hml0 hP hK
  obtain ⟨rfl, hZ, hh⟩ := hP
  have r := body p e s m below meth c s₁ Bd.exec Bd.bytes hml0 hZ (findClass_of_methodNamed Bd.named) (name_of_methodNamed Bd.named Bd.method).1 Bd.returns Bd.notSynchronized (Stand.of_body Bd) (by rw [← hh, Bd.state]; rfl)
  rw [← hef] at r
  exact r
theorem W.retB (X : Stand p l e R s m args below meth c T locs cells slots) (hx : p.tables.exec = Jvm.exec) (hlk : meth.locks = false) {t : FieldType} (hret : meth.sig.returnType = some t) (ht : t = .boolean ∨ t = .byte ∨ t = .char ∨ t = .short) {pc : Nat} {Ls : Array Slot} {z : Int32} {rest : List Value} (hd : decode c.code pc = .ok (.ireturn, 1))
    {Q : Option Value → Heap → List Loc → Prop} {rc rs : Nat} (hc : cells ≤ rc) (hs : slots ≤ rs) (eT : T.heap = h) (hQ : Q (some (.int (nar t z))) h locs) : W p e below (Fin s Q rc rs) (T.setTop (mkF m pc Ls (.int z :: rest))) := by
  obtain ⟨fs, hr, hrun, hended, hW, hsame⟩ := X.leave (v := some (.int (nar t z))) (fun h => by rw [hret] at h; cases h) hlk
  subst eT
  exact ⟨_, _, retN X hx hret ht hd hr, hrun, hended, _, _, rfl, hQ, ⟨_, rfl⟩, hW, hsame.mono hc hs⟩
theorem W.retI (X : Stand p l e R s m args below meth c T locs cells slots) (hx : p.tables.exec = Jvm.exec) (hlk : meth.locks = false) (hret : meth.sig.returnType = some .int) {pc : Nat} {Ls : Array Slot} {z : Int32} {rest : List Value} (hd : decode c.code pc = .ok (.ireturn, 1))
    {Q : Option Value → Heap → List Loc → Prop} {rc rs : Nat} (hc : cells ≤ rc) (hs : slots ≤ rs) (eT : T.heap = h) (hQ : Q (some (.int z)) h locs) : W p e below (Fin s Q rc rs) (T.setTop (mkF m pc Ls (.int z :: rest))) := by
  obtain ⟨fs, hr, hrun, hended, hW, hsame⟩ := X.leave (v := some (.int z)) (fun h => by rw [hret] at h; cases h) hlk
  subst eT
  refine ⟨_, _, ?_, hrun, hended, _, _, rfl, hQ, ⟨_, rfl⟩, hW, hsame.mono hc hs⟩
  have hm' : T.vm.method? m = some meth := X.method'
  have hn : narrow .int (.int z) = .int z := rfl
  show Steps p.tables e below (T.setTop { method := m, pc := pc, locals := Ls, stack := _ :: rest, locked := none }) _
  jvm_step X.here [X.here.top, hx, hd, hm', hret, hn]
  first | (intro acts; rw [hr _ acts rfl rfl rfl]) | rw [hr _ _ rfl rfl rfl]
  exact Steps.refl _
theorem W.retL (X : Stand p l e R s m args below meth c T locs cells slots) (hx : p.tables.exec = Jvm.exec) (hlk : meth.locks = false) (hret : meth.sig.returnType = some .long) {pc : Nat} {Ls : Array Slot} {z : Int64} {rest : List Value} (hd : decode c.code pc = .ok (.lreturn, 1))
    {Q : Option Value → Heap → List Loc → Prop} {rc rs : Nat} (hc : cells ≤ rc) (hs : slots ≤ rs) (eT : T.heap = h) (hQ : Q (some (.long z)) h locs) : W p e below (Fin s Q rc rs) (T.setTop (mkF m pc Ls (.long z :: rest))) := by
  obtain ⟨fs, hr, hrun, hended, hW, hsame⟩ := X.leave (v := some (.long z)) (fun h => by rw [hret] at h; cases h) hlk
  subst eT
  refine ⟨_, _, ?_, hrun, hended, _, _, rfl, hQ, ⟨_, rfl⟩, hW, hsame.mono hc hs⟩
  have hm' : T.vm.method? m = some meth := X.method'
  have hn : narrow .long (.long z) = .long z := rfl
  show Steps p.tables e below (T.setTop { method := m, pc := pc, locals := Ls, stack := _ :: rest, locked := none }) _
  jvm_step X.here [X.here.top, hx, hd, hm', hret, hn]
  first | (intro acts; rw [hr _ acts rfl rfl rfl]) | rw [hr _ _ rfl rfl rfl]
  exact Steps.refl _
theorem W.retA (X : Stand p l e R s m args below meth c T locs cells slots) (hx : p.tables.exec = Jvm.exec) (hlk : meth.locks = false) {t : FieldType} (hret : meth.sig.returnType = some t) (ht : t.isReference = true) {pc : Nat} {Ls : Array Slot} {w : Value} (hw : w.isRef = true) {rest : List Value} (hd : decode c.code pc = .ok (.areturn, 1))
    {Q : Option Value → Heap → List Loc → Prop} {rc rs : Nat} (hc : cells ≤ rc) (hs : slots ≤ rs) (eT : T.heap = h) (hQ : Q (some w) h locs) : W p e below (Fin s Q rc rs) (T.setTop (mkF m pc Ls (w :: rest))) := by
  obtain ⟨fs, hr, hrun, hended, hW, hsame⟩ := X.leave (v := some w) (fun h => by rw [hret] at h; cases h) hlk
  subst eT
  refine ⟨_, _, ?_, hrun, hended, _, _, rfl, hQ, ⟨_, rfl⟩, hW, hsame.mono hc hs⟩
  have hm' : T.vm.method? m = some meth := X.method'
  rcases ref_cases hw with rfl | ⟨z, rfl⟩
  all_goals
    show Steps p.tables e below (T.setTop { method := m, pc := pc, locals := Ls, stack := _ :: rest, locked := none }) _
    jvm_step X.here [X.here.top, hx, hd, hm', hret, ht, Value.isRef]
    first | (intro acts; rw [hr _ acts rfl rfl rfl]) | rw [hr _ _ rfl rfl rfl]
    exact Steps.refl _
theorem W.retV (X : Stand p l e R s m args below meth c T locs cells slots) (hx : p.tables.exec = Jvm.exec) (hlk : meth.locks = false) (hret : meth.sig.returnType = none) {pc : Nat} {Ls : Array Slot} (hd : decode c.code pc = .ok (.return_, 1))
    {Q : Option Value → Heap → List Loc → Prop} {rc rs : Nat} (hc : cells ≤ rc) (hs : slots ≤ rs) (eT : T.heap = h) (hQ : Q none h locs) : W p e below (Fin s Q rc rs) (T.setTop (mkF m pc Ls [])) := by
  obtain ⟨fs, hr, hrun, hended, hW, hsame⟩ := X.leave (v := none) (fun _ => rfl) hlk
  subst eT
  exact ⟨_, _, X.returnOut hx hret hd hr, hrun, hended, _, _, rfl, hQ, ⟨_, rfl⟩, hW, hsame.mono hc hs⟩
section Calls
variable {y y0 : MethodName} {bytes : ByteArray} {maxL W0 : Nat} {ret : Option FieldType} {rm : Room} {as' : Array Value} {Q : Option Value → Heap → List Loc → Prop} {own : String} {index : Nat} {sig : MethodDescriptor} {g : JFrame} {argsL rest : List Value} {F : Outcome → State → Prop}
theorem Ctr.back {len : Nat} (hM : Ctr l Z y bytes maxL ret rm as' h Q) (hZ : Z.Warmed39 s.vm) (wc : (Jvm.Cond.code y bytes maxL ret).before a0 Z = true) (wz : (Jvm.Cond.initialized y.cls).before a0 Z = true) (hf : rm.frames + 1 ≤ R.frames) (hl : W0 + (maxL + 11) + rm.locals ≤ R.locals) :
    Back l R p e below s args y len W0 (fun A a => a = as' ∧ A.U.heap = h ∧ A.cells + rm.cells ≤ R.cells ∧ A.slots + rm.slots ≤ R.slots)
      (fun A _ v B => ∃ L, Q v B.U.heap L ∧ B.locs = A.locs ++ L ∧ B.cells = A.cells + rm.cells ∧ B.slots = A.slots + rm.slots) := backOf (hM []) hZ wc wz hf hl
/-- a contract that does not ask that the class be initialized: a default method of an interface of which no word says so -/
def CtrC (l : Launch) (Z : State) (y : MethodName) (bytes : ByteArray) (maxL : Nat) (ret : Option FieldType) (rm : Room) (as' : Array Value) (h0 : Heap) (Q : Option Value → Heap → List Loc → Prop) : Prop :=
  plainFor y = true ∧ ∀ (p : Program) (e : Env) (s : State) (m : MethodId) (below : List Frame) (meth : Method) (c : Code) (s₁ : State), p.tables.exec = Jvm.exec → c.code = bytes → c.maxLocals = maxL → Z.Warmed39 s.vm → s.vm.findClass y.cls = some m.cls → meth.name = y.name → meth.sig.returnType = ret → meth.locks = false →
      Stand p l e rm s m as' below meth c s₁ [] 0 0 → s₁.heap = h0 → W p e below (Fin s Q rm.cells rm.slots) (s₁.setTop (entryFrame m as' maxL))
theorem CtrC.body {fr : MethodId → JFrame} (hpl : plainFor y = true) (hef : ∀ m, entryFrame m as' maxL = fr m)
    (body : ∀ (p : Program) (e : Env) (s : State) (m : MethodId) (below : List Frame) (meth : Method) (c : Code) (s₁ : State), p.tables.exec = Jvm.exec → c.code = bytes → c.maxLocals = maxL → Z.Warmed39 s.vm → s.vm.findClass y.cls = some m.cls → meth.name = y.name → meth.sig.returnType = ret → meth.locks = false →
      Stand p l e rm s m as' below meth c s₁ [] 0 0 → s₁.heap = h → W p e below (Fin s Q rm.cells rm.slots) (s₁.setTop (fr m))) : CtrC l Z y bytes maxL ret rm as' h Q :=
  ⟨hpl, fun p e s m below meth c s₁ h1 h2 h3 h4 h5 h6 h7 h8 h9 h10 => by rw [hef]; exact body p e s m below meth c s₁ h1 h2 h3 h4 h5 h6 h7 h8 h9 h10⟩
theorem CtrC.back {len : Nat} (hM : CtrC l Z y bytes maxL ret rm as' h Q) (hx : p.tables.exec = Jvm.exec) (hZ : Z.Warmed39 s.vm) (wc : (Jvm.Cond.code y bytes maxL ret).before a0 Z = true) (hf : rm.frames + 1 ≤ R.frames) (hl : W0 + (maxL + 11) + rm.locals ≤ R.locals) :
    Back l R p e below s args y len W0 (fun A a => a = as' ∧ A.U.heap = h ∧ A.cells + rm.cells ≤ R.cells ∧ A.slots + rm.slots ≤ R.slots)
      (fun A _ v B => ∃ L, Q v B.U.heap L ∧ B.locs = A.locs ++ L ∧ B.cells = A.cells + rm.cells ∧ B.slots = A.slots + rm.slots) := by
  intro m meth c A g ig mk a X hg hsize hdg hW hn hp
  obtain ⟨U, Ls, c0, s0⟩ := A
  dsimp only [Pt.U, Pt.locs, Pt.cells, Pt.slots] at X hn hp ⊢
  obtain ⟨rfl, hU, hc, hs⟩ := hp
  have hZU : Z.Warmed39 U.vm := wtrans hZ X.warmed
  obtain ⟨methY, cY, q1, q2, q3, q4, q5, q6, -⟩ := Cond.code_spec hn (mvT (args := a) hZU wc)
  subst q4
  obtain ⟨Y, en⟩ := X.into hg hsize hdg a (R' := rm) q1 q2 q6 (State.plainMethod.of_named hM.1 hn q1) hf (by omega) hc hs
  obtain ⟨t, o, ⟨n, hn1, hn2⟩, hrun, hend, v, L, rfl, hQ, hfe⟩ := hM.2 p e (U.calling g mk a) mk _ methY cY _ hx q3 rfl hZU (findClass_of_methodNamed hn) (name_of_methodNamed hn q1).1 q5 q6 Y hU
  obtain ⟨-, hWe, hsame⟩ := hfe
  obtain ⟨T', X', -, -, rfl⟩ := X.outOf hg hdg hend hWe hsame
  refine ⟨v, ⟨T', Ls ++ L, c0 + rm.cells, s0 + rm.slots⟩, X', ⟨L, hQ, rfl, rfl, rfl⟩, ?_⟩
  rw [en]
  exact ⟨n, hn1, fun j hj => (hn2 j hj).weaken (mid := [.java g])⟩
/-- a static call by its contract -/
theorem W.callS (X : Stand p l e R s m args below meth c T locs cells slots) (hx : p.tables.exec = Jvm.exec) (hZ : Z.Warmed39 s.vm) (hown : s.vm.findClass own = some m.cls) (hml : g.locals.size = c.maxLocals)
    (w1 : (Jvm.Cond.methodLink own index y).before a0 Z = true) (w2 : (Jvm.Cond.static y).before a0 Z = true) (w3 : (Jvm.Cond.initialized y.cls).before a0 Z = true) (w4 : (Jvm.Cond.code y bytes maxL ret).before a0 Z = true) (eT : T.heap = h)
    (hM : Ctr l Z y bytes maxL ret rm as' h Q) (hy : y.cls ≠ "java/lang/invoke/MethodHandle" ∧ y.cls ≠ "java/lang/invoke/VarHandle") (pd : parseMethodDescriptor y.desc = some sig) (hg : g.method = m) (has : argsL.toArray = as') (hlen : argsL.length = sig.parameters.length)
    (hst : g.stack = argsL.reverse ++ rest) (hd : decode c.code g.pc = .ok (.invokestatic index, 3)) (hW : 2 * g.monitorRoom + (rest.map fun v => v.category).sum = W0) (hf : rm.frames + 1 ≤ R.frames) (hl : W0 + (maxL + 11) + rm.locals ≤ R.locals) (hc : cells + rm.cells ≤ R.cells) (hs : slots + rm.slots ≤ R.slots)
    (k : ∀ v T' h' L, Stand p l e R s m args below meth c T' (locs ++ L) (cells + rm.cells) (slots + rm.slots) → T'.heap = h' → Q v h' L → W p e below F (T'.setTop { g with pc := g.pc + 3, stack := v.toList ++ rest })) : W p e below F (T.setTop g) := by
  obtain ⟨v, _, ⟨T', L', k', n'⟩, -, X', ⟨L, hQ, e1, e2, e3⟩, st⟩ := Jvm.LawKit.callS X hx hown (mvT hZ w1) (mvT hZ w2) (mvT hZ w3) (mvT hZ w4) hy (hM.back hZ w4 w3 hf hl) hg hml (argsL := argsL) (rest := rest) (fun sg q => by cases pd.symm.trans q; exact hlen) hst (Nat.le_of_eq hW) hd (fun _ _ => ⟨has, eT, hc, hs⟩)
  dsimp only [Pt.U, Pt.locs, Pt.cells, Pt.slots] at X' e1 e2 e3 hQ st
  subst e1 e2 e3
  exact W.go st (k v T' _ L X' rfl hQ)
/-- a constructor, whoever pays it -/
theorem W.callIK {kc ks : Nat} (X : Stand p l e R s m args below meth c T locs cells slots) (hx : p.tables.exec = Jvm.exec) (hZ : Z.Warmed39 s.vm) (hown : s.vm.findClass own = some m.cls) (hml : g.locals.size = c.maxLocals)
    (w1 : (Jvm.Cond.methodLink own index y).before a0 Z = true) (w2 : (Jvm.Cond.instanceMethod y).before a0 Z = true) (w4 : (Jvm.Cond.code y bytes maxL none).before a0 Z = true) (eT : T.heap = h)
    (hK : Back l R p e below s args y 3 W0 (fun A a => a = as' ∧ A.U.heap = h ∧ A.cells + kc ≤ R.cells ∧ A.slots + ks ≤ R.slots) (fun A _ v B => ∃ L, Q v B.U.heap L ∧ B.locs = A.locs ++ L ∧ B.cells = A.cells + kc ∧ B.slots = A.slots + ks)) (hn : y.name = "<init>") (hy : y.cls ≠ "java/lang/invoke/MethodHandle" ∧ y.cls ≠ "java/lang/invoke/VarHandle") (pd : parseMethodDescriptor y.desc = some sig) (hg : g.method = m) {b : Addr} (has : (Value.ref b :: argsL).toArray = as') (hlen : argsL.length = sig.parameters.length)
    (hst : g.stack = argsL.reverse ++ .ref b :: rest) (hd : decode c.code g.pc = .ok (.invokespecial index, 3)) (hW : 2 * g.monitorRoom + (rest.map fun v => v.category).sum = W0) (hc : cells + kc ≤ R.cells) (hs : slots + ks ≤ R.slots)
    (k : ∀ v T' h' L, Stand p l e R s m args below meth c T' (locs ++ L) (cells + kc) (slots + ks) → T'.heap = h' → Q v h' L → W p e below F (T'.setTop { g with pc := g.pc + 3, stack := v.toList ++ rest })) : W p e below F (T.setTop g) := by
  obtain ⟨v, _, ⟨T', L', k', n'⟩, -, X', ⟨L, hQ, e1, e2, e3⟩, st⟩ := X.specialBack hx hn hown (mvT hZ w1) (mvT hZ w2) (mvT hZ w4) hy hK hg hml (Steps.refl _) (a := b) (argsL := argsL) (rest := rest) (fun sg q => by cases pd.symm.trans q; exact hlen) hst (Nat.le_of_eq hW) hd (fun _ _ => ⟨has, eT, hc, hs⟩)
  dsimp only [Pt.U, Pt.locs, Pt.cells, Pt.slots] at X' e1 e2 e3 hQ st
  subst e1 e2 e3
  exact W.via st (k v T' _ L X' rfl hQ)
/-- a constructor by its contract -/
theorem W.callI (X : Stand p l e R s m args below meth c T locs cells slots) (hx : p.tables.exec = Jvm.exec) (hZ : Z.Warmed39 s.vm) (hown : s.vm.findClass own = some m.cls) (hml : g.locals.size = c.maxLocals)
    (w1 : (Jvm.Cond.methodLink own index y).before a0 Z = true) (w2 : (Jvm.Cond.instanceMethod y).before a0 Z = true) (w3 : (Jvm.Cond.initialized y.cls).before a0 Z = true) (w4 : (Jvm.Cond.code y bytes maxL none).before a0 Z = true) (eT : T.heap = h)
    (hM : Ctr l Z y bytes maxL none rm as' h Q) (hn : y.name = "<init>") (hy : y.cls ≠ "java/lang/invoke/MethodHandle" ∧ y.cls ≠ "java/lang/invoke/VarHandle") (pd : parseMethodDescriptor y.desc = some sig) (hg : g.method = m) {b : Addr} (has : (Value.ref b :: argsL).toArray = as') (hlen : argsL.length = sig.parameters.length)
    (hst : g.stack = argsL.reverse ++ .ref b :: rest) (hd : decode c.code g.pc = .ok (.invokespecial index, 3)) (hW : 2 * g.monitorRoom + (rest.map fun v => v.category).sum = W0) (hf : rm.frames + 1 ≤ R.frames) (hl : W0 + (maxL + 11) + rm.locals ≤ R.locals) (hc : cells + rm.cells ≤ R.cells) (hs : slots + rm.slots ≤ R.slots)
    (k : ∀ v T' h' L, Stand p l e R s m args below meth c T' (locs ++ L) (cells + rm.cells) (slots + rm.slots) → T'.heap = h' → Q v h' L → W p e below F (T'.setTop { g with pc := g.pc + 3, stack := v.toList ++ rest })) : W p e below F (T.setTop g) := by
  obtain ⟨v, _, ⟨T', L', k', n'⟩, -, X', ⟨L, hQ, e1, e2, e3⟩, st⟩ := X.specialBack hx hn hown (mvT hZ w1) (mvT hZ w2) (mvT hZ w4) hy (hM.back hZ w4 w3 hf hl) hg hml (Steps.refl _) (a := b) (argsL := argsL) (rest := rest) (fun sg q => by cases pd.symm.trans q; exact hlen) hst (Nat.le_of_eq hW) hd (fun _ _ => ⟨has, eT, hc, hs⟩)
  dsimp only [Pt.U, Pt.locs, Pt.cells, Pt.slots] at X' e1 e2 e3 hQ st
  subst e1 e2 e3
  exact W.via st (k v T' _ L X' rfl hQ)
/-- an instance method, whoever pays it -/
theorem W.callVK {kc ks : Nat} {C : String} (X : Stand p l e R s m args below meth c T locs cells slots) (hx : p.tables.exec = Jvm.exec) (hZ : Z.Warmed39 s.vm) (hown : s.vm.findClass own = some m.cls) (hml : g.locals.size = c.maxLocals)
    (w1 : (Jvm.Cond.methodLink own index y0).before a0 Z = true) (w5 : (Jvm.Cond.declares y0).before a0 Z = true) (w6 : (Jvm.Cond.selects C y0 y).before a0 Z = true) (w2 : (Jvm.Cond.instanceMethod y).before a0 Z = true) (eT : T.heap = h)
    (hK : Back l R p e below s args y 3 W0 (fun A a => a = as' ∧ A.U.heap = h ∧ A.cells + kc ≤ R.cells ∧ A.slots + ks ≤ R.slots) (fun A _ v B => ∃ L, Q v B.U.heap L ∧ B.locs = A.locs ++ L ∧ B.cells = A.cells + kc ∧ B.slots = A.slots + ks)) (hnf : NotFace s y0) (hy : y0.cls ≠ "java/lang/invoke/MethodHandle" ∧ y0.cls ≠ "java/lang/invoke/VarHandle") (pd : parseMethodDescriptor y0.desc = some sig) (hg : g.method = m) {b : Addr} (E : Exa Z h b C) (has : (Value.ref b :: argsL).toArray = as') (hlen : argsL.length = sig.parameters.length)
    (hst : g.stack = argsL.reverse ++ .ref b :: rest) (hd : decode c.code g.pc = .ok (.invokevirtual index, 3)) (hW : 2 * g.monitorRoom + (rest.map fun v => v.category).sum = W0) (hc : cells + kc ≤ R.cells) (hs : slots + ks ≤ R.slots)
    (k : ∀ v T' h' L, Stand p l e R s m args below meth c T' (locs ++ L) (cells + kc) (slots + ks) → T'.heap = h' → Q v h' L → W p e below F (T'.setTop { g with pc := g.pc + 3, stack := v.toList ++ rest })) : W p e below F (T.setTop g) := by
  obtain ⟨cq, kq, qa, qb, qc⟩ := isOf hZ eT E
  obtain ⟨v, _, ⟨T', L', k', n'⟩, -, X', ⟨L, hQ, e1, e2, e3⟩, st⟩ := X.virtualBack hx hown (mvT hZ w1) (mvT hZ w5) hnf (mvT hZ w6) (mvT hZ w2) hy hK qa qc hg hml (Steps.refl _) (argsL := argsL) (rest := rest) (fun sg q => by cases pd.symm.trans q; exact hlen) hst (Nat.le_of_eq hW) hd (fun _ _ => ⟨has, eT, hc, hs⟩)
  dsimp only [Pt.U, Pt.locs, Pt.cells, Pt.slots] at X' e1 e2 e3 hQ st
  subst e1 e2 e3
  exact W.via st (k v T' _ L X' rfl hQ)
/-- an instance method by its contract -/
theorem W.callV {C : String} (X : Stand p l e R s m args below meth c T locs cells slots) (hx : p.tables.exec = Jvm.exec) (hZ : Z.Warmed39 s.vm) (hown : s.vm.findClass own = some m.cls) (hml : g.locals.size = c.maxLocals)
    (w1 : (Jvm.Cond.methodLink own index y0).before a0 Z = true) (w5 : (Jvm.Cond.declares y0).before a0 Z = true) (w6 : (Jvm.Cond.selects C y0 y).before a0 Z = true) (w2 : (Jvm.Cond.instanceMethod y).before a0 Z = true) (w3 : (Jvm.Cond.initialized y.cls).before a0 Z = true) (w4 : (Jvm.Cond.code y bytes maxL ret).before a0 Z = true) (eT : T.heap = h)
    (hM : Ctr l Z y bytes maxL ret rm as' h Q) (hnf : NotFace s y0) (hy : y0.cls ≠ "java/lang/invoke/MethodHandle" ∧ y0.cls ≠ "java/lang/invoke/VarHandle") (pd : parseMethodDescriptor y0.desc = some sig) (hg : g.method = m) {b : Addr} (E : Exa Z h b C) (has : (Value.ref b :: argsL).toArray = as') (hlen : argsL.length = sig.parameters.length)
    (hst : g.stack = argsL.reverse ++ .ref b :: rest) (hd : decode c.code g.pc = .ok (.invokevirtual index, 3)) (hW : 2 * g.monitorRoom + (rest.map fun v => v.category).sum = W0) (hf : rm.frames + 1 ≤ R.frames) (hl : W0 + (maxL + 11) + rm.locals ≤ R.locals) (hc : cells + rm.cells ≤ R.cells) (hs : slots + rm.slots ≤ R.slots)
    (k : ∀ v T' h' L, Stand p l e R s m args below meth c T' (locs ++ L) (cells + rm.cells) (slots + rm.slots) → T'.heap = h' → Q v h' L → W p e below F (T'.setTop { g with pc := g.pc + 3, stack := v.toList ++ rest })) : W p e below F (T.setTop g) := by
  obtain ⟨cq, kq, qa, qb, qc⟩ := isOf hZ eT E
  obtain ⟨v, _, ⟨T', L', k', n'⟩, -, X', ⟨L, hQ, e1, e2, e3⟩, st⟩ := X.virtualBack hx hown (mvT hZ w1) (mvT hZ w5) hnf (mvT hZ w6) (mvT hZ w2) hy (hM.back hZ w4 w3 hf hl) qa qc hg hml (Steps.refl _) (argsL := argsL) (rest := rest) (fun sg q => by cases pd.symm.trans q; exact hlen) hst (Nat.le_of_eq hW) hd (fun _ _ => ⟨has, eT, hc, hs⟩)
  dsimp only [Pt.U, Pt.locs, Pt.cells, Pt.slots] at X' e1 e2 e3 hQ st
  subst e1 e2 e3
  exact W.via st (k v T' _ L X' rfl hQ)
/-- the same, the method declared further up -/
theorem W.callU {C owner : String} (X : Stand p l e R s m args below meth c T locs cells slots) (hx : p.tables.exec = Jvm.exec) (hZ : Z.Warmed39 s.vm) (hown : s.vm.findClass own = some m.cls) (hml : g.locals.size = c.maxLocals)
    (w1 : (Jvm.Cond.methodLink own index y0).before a0 Z = true) (w7 : (Jvm.Cond.sameMethod y0.cls owner y0.name y0.desc).before a0 Z = true) (w5 : (Jvm.Cond.declares ⟨owner, y0.name, y0.desc⟩).before a0 Z = true) (w6 : (Jvm.Cond.selects C y0 y).before a0 Z = true) (w2 : (Jvm.Cond.instanceMethod y).before a0 Z = true) (w3 : (Jvm.Cond.initialized y.cls).before a0 Z = true) (w4 : (Jvm.Cond.code y bytes maxL ret).before a0 Z = true) (eT : T.heap = h)
    (hM : Ctr l Z y bytes maxL ret rm as' h Q) (hy : owner ≠ "java/lang/invoke/MethodHandle" ∧ owner ≠ "java/lang/invoke/VarHandle") (pd : parseMethodDescriptor y0.desc = some sig) (hg : g.method = m) {b : Addr} (E : Exa Z h b C) (has : (Value.ref b :: argsL).toArray = as') (hlen : argsL.length = sig.parameters.length)
    (hst : g.stack = argsL.reverse ++ .ref b :: rest) (hd : decode c.code g.pc = .ok (.invokevirtual index, 3)) (hW : 2 * g.monitorRoom + (rest.map fun v => v.category).sum = W0) (hf : rm.frames + 1 ≤ R.frames) (hl : W0 + (maxL + 11) + rm.locals ≤ R.locals) (hc : cells + rm.cells ≤ R.cells) (hs : slots + rm.slots ≤ R.slots)
    (k : ∀ v T' h' L, Stand p l e R s m args below meth c T' (locs ++ L) (cells + rm.cells) (slots + rm.slots) → T'.heap = h' → Q v h' L → W p e below F (T'.setTop { g with pc := g.pc + 3, stack := v.toList ++ rest })) : W p e below F (T.setTop g) := by
  obtain ⟨cq, kq, qa, qb, qc⟩ := isOf hZ eT E
  obtain ⟨v, _, ⟨T', L', k', n'⟩, -, X', ⟨L, hQ, e1, e2, e3⟩, st⟩ := X.virtualBackUp hx hown (mvT hZ w1) (mvT hZ w7) (mvT hZ w5) hy (mvT hZ w6) (mvT hZ w2) (hM.back hZ w4 w3 hf hl) qa qc hg hml (Steps.refl _) (argsL := argsL) (rest := rest) (fun sg q => by cases pd.symm.trans q; exact hlen) hst (Nat.le_of_eq hW) hd (fun _ _ => ⟨has, eT, hc, hs⟩)
  dsimp only [Pt.U, Pt.locs, Pt.cells, Pt.slots] at X' e1 e2 e3 hQ st
  subst e1 e2 e3
  exact W.via st (k v T' _ L X' rfl hQ)
/-- a method that lands in a default of an interface -/
theorem W.callD {C owner : String} (X : Stand p l e R s m args below meth c T locs cells slots) (hx : p.tables.exec = Jvm.exec) (hZ : Z.Warmed39 s.vm) (hown : s.vm.findClass own = some m.cls) (hml : g.locals.size = c.maxLocals)
    (w1 : (Jvm.Cond.methodLink own index y0).before a0 Z = true) (w7 : (Jvm.Cond.sameMethod y0.cls owner y0.name y0.desc).before a0 Z = true) (w5 : (Jvm.Cond.declares ⟨owner, y0.name, y0.desc⟩).before a0 Z = true) (w6 : (Jvm.Cond.landsInDefault C y0 y).before a0 Z = true) (w2 : (Jvm.Cond.instanceMethod y).before a0 Z = true) (w3 : (Jvm.Cond.initialized y.cls).before a0 Z = true) (w4 : (Jvm.Cond.code y bytes maxL ret).before a0 Z = true) (eT : T.heap = h)
    (hM : Ctr l Z y bytes maxL ret rm as' h Q) (hy : owner ≠ "java/lang/invoke/MethodHandle" ∧ owner ≠ "java/lang/invoke/VarHandle") (pd : parseMethodDescriptor y0.desc = some sig) (hg : g.method = m) {b : Addr} (E : Exa Z h b C) (has : (Value.ref b :: argsL).toArray = as') (hlen : argsL.length = sig.parameters.length)
    (hst : g.stack = argsL.reverse ++ .ref b :: rest) (hd : decode c.code g.pc = .ok (.invokevirtual index, 3)) (hW : 2 * g.monitorRoom + (rest.map fun v => v.category).sum = W0) (hf : rm.frames + 1 ≤ R.frames) (hl : W0 + (maxL + 11) + rm.locals ≤ R.locals) (hc : cells + rm.cells ≤ R.cells) (hs : slots + rm.slots ≤ R.slots)
    (k : ∀ v T' h' L, Stand p l e R s m args below meth c T' (locs ++ L) (cells + rm.cells) (slots + rm.slots) → T'.heap = h' → Q v h' L → W p e below F (T'.setTop { g with pc := g.pc + 3, stack := v.toList ++ rest })) : W p e below F (T.setTop g) := by
  obtain ⟨cq, kq, qa, qb, qc⟩ := isOf hZ eT E
  obtain ⟨v, _, ⟨T', L', k', n'⟩, -, X', ⟨L, hQ, e1, e2, e3⟩, st⟩ := X.virtualBackUpD hx hown (mvT hZ w1) (mvT hZ w7) (mvT hZ w5) hy (mvD hZ w6) (mvT hZ w2) (hM.back hZ w4 w3 hf hl) qa qc hg hml (Steps.refl _) (argsL := argsL) (rest := rest) (fun sg q => by cases pd.symm.trans q; exact hlen) hst (Nat.le_of_eq hW) hd (fun _ _ => ⟨has, eT, hc, hs⟩)
  dsimp only [Pt.U, Pt.locs, Pt.cells, Pt.slots] at X' e1 e2 e3 hQ st
  subst e1 e2 e3
  exact W.via st (k v T' _ L X' rfl hQ)
/-- a method that lands in a default of an interface -/
theorem W.callDC {C owner : String} (X : Stand p l e R s m args below meth c T locs cells slots) (hx : p.tables.exec = Jvm.exec) (hZ : Z.Warmed39 s.vm) (hown : s.vm.findClass own = some m.cls) (hml : g.locals.size = c.maxLocals)
    (w1 : (Jvm.Cond.methodLink own index y0).before a0 Z = true) (w7 : (Jvm.Cond.sameMethod y0.cls owner y0.name y0.desc).before a0 Z = true) (w5 : (Jvm.Cond.declares ⟨owner, y0.name, y0.desc⟩).before a0 Z = true) (w6 : (Jvm.Cond.landsInDefault C y0 y).before a0 Z = true) (w2 : (Jvm.Cond.instanceMethod y).before a0 Z = true) (w4 : (Jvm.Cond.code y bytes maxL ret).before a0 Z = true) (eT : T.heap = h)
    (hM : CtrC l Z y bytes maxL ret rm as' h Q) (hy : owner ≠ "java/lang/invoke/MethodHandle" ∧ owner ≠ "java/lang/invoke/VarHandle") (pd : parseMethodDescriptor y0.desc = some sig) (hg : g.method = m) {b : Addr} (E : Exa Z h b C) (has : (Value.ref b :: argsL).toArray = as') (hlen : argsL.length = sig.parameters.length)
    (hst : g.stack = argsL.reverse ++ .ref b :: rest) (hd : decode c.code g.pc = .ok (.invokevirtual index, 3)) (hW : 2 * g.monitorRoom + (rest.map fun v => v.category).sum = W0) (hf : rm.frames + 1 ≤ R.frames) (hl : W0 + (maxL + 11) + rm.locals ≤ R.locals) (hc : cells + rm.cells ≤ R.cells) (hs : slots + rm.slots ≤ R.slots)
    (k : ∀ v T' h' L, Stand p l e R s m args below meth c T' (locs ++ L) (cells + rm.cells) (slots + rm.slots) → T'.heap = h' → Q v h' L → W p e below F (T'.setTop { g with pc := g.pc + 3, stack := v.toList ++ rest })) : W p e below F (T.setTop g) := by
  obtain ⟨cq, kq, qa, qb, qc⟩ := isOf hZ eT E
  obtain ⟨v, _, ⟨T', L', k', n'⟩, -, X', ⟨L, hQ, e1, e2, e3⟩, st⟩ := X.virtualBackUpD hx hown (mvT hZ w1) (mvT hZ w7) (mvT hZ w5) hy (mvD hZ w6) (mvT hZ w2) (hM.back hx hZ w4 hf hl) qa qc hg hml (Steps.refl _) (argsL := argsL) (rest := rest) (fun sg q => by cases pd.symm.trans q; exact hlen) hst (Nat.le_of_eq hW) hd (fun _ _ => ⟨has, eT, hc, hs⟩)
  dsimp only [Pt.U, Pt.locs, Pt.cells, Pt.slots] at X' e1 e2 e3 hQ st
  subst e1 e2 e3
  exact W.via st (k v T' _ L X' rfl hQ)
/-- a call through an interface -/
theorem W.callF {C : String} {count : Nat} (X : Stand p l e R s m args below meth c T locs cells slots) (hx : p.tables.exec = Jvm.exec) (hZ : Z.Warmed39 s.vm) (hown : s.vm.findClass own = some m.cls) (hml : g.locals.size = c.maxLocals)
    (w1 : (Jvm.Cond.methodLink own index y0).before a0 Z = true) (w5 : (Jvm.Cond.declares y0).before a0 Z = true) (w7 : (Jvm.Cond.interfaceMethod y0.cls y0.cls y0.name y0.desc).before args s = true) (w6 : (Jvm.Cond.selects C y0 y).before a0 Z = true) (w2 : (Jvm.Cond.instanceMethod y).before a0 Z = true) (w8 : (Jvm.Cond.publicMethod y).before a0 Z = true) (w9 : (Jvm.Cond.unhidden C y0.name y0.desc).before a0 Z = true) (w10 : (Jvm.Cond.castable C y0.cls).before a0 Z = true) (w3 : (Jvm.Cond.initialized y.cls).before a0 Z = true) (w4 : (Jvm.Cond.code y bytes maxL ret).before a0 Z = true) (eT : T.heap = h)
    (hM : Ctr l Z y bytes maxL ret rm as' h Q) (hy : y0.cls ≠ "java/lang/invoke/MethodHandle" ∧ y0.cls ≠ "java/lang/invoke/VarHandle") (pd : parseMethodDescriptor y0.desc = some sig) (hg : g.method = m) {b : Addr} (E : Exa Z h b C) (has : (Value.ref b :: argsL).toArray = as') (hlen : argsL.length = sig.parameters.length)
    (hst : g.stack = argsL.reverse ++ .ref b :: rest) (hd : decode c.code g.pc = .ok (.invokeinterface index count, 5)) (hW : 2 * g.monitorRoom + (rest.map fun v => v.category).sum = W0) (hf : rm.frames + 1 ≤ R.frames) (hl : W0 + (maxL + 11) + rm.locals ≤ R.locals) (hc : cells + rm.cells ≤ R.cells) (hs : slots + rm.slots ≤ R.slots)
    (k : ∀ v T' h' L, Stand p l e R s m args below meth c T' (locs ++ L) (cells + rm.cells) (slots + rm.slots) → T'.heap = h' → Q v h' L → W p e below F (T'.setTop { g with pc := g.pc + 5, stack := v.toList ++ rest })) : W p e below F (T.setTop g) := by
  obtain ⟨cq, kq, qa, qb, qc⟩ := isOf hZ eT E
  obtain ⟨v, _, ⟨T', L', k', n'⟩, -, X', ⟨L, hQ, e1, e2, e3⟩, st⟩ := X.interfaceBack hx hown (mvT hZ w1) (mvT hZ w5) w7 (mvT hZ w6) (mvT hZ w2) (mvT hZ w8) (mvT hZ w9) (mvT hZ w10) hy (hM.back hZ w4 w3 hf hl) qa qb qc hg hml (Steps.refl _) (argsL := argsL) (rest := rest) (fun sg q => by cases pd.symm.trans q; exact hlen) hst (Nat.le_of_eq hW) hd (fun _ _ => ⟨has, eT, hc, hs⟩)
  dsimp only [Pt.U, Pt.locs, Pt.cells, Pt.slots] at X' e1 e2 e3 hQ st
  subst e1 e2 e3
  exact W.via st (k v T' _ L X' rfl hQ)
/-- super.m(..) -/
theorem W.callSup {K : String} (X : Stand p l e R s m args below meth c T locs cells slots) (hx : p.tables.exec = Jvm.exec) (hZ : Z.Warmed39 s.vm) (hown : s.vm.findClass own = some m.cls) (hml : g.locals.size = c.maxLocals)
    (w1 : (Jvm.Cond.methodLink own index y).before a0 Z = true) (w5 : (Jvm.Cond.sameMethod y.cls y.cls y.name y.desc).before a0 Z = true) (w2 : (Jvm.Cond.instanceMethod y).before a0 Z = true) (w6 : (Jvm.Cond.superclass own y.cls).before a0 Z = true) (w3 : (Jvm.Cond.initialized y.cls).before a0 Z = true) (w4 : (Jvm.Cond.code y bytes maxL ret).before a0 Z = true) (eT : T.heap = h)
    (hM : Ctr l Z y bytes maxL ret rm as' h Q) (hn : y.name ≠ "<init>") (pd : parseMethodDescriptor y.desc = some sig) (hg : g.method = m) {b : Addr} (E : Exa Z h b K) (has : (Value.ref b :: argsL).toArray = as') (hlen : argsL.length = sig.parameters.length)
    (hst : g.stack = argsL.reverse ++ .ref b :: rest) (hd : decode c.code g.pc = .ok (.invokespecial index, 3)) (hW : 2 * g.monitorRoom + (rest.map fun v => v.category).sum = W0) (hf : rm.frames + 1 ≤ R.frames) (hl : W0 + (maxL + 11) + rm.locals ≤ R.locals) (hc : cells + rm.cells ≤ R.cells) (hs : slots + rm.slots ≤ R.slots)
    (k : ∀ v T' h' L, Stand p l e R s m args below meth c T' (locs ++ L) (cells + rm.cells) (slots + rm.slots) → T'.heap = h' → Q v h' L → W p e below F (T'.setTop { g with pc := g.pc + 3, stack := v.toList ++ rest })) : W p e below F (T.setTop g) := by
  obtain ⟨v, _, ⟨T', L', k', n'⟩, -, X', ⟨L, hQ, e1, e2, e3⟩, st⟩ := superBack X hx hZ hown w1 w5 w2 w6 hn (hM.back hZ w4 w3 hf hl) eT (Ins.self E) hg hml w4 (argsL := argsL) (rest := rest) (fun sg q => by cases pd.symm.trans q; exact hlen) hst (Nat.le_of_eq hW) hd (fun _ _ => ⟨has, eT, hc, hs⟩)
  dsimp only [Pt.U, Pt.locs, Pt.cells, Pt.slots] at X' e1 e2 e3 hQ st
  subst e1 e2 e3
  exact W.via st (k v T' _ L X' rfl hQ)
theorem nfOf {C : String} {x z : MethodName} (w6 : (Jvm.Cond.selects C x z).before args s = true) (hz : z.cls = y.cls) : NotFace s y := fun r0 h0 => by
  obtain ⟨c1, r1, m1, -, -, hm, -, kP, hkP, hni⟩ := Cond.selects_spec w6
  have hc := findClass_of_methodNamed h0
  have hc2 := findClass_of_methodNamed hm
  rw [hz] at hc2
  have q : r0.cls = m1.cls := Option.some.inj (hc.symm.trans hc2)
  exact ⟨kP, by rw [q]; exact hkP, hni⟩
/-- a class that declares a method finds it; that she is no interface is read off a 'selects' word that ends in her -/
theorem sameDecl {C : String} {x z : MethodName} (w5 : (Jvm.Cond.declares y).before a0 Z = true) (w6 : (Jvm.Cond.selects C x z).before a0 Z = true) (hz : z.cls = y.cls) (hy : y.cls ≠ "java/lang/invoke/MethodHandle" ∧ y.cls ≠ "java/lang/invoke/VarHandle") : (Jvm.Cond.sameMethod y.cls y.cls y.name y.desc).before a0 Z = true := by
  obtain ⟨r0, r, hn, hrm, -, -⟩ := Cond.declares_spec w5
  have hf : Z.methodFound? y.cls y.name y.desc = some r0 := State.methodFound?_of_named hn hy
  have hc := findClass_of_methodNamed hn
  obtain ⟨c1, r1, m1, -, -, hm, -, kP, hkP, hni⟩ := Cond.selects_spec w6
  have hc2 := findClass_of_methodNamed hm
  rw [hz] at hc2
  have q : r0.cls = m1.cls := Option.some.inj (hc.symm.trans hc2)
  have hn' : Z.methodNamed? ⟨y.cls, y.name, y.desc⟩ = some r0 := hn
  have hk : Z.vm.classes[r0.cls]? = some kP := by rw [q]; exact hkP
  simp [Jvm.Cond.before, Jvm.Cond.holds, Jvm.Cond.value, hc, hf, hn', hk, hni]
/-- a private method by its contract -/
theorem W.callP (X : Stand p l e R s m args below meth c T locs cells slots) (hx : p.tables.exec = Jvm.exec) (hZ : Z.Warmed39 s.vm) (hown : s.vm.findClass own = some m.cls) (hml : g.locals.size = c.maxLocals)
    (w1 : (Jvm.Cond.methodLink own index y).before a0 Z = true) (w5 : (Jvm.Cond.privateMethod y).before a0 Z = true) (w6 : (Jvm.Cond.selects y.cls y y).before args s = true) (w2 : (Jvm.Cond.instanceMethod y).before a0 Z = true) (w3 : (Jvm.Cond.initialized y.cls).before a0 Z = true) (w4 : (Jvm.Cond.code y bytes maxL ret).before a0 Z = true) (eT : T.heap = h)
    (hM : Ctr l Z y bytes maxL ret rm as' h Q) (hy : y.cls ≠ "java/lang/invoke/MethodHandle" ∧ y.cls ≠ "java/lang/invoke/VarHandle") (pd : parseMethodDescriptor y.desc = some sig) (hg : g.method = m) {b : Addr} {C : String} (E : Exa Z h b C) (has : (Value.ref b :: argsL).toArray = as') (hlen : argsL.length = sig.parameters.length)
    (hst : g.stack = argsL.reverse ++ .ref b :: rest) (hd : decode c.code g.pc = .ok (.invokevirtual index, 3)) (hW : 2 * g.monitorRoom + (rest.map fun v => v.category).sum = W0) (hf : rm.frames + 1 ≤ R.frames) (hl : W0 + (maxL + 11) + rm.locals ≤ R.locals) (hc : cells + rm.cells ≤ R.cells) (hs : slots + rm.slots ≤ R.slots)
    (k : ∀ v T' h' L, Stand p l e R s m args below meth c T' (locs ++ L) (cells + rm.cells) (slots + rm.slots) → T'.heap = h' → Q v h' L → W p e below F (T'.setTop { g with pc := g.pc + 3, stack := v.toList ++ rest })) : W p e below F (T.setTop g) := by
  obtain ⟨cq, q1, q2⟩ := E.cell
  obtain ⟨v, _, ⟨T', L', k', n'⟩, -, X', ⟨L, hQ, e1, e2, e3⟩, st⟩ := X.privateBack hx hown (mvT hZ w1) (mvT hZ w2) w6 (Cond.privateMethod_at (mvP hZ w5 (args := #[]))) (mvT hZ w4) hy (hM.back hZ w4 w3 hf hl) hg hml (Steps.refl _) (a := b) (by rw [eT]; exact q1) q2 (argsL := argsL) (rest := rest) (fun sg q => by cases pd.symm.trans q; exact hlen) hst (Nat.le_of_eq hW) hd (fun _ _ => ⟨has, eT, hc, hs⟩)
  dsimp only [Pt.U, Pt.locs, Pt.cells, Pt.slots] at X' e1 e2 e3 hQ st
  subst e1 e2 e3
  exact W.via st (k v T' _ L X' rfl hQ)
/-- 'selects' of a private method -/
theorem selPriv {n : Nat} (hZ : Z.Warmed39 s.vm) (wi : (Jvm.Cond.instantiable y.cls n).before a0 Z = true) (w5 : (Jvm.Cond.privateMethod y).before a0 Z = true) (w2 : (Jvm.Cond.instanceMethod y).before a0 Z = true) (hy : y.cls ≠ "java/lang/invoke/MethodHandle" ∧ y.cls ≠ "java/lang/invoke/VarHandle") : (Jvm.Cond.selects y.cls y y).before args s = true := by
  obtain ⟨c2, k2, i1, i2, -, i4, -⟩ := Cond.instantiable_spec (mvT (args := args) hZ wi)
  exact selects_self_of_private i1 i2 (Bool.or_eq_false_iff.mp i4).1 (Cond.privateMethod_at (mvP hZ w5 (args := #[]))) (mvT hZ w2) hy
/-- the same, with the class that is no interface read off a 'selects' word that ends in her -/
theorem selPriv2 {C : String} {x z : MethodName} (hZ : Z.Warmed39 s.vm) (w6 : (Jvm.Cond.selects C x z).before a0 Z = true) (hz : z.cls = y.cls) (w5 : (Jvm.Cond.privateMethod y).before a0 Z = true) (w2 : (Jvm.Cond.instanceMethod y).before a0 Z = true) (hy : y.cls ≠ "java/lang/invoke/MethodHandle" ∧ y.cls ≠ "java/lang/invoke/VarHandle") : (Jvm.Cond.selects y.cls y y).before args s = true := by
  obtain ⟨c1, r1, m1, -, -, hm, -, kP, hkP, hni⟩ := Cond.selects_spec (mvT (args := args) hZ w6)
  exact selects_self_of_private (by rw [← hz]; exact findClass_of_methodNamed hm) hkP hni (Cond.privateMethod_at (mvP hZ w5 (args := #[]))) (mvT hZ w2) hy
end Calls
theorem Sta.keep {h' : Heap} {C n d : String} {v : Value} {ws : List Addr} (F : Sta Z h C n d v) (K : Keep h h' ws) (hw : ∀ x ∈ ws, ∀ cell : Cell, h[x]? = some cell → cell.vm.isStatics = false) : Sta Z h' C n d v := by
  obtain ⟨cf, i, k, f, st, cell, h1, h2, h3, h4, h5, h6, h7⟩ := F
  refine ⟨cf, i, k, f, st, cell, h1, h2, h3, h4, K.2.1 st cell h5 fun hm => ?_, h6, h7⟩
  rw [hw st hm cell h5] at h6; cases h6
theorem eqI_v {t : Term} {k : Int32} {first : State} {o : Option Outcome} {idx : List Nat} (hk : (Jvm.Cond.eq t (.int k)).value args first o s idx = some true) : t.eval args first o idx s = some (.int k) := by
  simp only [Jvm.Cond.value, Term.eval] at hk
  cases ht : t.eval args first o idx s with
  | none => simp [ht] at hk
  | some x => cases x <;> simp [ht] at hk ⊢; exact hk
theorem lenI_v {t : Term} {a : Addr} {cl : Cell} {ty : FieldType} {k : Int32} (A : Arr s s.heap a cl ty) (ev : t.eval args s none [] s = some (.ref a)) (hk : (Jvm.Cond.eq (.length t) (.int k)).value args s none s [] = some true) : cl.slots.size < 2 ^ 31 ∧ cl.slots.size.toInt32 = k := by
  have q := eqI_v hk
  have r : s.arrayAt? a = some cl := A.fin (Vm.Alike.refl _)
  simp only [Term.eval, ev, r, Option.bind_eq_bind, Option.bind_some] at q
  split at q
  · rename_i z; cases q; exact ⟨z, rfl⟩
  · cases q
theorem rngM (x n : Int32) (hn : 0 < n.toInt) : 0 ≤ ((x &&& 2147483647) % n).toInt ∧ ((x &&& 2147483647) % n).toInt < n.toInt := by
  have q := c_mask x 2147483647 31 (by decide) (by decide)
  have q0 : 0 ≤ (x &&& 2147483647).toInt := by rw [q]; exact Int.emod_nonneg _ (by decide)
  have r := (c_iremV (x &&& 2147483647) n).1 q0 hn
  exact ⟨r.1, r.2.1⟩
end Own
end Jvm.OwnKit
namespace Jvm.OwnKit
open Sem ClassFile Op Lib Jvm.Stand Jvm.Free Jvm.LawKit Jvm.RoadKit
section Wide
variable {p : Program} {l : Launch} {e : Env} {R : Room} {s : State} {m : MethodId} {args : Array Value} {below : List Frame} {meth : Method} {c : Code} {T : State} {locs : List Loc} {cells slots : Nat} {Z : State} {a0 : Array Value} {h : Heap} {vm : Vm} {EL : List (String × Nat)}
def FinW (Z : State) (EL : List (String × Nat)) (s : State) (Q : Option Value → Heap → List Loc → Prop) (rc rs : Nat) (o : Outcome) (U : State) : Prop := ∃ v L, o = .returned v ∧ Q v U.heap L ∧ CHr Z EL s.vm s.heap U.vm U.heap ∧ ReturnedEndW s o U L rc rs
/-- a contract of a body that may resolve String constants -/
def CtrW (l : Launch) (Z : State) (EL : List (String × Nat)) (y : MethodName) (bytes : ByteArray) (maxL : Nat) (ret : Option FieldType) (rm : Room) (as' : Array Value) (h0 : Heap) (Q : Option Value → Heap → List Loc → Prop) : Prop :=
  ∀ ws : List Jvm.Cond, MetFree l y (head1 (Jvm.Cond.code y bytes maxL ret :: ws) rm) (fun a U => a = as' ∧ Z.Warmed39 U.vm ∧ U.heap = h0 ∧ CHv Z EL U.vm h0) (fun _ _ _ _ _ => True) (fun _ U o U' => FinW Z EL U Q rm.cells rm.slots o U')
theorem CtrW.body {y : MethodName} {bytes : ByteArray} {maxL : Nat} {ret : Option FieldType} {rm : Room} {as' : Array Value} {h0 : Heap} {Q : Option Value → Heap → List Loc → Prop} {fr : MethodId → JFrame} (hpl : plainFor y = true) (hef : ∀ m, entryFrame m as' maxL = fr m)
    (body : ∀ (p : Program) (e : Env) (s : State) (m : MethodId) (below : List Frame) (meth : Method) (c : Code) (s₁ : State) (vm0 : Vm), p.tables.exec = Jvm.exec → c.code = bytes → c.maxLocals = maxL → Z.Warmed39 vm0 → vm0.findClass y.cls = some m.cls → meth.name = y.name → meth.sig.returnType = ret → meth.locks = false →
      Stand p l e rm (s.setVm vm0) m as' below meth c s₁ [] 0 0 → s₁.heap = h0 → s.Since vm0 0 → CHr Z EL s.vm s.heap vm0 h0 → W p e below (FinW Z EL s Q rm.cells rm.slots) (s₁.setTop (fr m))) : CtrW l Z EL y bytes maxL ret rm as' h0 Q := by
  intro ws
  refine MetFree.of_bodySF hpl hisR ?_
  intro p e s m args below meth c s₁ Bd hml0 hP hK
  obtain ⟨rfl, hZ, hh, H⟩ := hP
  have r := body p e s m below meth c s₁ s.vm Bd.exec Bd.bytes hml0 hZ (findClass_of_methodNamed Bd.named) (name_of_methodNamed Bd.named Bd.method).1 Bd.returns Bd.notSynchronized (Stand.of_body Bd) (by rw [← hh, Bd.state]; rfl) ((State.WarmedH.refl s).since 0) (by rw [← hh] at H ⊢; exact CHr.refl H)
  rw [← hef] at r
  exact r
section Ret
variable {Q : Option Value → Heap → List Loc → Prop} {rc rs k0 : Nat}
theorem W.finW (X : Stand p l e R (s.setVm vm) m args below meth c T locs cells slots) (hlk : meth.locks = false) {v : Option Value} (hv : meth.sig.returnType = none → v = none) {g : JFrame}
    (st : ∀ fs, (∀ (f : JFrame) (acts : List Action), f.method = m → f.locked = none → f.entered = [] → (doReturn e (T.setTop f) acts v).1 = T.setFrames fs) → Steps p.tables e below (T.setTop g) (T.setFrames fs))
    (hS : s.Since vm k0) (hk : k0 ≤ h.size) (hZ : Z.Warmed39 vm) (hEL : EW Z a0 EL) (RC : CHr Z EL s.vm s.heap vm h) (hc : cells ≤ rc) (hs : slots ≤ rs) (eT : T.heap = h) (hQ : Q v h locs) : W p e below (FinW Z EL s Q rc rs) (T.setTop g) := by
  subst eT
  obtain ⟨fs, hr, hrun, hended, hW⟩ := X.leaveW hS hk hv hlk
  refine ⟨_, _, st fs hr, hrun, hended, _, _, rfl, hQ, RC.trans (show CHr Z EL vm T.heap T.vm T.heap from CHv.at X hZ hEL RC.1), hW.1, hW.2.1, hW.2.2.1, hW.2.2.2.mono hc hs⟩
theorem W.retBW (X : Stand p l e R (s.setVm vm) m args below meth c T locs cells slots) (hx : p.tables.exec = Jvm.exec) (hlk : meth.locks = false) {t : FieldType} (hret : meth.sig.returnType = some t) (ht : t = .boolean ∨ t = .byte ∨ t = .char ∨ t = .short) {pc : Nat} {Ls : Array Slot} {z : Int32} {rest : List Value} (hd : decode c.code pc = .ok (.ireturn, 1))
    (hS : s.Since vm k0) (hk : k0 ≤ h.size) (hZ : Z.Warmed39 vm) (hEL : EW Z a0 EL) (RC : CHr Z EL s.vm s.heap vm h) (hc : cells ≤ rc) (hs : slots ≤ rs) (eT : T.heap = h) (hQ : Q (some (.int (nar t z))) h locs) : W p e below (FinW Z EL s Q rc rs) (T.setTop (mkF m pc Ls (.int z :: rest))) :=
  W.finW X hlk (fun h => by rw [hret] at h; cases h) (fun fs hr => retN X hx hret ht hd hr) hS hk hZ hEL RC hc hs eT hQ
theorem W.retVW (X : Stand p l e R (s.setVm vm) m args below meth c T locs cells slots) (hx : p.tables.exec = Jvm.exec) (hlk : meth.locks = false) (hret : meth.sig.returnType = none) {pc : Nat} {Ls : Array Slot} (hd : decode c.code pc = .ok (.return_, 1))
    (hS : s.Since vm k0) (hk : k0 ≤ h.size) (hZ : Z.Warmed39 vm) (hEL : EW Z a0 EL) (RC : CHr Z EL s.vm s.heap vm h) (hc : cells ≤ rc) (hs : slots ≤ rs) (eT : T.heap = h) (hQ : Q none h locs) : W p e below (FinW Z EL s Q rc rs) (T.setTop (mkF m pc Ls [])) :=
  W.finW X hlk (fun _ => rfl) (fun fs hr => X.returnOut hx hret hd hr) hS hk hZ hEL RC hc hs eT hQ
theorem W.retAW (X : Stand p l e R (s.setVm vm) m args below meth c T locs cells slots) (hx : p.tables.exec = Jvm.exec) (hlk : meth.locks = false) {t : FieldType} (hret : meth.sig.returnType = some t) (ht : t.isReference = true) {pc : Nat} {Ls : Array Slot} {w : Value} (hw : w.isRef = true) {rest : List Value} (hd : decode c.code pc = .ok (.areturn, 1))
    (hS : s.Since vm k0) (hk : k0 ≤ h.size) (hZ : Z.Warmed39 vm) (hEL : EW Z a0 EL) (RC : CHr Z EL s.vm s.heap vm h) (hc : cells ≤ rc) (hs : slots ≤ rs) (eT : T.heap = h) (hQ : Q (some w) h locs) : W p e below (FinW Z EL s Q rc rs) (T.setTop (mkF m pc Ls (w :: rest))) := by
  refine W.finW X hlk (fun h => by rw [hret] at h; cases h) (fun fs hr => ?_) hS hk hZ hEL RC hc hs eT hQ
  have hm' : T.vm.method? m = some meth := X.method'
  rcases ref_cases hw with rfl | ⟨z, rfl⟩
  all_goals
    show Steps p.tables e below (T.setTop { method := m, pc := pc, locals := Ls, stack := _ :: rest, locked := none }) _
    jvm_step X.here [X.here.top, hx, hd, hm', hret, ht, Value.isRef]
    first | (intro acts; rw [hr _ acts rfl rfl rfl]) | rw [hr _ _ rfl rfl rfl]
    exact Steps.refl _
end Ret
end Wide
end Jvm.OwnKit
namespace Jvm.Pilot.@@N@@
open Jvm Jvm.ClassFile Sem Op Lib Jvm.Free Jvm.Stand Jvm.LawKit Jvm.RoadKit Bundle Jvm.OwnKit Jvm.Pilot.@@N@@.Jvm.D
theorem own_shr0 (n : Int32) : (n >>> ((0 : Int32) &&& 31)) = n := by
  have q := c_ishr n 0 0 (by decide)
  exact Int32.toInt_inj.mp (by rw [q]; simp)
theorem own_shl0 (n : Int32) : (n <<< ((0 : Int32) &&& 31)) = n := by
  rw [show ((0 : Int32) &&& 31) = 0 from by decide]; simp
theorem own_lo255 (x : Int32) : nar .char ((x &&& (255 : Int32)).toUInt32.toUInt16.toUInt32.toInt32) = x &&& 255 := by simp only [nar, i2c_mask]
theorem own_lo8 (c : Int32) (h : ¬ c < 0 ∧ ¬ (255 : Int32) < c) : (c.toInt8.toInt32 &&& 255) = c := by
  have q := c_mask (c.toInt8.toInt32) 255 8 (by decide) (by decide)
  have r := (c_i2b c).1
  have e0 : (0 : Int32).toInt = 0 := rfl
  have e1 : (255 : Int32).toInt = 255 := rfl
  rw [Int32.lt_iff_toInt_lt, Int32.lt_iff_toInt_lt, e0, e1] at h
  exact Int32.toInt_inj.mp (by rw [q]; omega)
theorem own_app {Z : State} {h h' : Heap} {a : Addr} {k : ClassId} {n i b : Int32} {cl : Cell} {vs : List Value} (hl : i.toInt = vs.length) (A : Arr Z h a cl .byte) (q : cl.cls = k) (S : cl.slots.size = n.toNatClampNeg) (N : ¬ n < 0) (H : Has cl vs (.int 0)) (G : ∀ i, i < cl.slots.size → fits .byte (vs.getD i (.int 0)) = true) (hf : fits .byte (.int b) = true) (W : Wr h h' a i.toNatClampNeg (.int b)) :
    Arv Z h' a k .byte n (vs ++ [.int b]) (.int 0) := by
  have hl' : vs.length = i.toNatClampNeg := by simp only [Int32.toNatClampNeg]; omega
  have P : Arv Z h a k .byte n (vs ++ [.int 0]) (.int 0) := Arv.pad ⟨cl, A, q, S, N, H, G⟩ (pad_rep vs (.int 0) 1)
  obtain ⟨cl2, A2, q2, S2, N2, H2, G2⟩ := P
  have r := Arv.set A2 q2 S2 N2 H2 G2 (v := .int b) hf W vs.length hl'.symm (by simp)
  have e : (vs ++ [Value.int 0]).set vs.length (.int b) = vs ++ [.int b] := by simp
  rwa [e] at r
theorem own_inapp {i n : Int32} {k : Nat} (hl : i.toInt = k) (h : i.toInt < n.toInt) : ¬ i < 0 ∧ i < n := by
  simp only [Int32.lt_iff_toInt_lt, Int32.reduceToInt]; omega
theorem own_len {i : Int32} {vs : List Value} {v : Value} (hl : i.toInt = vs.length) (hb : i.toInt < 100000) : (i + (1 : Int32)).toInt = (vs ++ [v]).length := by
  have c1 := c_iadd i 1
  have r1 := rng32 (i + 1)
  have e1 : (1 : Int32).toInt = 1 := rfl
  rw [List.length_append, List.length_singleton]; omega
theorem own_z0 : (0 : Int32).toNatClampNeg = 0 := by decide
theorem own_take {vs : List Value} {dv : Value} {n : Nat} (h : vs.length = n) : (List.range n).map (fun i => vs.getD ((0 : Int32).toNatClampNeg + i) dv) = vs := by
  rw [own_z0]
  subst h
  apply List.ext_getElem
  · simp
  · intro i h1 h2
    simp at h1
    simp [List.getD_eq_getElem?_getD, h1]
theorem own_sa : ∀ a ∈ Bundle.stringAtoms, a ∈ tables_1 := by decide +kernel
abbrev EL : List (String × Nat) := consts_1
theorem own_EW (Z : State) (a0 : Array Value) (hw : ∀ d ∈ tables_1, d.before a0 Z = true) : EW Z a0 EL := by
  unfold EL consts_1
  exact (EW.cons (hw _ (List.mem_of_getElem? (i := 31) rfl)) (by decide) (EW.cons (hw _ (List.mem_of_getElem? (i := 37) rfl)) (by decide) (EW.cons (hw _ (List.mem_of_getElem? (i := 193) rfl)) (by decide) (EW.cons (hw _ (List.mem_of_getElem? (i := 194) rfl)) (by decide) (EW.cons (hw _ (List.mem_of_getElem? (i := 195) rfl)) (by decide) (EW.cons (hw _ (List.mem_of_getElem? (i := 201) rfl)) (by decide) (EW.cons (hw _ (List.mem_of_getElem? (i := 191) rfl)) (by decide) (EW.cons (hw _ (List.mem_of_getElem? (i := 196) rfl)) (by decide) (EW.cons (hw _ (List.mem_of_getElem? (i := 192) rfl)) (by decide) (EW.cons (hw _ (List.mem_of_getElem? (i := 197) rfl)) (by decide) (EW.cons (hw _ (List.mem_of_getElem? (i := 198) rfl)) (by decide) (EW.cons (hw _ (List.mem_of_getElem? (i := 200) rfl)) (by decide) (EW.cons (hw _ (List.mem_of_getElem? (i := 199) rfl)) (by decide) EW.nil)))))))))))))
theorem d4_0 : decode jdk_68_method_2_code 0 = .ok (.aload_n 0, 1) := by decide +kernel
theorem d4_1 : decode jdk_68_method_2_code 1 = .ok (.invokespecial 3, 3) := by decide +kernel
theorem d4_4 : decode jdk_68_method_2_code 4 = .ok (.getstatic 18, 3) := by decide +kernel
theorem d4_7 : decode jdk_68_method_2_code 7 = .ok (.ifCond .eq 18, 3) := by decide +kernel
theorem d4_10 : decode jdk_68_method_2_code 10 = .ok (.aload_n 0, 1) := by decide +kernel
theorem d4_11 : decode jdk_68_method_2_code 11 = .ok (.iload_n 1, 1) := by decide +kernel
theorem d4_12 : decode jdk_68_method_2_code 12 = .ok (.newarray .byte, 2) := by decide +kernel
theorem d4_14 : decode jdk_68_method_2_code 14 = .ok (.putfield 15, 3) := by decide +kernel
theorem d4_17 : decode jdk_68_method_2_code 17 = .ok (.aload_n 0, 1) := by decide +kernel
theorem d4_18 : decode jdk_68_method_2_code 18 = .ok (.iconst 0, 1) := by decide +kernel
theorem d4_19 : decode jdk_68_method_2_code 19 = .ok (.putfield 22, 3) := by decide +kernel
theorem d4_22 : decode jdk_68_method_2_code 22 = .ok (.goto 16, 3) := by decide +kernel
theorem d4_38 : decode jdk_68_method_2_code 38 = .ok (.return_, 1) := by decide +kernel
theorem pn_java_lang_AbstractStringBuilder : plainName "java/lang/AbstractStringBuilder" = true := by first | (simp [plainName, overriddenIn]; done) | decide +kernel
def Q_rm4 (Z : State) (r0 : Addr) (zCS : Int32) (h0 : Heap) (n0 : Nat) (v : Option Value) (h : Heap) (L : List Loc) : Prop := v = none ∧ Fr n0 L ∧ Keep h0 h [r0] ∧ Exa Z h r0 "java/lang/StringBuilder" ∧ ∃ (t : Addr) (kt : ClassId), h0.size ≤ t ∧ Fld Z h r0 "java/lang/AbstractStringBuilder" "value" "[B" (.ref t) ∧ Fld Z h r0 "java/lang/AbstractStringBuilder" "coder" "B" (.int (0 : Int32)) ∧ Fld Z h r0 "java/lang/AbstractStringBuilder" "count" "I" (.int (0 : Int32)) ∧ Arv Z h t kt .byte (1024 : Int32) [] (.int (0 : Int32))
set_option maxRecDepth 65536 in
set_option maxHeartbeats 40000000 in
theorem rm4 (l : Launch) (Z : State) (a0 : Array Value) (hw : ∀ d ∈ tables_1, d.before a0 Z = true) (r0 : Addr) (zCS : Int32) (h0 : Heap) (n0 : Nat) (Z0 : n0 ≤ h0.size) (E_r0 : Exa Z h0 r0 "java/lang/StringBuilder") (F_value_r0 : Fld Z h0 r0 "java/lang/AbstractStringBuilder" "value" "[B" .null) (F_coder_r0 : Fld Z h0 r0 "java/lang/AbstractStringBuilder" "coder" "B" (.int (0 : Int32))) (F_count_r0 : Fld Z h0 r0 "java/lang/AbstractStringBuilder" "count" "I" (.int (0 : Int32))) (g_r0 : n0 ≤ r0) (S_COMPACT_STRINGS : Sta Z h0 "java/lang/String" "COMPACT_STRINGS" "Z" (.int zCS)) (hCS : ¬ zCS = 0) :
    Ctr l Z (⟨"java/lang/AbstractStringBuilder", "<init>", "(I)V"⟩ : MethodName) jdk_68_method_2_code 2 none ({ frames := 1, cells := 1, slots := 1024, locals := 12 } : Room) #[(.ref r0), (.int (1024 : Int32))] h0 (Q_rm4 Z r0 zCS h0 n0) := by
  refine Ctr.body (fr := fun m => mkF m 0 #[.val (.ref r0), .val (.int (1024 : Int32))] []) (plainFor_of_name pn_java_lang_AbstractStringBuilder) (fun m => by first | (simp [entryFrame, mkF, argsToLocals, Value.category]; done) | rfl) fun p e s m below meth c s₁ hx hby hml hZ hown hnm hret hlk X0 e0 => ?_
  have N0 := Fr.nil n0
  have hown : s.vm.findClass "java/lang/AbstractStringBuilder" = some m.cls := hown
  have KC : Keep h0 h0 [r0] := Keep.refl _ _
  show W p e below _ (s₁.setTop (mkF m 0 #[.val (.ref r0), .val (.int (1024 : Int32))] []))
  refine W.go (fun _ hr => XS.aloadN X0.here hx rfl (hb hby d4_0) rfl rfl hr) ?_
  show W p e below _ (s₁.setTop (mkF m 1 #[.val (.ref r0), .val (.int (1024 : Int32))] [(.ref r0)]))
  obtain ⟨T1, X1, e1, st1⟩ := initO X0 hx hZ hown (hw _ (List.mem_of_getElem? (i := 21) rfl)) (hw _ (List.mem_of_getElem? (i := 7) rfl)) (hw _ (List.mem_of_getElem? (i := 8) rfl)) e0 (g := (mkF m 1 #[.val (.ref r0), .val (.int (1024 : Int32))] [(.ref r0)])) rfl (by rw [hml]; rfl) rfl (hb hby d4_1) (by decide) (W := 0) (by show 2 * 0 + _ ≤ _; exact Nat.le_of_eq rfl) (by decide)
  refine W.go st1 ?_
  show W p e below _ (T1.setTop (mkF m 4 #[.val (.ref r0), .val (.int (1024 : Int32))] []))
  obtain ⟨T2, X2, e2, st2⟩ := getS2 X1 hx hZ hown (host := "") (Or.inl (hw _ (List.mem_of_getElem? (i := 22) rfl))) Via.refl e1 S_COMPACT_STRINGS (g := (mkF m 4 #[.val (.ref r0), .val (.int (1024 : Int32))] [])) rfl (hb hby d4_4)
  refine W.go st2 ?_
  show W p e below _ (T2.setTop (mkF m 7 #[.val (.ref r0), .val (.int (1024 : Int32))] [(.int zCS)]))
  refine W.go (fun _ hr => XS.ifNo X2.here hx rfl (hb hby d4_7) rfl ((if0 _ _).trans (feq hCS).1) hr) ?_
  show W p e below _ (T2.setTop (mkF m 10 #[.val (.ref r0), .val (.int (1024 : Int32))] []))
  refine W.go (fun _ hr => XS.aloadN X2.here hx rfl (hb hby d4_10) rfl rfl hr) ?_
  show W p e below _ (T2.setTop (mkF m 11 #[.val (.ref r0), .val (.int (1024 : Int32))] [(.ref r0)]))
  refine W.go (fun _ hr => XS.iloadN X2.here hx rfl (hb hby d4_11) rfl hr) ?_
  show W p e below _ (T2.setTop (mkF m 12 #[.val (.ref r0), .val (.int (1024 : Int32))] [(.int (1024 : Int32)), (.ref r0)]))
  obtain ⟨T3, h3, k3, X3, e3, E3, A3, E_b3, st3⟩ := newPE X2 hx hZ (hw _ (List.mem_of_getElem? (i := 24) rfl)) e2 (g := (mkF m 12 #[.val (.ref r0), .val (.int (1024 : Int32))] [(.int (1024 : Int32)), (.ref r0)])) rfl (hb hby d4_12) rfl (by decide) (cap := 1024) (by decide) (by decide) (by decide) (by decide) (ad := "[B") (by decide)
  obtain ⟨b3, g3⟩ : ∃ z, z = h0.size := ⟨_, rfl⟩
  rw [← g3] at A3 E_b3 st3
  have ne_r0_b3 : r0 ≠ b3 := Nat.ne_of_lt (Nat.lt_of_lt_of_le E_r0.lt (Nat.le_of_eq g3.symm))
  have g_b3 : n0 ≤ b3 := Nat.le_trans Z0 (Nat.le_of_eq g3.symm)
  have sz_b3 : h0.size ≤ b3 := Nat.le_trans KC.1 (Nat.le_of_eq g3.symm)
  replace S_COMPACT_STRINGS := Sta.ext E3 S_COMPACT_STRINGS
  replace E_r0 := E_r0.ext E3
  replace F_value_r0 := F_value_r0.ext E3
  replace F_coder_r0 := F_coder_r0.ext E3
  replace F_count_r0 := F_count_r0.ext E3
  have Z4 : n0 ≤ h3.size := Nat.le_trans Z0 E3.1
  replace KC := KC.ext E3
  have V_b3 : Arv Z h3 b3 k3 .byte (1024 : Int32) [] (.int (0 : Int32)) := Arv.new A3 (by decide)
  refine W.go st3 ?_
  show W p e below _ (T3.setTop (mkF m 14 #[.val (.ref r0), .val (.int (1024 : Int32))] [(.ref b3), (.ref r0)]))
  obtain ⟨T5, h5, X5, e5, W5, st5⟩ := putF X3 hx hZ hown (host := "") (Or.inl (hw _ (List.mem_of_getElem? (i := 25) rfl))) Via.refl e3 F_value_r0 E_r0 (Or.inl (hw _ (List.mem_of_getElem? (i := 26) rfl))) (hw _ (List.mem_of_getElem? (i := 10) rfl)) (ty := (.array .byte)) (by decide) rfl rfl (g := (mkF m 14 #[.val (.ref r0), .val (.int (1024 : Int32))] [(.ref b3), (.ref r0)])) rfl rfl (hb hby d4_14)
  refine W.go st5 ?_
  replace S_COMPACT_STRINGS := Sta.wr W5 S_COMPACT_STRINGS
  replace E_r0 := E_r0.wr W5
  replace F_value_r0 := F_value_r0.same W5
  replace F_coder_r0 := F_coder_r0.other W5 (Or.inr (slot_ne (Or.inl (hw _ (List.mem_of_getElem? (i := 28) rfl))) (Or.inl (hw _ (List.mem_of_getElem? (i := 26) rfl))) (by decide) (t := .byte) (t' := (.array .byte)) (by decide) (by decide)))
  replace F_count_r0 := F_count_r0.other W5 (Or.inr (slot_ne (Or.inl (hw _ (List.mem_of_getElem? (i := 54) rfl))) (Or.inl (hw _ (List.mem_of_getElem? (i := 26) rfl))) (by decide) (t := .int) (t' := (.array .byte)) (by decide) (by decide)))
  replace E_b3 := E_b3.wr W5
  replace V_b3 := V_b3.other W5 (Ne.symm ne_r0_b3)
  have Z6 : n0 ≤ h5.size := Nat.le_trans Z4 (Keep.of_wr W5).1
  replace KC := KC.wr W5 (Or.inl (List.mem_of_getElem? (i := 0) rfl))
  have N5 := Fr.snoc X5 N0 g_r0
  show W p e below _ (T5.setTop (mkF m 17 #[.val (.ref r0), .val (.int (1024 : Int32))] []))
  refine W.go (fun _ hr => XS.aloadN X5.here hx rfl (hb hby d4_17) rfl rfl hr) ?_
  show W p e below _ (T5.setTop (mkF m 18 #[.val (.ref r0), .val (.int (1024 : Int32))] [(.ref r0)]))
  refine W.go (fun _ hr => XS.iconst X5.here hx rfl (hb hby d4_18) hr) ?_
  show W p e below _ (T5.setTop (mkF m 19 #[.val (.ref r0), .val (.int (1024 : Int32))] [(.int (0 : Int32)), (.ref r0)]))
  obtain ⟨T7, h7, X7, e7, W7, st7⟩ := putFN X5 hx hZ hown (hw _ (List.mem_of_getElem? (i := 27) rfl)) Via.refl e5 F_coder_r0 E_r0 (Or.inl (hw _ (List.mem_of_getElem? (i := 28) rfl))) (hw _ (List.mem_of_getElem? (i := 10) rfl)) (ty := .byte) (v' := (.int (0 : Int32))) (by decide) rfl (by decide) (g := (mkF m 19 #[.val (.ref r0), .val (.int (1024 : Int32))] [(.int (0 : Int32)), (.ref r0)])) rfl rfl (hb hby d4_19)
  refine W.go st7 ?_
  replace S_COMPACT_STRINGS := Sta.wr W7 S_COMPACT_STRINGS
  replace E_r0 := E_r0.wr W7
  replace F_value_r0 := F_value_r0.other W7 (Or.inr (slot_ne (Or.inl (hw _ (List.mem_of_getElem? (i := 26) rfl))) (Or.inl (hw _ (List.mem_of_getElem? (i := 28) rfl))) (by decide) (t := (.array .byte)) (t' := .byte) (by decide) (by decide)))
  replace F_coder_r0 := F_coder_r0.same W7
  replace F_count_r0 := F_count_r0.other W7 (Or.inr (slot_ne (Or.inl (hw _ (List.mem_of_getElem? (i := 54) rfl))) (Or.inl (hw _ (List.mem_of_getElem? (i := 28) rfl))) (by decide) (t := .int) (t' := .byte) (by decide) (by decide)))
  replace E_b3 := E_b3.wr W7
  replace V_b3 := V_b3.other W7 (Ne.symm ne_r0_b3)
  have Z8 : n0 ≤ h7.size := Nat.le_trans Z6 (Keep.of_wr W7).1
  replace KC := KC.wr W7 (Or.inl (List.mem_of_getElem? (i := 0) rfl))
  have N7 := Fr.snoc X7 N5 g_r0
  show W p e below _ (T7.setTop (mkF m 22 #[.val (.ref r0), .val (.int (1024 : Int32))] []))
  refine W.go (fun _ hr => XS.goto X7.here hx rfl (pc0 := 22) (pc' := 38) rfl (hb hby d4_22) (by decide) (by decide) hr) ?_
  show W p e below _ (T7.setTop (mkF m 38 #[.val (.ref r0), .val (.int (1024 : Int32))] []))
  exact W.retV X7 hx hlk hret (hb hby d4_38) (by decide) (by decide) e7 ⟨rfl, N7, KC, E_r0, _, _, sz_b3, F_value_r0, F_coder_r0, F_count_r0, V_b3⟩
theorem d3_0 : decode jdk_67_method_2_code 0 = .ok (.aload_n 0, 1) := by decide +kernel
theorem d3_1 : decode jdk_67_method_2_code 1 = .ok (.iload_n 1, 1) := by decide +kernel
theorem d3_2 : decode jdk_67_method_2_code 2 = .ok (.invokespecial 1, 3) := by decide +kernel
theorem pd_17 : parseMethodDescriptor "(I)V" = some ⟨[.int], none⟩ := by decide +kernel
theorem d3_5 : decode jdk_67_method_2_code 5 = .ok (.return_, 1) := by decide +kernel
theorem pn_java_lang_StringBuilder : plainName "java/lang/StringBuilder" = true := by first | (simp [plainName, overriddenIn]; done) | decide +kernel
def Q_rm3 (Z : State) (r0 : Addr) (zCS : Int32) (h0 : Heap) (n0 : Nat) (v : Option Value) (h : Heap) (L : List Loc) : Prop := v = none ∧ Fr n0 L ∧ Keep h0 h [r0] ∧ Exa Z h r0 "java/lang/StringBuilder" ∧ ∃ (t : Addr) (kt : ClassId), h0.size ≤ t ∧ Fld Z h r0 "java/lang/AbstractStringBuilder" "value" "[B" (.ref t) ∧ Fld Z h r0 "java/lang/AbstractStringBuilder" "coder" "B" (.int (0 : Int32)) ∧ Fld Z h r0 "java/lang/AbstractStringBuilder" "count" "I" (.int (0 : Int32)) ∧ Arv Z h t kt .byte (1024 : Int32) [] (.int (0 : Int32))
set_option maxRecDepth 65536 in
set_option maxHeartbeats 40000000 in
theorem rm3 (l : Launch) (Z : State) (a0 : Array Value) (hw : ∀ d ∈ tables_1, d.before a0 Z = true) (r0 : Addr) (zCS : Int32) (h0 : Heap) (n0 : Nat) (Z0 : n0 ≤ h0.size) (E_r0 : Exa Z h0 r0 "java/lang/StringBuilder") (F_value_r0 : Fld Z h0 r0 "java/lang/AbstractStringBuilder" "value" "[B" .null) (F_coder_r0 : Fld Z h0 r0 "java/lang/AbstractStringBuilder" "coder" "B" (.int (0 : Int32))) (F_count_r0 : Fld Z h0 r0 "java/lang/AbstractStringBuilder" "count" "I" (.int (0 : Int32))) (g_r0 : n0 ≤ r0) (S_COMPACT_STRINGS : Sta Z h0 "java/lang/String" "COMPACT_STRINGS" "Z" (.int zCS)) (hCS : ¬ zCS = 0) :
    Ctr l Z (⟨"java/lang/StringBuilder", "<init>", "(I)V"⟩ : MethodName) jdk_67_method_2_code 2 none ({ frames := 2, cells := 1, slots := 1024, locals := 25 } : Room) #[(.ref r0), (.int (1024 : Int32))] h0 (Q_rm3 Z r0 zCS h0 n0) := by
  refine Ctr.body (fr := fun m => mkF m 0 #[.val (.ref r0), .val (.int (1024 : Int32))] []) (plainFor_of_name pn_java_lang_StringBuilder) (fun m => by first | (simp [entryFrame, mkF, argsToLocals, Value.category]; done) | rfl) fun p e s m below meth c s₁ hx hby hml hZ hown hnm hret hlk X0 e0 => ?_
  have N0 := Fr.nil n0
  have hown : s.vm.findClass "java/lang/StringBuilder" = some m.cls := hown
  have KC : Keep h0 h0 [r0] := Keep.refl _ _
  show W p e below _ (s₁.setTop (mkF m 0 #[.val (.ref r0), .val (.int (1024 : Int32))] []))
  refine W.go (fun _ hr => XS.aloadN X0.here hx rfl (hb hby d3_0) rfl rfl hr) ?_
  show W p e below _ (s₁.setTop (mkF m 1 #[.val (.ref r0), .val (.int (1024 : Int32))] [(.ref r0)]))
  refine W.go (fun _ hr => XS.iloadN X0.here hx rfl (hb hby d3_1) rfl hr) ?_
  show W p e below _ (s₁.setTop (mkF m 2 #[.val (.ref r0), .val (.int (1024 : Int32))] [(.int (1024 : Int32)), (.ref r0)]))
  refine W.callI X0 hx hZ hown (g := (mkF m 2 #[.val (.ref r0), .val (.int (1024 : Int32))] [(.int (1024 : Int32)), (.ref r0)])) (by rw [hml]; rfl) (hw _ (List.mem_of_getElem? (i := 15) rfl)) (hw _ (List.mem_of_getElem? (i := 16) rfl)) (hw _ (List.mem_of_getElem? (i := 19) rfl)) (hw _ (List.mem_of_getElem? (i := 20) rfl)) e0 (rm4 l Z a0 hw r0 zCS h0 n0 Z0 E_r0 F_value_r0 F_coder_r0 F_count_r0 g_r0 S_COMPACT_STRINGS hCS) rfl (by decide) pd_17 rfl (b := r0) (argsL := [(.int (1024 : Int32))]) (rest := []) rfl rfl rfl (hb hby d3_2) (W0 := 0) rfl (by decide) (by decide) (by decide) (by decide) (fun v1 T1 h1 L1 X1 e1 hQ1 => ?_)
  obtain ⟨rfl, N1q, K1, Ee1, t1, kt1, st1, Fv1, Fc1, Fn1, V_t1⟩ := hQ1
  have N1 := Fr.app N0 N1q
  have ne_r0_t1 : r0 ≠ t1 := Nat.ne_of_lt (Nat.lt_of_lt_of_le E_r0.lt st1)
  have g_t1 : n0 ≤ t1 := Nat.le_trans Z0 st1
  have sz_t1 : h0.size ≤ t1 := Nat.le_trans KC.1 st1
  have nsK1 := (nsS E_r0.nostat ns0)
  replace S_COMPACT_STRINGS := Sta.keep S_COMPACT_STRINGS K1 nsK1
  replace E_r0 := E_r0.keep K1
  have Z2 : n0 ≤ h1.size := Nat.le_trans Z0 K1.1
  replace KC := KC.trans K1 (allS (Or.inl (List.mem_of_getElem? (i := 0) rfl)) all0)
  show W p e below _ (T1.setTop (mkF m 5 #[.val (.ref r0), .val (.int (1024 : Int32))] []))
  exact W.retV X1 hx hlk hret (hb hby d3_5) (by decide) (by decide) e1 ⟨rfl, N1, KC, E_r0, _, _, sz_t1, Fv1, Fc1, Fn1, V_t1⟩
theorem d15_0 : decode jdk_68_method_64_code 0 = .ok (.aload_n 0, 1) := by decide +kernel
theorem d15_1 : decode jdk_68_method_64_code 1 = .ok (.getfield 15, 3) := by decide +kernel
theorem d15_4 : decode jdk_68_method_64_code 4 = .ok (.areturn, 1) := by decide +kernel
def Q_rm15 (Z : State) (r0 : Addr) (t : Addr) (h0 : Heap) (n0 : Nat) (v : Option Value) (h : Heap) (L : List Loc) : Prop := v = some (.ref t) ∧ Fr n0 L ∧ h = h0
set_option maxRecDepth 65536 in
set_option maxHeartbeats 40000000 in
theorem rm15 (l : Launch) (Z : State) (a0 : Array Value) (hw : ∀ d ∈ tables_1, d.before a0 Z = true) (r0 : Addr) (t : Addr) (h0 : Heap) (n0 : Nat) (Z0 : n0 ≤ h0.size) (F_value_r0 : Fld Z h0 r0 "java/lang/AbstractStringBuilder" "value" "[B" (.ref t)) :
    Ctr l Z (⟨"java/lang/AbstractStringBuilder", "getValue", "()[B"⟩ : MethodName) jdk_68_method_64_code 1 (some (.array .byte)) ({ frames := 0, cells := 0, slots := 0, locals := 0 } : Room) #[(.ref r0)] h0 (Q_rm15 Z r0 t h0 n0) := by
  refine Ctr.body (fr := fun m => mkF m 0 #[.val (.ref r0)] []) (plainFor_of_name pn_java_lang_AbstractStringBuilder) (fun m => by first | (simp [entryFrame, mkF, argsToLocals, Value.category]; done) | rfl) fun p e s m below meth c s₁ hx hby hml hZ hown hnm hret hlk X0 e0 => ?_
  have N0 := Fr.nil n0
  have hown : s.vm.findClass "java/lang/AbstractStringBuilder" = some m.cls := hown
  show W p e below _ (s₁.setTop (mkF m 0 #[.val (.ref r0)] []))
  refine W.go (fun _ hr => XS.aloadN X0.here hx rfl (hb hby d15_0) rfl rfl hr) ?_
  show W p e below _ (s₁.setTop (mkF m 1 #[.val (.ref r0)] [(.ref r0)]))
  obtain ⟨T1, X1, e1, st1⟩ := getF X0 hx hZ hown (host := "") (Or.inl (hw _ (List.mem_of_getElem? (i := 25) rfl))) Via.refl e0 F_value_r0 (g := (mkF m 1 #[.val (.ref r0)] [(.ref r0)])) rfl rfl (hb hby d15_1)
  refine W.go st1 ?_
  show W p e below _ (T1.setTop (mkF m 4 #[.val (.ref r0)] [(.ref t)]))
  exact W.retA X1 hx hlk hret rfl rfl (hb hby d15_4) (by decide) (by decide) e1 ⟨rfl, N0, rfl⟩
theorem d17_0 : decode jdk_68_method_6_code 0 = .ok (.aload_n 0, 1) := by decide +kernel
theorem d17_1 : decode jdk_68_method_6_code 1 = .ok (.getfield 79, 3) := by decide +kernel
theorem d17_4 : decode jdk_68_method_6_code 4 = .ok (.ireturn, 1) := by decide +kernel
def Q_rm17 (Z : State) (r0 : Addr) (cn : Int32) (h0 : Heap) (n0 : Nat) (v : Option Value) (h : Heap) (L : List Loc) : Prop := v = some (.int cn) ∧ Fr n0 L ∧ h = h0
set_option maxRecDepth 65536 in
set_option maxHeartbeats 40000000 in
theorem rm17 (l : Launch) (Z : State) (a0 : Array Value) (hw : ∀ d ∈ tables_1, d.before a0 Z = true) (r0 : Addr) (cn : Int32) (h0 : Heap) (n0 : Nat) (Z0 : n0 ≤ h0.size) (F_count_r0 : Fld Z h0 r0 "java/lang/AbstractStringBuilder" "count" "I" (.int cn)) :
    Ctr l Z (⟨"java/lang/AbstractStringBuilder", "length", "()I"⟩ : MethodName) jdk_68_method_6_code 1 (some .int) ({ frames := 0, cells := 0, slots := 0, locals := 0 } : Room) #[(.ref r0)] h0 (Q_rm17 Z r0 cn h0 n0) := by
  refine Ctr.body (fr := fun m => mkF m 0 #[.val (.ref r0)] []) (plainFor_of_name pn_java_lang_AbstractStringBuilder) (fun m => by first | (simp [entryFrame, mkF, argsToLocals, Value.category]; done) | rfl) fun p e s m below meth c s₁ hx hby hml hZ hown hnm hret hlk X0 e0 => ?_
  have N0 := Fr.nil n0
  have hown : s.vm.findClass "java/lang/AbstractStringBuilder" = some m.cls := hown
  show W p e below _ (s₁.setTop (mkF m 0 #[.val (.ref r0)] []))
  refine W.go (fun _ hr => XS.aloadN X0.here hx rfl (hb hby d17_0) rfl rfl hr) ?_
  show W p e below _ (s₁.setTop (mkF m 1 #[.val (.ref r0)] [(.ref r0)]))
  obtain ⟨T1, X1, e1, st1⟩ := getF X0 hx hZ hown (host := "") (Or.inl (hw _ (List.mem_of_getElem? (i := 53) rfl))) Via.refl e0 F_count_r0 (g := (mkF m 1 #[.val (.ref r0)] [(.ref r0)])) rfl rfl (hb hby d17_1)
  refine W.go st1 ?_
  show W p e below _ (T1.setTop (mkF m 4 #[.val (.ref r0)] [(.int cn)]))
  exact W.retI X1 hx hlk hret (hb hby d17_4) (by decide) (by decide) e1 ⟨rfl, N0, rfl⟩
theorem d16_0 : decode jdk_67_method_93_code 0 = .ok (.aload_n 0, 1) := by decide +kernel
theorem d16_1 : decode jdk_67_method_93_code 1 = .ok (.invokespecial 343, 3) := by decide +kernel
theorem pd_28 : parseMethodDescriptor "()I" = some ⟨[], some .int⟩ := by decide +kernel
theorem d16_4 : decode jdk_67_method_93_code 4 = .ok (.ireturn, 1) := by decide +kernel
def Q_rm16 (Z : State) (r0 : Addr) (cn : Int32) (h0 : Heap) (n0 : Nat) (v : Option Value) (h : Heap) (L : List Loc) : Prop := v = some (.int cn) ∧ Fr n0 L ∧ h = h0
set_option maxRecDepth 65536 in
set_option maxHeartbeats 40000000 in
theorem rm16 (l : Launch) (Z : State) (a0 : Array Value) (hw : ∀ d ∈ tables_1, d.before a0 Z = true) (r0 : Addr) (cn : Int32) (h0 : Heap) (n0 : Nat) (Z0 : n0 ≤ h0.size) (E_r0 : Exa Z h0 r0 "java/lang/StringBuilder") (F_count_r0 : Fld Z h0 r0 "java/lang/AbstractStringBuilder" "count" "I" (.int cn)) :
    Ctr l Z (⟨"java/lang/StringBuilder", "length", "()I"⟩ : MethodName) jdk_67_method_93_code 1 (some .int) ({ frames := 1, cells := 0, slots := 0, locals := 12 } : Room) #[(.ref r0)] h0 (Q_rm16 Z r0 cn h0 n0) := by
  refine Ctr.body (fr := fun m => mkF m 0 #[.val (.ref r0)] []) (plainFor_of_name pn_java_lang_StringBuilder) (fun m => by first | (simp [entryFrame, mkF, argsToLocals, Value.category]; done) | rfl) fun p e s m below meth c s₁ hx hby hml hZ hown hnm hret hlk X0 e0 => ?_
  have N0 := Fr.nil n0
  have hown : s.vm.findClass "java/lang/StringBuilder" = some m.cls := hown
  show W p e below _ (s₁.setTop (mkF m 0 #[.val (.ref r0)] []))
  refine W.go (fun _ hr => XS.aloadN X0.here hx rfl (hb hby d16_0) rfl rfl hr) ?_
  show W p e below _ (s₁.setTop (mkF m 1 #[.val (.ref r0)] [(.ref r0)]))
  refine W.callSup X0 hx hZ hown (g := (mkF m 1 #[.val (.ref r0)] [(.ref r0)])) (by rw [hml]; rfl) (hw _ (List.mem_of_getElem? (i := 99) rfl)) (sameDecl (hw _ (List.mem_of_getElem? (i := 94) rfl)) (hw _ (List.mem_of_getElem? (i := 58) rfl)) rfl (by decide)) (hw _ (List.mem_of_getElem? (i := 95) rfl)) (hw _ (List.mem_of_getElem? (i := 50) rfl)) (hw _ (List.mem_of_getElem? (i := 19) rfl)) (hw _ (List.mem_of_getElem? (i := 100) rfl)) e0 (rm17 l Z a0 hw r0 cn h0 n0 Z0 F_count_r0) (by decide) pd_28 rfl E_r0 (argsL := []) (rest := []) rfl rfl rfl (hb hby d16_1) (W0 := 0) rfl (by decide) (by decide) (by decide) (by decide) (fun v1 T1 h1 L1 X1 e1 hQ1 => ?_)
  obtain ⟨rfl, N1q, hh1⟩ := hQ1
  obtain rfl := hh1.symm
  have N1 := Fr.app N0 N1q
  show W p e below _ (T1.setTop (mkF m 4 #[.val (.ref r0)] [(.int cn)]))
  exact W.retI X1 hx hlk hret (hb hby d16_4) (by decide) (by decide) e1 ⟨rfl, N1, rfl⟩
theorem d9_0 : decode jdk_68_method_68_code 0 = .ok (.getstatic 18, 3) := by decide +kernel
theorem d9_3 : decode jdk_68_method_68_code 3 = .ok (.ifCond .eq 14, 3) := by decide +kernel
theorem d9_6 : decode jdk_68_method_68_code 6 = .ok (.aload_n 0, 1) := by decide +kernel
theorem d9_7 : decode jdk_68_method_68_code 7 = .ok (.getfield 22, 3) := by decide +kernel
theorem d9_10 : decode jdk_68_method_68_code 10 = .ok (.ifCond .ne 7, 3) := by decide +kernel
theorem d9_13 : decode jdk_68_method_68_code 13 = .ok (.iconst 1, 1) := by decide +kernel
theorem d9_14 : decode jdk_68_method_68_code 14 = .ok (.goto 4, 3) := by decide +kernel
theorem d9_18 : decode jdk_68_method_68_code 18 = .ok (.ireturn, 1) := by decide +kernel
def Q_rm9 (Z : State) (r0 : Addr) (zCS : Int32) (h0 : Heap) (n0 : Nat) (v : Option Value) (h : Heap) (L : List Loc) : Prop := v = some (.int (1 : Int32)) ∧ Fr n0 L ∧ h = h0
set_option maxRecDepth 65536 in
set_option maxHeartbeats 40000000 in
theorem rm9 (l : Launch) (Z : State) (a0 : Array Value) (hw : ∀ d ∈ tables_1, d.before a0 Z = true) (r0 : Addr) (zCS : Int32) (h0 : Heap) (n0 : Nat) (Z0 : n0 ≤ h0.size) (F_coder_r0 : Fld Z h0 r0 "java/lang/AbstractStringBuilder" "coder" "B" (.int (0 : Int32))) (S_COMPACT_STRINGS : Sta Z h0 "java/lang/String" "COMPACT_STRINGS" "Z" (.int zCS)) (hCS : ¬ zCS = 0) :
    Ctr l Z (⟨"java/lang/AbstractStringBuilder", "isLatin1", "()Z"⟩ : MethodName) jdk_68_method_68_code 1 (some .boolean) ({ frames := 0, cells := 0, slots := 0, locals := 0 } : Room) #[(.ref r0)] h0 (Q_rm9 Z r0 zCS h0 n0) := by
  refine Ctr.body (fr := fun m => mkF m 0 #[.val (.ref r0)] []) (plainFor_of_name pn_java_lang_AbstractStringBuilder) (fun m => by first | (simp [entryFrame, mkF, argsToLocals, Value.category]; done) | rfl) fun p e s m below meth c s₁ hx hby hml hZ hown hnm hret hlk X0 e0 => ?_
  have N0 := Fr.nil n0
  have hown : s.vm.findClass "java/lang/AbstractStringBuilder" = some m.cls := hown
  show W p e below _ (s₁.setTop (mkF m 0 #[.val (.ref r0)] []))
  obtain ⟨T1, X1, e1, st1⟩ := getS2 X0 hx hZ hown (host := "") (Or.inl (hw _ (List.mem_of_getElem? (i := 22) rfl))) Via.refl e0 S_COMPACT_STRINGS (g := (mkF m 0 #[.val (.ref r0)] [])) rfl (hb hby d9_0)
  refine W.go st1 ?_
  show W p e below _ (T1.setTop (mkF m 3 #[.val (.ref r0)] [(.int zCS)]))
  refine W.go (fun _ hr => XS.ifNo X1.here hx rfl (hb hby d9_3) rfl ((if0 _ _).trans (feq hCS).1) hr) ?_
  show W p e below _ (T1.setTop (mkF m 6 #[.val (.ref r0)] []))
  refine W.go (fun _ hr => XS.aloadN X1.here hx rfl (hb hby d9_6) rfl rfl hr) ?_
  show W p e below _ (T1.setTop (mkF m 7 #[.val (.ref r0)] [(.ref r0)]))
  obtain ⟨T2, X2, e2, st2⟩ := getF X1 hx hZ hown (host := "") (Or.inl (hw _ (List.mem_of_getElem? (i := 27) rfl))) Via.refl e1 F_coder_r0 (g := (mkF m 7 #[.val (.ref r0)] [(.ref r0)])) rfl rfl (hb hby d9_7)
  refine W.go st2 ?_
  show W p e below _ (T2.setTop (mkF m 10 #[.val (.ref r0)] [(.int (0 : Int32))]))
  refine W.go (fun _ hr => XS.ifNo X2.here hx rfl (hb hby d9_10) rfl ((if0 _ _).trans (teq (by decide : ((0 : Int32) = (0 : Int32)))).2) hr) ?_
  show W p e below _ (T2.setTop (mkF m 13 #[.val (.ref r0)] []))
  refine W.go (fun _ hr => XS.iconst X2.here hx rfl (hb hby d9_13) hr) ?_
  show W p e below _ (T2.setTop (mkF m 14 #[.val (.ref r0)] [(.int (1 : Int32))]))
  refine W.go (fun _ hr => XS.goto X2.here hx rfl (pc0 := 14) (pc' := 18) rfl (hb hby d9_14) (by decide) (by decide) hr) ?_
  show W p e below _ (T2.setTop (mkF m 18 #[.val (.ref r0)] [(.int (1 : Int32))]))
  exact W.retB X2 hx hlk (t := .boolean) hret (by simp) (hb hby d9_18) (by decide) (by decide) e2 ⟨rfl, N0, rfl⟩
theorem d21_0 : decode jdk_29_method_69_code 0 = .ok (.iload_n 0, 1) := by decide +kernel
theorem d21_1 : decode jdk_29_method_69_code 1 = .ok (.iload_n 1, 1) := by decide +kernel
theorem d21_2 : decode jdk_29_method_69_code 2 = .ok (.if_icmp .gt 7, 3) := by decide +kernel
theorem d21_9 : decode jdk_29_method_69_code 9 = .ok (.iload_n 1, 1) := by decide +kernel
theorem d21_10 : decode jdk_29_method_69_code 10 = .ok (.ireturn, 1) := by decide +kernel
theorem d21_5 : decode jdk_29_method_69_code 5 = .ok (.iload_n 0, 1) := by decide +kernel
theorem d21_6 : decode jdk_29_method_69_code 6 = .ok (.goto 4, 3) := by decide +kernel
def Q_rm21 (Z : State) (p0 : Int32) (p1 : Int32) (z : Int32) (h0 : Heap) (n0 : Nat) (v : Option Value) (h : Heap) (L : List Loc) : Prop := v = some (.int z) ∧ Fr n0 L ∧ h = h0
set_option maxRecDepth 65536 in
set_option maxHeartbeats 40000000 in
theorem rm21 (l : Launch) (Z : State) (a0 : Array Value) (hw : ∀ d ∈ tables_1, d.before a0 Z = true) (p0 : Int32) (p1 : Int32) (z : Int32) (h0 : Heap) (n0 : Nat) (Z0 : n0 ≤ h0.size) (hz : z = if p1 < p0 then p1 else p0) :
    Ctr l Z (⟨"java/lang/Math", "min", "(II)I"⟩ : MethodName) jdk_29_method_69_code 2 (some .int) ({ frames := 0, cells := 0, slots := 0, locals := 0 } : Room) #[(.int p0), (.int p1)] h0 (Q_rm21 Z p0 p1 z h0 n0) := by
  refine Ctr.body (fr := fun m => mkF m 0 #[.val (.int p0), .val (.int p1)] []) (Jvm.Free.JP.mathPlain rfl (by decide +kernel)) (fun m => by first | (simp [entryFrame, mkF, argsToLocals, Value.category]; done) | rfl) fun p e s m below meth c s₁ hx hby hml hZ hown hnm hret hlk X0 e0 => ?_
  have N0 := Fr.nil n0
  have hown : s.vm.findClass "java/lang/Math" = some m.cls := hown
  show W p e below _ (s₁.setTop (mkF m 0 #[.val (.int p0), .val (.int p1)] []))
  refine W.go (fun _ hr => XS.iloadN X0.here hx rfl (hb hby d21_0) rfl hr) ?_
  show W p e below _ (s₁.setTop (mkF m 1 #[.val (.int p0), .val (.int p1)] [(.int p0)]))
  refine W.go (fun _ hr => XS.iloadN X0.here hx rfl (hb hby d21_1) rfl hr) ?_
  show W p e below _ (s₁.setTop (mkF m 2 #[.val (.int p0), .val (.int p1)] [(.int p1), (.int p0)]))
  by_cases hc2_1 : p1 < p0
  · refine W.go (fun _ hr => XS.icmpYes X0.here hx rfl (pc0 := 2) (pc' := 9) rfl (hb hby d21_2) rfl (tlt hc2_1).2.2.1 (by decide) (by decide) hr) ?_
    show W p e below _ (s₁.setTop (mkF m 9 #[.val (.int p0), .val (.int p1)] []))
    refine W.go (fun _ hr => XS.iloadN X0.here hx rfl (hb hby d21_9) rfl hr) ?_
    show W p e below _ (s₁.setTop (mkF m 10 #[.val (.int p0), .val (.int p1)] [(.int p1)]))
    exact W.retI X0 hx hlk hret (hb hby d21_10) (by decide) (by decide) e0 ⟨by rw [hz]; simp [*], N0, rfl⟩
  · refine W.go (fun _ hr => XS.icmpNo X0.here hx rfl (hb hby d21_2) rfl (flt hc2_1).2.2.1 hr) ?_
    show W p e below _ (s₁.setTop (mkF m 5 #[.val (.int p0), .val (.int p1)] []))
    refine W.go (fun _ hr => XS.iloadN X0.here hx rfl (hb hby d21_5) rfl hr) ?_
    show W p e below _ (s₁.setTop (mkF m 6 #[.val (.int p0), .val (.int p1)] [(.int p0)]))
    refine W.go (fun _ hr => XS.goto X0.here hx rfl (pc0 := 6) (pc' := 10) rfl (hb hby d21_6) (by decide) (by decide) hr) ?_
    show W p e below _ (s₁.setTop (mkF m 10 #[.val (.int p0), .val (.int p1)] [(.int p0)]))
    exact W.retI X0 hx hlk hret (hb hby d21_10) (by decide) (by decide) e0 ⟨by rw [hz]; simp [*], N0, rfl⟩
theorem d20_0 : decode jdk_65_method_131_code 0 = .ok (.iload_n 1, 1) := by decide +kernel
theorem d20_1 : decode jdk_65_method_131_code 1 = .ok (.iload_n 0, 1) := by decide +kernel
theorem d20_2 : decode jdk_65_method_131_code 2 = .ok (.if_icmp .ge 35, 3) := by decide +kernel
theorem d20_37 : decode jdk_65_method_131_code 37 = .ok (.return_, 1) := by decide +kernel
theorem pn_java_util_Arrays : plainName "java/util/Arrays" = true := by first | (simp [plainName, overriddenIn]; done) | decide +kernel
def Q_rm20 (Z : State) (p0 : Int32) (p1 : Int32) (h0 : Heap) (n0 : Nat) (v : Option Value) (h : Heap) (L : List Loc) : Prop := v = none ∧ Fr n0 L ∧ h = h0
set_option maxRecDepth 65536 in
set_option maxHeartbeats 40000000 in
theorem rm20 (l : Launch) (Z : State) (a0 : Array Value) (hw : ∀ d ∈ tables_1, d.before a0 Z = true) (p0 : Int32) (p1 : Int32) (h0 : Heap) (n0 : Nat) (Z0 : n0 ≤ h0.size) (hle : ¬ p1 < p0) :
    Ctr l Z (⟨"java/util/Arrays", "checkLength", "(II)V"⟩ : MethodName) jdk_65_method_131_code 2 none ({ frames := 0, cells := 0, slots := 0, locals := 0 } : Room) #[(.int p0), (.int p1)] h0 (Q_rm20 Z p0 p1 h0 n0) := by
  refine Ctr.body (fr := fun m => mkF m 0 #[.val (.int p0), .val (.int p1)] []) (plainFor_of_name pn_java_util_Arrays) (fun m => by first | (simp [entryFrame, mkF, argsToLocals, Value.category]; done) | rfl) fun p e s m below meth c s₁ hx hby hml hZ hown hnm hret hlk X0 e0 => ?_
  have N0 := Fr.nil n0
  have hown : s.vm.findClass "java/util/Arrays" = some m.cls := hown
  show W p e below _ (s₁.setTop (mkF m 0 #[.val (.int p0), .val (.int p1)] []))
  refine W.go (fun _ hr => XS.iloadN X0.here hx rfl (hb hby d20_0) rfl hr) ?_
  show W p e below _ (s₁.setTop (mkF m 1 #[.val (.int p0), .val (.int p1)] [(.int p1)]))
  refine W.go (fun _ hr => XS.iloadN X0.here hx rfl (hb hby d20_1) rfl hr) ?_
  show W p e below _ (s₁.setTop (mkF m 2 #[.val (.int p0), .val (.int p1)] [(.int p0), (.int p1)]))
  refine W.go (fun _ hr => XS.icmpYes X0.here hx rfl (pc0 := 2) (pc' := 37) rfl (hb hby d20_2) rfl (flt (hle : ¬ (p1 < p0))).2.1 (by decide) (by decide) hr) ?_
  show W p e below _ (s₁.setTop (mkF m 37 #[.val (.int p0), .val (.int p1)] []))
  exact W.retV X0 hx hlk hret (hb hby d20_37) (by decide) (by decide) e0 ⟨rfl, N0, rfl⟩
theorem d19_0 : decode jdk_65_method_133_code 0 = .ok (.iload_n 1, 1) := by decide +kernel
theorem d19_1 : decode jdk_65_method_133_code 1 = .ok (.iload_n 2, 1) := by decide +kernel
theorem d19_2 : decode jdk_65_method_133_code 2 = .ok (.invokestatic 343, 3) := by decide +kernel
theorem pd_53 : parseMethodDescriptor "(II)V" = some ⟨[.int, .int], none⟩ := by decide +kernel
theorem d19_5 : decode jdk_65_method_133_code 5 = .ok (.iload_n 2, 1) := by decide +kernel
theorem d19_6 : decode jdk_65_method_133_code 6 = .ok (.iload_n 1, 1) := by decide +kernel
theorem d19_7 : decode jdk_65_method_133_code 7 = .ok (.isub, 1) := by decide +kernel
theorem d19_8 : decode jdk_65_method_133_code 8 = .ok (.istore_n 3, 1) := by decide +kernel
theorem d19_9 : decode jdk_65_method_133_code 9 = .ok (.iload_n 3, 1) := by decide +kernel
theorem d19_10 : decode jdk_65_method_133_code 10 = .ok (.newarray .byte, 2) := by decide +kernel
theorem d19_12 : decode jdk_65_method_133_code 12 = .ok (.astore 4, 2) := by decide +kernel
theorem d19_14 : decode jdk_65_method_133_code 14 = .ok (.aload_n 0, 1) := by decide +kernel
theorem d19_15 : decode jdk_65_method_133_code 15 = .ok (.iload_n 1, 1) := by decide +kernel
theorem d19_16 : decode jdk_65_method_133_code 16 = .ok (.aload 4, 2) := by decide +kernel
theorem d19_18 : decode jdk_65_method_133_code 18 = .ok (.iconst 0, 1) := by decide +kernel
theorem d19_19 : decode jdk_65_method_133_code 19 = .ok (.aload_n 0, 1) := by decide +kernel
theorem d19_20 : decode jdk_65_method_133_code 20 = .ok (.arraylength, 1) := by decide +kernel
theorem d19_21 : decode jdk_65_method_133_code 21 = .ok (.iload_n 1, 1) := by decide +kernel
theorem d19_22 : decode jdk_65_method_133_code 22 = .ok (.isub, 1) := by decide +kernel
theorem d19_23 : decode jdk_65_method_133_code 23 = .ok (.iload_n 3, 1) := by decide +kernel
theorem d19_24 : decode jdk_65_method_133_code 24 = .ok (.invokestatic 304, 3) := by decide +kernel
theorem pd_71 : parseMethodDescriptor "(II)I" = some ⟨[.int, .int], some .int⟩ := by decide +kernel
theorem d19_27 : decode jdk_65_method_133_code 27 = .ok (.invokestatic 150, 3) := by decide +kernel
theorem d19_30 : decode jdk_65_method_133_code 30 = .ok (.aload 4, 2) := by decide +kernel
theorem d19_32 : decode jdk_65_method_133_code 32 = .ok (.areturn, 1) := by decide +kernel
def Q_rm19 (Z : State) (r0 : Addr) (cn : Int32) (kt : ClassId) (cs : List Value) (h0 : Heap) (n0 : Nat) (v : Option Value) (h : Heap) (L : List Loc) : Prop := ∃ (b : Addr) (kb : ClassId), v = some (.ref b) ∧ Fr n0 L ∧ Keep h0 h [] ∧ h0.size ≤ b ∧ Exa Z h b "[B" ∧ Arv Z h b kb .byte cn cs (.int (0 : Int32))
set_option maxRecDepth 65536 in
set_option maxHeartbeats 40000000 in
theorem rm19 (l : Launch) (Z : State) (a0 : Array Value) (hw : ∀ d ∈ tables_1, d.before a0 Z = true) (r0 : Addr) (cn : Int32) (kt : ClassId) (cs : List Value) (h0 : Heap) (n0 : Nat) (Z0 : n0 ≤ h0.size) (V_r0 : Arv Z h0 r0 kt .byte (1024 : Int32) cs (.int (0 : Int32))) (hcn : cn.toInt = cs.length ∧ cn.toInt ≤ 64 ∧ cn.toInt < 1024) :
    Ctr l Z (⟨"java/util/Arrays", "copyOfRangeByte", "([BII)[B"⟩ : MethodName) jdk_65_method_133_code 5 (some (.array .byte)) ({ frames := 1, cells := 1, slots := 64, locals := 40 } : Room) #[(.ref r0), (.int (0 : Int32)), (.int cn)] h0 (Q_rm19 Z r0 cn kt cs h0 n0) := by
  refine Ctr.body (fr := fun m => mkF m 0 #[.val (.ref r0), .val (.int (0 : Int32)), .val (.int cn), .unset, .unset] []) (plainFor_of_name pn_java_util_Arrays) (fun m => by first | (simp [entryFrame, mkF, argsToLocals, Value.category]; done) | rfl) fun p e s m below meth c s₁ hx hby hml hZ hown hnm hret hlk X0 e0 => ?_
  have N0 := Fr.nil n0
  have hown : s.vm.findClass "java/util/Arrays" = some m.cls := hown
  have KC : Keep h0 h0 [] := Keep.refl _ _
  have hc0 : ¬ cn < 0 := by rw [Int32.lt_iff_toInt_lt]; have e0 : (0 : Int32).toInt = 0 := rfl; omega
  have hcc : cn.toNatClampNeg ≤ 64 := by simp only [Int32.toNatClampNeg]; omega
  show W p e below _ (s₁.setTop (mkF m 0 #[.val (.ref r0), .val (.int (0 : Int32)), .val (.int cn), .unset, .unset] []))
  refine W.go (fun _ hr => XS.iloadN X0.here hx rfl (hb hby d19_0) rfl hr) ?_
  show W p e below _ (s₁.setTop (mkF m 1 #[.val (.ref r0), .val (.int (0 : Int32)), .val (.int cn), .unset, .unset] [(.int (0 : Int32))]))
  refine W.go (fun _ hr => XS.iloadN X0.here hx rfl (hb hby d19_1) rfl hr) ?_
  show W p e below _ (s₁.setTop (mkF m 2 #[.val (.ref r0), .val (.int (0 : Int32)), .val (.int cn), .unset, .unset] [(.int cn), (.int (0 : Int32))]))
  refine W.callS X0 hx hZ hown (g := (mkF m 2 #[.val (.ref r0), .val (.int (0 : Int32)), .val (.int cn), .unset, .unset] [(.int cn), (.int (0 : Int32))])) (by rw [hml]; rfl) (hw _ (List.mem_of_getElem? (i := 110) rfl)) (hw _ (List.mem_of_getElem? (i := 111) rfl)) (hw _ (List.mem_of_getElem? (i := 105) rfl)) (hw _ (List.mem_of_getElem? (i := 112) rfl)) e0 (rm20 l Z a0 hw (0 : Int32) cn h0 n0 Z0 hc0) (by decide) pd_53 rfl (argsL := [(.int (0 : Int32)), (.int cn)]) (rest := []) rfl rfl rfl (hb hby d19_2) (W0 := 0) rfl (by decide) (by decide) (by decide) (by decide) (fun v1 T1 h1 L1 X1 e1 hQ1 => ?_)
  obtain ⟨rfl, N1q, hh1⟩ := hQ1
  obtain rfl := hh1.symm
  have N1 := Fr.app N0 N1q
  show W p e below _ (T1.setTop (mkF m 5 #[.val (.ref r0), .val (.int (0 : Int32)), .val (.int cn), .unset, .unset] []))
  refine W.go (fun _ hr => XS.iloadN X1.here hx rfl (hb hby d19_5) rfl hr) ?_
  show W p e below _ (T1.setTop (mkF m 6 #[.val (.ref r0), .val (.int (0 : Int32)), .val (.int cn), .unset, .unset] [(.int cn)]))
  refine W.go (fun _ hr => XS.iloadN X1.here hx rfl (hb hby d19_6) rfl hr) ?_
  show W p e below _ (T1.setTop (mkF m 7 #[.val (.ref r0), .val (.int (0 : Int32)), .val (.int cn), .unset, .unset] [(.int (0 : Int32)), (.int cn)]))
  refine W.go (fun _ hr => XS.isub X1.here hx rfl (hb hby d19_7) rfl hr) ?_
  show W p e below _ (T1.setTop (mkF m 8 #[.val (.ref r0), .val (.int (0 : Int32)), .val (.int cn), .unset, .unset] [(.int (cn - (0 : Int32)))]))
  rw [show (cn - (0 : Int32)) = cn from by simp]
  show W p e below _ (T1.setTop (mkF m 8 #[.val (.ref r0), .val (.int (0 : Int32)), .val (.int cn), .unset, .unset] [(.int cn)]))
  refine W.go (fun _ hr => XS.istoreN X1.here hx rfl (hb hby d19_8) rfl (l' := #[.val (.ref r0), .val (.int (0 : Int32)), .val (.int cn), .val (.int cn), .unset]) rfl hr) ?_
  show W p e below _ (T1.setTop (mkF m 9 #[.val (.ref r0), .val (.int (0 : Int32)), .val (.int cn), .val (.int cn), .unset] []))
  refine W.go (fun _ hr => XS.iloadN X1.here hx rfl (hb hby d19_9) rfl hr) ?_
  show W p e below _ (T1.setTop (mkF m 10 #[.val (.ref r0), .val (.int (0 : Int32)), .val (.int cn), .val (.int cn), .unset] [(.int cn)]))
  obtain ⟨T2, h2, k2, X2, e2, E2, A2, E_b2, st2⟩ := newPE X1 hx hZ (hw _ (List.mem_of_getElem? (i := 24) rfl)) e1 (g := (mkF m 10 #[.val (.ref r0), .val (.int (0 : Int32)), .val (.int cn), .val (.int cn), .unset] [(.int cn)])) rfl (hb hby d19_10) rfl hc0 (cap := 64) hcc (by decide) (by decide) (by decide) (ad := "[B") (by decide)
  obtain ⟨b2, g2⟩ : ∃ z, z = h0.size := ⟨_, rfl⟩
  rw [← g2] at A2 E_b2 st2
  have ne_r0_b2 : r0 ≠ b2 := Nat.ne_of_lt (Nat.lt_of_lt_of_le V_r0.lt (Nat.le_of_eq g2.symm))
  have g_b2 : n0 ≤ b2 := Nat.le_trans Z0 (Nat.le_of_eq g2.symm)
  have sz_b2 : h0.size ≤ b2 := Nat.le_trans KC.1 (Nat.le_of_eq g2.symm)
  replace V_r0 := V_r0.ext E2
  have Z3 : n0 ≤ h2.size := Nat.le_trans Z0 E2.1
  replace KC := KC.ext E2
  have V_b2 : Arv Z h2 b2 k2 .byte cn [] (.int (0 : Int32)) := Arv.new A2 hc0
  refine W.go st2 ?_
  show W p e below _ (T2.setTop (mkF m 12 #[.val (.ref r0), .val (.int (0 : Int32)), .val (.int cn), .val (.int cn), .unset] [(.ref b2)]))
  refine W.go (fun _ hr => XS.astore X2.here hx rfl (hb hby d19_12) rfl rfl (l' := #[.val (.ref r0), .val (.int (0 : Int32)), .val (.int cn), .val (.int cn), .val (.ref b2)]) rfl hr) ?_
  show W p e below _ (T2.setTop (mkF m 14 #[.val (.ref r0), .val (.int (0 : Int32)), .val (.int cn), .val (.int cn), .val (.ref b2)] []))
  refine W.go (fun _ hr => XS.aloadN X2.here hx rfl (hb hby d19_14) rfl rfl hr) ?_
  show W p e below _ (T2.setTop (mkF m 15 #[.val (.ref r0), .val (.int (0 : Int32)), .val (.int cn), .val (.int cn), .val (.ref b2)] [(.ref r0)]))
  refine W.go (fun _ hr => XS.iloadN X2.here hx rfl (hb hby d19_15) rfl hr) ?_
  show W p e below _ (T2.setTop (mkF m 16 #[.val (.ref r0), .val (.int (0 : Int32)), .val (.int cn), .val (.int cn), .val (.ref b2)] [(.int (0 : Int32)), (.ref r0)]))
  refine W.go (fun _ hr => XS.aload X2.here hx rfl (hb hby d19_16) rfl rfl hr) ?_
  show W p e below _ (T2.setTop (mkF m 18 #[.val (.ref r0), .val (.int (0 : Int32)), .val (.int cn), .val (.int cn), .val (.ref b2)] [(.ref b2), (.int (0 : Int32)), (.ref r0)]))
  refine W.go (fun _ hr => XS.iconst X2.here hx rfl (hb hby d19_18) hr) ?_
  show W p e below _ (T2.setTop (mkF m 19 #[.val (.ref r0), .val (.int (0 : Int32)), .val (.int cn), .val (.int cn), .val (.ref b2)] [(.int (0 : Int32)), (.ref b2), (.int (0 : Int32)), (.ref r0)]))
  refine W.go (fun _ hr => XS.aloadN X2.here hx rfl (hb hby d19_19) rfl rfl hr) ?_
  show W p e below _ (T2.setTop (mkF m 20 #[.val (.ref r0), .val (.int (0 : Int32)), .val (.int cn), .val (.int cn), .val (.ref b2)] [(.ref r0), (.int (0 : Int32)), (.ref b2), (.int (0 : Int32)), (.ref r0)]))
  obtain ⟨cl4, Ar4, q4, S4, Nn4, H4, G4⟩ := id V_r0
  refine W.go (X2.arraylength hx (by rw [e2]; exact Ar4.1) (State.isArrayOf_alike hZ.alike Ar4.2.1) (g := (mkF m 20 #[.val (.ref r0), .val (.int (0 : Int32)), .val (.int cn), .val (.int cn), .val (.ref b2)] [(.ref r0), (.int (0 : Int32)), (.ref b2), (.int (0 : Int32)), (.ref r0)])) rfl rfl (hb hby d19_20)) ?_
  rw [len_of S4 Nn4]
  show W p e below _ (T2.setTop (mkF m 21 #[.val (.ref r0), .val (.int (0 : Int32)), .val (.int cn), .val (.int cn), .val (.ref b2)] [(.int (1024 : Int32)), (.int (0 : Int32)), (.ref b2), (.int (0 : Int32)), (.ref r0)]))
  refine W.go (fun _ hr => XS.iloadN X2.here hx rfl (hb hby d19_21) rfl hr) ?_
  show W p e below _ (T2.setTop (mkF m 22 #[.val (.ref r0), .val (.int (0 : Int32)), .val (.int cn), .val (.int cn), .val (.ref b2)] [(.int (0 : Int32)), (.int (1024 : Int32)), (.int (0 : Int32)), (.ref b2), (.int (0 : Int32)), (.ref r0)]))
  refine W.go (fun _ hr => XS.isub X2.here hx rfl (hb hby d19_22) rfl hr) ?_
  show W p e below _ (T2.setTop (mkF m 23 #[.val (.ref r0), .val (.int (0 : Int32)), .val (.int cn), .val (.int cn), .val (.ref b2)] [(.int ((1024 : Int32) - (0 : Int32))), (.int (0 : Int32)), (.ref b2), (.int (0 : Int32)), (.ref r0)]))
  rw [show ((1024 : Int32) - (0 : Int32)) = (1024 : Int32) from by decide]
  show W p e below _ (T2.setTop (mkF m 23 #[.val (.ref r0), .val (.int (0 : Int32)), .val (.int cn), .val (.int cn), .val (.ref b2)] [(.int (1024 : Int32)), (.int (0 : Int32)), (.ref b2), (.int (0 : Int32)), (.ref r0)]))
  refine W.go (fun _ hr => XS.iloadN X2.here hx rfl (hb hby d19_23) rfl hr) ?_
  show W p e below _ (T2.setTop (mkF m 24 #[.val (.ref r0), .val (.int (0 : Int32)), .val (.int cn), .val (.int cn), .val (.ref b2)] [(.int cn), (.int (1024 : Int32)), (.int (0 : Int32)), (.ref b2), (.int (0 : Int32)), (.ref r0)]))
  refine W.callS X2 hx hZ hown (g := (mkF m 24 #[.val (.ref r0), .val (.int (0 : Int32)), .val (.int cn), .val (.int cn), .val (.ref b2)] [(.int cn), (.int (1024 : Int32)), (.int (0 : Int32)), (.ref b2), (.int (0 : Int32)), (.ref r0)])) (by rw [hml]; rfl) (hw _ (List.mem_of_getElem? (i := 113) rfl)) (hw _ (List.mem_of_getElem? (i := 114) rfl)) (hw _ (List.mem_of_getElem? (i := 115) rfl)) (hw _ (List.mem_of_getElem? (i := 116) rfl)) e2 (rm21 l Z a0 hw (1024 : Int32) cn cn h2 n0 Z3 (by rw [if_pos]; rw [Int32.lt_iff_toInt_lt]; have e0 : (1024 : Int32).toInt = 1024 := rfl; omega)) (by decide) pd_71 rfl (argsL := [(.int (1024 : Int32)), (.int cn)]) (rest := [(.int (0 : Int32)), (.ref b2), (.int (0 : Int32)), (.ref r0)]) rfl rfl rfl (hb hby d19_24) (W0 := 4) rfl (by decide) (by decide) (by decide) (by decide) (fun v5 T5 h5 L5 X5 e5 hQ5 => ?_)
  obtain ⟨rfl, N5q, hh5⟩ := hQ5
  obtain rfl := hh5.symm
  have N5 := Fr.app N1 N5q
  show W p e below _ (T5.setTop (mkF m 27 #[.val (.ref r0), .val (.int (0 : Int32)), .val (.int cn), .val (.int cn), .val (.ref b2)] [(.int cn), (.int (0 : Int32)), (.ref b2), (.int (0 : Int32)), (.ref r0)]))
  have Vp6 : Arv Z h2 b2 k2 .byte cn ([] ++ List.replicate cn.toNatClampNeg (.int (0 : Int32))) (.int (0 : Int32)) := V_b2.pad (pad_rep [] (.int (0 : Int32)) cn.toNatClampNeg)
  have hlen6 : cs.length = cn.toNatClampNeg := by simp only [Int32.toNatClampNeg]; omega
  obtain ⟨T6, h6, L6, X6, e6, N6, K6, Vn6, st6⟩ := cpA X5 hx hZ hown (hw _ (List.mem_of_getElem? (i := 117) rfl)) (hw _ (List.mem_of_getElem? (i := 120) rfl)) (hw _ (List.mem_of_getElem? (i := 118) rfl)) (hw _ (List.mem_of_getElem? (i := 119) rfl)) e5 V_r0 Vp6 (us := cs) (sp := (0 : Int32)) (dp := (0 : Int32)) (nn := cn) (Or.inl ⟨rfl, rfl⟩) (by decide) (by decide) hc0 (by simp only [Int32.toNatClampNeg, Int32.reduceToInt]; omega) (by simp only [Int32.toNatClampNeg, Int32.reduceToInt]; omega) (own_take hlen6).symm (by rw [own_z0]; simp) N5 g_b2 (g := (mkF m 27 #[.val (.ref r0), .val (.int (0 : Int32)), .val (.int cn), .val (.int cn), .val (.ref b2)] [(.int cn), (.int (0 : Int32)), (.ref b2), (.int (0 : Int32)), (.ref r0)])) rfl (by rw [hml]; rfl) rfl (hb hby d19_27) (by decide) (W := 0) (by show 2 * 0 + _ ≤ _; exact Nat.le_of_eq rfl) (by decide)
  refine W.go st6 ?_
  replace V_r0 := V_r0.keep K6 (ninS ne_r0_b2 nin0)
  replace E_b2 := E_b2.keep K6
  have Z7 : n0 ≤ h6.size := Nat.le_trans Z3 K6.1
  replace KC := KC.trans K6 (allS (Or.inr sz_b2) all0)
  have Vf6 : Arv Z h6 b2 k2 .byte cn cs (.int (0 : Int32)) := by simpa [own_z0] using Vn6
  show W p e below _ (T6.setTop (mkF m 30 #[.val (.ref r0), .val (.int (0 : Int32)), .val (.int cn), .val (.int cn), .val (.ref b2)] []))
  refine W.go (fun _ hr => XS.aload X6.here hx rfl (hb hby d19_30) rfl rfl hr) ?_
  show W p e below _ (T6.setTop (mkF m 32 #[.val (.ref r0), .val (.int (0 : Int32)), .val (.int cn), .val (.int cn), .val (.ref b2)] [(.ref b2)]))
  exact W.retA X6 hx hlk hret rfl rfl (hb hby d19_32) (by decide) (by decide) e6 ⟨_, _, rfl, N6, KC, sz_b2, E_b2, Vf6⟩
theorem d18_0 : decode jdk_65_method_132_code 0 = .ok (.iload_n 1, 1) := by decide +kernel
theorem d18_1 : decode jdk_65_method_132_code 1 = .ok (.ifCond .ne 9, 3) := by decide +kernel
theorem d18_4 : decode jdk_65_method_132_code 4 = .ok (.iload_n 2, 1) := by decide +kernel
theorem d18_5 : decode jdk_65_method_132_code 5 = .ok (.aload_n 0, 1) := by decide +kernel
theorem d18_6 : decode jdk_65_method_132_code 6 = .ok (.arraylength, 1) := by decide +kernel
theorem d18_7 : decode jdk_65_method_132_code 7 = .ok (.if_icmp .eq 10, 3) := by decide +kernel
theorem d18_10 : decode jdk_65_method_132_code 10 = .ok (.aload_n 0, 1) := by decide +kernel
theorem d18_11 : decode jdk_65_method_132_code 11 = .ok (.iload_n 1, 1) := by decide +kernel
theorem d18_12 : decode jdk_65_method_132_code 12 = .ok (.iload_n 2, 1) := by decide +kernel
theorem d18_13 : decode jdk_65_method_132_code 13 = .ok (.invokestatic 339, 3) := by decide +kernel
theorem pd_85 : parseMethodDescriptor "([BII)[B" = some ⟨[(.array .byte), .int, .int], some (.array .byte)⟩ := by decide +kernel
theorem d18_16 : decode jdk_65_method_132_code 16 = .ok (.areturn, 1) := by decide +kernel
def Q_rm18 (Z : State) (r0 : Addr) (cn : Int32) (kt : ClassId) (cs : List Value) (h0 : Heap) (n0 : Nat) (v : Option Value) (h : Heap) (L : List Loc) : Prop := ∃ (b : Addr) (kb : ClassId), v = some (.ref b) ∧ Fr n0 L ∧ Keep h0 h [] ∧ h0.size ≤ b ∧ Exa Z h b "[B" ∧ Arv Z h b kb .byte cn cs (.int (0 : Int32))
set_option maxRecDepth 65536 in
set_option maxHeartbeats 40000000 in
theorem rm18 (l : Launch) (Z : State) (a0 : Array Value) (hw : ∀ d ∈ tables_1, d.before a0 Z = true) (r0 : Addr) (cn : Int32) (kt : ClassId) (cs : List Value) (h0 : Heap) (n0 : Nat) (Z0 : n0 ≤ h0.size) (V_r0 : Arv Z h0 r0 kt .byte (1024 : Int32) cs (.int (0 : Int32))) (hcn : cn.toInt = cs.length ∧ cn.toInt ≤ 64 ∧ cn.toInt < 1024) :
    Ctr l Z (⟨"java/util/Arrays", "copyOfRange", "([BII)[B"⟩ : MethodName) jdk_65_method_132_code 3 (some (.array .byte)) ({ frames := 2, cells := 1, slots := 64, locals := 56 } : Room) #[(.ref r0), (.int (0 : Int32)), (.int cn)] h0 (Q_rm18 Z r0 cn kt cs h0 n0) := by
  refine Ctr.body (fr := fun m => mkF m 0 #[.val (.ref r0), .val (.int (0 : Int32)), .val (.int cn)] []) (plainFor_of_name pn_java_util_Arrays) (fun m => by first | (simp [entryFrame, mkF, argsToLocals, Value.category]; done) | rfl) fun p e s m below meth c s₁ hx hby hml hZ hown hnm hret hlk X0 e0 => ?_
  have N0 := Fr.nil n0
  have hown : s.vm.findClass "java/util/Arrays" = some m.cls := hown
  have KC : Keep h0 h0 [] := Keep.refl _ _
  show W p e below _ (s₁.setTop (mkF m 0 #[.val (.ref r0), .val (.int (0 : Int32)), .val (.int cn)] []))
  refine W.go (fun _ hr => XS.iloadN X0.here hx rfl (hb hby d18_0) rfl hr) ?_
  show W p e below _ (s₁.setTop (mkF m 1 #[.val (.ref r0), .val (.int (0 : Int32)), .val (.int cn)] [(.int (0 : Int32))]))
  refine W.go (fun _ hr => XS.ifNo X0.here hx rfl (hb hby d18_1) rfl ((if0 _ _).trans (teq (by decide : ((0 : Int32) = (0 : Int32)))).2) hr) ?_
  show W p e below _ (s₁.setTop (mkF m 4 #[.val (.ref r0), .val (.int (0 : Int32)), .val (.int cn)] []))
  refine W.go (fun _ hr => XS.iloadN X0.here hx rfl (hb hby d18_4) rfl hr) ?_
  show W p e below _ (s₁.setTop (mkF m 5 #[.val (.ref r0), .val (.int (0 : Int32)), .val (.int cn)] [(.int cn)]))
  refine W.go (fun _ hr => XS.aloadN X0.here hx rfl (hb hby d18_5) rfl rfl hr) ?_
  show W p e below _ (s₁.setTop (mkF m 6 #[.val (.ref r0), .val (.int (0 : Int32)), .val (.int cn)] [(.ref r0), (.int cn)]))
  obtain ⟨cl1, Ar1, q1, S1, Nn1, H1, G1⟩ := id V_r0
  refine W.go (X0.arraylength hx (by rw [e0]; exact Ar1.1) (State.isArrayOf_alike hZ.alike Ar1.2.1) (g := (mkF m 6 #[.val (.ref r0), .val (.int (0 : Int32)), .val (.int cn)] [(.ref r0), (.int cn)])) rfl rfl (hb hby d18_6)) ?_
  rw [len_of S1 Nn1]
  show W p e below _ (s₁.setTop (mkF m 7 #[.val (.ref r0), .val (.int (0 : Int32)), .val (.int cn)] [(.int (1024 : Int32)), (.int cn)]))
  refine W.go (fun _ hr => XS.icmpNo X0.here hx rfl (hb hby d18_7) rfl (feq ((fun q => by rw [q] at hcn; have e0 : (1024 : Int32).toInt = 1024 := rfl; omega) : ¬ (cn = (1024 : Int32)))).1 hr) ?_
  show W p e below _ (s₁.setTop (mkF m 10 #[.val (.ref r0), .val (.int (0 : Int32)), .val (.int cn)] []))
  refine W.go (fun _ hr => XS.aloadN X0.here hx rfl (hb hby d18_10) rfl rfl hr) ?_
  show W p e below _ (s₁.setTop (mkF m 11 #[.val (.ref r0), .val (.int (0 : Int32)), .val (.int cn)] [(.ref r0)]))
  refine W.go (fun _ hr => XS.iloadN X0.here hx rfl (hb hby d18_11) rfl hr) ?_
  show W p e below _ (s₁.setTop (mkF m 12 #[.val (.ref r0), .val (.int (0 : Int32)), .val (.int cn)] [(.int (0 : Int32)), (.ref r0)]))
  refine W.go (fun _ hr => XS.iloadN X0.here hx rfl (hb hby d18_12) rfl hr) ?_
  show W p e below _ (s₁.setTop (mkF m 13 #[.val (.ref r0), .val (.int (0 : Int32)), .val (.int cn)] [(.int cn), (.int (0 : Int32)), (.ref r0)]))
  refine W.callS X0 hx hZ hown (g := (mkF m 13 #[.val (.ref r0), .val (.int (0 : Int32)), .val (.int cn)] [(.int cn), (.int (0 : Int32)), (.ref r0)])) (by rw [hml]; rfl) (hw _ (List.mem_of_getElem? (i := 107) rfl)) (hw _ (List.mem_of_getElem? (i := 108) rfl)) (hw _ (List.mem_of_getElem? (i := 105) rfl)) (hw _ (List.mem_of_getElem? (i := 109) rfl)) e0 (rm19 l Z a0 hw r0 cn kt cs h0 n0 Z0 V_r0 hcn) (by decide) pd_85 rfl (argsL := [(.ref r0), (.int (0 : Int32)), (.int cn)]) (rest := []) rfl rfl rfl (hb hby d18_13) (W0 := 0) rfl (by decide) (by decide) (by decide) (by decide) (fun v2 T2 h2 L2 X2 e2 hQ2 => ?_)
  obtain ⟨b2, kb2, rfl, N2q, K2, sb2, E_b2, V_b2⟩ := hQ2
  have N2 := Fr.app N0 N2q
  have ne_r0_b2 : r0 ≠ b2 := Nat.ne_of_lt (Nat.lt_of_lt_of_le V_r0.lt sb2)
  have g_b2 : n0 ≤ b2 := Nat.le_trans Z0 sb2
  have sz_b2 : h0.size ≤ b2 := Nat.le_trans KC.1 sb2
  replace V_r0 := V_r0.keep K2 nin0
  have Z3 : n0 ≤ h2.size := Nat.le_trans Z0 K2.1
  replace KC := KC.trans K2 all0
  show W p e below _ (T2.setTop (mkF m 16 #[.val (.ref r0), .val (.int (0 : Int32)), .val (.int cn)] [(.ref b2)]))
  exact W.retA X2 hx hlk hret rfl rfl (hb hby d18_16) (by decide) (by decide) e2 ⟨_, _, rfl, N2, KC, sz_b2, E_b2, V_b2⟩
theorem d14_0 : decode jdk_42_method_150_code 0 = .ok (.aload_n 0, 1) := by decide +kernel
theorem d14_1 : decode jdk_42_method_150_code 1 = .ok (.invokespecial 1, 3) := by decide +kernel
theorem d14_4 : decode jdk_42_method_150_code 4 = .ok (.aload_n 1, 1) := by decide +kernel
theorem d14_5 : decode jdk_42_method_150_code 5 = .ok (.invokevirtual 552, 3) := by decide +kernel
theorem pd_91 : parseMethodDescriptor "()[B" = some ⟨[], some (.array .byte)⟩ := by decide +kernel
theorem d14_8 : decode jdk_42_method_150_code 8 = .ok (.astore_n 3, 1) := by decide +kernel
theorem d14_9 : decode jdk_42_method_150_code 9 = .ok (.aload_n 1, 1) := by decide +kernel
theorem d14_10 : decode jdk_42_method_150_code 10 = .ok (.invokevirtual 549, 3) := by decide +kernel
theorem d14_13 : decode jdk_42_method_150_code 13 = .ok (.istore 4, 2) := by decide +kernel
theorem d14_15 : decode jdk_42_method_150_code 15 = .ok (.aload_n 1, 1) := by decide +kernel
theorem d14_16 : decode jdk_42_method_150_code 16 = .ok (.invokevirtual 1047, 3) := by decide +kernel
theorem pd_98 : parseMethodDescriptor "()Z" = some ⟨[], some .boolean⟩ := by decide +kernel
theorem d14_19 : decode jdk_42_method_150_code 19 = .ok (.ifCond .eq 22, 3) := by decide +kernel
theorem d14_22 : decode jdk_42_method_150_code 22 = .ok (.aload_n 0, 1) := by decide +kernel
theorem d14_23 : decode jdk_42_method_150_code 23 = .ok (.iconst 0, 1) := by decide +kernel
theorem d14_24 : decode jdk_42_method_150_code 24 = .ok (.putfield 15, 3) := by decide +kernel
theorem d14_27 : decode jdk_42_method_150_code 27 = .ok (.aload_n 0, 1) := by decide +kernel
theorem d14_28 : decode jdk_42_method_150_code 28 = .ok (.aload_n 3, 1) := by decide +kernel
theorem d14_29 : decode jdk_42_method_150_code 29 = .ok (.iconst 0, 1) := by decide +kernel
theorem d14_30 : decode jdk_42_method_150_code 30 = .ok (.iload 4, 2) := by decide +kernel
theorem d14_32 : decode jdk_42_method_150_code 32 = .ok (.invokestatic 54, 3) := by decide +kernel
theorem d14_35 : decode jdk_42_method_150_code 35 = .ok (.putfield 9, 3) := by decide +kernel
theorem d14_38 : decode jdk_42_method_150_code 38 = .ok (.goto 59, 3) := by decide +kernel
theorem d14_97 : decode jdk_42_method_150_code 97 = .ok (.return_, 1) := by decide +kernel
theorem pn_java_lang_String : plainName "java/lang/String" = true := by first | (simp [plainName, overriddenIn]; done) | decide +kernel
def Q_rm14 (Z : State) (r0 : Addr) (r1 : Addr) (t : Addr) (kt : ClassId) (cs : List Value) (cn : Int32) (zCS : Int32) (h0 : Heap) (n0 : Nat) (v : Option Value) (h : Heap) (L : List Loc) : Prop := v = none ∧ Fr n0 L ∧ Keep h0 h [r0] ∧ Exa Z h r0 "java/lang/String" ∧ ∃ (b : Addr) (kb : ClassId), h0.size ≤ b ∧ Fld Z h r0 "java/lang/String" "value" "[B" (.ref b) ∧ Fld Z h r0 "java/lang/String" "coder" "B" (.int (0 : Int32)) ∧ Exa Z h b "[B" ∧ Arv Z h b kb .byte cn cs (.int (0 : Int32))
set_option maxRecDepth 65536 in
set_option maxHeartbeats 40000000 in
theorem rm14 (l : Launch) (Z : State) (a0 : Array Value) (hw : ∀ d ∈ tables_1, d.before a0 Z = true) (r0 : Addr) (r1 : Addr) (t : Addr) (kt : ClassId) (cs : List Value) (cn : Int32) (zCS : Int32) (h0 : Heap) (n0 : Nat) (Z0 : n0 ≤ h0.size) (E_r0 : Exa Z h0 r0 "java/lang/String") (F_value_r0 : Fld Z h0 r0 "java/lang/String" "value" "[B" .null) (F_coder_r0 : Fld Z h0 r0 "java/lang/String" "coder" "B" (.int (0 : Int32))) (g_r0 : n0 ≤ r0) (ne_01 : r0 ≠ r1) (ne_0t : r0 ≠ t) (E_r1 : Exa Z h0 r1 "java/lang/StringBuilder") (F_value_r1 : Fld Z h0 r1 "java/lang/AbstractStringBuilder" "value" "[B" (.ref t)) (F_coder_r1 : Fld Z h0 r1 "java/lang/AbstractStringBuilder" "coder" "B" (.int (0 : Int32))) (F_count_r1 : Fld Z h0 r1 "java/lang/AbstractStringBuilder" "count" "I" (.int cn)) (V_t : Arv Z h0 t kt .byte (1024 : Int32) cs (.int (0 : Int32))) (S_COMPACT_STRINGS : Sta Z h0 "java/lang/String" "COMPACT_STRINGS" "Z" (.int zCS)) (hCS : ¬ zCS = 0) (hcn : cn.toInt = cs.length ∧ cn.toInt ≤ 64 ∧ cn.toInt < 1024) :
    Ctr l Z (⟨"java/lang/String", "<init>", "(Ljava/lang/AbstractStringBuilder;Ljava/lang/Void;)V"⟩ : MethodName) jdk_42_method_150_code 5 none ({ frames := 3, cells := 1, slots := 64, locals := 71 } : Room) #[(.ref r0), (.ref r1), .null] h0 (Q_rm14 Z r0 r1 t kt cs cn zCS h0 n0) := by
  refine Ctr.body (fr := fun m => mkF m 0 #[.val (.ref r0), .val (.ref r1), .val .null, .unset, .unset] []) (plainFor_of_name pn_java_lang_String) (fun m => by first | (simp [entryFrame, mkF, argsToLocals, Value.category]; done) | rfl) fun p e s m below meth c s₁ hx hby hml hZ hown hnm hret hlk X0 e0 => ?_
  have N0 := Fr.nil n0
  have hown : s.vm.findClass "java/lang/String" = some m.cls := hown
  have KC : Keep h0 h0 [r0] := Keep.refl _ _
  show W p e below _ (s₁.setTop (mkF m 0 #[.val (.ref r0), .val (.ref r1), .val .null, .unset, .unset] []))
  refine W.go (fun _ hr => XS.aloadN X0.here hx rfl (hb hby d14_0) rfl rfl hr) ?_
  show W p e below _ (s₁.setTop (mkF m 1 #[.val (.ref r0), .val (.ref r1), .val .null, .unset, .unset] [(.ref r0)]))
  obtain ⟨T1, X1, e1, st1⟩ := initO X0 hx hZ hown (hw _ (List.mem_of_getElem? (i := 87) rfl)) (hw _ (List.mem_of_getElem? (i := 7) rfl)) (hw _ (List.mem_of_getElem? (i := 8) rfl)) e0 (g := (mkF m 1 #[.val (.ref r0), .val (.ref r1), .val .null, .unset, .unset] [(.ref r0)])) rfl (by rw [hml]; rfl) rfl (hb hby d14_1) (by decide) (W := 0) (by show 2 * 0 + _ ≤ _; exact Nat.le_of_eq rfl) (by decide)
  refine W.go st1 ?_
  show W p e below _ (T1.setTop (mkF m 4 #[.val (.ref r0), .val (.ref r1), .val .null, .unset, .unset] []))
  refine W.go (fun _ hr => XS.aloadN X1.here hx rfl (hb hby d14_4) rfl rfl hr) ?_
  show W p e below _ (T1.setTop (mkF m 5 #[.val (.ref r0), .val (.ref r1), .val .null, .unset, .unset] [(.ref r1)]))
  refine W.callV X1 hx hZ hown (g := (mkF m 5 #[.val (.ref r0), .val (.ref r1), .val .null, .unset, .unset] [(.ref r1)])) (by rw [hml]; rfl) (hw _ (List.mem_of_getElem? (i := 88) rfl)) (hw _ (List.mem_of_getElem? (i := 89) rfl)) (hw _ (List.mem_of_getElem? (i := 91) rfl)) (hw _ (List.mem_of_getElem? (i := 90) rfl)) (hw _ (List.mem_of_getElem? (i := 19) rfl)) (hw _ (List.mem_of_getElem? (i := 92) rfl)) e1 (rm15 l Z a0 hw r1 t h0 n0 Z0 F_value_r1) (notFace_of_selects (args := #[]) (mvT hZ (hw _ (List.mem_of_getElem? (i := 91) rfl)))) (by decide) pd_91 rfl E_r1 (argsL := []) (rest := []) rfl rfl rfl (hb hby d14_5) (W0 := 0) rfl (by decide) (by decide) (by decide) (by decide) (fun v2 T2 h2 L2 X2 e2 hQ2 => ?_)
  obtain ⟨rfl, N2q, hh2⟩ := hQ2
  obtain rfl := hh2.symm
  have N2 := Fr.app N0 N2q
  show W p e below _ (T2.setTop (mkF m 8 #[.val (.ref r0), .val (.ref r1), .val .null, .unset, .unset] [(.ref t)]))
  refine W.go (fun _ hr => XS.astoreN X2.here hx rfl (hb hby d14_8) rfl rfl (l' := #[.val (.ref r0), .val (.ref r1), .val .null, .val (.ref t), .unset]) rfl hr) ?_
  show W p e below _ (T2.setTop (mkF m 9 #[.val (.ref r0), .val (.ref r1), .val .null, .val (.ref t), .unset] []))
  refine W.go (fun _ hr => XS.aloadN X2.here hx rfl (hb hby d14_9) rfl rfl hr) ?_
  show W p e below _ (T2.setTop (mkF m 10 #[.val (.ref r0), .val (.ref r1), .val .null, .val (.ref t), .unset] [(.ref r1)]))
  refine W.callV X2 hx hZ hown (g := (mkF m 10 #[.val (.ref r0), .val (.ref r1), .val .null, .val (.ref t), .unset] [(.ref r1)])) (by rw [hml]; rfl) (hw _ (List.mem_of_getElem? (i := 93) rfl)) (hw _ (List.mem_of_getElem? (i := 94) rfl)) (hw _ (List.mem_of_getElem? (i := 96) rfl)) (hw _ (List.mem_of_getElem? (i := 97) rfl)) (hw _ (List.mem_of_getElem? (i := 11) rfl)) (hw _ (List.mem_of_getElem? (i := 98) rfl)) e2 (rm16 l Z a0 hw r1 cn h0 n0 Z0 E_r1 F_count_r1) (nfOf (args := #[]) (mvT hZ (hw _ (List.mem_of_getElem? (i := 58) rfl))) rfl) (by decide) pd_28 rfl E_r1 (argsL := []) (rest := []) rfl rfl rfl (hb hby d14_10) (W0 := 0) rfl (by decide) (by decide) (by decide) (by decide) (fun v3 T3 h3 L3 X3 e3 hQ3 => ?_)
  obtain ⟨rfl, N3q, hh3⟩ := hQ3
  obtain rfl := hh3.symm
  have N3 := Fr.app N2 N3q
  show W p e below _ (T3.setTop (mkF m 13 #[.val (.ref r0), .val (.ref r1), .val .null, .val (.ref t), .unset] [(.int cn)]))
  refine W.go (fun _ hr => XS.istore X3.here hx rfl (hb hby d14_13) rfl (l' := #[.val (.ref r0), .val (.ref r1), .val .null, .val (.ref t), .val (.int cn)]) rfl hr) ?_
  show W p e below _ (T3.setTop (mkF m 15 #[.val (.ref r0), .val (.ref r1), .val .null, .val (.ref t), .val (.int cn)] []))
  refine W.go (fun _ hr => XS.aloadN X3.here hx rfl (hb hby d14_15) rfl rfl hr) ?_
  show W p e below _ (T3.setTop (mkF m 16 #[.val (.ref r0), .val (.ref r1), .val .null, .val (.ref t), .val (.int cn)] [(.ref r1)]))
  refine W.callV X3 hx hZ hown (g := (mkF m 16 #[.val (.ref r0), .val (.ref r1), .val .null, .val (.ref t), .val (.int cn)] [(.ref r1)])) (by rw [hml]; rfl) (hw _ (List.mem_of_getElem? (i := 101) rfl)) (hw _ (List.mem_of_getElem? (i := 61) rfl)) (hw _ (List.mem_of_getElem? (i := 63) rfl)) (hw _ (List.mem_of_getElem? (i := 62) rfl)) (hw _ (List.mem_of_getElem? (i := 19) rfl)) (hw _ (List.mem_of_getElem? (i := 64) rfl)) e3 (rm9 l Z a0 hw r1 zCS h0 n0 Z0 F_coder_r1 S_COMPACT_STRINGS hCS) (notFace_of_selects (args := #[]) (mvT hZ (hw _ (List.mem_of_getElem? (i := 63) rfl)))) (by decide) pd_98 rfl E_r1 (argsL := []) (rest := []) rfl rfl rfl (hb hby d14_16) (W0 := 0) rfl (by decide) (by decide) (by decide) (by decide) (fun v4 T4 h4 L4 X4 e4 hQ4 => ?_)
  obtain ⟨rfl, N4q, hh4⟩ := hQ4
  obtain rfl := hh4.symm
  have N4 := Fr.app N3 N4q
  show W p e below _ (T4.setTop (mkF m 19 #[.val (.ref r0), .val (.ref r1), .val .null, .val (.ref t), .val (.int cn)] [(.int (1 : Int32))]))
  refine W.go (fun _ hr => XS.ifNo X4.here hx rfl (hb hby d14_19) rfl ((if0 _ _).trans (feq (by decide : ¬ ((1 : Int32) = (0 : Int32)))).1) hr) ?_
  show W p e below _ (T4.setTop (mkF m 22 #[.val (.ref r0), .val (.ref r1), .val .null, .val (.ref t), .val (.int cn)] []))
  refine W.go (fun _ hr => XS.aloadN X4.here hx rfl (hb hby d14_22) rfl rfl hr) ?_
  show W p e below _ (T4.setTop (mkF m 23 #[.val (.ref r0), .val (.ref r1), .val .null, .val (.ref t), .val (.int cn)] [(.ref r0)]))
  refine W.go (fun _ hr => XS.iconst X4.here hx rfl (hb hby d14_23) hr) ?_
  show W p e below _ (T4.setTop (mkF m 24 #[.val (.ref r0), .val (.ref r1), .val .null, .val (.ref t), .val (.int cn)] [(.int (0 : Int32)), (.ref r0)]))
  obtain ⟨T5, h5, X5, e5, W5, st5⟩ := putFN X4 hx hZ hown (hw _ (List.mem_of_getElem? (i := 102) rfl)) Via.refl e4 F_coder_r0 E_r0 (Or.inr ⟨(hw _ (List.mem_of_getElem? (i := 34) rfl)), rfl, hnm⟩) (hw _ (List.mem_of_getElem? (i := 32) rfl)) (ty := .byte) (v' := (.int (0 : Int32))) (by decide) rfl (by decide) (g := (mkF m 24 #[.val (.ref r0), .val (.ref r1), .val .null, .val (.ref t), .val (.int cn)] [(.int (0 : Int32)), (.ref r0)])) rfl rfl (hb hby d14_24)
  refine W.go st5 ?_
  replace S_COMPACT_STRINGS := Sta.wr W5 S_COMPACT_STRINGS
  replace E_r1 := E_r1.wr W5
  replace F_value_r1 := F_value_r1.other W5 (Or.inl (Ne.symm ne_01))
  replace F_coder_r1 := F_coder_r1.other W5 (Or.inl (Ne.symm ne_01))
  replace F_count_r1 := F_count_r1.other W5 (Or.inl (Ne.symm ne_01))
  replace V_t := V_t.other W5 (Ne.symm ne_0t)
  replace E_r0 := E_r0.wr W5
  replace F_value_r0 := F_value_r0.other W5 (Or.inr (slot_ne (Or.inr (hw _ (List.mem_of_getElem? (i := 33) rfl))) (Or.inr (hw _ (List.mem_of_getElem? (i := 34) rfl))) (by decide) (t := (.array .byte)) (t' := .byte) (by decide) (by decide)))
  replace F_coder_r0 := F_coder_r0.same W5
  have Z6 : n0 ≤ h5.size := Nat.le_trans Z0 (Keep.of_wr W5).1
  replace KC := KC.wr W5 (Or.inl (List.mem_of_getElem? (i := 0) rfl))
  have N5 := Fr.snoc X5 N4 g_r0
  show W p e below _ (T5.setTop (mkF m 27 #[.val (.ref r0), .val (.ref r1), .val .null, .val (.ref t), .val (.int cn)] []))
  refine W.go (fun _ hr => XS.aloadN X5.here hx rfl (hb hby d14_27) rfl rfl hr) ?_
  show W p e below _ (T5.setTop (mkF m 28 #[.val (.ref r0), .val (.ref r1), .val .null, .val (.ref t), .val (.int cn)] [(.ref r0)]))
  refine W.go (fun _ hr => XS.aloadN X5.here hx rfl (hb hby d14_28) rfl rfl hr) ?_
  show W p e below _ (T5.setTop (mkF m 29 #[.val (.ref r0), .val (.ref r1), .val .null, .val (.ref t), .val (.int cn)] [(.ref t), (.ref r0)]))
  refine W.go (fun _ hr => XS.iconst X5.here hx rfl (hb hby d14_29) hr) ?_
  show W p e below _ (T5.setTop (mkF m 30 #[.val (.ref r0), .val (.ref r1), .val .null, .val (.ref t), .val (.int cn)] [(.int (0 : Int32)), (.ref t), (.ref r0)]))
  refine W.go (fun _ hr => XS.iload X5.here hx rfl (hb hby d14_30) rfl hr) ?_
  show W p e below _ (T5.setTop (mkF m 32 #[.val (.ref r0), .val (.ref r1), .val .null, .val (.ref t), .val (.int cn)] [(.int cn), (.int (0 : Int32)), (.ref t), (.ref r0)]))
  refine W.callS X5 hx hZ hown (g := (mkF m 32 #[.val (.ref r0), .val (.ref r1), .val .null, .val (.ref t), .val (.int cn)] [(.int cn), (.int (0 : Int32)), (.ref t), (.ref r0)])) (by rw [hml]; rfl) (hw _ (List.mem_of_getElem? (i := 103) rfl)) (hw _ (List.mem_of_getElem? (i := 104) rfl)) (hw _ (List.mem_of_getElem? (i := 105) rfl)) (hw _ (List.mem_of_getElem? (i := 106) rfl)) e5 (rm18 l Z a0 hw t cn kt cs h5 n0 Z6 V_t hcn) (by decide) pd_85 rfl (argsL := [(.ref t), (.int (0 : Int32)), (.int cn)]) (rest := [(.ref r0)]) rfl rfl rfl (hb hby d14_32) (W0 := 1) rfl (by decide) (by decide) (by decide) (by decide) (fun v7 T7 h7 L7 X7 e7 hQ7 => ?_)
  obtain ⟨b7, kb7, rfl, N7q, K7, sb7, E_b7, V_b7⟩ := hQ7
  have N7 := Fr.app N5 N7q
  have ne_r1_b7 : r1 ≠ b7 := Nat.ne_of_lt (Nat.lt_of_lt_of_le E_r1.lt sb7)
  have ne_t_b7 : t ≠ b7 := Nat.ne_of_lt (Nat.lt_of_lt_of_le V_t.lt sb7)
  have ne_r0_b7 : r0 ≠ b7 := Nat.ne_of_lt (Nat.lt_of_lt_of_le E_r0.lt sb7)
  have g_b7 : n0 ≤ b7 := Nat.le_trans Z6 sb7
  have sz_b7 : h0.size ≤ b7 := Nat.le_trans KC.1 sb7
  replace S_COMPACT_STRINGS := Sta.keep S_COMPACT_STRINGS K7 ns0
  replace E_r1 := E_r1.keep K7
  replace F_value_r1 := F_value_r1.keep K7 nin0
  replace F_coder_r1 := F_coder_r1.keep K7 nin0
  replace F_count_r1 := F_count_r1.keep K7 nin0
  replace V_t := V_t.keep K7 nin0
  replace E_r0 := E_r0.keep K7
  replace F_value_r0 := F_value_r0.keep K7 nin0
  replace F_coder_r0 := F_coder_r0.keep K7 nin0
  have Z8 : n0 ≤ h7.size := Nat.le_trans Z6 K7.1
  replace KC := KC.trans K7 all0
  show W p e below _ (T7.setTop (mkF m 35 #[.val (.ref r0), .val (.ref r1), .val .null, .val (.ref t), .val (.int cn)] [(.ref b7), (.ref r0)]))
  obtain ⟨T9, h9, X9, e9, W9, st9⟩ := putF X7 hx hZ hown (host := "") (Or.inl (hw _ (List.mem_of_getElem? (i := 121) rfl))) Via.refl e7 F_value_r0 E_r0 (Or.inr ⟨(hw _ (List.mem_of_getElem? (i := 33) rfl)), rfl, hnm⟩) (hw _ (List.mem_of_getElem? (i := 32) rfl)) (ty := (.array .byte)) (by decide) rfl rfl (g := (mkF m 35 #[.val (.ref r0), .val (.ref r1), .val .null, .val (.ref t), .val (.int cn)] [(.ref b7), (.ref r0)])) rfl rfl (hb hby d14_35)
  refine W.go st9 ?_
  replace S_COMPACT_STRINGS := Sta.wr W9 S_COMPACT_STRINGS
  replace E_r1 := E_r1.wr W9
  replace F_value_r1 := F_value_r1.other W9 (Or.inl (Ne.symm ne_01))
  replace F_coder_r1 := F_coder_r1.other W9 (Or.inl (Ne.symm ne_01))
  replace F_count_r1 := F_count_r1.other W9 (Or.inl (Ne.symm ne_01))
  replace V_t := V_t.other W9 (Ne.symm ne_0t)
  replace E_r0 := E_r0.wr W9
  replace F_value_r0 := F_value_r0.same W9
  replace F_coder_r0 := F_coder_r0.other W9 (Or.inr (slot_ne (Or.inr (hw _ (List.mem_of_getElem? (i := 34) rfl))) (Or.inr (hw _ (List.mem_of_getElem? (i := 33) rfl))) (by decide) (t := .byte) (t' := (.array .byte)) (by decide) (by decide)))
  replace E_b7 := E_b7.wr W9
  replace V_b7 := V_b7.other W9 (Ne.symm ne_r0_b7)
  have Z10 : n0 ≤ h9.size := Nat.le_trans Z8 (Keep.of_wr W9).1
  replace KC := KC.wr W9 (Or.inl (List.mem_of_getElem? (i := 0) rfl))
  have N9 := Fr.snoc X9 N7 g_r0
  show W p e below _ (T9.setTop (mkF m 38 #[.val (.ref r0), .val (.ref r1), .val .null, .val (.ref t), .val (.int cn)] []))
  refine W.go (fun _ hr => XS.goto X9.here hx rfl (pc0 := 38) (pc' := 97) rfl (hb hby d14_38) (by decide) (by decide) hr) ?_
  show W p e below _ (T9.setTop (mkF m 97 #[.val (.ref r0), .val (.ref r1), .val .null, .val (.ref t), .val (.int cn)] []))
  exact W.retV X9 hx hlk hret (hb hby d14_97) (by decide) (by decide) e9 ⟨rfl, N9, KC, E_r0, _, _, sz_b7, F_value_r0, F_coder_r0, E_b7, V_b7⟩
theorem d13_0 : decode jdk_42_method_53_code 0 = .ok (.aload_n 0, 1) := by decide +kernel
theorem d13_1 : decode jdk_42_method_53_code 1 = .ok (.aload_n 1, 1) := by decide +kernel
theorem d13_2 : decode jdk_42_method_53_code 2 = .ok (.aconst_null, 1) := by decide +kernel
theorem d13_3 : decode jdk_42_method_53_code 3 = .ok (.invokespecial 489, 3) := by decide +kernel
theorem pd_116 : parseMethodDescriptor "(Ljava/lang/AbstractStringBuilder;Ljava/lang/Void;)V" = some ⟨[(.object "java/lang/AbstractStringBuilder"), (.object "java/lang/Void")], none⟩ := by decide +kernel
theorem d13_6 : decode jdk_42_method_53_code 6 = .ok (.return_, 1) := by decide +kernel
def Q_rm13 (Z : State) (r0 : Addr) (r1 : Addr) (t : Addr) (kt : ClassId) (cs : List Value) (cn : Int32) (zCS : Int32) (h0 : Heap) (n0 : Nat) (v : Option Value) (h : Heap) (L : List Loc) : Prop := v = none ∧ Fr n0 L ∧ Keep h0 h [r0] ∧ Exa Z h r0 "java/lang/String" ∧ ∃ (b : Addr) (kb : ClassId), h0.size ≤ b ∧ Fld Z h r0 "java/lang/String" "value" "[B" (.ref b) ∧ Fld Z h r0 "java/lang/String" "coder" "B" (.int (0 : Int32)) ∧ Exa Z h b "[B" ∧ Arv Z h b kb .byte cn cs (.int (0 : Int32))
set_option maxRecDepth 65536 in
set_option maxHeartbeats 40000000 in
theorem rm13 (l : Launch) (Z : State) (a0 : Array Value) (hw : ∀ d ∈ tables_1, d.before a0 Z = true) (r0 : Addr) (r1 : Addr) (t : Addr) (kt : ClassId) (cs : List Value) (cn : Int32) (zCS : Int32) (h0 : Heap) (n0 : Nat) (Z0 : n0 ≤ h0.size) (E_r0 : Exa Z h0 r0 "java/lang/String") (F_value_r0 : Fld Z h0 r0 "java/lang/String" "value" "[B" .null) (F_coder_r0 : Fld Z h0 r0 "java/lang/String" "coder" "B" (.int (0 : Int32))) (g_r0 : n0 ≤ r0) (ne_01 : r0 ≠ r1) (ne_0t : r0 ≠ t) (E_r1 : Exa Z h0 r1 "java/lang/StringBuilder") (F_value_r1 : Fld Z h0 r1 "java/lang/AbstractStringBuilder" "value" "[B" (.ref t)) (F_coder_r1 : Fld Z h0 r1 "java/lang/AbstractStringBuilder" "coder" "B" (.int (0 : Int32))) (F_count_r1 : Fld Z h0 r1 "java/lang/AbstractStringBuilder" "count" "I" (.int cn)) (V_t : Arv Z h0 t kt .byte (1024 : Int32) cs (.int (0 : Int32))) (S_COMPACT_STRINGS : Sta Z h0 "java/lang/String" "COMPACT_STRINGS" "Z" (.int zCS)) (hCS : ¬ zCS = 0) (hcn : cn.toInt = cs.length ∧ cn.toInt ≤ 64 ∧ cn.toInt < 1024) :
    Ctr l Z (⟨"java/lang/String", "<init>", "(Ljava/lang/StringBuilder;)V"⟩ : MethodName) jdk_42_method_53_code 2 none ({ frames := 4, cells := 1, slots := 64, locals := 87 } : Room) #[(.ref r0), (.ref r1)] h0 (Q_rm13 Z r0 r1 t kt cs cn zCS h0 n0) := by
  refine Ctr.body (fr := fun m => mkF m 0 #[.val (.ref r0), .val (.ref r1)] []) (plainFor_of_name pn_java_lang_String) (fun m => by first | (simp [entryFrame, mkF, argsToLocals, Value.category]; done) | rfl) fun p e s m below meth c s₁ hx hby hml hZ hown hnm hret hlk X0 e0 => ?_
  have N0 := Fr.nil n0
  have hown : s.vm.findClass "java/lang/String" = some m.cls := hown
  have KC : Keep h0 h0 [r0] := Keep.refl _ _
  show W p e below _ (s₁.setTop (mkF m 0 #[.val (.ref r0), .val (.ref r1)] []))
  refine W.go (fun _ hr => XS.aloadN X0.here hx rfl (hb hby d13_0) rfl rfl hr) ?_
  show W p e below _ (s₁.setTop (mkF m 1 #[.val (.ref r0), .val (.ref r1)] [(.ref r0)]))
  refine W.go (fun _ hr => XS.aloadN X0.here hx rfl (hb hby d13_1) rfl rfl hr) ?_
  show W p e below _ (s₁.setTop (mkF m 2 #[.val (.ref r0), .val (.ref r1)] [(.ref r1), (.ref r0)]))
  refine W.go (fun _ hr => XS.aconstNull X0.here hx rfl (hb hby d13_2) hr) ?_
  show W p e below _ (s₁.setTop (mkF m 3 #[.val (.ref r0), .val (.ref r1)] [.null, (.ref r1), (.ref r0)]))
  refine W.callI X0 hx hZ hown (g := (mkF m 3 #[.val (.ref r0), .val (.ref r1)] [.null, (.ref r1), (.ref r0)])) (by rw [hml]; rfl) (hw _ (List.mem_of_getElem? (i := 84) rfl)) (hw _ (List.mem_of_getElem? (i := 85) rfl)) (hw _ (List.mem_of_getElem? (i := 23) rfl)) (hw _ (List.mem_of_getElem? (i := 86) rfl)) e0 (rm14 l Z a0 hw r0 r1 t kt cs cn zCS h0 n0 Z0 E_r0 F_value_r0 F_coder_r0 g_r0 ne_01 ne_0t E_r1 F_value_r1 F_coder_r1 F_count_r1 V_t S_COMPACT_STRINGS hCS hcn) rfl (by decide) pd_116 rfl (b := r0) (argsL := [(.ref r1), .null]) (rest := []) rfl rfl rfl (hb hby d13_3) (W0 := 0) rfl (by decide) (by decide) (by decide) (by decide) (fun v1 T1 h1 L1 X1 e1 hQ1 => ?_)
  obtain ⟨rfl, N1q, K1, Ee1, b1, kb1, sb1, Fv1, Fc1, E_b1, V_b1⟩ := hQ1
  have N1 := Fr.app N0 N1q
  have ne_r1_b1 : r1 ≠ b1 := Nat.ne_of_lt (Nat.lt_of_lt_of_le E_r1.lt sb1)
  have ne_t_b1 : t ≠ b1 := Nat.ne_of_lt (Nat.lt_of_lt_of_le V_t.lt sb1)
  have ne_r0_b1 : r0 ≠ b1 := Nat.ne_of_lt (Nat.lt_of_lt_of_le E_r0.lt sb1)
  have g_b1 : n0 ≤ b1 := Nat.le_trans Z0 sb1
  have sz_b1 : h0.size ≤ b1 := Nat.le_trans KC.1 sb1
  have nsK1 := (nsS E_r0.nostat ns0)
  replace S_COMPACT_STRINGS := Sta.keep S_COMPACT_STRINGS K1 nsK1
  replace E_r1 := E_r1.keep K1
  replace F_value_r1 := F_value_r1.keep K1 (ninS (Ne.symm ne_01) nin0)
  replace F_coder_r1 := F_coder_r1.keep K1 (ninS (Ne.symm ne_01) nin0)
  replace F_count_r1 := F_count_r1.keep K1 (ninS (Ne.symm ne_01) nin0)
  replace V_t := V_t.keep K1 (ninS (Ne.symm ne_0t) nin0)
  replace E_r0 := E_r0.keep K1
  have Z2 : n0 ≤ h1.size := Nat.le_trans Z0 K1.1
  replace KC := KC.trans K1 (allS (Or.inl (List.mem_of_getElem? (i := 0) rfl)) all0)
  show W p e below _ (T1.setTop (mkF m 6 #[.val (.ref r0), .val (.ref r1)] []))
  exact W.retV X1 hx hlk hret (hb hby d13_6) (by decide) (by decide) e1 ⟨rfl, N1, KC, E_r0, _, _, sz_b1, Fv1, Fc1, E_b1, V_b1⟩
theorem d12_0 : decode jdk_67_method_42_code 0 = .ok (.new 18, 3) := by decide +kernel
theorem d12_3 : decode jdk_67_method_42_code 3 = .ok (.dup, 1) := by decide +kernel
theorem d12_4 : decode jdk_67_method_42_code 4 = .ok (.aload_n 0, 1) := by decide +kernel
theorem d12_5 : decode jdk_67_method_42_code 5 = .ok (.invokespecial 137, 3) := by decide +kernel
theorem pd_122 : parseMethodDescriptor "(Ljava/lang/StringBuilder;)V" = some ⟨[(.object "java/lang/StringBuilder")], none⟩ := by decide +kernel
theorem d12_8 : decode jdk_67_method_42_code 8 = .ok (.areturn, 1) := by decide +kernel
def Q_rm12 (Z : State) (r0 : Addr) (t : Addr) (kt : ClassId) (cs : List Value) (cn : Int32) (zCS : Int32) (h0 : Heap) (n0 : Nat) (v : Option Value) (h : Heap) (L : List Loc) : Prop := ∃ (o b : Addr) (kb : ClassId), v = some (.ref o) ∧ Fr n0 L ∧ Keep h0 h [] ∧ h0.size ≤ o ∧ h0.size ≤ b ∧ o ≠ b ∧ Exa Z h o "java/lang/String" ∧ Fld Z h o "java/lang/String" "value" "[B" (.ref b) ∧ Fld Z h o "java/lang/String" "coder" "B" (.int (0 : Int32)) ∧ Exa Z h b "[B" ∧ Arv Z h b kb .byte cn cs (.int (0 : Int32))
set_option maxRecDepth 65536 in
set_option maxHeartbeats 40000000 in
theorem rm12 (l : Launch) (Z : State) (a0 : Array Value) (hw : ∀ d ∈ tables_1, d.before a0 Z = true) (r0 : Addr) (t : Addr) (kt : ClassId) (cs : List Value) (cn : Int32) (zCS : Int32) (h0 : Heap) (n0 : Nat) (Z0 : n0 ≤ h0.size) (E_r0 : Exa Z h0 r0 "java/lang/StringBuilder") (F_value_r0 : Fld Z h0 r0 "java/lang/AbstractStringBuilder" "value" "[B" (.ref t)) (F_coder_r0 : Fld Z h0 r0 "java/lang/AbstractStringBuilder" "coder" "B" (.int (0 : Int32))) (F_count_r0 : Fld Z h0 r0 "java/lang/AbstractStringBuilder" "count" "I" (.int cn)) (V_t : Arv Z h0 t kt .byte (1024 : Int32) cs (.int (0 : Int32))) (S_COMPACT_STRINGS : Sta Z h0 "java/lang/String" "COMPACT_STRINGS" "Z" (.int zCS)) (hCS : ¬ zCS = 0) (hcn : cn.toInt = cs.length ∧ cn.toInt ≤ 64 ∧ cn.toInt < 1024) :
    Ctr l Z (⟨"java/lang/StringBuilder", "toString", "()Ljava/lang/String;"⟩ : MethodName) jdk_67_method_42_code 1 (some (.object "java/lang/String")) ({ frames := 5, cells := 2, slots := 68, locals := 101 } : Room) #[(.ref r0)] h0 (Q_rm12 Z r0 t kt cs cn zCS h0 n0) := by
  refine Ctr.body (fr := fun m => mkF m 0 #[.val (.ref r0)] []) (plainFor_of_name pn_java_lang_StringBuilder) (fun m => by first | (simp [entryFrame, mkF, argsToLocals, Value.category]; done) | rfl) fun p e s m below meth c s₁ hx hby hml hZ hown hnm hret hlk X0 e0 => ?_
  have N0 := Fr.nil n0
  have hown : s.vm.findClass "java/lang/StringBuilder" = some m.cls := hown
  have KC : Keep h0 h0 [] := Keep.refl _ _
  show W p e below _ (s₁.setTop (mkF m 0 #[.val (.ref r0)] []))
  obtain ⟨T1, h1, X1, e1, E1, E_b1, D1, U1, st1⟩ := newO X0 hx hZ hown (hw _ (List.mem_of_getElem? (i := 79) rfl)) (hw _ (List.mem_of_getElem? (i := 32) rfl)) (hw _ (List.mem_of_getElem? (i := 23) rfl)) e0 (g := (mkF m 0 #[.val (.ref r0)] [])) rfl (hb hby d12_0) (by decide) (by decide)
  obtain ⟨b1, g1⟩ : ∃ z, z = h0.size := ⟨_, rfl⟩
  rw [← g1] at E_b1 D1 U1 st1
  have ne_r0_b1 : r0 ≠ b1 := Nat.ne_of_lt (Nat.lt_of_lt_of_le E_r0.lt (Nat.le_of_eq g1.symm))
  have ne_t_b1 : t ≠ b1 := Nat.ne_of_lt (Nat.lt_of_lt_of_le V_t.lt (Nat.le_of_eq g1.symm))
  have g_b1 : n0 ≤ b1 := Nat.le_trans Z0 (Nat.le_of_eq g1.symm)
  have sz_b1 : h0.size ≤ b1 := Nat.le_trans KC.1 (Nat.le_of_eq g1.symm)
  replace S_COMPACT_STRINGS := Sta.ext E1 S_COMPACT_STRINGS
  replace E_r0 := E_r0.ext E1
  replace F_value_r0 := F_value_r0.ext E1
  replace F_coder_r0 := F_coder_r0.ext E1
  replace F_count_r0 := F_count_r0.ext E1
  replace V_t := V_t.ext E1
  have Z2 : n0 ≤ h1.size := Nat.le_trans Z0 E1.1
  replace KC := KC.ext E1
  have F_value_b1 : Fld Z h1 b1 "java/lang/String" "value" "[B" .null := D1 (Or.inr (hw _ (List.mem_of_getElem? (i := 33) rfl))) (ty := (.array .byte)) (by decide)
  have F_coder_b1 : Fld Z h1 b1 "java/lang/String" "coder" "B" (.int (0 : Int32)) := D1 (Or.inr (hw _ (List.mem_of_getElem? (i := 34) rfl))) (ty := .byte) (by decide)
  refine W.go st1 ?_
  show W p e below _ (T1.setTop (mkF m 3 #[.val (.ref r0)] [(.ref b1)]))
  refine W.go (fun _ hr => XS.dup X1.here hx rfl (hb hby d12_3) rfl rfl hr) ?_
  show W p e below _ (T1.setTop (mkF m 4 #[.val (.ref r0)] [(.ref b1), (.ref b1)]))
  refine W.go (fun _ hr => XS.aloadN X1.here hx rfl (hb hby d12_4) rfl rfl hr) ?_
  show W p e below _ (T1.setTop (mkF m 5 #[.val (.ref r0)] [(.ref r0), (.ref b1), (.ref b1)]))
  refine W.callI X1 hx hZ hown (g := (mkF m 5 #[.val (.ref r0)] [(.ref r0), (.ref b1), (.ref b1)])) (by rw [hml]; rfl) (hw _ (List.mem_of_getElem? (i := 80) rfl)) (hw _ (List.mem_of_getElem? (i := 81) rfl)) (hw _ (List.mem_of_getElem? (i := 23) rfl)) (hw _ (List.mem_of_getElem? (i := 83) rfl)) e1 (rm13 l Z a0 hw b1 r0 t kt cs cn zCS h1 n0 Z2 E_b1 F_value_b1 F_coder_b1 g_b1 (Ne.symm ne_r0_b1) (Ne.symm ne_t_b1) E_r0 F_value_r0 F_coder_r0 F_count_r0 V_t S_COMPACT_STRINGS hCS hcn) rfl (by decide) pd_122 rfl (b := b1) (argsL := [(.ref r0)]) (rest := [(.ref b1)]) rfl rfl rfl (hb hby d12_5) (W0 := 1) rfl (by decide) (by decide) (by decide) (by decide) (fun v3 T3 h3 L3 X3 e3 hQ3 => ?_)
  obtain ⟨rfl, N3q, K3, Ee3, b3, kb3, sb3, Fv3, Fc3, E_b3, V_b3⟩ := hQ3
  have N3 := Fr.app N0 N3q
  have ne_r0_b3 : r0 ≠ b3 := Nat.ne_of_lt (Nat.lt_of_lt_of_le E_r0.lt sb3)
  have ne_t_b3 : t ≠ b3 := Nat.ne_of_lt (Nat.lt_of_lt_of_le V_t.lt sb3)
  have ne_b1_b3 : b1 ≠ b3 := Nat.ne_of_lt (Nat.lt_of_lt_of_le E_b1.lt sb3)
  have g_b3 : n0 ≤ b3 := Nat.le_trans Z2 sb3
  have sz_b3 : h0.size ≤ b3 := Nat.le_trans KC.1 sb3
  have nsK3 := (nsS E_b1.nostat ns0)
  replace S_COMPACT_STRINGS := Sta.keep S_COMPACT_STRINGS K3 nsK3
  replace E_r0 := E_r0.keep K3
  replace F_value_r0 := F_value_r0.keep K3 (ninS ne_r0_b1 nin0)
  replace F_coder_r0 := F_coder_r0.keep K3 (ninS ne_r0_b1 nin0)
  replace F_count_r0 := F_count_r0.keep K3 (ninS ne_r0_b1 nin0)
  replace V_t := V_t.keep K3 (ninS ne_t_b1 nin0)
  replace E_b1 := E_b1.keep K3
  have Z4 : n0 ≤ h3.size := Nat.le_trans Z2 K3.1
  replace KC := KC.trans K3 (allS (Or.inr sz_b1) all0)
  show W p e below _ (T3.setTop (mkF m 8 #[.val (.ref r0)] [(.ref b1)]))
  exact W.retA X3 hx hlk hret rfl rfl (hb hby d12_8) (by decide) (by decide) e3 ⟨_, _, _, rfl, N3, KC, sz_b1, sz_b3, ne_b1_b3, E_b1, Fv3, Fc3, E_b3, V_b3⟩
theorem d8_0 : decode jdk_68_method_9_code 0 = .ok (.aload_n 0, 1) := by decide +kernel
theorem d8_1 : decode jdk_68_method_9_code 1 = .ok (.getfield 15, 3) := by decide +kernel
theorem d8_4 : decode jdk_68_method_9_code 4 = .ok (.arraylength, 1) := by decide +kernel
theorem d8_5 : decode jdk_68_method_9_code 5 = .ok (.aload_n 0, 1) := by decide +kernel
theorem d8_6 : decode jdk_68_method_9_code 6 = .ok (.getfield 22, 3) := by decide +kernel
theorem d8_9 : decode jdk_68_method_9_code 9 = .ok (.ishr, 1) := by decide +kernel
theorem d8_10 : decode jdk_68_method_9_code 10 = .ok (.istore_n 2, 1) := by decide +kernel
theorem d8_11 : decode jdk_68_method_9_code 11 = .ok (.iload_n 1, 1) := by decide +kernel
theorem d8_12 : decode jdk_68_method_9_code 12 = .ok (.iload_n 2, 1) := by decide +kernel
theorem d8_13 : decode jdk_68_method_9_code 13 = .ok (.isub, 1) := by decide +kernel
theorem d8_14 : decode jdk_68_method_9_code 14 = .ok (.ifCond .le 24, 3) := by decide +kernel
theorem d8_38 : decode jdk_68_method_9_code 38 = .ok (.return_, 1) := by decide +kernel
def Q_rm8 (Z : State) (r0 : Addr) (p1 : Int32) (t : Addr) (kt : ClassId) (cs : List Value) (h0 : Heap) (n0 : Nat) (v : Option Value) (h : Heap) (L : List Loc) : Prop := v = none ∧ Fr n0 L ∧ h = h0
set_option maxRecDepth 65536 in
set_option maxHeartbeats 40000000 in
theorem rm8 (l : Launch) (Z : State) (a0 : Array Value) (hw : ∀ d ∈ tables_1, d.before a0 Z = true) (r0 : Addr) (p1 : Int32) (t : Addr) (kt : ClassId) (cs : List Value) (h0 : Heap) (n0 : Nat) (Z0 : n0 ≤ h0.size) (F_value_r0 : Fld Z h0 r0 "java/lang/AbstractStringBuilder" "value" "[B" (.ref t)) (F_coder_r0 : Fld Z h0 r0 "java/lang/AbstractStringBuilder" "coder" "B" (.int (0 : Int32))) (V_t : Arv Z h0 t kt .byte (1024 : Int32) cs (.int (0 : Int32))) (hcap : ¬ (0 : Int32) < (p1 - (1024 : Int32))) :
    Ctr l Z (⟨"java/lang/AbstractStringBuilder", "ensureCapacityInternal", "(I)V"⟩ : MethodName) jdk_68_method_9_code 3 none ({ frames := 0, cells := 0, slots := 0, locals := 0 } : Room) #[(.ref r0), (.int p1)] h0 (Q_rm8 Z r0 p1 t kt cs h0 n0) := by
  refine Ctr.body (fr := fun m => mkF m 0 #[.val (.ref r0), .val (.int p1), .unset] []) (plainFor_of_name pn_java_lang_AbstractStringBuilder) (fun m => by first | (simp [entryFrame, mkF, argsToLocals, Value.category]; done) | rfl) fun p e s m below meth c s₁ hx hby hml hZ hown hnm hret hlk X0 e0 => ?_
  have N0 := Fr.nil n0
  have hown : s.vm.findClass "java/lang/AbstractStringBuilder" = some m.cls := hown
  show W p e below _ (s₁.setTop (mkF m 0 #[.val (.ref r0), .val (.int p1), .unset] []))
  refine W.go (fun _ hr => XS.aloadN X0.here hx rfl (hb hby d8_0) rfl rfl hr) ?_
  show W p e below _ (s₁.setTop (mkF m 1 #[.val (.ref r0), .val (.int p1), .unset] [(.ref r0)]))
  obtain ⟨T1, X1, e1, st1⟩ := getF X0 hx hZ hown (host := "") (Or.inl (hw _ (List.mem_of_getElem? (i := 25) rfl))) Via.refl e0 F_value_r0 (g := (mkF m 1 #[.val (.ref r0), .val (.int p1), .unset] [(.ref r0)])) rfl rfl (hb hby d8_1)
  refine W.go st1 ?_
  show W p e below _ (T1.setTop (mkF m 4 #[.val (.ref r0), .val (.int p1), .unset] [(.ref t)]))
  obtain ⟨cl2, Ar2, q2, S2, Nn2, H2, G2⟩ := id V_t
  refine W.go (X1.arraylength hx (by rw [e1]; exact Ar2.1) (State.isArrayOf_alike hZ.alike Ar2.2.1) (g := (mkF m 4 #[.val (.ref r0), .val (.int p1), .unset] [(.ref t)])) rfl rfl (hb hby d8_4)) ?_
  rw [len_of S2 Nn2]
  show W p e below _ (T1.setTop (mkF m 5 #[.val (.ref r0), .val (.int p1), .unset] [(.int (1024 : Int32))]))
  refine W.go (fun _ hr => XS.aloadN X1.here hx rfl (hb hby d8_5) rfl rfl hr) ?_
  show W p e below _ (T1.setTop (mkF m 6 #[.val (.ref r0), .val (.int p1), .unset] [(.ref r0), (.int (1024 : Int32))]))
  obtain ⟨T3, X3, e3, st3⟩ := getF X1 hx hZ hown (host := "") (Or.inl (hw _ (List.mem_of_getElem? (i := 27) rfl))) Via.refl e1 F_coder_r0 (g := (mkF m 6 #[.val (.ref r0), .val (.int p1), .unset] [(.ref r0), (.int (1024 : Int32))])) rfl rfl (hb hby d8_6)
  refine W.go st3 ?_
  show W p e below _ (T3.setTop (mkF m 9 #[.val (.ref r0), .val (.int p1), .unset] [(.int (0 : Int32)), (.int (1024 : Int32))]))
  refine W.go (fun _ hr => XS.ishr X3.here hx rfl (hb hby d8_9) rfl hr) ?_
  show W p e below _ (T3.setTop (mkF m 10 #[.val (.ref r0), .val (.int p1), .unset] [(.int ((1024 : Int32) >>> ((0 : Int32) &&& 31)))]))
  rw [show ((1024 : Int32) >>> ((0 : Int32) &&& 31)) = (1024 : Int32) from by decide]
  show W p e below _ (T3.setTop (mkF m 10 #[.val (.ref r0), .val (.int p1), .unset] [(.int (1024 : Int32))]))
  refine W.go (fun _ hr => XS.istoreN X3.here hx rfl (hb hby d8_10) rfl (l' := #[.val (.ref r0), .val (.int p1), .val (.int (1024 : Int32))]) rfl hr) ?_
  show W p e below _ (T3.setTop (mkF m 11 #[.val (.ref r0), .val (.int p1), .val (.int (1024 : Int32))] []))
  refine W.go (fun _ hr => XS.iloadN X3.here hx rfl (hb hby d8_11) rfl hr) ?_
  show W p e below _ (T3.setTop (mkF m 12 #[.val (.ref r0), .val (.int p1), .val (.int (1024 : Int32))] [(.int p1)]))
  refine W.go (fun _ hr => XS.iloadN X3.here hx rfl (hb hby d8_12) rfl hr) ?_
  show W p e below _ (T3.setTop (mkF m 13 #[.val (.ref r0), .val (.int p1), .val (.int (1024 : Int32))] [(.int (1024 : Int32)), (.int p1)]))
  refine W.go (fun _ hr => XS.isub X3.here hx rfl (hb hby d8_13) rfl hr) ?_
  show W p e below _ (T3.setTop (mkF m 14 #[.val (.ref r0), .val (.int p1), .val (.int (1024 : Int32))] [(.int (p1 - (1024 : Int32)))]))
  refine W.go (fun _ hr => XS.ifYes X3.here hx rfl (pc0 := 14) (pc' := 38) rfl (hb hby d8_14) rfl ((if0 _ _).trans (flt (hcap : ¬ ((0 : Int32) < (p1 - (1024 : Int32))))).2.2.2) (by decide) (by decide) hr) ?_
  show W p e below _ (T3.setTop (mkF m 38 #[.val (.ref r0), .val (.int p1), .val (.int (1024 : Int32))] []))
  exact W.retV X3 hx hlk hret (hb hby d8_38) (by decide) (by decide) e3 ⟨rfl, N0, rfl⟩
theorem own_cap (cn d : Int32) (n : Int32) (h : 0 ≤ cn.toInt ∧ 0 ≤ d.toInt ∧ d.toInt ≤ 100 ∧ cn.toInt + d.toInt ≤ n.toInt ∧ n.toInt ≤ 100000) : ¬ (0 : Int32) < ((cn + d) - n) := by
  have c1 := c_iadd cn d
  have r1 := rng32 (cn + d)
  have c2 := c_isub (cn + d) n
  have r2 := rng32 (cn + d - n)
  rw [Int32.lt_iff_toInt_lt]
  have e0 : (0 : Int32).toInt = 0 := rfl
  omega
theorem d10_0 : decode jdk_43_method_3_code 0 = .ok (.iload_n 0, 1) := by decide +kernel
theorem d10_1 : decode jdk_43_method_3_code 1 = .ok (.sipush 255, 3) := by decide +kernel
theorem d10_4 : decode jdk_43_method_3_code 4 = .ok (.if_icmp .gt 7, 3) := by decide +kernel
theorem d10_7 : decode jdk_43_method_3_code 7 = .ok (.iconst 1, 1) := by decide +kernel
theorem d10_8 : decode jdk_43_method_3_code 8 = .ok (.goto 4, 3) := by decide +kernel
theorem d10_12 : decode jdk_43_method_3_code 12 = .ok (.ireturn, 1) := by decide +kernel
theorem pn_java_lang_StringLatin1 : plainName "java/lang/StringLatin1" = true := by first | (simp [plainName, overriddenIn]; done) | decide +kernel
def Q_rm10 (Z : State) (p0 : Int32) (h0 : Heap) (n0 : Nat) (v : Option Value) (h : Heap) (L : List Loc) : Prop := v = some (.int (1 : Int32)) ∧ Fr n0 L ∧ h = h0
set_option maxRecDepth 65536 in
set_option maxHeartbeats 40000000 in
theorem rm10 (l : Launch) (Z : State) (a0 : Array Value) (hw : ∀ d ∈ tables_1, d.before a0 Z = true) (p0 : Int32) (h0 : Heap) (n0 : Nat) (Z0 : n0 ≤ h0.size) (hle : ¬ (255 : Int32) < p0) :
    Ctr l Z (⟨"java/lang/StringLatin1", "canEncode", "(C)Z"⟩ : MethodName) jdk_43_method_3_code 1 (some .boolean) ({ frames := 0, cells := 0, slots := 0, locals := 0 } : Room) #[(.int p0)] h0 (Q_rm10 Z p0 h0 n0) := by
  refine Ctr.body (fr := fun m => mkF m 0 #[.val (.int p0)] []) (plainFor_of_name pn_java_lang_StringLatin1) (fun m => by first | (simp [entryFrame, mkF, argsToLocals, Value.category]; done) | rfl) fun p e s m below meth c s₁ hx hby hml hZ hown hnm hret hlk X0 e0 => ?_
  have N0 := Fr.nil n0
  have hown : s.vm.findClass "java/lang/StringLatin1" = some m.cls := hown
  show W p e below _ (s₁.setTop (mkF m 0 #[.val (.int p0)] []))
  refine W.go (fun _ hr => XS.iloadN X0.here hx rfl (hb hby d10_0) rfl hr) ?_
  show W p e below _ (s₁.setTop (mkF m 1 #[.val (.int p0)] [(.int p0)]))
  refine W.go (fun _ hr => XS.sipush X0.here hx rfl (hb hby d10_1) hr) ?_
  show W p e below _ (s₁.setTop (mkF m 4 #[.val (.int p0)] [(.int (255 : Int32)), (.int p0)]))
  refine W.go (fun _ hr => XS.icmpNo X0.here hx rfl (hb hby d10_4) rfl (flt (hle : ¬ ((255 : Int32) < p0))).2.2.1 hr) ?_
  show W p e below _ (s₁.setTop (mkF m 7 #[.val (.int p0)] []))
  refine W.go (fun _ hr => XS.iconst X0.here hx rfl (hb hby d10_7) hr) ?_
  show W p e below _ (s₁.setTop (mkF m 8 #[.val (.int p0)] [(.int (1 : Int32))]))
  refine W.go (fun _ hr => XS.goto X0.here hx rfl (pc0 := 8) (pc' := 12) rfl (hb hby d10_8) (by decide) (by decide) hr) ?_
  show W p e below _ (s₁.setTop (mkF m 12 #[.val (.int p0)] [(.int (1 : Int32))]))
  exact W.retB X0 hx hlk (t := .boolean) hret (by simp) (hb hby d10_12) (by decide) (by decide) e0 ⟨rfl, N0, rfl⟩
theorem d7_0 : decode jdk_68_method_31_code 0 = .ok (.aload_n 0, 1) := by decide +kernel
theorem d7_1 : decode jdk_68_method_31_code 1 = .ok (.aload_n 0, 1) := by decide +kernel
theorem d7_2 : decode jdk_68_method_31_code 2 = .ok (.getfield 79, 3) := by decide +kernel
theorem d7_5 : decode jdk_68_method_31_code 5 = .ok (.iconst 1, 1) := by decide +kernel
theorem d7_6 : decode jdk_68_method_31_code 6 = .ok (.iadd, 1) := by decide +kernel
theorem d7_7 : decode jdk_68_method_31_code 7 = .ok (.invokevirtual 100, 3) := by decide +kernel
theorem d7_10 : decode jdk_68_method_31_code 10 = .ok (.aload_n 0, 1) := by decide +kernel
theorem d7_11 : decode jdk_68_method_31_code 11 = .ok (.invokevirtual 83, 3) := by decide +kernel
theorem d7_14 : decode jdk_68_method_31_code 14 = .ok (.ifCond .eq 31, 3) := by decide +kernel
theorem d7_17 : decode jdk_68_method_31_code 17 = .ok (.iload_n 1, 1) := by decide +kernel
theorem d7_18 : decode jdk_68_method_31_code 18 = .ok (.invokestatic 191, 3) := by decide +kernel
theorem pd_154 : parseMethodDescriptor "(C)Z" = some ⟨[.char], some .boolean⟩ := by decide +kernel
theorem d7_21 : decode jdk_68_method_31_code 21 = .ok (.ifCond .eq 24, 3) := by decide +kernel
theorem d7_24 : decode jdk_68_method_31_code 24 = .ok (.aload_n 0, 1) := by decide +kernel
theorem d7_25 : decode jdk_68_method_31_code 25 = .ok (.getfield 15, 3) := by decide +kernel
theorem d7_28 : decode jdk_68_method_31_code 28 = .ok (.aload_n 0, 1) := by decide +kernel
theorem d7_29 : decode jdk_68_method_31_code 29 = .ok (.dup, 1) := by decide +kernel
theorem d7_30 : decode jdk_68_method_31_code 30 = .ok (.getfield 79, 3) := by decide +kernel
theorem d7_33 : decode jdk_68_method_31_code 33 = .ok (.dup_x1, 1) := by decide +kernel
theorem d7_34 : decode jdk_68_method_31_code 34 = .ok (.iconst 1, 1) := by decide +kernel
theorem d7_35 : decode jdk_68_method_31_code 35 = .ok (.iadd, 1) := by decide +kernel
theorem d7_36 : decode jdk_68_method_31_code 36 = .ok (.putfield 79, 3) := by decide +kernel
theorem d7_39 : decode jdk_68_method_31_code 39 = .ok (.iload_n 1, 1) := by decide +kernel
theorem d7_40 : decode jdk_68_method_31_code 40 = .ok (.i2b, 1) := by decide +kernel
theorem d7_41 : decode jdk_68_method_31_code 41 = .ok (.bastore, 1) := by decide +kernel
theorem d7_42 : decode jdk_68_method_31_code 42 = .ok (.goto 33, 3) := by decide +kernel
theorem d7_75 : decode jdk_68_method_31_code 75 = .ok (.aload_n 0, 1) := by decide +kernel
theorem d7_76 : decode jdk_68_method_31_code 76 = .ok (.areturn, 1) := by decide +kernel
def Q_rm7 (Z : State) (r0 : Addr) (p1 : Int32) (t : Addr) (kt : ClassId) (cs : List Value) (cn : Int32) (zCS : Int32) (b8 : Int32) (cs' : List Value) (cn' : Int32) (h0 : Heap) (n0 : Nat) (v : Option Value) (h : Heap) (L : List Loc) : Prop := v = some (.ref r0) ∧ Fr n0 L ∧ Keep h0 h [r0, t] ∧ Exa Z h r0 "java/lang/StringBuilder" ∧ Fld Z h r0 "java/lang/AbstractStringBuilder" "value" "[B" (.ref t) ∧ Fld Z h r0 "java/lang/AbstractStringBuilder" "coder" "B" (.int (0 : Int32)) ∧ Fld Z h r0 "java/lang/AbstractStringBuilder" "count" "I" (.int cn') ∧ Arv Z h t kt .byte (1024 : Int32) cs' (.int (0 : Int32))
set_option maxRecDepth 65536 in
set_option maxHeartbeats 40000000 in
theorem rm7 (l : Launch) (Z : State) (a0 : Array Value) (hw : ∀ d ∈ tables_1, d.before a0 Z = true) (r0 : Addr) (p1 : Int32) (t : Addr) (kt : ClassId) (cs : List Value) (cn : Int32) (zCS : Int32) (b8 : Int32) (cs' : List Value) (cn' : Int32) (h0 : Heap) (n0 : Nat) (Z0 : n0 ≤ h0.size) (E_r0 : Exa Z h0 r0 "java/lang/StringBuilder") (F_value_r0 : Fld Z h0 r0 "java/lang/AbstractStringBuilder" "value" "[B" (.ref t)) (F_coder_r0 : Fld Z h0 r0 "java/lang/AbstractStringBuilder" "coder" "B" (.int (0 : Int32))) (F_count_r0 : Fld Z h0 r0 "java/lang/AbstractStringBuilder" "count" "I" (.int cn)) (V_t : Arv Z h0 t kt .byte (1024 : Int32) cs (.int (0 : Int32))) (S_COMPACT_STRINGS : Sta Z h0 "java/lang/String" "COMPACT_STRINGS" "Z" (.int zCS)) (hCS : ¬ zCS = 0) (hcn : cn.toInt = cs.length ∧ cn.toInt + 1 ≤ 1024) (g_r0 : n0 ≤ r0) (g_t : n0 ≤ t) (ne_0t : r0 ≠ t) (hp : ¬ p1 < 0 ∧ ¬ (255 : Int32) < p1) (hb8 : b8 = p1.toInt8.toInt32) (hcs' : cs' = cs ++ [.int b8]) (hcn' : cn' = cn + 1) :
    Ctr l Z (⟨"java/lang/AbstractStringBuilder", "append", "(C)Ljava/lang/AbstractStringBuilder;"⟩ : MethodName) jdk_68_method_31_code 2 (some (.object "java/lang/AbstractStringBuilder")) ({ frames := 1, cells := 0, slots := 0, locals := 14 } : Room) #[(.ref r0), (.int p1)] h0 (Q_rm7 Z r0 p1 t kt cs cn zCS b8 cs' cn' h0 n0) := by
  refine Ctr.body (fr := fun m => mkF m 0 #[.val (.ref r0), .val (.int p1)] []) (plainFor_of_name pn_java_lang_AbstractStringBuilder) (fun m => by first | (simp [entryFrame, mkF, argsToLocals, Value.category]; done) | rfl) fun p e s m below meth c s₁ hx hby hml hZ hown hnm hret hlk X0 e0 => ?_
  have N0 := Fr.nil n0
  have hown : s.vm.findClass "java/lang/AbstractStringBuilder" = some m.cls := hown
  have KC : Keep h0 h0 [r0, t] := Keep.refl _ _
  show W p e below _ (s₁.setTop (mkF m 0 #[.val (.ref r0), .val (.int p1)] []))
  refine W.go (fun _ hr => XS.aloadN X0.here hx rfl (hb hby d7_0) rfl rfl hr) ?_
  show W p e below _ (s₁.setTop (mkF m 1 #[.val (.ref r0), .val (.int p1)] [(.ref r0)]))
  refine W.go (fun _ hr => XS.aloadN X0.here hx rfl (hb hby d7_1) rfl rfl hr) ?_
  show W p e below _ (s₁.setTop (mkF m 2 #[.val (.ref r0), .val (.int p1)] [(.ref r0), (.ref r0)]))
  obtain ⟨T1, X1, e1, st1⟩ := getF X0 hx hZ hown (host := "") (Or.inl (hw _ (List.mem_of_getElem? (i := 53) rfl))) Via.refl e0 F_count_r0 (g := (mkF m 2 #[.val (.ref r0), .val (.int p1)] [(.ref r0), (.ref r0)])) rfl rfl (hb hby d7_2)
  refine W.go st1 ?_
  show W p e below _ (T1.setTop (mkF m 5 #[.val (.ref r0), .val (.int p1)] [(.int cn), (.ref r0)]))
  refine W.go (fun _ hr => XS.iconst X1.here hx rfl (hb hby d7_5) hr) ?_
  show W p e below _ (T1.setTop (mkF m 6 #[.val (.ref r0), .val (.int p1)] [(.int (1 : Int32)), (.int cn), (.ref r0)]))
  refine W.go (fun _ hr => XS.iadd X1.here hx rfl (hb hby d7_6) rfl hr) ?_
  show W p e below _ (T1.setTop (mkF m 7 #[.val (.ref r0), .val (.int p1)] [(.int (cn + (1 : Int32))), (.ref r0)]))
  refine W.callP X1 hx hZ hown (g := (mkF m 7 #[.val (.ref r0), .val (.int p1)] [(.int (cn + (1 : Int32))), (.ref r0)])) (by rw [hml]; rfl) (hw _ (List.mem_of_getElem? (i := 55) rfl)) (hw _ (List.mem_of_getElem? (i := 57) rfl)) (selPriv2 hZ (hw _ (List.mem_of_getElem? (i := 58) rfl)) rfl (hw _ (List.mem_of_getElem? (i := 57) rfl)) (hw _ (List.mem_of_getElem? (i := 56) rfl)) (by decide)) (hw _ (List.mem_of_getElem? (i := 56) rfl)) (hw _ (List.mem_of_getElem? (i := 19) rfl)) (hw _ (List.mem_of_getElem? (i := 59) rfl)) e1 (rm8 l Z a0 hw r0 (cn + (1 : Int32)) t kt cs h0 n0 Z0 F_value_r0 F_coder_r0 V_t (own_cap _ _ _ (by have e0 : (1 : Int32).toInt = 1 := rfl; have e1 : (1024 : Int32).toInt = 1024 := rfl; omega))) (by decide) pd_17 rfl E_r0 (argsL := [(.int (cn + (1 : Int32)))]) (rest := []) rfl rfl rfl (hb hby d7_7) (W0 := 0) rfl (by decide) (by decide) (by decide) (by decide) (fun v2 T2 h2 L2 X2 e2 hQ2 => ?_)
  obtain ⟨rfl, N2q, hh2⟩ := hQ2
  obtain rfl := hh2.symm
  have N2 := Fr.app N0 N2q
  show W p e below _ (T2.setTop (mkF m 10 #[.val (.ref r0), .val (.int p1)] []))
  refine W.go (fun _ hr => XS.aloadN X2.here hx rfl (hb hby d7_10) rfl rfl hr) ?_
  show W p e below _ (T2.setTop (mkF m 11 #[.val (.ref r0), .val (.int p1)] [(.ref r0)]))
  refine W.callV X2 hx hZ hown (g := (mkF m 11 #[.val (.ref r0), .val (.int p1)] [(.ref r0)])) (by rw [hml]; rfl) (hw _ (List.mem_of_getElem? (i := 60) rfl)) (hw _ (List.mem_of_getElem? (i := 61) rfl)) (hw _ (List.mem_of_getElem? (i := 63) rfl)) (hw _ (List.mem_of_getElem? (i := 62) rfl)) (hw _ (List.mem_of_getElem? (i := 19) rfl)) (hw _ (List.mem_of_getElem? (i := 64) rfl)) e2 (rm9 l Z a0 hw r0 zCS h0 n0 Z0 F_coder_r0 S_COMPACT_STRINGS hCS) (notFace_of_selects (args := #[]) (mvT hZ (hw _ (List.mem_of_getElem? (i := 63) rfl)))) (by decide) pd_98 rfl E_r0 (argsL := []) (rest := []) rfl rfl rfl (hb hby d7_11) (W0 := 0) rfl (by decide) (by decide) (by decide) (by decide) (fun v3 T3 h3 L3 X3 e3 hQ3 => ?_)
  obtain ⟨rfl, N3q, hh3⟩ := hQ3
  obtain rfl := hh3.symm
  have N3 := Fr.app N2 N3q
  show W p e below _ (T3.setTop (mkF m 14 #[.val (.ref r0), .val (.int p1)] [(.int (1 : Int32))]))
  refine W.go (fun _ hr => XS.ifNo X3.here hx rfl (hb hby d7_14) rfl ((if0 _ _).trans (feq (by decide : ¬ ((1 : Int32) = (0 : Int32)))).1) hr) ?_
  show W p e below _ (T3.setTop (mkF m 17 #[.val (.ref r0), .val (.int p1)] []))
  refine W.go (fun _ hr => XS.iloadN X3.here hx rfl (hb hby d7_17) rfl hr) ?_
  show W p e below _ (T3.setTop (mkF m 18 #[.val (.ref r0), .val (.int p1)] [(.int p1)]))
  refine W.callS X3 hx hZ hown (g := (mkF m 18 #[.val (.ref r0), .val (.int p1)] [(.int p1)])) (by rw [hml]; rfl) (hw _ (List.mem_of_getElem? (i := 65) rfl)) (hw _ (List.mem_of_getElem? (i := 66) rfl)) (hw _ (List.mem_of_getElem? (i := 67) rfl)) (hw _ (List.mem_of_getElem? (i := 68) rfl)) e3 (rm10 l Z a0 hw p1 h0 n0 Z0 hp.2) (by decide) pd_154 rfl (argsL := [(.int p1)]) (rest := []) rfl rfl rfl (hb hby d7_18) (W0 := 0) rfl (by decide) (by decide) (by decide) (by decide) (fun v4 T4 h4 L4 X4 e4 hQ4 => ?_)
  obtain ⟨rfl, N4q, hh4⟩ := hQ4
  obtain rfl := hh4.symm
  have N4 := Fr.app N3 N4q
  show W p e below _ (T4.setTop (mkF m 21 #[.val (.ref r0), .val (.int p1)] [(.int (1 : Int32))]))
  refine W.go (fun _ hr => XS.ifNo X4.here hx rfl (hb hby d7_21) rfl ((if0 _ _).trans (feq (by decide : ¬ ((1 : Int32) = (0 : Int32)))).1) hr) ?_
  show W p e below _ (T4.setTop (mkF m 24 #[.val (.ref r0), .val (.int p1)] []))
  refine W.go (fun _ hr => XS.aloadN X4.here hx rfl (hb hby d7_24) rfl rfl hr) ?_
  show W p e below _ (T4.setTop (mkF m 25 #[.val (.ref r0), .val (.int p1)] [(.ref r0)]))
  obtain ⟨T5, X5, e5, st5⟩ := getF X4 hx hZ hown (host := "") (Or.inl (hw _ (List.mem_of_getElem? (i := 25) rfl))) Via.refl e4 F_value_r0 (g := (mkF m 25 #[.val (.ref r0), .val (.int p1)] [(.ref r0)])) rfl rfl (hb hby d7_25)
  refine W.go st5 ?_
  show W p e below _ (T5.setTop (mkF m 28 #[.val (.ref r0), .val (.int p1)] [(.ref t)]))
  refine W.go (fun _ hr => XS.aloadN X5.here hx rfl (hb hby d7_28) rfl rfl hr) ?_
  show W p e below _ (T5.setTop (mkF m 29 #[.val (.ref r0), .val (.int p1)] [(.ref r0), (.ref t)]))
  refine W.go (fun _ hr => XS.dup X5.here hx rfl (hb hby d7_29) rfl rfl hr) ?_
  show W p e below _ (T5.setTop (mkF m 30 #[.val (.ref r0), .val (.int p1)] [(.ref r0), (.ref r0), (.ref t)]))
  obtain ⟨T6, X6, e6, st6⟩ := getF X5 hx hZ hown (host := "") (Or.inl (hw _ (List.mem_of_getElem? (i := 53) rfl))) Via.refl e5 F_count_r0 (g := (mkF m 30 #[.val (.ref r0), .val (.int p1)] [(.ref r0), (.ref r0), (.ref t)])) rfl rfl (hb hby d7_30)
  refine W.go st6 ?_
  show W p e below _ (T6.setTop (mkF m 33 #[.val (.ref r0), .val (.int p1)] [(.int cn), (.ref r0), (.ref t)]))
  refine W.go (fun _ hr => XS.dupX1 X6.here hx rfl (hb hby d7_33) rfl rfl rfl hr) ?_
  show W p e below _ (T6.setTop (mkF m 34 #[.val (.ref r0), .val (.int p1)] [(.int cn), (.ref r0), (.int cn), (.ref t)]))
  refine W.go (fun _ hr => XS.iconst X6.here hx rfl (hb hby d7_34) hr) ?_
  show W p e below _ (T6.setTop (mkF m 35 #[.val (.ref r0), .val (.int p1)] [(.int (1 : Int32)), (.int cn), (.ref r0), (.int cn), (.ref t)]))
  refine W.go (fun _ hr => XS.iadd X6.here hx rfl (hb hby d7_35) rfl hr) ?_
  show W p e below _ (T6.setTop (mkF m 36 #[.val (.ref r0), .val (.int p1)] [(.int (cn + (1 : Int32))), (.ref r0), (.int cn), (.ref t)]))
  obtain ⟨T7, h7, X7, e7, W7, st7⟩ := putF X6 hx hZ hown (host := "") (Or.inl (hw _ (List.mem_of_getElem? (i := 53) rfl))) Via.refl e6 F_count_r0 E_r0 (Or.inl (hw _ (List.mem_of_getElem? (i := 54) rfl))) (hw _ (List.mem_of_getElem? (i := 10) rfl)) (ty := .int) (by decide) rfl rfl (g := (mkF m 36 #[.val (.ref r0), .val (.int p1)] [(.int (cn + (1 : Int32))), (.ref r0), (.int cn), (.ref t)])) rfl rfl (hb hby d7_36)
  refine W.go st7 ?_
  replace S_COMPACT_STRINGS := Sta.wr W7 S_COMPACT_STRINGS
  replace E_r0 := E_r0.wr W7
  replace F_value_r0 := F_value_r0.other W7 (Or.inr (slot_ne (Or.inl (hw _ (List.mem_of_getElem? (i := 26) rfl))) (Or.inl (hw _ (List.mem_of_getElem? (i := 54) rfl))) (by decide) (t := (.array .byte)) (t' := .int) (by decide) (by decide)))
  replace F_coder_r0 := F_coder_r0.other W7 (Or.inr (slot_ne (Or.inl (hw _ (List.mem_of_getElem? (i := 28) rfl))) (Or.inl (hw _ (List.mem_of_getElem? (i := 54) rfl))) (by decide) (t := .byte) (t' := .int) (by decide) (by decide)))
  replace F_count_r0 := F_count_r0.same W7
  replace V_t := V_t.other W7 (Ne.symm ne_0t)
  have Z8 : n0 ≤ h7.size := Nat.le_trans Z0 (Keep.of_wr W7).1
  replace KC := KC.wr W7 (Or.inl (List.mem_of_getElem? (i := 0) rfl))
  have N7 := Fr.snoc X7 N4 g_r0
  show W p e below _ (T7.setTop (mkF m 39 #[.val (.ref r0), .val (.int p1)] [(.int cn), (.ref t)]))
  refine W.go (fun _ hr => XS.iloadN X7.here hx rfl (hb hby d7_39) rfl hr) ?_
  show W p e below _ (T7.setTop (mkF m 40 #[.val (.ref r0), .val (.int p1)] [(.int p1), (.int cn), (.ref t)]))
  refine W.go (fun _ hr => XS.i2b X7.here hx rfl (hb hby d7_40) rfl hr) ?_
  show W p e below _ (T7.setTop (mkF m 41 #[.val (.ref r0), .val (.int p1)] [(.int (p1.toInt8.toInt32)), (.int cn), (.ref t)]))
  obtain ⟨cl9, Ar9, q9, S9, Nn9, Hh9, Gg9⟩ := V_t
  have hin9 : ¬ (cn < 0 ∨ cl9.slots.size ≤ (cn).toNatClampNeg) := inb_of S9 (own_inapp hcn.1 (by have e0 : (1024 : Int32).toInt = 1024 := rfl; first | omega | (have jq := hcn.1; simp only [List.length_append, List.length_cons, List.length_nil] at jq; omega)))
  obtain ⟨T9, h9, X9, e9, W9, st9⟩ := stB X7 hx hZ e7 Ar9 (j := cn) hin9 (g := (mkF m 41 #[.val (.ref r0), .val (.int p1)] [(.int (p1.toInt8.toInt32)), (.int cn), (.ref t)])) rfl rfl (hb hby d7_41)
  replace V_t : Arv Z h9 t kt .byte (1024 : Int32) (cs ++ [(.int b8)]) (.int (0 : Int32)) := own_app hcn.1 Ar9 q9 S9 Nn9 Hh9 Gg9 (by rw [hb8]; exact fits_nar_byte _) (by rw [show b8 = (p1.toInt8.toInt32).toInt8.toInt32 from by rw [hb8]; simp]; exact W9)
  replace S_COMPACT_STRINGS := Sta.wr W9 S_COMPACT_STRINGS
  replace E_r0 := E_r0.wr W9
  replace F_value_r0 := F_value_r0.other W9 (Or.inl ne_0t)
  replace F_coder_r0 := F_coder_r0.other W9 (Or.inl ne_0t)
  replace F_count_r0 := F_count_r0.other W9 (Or.inl ne_0t)
  have Z10 : n0 ≤ h9.size := Nat.le_trans Z8 (Keep.of_wr W9).1
  replace KC := KC.wr W9 (Or.inl (List.mem_of_getElem? (i := 1) rfl))
  refine W.go st9 ?_
  have N9 := Fr.snoc X9 N7 g_t
  have jl9 := own_len (v := (.int b8)) hcn.1 (by first | omega | (have jq := hcn.1; simp only [List.length_append, List.length_cons, List.length_nil] at jq; omega))
  show W p e below _ (T9.setTop (mkF m 42 #[.val (.ref r0), .val (.int p1)] []))
  refine W.go (fun _ hr => XS.goto X9.here hx rfl (pc0 := 42) (pc' := 75) rfl (hb hby d7_42) (by decide) (by decide) hr) ?_
  show W p e below _ (T9.setTop (mkF m 75 #[.val (.ref r0), .val (.int p1)] []))
  refine W.go (fun _ hr => XS.aloadN X9.here hx rfl (hb hby d7_75) rfl rfl hr) ?_
  show W p e below _ (T9.setTop (mkF m 76 #[.val (.ref r0), .val (.int p1)] [(.ref r0)]))
  exact W.retA X9 hx hlk hret rfl rfl (hb hby d7_76) (by decide) (by decide) e9 ⟨rfl, N9, KC, E_r0, F_value_r0, F_coder_r0, by rw [hcn']; exact F_count_r0, by rw [hcs']; exact V_t⟩
theorem d6_0 : decode jdk_67_method_14_code 0 = .ok (.aload_n 0, 1) := by decide +kernel
theorem d6_1 : decode jdk_67_method_14_code 1 = .ok (.iload_n 1, 1) := by decide +kernel
theorem d6_2 : decode jdk_67_method_14_code 2 = .ok (.invokespecial 50, 3) := by decide +kernel
theorem pd_174 : parseMethodDescriptor "(C)Ljava/lang/AbstractStringBuilder;" = some ⟨[.char], some (.object "java/lang/AbstractStringBuilder")⟩ := by decide +kernel
theorem d6_5 : decode jdk_67_method_14_code 5 = .ok (.pop, 1) := by decide +kernel
theorem d6_6 : decode jdk_67_method_14_code 6 = .ok (.aload_n 0, 1) := by decide +kernel
theorem d6_7 : decode jdk_67_method_14_code 7 = .ok (.areturn, 1) := by decide +kernel
def Q_rm6 (Z : State) (r0 : Addr) (p1 : Int32) (t : Addr) (kt : ClassId) (cs : List Value) (cn : Int32) (zCS : Int32) (b8 : Int32) (cs' : List Value) (cn' : Int32) (h0 : Heap) (n0 : Nat) (v : Option Value) (h : Heap) (L : List Loc) : Prop := v = some (.ref r0) ∧ Fr n0 L ∧ Keep h0 h [r0, t] ∧ Exa Z h r0 "java/lang/StringBuilder" ∧ Fld Z h r0 "java/lang/AbstractStringBuilder" "value" "[B" (.ref t) ∧ Fld Z h r0 "java/lang/AbstractStringBuilder" "coder" "B" (.int (0 : Int32)) ∧ Fld Z h r0 "java/lang/AbstractStringBuilder" "count" "I" (.int cn') ∧ Arv Z h t kt .byte (1024 : Int32) cs' (.int (0 : Int32))
set_option maxRecDepth 65536 in
set_option maxHeartbeats 40000000 in
theorem rm6 (l : Launch) (Z : State) (a0 : Array Value) (hw : ∀ d ∈ tables_1, d.before a0 Z = true) (r0 : Addr) (p1 : Int32) (t : Addr) (kt : ClassId) (cs : List Value) (cn : Int32) (zCS : Int32) (b8 : Int32) (cs' : List Value) (cn' : Int32) (h0 : Heap) (n0 : Nat) (Z0 : n0 ≤ h0.size) (E_r0 : Exa Z h0 r0 "java/lang/StringBuilder") (F_value_r0 : Fld Z h0 r0 "java/lang/AbstractStringBuilder" "value" "[B" (.ref t)) (F_coder_r0 : Fld Z h0 r0 "java/lang/AbstractStringBuilder" "coder" "B" (.int (0 : Int32))) (F_count_r0 : Fld Z h0 r0 "java/lang/AbstractStringBuilder" "count" "I" (.int cn)) (V_t : Arv Z h0 t kt .byte (1024 : Int32) cs (.int (0 : Int32))) (S_COMPACT_STRINGS : Sta Z h0 "java/lang/String" "COMPACT_STRINGS" "Z" (.int zCS)) (hCS : ¬ zCS = 0) (hcn : cn.toInt = cs.length ∧ cn.toInt + 1 ≤ 1024) (g_r0 : n0 ≤ r0) (g_t : n0 ≤ t) (ne_0t : r0 ≠ t) (hp : ¬ p1 < 0 ∧ ¬ (255 : Int32) < p1) (hb8 : b8 = p1.toInt8.toInt32) (hcs' : cs' = cs ++ [.int b8]) (hcn' : cn' = cn + 1) :
    Ctr l Z (⟨"java/lang/StringBuilder", "append", "(C)Ljava/lang/StringBuilder;"⟩ : MethodName) jdk_67_method_14_code 2 (some (.object "java/lang/StringBuilder")) ({ frames := 2, cells := 0, slots := 0, locals := 27 } : Room) #[(.ref r0), (.int p1)] h0 (Q_rm6 Z r0 p1 t kt cs cn zCS b8 cs' cn' h0 n0) := by
  refine Ctr.body (fr := fun m => mkF m 0 #[.val (.ref r0), .val (.int p1)] []) (plainFor_of_name pn_java_lang_StringBuilder) (fun m => by first | (simp [entryFrame, mkF, argsToLocals, Value.category]; done) | rfl) fun p e s m below meth c s₁ hx hby hml hZ hown hnm hret hlk X0 e0 => ?_
  have N0 := Fr.nil n0
  have hown : s.vm.findClass "java/lang/StringBuilder" = some m.cls := hown
  have KC : Keep h0 h0 [r0, t] := Keep.refl _ _
  show W p e below _ (s₁.setTop (mkF m 0 #[.val (.ref r0), .val (.int p1)] []))
  refine W.go (fun _ hr => XS.aloadN X0.here hx rfl (hb hby d6_0) rfl rfl hr) ?_
  show W p e below _ (s₁.setTop (mkF m 1 #[.val (.ref r0), .val (.int p1)] [(.ref r0)]))
  refine W.go (fun _ hr => XS.iloadN X0.here hx rfl (hb hby d6_1) rfl hr) ?_
  show W p e below _ (s₁.setTop (mkF m 2 #[.val (.ref r0), .val (.int p1)] [(.int p1), (.ref r0)]))
  refine W.callSup X0 hx hZ hown (g := (mkF m 2 #[.val (.ref r0), .val (.int p1)] [(.int p1), (.ref r0)])) (by rw [hml]; rfl) (hw _ (List.mem_of_getElem? (i := 48) rfl)) (sameDecl (hw _ (List.mem_of_getElem? (i := 51) rfl)) (hw _ (List.mem_of_getElem? (i := 58) rfl)) rfl (by decide)) (hw _ (List.mem_of_getElem? (i := 49) rfl)) (hw _ (List.mem_of_getElem? (i := 50) rfl)) (hw _ (List.mem_of_getElem? (i := 19) rfl)) (hw _ (List.mem_of_getElem? (i := 52) rfl)) e0 (rm7 l Z a0 hw r0 p1 t kt cs cn zCS b8 cs' cn' h0 n0 Z0 E_r0 F_value_r0 F_coder_r0 F_count_r0 V_t S_COMPACT_STRINGS hCS hcn g_r0 g_t ne_0t hp hb8 hcs' hcn') (by decide) pd_174 rfl E_r0 (argsL := [(.int p1)]) (rest := []) rfl rfl rfl (hb hby d6_2) (W0 := 0) rfl (by decide) (by decide) (by decide) (by decide) (fun v1 T1 h1 L1 X1 e1 hQ1 => ?_)
  obtain ⟨rfl, N1q, K1, Ee1, Fv1, Fc1, Fn1, V1⟩ := hQ1
  have N1 := Fr.app N0 N1q
  have nsK1 := (nsS E_r0.nostat (nsS V_t.nostat ns0))
  replace S_COMPACT_STRINGS := Sta.keep S_COMPACT_STRINGS K1 nsK1
  replace E_r0 := E_r0.keep K1
  have Z2 : n0 ≤ h1.size := Nat.le_trans Z0 K1.1
  replace KC := KC.trans K1 (allS (Or.inl (List.mem_of_getElem? (i := 0) rfl)) (allS (Or.inl (List.mem_of_getElem? (i := 1) rfl)) all0))
  show W p e below _ (T1.setTop (mkF m 5 #[.val (.ref r0), .val (.int p1)] [(.ref r0)]))
  refine W.go (fun _ hr => XS.pop X1.here hx rfl (hb hby d6_5) rfl rfl hr) ?_
  show W p e below _ (T1.setTop (mkF m 6 #[.val (.ref r0), .val (.int p1)] []))
  refine W.go (fun _ hr => XS.aloadN X1.here hx rfl (hb hby d6_6) rfl rfl hr) ?_
  show W p e below _ (T1.setTop (mkF m 7 #[.val (.ref r0), .val (.int p1)] [(.ref r0)]))
  exact W.retA X1 hx hlk hret rfl rfl (hb hby d6_7) (by decide) (by decide) e1 ⟨rfl, N1, KC, E_r0, Fv1, Fc1, Fn1, V1⟩
theorem d32_0 : decode jdk_68_method_30_code 0 = .ok (.aload_n 0, 1) := by decide +kernel
theorem d32_1 : decode jdk_68_method_30_code 1 = .ok (.aload_n 0, 1) := by decide +kernel
theorem d32_2 : decode jdk_68_method_30_code 2 = .ok (.getfield 79, 3) := by decide +kernel
theorem d32_5 : decode jdk_68_method_30_code 5 = .ok (.iload_n 1, 1) := by decide +kernel
theorem d32_6 : decode jdk_68_method_30_code 6 = .ok (.ifCond .eq 7, 3) := by decide +kernel
theorem d32_9 : decode jdk_68_method_30_code 9 = .ok (.iconst 4, 1) := by decide +kernel
theorem d32_10 : decode jdk_68_method_30_code 10 = .ok (.goto 4, 3) := by decide +kernel
theorem d32_14 : decode jdk_68_method_30_code 14 = .ok (.iadd, 1) := by decide +kernel
theorem d32_15 : decode jdk_68_method_30_code 15 = .ok (.invokevirtual 100, 3) := by decide +kernel
theorem d32_18 : decode jdk_68_method_30_code 18 = .ok (.aload_n 0, 1) := by decide +kernel
theorem d32_19 : decode jdk_68_method_30_code 19 = .ok (.getfield 79, 3) := by decide +kernel
theorem d32_22 : decode jdk_68_method_30_code 22 = .ok (.istore_n 2, 1) := by decide +kernel
theorem d32_23 : decode jdk_68_method_30_code 23 = .ok (.aload_n 0, 1) := by decide +kernel
theorem d32_24 : decode jdk_68_method_30_code 24 = .ok (.getfield 15, 3) := by decide +kernel
theorem d32_27 : decode jdk_68_method_30_code 27 = .ok (.astore_n 3, 1) := by decide +kernel
theorem d32_28 : decode jdk_68_method_30_code 28 = .ok (.aload_n 0, 1) := by decide +kernel
theorem d32_29 : decode jdk_68_method_30_code 29 = .ok (.invokevirtual 83, 3) := by decide +kernel
theorem d32_32 : decode jdk_68_method_30_code 32 = .ok (.ifCond .eq 85, 3) := by decide +kernel
theorem d32_35 : decode jdk_68_method_30_code 35 = .ok (.iload_n 1, 1) := by decide +kernel
theorem d32_36 : decode jdk_68_method_30_code 36 = .ok (.ifCond .eq 38, 3) := by decide +kernel
theorem d32_39 : decode jdk_68_method_30_code 39 = .ok (.aload_n 3, 1) := by decide +kernel
theorem d32_40 : decode jdk_68_method_30_code 40 = .ok (.iload_n 2, 1) := by decide +kernel
theorem d32_41 : decode jdk_68_method_30_code 41 = .ok (.iinc 2 1, 3) := by decide +kernel
theorem d32_44 : decode jdk_68_method_30_code 44 = .ok (.bipush 116, 2) := by decide +kernel
theorem d32_46 : decode jdk_68_method_30_code 46 = .ok (.bastore, 1) := by decide +kernel
theorem d32_47 : decode jdk_68_method_30_code 47 = .ok (.aload_n 3, 1) := by decide +kernel
theorem d32_48 : decode jdk_68_method_30_code 48 = .ok (.iload_n 2, 1) := by decide +kernel
theorem d32_49 : decode jdk_68_method_30_code 49 = .ok (.iinc 2 1, 3) := by decide +kernel
theorem d32_52 : decode jdk_68_method_30_code 52 = .ok (.bipush 114, 2) := by decide +kernel
theorem d32_54 : decode jdk_68_method_30_code 54 = .ok (.bastore, 1) := by decide +kernel
theorem d32_55 : decode jdk_68_method_30_code 55 = .ok (.aload_n 3, 1) := by decide +kernel
theorem d32_56 : decode jdk_68_method_30_code 56 = .ok (.iload_n 2, 1) := by decide +kernel
theorem d32_57 : decode jdk_68_method_30_code 57 = .ok (.iinc 2 1, 3) := by decide +kernel
theorem d32_60 : decode jdk_68_method_30_code 60 = .ok (.bipush 117, 2) := by decide +kernel
theorem d32_62 : decode jdk_68_method_30_code 62 = .ok (.bastore, 1) := by decide +kernel
theorem d32_63 : decode jdk_68_method_30_code 63 = .ok (.aload_n 3, 1) := by decide +kernel
theorem d32_64 : decode jdk_68_method_30_code 64 = .ok (.iload_n 2, 1) := by decide +kernel
theorem d32_65 : decode jdk_68_method_30_code 65 = .ok (.iinc 2 1, 3) := by decide +kernel
theorem d32_68 : decode jdk_68_method_30_code 68 = .ok (.bipush 101, 2) := by decide +kernel
theorem d32_70 : decode jdk_68_method_30_code 70 = .ok (.bastore, 1) := by decide +kernel
theorem d32_71 : decode jdk_68_method_30_code 71 = .ok (.goto 83, 3) := by decide +kernel
theorem d32_154 : decode jdk_68_method_30_code 154 = .ok (.aload_n 0, 1) := by decide +kernel
theorem d32_155 : decode jdk_68_method_30_code 155 = .ok (.iload_n 2, 1) := by decide +kernel
theorem d32_156 : decode jdk_68_method_30_code 156 = .ok (.putfield 79, 3) := by decide +kernel
theorem d32_159 : decode jdk_68_method_30_code 159 = .ok (.aload_n 0, 1) := by decide +kernel
theorem d32_160 : decode jdk_68_method_30_code 160 = .ok (.areturn, 1) := by decide +kernel
def Q_rmZ1a (Z : State) (r0 : Addr) (t : Addr) (kt : ClassId) (cs : List Value) (cn : Int32) (zCS : Int32) (cs' : List Value) (cn' : Int32) (h0 : Heap) (n0 : Nat) (v : Option Value) (h : Heap) (L : List Loc) : Prop := v = some (.ref r0) ∧ Fr n0 L ∧ Keep h0 h [r0, t] ∧ Exa Z h r0 "java/lang/StringBuilder" ∧ Fld Z h r0 "java/lang/AbstractStringBuilder" "value" "[B" (.ref t) ∧ Fld Z h r0 "java/lang/AbstractStringBuilder" "coder" "B" (.int (0 : Int32)) ∧ Fld Z h r0 "java/lang/AbstractStringBuilder" "count" "I" (.int cn') ∧ Arv Z h t kt .byte (1024 : Int32) cs' (.int (0 : Int32))
set_option maxRecDepth 65536 in
set_option maxHeartbeats 40000000 in
theorem rmZ1a (l : Launch) (Z : State) (a0 : Array Value) (hw : ∀ d ∈ tables_1, d.before a0 Z = true) (r0 : Addr) (t : Addr) (kt : ClassId) (cs : List Value) (cn : Int32) (zCS : Int32) (cs' : List Value) (cn' : Int32) (h0 : Heap) (n0 : Nat) (Z0 : n0 ≤ h0.size) (E_r0 : Exa Z h0 r0 "java/lang/StringBuilder") (F_value_r0 : Fld Z h0 r0 "java/lang/AbstractStringBuilder" "value" "[B" (.ref t)) (F_coder_r0 : Fld Z h0 r0 "java/lang/AbstractStringBuilder" "coder" "B" (.int (0 : Int32))) (F_count_r0 : Fld Z h0 r0 "java/lang/AbstractStringBuilder" "count" "I" (.int cn)) (V_t : Arv Z h0 t kt .byte (1024 : Int32) cs (.int (0 : Int32))) (S_COMPACT_STRINGS : Sta Z h0 "java/lang/String" "COMPACT_STRINGS" "Z" (.int zCS)) (hCS : ¬ zCS = 0) (hcn : cn.toInt = cs.length ∧ cn.toInt + 8 ≤ 1024) (g_r0 : n0 ≤ r0) (g_t : n0 ≤ t) (ne_0t : r0 ≠ t) (hcs' : cs' = cs ++ [.int (116 : Int32)] ++ [.int (114 : Int32)] ++ [.int (117 : Int32)] ++ [.int (101 : Int32)]) (hcn' : cn' = cn + 1 + 1 + 1 + 1) :
    Ctr l Z (⟨"java/lang/AbstractStringBuilder", "append", "(Z)Ljava/lang/AbstractStringBuilder;"⟩ : MethodName) jdk_68_method_30_code 4 (some (.object "java/lang/AbstractStringBuilder")) ({ frames := 1, cells := 0, slots := 0, locals := 14 } : Room) #[(.ref r0), (.int (1 : Int32))] h0 (Q_rmZ1a Z r0 t kt cs cn zCS cs' cn' h0 n0) := by
  refine Ctr.body (fr := fun m => mkF m 0 #[.val (.ref r0), .val (.int (1 : Int32)), .unset, .unset] []) (plainFor_of_name pn_java_lang_AbstractStringBuilder) (fun m => by first | (simp [entryFrame, mkF, argsToLocals, Value.category]; done) | rfl) fun p e s m below meth c s₁ hx hby hml hZ hown hnm hret hlk X0 e0 => ?_
  have N0 := Fr.nil n0
  have hown : s.vm.findClass "java/lang/AbstractStringBuilder" = some m.cls := hown
  have KC : Keep h0 h0 [r0, t] := Keep.refl _ _
  show W p e below _ (s₁.setTop (mkF m 0 #[.val (.ref r0), .val (.int (1 : Int32)), .unset, .unset] []))
  refine W.go (fun _ hr => XS.aloadN X0.here hx rfl (hb hby d32_0) rfl rfl hr) ?_
  show W p e below _ (s₁.setTop (mkF m 1 #[.val (.ref r0), .val (.int (1 : Int32)), .unset, .unset] [(.ref r0)]))
  refine W.go (fun _ hr => XS.aloadN X0.here hx rfl (hb hby d32_1) rfl rfl hr) ?_
  show W p e below _ (s₁.setTop (mkF m 2 #[.val (.ref r0), .val (.int (1 : Int32)), .unset, .unset] [(.ref r0), (.ref r0)]))
  obtain ⟨T1, X1, e1, st1⟩ := getF X0 hx hZ hown (host := "") (Or.inl (hw _ (List.mem_of_getElem? (i := 53) rfl))) Via.refl e0 F_count_r0 (g := (mkF m 2 #[.val (.ref r0), .val (.int (1 : Int32)), .unset, .unset] [(.ref r0), (.ref r0)])) rfl rfl (hb hby d32_2)
  refine W.go st1 ?_
  show W p e below _ (T1.setTop (mkF m 5 #[.val (.ref r0), .val (.int (1 : Int32)), .unset, .unset] [(.int cn), (.ref r0)]))
  refine W.go (fun _ hr => XS.iloadN X1.here hx rfl (hb hby d32_5) rfl hr) ?_
  show W p e below _ (T1.setTop (mkF m 6 #[.val (.ref r0), .val (.int (1 : Int32)), .unset, .unset] [(.int (1 : Int32)), (.int cn), (.ref r0)]))
  refine W.go (fun _ hr => XS.ifNo X1.here hx rfl (hb hby d32_6) rfl ((if0 _ _).trans (feq (by decide : ¬ ((1 : Int32) = (0 : Int32)))).1) hr) ?_
  show W p e below _ (T1.setTop (mkF m 9 #[.val (.ref r0), .val (.int (1 : Int32)), .unset, .unset] [(.int cn), (.ref r0)]))
  refine W.go (fun _ hr => XS.iconst X1.here hx rfl (hb hby d32_9) hr) ?_
  show W p e below _ (T1.setTop (mkF m 10 #[.val (.ref r0), .val (.int (1 : Int32)), .unset, .unset] [(.int (4 : Int32)), (.int cn), (.ref r0)]))
  refine W.go (fun _ hr => XS.goto X1.here hx rfl (pc0 := 10) (pc' := 14) rfl (hb hby d32_10) (by decide) (by decide) hr) ?_
  show W p e below _ (T1.setTop (mkF m 14 #[.val (.ref r0), .val (.int (1 : Int32)), .unset, .unset] [(.int (4 : Int32)), (.int cn), (.ref r0)]))
  refine W.go (fun _ hr => XS.iadd X1.here hx rfl (hb hby d32_14) rfl hr) ?_
  show W p e below _ (T1.setTop (mkF m 15 #[.val (.ref r0), .val (.int (1 : Int32)), .unset, .unset] [(.int (cn + (4 : Int32))), (.ref r0)]))
  refine W.callP X1 hx hZ hown (g := (mkF m 15 #[.val (.ref r0), .val (.int (1 : Int32)), .unset, .unset] [(.int (cn + (4 : Int32))), (.ref r0)])) (by rw [hml]; rfl) (hw _ (List.mem_of_getElem? (i := 55) rfl)) (hw _ (List.mem_of_getElem? (i := 57) rfl)) (selPriv2 hZ (hw _ (List.mem_of_getElem? (i := 58) rfl)) rfl (hw _ (List.mem_of_getElem? (i := 57) rfl)) (hw _ (List.mem_of_getElem? (i := 56) rfl)) (by decide)) (hw _ (List.mem_of_getElem? (i := 56) rfl)) (hw _ (List.mem_of_getElem? (i := 19) rfl)) (hw _ (List.mem_of_getElem? (i := 59) rfl)) e1 (rm8 l Z a0 hw r0 (cn + (4 : Int32)) t kt cs h0 n0 Z0 F_value_r0 F_coder_r0 V_t (own_cap _ _ _ (by have e0 : (4 : Int32).toInt = 4 := rfl; have e1 : (1024 : Int32).toInt = 1024 := rfl; omega))) (by decide) pd_17 rfl E_r0 (argsL := [(.int (cn + (4 : Int32)))]) (rest := []) rfl rfl rfl (hb hby d32_15) (W0 := 0) rfl (by decide) (by decide) (by decide) (by decide) (fun v2 T2 h2 L2 X2 e2 hQ2 => ?_)
  obtain ⟨rfl, N2q, hh2⟩ := hQ2
  obtain rfl := hh2.symm
  have N2 := Fr.app N0 N2q
  show W p e below _ (T2.setTop (mkF m 18 #[.val (.ref r0), .val (.int (1 : Int32)), .unset, .unset] []))
  refine W.go (fun _ hr => XS.aloadN X2.here hx rfl (hb hby d32_18) rfl rfl hr) ?_
  show W p e below _ (T2.setTop (mkF m 19 #[.val (.ref r0), .val (.int (1 : Int32)), .unset, .unset] [(.ref r0)]))
  obtain ⟨T3, X3, e3, st3⟩ := getF X2 hx hZ hown (host := "") (Or.inl (hw _ (List.mem_of_getElem? (i := 53) rfl))) Via.refl e2 F_count_r0 (g := (mkF m 19 #[.val (.ref r0), .val (.int (1 : Int32)), .unset, .unset] [(.ref r0)])) rfl rfl (hb hby d32_19)
  refine W.go st3 ?_
  show W p e below _ (T3.setTop (mkF m 22 #[.val (.ref r0), .val (.int (1 : Int32)), .unset, .unset] [(.int cn)]))
  refine W.go (fun _ hr => XS.istoreN X3.here hx rfl (hb hby d32_22) rfl (l' := #[.val (.ref r0), .val (.int (1 : Int32)), .val (.int cn), .unset]) rfl hr) ?_
  show W p e below _ (T3.setTop (mkF m 23 #[.val (.ref r0), .val (.int (1 : Int32)), .val (.int cn), .unset] []))
  refine W.go (fun _ hr => XS.aloadN X3.here hx rfl (hb hby d32_23) rfl rfl hr) ?_
  show W p e below _ (T3.setTop (mkF m 24 #[.val (.ref r0), .val (.int (1 : Int32)), .val (.int cn), .unset] [(.ref r0)]))
  obtain ⟨T4, X4, e4, st4⟩ := getF X3 hx hZ hown (host := "") (Or.inl (hw _ (List.mem_of_getElem? (i := 25) rfl))) Via.refl e3 F_value_r0 (g := (mkF m 24 #[.val (.ref r0), .val (.int (1 : Int32)), .val (.int cn), .unset] [(.ref r0)])) rfl rfl (hb hby d32_24)
  refine W.go st4 ?_
  show W p e below _ (T4.setTop (mkF m 27 #[.val (.ref r0), .val (.int (1 : Int32)), .val (.int cn), .unset] [(.ref t)]))
  refine W.go (fun _ hr => XS.astoreN X4.here hx rfl (hb hby d32_27) rfl rfl (l' := #[.val (.ref r0), .val (.int (1 : Int32)), .val (.int cn), .val (.ref t)]) rfl hr) ?_
  show W p e below _ (T4.setTop (mkF m 28 #[.val (.ref r0), .val (.int (1 : Int32)), .val (.int cn), .val (.ref t)] []))
  refine W.go (fun _ hr => XS.aloadN X4.here hx rfl (hb hby d32_28) rfl rfl hr) ?_
  show W p e below _ (T4.setTop (mkF m 29 #[.val (.ref r0), .val (.int (1 : Int32)), .val (.int cn), .val (.ref t)] [(.ref r0)]))
  refine W.callV X4 hx hZ hown (g := (mkF m 29 #[.val (.ref r0), .val (.int (1 : Int32)), .val (.int cn), .val (.ref t)] [(.ref r0)])) (by rw [hml]; rfl) (hw _ (List.mem_of_getElem? (i := 60) rfl)) (hw _ (List.mem_of_getElem? (i := 61) rfl)) (hw _ (List.mem_of_getElem? (i := 63) rfl)) (hw _ (List.mem_of_getElem? (i := 62) rfl)) (hw _ (List.mem_of_getElem? (i := 19) rfl)) (hw _ (List.mem_of_getElem? (i := 64) rfl)) e4 (rm9 l Z a0 hw r0 zCS h0 n0 Z0 F_coder_r0 S_COMPACT_STRINGS hCS) (notFace_of_selects (args := #[]) (mvT hZ (hw _ (List.mem_of_getElem? (i := 63) rfl)))) (by decide) pd_98 rfl E_r0 (argsL := []) (rest := []) rfl rfl rfl (hb hby d32_29) (W0 := 0) rfl (by decide) (by decide) (by decide) (by decide) (fun v5 T5 h5 L5 X5 e5 hQ5 => ?_)
  obtain ⟨rfl, N5q, hh5⟩ := hQ5
  obtain rfl := hh5.symm
  have N5 := Fr.app N2 N5q
  show W p e below _ (T5.setTop (mkF m 32 #[.val (.ref r0), .val (.int (1 : Int32)), .val (.int cn), .val (.ref t)] [(.int (1 : Int32))]))
  refine W.go (fun _ hr => XS.ifNo X5.here hx rfl (hb hby d32_32) rfl ((if0 _ _).trans (feq (by decide : ¬ ((1 : Int32) = (0 : Int32)))).1) hr) ?_
  show W p e below _ (T5.setTop (mkF m 35 #[.val (.ref r0), .val (.int (1 : Int32)), .val (.int cn), .val (.ref t)] []))
  refine W.go (fun _ hr => XS.iloadN X5.here hx rfl (hb hby d32_35) rfl hr) ?_
  show W p e below _ (T5.setTop (mkF m 36 #[.val (.ref r0), .val (.int (1 : Int32)), .val (.int cn), .val (.ref t)] [(.int (1 : Int32))]))
  refine W.go (fun _ hr => XS.ifNo X5.here hx rfl (hb hby d32_36) rfl ((if0 _ _).trans (feq (by decide : ¬ ((1 : Int32) = (0 : Int32)))).1) hr) ?_
  show W p e below _ (T5.setTop (mkF m 39 #[.val (.ref r0), .val (.int (1 : Int32)), .val (.int cn), .val (.ref t)] []))
  refine W.go (fun _ hr => XS.aloadN X5.here hx rfl (hb hby d32_39) rfl rfl hr) ?_
  show W p e below _ (T5.setTop (mkF m 40 #[.val (.ref r0), .val (.int (1 : Int32)), .val (.int cn), .val (.ref t)] [(.ref t)]))
  refine W.go (fun _ hr => XS.iloadN X5.here hx rfl (hb hby d32_40) rfl hr) ?_
  show W p e below _ (T5.setTop (mkF m 41 #[.val (.ref r0), .val (.int (1 : Int32)), .val (.int cn), .val (.ref t)] [(.int cn), (.ref t)]))
  refine W.go (fun _ hr => XS.iinc X5.here hx rfl (hb hby d32_41) rfl (l' := #[.val (.ref r0), .val (.int (1 : Int32)), .val (.int (cn + (1 : Int32))), .val (.ref t)]) rfl hr) ?_
  show W p e below _ (T5.setTop (mkF m 44 #[.val (.ref r0), .val (.int (1 : Int32)), .val (.int (cn + (1 : Int32))), .val (.ref t)] [(.int cn), (.ref t)]))
  refine W.go (fun _ hr => XS.bipush X5.here hx rfl (hb hby d32_44) hr) ?_
  show W p e below _ (T5.setTop (mkF m 46 #[.val (.ref r0), .val (.int (1 : Int32)), .val (.int (cn + (1 : Int32))), .val (.ref t)] [(.int (116 : Int32)), (.int cn), (.ref t)]))
  obtain ⟨cl6, Ar6, q6, S6, Nn6, Hh6, Gg6⟩ := V_t
  have hin6 : ¬ (cn < 0 ∨ cl6.slots.size ≤ (cn).toNatClampNeg) := inb_of S6 (own_inapp hcn.1 (by have e0 : (1024 : Int32).toInt = 1024 := rfl; first | omega | (have jq := hcn.1; simp only [List.length_append, List.length_cons, List.length_nil] at jq; omega)))
  obtain ⟨T6, h6, X6, e6, W6, st6⟩ := stB X5 hx hZ e5 Ar6 (j := cn) hin6 (g := (mkF m 46 #[.val (.ref r0), .val (.int (1 : Int32)), .val (.int (cn + (1 : Int32))), .val (.ref t)] [(.int (116 : Int32)), (.int cn), (.ref t)])) rfl rfl (hb hby d32_46)
  replace V_t : Arv Z h6 t kt .byte (1024 : Int32) (cs ++ [(.int (116 : Int32))]) (.int (0 : Int32)) := own_app hcn.1 Ar6 q6 S6 Nn6 Hh6 Gg6 (by decide) (by exact W6)
  replace S_COMPACT_STRINGS := Sta.wr W6 S_COMPACT_STRINGS
  replace E_r0 := E_r0.wr W6
  replace F_value_r0 := F_value_r0.other W6 (Or.inl ne_0t)
  replace F_coder_r0 := F_coder_r0.other W6 (Or.inl ne_0t)
  replace F_count_r0 := F_count_r0.other W6 (Or.inl ne_0t)
  have Z7 : n0 ≤ h6.size := Nat.le_trans Z0 (Keep.of_wr W6).1
  replace KC := KC.wr W6 (Or.inl (List.mem_of_getElem? (i := 1) rfl))
  refine W.go st6 ?_
  have N6 := Fr.snoc X6 N5 g_t
  have jl6 := own_len (v := (.int (116 : Int32))) hcn.1 (by first | omega | (have jq := hcn.1; simp only [List.length_append, List.length_cons, List.length_nil] at jq; omega))
  show W p e below _ (T6.setTop (mkF m 47 #[.val (.ref r0), .val (.int (1 : Int32)), .val (.int (cn + (1 : Int32))), .val (.ref t)] []))
  refine W.go (fun _ hr => XS.aloadN X6.here hx rfl (hb hby d32_47) rfl rfl hr) ?_
  show W p e below _ (T6.setTop (mkF m 48 #[.val (.ref r0), .val (.int (1 : Int32)), .val (.int (cn + (1 : Int32))), .val (.ref t)] [(.ref t)]))
  refine W.go (fun _ hr => XS.iloadN X6.here hx rfl (hb hby d32_48) rfl hr) ?_
  show W p e below _ (T6.setTop (mkF m 49 #[.val (.ref r0), .val (.int (1 : Int32)), .val (.int (cn + (1 : Int32))), .val (.ref t)] [(.int (cn + (1 : Int32))), (.ref t)]))
  refine W.go (fun _ hr => XS.iinc X6.here hx rfl (hb hby d32_49) rfl (l' := #[.val (.ref r0), .val (.int (1 : Int32)), .val (.int ((cn + (1 : Int32)) + (1 : Int32))), .val (.ref t)]) rfl hr) ?_
  show W p e below _ (T6.setTop (mkF m 52 #[.val (.ref r0), .val (.int (1 : Int32)), .val (.int ((cn + (1 : Int32)) + (1 : Int32))), .val (.ref t)] [(.int (cn + (1 : Int32))), (.ref t)]))
  refine W.go (fun _ hr => XS.bipush X6.here hx rfl (hb hby d32_52) hr) ?_
  show W p e below _ (T6.setTop (mkF m 54 #[.val (.ref r0), .val (.int (1 : Int32)), .val (.int ((cn + (1 : Int32)) + (1 : Int32))), .val (.ref t)] [(.int (114 : Int32)), (.int (cn + (1 : Int32))), (.ref t)]))
  obtain ⟨cl8, Ar8, q8, S8, Nn8, Hh8, Gg8⟩ := V_t
  have hin8 : ¬ ((cn + (1 : Int32)) < 0 ∨ cl8.slots.size ≤ ((cn + (1 : Int32))).toNatClampNeg) := inb_of S8 (own_inapp jl6 (by have e0 : (1024 : Int32).toInt = 1024 := rfl; first | omega | (have jq := jl6; simp only [List.length_append, List.length_cons, List.length_nil] at jq; omega)))
  obtain ⟨T8, h8, X8, e8, W8, st8⟩ := stB X6 hx hZ e6 Ar8 (j := (cn + (1 : Int32))) hin8 (g := (mkF m 54 #[.val (.ref r0), .val (.int (1 : Int32)), .val (.int ((cn + (1 : Int32)) + (1 : Int32))), .val (.ref t)] [(.int (114 : Int32)), (.int (cn + (1 : Int32))), (.ref t)])) rfl rfl (hb hby d32_54)
  replace V_t : Arv Z h8 t kt .byte (1024 : Int32) ((cs ++ [(.int (116 : Int32))]) ++ [(.int (114 : Int32))]) (.int (0 : Int32)) := own_app jl6 Ar8 q8 S8 Nn8 Hh8 Gg8 (by decide) (by exact W8)
  replace S_COMPACT_STRINGS := Sta.wr W8 S_COMPACT_STRINGS
  replace E_r0 := E_r0.wr W8
  replace F_value_r0 := F_value_r0.other W8 (Or.inl ne_0t)
  replace F_coder_r0 := F_coder_r0.other W8 (Or.inl ne_0t)
  replace F_count_r0 := F_count_r0.other W8 (Or.inl ne_0t)
  have Z9 : n0 ≤ h8.size := Nat.le_trans Z7 (Keep.of_wr W8).1
  replace KC := KC.wr W8 (Or.inl (List.mem_of_getElem? (i := 1) rfl))
  refine W.go st8 ?_
  have N8 := Fr.snoc X8 N6 g_t
  have jl8 := own_len (v := (.int (114 : Int32))) jl6 (by first | omega | (have jq := jl6; simp only [List.length_append, List.length_cons, List.length_nil] at jq; omega))
  show W p e below _ (T8.setTop (mkF m 55 #[.val (.ref r0), .val (.int (1 : Int32)), .val (.int ((cn + (1 : Int32)) + (1 : Int32))), .val (.ref t)] []))
  refine W.go (fun _ hr => XS.aloadN X8.here hx rfl (hb hby d32_55) rfl rfl hr) ?_
  show W p e below _ (T8.setTop (mkF m 56 #[.val (.ref r0), .val (.int (1 : Int32)), .val (.int ((cn + (1 : Int32)) + (1 : Int32))), .val (.ref t)] [(.ref t)]))
  refine W.go (fun _ hr => XS.iloadN X8.here hx rfl (hb hby d32_56) rfl hr) ?_
  show W p e below _ (T8.setTop (mkF m 57 #[.val (.ref r0), .val (.int (1 : Int32)), .val (.int ((cn + (1 : Int32)) + (1 : Int32))), .val (.ref t)] [(.int ((cn + (1 : Int32)) + (1 : Int32))), (.ref t)]))
  refine W.go (fun _ hr => XS.iinc X8.here hx rfl (hb hby d32_57) rfl (l' := #[.val (.ref r0), .val (.int (1 : Int32)), .val (.int (((cn + (1 : Int32)) + (1 : Int32)) + (1 : Int32))), .val (.ref t)]) rfl hr) ?_
  show W p e below _ (T8.setTop (mkF m 60 #[.val (.ref r0), .val (.int (1 : Int32)), .val (.int (((cn + (1 : Int32)) + (1 : Int32)) + (1 : Int32))), .val (.ref t)] [(.int ((cn + (1 : Int32)) + (1 : Int32))), (.ref t)]))
  refine W.go (fun _ hr => XS.bipush X8.here hx rfl (hb hby d32_60) hr) ?_
  show W p e below _ (T8.setTop (mkF m 62 #[.val (.ref r0), .val (.int (1 : Int32)), .val (.int (((cn + (1 : Int32)) + (1 : Int32)) + (1 : Int32))), .val (.ref t)] [(.int (117 : Int32)), (.int ((cn + (1 : Int32)) + (1 : Int32))), (.ref t)]))
  obtain ⟨cl10, Ar10, q10, S10, Nn10, Hh10, Gg10⟩ := V_t
  have hin10 : ¬ (((cn + (1 : Int32)) + (1 : Int32)) < 0 ∨ cl10.slots.size ≤ (((cn + (1 : Int32)) + (1 : Int32))).toNatClampNeg) := inb_of S10 (own_inapp jl8 (by have e0 : (1024 : Int32).toInt = 1024 := rfl; first | omega | (have jq := jl8; simp only [List.length_append, List.length_cons, List.length_nil] at jq; omega)))
  obtain ⟨T10, h10, X10, e10, W10, st10⟩ := stB X8 hx hZ e8 Ar10 (j := ((cn + (1 : Int32)) + (1 : Int32))) hin10 (g := (mkF m 62 #[.val (.ref r0), .val (.int (1 : Int32)), .val (.int (((cn + (1 : Int32)) + (1 : Int32)) + (1 : Int32))), .val (.ref t)] [(.int (117 : Int32)), (.int ((cn + (1 : Int32)) + (1 : Int32))), (.ref t)])) rfl rfl (hb hby d32_62)
  replace V_t : Arv Z h10 t kt .byte (1024 : Int32) (((cs ++ [(.int (116 : Int32))]) ++ [(.int (114 : Int32))]) ++ [(.int (117 : Int32))]) (.int (0 : Int32)) := own_app jl8 Ar10 q10 S10 Nn10 Hh10 Gg10 (by decide) (by exact W10)
  replace S_COMPACT_STRINGS := Sta.wr W10 S_COMPACT_STRINGS
  replace E_r0 := E_r0.wr W10
  replace F_value_r0 := F_value_r0.other W10 (Or.inl ne_0t)
  replace F_coder_r0 := F_coder_r0.other W10 (Or.inl ne_0t)
  replace F_count_r0 := F_count_r0.other W10 (Or.inl ne_0t)
  have Z11 : n0 ≤ h10.size := Nat.le_trans Z9 (Keep.of_wr W10).1
  replace KC := KC.wr W10 (Or.inl (List.mem_of_getElem? (i := 1) rfl))
  refine W.go st10 ?_
  have N10 := Fr.snoc X10 N8 g_t
  have jl10 := own_len (v := (.int (117 : Int32))) jl8 (by first | omega | (have jq := jl8; simp only [List.length_append, List.length_cons, List.length_nil] at jq; omega))
  show W p e below _ (T10.setTop (mkF m 63 #[.val (.ref r0), .val (.int (1 : Int32)), .val (.int (((cn + (1 : Int32)) + (1 : Int32)) + (1 : Int32))), .val (.ref t)] []))
  refine W.go (fun _ hr => XS.aloadN X10.here hx rfl (hb hby d32_63) rfl rfl hr) ?_
  show W p e below _ (T10.setTop (mkF m 64 #[.val (.ref r0), .val (.int (1 : Int32)), .val (.int (((cn + (1 : Int32)) + (1 : Int32)) + (1 : Int32))), .val (.ref t)] [(.ref t)]))
  refine W.go (fun _ hr => XS.iloadN X10.here hx rfl (hb hby d32_64) rfl hr) ?_
  show W p e below _ (T10.setTop (mkF m 65 #[.val (.ref r0), .val (.int (1 : Int32)), .val (.int (((cn + (1 : Int32)) + (1 : Int32)) + (1 : Int32))), .val (.ref t)] [(.int (((cn + (1 : Int32)) + (1 : Int32)) + (1 : Int32))), (.ref t)]))
  refine W.go (fun _ hr => XS.iinc X10.here hx rfl (hb hby d32_65) rfl (l' := #[.val (.ref r0), .val (.int (1 : Int32)), .val (.int ((((cn + (1 : Int32)) + (1 : Int32)) + (1 : Int32)) + (1 : Int32))), .val (.ref t)]) rfl hr) ?_
  show W p e below _ (T10.setTop (mkF m 68 #[.val (.ref r0), .val (.int (1 : Int32)), .val (.int ((((cn + (1 : Int32)) + (1 : Int32)) + (1 : Int32)) + (1 : Int32))), .val (.ref t)] [(.int (((cn + (1 : Int32)) + (1 : Int32)) + (1 : Int32))), (.ref t)]))
  refine W.go (fun _ hr => XS.bipush X10.here hx rfl (hb hby d32_68) hr) ?_
  show W p e below _ (T10.setTop (mkF m 70 #[.val (.ref r0), .val (.int (1 : Int32)), .val (.int ((((cn + (1 : Int32)) + (1 : Int32)) + (1 : Int32)) + (1 : Int32))), .val (.ref t)] [(.int (101 : Int32)), (.int (((cn + (1 : Int32)) + (1 : Int32)) + (1 : Int32))), (.ref t)]))
  obtain ⟨cl12, Ar12, q12, S12, Nn12, Hh12, Gg12⟩ := V_t
  have hin12 : ¬ ((((cn + (1 : Int32)) + (1 : Int32)) + (1 : Int32)) < 0 ∨ cl12.slots.size ≤ ((((cn + (1 : Int32)) + (1 : Int32)) + (1 : Int32))).toNatClampNeg) := inb_of S12 (own_inapp jl10 (by have e0 : (1024 : Int32).toInt = 1024 := rfl; first | omega | (have jq := jl10; simp only [List.length_append, List.length_cons, List.length_nil] at jq; omega)))
  obtain ⟨T12, h12, X12, e12, W12, st12⟩ := stB X10 hx hZ e10 Ar12 (j := (((cn + (1 : Int32)) + (1 : Int32)) + (1 : Int32))) hin12 (g := (mkF m 70 #[.val (.ref r0), .val (.int (1 : Int32)), .val (.int ((((cn + (1 : Int32)) + (1 : Int32)) + (1 : Int32)) + (1 : Int32))), .val (.ref t)] [(.int (101 : Int32)), (.int (((cn + (1 : Int32)) + (1 : Int32)) + (1 : Int32))), (.ref t)])) rfl rfl (hb hby d32_70)
  replace V_t : Arv Z h12 t kt .byte (1024 : Int32) ((((cs ++ [(.int (116 : Int32))]) ++ [(.int (114 : Int32))]) ++ [(.int (117 : Int32))]) ++ [(.int (101 : Int32))]) (.int (0 : Int32)) := own_app jl10 Ar12 q12 S12 Nn12 Hh12 Gg12 (by decide) (by exact W12)
  replace S_COMPACT_STRINGS := Sta.wr W12 S_COMPACT_STRINGS
  replace E_r0 := E_r0.wr W12
  replace F_value_r0 := F_value_r0.other W12 (Or.inl ne_0t)
  replace F_coder_r0 := F_coder_r0.other W12 (Or.inl ne_0t)
  replace F_count_r0 := F_count_r0.other W12 (Or.inl ne_0t)
  have Z13 : n0 ≤ h12.size := Nat.le_trans Z11 (Keep.of_wr W12).1
  replace KC := KC.wr W12 (Or.inl (List.mem_of_getElem? (i := 1) rfl))
  refine W.go st12 ?_
  have N12 := Fr.snoc X12 N10 g_t
  have jl12 := own_len (v := (.int (101 : Int32))) jl10 (by first | omega | (have jq := jl10; simp only [List.length_append, List.length_cons, List.length_nil] at jq; omega))
  show W p e below _ (T12.setTop (mkF m 71 #[.val (.ref r0), .val (.int (1 : Int32)), .val (.int ((((cn + (1 : Int32)) + (1 : Int32)) + (1 : Int32)) + (1 : Int32))), .val (.ref t)] []))
  refine W.go (fun _ hr => XS.goto X12.here hx rfl (pc0 := 71) (pc' := 154) rfl (hb hby d32_71) (by decide) (by decide) hr) ?_
  show W p e below _ (T12.setTop (mkF m 154 #[.val (.ref r0), .val (.int (1 : Int32)), .val (.int ((((cn + (1 : Int32)) + (1 : Int32)) + (1 : Int32)) + (1 : Int32))), .val (.ref t)] []))
  refine W.go (fun _ hr => XS.aloadN X12.here hx rfl (hb hby d32_154) rfl rfl hr) ?_
  show W p e below _ (T12.setTop (mkF m 155 #[.val (.ref r0), .val (.int (1 : Int32)), .val (.int ((((cn + (1 : Int32)) + (1 : Int32)) + (1 : Int32)) + (1 : Int32))), .val (.ref t)] [(.ref r0)]))
  refine W.go (fun _ hr => XS.iloadN X12.here hx rfl (hb hby d32_155) rfl hr) ?_
  show W p e below _ (T12.setTop (mkF m 156 #[.val (.ref r0), .val (.int (1 : Int32)), .val (.int ((((cn + (1 : Int32)) + (1 : Int32)) + (1 : Int32)) + (1 : Int32))), .val (.ref t)] [(.int ((((cn + (1 : Int32)) + (1 : Int32)) + (1 : Int32)) + (1 : Int32))), (.ref r0)]))
  obtain ⟨T14, h14, X14, e14, W14, st14⟩ := putF X12 hx hZ hown (host := "") (Or.inl (hw _ (List.mem_of_getElem? (i := 53) rfl))) Via.refl e12 F_count_r0 E_r0 (Or.inl (hw _ (List.mem_of_getElem? (i := 54) rfl))) (hw _ (List.mem_of_getElem? (i := 10) rfl)) (ty := .int) (by decide) rfl rfl (g := (mkF m 156 #[.val (.ref r0), .val (.int (1 : Int32)), .val (.int ((((cn + (1 : Int32)) + (1 : Int32)) + (1 : Int32)) + (1 : Int32))), .val (.ref t)] [(.int ((((cn + (1 : Int32)) + (1 : Int32)) + (1 : Int32)) + (1 : Int32))), (.ref r0)])) rfl rfl (hb hby d32_156)
  refine W.go st14 ?_
  replace S_COMPACT_STRINGS := Sta.wr W14 S_COMPACT_STRINGS
  replace E_r0 := E_r0.wr W14
  replace F_value_r0 := F_value_r0.other W14 (Or.inr (slot_ne (Or.inl (hw _ (List.mem_of_getElem? (i := 26) rfl))) (Or.inl (hw _ (List.mem_of_getElem? (i := 54) rfl))) (by decide) (t := (.array .byte)) (t' := .int) (by decide) (by decide)))
  replace F_coder_r0 := F_coder_r0.other W14 (Or.inr (slot_ne (Or.inl (hw _ (List.mem_of_getElem? (i := 28) rfl))) (Or.inl (hw _ (List.mem_of_getElem? (i := 54) rfl))) (by decide) (t := .byte) (t' := .int) (by decide) (by decide)))
  replace F_count_r0 := F_count_r0.same W14
  replace V_t := V_t.other W14 (Ne.symm ne_0t)
  have Z15 : n0 ≤ h14.size := Nat.le_trans Z13 (Keep.of_wr W14).1
  replace KC := KC.wr W14 (Or.inl (List.mem_of_getElem? (i := 0) rfl))
  have N14 := Fr.snoc X14 N12 g_r0
  show W p e below _ (T14.setTop (mkF m 159 #[.val (.ref r0), .val (.int (1 : Int32)), .val (.int ((((cn + (1 : Int32)) + (1 : Int32)) + (1 : Int32)) + (1 : Int32))), .val (.ref t)] []))
  refine W.go (fun _ hr => XS.aloadN X14.here hx rfl (hb hby d32_159) rfl rfl hr) ?_
  show W p e below _ (T14.setTop (mkF m 160 #[.val (.ref r0), .val (.int (1 : Int32)), .val (.int ((((cn + (1 : Int32)) + (1 : Int32)) + (1 : Int32)) + (1 : Int32))), .val (.ref t)] [(.ref r0)]))
  exact W.retA X14 hx hlk hret rfl rfl (hb hby d32_160) (by decide) (by decide) e14 ⟨rfl, N14, KC, E_r0, F_value_r0, F_coder_r0, by rw [hcn']; exact F_count_r0, by rw [hcs']; exact V_t⟩
theorem d31_0 : decode jdk_67_method_13_code 0 = .ok (.aload_n 0, 1) := by decide +kernel
theorem d31_1 : decode jdk_67_method_13_code 1 = .ok (.iload_n 1, 1) := by decide +kernel
theorem d31_2 : decode jdk_67_method_13_code 2 = .ok (.invokespecial 47, 3) := by decide +kernel
theorem pd_227 : parseMethodDescriptor "(Z)Ljava/lang/AbstractStringBuilder;" = some ⟨[.boolean], some (.object "java/lang/AbstractStringBuilder")⟩ := by decide +kernel
theorem d31_5 : decode jdk_67_method_13_code 5 = .ok (.pop, 1) := by decide +kernel
theorem d31_6 : decode jdk_67_method_13_code 6 = .ok (.aload_n 0, 1) := by decide +kernel
theorem d31_7 : decode jdk_67_method_13_code 7 = .ok (.areturn, 1) := by decide +kernel
def Q_rmZ1 (Z : State) (r0 : Addr) (t : Addr) (kt : ClassId) (cs : List Value) (cn : Int32) (zCS : Int32) (cs' : List Value) (cn' : Int32) (h0 : Heap) (n0 : Nat) (v : Option Value) (h : Heap) (L : List Loc) : Prop := v = some (.ref r0) ∧ Fr n0 L ∧ Keep h0 h [r0, t] ∧ Exa Z h r0 "java/lang/StringBuilder" ∧ Fld Z h r0 "java/lang/AbstractStringBuilder" "value" "[B" (.ref t) ∧ Fld Z h r0 "java/lang/AbstractStringBuilder" "coder" "B" (.int (0 : Int32)) ∧ Fld Z h r0 "java/lang/AbstractStringBuilder" "count" "I" (.int cn') ∧ Arv Z h t kt .byte (1024 : Int32) cs' (.int (0 : Int32))
set_option maxRecDepth 65536 in
set_option maxHeartbeats 40000000 in
theorem rmZ1 (l : Launch) (Z : State) (a0 : Array Value) (hw : ∀ d ∈ tables_1, d.before a0 Z = true) (r0 : Addr) (t : Addr) (kt : ClassId) (cs : List Value) (cn : Int32) (zCS : Int32) (cs' : List Value) (cn' : Int32) (h0 : Heap) (n0 : Nat) (Z0 : n0 ≤ h0.size) (E_r0 : Exa Z h0 r0 "java/lang/StringBuilder") (F_value_r0 : Fld Z h0 r0 "java/lang/AbstractStringBuilder" "value" "[B" (.ref t)) (F_coder_r0 : Fld Z h0 r0 "java/lang/AbstractStringBuilder" "coder" "B" (.int (0 : Int32))) (F_count_r0 : Fld Z h0 r0 "java/lang/AbstractStringBuilder" "count" "I" (.int cn)) (V_t : Arv Z h0 t kt .byte (1024 : Int32) cs (.int (0 : Int32))) (S_COMPACT_STRINGS : Sta Z h0 "java/lang/String" "COMPACT_STRINGS" "Z" (.int zCS)) (hCS : ¬ zCS = 0) (hcn : cn.toInt = cs.length ∧ cn.toInt + 8 ≤ 1024) (g_r0 : n0 ≤ r0) (g_t : n0 ≤ t) (ne_0t : r0 ≠ t) (hcs' : cs' = cs ++ [.int (116 : Int32)] ++ [.int (114 : Int32)] ++ [.int (117 : Int32)] ++ [.int (101 : Int32)]) (hcn' : cn' = cn + 1 + 1 + 1 + 1) :
    Ctr l Z (⟨"java/lang/StringBuilder", "append", "(Z)Ljava/lang/StringBuilder;"⟩ : MethodName) jdk_67_method_13_code 2 (some (.object "java/lang/StringBuilder")) ({ frames := 2, cells := 0, slots := 0, locals := 29 } : Room) #[(.ref r0), (.int (1 : Int32))] h0 (Q_rmZ1 Z r0 t kt cs cn zCS cs' cn' h0 n0) := by
  refine Ctr.body (fr := fun m => mkF m 0 #[.val (.ref r0), .val (.int (1 : Int32))] []) (plainFor_of_name pn_java_lang_StringBuilder) (fun m => by first | (simp [entryFrame, mkF, argsToLocals, Value.category]; done) | rfl) fun p e s m below meth c s₁ hx hby hml hZ hown hnm hret hlk X0 e0 => ?_
  have N0 := Fr.nil n0
  have hown : s.vm.findClass "java/lang/StringBuilder" = some m.cls := hown
  have KC : Keep h0 h0 [r0, t] := Keep.refl _ _
  show W p e below _ (s₁.setTop (mkF m 0 #[.val (.ref r0), .val (.int (1 : Int32))] []))
  refine W.go (fun _ hr => XS.aloadN X0.here hx rfl (hb hby d31_0) rfl rfl hr) ?_
  show W p e below _ (s₁.setTop (mkF m 1 #[.val (.ref r0), .val (.int (1 : Int32))] [(.ref r0)]))
  refine W.go (fun _ hr => XS.iloadN X0.here hx rfl (hb hby d31_1) rfl hr) ?_
  show W p e below _ (s₁.setTop (mkF m 2 #[.val (.ref r0), .val (.int (1 : Int32))] [(.int (1 : Int32)), (.ref r0)]))
  refine W.callSup X0 hx hZ hown (g := (mkF m 2 #[.val (.ref r0), .val (.int (1 : Int32))] [(.int (1 : Int32)), (.ref r0)])) (by rw [hml]; rfl) (hw _ (List.mem_of_getElem? (i := 182) rfl)) (sameDecl (hw _ (List.mem_of_getElem? (i := 184) rfl)) (hw _ (List.mem_of_getElem? (i := 58) rfl)) rfl (by decide)) (hw _ (List.mem_of_getElem? (i := 183) rfl)) (hw _ (List.mem_of_getElem? (i := 50) rfl)) (hw _ (List.mem_of_getElem? (i := 19) rfl)) (hw _ (List.mem_of_getElem? (i := 185) rfl)) e0 (rmZ1a l Z a0 hw r0 t kt cs cn zCS cs' cn' h0 n0 Z0 E_r0 F_value_r0 F_coder_r0 F_count_r0 V_t S_COMPACT_STRINGS hCS hcn g_r0 g_t ne_0t hcs' hcn') (by decide) pd_227 rfl E_r0 (argsL := [(.int (1 : Int32))]) (rest := []) rfl rfl rfl (hb hby d31_2) (W0 := 0) rfl (by decide) (by decide) (by decide) (by decide) (fun v1 T1 h1 L1 X1 e1 hQ1 => ?_)
  obtain ⟨rfl, N1q, K1, Ee1, Fv1, Fc1, Fn1, V1⟩ := hQ1
  have N1 := Fr.app N0 N1q
  have nsK1 := (nsS E_r0.nostat (nsS V_t.nostat ns0))
  replace S_COMPACT_STRINGS := Sta.keep S_COMPACT_STRINGS K1 nsK1
  replace E_r0 := E_r0.keep K1
  have Z2 : n0 ≤ h1.size := Nat.le_trans Z0 K1.1
  replace KC := KC.trans K1 (allS (Or.inl (List.mem_of_getElem? (i := 0) rfl)) (allS (Or.inl (List.mem_of_getElem? (i := 1) rfl)) all0))
  show W p e below _ (T1.setTop (mkF m 5 #[.val (.ref r0), .val (.int (1 : Int32))] [(.ref r0)]))
  refine W.go (fun _ hr => XS.pop X1.here hx rfl (hb hby d31_5) rfl rfl hr) ?_
  show W p e below _ (T1.setTop (mkF m 6 #[.val (.ref r0), .val (.int (1 : Int32))] []))
  refine W.go (fun _ hr => XS.aloadN X1.here hx rfl (hb hby d31_6) rfl rfl hr) ?_
  show W p e below _ (T1.setTop (mkF m 7 #[.val (.ref r0), .val (.int (1 : Int32))] [(.ref r0)]))
  exact W.retA X1 hx hlk hret rfl rfl (hb hby d31_7) (by decide) (by decide) e1 ⟨rfl, N1, KC, E_r0, Fv1, Fc1, Fn1, V1⟩
theorem d32_13 : decode jdk_68_method_30_code 13 = .ok (.iconst 5, 1) := by decide +kernel
theorem d32_74 : decode jdk_68_method_30_code 74 = .ok (.aload_n 3, 1) := by decide +kernel
theorem d32_75 : decode jdk_68_method_30_code 75 = .ok (.iload_n 2, 1) := by decide +kernel
theorem d32_76 : decode jdk_68_method_30_code 76 = .ok (.iinc 2 1, 3) := by decide +kernel
theorem d32_79 : decode jdk_68_method_30_code 79 = .ok (.bipush 102, 2) := by decide +kernel
theorem d32_81 : decode jdk_68_method_30_code 81 = .ok (.bastore, 1) := by decide +kernel
theorem d32_82 : decode jdk_68_method_30_code 82 = .ok (.aload_n 3, 1) := by decide +kernel
theorem d32_83 : decode jdk_68_method_30_code 83 = .ok (.iload_n 2, 1) := by decide +kernel
theorem d32_84 : decode jdk_68_method_30_code 84 = .ok (.iinc 2 1, 3) := by decide +kernel
theorem d32_87 : decode jdk_68_method_30_code 87 = .ok (.bipush 97, 2) := by decide +kernel
theorem d32_89 : decode jdk_68_method_30_code 89 = .ok (.bastore, 1) := by decide +kernel
theorem d32_90 : decode jdk_68_method_30_code 90 = .ok (.aload_n 3, 1) := by decide +kernel
theorem d32_91 : decode jdk_68_method_30_code 91 = .ok (.iload_n 2, 1) := by decide +kernel
theorem d32_92 : decode jdk_68_method_30_code 92 = .ok (.iinc 2 1, 3) := by decide +kernel
theorem d32_95 : decode jdk_68_method_30_code 95 = .ok (.bipush 108, 2) := by decide +kernel
theorem d32_97 : decode jdk_68_method_30_code 97 = .ok (.bastore, 1) := by decide +kernel
theorem d32_98 : decode jdk_68_method_30_code 98 = .ok (.aload_n 3, 1) := by decide +kernel
theorem d32_99 : decode jdk_68_method_30_code 99 = .ok (.iload_n 2, 1) := by decide +kernel
theorem d32_100 : decode jdk_68_method_30_code 100 = .ok (.iinc 2 1, 3) := by decide +kernel
theorem d32_103 : decode jdk_68_method_30_code 103 = .ok (.bipush 115, 2) := by decide +kernel
theorem d32_105 : decode jdk_68_method_30_code 105 = .ok (.bastore, 1) := by decide +kernel
theorem d32_106 : decode jdk_68_method_30_code 106 = .ok (.aload_n 3, 1) := by decide +kernel
theorem d32_107 : decode jdk_68_method_30_code 107 = .ok (.iload_n 2, 1) := by decide +kernel
theorem d32_108 : decode jdk_68_method_30_code 108 = .ok (.iinc 2 1, 3) := by decide +kernel
theorem d32_111 : decode jdk_68_method_30_code 111 = .ok (.bipush 101, 2) := by decide +kernel
theorem d32_113 : decode jdk_68_method_30_code 113 = .ok (.bastore, 1) := by decide +kernel
theorem d32_114 : decode jdk_68_method_30_code 114 = .ok (.goto 40, 3) := by decide +kernel
def Q_rmZ0a (Z : State) (r0 : Addr) (t : Addr) (kt : ClassId) (cs : List Value) (cn : Int32) (zCS : Int32) (cs' : List Value) (cn' : Int32) (h0 : Heap) (n0 : Nat) (v : Option Value) (h : Heap) (L : List Loc) : Prop := v = some (.ref r0) ∧ Fr n0 L ∧ Keep h0 h [r0, t] ∧ Exa Z h r0 "java/lang/StringBuilder" ∧ Fld Z h r0 "java/lang/AbstractStringBuilder" "value" "[B" (.ref t) ∧ Fld Z h r0 "java/lang/AbstractStringBuilder" "coder" "B" (.int (0 : Int32)) ∧ Fld Z h r0 "java/lang/AbstractStringBuilder" "count" "I" (.int cn') ∧ Arv Z h t kt .byte (1024 : Int32) cs' (.int (0 : Int32))
set_option maxRecDepth 65536 in
set_option maxHeartbeats 40000000 in
theorem rmZ0a (l : Launch) (Z : State) (a0 : Array Value) (hw : ∀ d ∈ tables_1, d.before a0 Z = true) (r0 : Addr) (t : Addr) (kt : ClassId) (cs : List Value) (cn : Int32) (zCS : Int32) (cs' : List Value) (cn' : Int32) (h0 : Heap) (n0 : Nat) (Z0 : n0 ≤ h0.size) (E_r0 : Exa Z h0 r0 "java/lang/StringBuilder") (F_value_r0 : Fld Z h0 r0 "java/lang/AbstractStringBuilder" "value" "[B" (.ref t)) (F_coder_r0 : Fld Z h0 r0 "java/lang/AbstractStringBuilder" "coder" "B" (.int (0 : Int32))) (F_count_r0 : Fld Z h0 r0 "java/lang/AbstractStringBuilder" "count" "I" (.int cn)) (V_t : Arv Z h0 t kt .byte (1024 : Int32) cs (.int (0 : Int32))) (S_COMPACT_STRINGS : Sta Z h0 "java/lang/String" "COMPACT_STRINGS" "Z" (.int zCS)) (hCS : ¬ zCS = 0) (hcn : cn.toInt = cs.length ∧ cn.toInt + 8 ≤ 1024) (g_r0 : n0 ≤ r0) (g_t : n0 ≤ t) (ne_0t : r0 ≠ t) (hcs' : cs' = cs ++ [.int (102 : Int32)] ++ [.int (97 : Int32)] ++ [.int (108 : Int32)] ++ [.int (115 : Int32)] ++ [.int (101 : Int32)]) (hcn' : cn' = cn + 1 + 1 + 1 + 1 + 1) :
    Ctr l Z (⟨"java/lang/AbstractStringBuilder", "append", "(Z)Ljava/lang/AbstractStringBuilder;"⟩ : MethodName) jdk_68_method_30_code 4 (some (.object "java/lang/AbstractStringBuilder")) ({ frames := 1, cells := 0, slots := 0, locals := 14 } : Room) #[(.ref r0), (.int (0 : Int32))] h0 (Q_rmZ0a Z r0 t kt cs cn zCS cs' cn' h0 n0) := by
  refine Ctr.body (fr := fun m => mkF m 0 #[.val (.ref r0), .val (.int (0 : Int32)), .unset, .unset] []) (plainFor_of_name pn_java_lang_AbstractStringBuilder) (fun m => by first | (simp [entryFrame, mkF, argsToLocals, Value.category]; done) | rfl) fun p e s m below meth c s₁ hx hby hml hZ hown hnm hret hlk X0 e0 => ?_
  have N0 := Fr.nil n0
  have hown : s.vm.findClass "java/lang/AbstractStringBuilder" = some m.cls := hown
  have KC : Keep h0 h0 [r0, t] := Keep.refl _ _
  show W p e below _ (s₁.setTop (mkF m 0 #[.val (.ref r0), .val (.int (0 : Int32)), .unset, .unset] []))
  refine W.go (fun _ hr => XS.aloadN X0.here hx rfl (hb hby d32_0) rfl rfl hr) ?_
  show W p e below _ (s₁.setTop (mkF m 1 #[.val (.ref r0), .val (.int (0 : Int32)), .unset, .unset] [(.ref r0)]))
  refine W.go (fun _ hr => XS.aloadN X0.here hx rfl (hb hby d32_1) rfl rfl hr) ?_
  show W p e below _ (s₁.setTop (mkF m 2 #[.val (.ref r0), .val (.int (0 : Int32)), .unset, .unset] [(.ref r0), (.ref r0)]))
  obtain ⟨T1, X1, e1, st1⟩ := getF X0 hx hZ hown (host := "") (Or.inl (hw _ (List.mem_of_getElem? (i := 53) rfl))) Via.refl e0 F_count_r0 (g := (mkF m 2 #[.val (.ref r0), .val (.int (0 : Int32)), .unset, .unset] [(.ref r0), (.ref r0)])) rfl rfl (hb hby d32_2)
  refine W.go st1 ?_
  show W p e below _ (T1.setTop (mkF m 5 #[.val (.ref r0), .val (.int (0 : Int32)), .unset, .unset] [(.int cn), (.ref r0)]))
  refine W.go (fun _ hr => XS.iloadN X1.here hx rfl (hb hby d32_5) rfl hr) ?_
  show W p e below _ (T1.setTop (mkF m 6 #[.val (.ref r0), .val (.int (0 : Int32)), .unset, .unset] [(.int (0 : Int32)), (.int cn), (.ref r0)]))
  refine W.go (fun _ hr => XS.ifYes X1.here hx rfl (pc0 := 6) (pc' := 13) rfl (hb hby d32_6) rfl ((if0 _ _).trans (teq (by decide : ((0 : Int32) = (0 : Int32)))).1) (by decide) (by decide) hr) ?_
  show W p e below _ (T1.setTop (mkF m 13 #[.val (.ref r0), .val (.int (0 : Int32)), .unset, .unset] [(.int cn), (.ref r0)]))
  refine W.go (fun _ hr => XS.iconst X1.here hx rfl (hb hby d32_13) hr) ?_
  show W p e below _ (T1.setTop (mkF m 14 #[.val (.ref r0), .val (.int (0 : Int32)), .unset, .unset] [(.int (5 : Int32)), (.int cn), (.ref r0)]))
  refine W.go (fun _ hr => XS.iadd X1.here hx rfl (hb hby d32_14) rfl hr) ?_
  show W p e below _ (T1.setTop (mkF m 15 #[.val (.ref r0), .val (.int (0 : Int32)), .unset, .unset] [(.int (cn + (5 : Int32))), (.ref r0)]))
  refine W.callP X1 hx hZ hown (g := (mkF m 15 #[.val (.ref r0), .val (.int (0 : Int32)), .unset, .unset] [(.int (cn + (5 : Int32))), (.ref r0)])) (by rw [hml]; rfl) (hw _ (List.mem_of_getElem? (i := 55) rfl)) (hw _ (List.mem_of_getElem? (i := 57) rfl)) (selPriv2 hZ (hw _ (List.mem_of_getElem? (i := 58) rfl)) rfl (hw _ (List.mem_of_getElem? (i := 57) rfl)) (hw _ (List.mem_of_getElem? (i := 56) rfl)) (by decide)) (hw _ (List.mem_of_getElem? (i := 56) rfl)) (hw _ (List.mem_of_getElem? (i := 19) rfl)) (hw _ (List.mem_of_getElem? (i := 59) rfl)) e1 (rm8 l Z a0 hw r0 (cn + (5 : Int32)) t kt cs h0 n0 Z0 F_value_r0 F_coder_r0 V_t (own_cap _ _ _ (by have e0 : (5 : Int32).toInt = 5 := rfl; have e1 : (1024 : Int32).toInt = 1024 := rfl; omega))) (by decide) pd_17 rfl E_r0 (argsL := [(.int (cn + (5 : Int32)))]) (rest := []) rfl rfl rfl (hb hby d32_15) (W0 := 0) rfl (by decide) (by decide) (by decide) (by decide) (fun v2 T2 h2 L2 X2 e2 hQ2 => ?_)
  obtain ⟨rfl, N2q, hh2⟩ := hQ2
  obtain rfl := hh2.symm
  have N2 := Fr.app N0 N2q
  show W p e below _ (T2.setTop (mkF m 18 #[.val (.ref r0), .val (.int (0 : Int32)), .unset, .unset] []))
  refine W.go (fun _ hr => XS.aloadN X2.here hx rfl (hb hby d32_18) rfl rfl hr) ?_
  show W p e below _ (T2.setTop (mkF m 19 #[.val (.ref r0), .val (.int (0 : Int32)), .unset, .unset] [(.ref r0)]))
  obtain ⟨T3, X3, e3, st3⟩ := getF X2 hx hZ hown (host := "") (Or.inl (hw _ (List.mem_of_getElem? (i := 53) rfl))) Via.refl e2 F_count_r0 (g := (mkF m 19 #[.val (.ref r0), .val (.int (0 : Int32)), .unset, .unset] [(.ref r0)])) rfl rfl (hb hby d32_19)
  refine W.go st3 ?_
  show W p e below _ (T3.setTop (mkF m 22 #[.val (.ref r0), .val (.int (0 : Int32)), .unset, .unset] [(.int cn)]))
  refine W.go (fun _ hr => XS.istoreN X3.here hx rfl (hb hby d32_22) rfl (l' := #[.val (.ref r0), .val (.int (0 : Int32)), .val (.int cn), .unset]) rfl hr) ?_
  show W p e below _ (T3.setTop (mkF m 23 #[.val (.ref r0), .val (.int (0 : Int32)), .val (.int cn), .unset] []))
  refine W.go (fun _ hr => XS.aloadN X3.here hx rfl (hb hby d32_23) rfl rfl hr) ?_
  show W p e below _ (T3.setTop (mkF m 24 #[.val (.ref r0), .val (.int (0 : Int32)), .val (.int cn), .unset] [(.ref r0)]))
  obtain ⟨T4, X4, e4, st4⟩ := getF X3 hx hZ hown (host := "") (Or.inl (hw _ (List.mem_of_getElem? (i := 25) rfl))) Via.refl e3 F_value_r0 (g := (mkF m 24 #[.val (.ref r0), .val (.int (0 : Int32)), .val (.int cn), .unset] [(.ref r0)])) rfl rfl (hb hby d32_24)
  refine W.go st4 ?_
  show W p e below _ (T4.setTop (mkF m 27 #[.val (.ref r0), .val (.int (0 : Int32)), .val (.int cn), .unset] [(.ref t)]))
  refine W.go (fun _ hr => XS.astoreN X4.here hx rfl (hb hby d32_27) rfl rfl (l' := #[.val (.ref r0), .val (.int (0 : Int32)), .val (.int cn), .val (.ref t)]) rfl hr) ?_
  show W p e below _ (T4.setTop (mkF m 28 #[.val (.ref r0), .val (.int (0 : Int32)), .val (.int cn), .val (.ref t)] []))
  refine W.go (fun _ hr => XS.aloadN X4.here hx rfl (hb hby d32_28) rfl rfl hr) ?_
  show W p e below _ (T4.setTop (mkF m 29 #[.val (.ref r0), .val (.int (0 : Int32)), .val (.int cn), .val (.ref t)] [(.ref r0)]))
  refine W.callV X4 hx hZ hown (g := (mkF m 29 #[.val (.ref r0), .val (.int (0 : Int32)), .val (.int cn), .val (.ref t)] [(.ref r0)])) (by rw [hml]; rfl) (hw _ (List.mem_of_getElem? (i := 60) rfl)) (hw _ (List.mem_of_getElem? (i := 61) rfl)) (hw _ (List.mem_of_getElem? (i := 63) rfl)) (hw _ (List.mem_of_getElem? (i := 62) rfl)) (hw _ (List.mem_of_getElem? (i := 19) rfl)) (hw _ (List.mem_of_getElem? (i := 64) rfl)) e4 (rm9 l Z a0 hw r0 zCS h0 n0 Z0 F_coder_r0 S_COMPACT_STRINGS hCS) (notFace_of_selects (args := #[]) (mvT hZ (hw _ (List.mem_of_getElem? (i := 63) rfl)))) (by decide) pd_98 rfl E_r0 (argsL := []) (rest := []) rfl rfl rfl (hb hby d32_29) (W0 := 0) rfl (by decide) (by decide) (by decide) (by decide) (fun v5 T5 h5 L5 X5 e5 hQ5 => ?_)
  obtain ⟨rfl, N5q, hh5⟩ := hQ5
  obtain rfl := hh5.symm
  have N5 := Fr.app N2 N5q
  show W p e below _ (T5.setTop (mkF m 32 #[.val (.ref r0), .val (.int (0 : Int32)), .val (.int cn), .val (.ref t)] [(.int (1 : Int32))]))
  refine W.go (fun _ hr => XS.ifNo X5.here hx rfl (hb hby d32_32) rfl ((if0 _ _).trans (feq (by decide : ¬ ((1 : Int32) = (0 : Int32)))).1) hr) ?_
  show W p e below _ (T5.setTop (mkF m 35 #[.val (.ref r0), .val (.int (0 : Int32)), .val (.int cn), .val (.ref t)] []))
  refine W.go (fun _ hr => XS.iloadN X5.here hx rfl (hb hby d32_35) rfl hr) ?_
  show W p e below _ (T5.setTop (mkF m 36 #[.val (.ref r0), .val (.int (0 : Int32)), .val (.int cn), .val (.ref t)] [(.int (0 : Int32))]))
  refine W.go (fun _ hr => XS.ifYes X5.here hx rfl (pc0 := 36) (pc' := 74) rfl (hb hby d32_36) rfl ((if0 _ _).trans (teq (by decide : ((0 : Int32) = (0 : Int32)))).1) (by decide) (by decide) hr) ?_
  show W p e below _ (T5.setTop (mkF m 74 #[.val (.ref r0), .val (.int (0 : Int32)), .val (.int cn), .val (.ref t)] []))
  refine W.go (fun _ hr => XS.aloadN X5.here hx rfl (hb hby d32_74) rfl rfl hr) ?_
  show W p e below _ (T5.setTop (mkF m 75 #[.val (.ref r0), .val (.int (0 : Int32)), .val (.int cn), .val (.ref t)] [(.ref t)]))
  refine W.go (fun _ hr => XS.iloadN X5.here hx rfl (hb hby d32_75) rfl hr) ?_
  show W p e below _ (T5.setTop (mkF m 76 #[.val (.ref r0), .val (.int (0 : Int32)), .val (.int cn), .val (.ref t)] [(.int cn), (.ref t)]))
  refine W.go (fun _ hr => XS.iinc X5.here hx rfl (hb hby d32_76) rfl (l' := #[.val (.ref r0), .val (.int (0 : Int32)), .val (.int (cn + (1 : Int32))), .val (.ref t)]) rfl hr) ?_
  show W p e below _ (T5.setTop (mkF m 79 #[.val (.ref r0), .val (.int (0 : Int32)), .val (.int (cn + (1 : Int32))), .val (.ref t)] [(.int cn), (.ref t)]))
  refine W.go (fun _ hr => XS.bipush X5.here hx rfl (hb hby d32_79) hr) ?_
  show W p e below _ (T5.setTop (mkF m 81 #[.val (.ref r0), .val (.int (0 : Int32)), .val (.int (cn + (1 : Int32))), .val (.ref t)] [(.int (102 : Int32)), (.int cn), (.ref t)]))
  obtain ⟨cl6, Ar6, q6, S6, Nn6, Hh6, Gg6⟩ := V_t
  have hin6 : ¬ (cn < 0 ∨ cl6.slots.size ≤ (cn).toNatClampNeg) := inb_of S6 (own_inapp hcn.1 (by have e0 : (1024 : Int32).toInt = 1024 := rfl; first | omega | (have jq := hcn.1; simp only [List.length_append, List.length_cons, List.length_nil] at jq; omega)))
  obtain ⟨T6, h6, X6, e6, W6, st6⟩ := stB X5 hx hZ e5 Ar6 (j := cn) hin6 (g := (mkF m 81 #[.val (.ref r0), .val (.int (0 : Int32)), .val (.int (cn + (1 : Int32))), .val (.ref t)] [(.int (102 : Int32)), (.int cn), (.ref t)])) rfl rfl (hb hby d32_81)
  replace V_t : Arv Z h6 t kt .byte (1024 : Int32) (cs ++ [(.int (102 : Int32))]) (.int (0 : Int32)) := own_app hcn.1 Ar6 q6 S6 Nn6 Hh6 Gg6 (by decide) (by exact W6)
  replace S_COMPACT_STRINGS := Sta.wr W6 S_COMPACT_STRINGS
  replace E_r0 := E_r0.wr W6
  replace F_value_r0 := F_value_r0.other W6 (Or.inl ne_0t)
  replace F_coder_r0 := F_coder_r0.other W6 (Or.inl ne_0t)
  replace F_count_r0 := F_count_r0.other W6 (Or.inl ne_0t)
  have Z7 : n0 ≤ h6.size := Nat.le_trans Z0 (Keep.of_wr W6).1
  replace KC := KC.wr W6 (Or.inl (List.mem_of_getElem? (i := 1) rfl))
  refine W.go st6 ?_
  have N6 := Fr.snoc X6 N5 g_t
  have jl6 := own_len (v := (.int (102 : Int32))) hcn.1 (by first | omega | (have jq := hcn.1; simp only [List.length_append, List.length_cons, List.length_nil] at jq; omega))
  show W p e below _ (T6.setTop (mkF m 82 #[.val (.ref r0), .val (.int (0 : Int32)), .val (.int (cn + (1 : Int32))), .val (.ref t)] []))
  refine W.go (fun _ hr => XS.aloadN X6.here hx rfl (hb hby d32_82) rfl rfl hr) ?_
  show W p e below _ (T6.setTop (mkF m 83 #[.val (.ref r0), .val (.int (0 : Int32)), .val (.int (cn + (1 : Int32))), .val (.ref t)] [(.ref t)]))
  refine W.go (fun _ hr => XS.iloadN X6.here hx rfl (hb hby d32_83) rfl hr) ?_
  show W p e below _ (T6.setTop (mkF m 84 #[.val (.ref r0), .val (.int (0 : Int32)), .val (.int (cn + (1 : Int32))), .val (.ref t)] [(.int (cn + (1 : Int32))), (.ref t)]))
  refine W.go (fun _ hr => XS.iinc X6.here hx rfl (hb hby d32_84) rfl (l' := #[.val (.ref r0), .val (.int (0 : Int32)), .val (.int ((cn + (1 : Int32)) + (1 : Int32))), .val (.ref t)]) rfl hr) ?_
  show W p e below _ (T6.setTop (mkF m 87 #[.val (.ref r0), .val (.int (0 : Int32)), .val (.int ((cn + (1 : Int32)) + (1 : Int32))), .val (.ref t)] [(.int (cn + (1 : Int32))), (.ref t)]))
  refine W.go (fun _ hr => XS.bipush X6.here hx rfl (hb hby d32_87) hr) ?_
  show W p e below _ (T6.setTop (mkF m 89 #[.val (.ref r0), .val (.int (0 : Int32)), .val (.int ((cn + (1 : Int32)) + (1 : Int32))), .val (.ref t)] [(.int (97 : Int32)), (.int (cn + (1 : Int32))), (.ref t)]))
  obtain ⟨cl8, Ar8, q8, S8, Nn8, Hh8, Gg8⟩ := V_t
  have hin8 : ¬ ((cn + (1 : Int32)) < 0 ∨ cl8.slots.size ≤ ((cn + (1 : Int32))).toNatClampNeg) := inb_of S8 (own_inapp jl6 (by have e0 : (1024 : Int32).toInt = 1024 := rfl; first | omega | (have jq := jl6; simp only [List.length_append, List.length_cons, List.length_nil] at jq; omega)))
  obtain ⟨T8, h8, X8, e8, W8, st8⟩ := stB X6 hx hZ e6 Ar8 (j := (cn + (1 : Int32))) hin8 (g := (mkF m 89 #[.val (.ref r0), .val (.int (0 : Int32)), .val (.int ((cn + (1 : Int32)) + (1 : Int32))), .val (.ref t)] [(.int (97 : Int32)), (.int (cn + (1 : Int32))), (.ref t)])) rfl rfl (hb hby d32_89)
  replace V_t : Arv Z h8 t kt .byte (1024 : Int32) ((cs ++ [(.int (102 : Int32))]) ++ [(.int (97 : Int32))]) (.int (0 : Int32)) := own_app jl6 Ar8 q8 S8 Nn8 Hh8 Gg8 (by decide) (by exact W8)
  replace S_COMPACT_STRINGS := Sta.wr W8 S_COMPACT_STRINGS
  replace E_r0 := E_r0.wr W8
  replace F_value_r0 := F_value_r0.other W8 (Or.inl ne_0t)
  replace F_coder_r0 := F_coder_r0.other W8 (Or.inl ne_0t)
  replace F_count_r0 := F_count_r0.other W8 (Or.inl ne_0t)
  have Z9 : n0 ≤ h8.size := Nat.le_trans Z7 (Keep.of_wr W8).1
  replace KC := KC.wr W8 (Or.inl (List.mem_of_getElem? (i := 1) rfl))
  refine W.go st8 ?_
  have N8 := Fr.snoc X8 N6 g_t
  have jl8 := own_len (v := (.int (97 : Int32))) jl6 (by first | omega | (have jq := jl6; simp only [List.length_append, List.length_cons, List.length_nil] at jq; omega))
  show W p e below _ (T8.setTop (mkF m 90 #[.val (.ref r0), .val (.int (0 : Int32)), .val (.int ((cn + (1 : Int32)) + (1 : Int32))), .val (.ref t)] []))
  refine W.go (fun _ hr => XS.aloadN X8.here hx rfl (hb hby d32_90) rfl rfl hr) ?_
  show W p e below _ (T8.setTop (mkF m 91 #[.val (.ref r0), .val (.int (0 : Int32)), .val (.int ((cn + (1 : Int32)) + (1 : Int32))), .val (.ref t)] [(.ref t)]))
  refine W.go (fun _ hr => XS.iloadN X8.here hx rfl (hb hby d32_91) rfl hr) ?_
  show W p e below _ (T8.setTop (mkF m 92 #[.val (.ref r0), .val (.int (0 : Int32)), .val (.int ((cn + (1 : Int32)) + (1 : Int32))), .val (.ref t)] [(.int ((cn + (1 : Int32)) + (1 : Int32))), (.ref t)]))
  refine W.go (fun _ hr => XS.iinc X8.here hx rfl (hb hby d32_92) rfl (l' := #[.val (.ref r0), .val (.int (0 : Int32)), .val (.int (((cn + (1 : Int32)) + (1 : Int32)) + (1 : Int32))), .val (.ref t)]) rfl hr) ?_
  show W p e below _ (T8.setTop (mkF m 95 #[.val (.ref r0), .val (.int (0 : Int32)), .val (.int (((cn + (1 : Int32)) + (1 : Int32)) + (1 : Int32))), .val (.ref t)] [(.int ((cn + (1 : Int32)) + (1 : Int32))), (.ref t)]))
  refine W.go (fun _ hr => XS.bipush X8.here hx rfl (hb hby d32_95) hr) ?_
  show W p e below _ (T8.setTop (mkF m 97 #[.val (.ref r0), .val (.int (0 : Int32)), .val (.int (((cn + (1 : Int32)) + (1 : Int32)) + (1 : Int32))), .val (.ref t)] [(.int (108 : Int32)), (.int ((cn + (1 : Int32)) + (1 : Int32))), (.ref t)]))
  obtain ⟨cl10, Ar10, q10, S10, Nn10, Hh10, Gg10⟩ := V_t
  have hin10 : ¬ (((cn + (1 : Int32)) + (1 : Int32)) < 0 ∨ cl10.slots.size ≤ (((cn + (1 : Int32)) + (1 : Int32))).toNatClampNeg) := inb_of S10 (own_inapp jl8 (by have e0 : (1024 : Int32).toInt = 1024 := rfl; first | omega | (have jq := jl8; simp only [List.length_append, List.length_cons, List.length_nil] at jq; omega)))
  obtain ⟨T10, h10, X10, e10, W10, st10⟩ := stB X8 hx hZ e8 Ar10 (j := ((cn + (1 : Int32)) + (1 : Int32))) hin10 (g := (mkF m 97 #[.val (.ref r0), .val (.int (0 : Int32)), .val (.int (((cn + (1 : Int32)) + (1 : Int32)) + (1 : Int32))), .val (.ref t)] [(.int (108 : Int32)), (.int ((cn + (1 : Int32)) + (1 : Int32))), (.ref t)])) rfl rfl (hb hby d32_97)
  replace V_t : Arv Z h10 t kt .byte (1024 : Int32) (((cs ++ [(.int (102 : Int32))]) ++ [(.int (97 : Int32))]) ++ [(.int (108 : Int32))]) (.int (0 : Int32)) := own_app jl8 Ar10 q10 S10 Nn10 Hh10 Gg10 (by decide) (by exact W10)
  replace S_COMPACT_STRINGS := Sta.wr W10 S_COMPACT_STRINGS
  replace E_r0 := E_r0.wr W10
  replace F_value_r0 := F_value_r0.other W10 (Or.inl ne_0t)
  replace F_coder_r0 := F_coder_r0.other W10 (Or.inl ne_0t)
  replace F_count_r0 := F_count_r0.other W10 (Or.inl ne_0t)
  have Z11 : n0 ≤ h10.size := Nat.le_trans Z9 (Keep.of_wr W10).1
  replace KC := KC.wr W10 (Or.inl (List.mem_of_getElem? (i := 1) rfl))
  refine W.go st10 ?_
  have N10 := Fr.snoc X10 N8 g_t
  have jl10 := own_len (v := (.int (108 : Int32))) jl8 (by first | omega | (have jq := jl8; simp only [List.length_append, List.length_cons, List.length_nil] at jq; omega))
  show W p e below _ (T10.setTop (mkF m 98 #[.val (.ref r0), .val (.int (0 : Int32)), .val (.int (((cn + (1 : Int32)) + (1 : Int32)) + (1 : Int32))), .val (.ref t)] []))
  refine W.go (fun _ hr => XS.aloadN X10.here hx rfl (hb hby d32_98) rfl rfl hr) ?_
  show W p e below _ (T10.setTop (mkF m 99 #[.val (.ref r0), .val (.int (0 : Int32)), .val (.int (((cn + (1 : Int32)) + (1 : Int32)) + (1 : Int32))), .val (.ref t)] [(.ref t)]))
  refine W.go (fun _ hr => XS.iloadN X10.here hx rfl (hb hby d32_99) rfl hr) ?_
  show W p e below _ (T10.setTop (mkF m 100 #[.val (.ref r0), .val (.int (0 : Int32)), .val (.int (((cn + (1 : Int32)) + (1 : Int32)) + (1 : Int32))), .val (.ref t)] [(.int (((cn + (1 : Int32)) + (1 : Int32)) + (1 : Int32))), (.ref t)]))
  refine W.go (fun _ hr => XS.iinc X10.here hx rfl (hb hby d32_100) rfl (l' := #[.val (.ref r0), .val (.int (0 : Int32)), .val (.int ((((cn + (1 : Int32)) + (1 : Int32)) + (1 : Int32)) + (1 : Int32))), .val (.ref t)]) rfl hr) ?_
  show W p e below _ (T10.setTop (mkF m 103 #[.val (.ref r0), .val (.int (0 : Int32)), .val (.int ((((cn + (1 : Int32)) + (1 : Int32)) + (1 : Int32)) + (1 : Int32))), .val (.ref t)] [(.int (((cn + (1 : Int32)) + (1 : Int32)) + (1 : Int32))), (.ref t)]))
  refine W.go (fun _ hr => XS.bipush X10.here hx rfl (hb hby d32_103) hr) ?_
  show W p e below _ (T10.setTop (mkF m 105 #[.val (.ref r0), .val (.int (0 : Int32)), .val (.int ((((cn + (1 : Int32)) + (1 : Int32)) + (1 : Int32)) + (1 : Int32))), .val (.ref t)] [(.int (115 : Int32)), (.int (((cn + (1 : Int32)) + (1 : Int32)) + (1 : Int32))), (.ref t)]))
  obtain ⟨cl12, Ar12, q12, S12, Nn12, Hh12, Gg12⟩ := V_t
  have hin12 : ¬ ((((cn + (1 : Int32)) + (1 : Int32)) + (1 : Int32)) < 0 ∨ cl12.slots.size ≤ ((((cn + (1 : Int32)) + (1 : Int32)) + (1 : Int32))).toNatClampNeg) := inb_of S12 (own_inapp jl10 (by have e0 : (1024 : Int32).toInt = 1024 := rfl; first | omega | (have jq := jl10; simp only [List.length_append, List.length_cons, List.length_nil] at jq; omega)))
  obtain ⟨T12, h12, X12, e12, W12, st12⟩ := stB X10 hx hZ e10 Ar12 (j := (((cn + (1 : Int32)) + (1 : Int32)) + (1 : Int32))) hin12 (g := (mkF m 105 #[.val (.ref r0), .val (.int (0 : Int32)), .val (.int ((((cn + (1 : Int32)) + (1 : Int32)) + (1 : Int32)) + (1 : Int32))), .val (.ref t)] [(.int (115 : Int32)), (.int (((cn + (1 : Int32)) + (1 : Int32)) + (1 : Int32))), (.ref t)])) rfl rfl (hb hby d32_105)
  replace V_t : Arv Z h12 t kt .byte (1024 : Int32) ((((cs ++ [(.int (102 : Int32))]) ++ [(.int (97 : Int32))]) ++ [(.int (108 : Int32))]) ++ [(.int (115 : Int32))]) (.int (0 : Int32)) := own_app jl10 Ar12 q12 S12 Nn12 Hh12 Gg12 (by decide) (by exact W12)
  replace S_COMPACT_STRINGS := Sta.wr W12 S_COMPACT_STRINGS
  replace E_r0 := E_r0.wr W12
  replace F_value_r0 := F_value_r0.other W12 (Or.inl ne_0t)
  replace F_coder_r0 := F_coder_r0.other W12 (Or.inl ne_0t)
  replace F_count_r0 := F_count_r0.other W12 (Or.inl ne_0t)
  have Z13 : n0 ≤ h12.size := Nat.le_trans Z11 (Keep.of_wr W12).1
  replace KC := KC.wr W12 (Or.inl (List.mem_of_getElem? (i := 1) rfl))
  refine W.go st12 ?_
  have N12 := Fr.snoc X12 N10 g_t
  have jl12 := own_len (v := (.int (115 : Int32))) jl10 (by first | omega | (have jq := jl10; simp only [List.length_append, List.length_cons, List.length_nil] at jq; omega))
  show W p e below _ (T12.setTop (mkF m 106 #[.val (.ref r0), .val (.int (0 : Int32)), .val (.int ((((cn + (1 : Int32)) + (1 : Int32)) + (1 : Int32)) + (1 : Int32))), .val (.ref t)] []))
  refine W.go (fun _ hr => XS.aloadN X12.here hx rfl (hb hby d32_106) rfl rfl hr) ?_
  show W p e below _ (T12.setTop (mkF m 107 #[.val (.ref r0), .val (.int (0 : Int32)), .val (.int ((((cn + (1 : Int32)) + (1 : Int32)) + (1 : Int32)) + (1 : Int32))), .val (.ref t)] [(.ref t)]))
  refine W.go (fun _ hr => XS.iloadN X12.here hx rfl (hb hby d32_107) rfl hr) ?_
  show W p e below _ (T12.setTop (mkF m 108 #[.val (.ref r0), .val (.int (0 : Int32)), .val (.int ((((cn + (1 : Int32)) + (1 : Int32)) + (1 : Int32)) + (1 : Int32))), .val (.ref t)] [(.int ((((cn + (1 : Int32)) + (1 : Int32)) + (1 : Int32)) + (1 : Int32))), (.ref t)]))
  refine W.go (fun _ hr => XS.iinc X12.here hx rfl (hb hby d32_108) rfl (l' := #[.val (.ref r0), .val (.int (0 : Int32)), .val (.int (((((cn + (1 : Int32)) + (1 : Int32)) + (1 : Int32)) + (1 : Int32)) + (1 : Int32))), .val (.ref t)]) rfl hr) ?_
  show W p e below _ (T12.setTop (mkF m 111 #[.val (.ref r0), .val (.int (0 : Int32)), .val (.int (((((cn + (1 : Int32)) + (1 : Int32)) + (1 : Int32)) + (1 : Int32)) + (1 : Int32))), .val (.ref t)] [(.int ((((cn + (1 : Int32)) + (1 : Int32)) + (1 : Int32)) + (1 : Int32))), (.ref t)]))
  refine W.go (fun _ hr => XS.bipush X12.here hx rfl (hb hby d32_111) hr) ?_
  show W p e below _ (T12.setTop (mkF m 113 #[.val (.ref r0), .val (.int (0 : Int32)), .val (.int (((((cn + (1 : Int32)) + (1 : Int32)) + (1 : Int32)) + (1 : Int32)) + (1 : Int32))), .val (.ref t)] [(.int (101 : Int32)), (.int ((((cn + (1 : Int32)) + (1 : Int32)) + (1 : Int32)) + (1 : Int32))), (.ref t)]))
  obtain ⟨cl14, Ar14, q14, S14, Nn14, Hh14, Gg14⟩ := V_t
  have hin14 : ¬ (((((cn + (1 : Int32)) + (1 : Int32)) + (1 : Int32)) + (1 : Int32)) < 0 ∨ cl14.slots.size ≤ (((((cn + (1 : Int32)) + (1 : Int32)) + (1 : Int32)) + (1 : Int32))).toNatClampNeg) := inb_of S14 (own_inapp jl12 (by have e0 : (1024 : Int32).toInt = 1024 := rfl; first | omega | (have jq := jl12; simp only [List.length_append, List.length_cons, List.length_nil] at jq; omega)))
  obtain ⟨T14, h14, X14, e14, W14, st14⟩ := stB X12 hx hZ e12 Ar14 (j := ((((cn + (1 : Int32)) + (1 : Int32)) + (1 : Int32)) + (1 : Int32))) hin14 (g := (mkF m 113 #[.val (.ref r0), .val (.int (0 : Int32)), .val (.int (((((cn + (1 : Int32)) + (1 : Int32)) + (1 : Int32)) + (1 : Int32)) + (1 : Int32))), .val (.ref t)] [(.int (101 : Int32)), (.int ((((cn + (1 : Int32)) + (1 : Int32)) + (1 : Int32)) + (1 : Int32))), (.ref t)])) rfl rfl (hb hby d32_113)
  replace V_t : Arv Z h14 t kt .byte (1024 : Int32) (((((cs ++ [(.int (102 : Int32))]) ++ [(.int (97 : Int32))]) ++ [(.int (108 : Int32))]) ++ [(.int (115 : Int32))]) ++ [(.int (101 : Int32))]) (.int (0 : Int32)) := own_app jl12 Ar14 q14 S14 Nn14 Hh14 Gg14 (by decide) (by exact W14)
  replace S_COMPACT_STRINGS := Sta.wr W14 S_COMPACT_STRINGS
  replace E_r0 := E_r0.wr W14
  replace F_value_r0 := F_value_r0.other W14 (Or.inl ne_0t)
  replace F_coder_r0 := F_coder_r0.other W14 (Or.inl ne_0t)
  replace F_count_r0 := F_count_r0.other W14 (Or.inl ne_0t)
  have Z15 : n0 ≤ h14.size := Nat.le_trans Z13 (Keep.of_wr W14).1
  replace KC := KC.wr W14 (Or.inl (List.mem_of_getElem? (i := 1) rfl))
  refine W.go st14 ?_
  have N14 := Fr.snoc X14 N12 g_t
  have jl14 := own_len (v := (.int (101 : Int32))) jl12 (by first | omega | (have jq := jl12; simp only [List.length_append, List.length_cons, List.length_nil] at jq; omega))
  show W p e below _ (T14.setTop (mkF m 114 #[.val (.ref r0), .val (.int (0 : Int32)), .val (.int (((((cn + (1 : Int32)) + (1 : Int32)) + (1 : Int32)) + (1 : Int32)) + (1 : Int32))), .val (.ref t)] []))
  refine W.go (fun _ hr => XS.goto X14.here hx rfl (pc0 := 114) (pc' := 154) rfl (hb hby d32_114) (by decide) (by decide) hr) ?_
  show W p e below _ (T14.setTop (mkF m 154 #[.val (.ref r0), .val (.int (0 : Int32)), .val (.int (((((cn + (1 : Int32)) + (1 : Int32)) + (1 : Int32)) + (1 : Int32)) + (1 : Int32))), .val (.ref t)] []))
  refine W.go (fun _ hr => XS.aloadN X14.here hx rfl (hb hby d32_154) rfl rfl hr) ?_
  show W p e below _ (T14.setTop (mkF m 155 #[.val (.ref r0), .val (.int (0 : Int32)), .val (.int (((((cn + (1 : Int32)) + (1 : Int32)) + (1 : Int32)) + (1 : Int32)) + (1 : Int32))), .val (.ref t)] [(.ref r0)]))
  refine W.go (fun _ hr => XS.iloadN X14.here hx rfl (hb hby d32_155) rfl hr) ?_
  show W p e below _ (T14.setTop (mkF m 156 #[.val (.ref r0), .val (.int (0 : Int32)), .val (.int (((((cn + (1 : Int32)) + (1 : Int32)) + (1 : Int32)) + (1 : Int32)) + (1 : Int32))), .val (.ref t)] [(.int (((((cn + (1 : Int32)) + (1 : Int32)) + (1 : Int32)) + (1 : Int32)) + (1 : Int32))), (.ref r0)]))
  obtain ⟨T16, h16, X16, e16, W16, st16⟩ := putF X14 hx hZ hown (host := "") (Or.inl (hw _ (List.mem_of_getElem? (i := 53) rfl))) Via.refl e14 F_count_r0 E_r0 (Or.inl (hw _ (List.mem_of_getElem? (i := 54) rfl))) (hw _ (List.mem_of_getElem? (i := 10) rfl)) (ty := .int) (by decide) rfl rfl (g := (mkF m 156 #[.val (.ref r0), .val (.int (0 : Int32)), .val (.int (((((cn + (1 : Int32)) + (1 : Int32)) + (1 : Int32)) + (1 : Int32)) + (1 : Int32))), .val (.ref t)] [(.int (((((cn + (1 : Int32)) + (1 : Int32)) + (1 : Int32)) + (1 : Int32)) + (1 : Int32))), (.ref r0)])) rfl rfl (hb hby d32_156)
  refine W.go st16 ?_
  replace S_COMPACT_STRINGS := Sta.wr W16 S_COMPACT_STRINGS
  replace E_r0 := E_r0.wr W16
  replace F_value_r0 := F_value_r0.other W16 (Or.inr (slot_ne (Or.inl (hw _ (List.mem_of_getElem? (i := 26) rfl))) (Or.inl (hw _ (List.mem_of_getElem? (i := 54) rfl))) (by decide) (t := (.array .byte)) (t' := .int) (by decide) (by decide)))
  replace F_coder_r0 := F_coder_r0.other W16 (Or.inr (slot_ne (Or.inl (hw _ (List.mem_of_getElem? (i := 28) rfl))) (Or.inl (hw _ (List.mem_of_getElem? (i := 54) rfl))) (by decide) (t := .byte) (t' := .int) (by decide) (by decide)))
  replace F_count_r0 := F_count_r0.same W16
  replace V_t := V_t.other W16 (Ne.symm ne_0t)
  have Z17 : n0 ≤ h16.size := Nat.le_trans Z15 (Keep.of_wr W16).1
  replace KC := KC.wr W16 (Or.inl (List.mem_of_getElem? (i := 0) rfl))
  have N16 := Fr.snoc X16 N14 g_r0
  show W p e below _ (T16.setTop (mkF m 159 #[.val (.ref r0), .val (.int (0 : Int32)), .val (.int (((((cn + (1 : Int32)) + (1 : Int32)) + (1 : Int32)) + (1 : Int32)) + (1 : Int32))), .val (.ref t)] []))
  refine W.go (fun _ hr => XS.aloadN X16.here hx rfl (hb hby d32_159) rfl rfl hr) ?_
  show W p e below _ (T16.setTop (mkF m 160 #[.val (.ref r0), .val (.int (0 : Int32)), .val (.int (((((cn + (1 : Int32)) + (1 : Int32)) + (1 : Int32)) + (1 : Int32)) + (1 : Int32))), .val (.ref t)] [(.ref r0)]))
  exact W.retA X16 hx hlk hret rfl rfl (hb hby d32_160) (by decide) (by decide) e16 ⟨rfl, N16, KC, E_r0, F_value_r0, F_coder_r0, by rw [hcn']; exact F_count_r0, by rw [hcs']; exact V_t⟩
def Q_rmZ0 (Z : State) (r0 : Addr) (t : Addr) (kt : ClassId) (cs : List Value) (cn : Int32) (zCS : Int32) (cs' : List Value) (cn' : Int32) (h0 : Heap) (n0 : Nat) (v : Option Value) (h : Heap) (L : List Loc) : Prop := v = some (.ref r0) ∧ Fr n0 L ∧ Keep h0 h [r0, t] ∧ Exa Z h r0 "java/lang/StringBuilder" ∧ Fld Z h r0 "java/lang/AbstractStringBuilder" "value" "[B" (.ref t) ∧ Fld Z h r0 "java/lang/AbstractStringBuilder" "coder" "B" (.int (0 : Int32)) ∧ Fld Z h r0 "java/lang/AbstractStringBuilder" "count" "I" (.int cn') ∧ Arv Z h t kt .byte (1024 : Int32) cs' (.int (0 : Int32))
set_option maxRecDepth 65536 in
set_option maxHeartbeats 40000000 in
theorem rmZ0 (l : Launch) (Z : State) (a0 : Array Value) (hw : ∀ d ∈ tables_1, d.before a0 Z = true) (r0 : Addr) (t : Addr) (kt : ClassId) (cs : List Value) (cn : Int32) (zCS : Int32) (cs' : List Value) (cn' : Int32) (h0 : Heap) (n0 : Nat) (Z0 : n0 ≤ h0.size) (E_r0 : Exa Z h0 r0 "java/lang/StringBuilder") (F_value_r0 : Fld Z h0 r0 "java/lang/AbstractStringBuilder" "value" "[B" (.ref t)) (F_coder_r0 : Fld Z h0 r0 "java/lang/AbstractStringBuilder" "coder" "B" (.int (0 : Int32))) (F_count_r0 : Fld Z h0 r0 "java/lang/AbstractStringBuilder" "count" "I" (.int cn)) (V_t : Arv Z h0 t kt .byte (1024 : Int32) cs (.int (0 : Int32))) (S_COMPACT_STRINGS : Sta Z h0 "java/lang/String" "COMPACT_STRINGS" "Z" (.int zCS)) (hCS : ¬ zCS = 0) (hcn : cn.toInt = cs.length ∧ cn.toInt + 8 ≤ 1024) (g_r0 : n0 ≤ r0) (g_t : n0 ≤ t) (ne_0t : r0 ≠ t) (hcs' : cs' = cs ++ [.int (102 : Int32)] ++ [.int (97 : Int32)] ++ [.int (108 : Int32)] ++ [.int (115 : Int32)] ++ [.int (101 : Int32)]) (hcn' : cn' = cn + 1 + 1 + 1 + 1 + 1) :
    Ctr l Z (⟨"java/lang/StringBuilder", "append", "(Z)Ljava/lang/StringBuilder;"⟩ : MethodName) jdk_67_method_13_code 2 (some (.object "java/lang/StringBuilder")) ({ frames := 2, cells := 0, slots := 0, locals := 29 } : Room) #[(.ref r0), (.int (0 : Int32))] h0 (Q_rmZ0 Z r0 t kt cs cn zCS cs' cn' h0 n0) := by
  refine Ctr.body (fr := fun m => mkF m 0 #[.val (.ref r0), .val (.int (0 : Int32))] []) (plainFor_of_name pn_java_lang_StringBuilder) (fun m => by first | (simp [entryFrame, mkF, argsToLocals, Value.category]; done) | rfl) fun p e s m below meth c s₁ hx hby hml hZ hown hnm hret hlk X0 e0 => ?_
  have N0 := Fr.nil n0
  have hown : s.vm.findClass "java/lang/StringBuilder" = some m.cls := hown
  have KC : Keep h0 h0 [r0, t] := Keep.refl _ _
  show W p e below _ (s₁.setTop (mkF m 0 #[.val (.ref r0), .val (.int (0 : Int32))] []))
  refine W.go (fun _ hr => XS.aloadN X0.here hx rfl (hb hby d31_0) rfl rfl hr) ?_
  show W p e below _ (s₁.setTop (mkF m 1 #[.val (.ref r0), .val (.int (0 : Int32))] [(.ref r0)]))
  refine W.go (fun _ hr => XS.iloadN X0.here hx rfl (hb hby d31_1) rfl hr) ?_
  show W p e below _ (s₁.setTop (mkF m 2 #[.val (.ref r0), .val (.int (0 : Int32))] [(.int (0 : Int32)), (.ref r0)]))
  refine W.callSup X0 hx hZ hown (g := (mkF m 2 #[.val (.ref r0), .val (.int (0 : Int32))] [(.int (0 : Int32)), (.ref r0)])) (by rw [hml]; rfl) (hw _ (List.mem_of_getElem? (i := 182) rfl)) (sameDecl (hw _ (List.mem_of_getElem? (i := 184) rfl)) (hw _ (List.mem_of_getElem? (i := 58) rfl)) rfl (by decide)) (hw _ (List.mem_of_getElem? (i := 183) rfl)) (hw _ (List.mem_of_getElem? (i := 50) rfl)) (hw _ (List.mem_of_getElem? (i := 19) rfl)) (hw _ (List.mem_of_getElem? (i := 185) rfl)) e0 (rmZ0a l Z a0 hw r0 t kt cs cn zCS cs' cn' h0 n0 Z0 E_r0 F_value_r0 F_coder_r0 F_count_r0 V_t S_COMPACT_STRINGS hCS hcn g_r0 g_t ne_0t hcs' hcn') (by decide) pd_227 rfl E_r0 (argsL := [(.int (0 : Int32))]) (rest := []) rfl rfl rfl (hb hby d31_2) (W0 := 0) rfl (by decide) (by decide) (by decide) (by decide) (fun v1 T1 h1 L1 X1 e1 hQ1 => ?_)
  obtain ⟨rfl, N1q, K1, Ee1, Fv1, Fc1, Fn1, V1⟩ := hQ1
  have N1 := Fr.app N0 N1q
  have nsK1 := (nsS E_r0.nostat (nsS V_t.nostat ns0))
  replace S_COMPACT_STRINGS := Sta.keep S_COMPACT_STRINGS K1 nsK1
  replace E_r0 := E_r0.keep K1
  have Z2 : n0 ≤ h1.size := Nat.le_trans Z0 K1.1
  replace KC := KC.trans K1 (allS (Or.inl (List.mem_of_getElem? (i := 0) rfl)) (allS (Or.inl (List.mem_of_getElem? (i := 1) rfl)) all0))
  show W p e below _ (T1.setTop (mkF m 5 #[.val (.ref r0), .val (.int (0 : Int32))] [(.ref r0)]))
  refine W.go (fun _ hr => XS.pop X1.here hx rfl (hb hby d31_5) rfl rfl hr) ?_
  show W p e below _ (T1.setTop (mkF m 6 #[.val (.ref r0), .val (.int (0 : Int32))] []))
  refine W.go (fun _ hr => XS.aloadN X1.here hx rfl (hb hby d31_6) rfl rfl hr) ?_
  show W p e below _ (T1.setTop (mkF m 7 #[.val (.ref r0), .val (.int (0 : Int32))] [(.ref r0)]))
  exact W.retA X1 hx hlk hret rfl rfl (hb hby d31_7) (by decide) (by decide) e1 ⟨rfl, N1, KC, E_r0, Fv1, Fc1, Fn1, V1⟩
theorem d30_0 : decode jdk_41_method_11_code 0 = .ok (.iload_n 0, 1) := by decide +kernel
theorem d30_1 : decode jdk_41_method_11_code 1 = .ok (.ifCond .lt 8, 3) := by decide +kernel
theorem d30_4 : decode jdk_41_method_11_code 4 = .ok (.iload_n 0, 1) := by decide +kernel
theorem d30_5 : decode jdk_41_method_11_code 5 = .ok (.iload_n 1, 1) := by decide +kernel
theorem d30_6 : decode jdk_41_method_11_code 6 = .ok (.if_icmp .lt 10, 3) := by decide +kernel
theorem d30_16 : decode jdk_41_method_11_code 16 = .ok (.iload_n 0, 1) := by decide +kernel
theorem d30_17 : decode jdk_41_method_11_code 17 = .ok (.ireturn, 1) := by decide +kernel
theorem pn_jdk_internal_util_Preconditions : plainName "jdk/internal/util/Preconditions" = true := by first | (simp [plainName, overriddenIn]; done) | decide +kernel
def Q_rm30 (Z : State) (p0 : Int32) (p1 : Int32) (wSF : Value) (h0 : Heap) (n0 : Nat) (v : Option Value) (h : Heap) (L : List Loc) : Prop := v = some (.int p0) ∧ Fr n0 L ∧ h = h0
set_option maxRecDepth 65536 in
set_option maxHeartbeats 40000000 in
theorem rm30 (l : Launch) (Z : State) (a0 : Array Value) (hw : ∀ d ∈ tables_1, d.before a0 Z = true) (p0 : Int32) (p1 : Int32) (wSF : Value) (h0 : Heap) (n0 : Nat) (Z0 : n0 ≤ h0.size) (hi : ¬ p0 < 0 ∧ p0 < p1) (hSF : wSF.isRef = true) :
    Ctr l Z (⟨"jdk/internal/util/Preconditions", "checkIndex", "(IILjava/util/function/BiFunction;)I"⟩ : MethodName) jdk_41_method_11_code 3 (some .int) ({ frames := 0, cells := 0, slots := 0, locals := 0 } : Room) #[(.int p0), (.int p1), wSF] h0 (Q_rm30 Z p0 p1 wSF h0 n0) := by
  refine Ctr.body (fr := fun m => mkF m 0 #[.val (.int p0), .val (.int p1), .val wSF] []) (plainFor_of_name pn_jdk_internal_util_Preconditions) (fun m => by rcases ref_cases hSF with rfl | ⟨z, rfl⟩ <;> first | (simp [entryFrame, mkF, argsToLocals, Value.category]; done) | rfl) fun p e s m below meth c s₁ hx hby hml hZ hown hnm hret hlk X0 e0 => ?_
  have N0 := Fr.nil n0
  have hown : s.vm.findClass "jdk/internal/util/Preconditions" = some m.cls := hown
  show W p e below _ (s₁.setTop (mkF m 0 #[.val (.int p0), .val (.int p1), .val wSF] []))
  refine W.go (fun _ hr => XS.iloadN X0.here hx rfl (hb hby d30_0) rfl hr) ?_
  show W p e below _ (s₁.setTop (mkF m 1 #[.val (.int p0), .val (.int p1), .val wSF] [(.int p0)]))
  refine W.go (fun _ hr => XS.ifNo X0.here hx rfl (hb hby d30_1) rfl ((if0 _ _).trans (flt (hi.1 : ¬ (p0 < (0 : Int32)))).1) hr) ?_
  show W p e below _ (s₁.setTop (mkF m 4 #[.val (.int p0), .val (.int p1), .val wSF] []))
  refine W.go (fun _ hr => XS.iloadN X0.here hx rfl (hb hby d30_4) rfl hr) ?_
  show W p e below _ (s₁.setTop (mkF m 5 #[.val (.int p0), .val (.int p1), .val wSF] [(.int p0)]))
  refine W.go (fun _ hr => XS.iloadN X0.here hx rfl (hb hby d30_5) rfl hr) ?_
  show W p e below _ (s₁.setTop (mkF m 6 #[.val (.int p0), .val (.int p1), .val wSF] [(.int p1), (.int p0)]))
  refine W.go (fun _ hr => XS.icmpYes X0.here hx rfl (pc0 := 6) (pc' := 16) rfl (hb hby d30_6) rfl (tlt (hi.2 : (p0 < p1))).1 (by decide) (by decide) hr) ?_
  show W p e below _ (s₁.setTop (mkF m 16 #[.val (.int p0), .val (.int p1), .val wSF] []))
  refine W.go (fun _ hr => XS.iloadN X0.here hx rfl (hb hby d30_16) rfl hr) ?_
  show W p e below _ (s₁.setTop (mkF m 17 #[.val (.int p0), .val (.int p1), .val wSF] [(.int p0)]))
  exact W.retI X0 hx hlk hret (hb hby d30_17) (by decide) (by decide) e0 ⟨rfl, N0, rfl⟩
theorem d29_0 : decode jdk_42_method_155_code 0 = .ok (.iload_n 0, 1) := by decide +kernel
theorem d29_1 : decode jdk_42_method_155_code 1 = .ok (.iload_n 1, 1) := by decide +kernel
theorem d29_2 : decode jdk_42_method_155_code 2 = .ok (.getstatic 1053, 3) := by decide +kernel
theorem d29_5 : decode jdk_42_method_155_code 5 = .ok (.invokestatic 1059, 3) := by decide +kernel
theorem pd_270 : parseMethodDescriptor "(IILjava/util/function/BiFunction;)I" = some ⟨[.int, .int, (.object "java/util/function/BiFunction")], some .int⟩ := by decide +kernel
theorem d29_8 : decode jdk_42_method_155_code 8 = .ok (.pop, 1) := by decide +kernel
theorem d29_9 : decode jdk_42_method_155_code 9 = .ok (.return_, 1) := by decide +kernel
def Q_rm29 (Z : State) (p0 : Int32) (p1 : Int32) (wSF : Value) (h0 : Heap) (n0 : Nat) (v : Option Value) (h : Heap) (L : List Loc) : Prop := v = none ∧ Fr n0 L ∧ h = h0
set_option maxRecDepth 65536 in
set_option maxHeartbeats 40000000 in
theorem rm29 (l : Launch) (Z : State) (a0 : Array Value) (hw : ∀ d ∈ tables_1, d.before a0 Z = true) (p0 : Int32) (p1 : Int32) (wSF : Value) (h0 : Heap) (n0 : Nat) (Z0 : n0 ≤ h0.size) (hi : ¬ p0 < 0 ∧ p0 < p1) (S_SIOOBE_FORMATTER : Sta Z h0 "jdk/internal/util/Preconditions" "SIOOBE_FORMATTER" "Ljava/util/function/BiFunction;" wSF) (hSF : wSF.isRef = true) :
    Ctr l Z (⟨"java/lang/String", "checkIndex", "(II)V"⟩ : MethodName) jdk_42_method_155_code 2 none ({ frames := 1, cells := 0, slots := 0, locals := 14 } : Room) #[(.int p0), (.int p1)] h0 (Q_rm29 Z p0 p1 wSF h0 n0) := by
  refine Ctr.body (fr := fun m => mkF m 0 #[.val (.int p0), .val (.int p1)] []) (plainFor_of_name pn_java_lang_String) (fun m => by first | (simp [entryFrame, mkF, argsToLocals, Value.category]; done) | rfl) fun p e s m below meth c s₁ hx hby hml hZ hown hnm hret hlk X0 e0 => ?_
  have N0 := Fr.nil n0
  have hown : s.vm.findClass "java/lang/String" = some m.cls := hown
  show W p e below _ (s₁.setTop (mkF m 0 #[.val (.int p0), .val (.int p1)] []))
  refine W.go (fun _ hr => XS.iloadN X0.here hx rfl (hb hby d29_0) rfl hr) ?_
  show W p e below _ (s₁.setTop (mkF m 1 #[.val (.int p0), .val (.int p1)] [(.int p0)]))
  refine W.go (fun _ hr => XS.iloadN X0.here hx rfl (hb hby d29_1) rfl hr) ?_
  show W p e below _ (s₁.setTop (mkF m 2 #[.val (.int p0), .val (.int p1)] [(.int p1), (.int p0)]))
  obtain ⟨T1, X1, e1, st1⟩ := getS2 X0 hx hZ hown (host := "") (Or.inl (hw _ (List.mem_of_getElem? (i := 172) rfl))) Via.refl e0 S_SIOOBE_FORMATTER (g := (mkF m 2 #[.val (.int p0), .val (.int p1)] [(.int p1), (.int p0)])) rfl (hb hby d29_2)
  refine W.go st1 ?_
  show W p e below _ (T1.setTop (mkF m 5 #[.val (.int p0), .val (.int p1)] [wSF, (.int p1), (.int p0)]))
  refine W.callS X1 hx hZ hown (g := (mkF m 5 #[.val (.int p0), .val (.int p1)] [wSF, (.int p1), (.int p0)])) (by rw [hml]; rfl) (hw _ (List.mem_of_getElem? (i := 174) rfl)) (hw _ (List.mem_of_getElem? (i := 175) rfl)) (hw _ (List.mem_of_getElem? (i := 173) rfl)) (hw _ (List.mem_of_getElem? (i := 176) rfl)) e1 (rm30 l Z a0 hw p0 p1 wSF h0 n0 Z0 hi hSF) (by decide) pd_270 rfl (argsL := [(.int p0), (.int p1), wSF]) (rest := []) rfl rfl rfl (hb hby d29_5) (W0 := 0) rfl (by decide) (by decide) (by decide) (by decide) (fun v2 T2 h2 L2 X2 e2 hQ2 => ?_)
  obtain ⟨rfl, N2q, hh2⟩ := hQ2
  obtain rfl := hh2.symm
  have N2 := Fr.app N0 N2q
  show W p e below _ (T2.setTop (mkF m 8 #[.val (.int p0), .val (.int p1)] [(.int p0)]))
  refine W.go (fun _ hr => XS.pop X2.here hx rfl (hb hby d29_8) rfl rfl hr) ?_
  show W p e below _ (T2.setTop (mkF m 9 #[.val (.int p0), .val (.int p1)] []))
  exact W.retV X2 hx hlk hret (hb hby d29_9) (by decide) (by decide) e2 ⟨rfl, N2, rfl⟩
theorem own_ltn {p c : Int32} (hi : ¬ p < 0 ∧ p < c) (hc : c.toInt ≤ 1024) : ¬ p < 0 ∧ p < (1024 : Int32) := by
  have e0 : (1024 : Int32).toInt = 1024 := rfl
  rw [Int32.lt_iff_toInt_lt, Int32.lt_iff_toInt_lt] at *
  omega
theorem d28_0 : decode jdk_68_method_14_code 0 = .ok (.aload_n 0, 1) := by decide +kernel
theorem d28_1 : decode jdk_68_method_14_code 1 = .ok (.getfield 22, 3) := by decide +kernel
theorem d28_4 : decode jdk_68_method_14_code 4 = .ok (.istore_n 2, 1) := by decide +kernel
theorem d28_5 : decode jdk_68_method_14_code 5 = .ok (.aload_n 0, 1) := by decide +kernel
theorem d28_6 : decode jdk_68_method_14_code 6 = .ok (.getfield 15, 3) := by decide +kernel
theorem d28_9 : decode jdk_68_method_14_code 9 = .ok (.astore_n 3, 1) := by decide +kernel
theorem d28_10 : decode jdk_68_method_14_code 10 = .ok (.aload_n 0, 1) := by decide +kernel
theorem d28_11 : decode jdk_68_method_14_code 11 = .ok (.getfield 79, 3) := by decide +kernel
theorem d28_14 : decode jdk_68_method_14_code 14 = .ok (.aload_n 3, 1) := by decide +kernel
theorem d28_15 : decode jdk_68_method_14_code 15 = .ok (.arraylength, 1) := by decide +kernel
theorem d28_16 : decode jdk_68_method_14_code 16 = .ok (.iload_n 2, 1) := by decide +kernel
theorem d28_17 : decode jdk_68_method_14_code 17 = .ok (.ishr, 1) := by decide +kernel
theorem d28_18 : decode jdk_68_method_14_code 18 = .ok (.invokestatic 138, 3) := by decide +kernel
theorem d28_21 : decode jdk_68_method_14_code 21 = .ok (.istore 4, 2) := by decide +kernel
theorem d28_23 : decode jdk_68_method_14_code 23 = .ok (.iload_n 1, 1) := by decide +kernel
theorem d28_24 : decode jdk_68_method_14_code 24 = .ok (.iload 4, 2) := by decide +kernel
theorem d28_26 : decode jdk_68_method_14_code 26 = .ok (.invokestatic 144, 3) := by decide +kernel
theorem d28_29 : decode jdk_68_method_14_code 29 = .ok (.iload_n 2, 1) := by decide +kernel
theorem d28_30 : decode jdk_68_method_14_code 30 = .ok (.ifCond .ne 12, 3) := by decide +kernel
theorem d28_33 : decode jdk_68_method_14_code 33 = .ok (.aload_n 3, 1) := by decide +kernel
theorem d28_34 : decode jdk_68_method_14_code 34 = .ok (.iload_n 1, 1) := by decide +kernel
theorem d28_35 : decode jdk_68_method_14_code 35 = .ok (.baload, 1) := by decide +kernel
theorem d28_36 : decode jdk_68_method_14_code 36 = .ok (.sipush 255, 3) := by decide +kernel
theorem d28_39 : decode jdk_68_method_14_code 39 = .ok (.iand, 1) := by decide +kernel
theorem d28_40 : decode jdk_68_method_14_code 40 = .ok (.i2c, 1) := by decide +kernel
theorem d28_41 : decode jdk_68_method_14_code 41 = .ok (.ireturn, 1) := by decide +kernel
def Q_rm28 (Z : State) (r0 : Addr) (p1 : Int32) (t : Addr) (kt : ClassId) (cs : List Value) (cn : Int32) (x : Int32) (wSF : Value) (h0 : Heap) (n0 : Nat) (v : Option Value) (h : Heap) (L : List Loc) : Prop := v = some (.int (x &&& 255)) ∧ Fr n0 L ∧ h = h0
set_option maxRecDepth 65536 in
set_option maxHeartbeats 40000000 in
theorem rm28 (l : Launch) (Z : State) (a0 : Array Value) (hw : ∀ d ∈ tables_1, d.before a0 Z = true) (r0 : Addr) (p1 : Int32) (t : Addr) (kt : ClassId) (cs : List Value) (cn : Int32) (x : Int32) (wSF : Value) (h0 : Heap) (n0 : Nat) (Z0 : n0 ≤ h0.size) (F_value_r0 : Fld Z h0 r0 "java/lang/AbstractStringBuilder" "value" "[B" (.ref t)) (F_coder_r0 : Fld Z h0 r0 "java/lang/AbstractStringBuilder" "coder" "B" (.int (0 : Int32))) (F_count_r0 : Fld Z h0 r0 "java/lang/AbstractStringBuilder" "count" "I" (.int cn)) (V_t : Arv Z h0 t kt .byte (1024 : Int32) cs (.int (0 : Int32))) (hcn : cn.toInt ≤ 1024) (hi : ¬ p1 < 0 ∧ p1 < cn) (hel : cs.getD p1.toNatClampNeg (.int (0 : Int32)) = .int x) (S_SIOOBE_FORMATTER : Sta Z h0 "jdk/internal/util/Preconditions" "SIOOBE_FORMATTER" "Ljava/util/function/BiFunction;" wSF) (hSF : wSF.isRef = true) :
    Ctr l Z (⟨"java/lang/AbstractStringBuilder", "charAt", "(I)C"⟩ : MethodName) jdk_68_method_14_code 5 (some .char) ({ frames := 2, cells := 0, slots := 0, locals := 27 } : Room) #[(.ref r0), (.int p1)] h0 (Q_rm28 Z r0 p1 t kt cs cn x wSF h0 n0) := by
  refine Ctr.body (fr := fun m => mkF m 0 #[.val (.ref r0), .val (.int p1), .unset, .unset, .unset] []) (plainFor_of_name pn_java_lang_AbstractStringBuilder) (fun m => by first | (simp [entryFrame, mkF, argsToLocals, Value.category]; done) | rfl) fun p e s m below meth c s₁ hx hby hml hZ hown hnm hret hlk X0 e0 => ?_
  have N0 := Fr.nil n0
  have hown : s.vm.findClass "java/lang/AbstractStringBuilder" = some m.cls := hown
  show W p e below _ (s₁.setTop (mkF m 0 #[.val (.ref r0), .val (.int p1), .unset, .unset, .unset] []))
  refine W.go (fun _ hr => XS.aloadN X0.here hx rfl (hb hby d28_0) rfl rfl hr) ?_
  show W p e below _ (s₁.setTop (mkF m 1 #[.val (.ref r0), .val (.int p1), .unset, .unset, .unset] [(.ref r0)]))
  obtain ⟨T1, X1, e1, st1⟩ := getF X0 hx hZ hown (host := "") (Or.inl (hw _ (List.mem_of_getElem? (i := 27) rfl))) Via.refl e0 F_coder_r0 (g := (mkF m 1 #[.val (.ref r0), .val (.int p1), .unset, .unset, .unset] [(.ref r0)])) rfl rfl (hb hby d28_1)
  refine W.go st1 ?_
  show W p e below _ (T1.setTop (mkF m 4 #[.val (.ref r0), .val (.int p1), .unset, .unset, .unset] [(.int (0 : Int32))]))
  refine W.go (fun _ hr => XS.istoreN X1.here hx rfl (hb hby d28_4) rfl (l' := #[.val (.ref r0), .val (.int p1), .val (.int (0 : Int32)), .unset, .unset]) rfl hr) ?_
  show W p e below _ (T1.setTop (mkF m 5 #[.val (.ref r0), .val (.int p1), .val (.int (0 : Int32)), .unset, .unset] []))
  refine W.go (fun _ hr => XS.aloadN X1.here hx rfl (hb hby d28_5) rfl rfl hr) ?_
  show W p e below _ (T1.setTop (mkF m 6 #[.val (.ref r0), .val (.int p1), .val (.int (0 : Int32)), .unset, .unset] [(.ref r0)]))
  obtain ⟨T2, X2, e2, st2⟩ := getF X1 hx hZ hown (host := "") (Or.inl (hw _ (List.mem_of_getElem? (i := 25) rfl))) Via.refl e1 F_value_r0 (g := (mkF m 6 #[.val (.ref r0), .val (.int p1), .val (.int (0 : Int32)), .unset, .unset] [(.ref r0)])) rfl rfl (hb hby d28_6)
  refine W.go st2 ?_
  show W p e below _ (T2.setTop (mkF m 9 #[.val (.ref r0), .val (.int p1), .val (.int (0 : Int32)), .unset, .unset] [(.ref t)]))
  refine W.go (fun _ hr => XS.astoreN X2.here hx rfl (hb hby d28_9) rfl rfl (l' := #[.val (.ref r0), .val (.int p1), .val (.int (0 : Int32)), .val (.ref t), .unset]) rfl hr) ?_
  show W p e below _ (T2.setTop (mkF m 10 #[.val (.ref r0), .val (.int p1), .val (.int (0 : Int32)), .val (.ref t), .unset] []))
  refine W.go (fun _ hr => XS.aloadN X2.here hx rfl (hb hby d28_10) rfl rfl hr) ?_
  show W p e below _ (T2.setTop (mkF m 11 #[.val (.ref r0), .val (.int p1), .val (.int (0 : Int32)), .val (.ref t), .unset] [(.ref r0)]))
  obtain ⟨T3, X3, e3, st3⟩ := getF X2 hx hZ hown (host := "") (Or.inl (hw _ (List.mem_of_getElem? (i := 53) rfl))) Via.refl e2 F_count_r0 (g := (mkF m 11 #[.val (.ref r0), .val (.int p1), .val (.int (0 : Int32)), .val (.ref t), .unset] [(.ref r0)])) rfl rfl (hb hby d28_11)
  refine W.go st3 ?_
  show W p e below _ (T3.setTop (mkF m 14 #[.val (.ref r0), .val (.int p1), .val (.int (0 : Int32)), .val (.ref t), .unset] [(.int cn)]))
  refine W.go (fun _ hr => XS.aloadN X3.here hx rfl (hb hby d28_14) rfl rfl hr) ?_
  show W p e below _ (T3.setTop (mkF m 15 #[.val (.ref r0), .val (.int p1), .val (.int (0 : Int32)), .val (.ref t), .unset] [(.ref t), (.int cn)]))
  obtain ⟨cl4, Ar4, q4, S4, Nn4, H4, G4⟩ := id V_t
  refine W.go (X3.arraylength hx (by rw [e3]; exact Ar4.1) (State.isArrayOf_alike hZ.alike Ar4.2.1) (g := (mkF m 15 #[.val (.ref r0), .val (.int p1), .val (.int (0 : Int32)), .val (.ref t), .unset] [(.ref t), (.int cn)])) rfl rfl (hb hby d28_15)) ?_
  rw [len_of S4 Nn4]
  show W p e below _ (T3.setTop (mkF m 16 #[.val (.ref r0), .val (.int p1), .val (.int (0 : Int32)), .val (.ref t), .unset] [(.int (1024 : Int32)), (.int cn)]))
  refine W.go (fun _ hr => XS.iloadN X3.here hx rfl (hb hby d28_16) rfl hr) ?_
  show W p e below _ (T3.setTop (mkF m 17 #[.val (.ref r0), .val (.int p1), .val (.int (0 : Int32)), .val (.ref t), .unset] [(.int (0 : Int32)), (.int (1024 : Int32)), (.int cn)]))
  refine W.go (fun _ hr => XS.ishr X3.here hx rfl (hb hby d28_17) rfl hr) ?_
  show W p e below _ (T3.setTop (mkF m 18 #[.val (.ref r0), .val (.int p1), .val (.int (0 : Int32)), .val (.ref t), .unset] [(.int ((1024 : Int32) >>> ((0 : Int32) &&& 31))), (.int cn)]))
  rw [show ((1024 : Int32) >>> ((0 : Int32) &&& 31)) = (1024 : Int32) from by decide]
  show W p e below _ (T3.setTop (mkF m 18 #[.val (.ref r0), .val (.int p1), .val (.int (0 : Int32)), .val (.ref t), .unset] [(.int (1024 : Int32)), (.int cn)]))
  refine W.callS X3 hx hZ hown (g := (mkF m 18 #[.val (.ref r0), .val (.int p1), .val (.int (0 : Int32)), .val (.ref t), .unset] [(.int (1024 : Int32)), (.int cn)])) (by rw [hml]; rfl) (hw _ (List.mem_of_getElem? (i := 168) rfl)) (hw _ (List.mem_of_getElem? (i := 114) rfl)) (hw _ (List.mem_of_getElem? (i := 115) rfl)) (hw _ (List.mem_of_getElem? (i := 116) rfl)) e3 (rm21 l Z a0 hw cn (1024 : Int32) cn h0 n0 Z0 (by rw [if_neg]; rw [Int32.lt_iff_toInt_lt]; have e0 : (1024 : Int32).toInt = 1024 := rfl; omega)) (by decide) pd_71 rfl (argsL := [(.int cn), (.int (1024 : Int32))]) (rest := []) rfl rfl rfl (hb hby d28_18) (W0 := 0) rfl (by decide) (by decide) (by decide) (by decide) (fun v5 T5 h5 L5 X5 e5 hQ5 => ?_)
  obtain ⟨rfl, N5q, hh5⟩ := hQ5
  obtain rfl := hh5.symm
  have N5 := Fr.app N0 N5q
  show W p e below _ (T5.setTop (mkF m 21 #[.val (.ref r0), .val (.int p1), .val (.int (0 : Int32)), .val (.ref t), .unset] [(.int cn)]))
  refine W.go (fun _ hr => XS.istore X5.here hx rfl (hb hby d28_21) rfl (l' := #[.val (.ref r0), .val (.int p1), .val (.int (0 : Int32)), .val (.ref t), .val (.int cn)]) rfl hr) ?_
  show W p e below _ (T5.setTop (mkF m 23 #[.val (.ref r0), .val (.int p1), .val (.int (0 : Int32)), .val (.ref t), .val (.int cn)] []))
  refine W.go (fun _ hr => XS.iloadN X5.here hx rfl (hb hby d28_23) rfl hr) ?_
  show W p e below _ (T5.setTop (mkF m 24 #[.val (.ref r0), .val (.int p1), .val (.int (0 : Int32)), .val (.ref t), .val (.int cn)] [(.int p1)]))
  refine W.go (fun _ hr => XS.iload X5.here hx rfl (hb hby d28_24) rfl hr) ?_
  show W p e below _ (T5.setTop (mkF m 26 #[.val (.ref r0), .val (.int p1), .val (.int (0 : Int32)), .val (.ref t), .val (.int cn)] [(.int cn), (.int p1)]))
  refine W.callS X5 hx hZ hown (g := (mkF m 26 #[.val (.ref r0), .val (.int p1), .val (.int (0 : Int32)), .val (.ref t), .val (.int cn)] [(.int cn), (.int p1)])) (by rw [hml]; rfl) (hw _ (List.mem_of_getElem? (i := 169) rfl)) (hw _ (List.mem_of_getElem? (i := 170) rfl)) (hw _ (List.mem_of_getElem? (i := 23) rfl)) (hw _ (List.mem_of_getElem? (i := 171) rfl)) e5 (rm29 l Z a0 hw p1 cn wSF h0 n0 Z0 hi S_SIOOBE_FORMATTER hSF) (by decide) pd_53 rfl (argsL := [(.int p1), (.int cn)]) (rest := []) rfl rfl rfl (hb hby d28_26) (W0 := 0) rfl (by decide) (by decide) (by decide) (by decide) (fun v6 T6 h6 L6 X6 e6 hQ6 => ?_)
  obtain ⟨rfl, N6q, hh6⟩ := hQ6
  obtain rfl := hh6.symm
  have N6 := Fr.app N5 N6q
  show W p e below _ (T6.setTop (mkF m 29 #[.val (.ref r0), .val (.int p1), .val (.int (0 : Int32)), .val (.ref t), .val (.int cn)] []))
  refine W.go (fun _ hr => XS.iloadN X6.here hx rfl (hb hby d28_29) rfl hr) ?_
  show W p e below _ (T6.setTop (mkF m 30 #[.val (.ref r0), .val (.int p1), .val (.int (0 : Int32)), .val (.ref t), .val (.int cn)] [(.int (0 : Int32))]))
  refine W.go (fun _ hr => XS.ifNo X6.here hx rfl (hb hby d28_30) rfl ((if0 _ _).trans (teq (by decide : ((0 : Int32) = (0 : Int32)))).2) hr) ?_
  show W p e below _ (T6.setTop (mkF m 33 #[.val (.ref r0), .val (.int p1), .val (.int (0 : Int32)), .val (.ref t), .val (.int cn)] []))
  refine W.go (fun _ hr => XS.aloadN X6.here hx rfl (hb hby d28_33) rfl rfl hr) ?_
  show W p e below _ (T6.setTop (mkF m 34 #[.val (.ref r0), .val (.int p1), .val (.int (0 : Int32)), .val (.ref t), .val (.int cn)] [(.ref t)]))
  refine W.go (fun _ hr => XS.iloadN X6.here hx rfl (hb hby d28_34) rfl hr) ?_
  show W p e below _ (T6.setTop (mkF m 35 #[.val (.ref r0), .val (.int p1), .val (.int (0 : Int32)), .val (.ref t), .val (.int cn)] [(.int p1), (.ref t)]))
  obtain ⟨cl7, Ar7, q7, S7, Nn7, H7, G7⟩ := id V_t
  have hin7 : ¬ (p1 < 0 ∨ cl7.slots.size ≤ (p1).toNatClampNeg) := inb_of S7 (own_ltn hi hcn)
  have hat7 : cl7.slots[(p1).toNatClampNeg]? = some (.int x) := H7.at hin7 hel
  refine W.go (X6.baloadBytes hx (j := p1) (v := (.int x)) (by rw [e6]; exact Ar7.1) (State.isArrayOf_alike hZ.alike Ar7.2.1) Ar7.2.2 hin7 hat7 (g := (mkF m 35 #[.val (.ref r0), .val (.int p1), .val (.int (0 : Int32)), .val (.ref t), .val (.int cn)] [(.int p1), (.ref t)])) rfl rfl (hb hby d28_35)) ?_
  show W p e below _ (T6.setTop (mkF m 36 #[.val (.ref r0), .val (.int p1), .val (.int (0 : Int32)), .val (.ref t), .val (.int cn)] [(.int x)]))
  refine W.go (fun _ hr => XS.sipush X6.here hx rfl (hb hby d28_36) hr) ?_
  show W p e below _ (T6.setTop (mkF m 39 #[.val (.ref r0), .val (.int p1), .val (.int (0 : Int32)), .val (.ref t), .val (.int cn)] [(.int (255 : Int32)), (.int x)]))
  refine W.go (fun _ hr => XS.iand X6.here hx rfl (hb hby d28_39) rfl hr) ?_
  show W p e below _ (T6.setTop (mkF m 40 #[.val (.ref r0), .val (.int p1), .val (.int (0 : Int32)), .val (.ref t), .val (.int cn)] [(.int (x &&& (255 : Int32)))]))
  refine W.go (fun _ hr => XS.i2c X6.here hx rfl (hb hby d28_40) rfl hr) ?_
  show W p e below _ (T6.setTop (mkF m 41 #[.val (.ref r0), .val (.int p1), .val (.int (0 : Int32)), .val (.ref t), .val (.int cn)] [(.int ((x &&& (255 : Int32)).toUInt32.toUInt16.toUInt32.toInt32))]))
  exact W.retB X6 hx hlk (t := .char) hret (by simp) (hb hby d28_41) (by decide) (by decide) e6 ⟨by rw [own_lo255], N6, rfl⟩
theorem own_nar255 (x : Int32) : nar .char (x &&& 255) = x &&& 255 := by
  have q := own_lo255 x
  rw [i2c_mask] at q
  exact q
theorem d27_0 : decode jdk_67_method_88_code 0 = .ok (.aload_n 0, 1) := by decide +kernel
theorem d27_1 : decode jdk_67_method_88_code 1 = .ok (.iload_n 1, 1) := by decide +kernel
theorem d27_2 : decode jdk_67_method_88_code 2 = .ok (.invokespecial 329, 3) := by decide +kernel
theorem pd_302 : parseMethodDescriptor "(I)C" = some ⟨[.int], some .char⟩ := by decide +kernel
theorem d27_5 : decode jdk_67_method_88_code 5 = .ok (.ireturn, 1) := by decide +kernel
def Q_rm27 (Z : State) (r0 : Addr) (p1 : Int32) (t : Addr) (kt : ClassId) (cs : List Value) (cn : Int32) (x : Int32) (wSF : Value) (h0 : Heap) (n0 : Nat) (v : Option Value) (h : Heap) (L : List Loc) : Prop := v = some (.int (x &&& 255)) ∧ Fr n0 L ∧ h = h0
set_option maxRecDepth 65536 in
set_option maxHeartbeats 40000000 in
theorem rm27 (l : Launch) (Z : State) (a0 : Array Value) (hw : ∀ d ∈ tables_1, d.before a0 Z = true) (r0 : Addr) (p1 : Int32) (t : Addr) (kt : ClassId) (cs : List Value) (cn : Int32) (x : Int32) (wSF : Value) (h0 : Heap) (n0 : Nat) (Z0 : n0 ≤ h0.size) (E_r0 : Exa Z h0 r0 "java/lang/StringBuilder") (F_value_r0 : Fld Z h0 r0 "java/lang/AbstractStringBuilder" "value" "[B" (.ref t)) (F_coder_r0 : Fld Z h0 r0 "java/lang/AbstractStringBuilder" "coder" "B" (.int (0 : Int32))) (F_count_r0 : Fld Z h0 r0 "java/lang/AbstractStringBuilder" "count" "I" (.int cn)) (V_t : Arv Z h0 t kt .byte (1024 : Int32) cs (.int (0 : Int32))) (hcn : cn.toInt ≤ 1024) (hi : ¬ p1 < 0 ∧ p1 < cn) (hel : cs.getD p1.toNatClampNeg (.int (0 : Int32)) = .int x) (S_SIOOBE_FORMATTER : Sta Z h0 "jdk/internal/util/Preconditions" "SIOOBE_FORMATTER" "Ljava/util/function/BiFunction;" wSF) (hSF : wSF.isRef = true) :
    Ctr l Z (⟨"java/lang/StringBuilder", "charAt", "(I)C"⟩ : MethodName) jdk_67_method_88_code 2 (some .char) ({ frames := 3, cells := 0, slots := 0, locals := 43 } : Room) #[(.ref r0), (.int p1)] h0 (Q_rm27 Z r0 p1 t kt cs cn x wSF h0 n0) := by
  refine Ctr.body (fr := fun m => mkF m 0 #[.val (.ref r0), .val (.int p1)] []) (plainFor_of_name pn_java_lang_StringBuilder) (fun m => by first | (simp [entryFrame, mkF, argsToLocals, Value.category]; done) | rfl) fun p e s m below meth c s₁ hx hby hml hZ hown hnm hret hlk X0 e0 => ?_
  have N0 := Fr.nil n0
  have hown : s.vm.findClass "java/lang/StringBuilder" = some m.cls := hown
  show W p e below _ (s₁.setTop (mkF m 0 #[.val (.ref r0), .val (.int p1)] []))
  refine W.go (fun _ hr => XS.aloadN X0.here hx rfl (hb hby d27_0) rfl rfl hr) ?_
  show W p e below _ (s₁.setTop (mkF m 1 #[.val (.ref r0), .val (.int p1)] [(.ref r0)]))
  refine W.go (fun _ hr => XS.iloadN X0.here hx rfl (hb hby d27_1) rfl hr) ?_
  show W p e below _ (s₁.setTop (mkF m 2 #[.val (.ref r0), .val (.int p1)] [(.int p1), (.ref r0)]))
  refine W.callSup X0 hx hZ hown (g := (mkF m 2 #[.val (.ref r0), .val (.int p1)] [(.int p1), (.ref r0)])) (by rw [hml]; rfl) (hw _ (List.mem_of_getElem? (i := 164) rfl)) (sameDecl (hw _ (List.mem_of_getElem? (i := 166) rfl)) (hw _ (List.mem_of_getElem? (i := 58) rfl)) rfl (by decide)) (hw _ (List.mem_of_getElem? (i := 165) rfl)) (hw _ (List.mem_of_getElem? (i := 50) rfl)) (hw _ (List.mem_of_getElem? (i := 19) rfl)) (hw _ (List.mem_of_getElem? (i := 167) rfl)) e0 (rm28 l Z a0 hw r0 p1 t kt cs cn x wSF h0 n0 Z0 F_value_r0 F_coder_r0 F_count_r0 V_t hcn hi hel S_SIOOBE_FORMATTER hSF) (by decide) pd_302 rfl E_r0 (argsL := [(.int p1)]) (rest := []) rfl rfl rfl (hb hby d27_2) (W0 := 0) rfl (by decide) (by decide) (by decide) (by decide) (fun v1 T1 h1 L1 X1 e1 hQ1 => ?_)
  obtain ⟨rfl, N1q, hh1⟩ := hQ1
  obtain rfl := hh1.symm
  have N1 := Fr.app N0 N1q
  show W p e below _ (T1.setTop (mkF m 5 #[.val (.ref r0), .val (.int p1)] [(.int (x &&& 255))]))
  exact W.retB X1 hx hlk (t := .char) hret (by simp) (hb hby d27_5) (by decide) (by decide) e1 ⟨by rw [own_nar255], N1, rfl⟩
theorem d26_0 : decode jdk_88_method_3_code 0 = .ok (.aload_n 0, 1) := by decide +kernel
theorem d26_1 : decode jdk_88_method_3_code 1 = .ok (.invokeinterface 1 1, 5) := by decide +kernel
theorem d26_6 : decode jdk_88_method_3_code 6 = .ok (.ifCond .ne 7, 3) := by decide +kernel
theorem d26_9 : decode jdk_88_method_3_code 9 = .ok (.iconst 1, 1) := by decide +kernel
theorem d26_10 : decode jdk_88_method_3_code 10 = .ok (.goto 4, 3) := by decide +kernel
theorem d26_14 : decode jdk_88_method_3_code 14 = .ok (.ireturn, 1) := by decide +kernel
theorem d26_13 : decode jdk_88_method_3_code 13 = .ok (.iconst 0, 1) := by decide +kernel
theorem pn_java_lang_CharSequence : plainName "java/lang/CharSequence" = true := by first | (simp [plainName, overriddenIn]; done) | decide +kernel
def Q_rm26 (Z : State) (r0 : Addr) (cn : Int32) (z : Int32) (h0 : Heap) (n0 : Nat) (v : Option Value) (h : Heap) (L : List Loc) : Prop := v = some (.int z) ∧ Fr n0 L ∧ h = h0
set_option maxRecDepth 65536 in
set_option maxHeartbeats 40000000 in
theorem rm26 (l : Launch) (Z : State) (a0 : Array Value) (hw : ∀ d ∈ tables_1, d.before a0 Z = true) (r0 : Addr) (cn : Int32) (z : Int32) (h0 : Heap) (n0 : Nat) (Z0 : n0 ≤ h0.size) (E_r0 : Exa Z h0 r0 "java/lang/StringBuilder") (F_count_r0 : Fld Z h0 r0 "java/lang/AbstractStringBuilder" "count" "I" (.int cn)) (hz : z = if cn = 0 then (1 : Int32) else 0) :
    CtrC l Z (⟨"java/lang/CharSequence", "isEmpty", "()Z"⟩ : MethodName) jdk_88_method_3_code 1 (some .boolean) ({ frames := 2, cells := 0, slots := 0, locals := 24 } : Room) #[(.ref r0)] h0 (Q_rm26 Z r0 cn z h0 n0) := by
  refine CtrC.body (fr := fun m => mkF m 0 #[.val (.ref r0)] []) (plainFor_of_name pn_java_lang_CharSequence) (fun m => by first | (simp [entryFrame, mkF, argsToLocals, Value.category]; done) | rfl) fun p e s m below meth c s₁ hx hby hml hZ hown hnm hret hlk X0 e0 => ?_
  have N0 := Fr.nil n0
  have hown : s.vm.findClass "java/lang/CharSequence" = some m.cls := hown
  show W p e below _ (s₁.setTop (mkF m 0 #[.val (.ref r0)] []))
  refine W.go (fun _ hr => XS.aloadN X0.here hx rfl (hb hby d26_0) rfl rfl hr) ?_
  show W p e below _ (s₁.setTop (mkF m 1 #[.val (.ref r0)] [(.ref r0)]))
  refine W.callF X0 hx hZ hown (g := (mkF m 1 #[.val (.ref r0)] [(.ref r0)])) (by rw [hml]; rfl) (hw _ (List.mem_of_getElem? (i := 150) rfl)) (hw _ (List.mem_of_getElem? (i := 151) rfl)) (mvT hZ (hw _ (List.mem_of_getElem? (i := 152) rfl))) (hw _ (List.mem_of_getElem? (i := 153) rfl)) (hw _ (List.mem_of_getElem? (i := 97) rfl)) (hw _ (List.mem_of_getElem? (i := 154) rfl)) (hw _ (List.mem_of_getElem? (i := 155) rfl)) (hw _ (List.mem_of_getElem? (i := 148) rfl)) (hw _ (List.mem_of_getElem? (i := 11) rfl)) (hw _ (List.mem_of_getElem? (i := 98) rfl)) e0 (rm16 l Z a0 hw r0 cn h0 n0 Z0 E_r0 F_count_r0) (by decide) pd_28 rfl E_r0 (argsL := []) (rest := []) rfl rfl rfl (hb hby d26_1) (W0 := 0) rfl (by decide) (by decide) (by decide) (by decide) (fun v1 T1 h1 L1 X1 e1 hQ1 => ?_)
  obtain ⟨rfl, N1q, hh1⟩ := hQ1
  obtain rfl := hh1.symm
  have N1 := Fr.app N0 N1q
  show W p e below _ (T1.setTop (mkF m 6 #[.val (.ref r0)] [(.int cn)]))
  by_cases hc6_2 : cn = (0 : Int32)
  · refine W.go (fun _ hr => XS.ifNo X1.here hx rfl (hb hby d26_6) rfl ((if0 _ _).trans (teq hc6_2).2) hr) ?_
    show W p e below _ (T1.setTop (mkF m 9 #[.val (.ref r0)] []))
    refine W.go (fun _ hr => XS.iconst X1.here hx rfl (hb hby d26_9) hr) ?_
    show W p e below _ (T1.setTop (mkF m 10 #[.val (.ref r0)] [(.int (1 : Int32))]))
    refine W.go (fun _ hr => XS.goto X1.here hx rfl (pc0 := 10) (pc' := 14) rfl (hb hby d26_10) (by decide) (by decide) hr) ?_
    show W p e below _ (T1.setTop (mkF m 14 #[.val (.ref r0)] [(.int (1 : Int32))]))
    exact W.retB X1 hx hlk (t := .boolean) hret (by simp) (hb hby d26_14) (by decide) (by decide) e1 ⟨by rw [hz]; simp [*, nar], N1, rfl⟩
  · refine W.go (fun _ hr => XS.ifYes X1.here hx rfl (pc0 := 6) (pc' := 13) rfl (hb hby d26_6) rfl ((if0 _ _).trans (feq hc6_2).2) (by decide) (by decide) hr) ?_
    show W p e below _ (T1.setTop (mkF m 13 #[.val (.ref r0)] []))
    refine W.go (fun _ hr => XS.iconst X1.here hx rfl (hb hby d26_13) hr) ?_
    show W p e below _ (T1.setTop (mkF m 14 #[.val (.ref r0)] [(.int (0 : Int32))]))
    exact W.retB X1 hx hlk (t := .boolean) hret (by simp) (hb hby d26_14) (by decide) (by decide) e1 ⟨by rw [hz]; simp [*, nar], N1, rfl⟩
theorem own_eqat {bs bs' : List Int32} (hl : bs.length = bs'.length) (h : ∀ j, j < bs.length → bs[j]? = bs'[j]?) : bs = bs' := by
  apply List.ext_getElem?
  intro i
  by_cases q : i < bs.length
  · exact h i q
  · rw [List.getElem?_eq_none (by omega), List.getElem?_eq_none (by omega)]
theorem own_getI {bs : List Int32} {j : Int32} {n : Int32} (hn : n.toInt = bs.length) (hj : ¬ j < 0 ∧ j < n) : ∃ x, bs[j.toNatClampNeg]? = some x ∧ (bs.map Value.int).getD j.toNatClampNeg (.int 0) = .int x := by
  have q : j.toNatClampNeg < bs.length := by
    simp only [Int32.lt_iff_toInt_lt, Int32.reduceToInt, Int32.toNatClampNeg] at *
    omega
  exact ⟨bs[j.toNatClampNeg], List.getElem?_eq_getElem q, by simp [List.getD_eq_getElem?_getD, q]⟩
theorem d23_0 : decode jdk_43_method_13_code 0 = .ok (.aload_n 0, 1) := by decide +kernel
theorem d23_1 : decode jdk_43_method_13_code 1 = .ok (.arraylength, 1) := by decide +kernel
theorem d23_2 : decode jdk_43_method_13_code 2 = .ok (.aload_n 1, 1) := by decide +kernel
theorem d23_3 : decode jdk_43_method_13_code 3 = .ok (.arraylength, 1) := by decide +kernel
theorem d23_4 : decode jdk_43_method_13_code 4 = .ok (.if_icmp .ne 30, 3) := by decide +kernel
theorem d23_7 : decode jdk_43_method_13_code 7 = .ok (.iconst 0, 1) := by decide +kernel
theorem d23_8 : decode jdk_43_method_13_code 8 = .ok (.istore_n 2, 1) := by decide +kernel
theorem d23_9 : decode jdk_43_method_13_code 9 = .ok (.iload_n 2, 1) := by decide +kernel
theorem d23_10 : decode jdk_43_method_13_code 10 = .ok (.aload_n 0, 1) := by decide +kernel
theorem d23_11 : decode jdk_43_method_13_code 11 = .ok (.arraylength, 1) := by decide +kernel
theorem d23_12 : decode jdk_43_method_13_code 12 = .ok (.if_icmp .ge 20, 3) := by decide +kernel
theorem d23_32 : decode jdk_43_method_13_code 32 = .ok (.iconst 1, 1) := by decide +kernel
theorem d23_33 : decode jdk_43_method_13_code 33 = .ok (.ireturn, 1) := by decide +kernel
theorem d23_15 : decode jdk_43_method_13_code 15 = .ok (.aload_n 0, 1) := by decide +kernel
theorem d23_16 : decode jdk_43_method_13_code 16 = .ok (.iload_n 2, 1) := by decide +kernel
theorem d23_17 : decode jdk_43_method_13_code 17 = .ok (.baload, 1) := by decide +kernel
theorem d23_18 : decode jdk_43_method_13_code 18 = .ok (.aload_n 1, 1) := by decide +kernel
theorem d23_19 : decode jdk_43_method_13_code 19 = .ok (.iload_n 2, 1) := by decide +kernel
theorem d23_20 : decode jdk_43_method_13_code 20 = .ok (.baload, 1) := by decide +kernel
theorem d23_21 : decode jdk_43_method_13_code 21 = .ok (.if_icmp .eq 5, 3) := by decide +kernel
theorem d23_26 : decode jdk_43_method_13_code 26 = .ok (.iinc 2 1, 3) := by decide +kernel
theorem d23_29 : decode jdk_43_method_13_code 29 = .ok (.goto (-20), 3) := by decide +kernel
theorem d23_24 : decode jdk_43_method_13_code 24 = .ok (.iconst 0, 1) := by decide +kernel
theorem d23_25 : decode jdk_43_method_13_code 25 = .ok (.ireturn, 1) := by decide +kernel
theorem d23_34 : decode jdk_43_method_13_code 34 = .ok (.iconst 0, 1) := by decide +kernel
theorem d23_35 : decode jdk_43_method_13_code 35 = .ok (.ireturn, 1) := by decide +kernel
def Q_rm23 (Z : State) (r0 : Addr) (r1 : Addr) (k0 : ClassId) (k1 : ClassId) (m0 : Int32) (m1 : Int32) (bs : List Int32) (bs' : List Int32) (z : Int32) (h0 : Heap) (n0 : Nat) (v : Option Value) (h : Heap) (L : List Loc) : Prop := v = some (.int z) ∧ Fr n0 L ∧ h = h0
set_option maxRecDepth 65536 in
set_option maxHeartbeats 40000000 in
theorem rm23 (l : Launch) (Z : State) (a0 : Array Value) (hw : ∀ d ∈ tables_1, d.before a0 Z = true) (r0 : Addr) (r1 : Addr) (k0 : ClassId) (k1 : ClassId) (m0 : Int32) (m1 : Int32) (bs : List Int32) (bs' : List Int32) (z : Int32) (h0 : Heap) (n0 : Nat) (Z0 : n0 ≤ h0.size) (V_r0 : Arv Z h0 r0 k0 .byte m0 (bs.map Value.int) (.int (0 : Int32))) (V_r1 : Arv Z h0 r1 k1 .byte m1 (bs'.map Value.int) (.int (0 : Int32))) (hl : m0.toInt = bs.length ∧ m1.toInt = bs'.length) (hz : z = if bs = bs' then (1 : Int32) else 0) :
    Ctr l Z (⟨"java/lang/StringLatin1", "equals", "([B[B)Z"⟩ : MethodName) jdk_43_method_13_code 3 (some .boolean) ({ frames := 0, cells := 0, slots := 0, locals := 0 } : Room) #[(.ref r0), (.ref r1)] h0 (Q_rm23 Z r0 r1 k0 k1 m0 m1 bs bs' z h0 n0) := by
  refine Ctr.body (fr := fun m => mkF m 0 #[.val (.ref r0), .val (.ref r1), .unset] []) (plainFor_of_name pn_java_lang_StringLatin1) (fun m => by first | (simp [entryFrame, mkF, argsToLocals, Value.category]; done) | rfl) fun p e s m below meth c s₁ hx hby hml hZ hown hnm hret hlk X0 e0 => ?_
  have N0 := Fr.nil n0
  have hown : s.vm.findClass "java/lang/StringLatin1" = some m.cls := hown
  show W p e below _ (s₁.setTop (mkF m 0 #[.val (.ref r0), .val (.ref r1), .unset] []))
  refine W.go (fun _ hr => XS.aloadN X0.here hx rfl (hb hby d23_0) rfl rfl hr) ?_
  show W p e below _ (s₁.setTop (mkF m 1 #[.val (.ref r0), .val (.ref r1), .unset] [(.ref r0)]))
  obtain ⟨cl1, Ar1, q1, S1, Nn1, H1, G1⟩ := id V_r0
  refine W.go (X0.arraylength hx (by rw [e0]; exact Ar1.1) (State.isArrayOf_alike hZ.alike Ar1.2.1) (g := (mkF m 1 #[.val (.ref r0), .val (.ref r1), .unset] [(.ref r0)])) rfl rfl (hb hby d23_1)) ?_
  rw [len_of S1 Nn1]
  show W p e below _ (s₁.setTop (mkF m 2 #[.val (.ref r0), .val (.ref r1), .unset] [(.int m0)]))
  refine W.go (fun _ hr => XS.aloadN X0.here hx rfl (hb hby d23_2) rfl rfl hr) ?_
  show W p e below _ (s₁.setTop (mkF m 3 #[.val (.ref r0), .val (.ref r1), .unset] [(.ref r1), (.int m0)]))
  obtain ⟨cl2, Ar2, q2, S2, Nn2, H2, G2⟩ := id V_r1
  refine W.go (X0.arraylength hx (by rw [e0]; exact Ar2.1) (State.isArrayOf_alike hZ.alike Ar2.2.1) (g := (mkF m 3 #[.val (.ref r0), .val (.ref r1), .unset] [(.ref r1), (.int m0)])) rfl rfl (hb hby d23_3)) ?_
  rw [len_of S2 Nn2]
  show W p e below _ (s₁.setTop (mkF m 4 #[.val (.ref r0), .val (.ref r1), .unset] [(.int m1), (.int m0)]))
  by_cases hc4_3 : m0 = m1
  · refine W.go (fun _ hr => XS.icmpNo X0.here hx rfl (hb hby d23_4) rfl (teq hc4_3).2 hr) ?_
    show W p e below _ (s₁.setTop (mkF m 7 #[.val (.ref r0), .val (.ref r1), .unset] []))
    refine W.go (fun _ hr => XS.iconst X0.here hx rfl (hb hby d23_7) hr) ?_
    show W p e below _ (s₁.setTop (mkF m 8 #[.val (.ref r0), .val (.ref r1), .unset] [(.int (0 : Int32))]))
    refine W.go (fun _ hr => XS.istoreN X0.here hx rfl (hb hby d23_8) rfl (l' := #[.val (.ref r0), .val (.ref r1), .val (.int (0 : Int32))]) rfl hr) ?_
    show W p e below _ (s₁.setTop (mkF m 9 #[.val (.ref r0), .val (.ref r1), .val (.int (0 : Int32))] []))
    have hll : bs.length = bs'.length := by rw [hc4_3] at hl; omega
    have loop : ∀ (k : Nat) (T : State) (i : Int32) (locs : List Loc), Stand p l e ({ frames := 0, cells := 0, slots := 0, locals := 0 } : Room) s m #[(.ref r0), (.ref r1)] below meth c T locs 0 0 → T.heap = h0 → Fr n0 locs → 0 ≤ i.toInt → i.toInt + k = m0.toInt → (∀ j : Nat, (j : Int) < i.toInt → bs[j]? = bs'[j]?) →
        W p e below (Fin s (Q_rm23 Z r0 r1 k0 k1 m0 m1 bs bs' z h0 n0) ({ frames := 0, cells := 0, slots := 0, locals := 0 } : Room).cells ({ frames := 0, cells := 0, slots := 0, locals := 0 } : Room).slots) (T.setTop (mkF m 9 #[.val (.ref r0), .val (.ref r1), .val (.int i)] [])) := by
      intro k
      induction k with
      | zero =>
        intro T i locs X0 e0 N0 hi0 hik hpre
        show W p e below _ (T.setTop (mkF m 9 #[.val (.ref r0), .val (.ref r1), .val (.int i)] []))
        refine W.go (fun _ hr => XS.iloadN X0.here hx rfl (hb hby d23_9) rfl hr) ?_
        show W p e below _ (T.setTop (mkF m 10 #[.val (.ref r0), .val (.ref r1), .val (.int i)] [(.int i)]))
        refine W.go (fun _ hr => XS.aloadN X0.here hx rfl (hb hby d23_10) rfl rfl hr) ?_
        show W p e below _ (T.setTop (mkF m 11 #[.val (.ref r0), .val (.ref r1), .val (.int i)] [(.ref r0), (.int i)]))
        obtain ⟨cl4, Ar4, q4, S4, Nn4, H4, G4⟩ := id V_r0
        refine W.go (X0.arraylength hx (by rw [e0]; exact Ar4.1) (State.isArrayOf_alike hZ.alike Ar4.2.1) (g := (mkF m 11 #[.val (.ref r0), .val (.ref r1), .val (.int i)] [(.ref r0), (.int i)])) rfl rfl (hb hby d23_11)) ?_
        rw [len_of S4 Nn4]
        show W p e below _ (T.setTop (mkF m 12 #[.val (.ref r0), .val (.ref r1), .val (.int i)] [(.int m0), (.int i)]))
        refine W.go (fun _ hr => XS.icmpYes X0.here hx rfl (pc0 := 12) (pc' := 32) rfl (hb hby d23_12) rfl (flt ((by rw [Int32.lt_iff_toInt_lt]; omega) : ¬ (i < m0))).2.1 (by decide) (by decide) hr) ?_
        show W p e below _ (T.setTop (mkF m 32 #[.val (.ref r0), .val (.ref r1), .val (.int i)] []))
        refine W.go (fun _ hr => XS.iconst X0.here hx rfl (hb hby d23_32) hr) ?_
        show W p e below _ (T.setTop (mkF m 33 #[.val (.ref r0), .val (.ref r1), .val (.int i)] [(.int (1 : Int32))]))
        exact W.retB X0 hx hlk (t := .boolean) hret (by simp) (hb hby d23_33) (by decide) (by decide) e0 ⟨by rw [hz, if_pos (own_eqat hll fun j hj => hpre j (by omega))]; rfl, N0, rfl⟩
      | succ k ih =>
        intro T i locs X0 e0 N0 hi0 hik hpre
        have hi1 : ¬ i < 0 ∧ i < m0 := by
          simp only [Int32.lt_iff_toInt_lt, Int32.reduceToInt]; omega
        have hi2 : ¬ i < 0 ∧ i < m1 := by rw [← hc4_3]; exact hi1
        obtain ⟨x, ex, hel⟩ := own_getI hl.1 hi1
        obtain ⟨x', ex', hel'⟩ := own_getI hl.2 hi2
        show W p e below _ (T.setTop (mkF m 9 #[.val (.ref r0), .val (.ref r1), .val (.int i)] []))
        refine W.go (fun _ hr => XS.iloadN X0.here hx rfl (hb hby d23_9) rfl hr) ?_
        show W p e below _ (T.setTop (mkF m 10 #[.val (.ref r0), .val (.ref r1), .val (.int i)] [(.int i)]))
        refine W.go (fun _ hr => XS.aloadN X0.here hx rfl (hb hby d23_10) rfl rfl hr) ?_
        show W p e below _ (T.setTop (mkF m 11 #[.val (.ref r0), .val (.ref r1), .val (.int i)] [(.ref r0), (.int i)]))
        obtain ⟨cl5, Ar5, q5, S5, Nn5, H5, G5⟩ := id V_r0
        refine W.go (X0.arraylength hx (by rw [e0]; exact Ar5.1) (State.isArrayOf_alike hZ.alike Ar5.2.1) (g := (mkF m 11 #[.val (.ref r0), .val (.ref r1), .val (.int i)] [(.ref r0), (.int i)])) rfl rfl (hb hby d23_11)) ?_
        rw [len_of S5 Nn5]
        show W p e below _ (T.setTop (mkF m 12 #[.val (.ref r0), .val (.ref r1), .val (.int i)] [(.int m0), (.int i)]))
        refine W.go (fun _ hr => XS.icmpNo X0.here hx rfl (hb hby d23_12) rfl (tlt ((by rw [Int32.lt_iff_toInt_lt]; omega) : (i < m0))).2.1 hr) ?_
        show W p e below _ (T.setTop (mkF m 15 #[.val (.ref r0), .val (.ref r1), .val (.int i)] []))
        refine W.go (fun _ hr => XS.aloadN X0.here hx rfl (hb hby d23_15) rfl rfl hr) ?_
        show W p e below _ (T.setTop (mkF m 16 #[.val (.ref r0), .val (.ref r1), .val (.int i)] [(.ref r0)]))
        refine W.go (fun _ hr => XS.iloadN X0.here hx rfl (hb hby d23_16) rfl hr) ?_
        show W p e below _ (T.setTop (mkF m 17 #[.val (.ref r0), .val (.ref r1), .val (.int i)] [(.int i), (.ref r0)]))
        obtain ⟨cl6, Ar6, q6, S6, Nn6, H6, G6⟩ := id V_r0
        have hin6 : ¬ (i < 0 ∨ cl6.slots.size ≤ (i).toNatClampNeg) := inb_of S6 hi1
        have hat6 : cl6.slots[(i).toNatClampNeg]? = some (.int x) := H6.at hin6 hel
        refine W.go (X0.baloadBytes hx (j := i) (v := (.int x)) (by rw [e0]; exact Ar6.1) (State.isArrayOf_alike hZ.alike Ar6.2.1) Ar6.2.2 hin6 hat6 (g := (mkF m 17 #[.val (.ref r0), .val (.ref r1), .val (.int i)] [(.int i), (.ref r0)])) rfl rfl (hb hby d23_17)) ?_
        show W p e below _ (T.setTop (mkF m 18 #[.val (.ref r0), .val (.ref r1), .val (.int i)] [(.int x)]))
        refine W.go (fun _ hr => XS.aloadN X0.here hx rfl (hb hby d23_18) rfl rfl hr) ?_
        show W p e below _ (T.setTop (mkF m 19 #[.val (.ref r0), .val (.ref r1), .val (.int i)] [(.ref r1), (.int x)]))
        refine W.go (fun _ hr => XS.iloadN X0.here hx rfl (hb hby d23_19) rfl hr) ?_
        show W p e below _ (T.setTop (mkF m 20 #[.val (.ref r0), .val (.ref r1), .val (.int i)] [(.int i), (.ref r1), (.int x)]))
        obtain ⟨cl7, Ar7, q7, S7, Nn7, H7, G7⟩ := id V_r1
        have hin7 : ¬ (i < 0 ∨ cl7.slots.size ≤ (i).toNatClampNeg) := inb_of S7 hi2
        have hat7 : cl7.slots[(i).toNatClampNeg]? = some (.int x') := H7.at hin7 hel'
        refine W.go (X0.baloadBytes hx (j := i) (v := (.int x')) (by rw [e0]; exact Ar7.1) (State.isArrayOf_alike hZ.alike Ar7.2.1) Ar7.2.2 hin7 hat7 (g := (mkF m 20 #[.val (.ref r0), .val (.ref r1), .val (.int i)] [(.int i), (.ref r1), (.int x)])) rfl rfl (hb hby d23_20)) ?_
        show W p e below _ (T.setTop (mkF m 21 #[.val (.ref r0), .val (.ref r1), .val (.int i)] [(.int x'), (.int x)]))
        by_cases hc21_8 : x = x'
        · refine W.go (fun _ hr => XS.icmpYes X0.here hx rfl (pc0 := 21) (pc' := 26) rfl (hb hby d23_21) rfl (teq hc21_8).1 (by decide) (by decide) hr) ?_
          show W p e below _ (T.setTop (mkF m 26 #[.val (.ref r0), .val (.ref r1), .val (.int i)] []))
          refine W.go (fun _ hr => XS.iinc X0.here hx rfl (hb hby d23_26) rfl (l' := #[.val (.ref r0), .val (.ref r1), .val (.int (i + (1 : Int32)))]) rfl hr) ?_
          show W p e below _ (T.setTop (mkF m 29 #[.val (.ref r0), .val (.ref r1), .val (.int (i + (1 : Int32)))] []))
          refine W.go (fun _ hr => XS.goto X0.here hx rfl (pc0 := 29) (pc' := 9) rfl (hb hby d23_29) (by decide) (by decide) hr) ?_
          show W p e below _ (T.setTop (mkF m 9 #[.val (.ref r0), .val (.ref r1), .val (.int (i + (1 : Int32)))] []))
          have ei : (i + (1 : Int32)).toInt = i.toInt + 1 := by
            have c1 := c_iadd i 1
            have r1' := rng32 (i + 1)
            have r2' := rng32 m0
            have e1 : (1 : Int32).toInt = 1 := rfl
            omega
          refine ih T (i + (1 : Int32)) _ X0 e0 N0 (by omega) (by omega) (fun j hj => ?_)
          by_cases q : (j : Int) < i.toInt
          · exact hpre j q
          · have ej : j = i.toNatClampNeg := by simp only [Int32.toNatClampNeg]; omega
            rw [ej, ex, ex', hc21_8]
        · refine W.go (fun _ hr => XS.icmpNo X0.here hx rfl (hb hby d23_21) rfl (feq hc21_8).1 hr) ?_
          show W p e below _ (T.setTop (mkF m 24 #[.val (.ref r0), .val (.ref r1), .val (.int i)] []))
          refine W.go (fun _ hr => XS.iconst X0.here hx rfl (hb hby d23_24) hr) ?_
          show W p e below _ (T.setTop (mkF m 25 #[.val (.ref r0), .val (.ref r1), .val (.int i)] [(.int (0 : Int32))]))
          exact W.retB X0 hx hlk (t := .boolean) hret (by simp) (hb hby d23_25) (by decide) (by decide) e0 ⟨by rw [hz, if_neg]; rfl; intro q; rw [q] at ex; rw [ex] at ex'; exact hc21_8 (Option.some.inj ex'), N0, rfl⟩
    exact loop m0.toNatClampNeg s₁ (0 : Int32) _ X0 e0 N0 (by decide) (by simp only [Int32.toNatClampNeg]; have e0 : (0 : Int32).toInt = 0 := rfl; omega) (fun j hj => by have e0 : (0 : Int32).toInt = 0 := rfl; omega)
  · refine W.go (fun _ hr => XS.icmpYes X0.here hx rfl (pc0 := 4) (pc' := 34) rfl (hb hby d23_4) rfl (feq hc4_3).2 (by decide) (by decide) hr) ?_
    show W p e below _ (s₁.setTop (mkF m 34 #[.val (.ref r0), .val (.ref r1), .unset] []))
    refine W.go (fun _ hr => XS.iconst X0.here hx rfl (hb hby d23_34) hr) ?_
    show W p e below _ (s₁.setTop (mkF m 35 #[.val (.ref r0), .val (.ref r1), .unset] [(.int (0 : Int32))]))
    exact W.retB X0 hx hlk (t := .boolean) hret (by simp) (hb hby d23_35) (by decide) (by decide) e0 ⟨by rw [hz, if_neg]; rfl; intro q; rw [q] at hl; exact hc4_3 (Int32.toInt_inj.mp (by omega)), N0, rfl⟩
theorem own_fin1 {z : Int32} {P : Prop} [Decidable P] (hz : z = if P then (1 : Int32) else 0) (h : ¬ z = (0 : Int32)) : some (Value.int (nar .boolean (1 : Int32))) = some (.int z) := by
  by_cases q : P
  · rw [hz, if_pos q]; rfl
  · rw [if_neg q] at hz; exact absurd hz h
theorem own_fin0 {z : Int32} {P : Prop} [Decidable P] (hz : z = if P then (1 : Int32) else 0) (h : z = (0 : Int32)) : some (Value.int (nar .boolean (0 : Int32))) = some (.int z) := by
  rw [h]; rfl
theorem d22_0 : decode jdk_42_method_66_code 0 = .ok (.aload_n 0, 1) := by decide +kernel
theorem d22_1 : decode jdk_42_method_66_code 1 = .ok (.aload_n 1, 1) := by decide +kernel
theorem d22_2 : decode jdk_42_method_66_code 2 = .ok (.if_acmp .ne 5, 3) := by decide +kernel
theorem d22_7 : decode jdk_42_method_66_code 7 = .ok (.aload_n 1, 1) := by decide +kernel
theorem d22_8 : decode jdk_42_method_66_code 8 = .ok (.instanceof 10, 3) := by decide +kernel
theorem d22_11 : decode jdk_42_method_66_code 11 = .ok (.ifCond .eq 43, 3) := by decide +kernel
theorem d22_14 : decode jdk_42_method_66_code 14 = .ok (.aload_n 1, 1) := by decide +kernel
theorem d22_15 : decode jdk_42_method_66_code 15 = .ok (.checkcast 10, 3) := by decide +kernel
theorem d22_18 : decode jdk_42_method_66_code 18 = .ok (.astore_n 2, 1) := by decide +kernel
theorem d22_19 : decode jdk_42_method_66_code 19 = .ok (.getstatic 38, 3) := by decide +kernel
theorem d22_22 : decode jdk_42_method_66_code 22 = .ok (.ifCond .eq 14, 3) := by decide +kernel
theorem d22_25 : decode jdk_42_method_66_code 25 = .ok (.aload_n 0, 1) := by decide +kernel
theorem d22_26 : decode jdk_42_method_66_code 26 = .ok (.getfield 15, 3) := by decide +kernel
theorem d22_29 : decode jdk_42_method_66_code 29 = .ok (.aload_n 2, 1) := by decide +kernel
theorem d22_30 : decode jdk_42_method_66_code 30 = .ok (.getfield 15, 3) := by decide +kernel
theorem d22_33 : decode jdk_42_method_66_code 33 = .ok (.if_icmp .ne 21, 3) := by decide +kernel
theorem d22_36 : decode jdk_42_method_66_code 36 = .ok (.aload_n 0, 1) := by decide +kernel
theorem d22_37 : decode jdk_42_method_66_code 37 = .ok (.getfield 9, 3) := by decide +kernel
theorem d22_40 : decode jdk_42_method_66_code 40 = .ok (.aload_n 2, 1) := by decide +kernel
theorem d22_41 : decode jdk_42_method_66_code 41 = .ok (.getfield 9, 3) := by decide +kernel
theorem d22_44 : decode jdk_42_method_66_code 44 = .ok (.invokestatic 541, 3) := by decide +kernel
theorem pd_359 : parseMethodDescriptor "([B[B)Z" = some ⟨[(.array .byte), (.array .byte)], some .boolean⟩ := by decide +kernel
theorem d22_47 : decode jdk_42_method_66_code 47 = .ok (.ifCond .eq 7, 3) := by decide +kernel
theorem d22_54 : decode jdk_42_method_66_code 54 = .ok (.iconst 0, 1) := by decide +kernel
theorem d22_55 : decode jdk_42_method_66_code 55 = .ok (.ireturn, 1) := by decide +kernel
theorem d22_50 : decode jdk_42_method_66_code 50 = .ok (.iconst 1, 1) := by decide +kernel
theorem d22_51 : decode jdk_42_method_66_code 51 = .ok (.goto 4, 3) := by decide +kernel
def Q_rm22 (Z : State) (r0 : Addr) (r1 : Addr) (t0 : Addr) (t1 : Addr) (k0 : ClassId) (k1 : ClassId) (m0 : Int32) (m1 : Int32) (bs : List Int32) (bs' : List Int32) (z : Int32) (zCS : Int32) (h0 : Heap) (n0 : Nat) (v : Option Value) (h : Heap) (L : List Loc) : Prop := v = some (.int z) ∧ Fr n0 L ∧ h = h0
set_option maxRecDepth 65536 in
set_option maxHeartbeats 40000000 in
theorem rm22 (l : Launch) (Z : State) (a0 : Array Value) (hw : ∀ d ∈ tables_1, d.before a0 Z = true) (r0 : Addr) (r1 : Addr) (t0 : Addr) (t1 : Addr) (k0 : ClassId) (k1 : ClassId) (m0 : Int32) (m1 : Int32) (bs : List Int32) (bs' : List Int32) (z : Int32) (zCS : Int32) (h0 : Heap) (n0 : Nat) (Z0 : n0 ≤ h0.size) (E_r0 : Exa Z h0 r0 "java/lang/String") (F_value_r0 : Fld Z h0 r0 "java/lang/String" "value" "[B" (.ref t0)) (F_coder_r0 : Fld Z h0 r0 "java/lang/String" "coder" "B" (.int (0 : Int32))) (V_t0 : Arv Z h0 t0 k0 .byte m0 (bs.map Value.int) (.int (0 : Int32))) (E_r1 : Exa Z h0 r1 "java/lang/String") (F_value_r1 : Fld Z h0 r1 "java/lang/String" "value" "[B" (.ref t1)) (F_coder_r1 : Fld Z h0 r1 "java/lang/String" "coder" "B" (.int (0 : Int32))) (V_t1 : Arv Z h0 t1 k1 .byte m1 (bs'.map Value.int) (.int (0 : Int32))) (hl : m0.toInt = bs.length ∧ m1.toInt = bs'.length) (hz : z = if bs = bs' then (1 : Int32) else 0) (hne : r0 ≠ r1) (S_COMPACT_STRINGS : Sta Z h0 "java/lang/String" "COMPACT_STRINGS" "Z" (.int zCS)) (hCS : ¬ zCS = 0) :
    Ctr l Z (⟨"java/lang/String", "equals", "(Ljava/lang/Object;)Z"⟩ : MethodName) jdk_42_method_66_code 3 (some .boolean) ({ frames := 1, cells := 0, slots := 0, locals := 14 } : Room) #[(.ref r0), (.ref r1)] h0 (Q_rm22 Z r0 r1 t0 t1 k0 k1 m0 m1 bs bs' z zCS h0 n0) := by
  refine Ctr.body (fr := fun m => mkF m 0 #[.val (.ref r0), .val (.ref r1), .unset] []) (plainFor_of_name pn_java_lang_String) (fun m => by first | (simp [entryFrame, mkF, argsToLocals, Value.category]; done) | rfl) fun p e s m below meth c s₁ hx hby hml hZ hown hnm hret hlk X0 e0 => ?_
  have N0 := Fr.nil n0
  have hown : s.vm.findClass "java/lang/String" = some m.cls := hown
  show W p e below _ (s₁.setTop (mkF m 0 #[.val (.ref r0), .val (.ref r1), .unset] []))
  refine W.go (fun _ hr => XS.aloadN X0.here hx rfl (hb hby d22_0) rfl rfl hr) ?_
  show W p e below _ (s₁.setTop (mkF m 1 #[.val (.ref r0), .val (.ref r1), .unset] [(.ref r0)]))
  refine W.go (fun _ hr => XS.aloadN X0.here hx rfl (hb hby d22_1) rfl rfl hr) ?_
  show W p e below _ (s₁.setTop (mkF m 2 #[.val (.ref r0), .val (.ref r1), .unset] [(.ref r1), (.ref r0)]))
  refine W.go (fun _ hr => Jvm.RoadKit.acmp (g := (mkF m 2 #[.val (.ref r0), .val (.ref r1), .unset] [(.ref r1), (.ref r0)])) X0 hx rfl rfl rfl (pc0 := 2) (pc' := 7) (same := false) rfl (hb hby d22_2) rfl (decide_eq_false fun q => hne (Value.ref.inj q)) (by decide) (by decide) hr) ?_
  show W p e below _ (s₁.setTop (mkF m 7 #[.val (.ref r0), .val (.ref r1), .unset] []))
  refine W.go (fun _ hr => XS.aloadN X0.here hx rfl (hb hby d22_7) rfl rfl hr) ?_
  show W p e below _ (s₁.setTop (mkF m 8 #[.val (.ref r0), .val (.ref r1), .unset] [(.ref r1)]))
  obtain ⟨T1, X1, e1, st1⟩ := instY X0 hx hZ hown (hw _ (List.mem_of_getElem? (i := 127) rfl)) e0 (Ins.self E_r1) (g := (mkF m 8 #[.val (.ref r0), .val (.ref r1), .unset] [(.ref r1)])) rfl rfl (hb hby d22_8)
  refine W.go st1 ?_
  show W p e below _ (T1.setTop (mkF m 11 #[.val (.ref r0), .val (.ref r1), .unset] [(.int (1 : Int32))]))
  refine W.go (fun _ hr => XS.ifNo X1.here hx rfl (hb hby d22_11) rfl ((if0 _ _).trans (feq (by decide : ¬ ((1 : Int32) = (0 : Int32)))).1) hr) ?_
  show W p e below _ (T1.setTop (mkF m 14 #[.val (.ref r0), .val (.ref r1), .unset] []))
  refine W.go (fun _ hr => XS.aloadN X1.here hx rfl (hb hby d22_14) rfl rfl hr) ?_
  show W p e below _ (T1.setTop (mkF m 15 #[.val (.ref r0), .val (.ref r1), .unset] [(.ref r1)]))
  obtain ⟨T2, X2, e2, st2⟩ := castY X1 hx hZ hown (hw _ (List.mem_of_getElem? (i := 127) rfl)) e1 (Ins.self E_r1) (g := (mkF m 15 #[.val (.ref r0), .val (.ref r1), .unset] [(.ref r1)])) rfl rfl (hb hby d22_15)
  refine W.go st2 ?_
  show W p e below _ (T2.setTop (mkF m 18 #[.val (.ref r0), .val (.ref r1), .unset] [(.ref r1)]))
  refine W.go (fun _ hr => XS.astoreN X2.here hx rfl (hb hby d22_18) rfl rfl (l' := #[.val (.ref r0), .val (.ref r1), .val (.ref r1)]) rfl hr) ?_
  show W p e below _ (T2.setTop (mkF m 19 #[.val (.ref r0), .val (.ref r1), .val (.ref r1)] []))
  obtain ⟨T3, X3, e3, st3⟩ := getS2 X2 hx hZ hown (host := "") (Or.inl (hw _ (List.mem_of_getElem? (i := 128) rfl))) Via.refl e2 S_COMPACT_STRINGS (g := (mkF m 19 #[.val (.ref r0), .val (.ref r1), .val (.ref r1)] [])) rfl (hb hby d22_19)
  refine W.go st3 ?_
  show W p e below _ (T3.setTop (mkF m 22 #[.val (.ref r0), .val (.ref r1), .val (.ref r1)] [(.int zCS)]))
  refine W.go (fun _ hr => XS.ifNo X3.here hx rfl (hb hby d22_22) rfl ((if0 _ _).trans (feq hCS).1) hr) ?_
  show W p e below _ (T3.setTop (mkF m 25 #[.val (.ref r0), .val (.ref r1), .val (.ref r1)] []))
  refine W.go (fun _ hr => XS.aloadN X3.here hx rfl (hb hby d22_25) rfl rfl hr) ?_
  show W p e below _ (T3.setTop (mkF m 26 #[.val (.ref r0), .val (.ref r1), .val (.ref r1)] [(.ref r0)]))
  obtain ⟨T4, X4, e4, st4⟩ := getF X3 hx hZ hown (host := "") (Or.inl (hw _ (List.mem_of_getElem? (i := 102) rfl))) Via.refl e3 F_coder_r0 (g := (mkF m 26 #[.val (.ref r0), .val (.ref r1), .val (.ref r1)] [(.ref r0)])) rfl rfl (hb hby d22_26)
  refine W.go st4 ?_
  show W p e below _ (T4.setTop (mkF m 29 #[.val (.ref r0), .val (.ref r1), .val (.ref r1)] [(.int (0 : Int32))]))
  refine W.go (fun _ hr => XS.aloadN X4.here hx rfl (hb hby d22_29) rfl rfl hr) ?_
  show W p e below _ (T4.setTop (mkF m 30 #[.val (.ref r0), .val (.ref r1), .val (.ref r1)] [(.ref r1), (.int (0 : Int32))]))
  obtain ⟨T5, X5, e5, st5⟩ := getF X4 hx hZ hown (host := "") (Or.inl (hw _ (List.mem_of_getElem? (i := 102) rfl))) Via.refl e4 F_coder_r1 (g := (mkF m 30 #[.val (.ref r0), .val (.ref r1), .val (.ref r1)] [(.ref r1), (.int (0 : Int32))])) rfl rfl (hb hby d22_30)
  refine W.go st5 ?_
  show W p e below _ (T5.setTop (mkF m 33 #[.val (.ref r0), .val (.ref r1), .val (.ref r1)] [(.int (0 : Int32)), (.int (0 : Int32))]))
  refine W.go (fun _ hr => XS.icmpNo X5.here hx rfl (hb hby d22_33) rfl (teq (by decide : ((0 : Int32) = (0 : Int32)))).2 hr) ?_
  show W p e below _ (T5.setTop (mkF m 36 #[.val (.ref r0), .val (.ref r1), .val (.ref r1)] []))
  refine W.go (fun _ hr => XS.aloadN X5.here hx rfl (hb hby d22_36) rfl rfl hr) ?_
  show W p e below _ (T5.setTop (mkF m 37 #[.val (.ref r0), .val (.ref r1), .val (.ref r1)] [(.ref r0)]))
  obtain ⟨T6, X6, e6, st6⟩ := getF X5 hx hZ hown (host := "") (Or.inl (hw _ (List.mem_of_getElem? (i := 121) rfl))) Via.refl e5 F_value_r0 (g := (mkF m 37 #[.val (.ref r0), .val (.ref r1), .val (.ref r1)] [(.ref r0)])) rfl rfl (hb hby d22_37)
  refine W.go st6 ?_
  show W p e below _ (T6.setTop (mkF m 40 #[.val (.ref r0), .val (.ref r1), .val (.ref r1)] [(.ref t0)]))
  refine W.go (fun _ hr => XS.aloadN X6.here hx rfl (hb hby d22_40) rfl rfl hr) ?_
  show W p e below _ (T6.setTop (mkF m 41 #[.val (.ref r0), .val (.ref r1), .val (.ref r1)] [(.ref r1), (.ref t0)]))
  obtain ⟨T7, X7, e7, st7⟩ := getF X6 hx hZ hown (host := "") (Or.inl (hw _ (List.mem_of_getElem? (i := 121) rfl))) Via.refl e6 F_value_r1 (g := (mkF m 41 #[.val (.ref r0), .val (.ref r1), .val (.ref r1)] [(.ref r1), (.ref t0)])) rfl rfl (hb hby d22_41)
  refine W.go st7 ?_
  show W p e below _ (T7.setTop (mkF m 44 #[.val (.ref r0), .val (.ref r1), .val (.ref r1)] [(.ref t1), (.ref t0)]))
  refine W.callS X7 hx hZ hown (g := (mkF m 44 #[.val (.ref r0), .val (.ref r1), .val (.ref r1)] [(.ref t1), (.ref t0)])) (by rw [hml]; rfl) (hw _ (List.mem_of_getElem? (i := 129) rfl)) (hw _ (List.mem_of_getElem? (i := 130) rfl)) (hw _ (List.mem_of_getElem? (i := 67) rfl)) (hw _ (List.mem_of_getElem? (i := 131) rfl)) e7 (rm23 l Z a0 hw t0 t1 k0 k1 m0 m1 bs bs' z h0 n0 Z0 V_t0 V_t1 hl hz) (by decide) pd_359 rfl (argsL := [(.ref t0), (.ref t1)]) (rest := []) rfl rfl rfl (hb hby d22_44) (W0 := 0) rfl (by decide) (by decide) (by decide) (by decide) (fun v8 T8 h8 L8 X8 e8 hQ8 => ?_)
  obtain ⟨rfl, N8q, hh8⟩ := hQ8
  obtain rfl := hh8.symm
  have N8 := Fr.app N0 N8q
  show W p e below _ (T8.setTop (mkF m 47 #[.val (.ref r0), .val (.ref r1), .val (.ref r1)] [(.int z)]))
  by_cases hc47_9 : z = (0 : Int32)
  · refine W.go (fun _ hr => XS.ifYes X8.here hx rfl (pc0 := 47) (pc' := 54) rfl (hb hby d22_47) rfl ((if0 _ _).trans (teq hc47_9).1) (by decide) (by decide) hr) ?_
    show W p e below _ (T8.setTop (mkF m 54 #[.val (.ref r0), .val (.ref r1), .val (.ref r1)] []))
    refine W.go (fun _ hr => XS.iconst X8.here hx rfl (hb hby d22_54) hr) ?_
    show W p e below _ (T8.setTop (mkF m 55 #[.val (.ref r0), .val (.ref r1), .val (.ref r1)] [(.int (0 : Int32))]))
    exact W.retB X8 hx hlk (t := .boolean) hret (by simp) (hb hby d22_55) (by decide) (by decide) e8 ⟨own_fin0 hz hc47_9, N8, rfl⟩
  · refine W.go (fun _ hr => XS.ifNo X8.here hx rfl (hb hby d22_47) rfl ((if0 _ _).trans (feq hc47_9).1) hr) ?_
    show W p e below _ (T8.setTop (mkF m 50 #[.val (.ref r0), .val (.ref r1), .val (.ref r1)] []))
    refine W.go (fun _ hr => XS.iconst X8.here hx rfl (hb hby d22_50) hr) ?_
    show W p e below _ (T8.setTop (mkF m 51 #[.val (.ref r0), .val (.ref r1), .val (.ref r1)] [(.int (1 : Int32))]))
    refine W.go (fun _ hr => XS.goto X8.here hx rfl (pc0 := 51) (pc' := 55) rfl (hb hby d22_51) (by decide) (by decide) hr) ?_
    show W p e below _ (T8.setTop (mkF m 55 #[.val (.ref r0), .val (.ref r1), .val (.ref r1)] [(.int (1 : Int32))]))
    exact W.retB X8 hx hlk (t := .boolean) hret (by simp) (hb hby d22_55) (by decide) (by decide) e8 ⟨own_fin1 hz hc47_9, N8, rfl⟩
theorem d1_0 : decode prog_10_method_1_code 0 = .ok (.aload_n 0, 1) := by decide +kernel
theorem d1_1 : decode prog_10_method_1_code 1 = .ok (.invokespecial 1, 3) := by decide +kernel
theorem d1_4 : decode prog_10_method_1_code 4 = .ok (.aload_n 0, 1) := by decide +kernel
theorem d1_5 : decode prog_10_method_1_code 5 = .ok (.new 7, 3) := by decide +kernel
theorem d1_8 : decode prog_10_method_1_code 8 = .ok (.dup, 1) := by decide +kernel
theorem d1_9 : decode prog_10_method_1_code 9 = .ok (.sipush 1024, 3) := by decide +kernel
theorem d1_12 : decode prog_10_method_1_code 12 = .ok (.invokespecial 11, 3) := by decide +kernel
theorem d1_15 : decode prog_10_method_1_code 15 = .ok (.putfield 14, 3) := by decide +kernel
theorem d1_18 : decode prog_10_method_1_code 18 = .ok (.return_, 1) := by decide +kernel
theorem pn_org_allonym_cli_JsonWriter : plainName "org/allonym/cli/JsonWriter" = true := by first | (simp [plainName, overriddenIn]; done) | decide +kernel
def Q_rm1 (Z : State) (r0 : Addr) (zCS : Int32) (h0 : Heap) (n0 : Nat) (v : Option Value) (h : Heap) (L : List Loc) : Prop := v = none ∧ Fr n0 L ∧ Keep h0 h [r0] ∧ Exa Z h r0 "org/allonym/cli/JsonWriter" ∧ ∃ (o t : Addr) (kt : ClassId), h0.size ≤ o ∧ h0.size ≤ t ∧ o ≠ t ∧ Fld Z h r0 "org/allonym/cli/JsonWriter" "json" "Ljava/lang/StringBuilder;" (.ref o) ∧ Exa Z h o "java/lang/StringBuilder" ∧ Fld Z h o "java/lang/AbstractStringBuilder" "value" "[B" (.ref t) ∧ Fld Z h o "java/lang/AbstractStringBuilder" "coder" "B" (.int (0 : Int32)) ∧ Fld Z h o "java/lang/AbstractStringBuilder" "count" "I" (.int (0 : Int32)) ∧ Arv Z h t kt .byte (1024 : Int32) [] (.int (0 : Int32))
set_option maxRecDepth 65536 in
set_option maxHeartbeats 40000000 in
theorem rm1 (l : Launch) (Z : State) (a0 : Array Value) (hw : ∀ d ∈ tables_1, d.before a0 Z = true) (r0 : Addr) (zCS : Int32) (h0 : Heap) (n0 : Nat) (Z0 : n0 ≤ h0.size) (E_r0 : Exa Z h0 r0 "org/allonym/cli/JsonWriter") (F_json_r0 : Fld Z h0 r0 "org/allonym/cli/JsonWriter" "json" "Ljava/lang/StringBuilder;" .null) (g_r0 : n0 ≤ r0) (S_COMPACT_STRINGS : Sta Z h0 "java/lang/String" "COMPACT_STRINGS" "Z" (.int zCS)) (hCS : ¬ zCS = 0) :
    Ctr l Z (⟨"org/allonym/cli/JsonWriter", "<init>", "()V"⟩ : MethodName) prog_10_method_1_code 1 none ({ frames := 3, cells := 2, slots := 1028, locals := 40 } : Room) #[(.ref r0)] h0 (Q_rm1 Z r0 zCS h0 n0) := by
  refine Ctr.body (fr := fun m => mkF m 0 #[.val (.ref r0)] []) (plainFor_of_name pn_org_allonym_cli_JsonWriter) (fun m => by first | (simp [entryFrame, mkF, argsToLocals, Value.category]; done) | rfl) fun p e s m below meth c s₁ hx hby hml hZ hown hnm hret hlk X0 e0 => ?_
  have N0 := Fr.nil n0
  have hown : s.vm.findClass "org/allonym/cli/JsonWriter" = some m.cls := hown
  have KC : Keep h0 h0 [r0] := Keep.refl _ _
  show W p e below _ (s₁.setTop (mkF m 0 #[.val (.ref r0)] []))
  refine W.go (fun _ hr => XS.aloadN X0.here hx rfl (hb hby d1_0) rfl rfl hr) ?_
  show W p e below _ (s₁.setTop (mkF m 1 #[.val (.ref r0)] [(.ref r0)]))
  obtain ⟨T1, X1, e1, st1⟩ := initO X0 hx hZ hown (hw _ (List.mem_of_getElem? (i := 6) rfl)) (hw _ (List.mem_of_getElem? (i := 7) rfl)) (hw _ (List.mem_of_getElem? (i := 8) rfl)) e0 (g := (mkF m 1 #[.val (.ref r0)] [(.ref r0)])) rfl (by rw [hml]; rfl) rfl (hb hby d1_1) (by decide) (W := 0) (by show 2 * 0 + _ ≤ _; exact Nat.le_of_eq rfl) (by decide)
  refine W.go st1 ?_
  show W p e below _ (T1.setTop (mkF m 4 #[.val (.ref r0)] []))
  refine W.go (fun _ hr => XS.aloadN X1.here hx rfl (hb hby d1_4) rfl rfl hr) ?_
  show W p e below _ (T1.setTop (mkF m 5 #[.val (.ref r0)] [(.ref r0)]))
  obtain ⟨T2, h2, X2, e2, E2, E_b2, D2, U2, st2⟩ := newO X1 hx hZ hown (hw _ (List.mem_of_getElem? (i := 9) rfl)) (hw _ (List.mem_of_getElem? (i := 10) rfl)) (hw _ (List.mem_of_getElem? (i := 11) rfl)) e1 (g := (mkF m 5 #[.val (.ref r0)] [(.ref r0)])) rfl (hb hby d1_5) (by decide) (by decide)
  obtain ⟨b2, g2⟩ : ∃ z, z = h0.size := ⟨_, rfl⟩
  rw [← g2] at E_b2 D2 U2 st2
  have ne_r0_b2 : r0 ≠ b2 := Nat.ne_of_lt (Nat.lt_of_lt_of_le E_r0.lt (Nat.le_of_eq g2.symm))
  have g_b2 : n0 ≤ b2 := Nat.le_trans Z0 (Nat.le_of_eq g2.symm)
  have sz_b2 : h0.size ≤ b2 := Nat.le_trans KC.1 (Nat.le_of_eq g2.symm)
  replace S_COMPACT_STRINGS := Sta.ext E2 S_COMPACT_STRINGS
  replace E_r0 := E_r0.ext E2
  replace F_json_r0 := F_json_r0.ext E2
  have Z3 : n0 ≤ h2.size := Nat.le_trans Z0 E2.1
  replace KC := KC.ext E2
  have F_value_b2 : Fld Z h2 b2 "java/lang/AbstractStringBuilder" "value" "[B" .null := D2 (Or.inl (hw _ (List.mem_of_getElem? (i := 26) rfl))) (ty := (.array .byte)) (by decide)
  have F_coder_b2 : Fld Z h2 b2 "java/lang/AbstractStringBuilder" "coder" "B" (.int (0 : Int32)) := D2 (Or.inl (hw _ (List.mem_of_getElem? (i := 28) rfl))) (ty := .byte) (by decide)
  have F_count_b2 : Fld Z h2 b2 "java/lang/AbstractStringBuilder" "count" "I" (.int (0 : Int32)) := D2 (Or.inl (hw _ (List.mem_of_getElem? (i := 54) rfl))) (ty := .int) (by decide)
  refine W.go st2 ?_
  show W p e below _ (T2.setTop (mkF m 8 #[.val (.ref r0)] [(.ref b2), (.ref r0)]))
  refine W.go (fun _ hr => XS.dup X2.here hx rfl (hb hby d1_8) rfl rfl hr) ?_
  show W p e below _ (T2.setTop (mkF m 9 #[.val (.ref r0)] [(.ref b2), (.ref b2), (.ref r0)]))
  refine W.go (fun _ hr => XS.sipush X2.here hx rfl (hb hby d1_9) hr) ?_
  show W p e below _ (T2.setTop (mkF m 12 #[.val (.ref r0)] [(.int (1024 : Int32)), (.ref b2), (.ref b2), (.ref r0)]))
  refine W.callI X2 hx hZ hown (g := (mkF m 12 #[.val (.ref r0)] [(.int (1024 : Int32)), (.ref b2), (.ref b2), (.ref r0)])) (by rw [hml]; rfl) (hw _ (List.mem_of_getElem? (i := 12) rfl)) (hw _ (List.mem_of_getElem? (i := 13) rfl)) (hw _ (List.mem_of_getElem? (i := 11) rfl)) (hw _ (List.mem_of_getElem? (i := 14) rfl)) e2 (rm3 l Z a0 hw b2 zCS h2 n0 Z3 E_b2 F_value_b2 F_coder_b2 F_count_b2 g_b2 S_COMPACT_STRINGS hCS) rfl (by decide) pd_17 rfl (b := b2) (argsL := [(.int (1024 : Int32))]) (rest := [(.ref b2), (.ref r0)]) rfl rfl rfl (hb hby d1_12) (W0 := 2) rfl (by decide) (by decide) (by decide) (by decide) (fun v4 T4 h4 L4 X4 e4 hQ4 => ?_)
  obtain ⟨rfl, N4q, K4, Ee4, t4, kt4, st4, Fv4, Fc4, Fn4, V_t4⟩ := hQ4
  have N4 := Fr.app N0 N4q
  have ne_r0_t4 : r0 ≠ t4 := Nat.ne_of_lt (Nat.lt_of_lt_of_le E_r0.lt st4)
  have ne_b2_t4 : b2 ≠ t4 := Nat.ne_of_lt (Nat.lt_of_lt_of_le E_b2.lt st4)
  have g_t4 : n0 ≤ t4 := Nat.le_trans Z3 st4
  have sz_t4 : h0.size ≤ t4 := Nat.le_trans KC.1 st4
  have nsK4 := (nsS E_b2.nostat ns0)
  replace S_COMPACT_STRINGS := Sta.keep S_COMPACT_STRINGS K4 nsK4
  replace E_r0 := E_r0.keep K4
  replace F_json_r0 := F_json_r0.keep K4 (ninS ne_r0_b2 nin0)
  replace E_b2 := E_b2.keep K4
  have Z5 : n0 ≤ h4.size := Nat.le_trans Z3 K4.1
  replace KC := KC.trans K4 (allS (Or.inr sz_b2) all0)
  show W p e below _ (T4.setTop (mkF m 15 #[.val (.ref r0)] [(.ref b2), (.ref r0)]))
  obtain ⟨T6, h6, X6, e6, W6, st6⟩ := putF X4 hx hZ hown (host := "") (Or.inl (hw _ (List.mem_of_getElem? (i := 29) rfl))) Via.refl e4 F_json_r0 E_r0 (Or.inr ⟨(hw _ (List.mem_of_getElem? (i := 30) rfl)), rfl, hnm⟩) (hw _ (List.mem_of_getElem? (i := 1) rfl)) (ty := (.object "java/lang/StringBuilder")) (by decide) rfl rfl (g := (mkF m 15 #[.val (.ref r0)] [(.ref b2), (.ref r0)])) rfl rfl (hb hby d1_15)
  refine W.go st6 ?_
  replace S_COMPACT_STRINGS := Sta.wr W6 S_COMPACT_STRINGS
  replace E_r0 := E_r0.wr W6
  replace F_json_r0 := F_json_r0.same W6
  replace E_b2 := E_b2.wr W6
  replace Fv4 := Fv4.other W6 (Or.inl (Ne.symm ne_r0_b2))
  replace Fc4 := Fc4.other W6 (Or.inl (Ne.symm ne_r0_b2))
  replace Fn4 := Fn4.other W6 (Or.inl (Ne.symm ne_r0_b2))
  replace V_t4 := V_t4.other W6 (Ne.symm ne_r0_t4)
  have Z7 : n0 ≤ h6.size := Nat.le_trans Z5 (Keep.of_wr W6).1
  replace KC := KC.wr W6 (Or.inl (List.mem_of_getElem? (i := 0) rfl))
  have N6 := Fr.snoc X6 N4 g_r0
  show W p e below _ (T6.setTop (mkF m 18 #[.val (.ref r0)] []))
  exact W.retV X6 hx hlk hret (hb hby d1_18) (by decide) (by decide) e6 ⟨rfl, N6, KC, E_r0, _, _, _, sz_b2, sz_t4, ne_b2_t4, F_json_r0, E_b2, Fv4, Fc4, Fn4, V_t4⟩
theorem d25_0 : decode prog_10_method_10_code 0 = .ok (.aload_n 0, 1) := by decide +kernel
theorem d25_1 : decode prog_10_method_10_code 1 = .ok (.getfield 14, 3) := by decide +kernel
theorem d25_4 : decode prog_10_method_10_code 4 = .ok (.invokevirtual 40, 3) := by decide +kernel
theorem d25_7 : decode prog_10_method_10_code 7 = .ok (.ifCond .eq 4, 3) := by decide +kernel
theorem d25_10 : decode prog_10_method_10_code 10 = .ok (.return_, 1) := by decide +kernel
theorem d25_11 : decode prog_10_method_10_code 11 = .ok (.aload_n 0, 1) := by decide +kernel
theorem d25_12 : decode prog_10_method_10_code 12 = .ok (.getfield 14, 3) := by decide +kernel
theorem d25_15 : decode prog_10_method_10_code 15 = .ok (.aload_n 0, 1) := by decide +kernel
theorem d25_16 : decode prog_10_method_10_code 16 = .ok (.getfield 14, 3) := by decide +kernel
theorem d25_19 : decode prog_10_method_10_code 19 = .ok (.invokevirtual 44, 3) := by decide +kernel
theorem d25_22 : decode prog_10_method_10_code 22 = .ok (.iconst 1, 1) := by decide +kernel
theorem d25_23 : decode prog_10_method_10_code 23 = .ok (.isub, 1) := by decide +kernel
theorem d25_24 : decode prog_10_method_10_code 24 = .ok (.invokevirtual 48, 3) := by decide +kernel
theorem d25_27 : decode prog_10_method_10_code 27 = .ok (.istore_n 1, 1) := by decide +kernel
theorem d25_28 : decode prog_10_method_10_code 28 = .ok (.iload_n 1, 1) := by decide +kernel
theorem d25_29 : decode prog_10_method_10_code 29 = .ok (.bipush 123, 2) := by decide +kernel
theorem d25_31 : decode prog_10_method_10_code 31 = .ok (.if_icmp .eq 25, 3) := by decide +kernel
theorem d25_56 : decode prog_10_method_10_code 56 = .ok (.return_, 1) := by decide +kernel
theorem d25_34 : decode prog_10_method_10_code 34 = .ok (.iload_n 1, 1) := by decide +kernel
theorem d25_35 : decode prog_10_method_10_code 35 = .ok (.bipush 91, 2) := by decide +kernel
theorem d25_37 : decode prog_10_method_10_code 37 = .ok (.if_icmp .eq 19, 3) := by decide +kernel
theorem d25_40 : decode prog_10_method_10_code 40 = .ok (.iload_n 1, 1) := by decide +kernel
theorem d25_41 : decode prog_10_method_10_code 41 = .ok (.bipush 58, 2) := by decide +kernel
theorem d25_43 : decode prog_10_method_10_code 43 = .ok (.if_icmp .eq 13, 3) := by decide +kernel
def Q_rmSepN (Z : State) (r0 : Addr) (o : Addr) (t : Addr) (kt : ClassId) (cs : List Value) (cn : Int32) (zCS : Int32) (wSF : Value) (h0 : Heap) (n0 : Nat) (v : Option Value) (h : Heap) (L : List Loc) : Prop := v = none ∧ Fr n0 L ∧ h = h0
set_option maxRecDepth 65536 in
set_option maxHeartbeats 40000000 in
theorem rmSepN (l : Launch) (Z : State) (a0 : Array Value) (hw : ∀ d ∈ tables_1, d.before a0 Z = true) (r0 : Addr) (o : Addr) (t : Addr) (kt : ClassId) (cs : List Value) (cn : Int32) (zCS : Int32) (wSF : Value) (h0 : Heap) (n0 : Nat) (Z0 : n0 ≤ h0.size) (E_r0 : Exa Z h0 r0 "org/allonym/cli/JsonWriter") (F_json_r0 : Fld Z h0 r0 "org/allonym/cli/JsonWriter" "json" "Ljava/lang/StringBuilder;" (.ref o)) (E_o : Exa Z h0 o "java/lang/StringBuilder") (F_value_o : Fld Z h0 o "java/lang/AbstractStringBuilder" "value" "[B" (.ref t)) (F_coder_o : Fld Z h0 o "java/lang/AbstractStringBuilder" "coder" "B" (.int (0 : Int32))) (F_count_o : Fld Z h0 o "java/lang/AbstractStringBuilder" "count" "I" (.int cn)) (V_t : Arv Z h0 t kt .byte (1024 : Int32) cs (.int (0 : Int32))) (S_COMPACT_STRINGS : Sta Z h0 "java/lang/String" "COMPACT_STRINGS" "Z" (.int zCS)) (hCS : ¬ zCS = 0) (S_SIOOBE_FORMATTER : Sta Z h0 "jdk/internal/util/Preconditions" "SIOOBE_FORMATTER" "Ljava/util/function/BiFunction;" wSF) (hSF : wSF.isRef = true) (hcn : cn.toInt = cs.length ∧ cn.toInt + 16 ≤ 1024) (hsep : cn = 0 ∨ ∃ x : Int32, ¬ (cn - 1) < 0 ∧ (cn - 1) < cn ∧ cs.getD (cn - 1).toNatClampNeg (.int (0 : Int32)) = .int x ∧ ((x &&& 255) = 123 ∨ (x &&& 255) = 91 ∨ (x &&& 255) = 58)) :
    Ctr l Z (⟨"org/allonym/cli/JsonWriter", "separate", "()V"⟩ : MethodName) prog_10_method_10_code 2 none ({ frames := 4, cells := 0, slots := 0, locals := 56 } : Room) #[(.ref r0)] h0 (Q_rmSepN Z r0 o t kt cs cn zCS wSF h0 n0) := by
  refine Ctr.body (fr := fun m => mkF m 0 #[.val (.ref r0), .unset] []) (plainFor_of_name pn_org_allonym_cli_JsonWriter) (fun m => by first | (simp [entryFrame, mkF, argsToLocals, Value.category]; done) | rfl) fun p e s m below meth c s₁ hx hby hml hZ hown hnm hret hlk X0 e0 => ?_
  have N0 := Fr.nil n0
  have hown : s.vm.findClass "org/allonym/cli/JsonWriter" = some m.cls := hown
  show W p e below _ (s₁.setTop (mkF m 0 #[.val (.ref r0), .unset] []))
  refine W.go (fun _ hr => XS.aloadN X0.here hx rfl (hb hby d25_0) rfl rfl hr) ?_
  show W p e below _ (s₁.setTop (mkF m 1 #[.val (.ref r0), .unset] [(.ref r0)]))
  obtain ⟨T1, X1, e1, st1⟩ := getF X0 hx hZ hown (host := "") (Or.inl (hw _ (List.mem_of_getElem? (i := 29) rfl))) Via.refl e0 F_json_r0 (g := (mkF m 1 #[.val (.ref r0), .unset] [(.ref r0)])) rfl rfl (hb hby d25_1)
  refine W.go st1 ?_
  show W p e below _ (T1.setTop (mkF m 4 #[.val (.ref r0), .unset] [(.ref o)]))
  rcases hsep with rfl | ⟨x, hi0, hi1', hel, hch⟩
  · refine W.callDC X1 hx hZ hown (g := (mkF m 4 #[.val (.ref r0), .unset] [(.ref o)])) (by rw [hml]; rfl) (hw _ (List.mem_of_getElem? (i := 141) rfl)) (hw _ (List.mem_of_getElem? (i := 142) rfl)) (hw _ (List.mem_of_getElem? (i := 143) rfl)) (hw _ (List.mem_of_getElem? (i := 145) rfl)) (hw _ (List.mem_of_getElem? (i := 144) rfl))  (hw _ (List.mem_of_getElem? (i := 149) rfl)) e1 (rm26 l Z a0 hw o (0 : Int32) (1 : Int32) h0 n0 Z0 E_o F_count_o (by decide)) (by decide) pd_98 rfl E_o (argsL := []) (rest := []) rfl rfl rfl (hb hby d25_4) (W0 := 0) rfl (by decide) (by decide) (by decide) (by decide) (fun v2 T2 h2 L2 X2 e2 hQ2 => ?_)
    obtain ⟨rfl, N2q, hh2⟩ := hQ2
    obtain rfl := hh2.symm
    have N2 := Fr.app N0 N2q
    show W p e below _ (T2.setTop (mkF m 7 #[.val (.ref r0), .unset] [(.int (1 : Int32))]))
    refine W.go (fun _ hr => XS.ifNo X2.here hx rfl (hb hby d25_7) rfl ((if0 _ _).trans (feq (by decide : ¬ ((1 : Int32) = (0 : Int32)))).1) hr) ?_
    show W p e below _ (T2.setTop (mkF m 10 #[.val (.ref r0), .unset] []))
    exact W.retV X2 hx hlk hret (hb hby d25_10) (by decide) (by decide) e2 ⟨rfl, N2, rfl⟩
  · have hi1 : ¬ (cn - (1 : Int32)) < 0 ∧ (cn - (1 : Int32)) < cn := ⟨hi0, hi1'⟩
    have hc0 : ¬ cn = 0 := by
      intro q; subst q; exact absurd hi0 (by decide)
    refine W.callDC X1 hx hZ hown (g := (mkF m 4 #[.val (.ref r0), .unset] [(.ref o)])) (by rw [hml]; rfl) (hw _ (List.mem_of_getElem? (i := 141) rfl)) (hw _ (List.mem_of_getElem? (i := 142) rfl)) (hw _ (List.mem_of_getElem? (i := 143) rfl)) (hw _ (List.mem_of_getElem? (i := 145) rfl)) (hw _ (List.mem_of_getElem? (i := 144) rfl))  (hw _ (List.mem_of_getElem? (i := 149) rfl)) e1 (rm26 l Z a0 hw o cn (0 : Int32) h0 n0 Z0 E_o F_count_o (by rw [if_neg hc0])) (by decide) pd_98 rfl E_o (argsL := []) (rest := []) rfl rfl rfl (hb hby d25_4) (W0 := 0) rfl (by decide) (by decide) (by decide) (by decide) (fun v3 T3 h3 L3 X3 e3 hQ3 => ?_)
    obtain ⟨rfl, N3q, hh3⟩ := hQ3
    obtain rfl := hh3.symm
    have N3 := Fr.app N0 N3q
    show W p e below _ (T3.setTop (mkF m 7 #[.val (.ref r0), .unset] [(.int (0 : Int32))]))
    refine W.go (fun _ hr => XS.ifYes X3.here hx rfl (pc0 := 7) (pc' := 11) rfl (hb hby d25_7) rfl ((if0 _ _).trans (teq (by decide : ((0 : Int32) = (0 : Int32)))).1) (by decide) (by decide) hr) ?_
    show W p e below _ (T3.setTop (mkF m 11 #[.val (.ref r0), .unset] []))
    refine W.go (fun _ hr => XS.aloadN X3.here hx rfl (hb hby d25_11) rfl rfl hr) ?_
    show W p e below _ (T3.setTop (mkF m 12 #[.val (.ref r0), .unset] [(.ref r0)]))
    obtain ⟨T4, X4, e4, st4⟩ := getF X3 hx hZ hown (host := "") (Or.inl (hw _ (List.mem_of_getElem? (i := 29) rfl))) Via.refl e3 F_json_r0 (g := (mkF m 12 #[.val (.ref r0), .unset] [(.ref r0)])) rfl rfl (hb hby d25_12)
    refine W.go st4 ?_
    show W p e below _ (T4.setTop (mkF m 15 #[.val (.ref r0), .unset] [(.ref o)]))
    refine W.go (fun _ hr => XS.aloadN X4.here hx rfl (hb hby d25_15) rfl rfl hr) ?_
    show W p e below _ (T4.setTop (mkF m 16 #[.val (.ref r0), .unset] [(.ref r0), (.ref o)]))
    obtain ⟨T5, X5, e5, st5⟩ := getF X4 hx hZ hown (host := "") (Or.inl (hw _ (List.mem_of_getElem? (i := 29) rfl))) Via.refl e4 F_json_r0 (g := (mkF m 16 #[.val (.ref r0), .unset] [(.ref r0), (.ref o)])) rfl rfl (hb hby d25_16)
    refine W.go st5 ?_
    show W p e below _ (T5.setTop (mkF m 19 #[.val (.ref r0), .unset] [(.ref o), (.ref o)]))
    refine W.callV X5 hx hZ hown (g := (mkF m 19 #[.val (.ref r0), .unset] [(.ref o), (.ref o)])) (by rw [hml]; rfl) (hw _ (List.mem_of_getElem? (i := 156) rfl)) (hw _ (List.mem_of_getElem? (i := 157) rfl)) (hw _ (List.mem_of_getElem? (i := 158) rfl)) (hw _ (List.mem_of_getElem? (i := 97) rfl)) (hw _ (List.mem_of_getElem? (i := 11) rfl)) (hw _ (List.mem_of_getElem? (i := 98) rfl)) e5 (rm16 l Z a0 hw o cn h0 n0 Z0 E_o F_count_o) (notFace_of_selects (args := #[]) (mvT hZ (hw _ (List.mem_of_getElem? (i := 158) rfl)))) (by decide) pd_28 rfl E_o (argsL := []) (rest := [(.ref o)]) rfl rfl rfl (hb hby d25_19) (W0 := 1) rfl (by decide) (by decide) (by decide) (by decide) (fun v6 T6 h6 L6 X6 e6 hQ6 => ?_)
    obtain ⟨rfl, N6q, hh6⟩ := hQ6
    obtain rfl := hh6.symm
    have N6 := Fr.app N3 N6q
    show W p e below _ (T6.setTop (mkF m 22 #[.val (.ref r0), .unset] [(.int cn), (.ref o)]))
    refine W.go (fun _ hr => XS.iconst X6.here hx rfl (hb hby d25_22) hr) ?_
    show W p e below _ (T6.setTop (mkF m 23 #[.val (.ref r0), .unset] [(.int (1 : Int32)), (.int cn), (.ref o)]))
    refine W.go (fun _ hr => XS.isub X6.here hx rfl (hb hby d25_23) rfl hr) ?_
    show W p e below _ (T6.setTop (mkF m 24 #[.val (.ref r0), .unset] [(.int (cn - (1 : Int32))), (.ref o)]))
    refine W.callV X6 hx hZ hown (g := (mkF m 24 #[.val (.ref r0), .unset] [(.int (cn - (1 : Int32))), (.ref o)])) (by rw [hml]; rfl) (hw _ (List.mem_of_getElem? (i := 159) rfl)) (hw _ (List.mem_of_getElem? (i := 160) rfl)) (hw _ (List.mem_of_getElem? (i := 162) rfl)) (hw _ (List.mem_of_getElem? (i := 161) rfl)) (hw _ (List.mem_of_getElem? (i := 11) rfl)) (hw _ (List.mem_of_getElem? (i := 163) rfl)) e6 (rm27 l Z a0 hw o (cn - (1 : Int32)) t kt cs cn x wSF h0 n0 Z0 E_o F_value_o F_coder_o F_count_o V_t (by omega) hi1 hel S_SIOOBE_FORMATTER hSF) (notFace_of_selects (args := #[]) (mvT hZ (hw _ (List.mem_of_getElem? (i := 162) rfl)))) (by decide) pd_302 rfl E_o (argsL := [(.int (cn - (1 : Int32)))]) (rest := []) rfl rfl rfl (hb hby d25_24) (W0 := 0) rfl (by decide) (by decide) (by decide) (by decide) (fun v7 T7 h7 L7 X7 e7 hQ7 => ?_)
    obtain ⟨rfl, N7q, hh7⟩ := hQ7
    obtain rfl := hh7.symm
    have N7 := Fr.app N6 N7q
    show W p e below _ (T7.setTop (mkF m 27 #[.val (.ref r0), .unset] [(.int (x &&& 255))]))
    generalize e_ch : (x &&& 255) = ch
    rw [e_ch] at hch
    refine W.go (fun _ hr => XS.istoreN X7.here hx rfl (hb hby d25_27) rfl (l' := #[.val (.ref r0), .val (.int ch)]) rfl hr) ?_
    show W p e below _ (T7.setTop (mkF m 28 #[.val (.ref r0), .val (.int ch)] []))
    refine W.go (fun _ hr => XS.iloadN X7.here hx rfl (hb hby d25_28) rfl hr) ?_
    show W p e below _ (T7.setTop (mkF m 29 #[.val (.ref r0), .val (.int ch)] [(.int ch)]))
    refine W.go (fun _ hr => XS.bipush X7.here hx rfl (hb hby d25_29) hr) ?_
    show W p e below _ (T7.setTop (mkF m 31 #[.val (.ref r0), .val (.int ch)] [(.int (123 : Int32)), (.int ch)]))
    by_cases hc31_8 : ch = (123 : Int32)
    · refine W.go (fun _ hr => XS.icmpYes X7.here hx rfl (pc0 := 31) (pc' := 56) rfl (hb hby d25_31) rfl (teq hc31_8).1 (by decide) (by decide) hr) ?_
      show W p e below _ (T7.setTop (mkF m 56 #[.val (.ref r0), .val (.int ch)] []))
      exact W.retV X7 hx hlk hret (hb hby d25_56) (by decide) (by decide) e7 ⟨rfl, N7, rfl⟩
    · refine W.go (fun _ hr => XS.icmpNo X7.here hx rfl (hb hby d25_31) rfl (feq hc31_8).1 hr) ?_
      show W p e below _ (T7.setTop (mkF m 34 #[.val (.ref r0), .val (.int ch)] []))
      refine W.go (fun _ hr => XS.iloadN X7.here hx rfl (hb hby d25_34) rfl hr) ?_
      show W p e below _ (T7.setTop (mkF m 35 #[.val (.ref r0), .val (.int ch)] [(.int ch)]))
      refine W.go (fun _ hr => XS.bipush X7.here hx rfl (hb hby d25_35) hr) ?_
      show W p e below _ (T7.setTop (mkF m 37 #[.val (.ref r0), .val (.int ch)] [(.int (91 : Int32)), (.int ch)]))
      by_cases hc37_9 : ch = (91 : Int32)
      · refine W.go (fun _ hr => XS.icmpYes X7.here hx rfl (pc0 := 37) (pc' := 56) rfl (hb hby d25_37) rfl (teq hc37_9).1 (by decide) (by decide) hr) ?_
        show W p e below _ (T7.setTop (mkF m 56 #[.val (.ref r0), .val (.int ch)] []))
        exact W.retV X7 hx hlk hret (hb hby d25_56) (by decide) (by decide) e7 ⟨rfl, N7, rfl⟩
      · refine W.go (fun _ hr => XS.icmpNo X7.here hx rfl (hb hby d25_37) rfl (feq hc37_9).1 hr) ?_
        show W p e below _ (T7.setTop (mkF m 40 #[.val (.ref r0), .val (.int ch)] []))
        refine W.go (fun _ hr => XS.iloadN X7.here hx rfl (hb hby d25_40) rfl hr) ?_
        show W p e below _ (T7.setTop (mkF m 41 #[.val (.ref r0), .val (.int ch)] [(.int ch)]))
        refine W.go (fun _ hr => XS.bipush X7.here hx rfl (hb hby d25_41) hr) ?_
        show W p e below _ (T7.setTop (mkF m 43 #[.val (.ref r0), .val (.int ch)] [(.int (58 : Int32)), (.int ch)]))
        by_cases hc43_10 : ch = (58 : Int32)
        · refine W.go (fun _ hr => XS.icmpYes X7.here hx rfl (pc0 := 43) (pc' := 56) rfl (hb hby d25_43) rfl (teq hc43_10).1 (by decide) (by decide) hr) ?_
          show W p e below _ (T7.setTop (mkF m 56 #[.val (.ref r0), .val (.int ch)] []))
          exact W.retV X7 hx hlk hret (hb hby d25_56) (by decide) (by decide) e7 ⟨rfl, N7, rfl⟩
        · exact absurd hch (by simp [hc31_8, hc37_9, hc43_10])
theorem d25_46 : decode prog_10_method_10_code 46 = .ok (.aload_n 0, 1) := by decide +kernel
theorem d25_47 : decode prog_10_method_10_code 47 = .ok (.getfield 14, 3) := by decide +kernel
theorem d25_50 : decode prog_10_method_10_code 50 = .ok (.bipush 44, 2) := by decide +kernel
theorem d25_52 : decode prog_10_method_10_code 52 = .ok (.invokevirtual 21, 3) := by decide +kernel
theorem pd_403 : parseMethodDescriptor "(C)Ljava/lang/StringBuilder;" = some ⟨[.char], some (.object "java/lang/StringBuilder")⟩ := by decide +kernel
theorem d25_55 : decode prog_10_method_10_code 55 = .ok (.pop, 1) := by decide +kernel
def Q_rmSepY (Z : State) (r0 : Addr) (o : Addr) (t : Addr) (kt : ClassId) (cs : List Value) (cn : Int32) (x : Int32) (cs' : List Value) (cn' : Int32) (zCS : Int32) (wSF : Value) (h0 : Heap) (n0 : Nat) (v : Option Value) (h : Heap) (L : List Loc) : Prop := v = none ∧ Fr n0 L ∧ Keep h0 h [o, t] ∧ Exa Z h o "java/lang/StringBuilder" ∧ Fld Z h o "java/lang/AbstractStringBuilder" "value" "[B" (.ref t) ∧ Fld Z h o "java/lang/AbstractStringBuilder" "coder" "B" (.int (0 : Int32)) ∧ Fld Z h o "java/lang/AbstractStringBuilder" "count" "I" (.int cn') ∧ Arv Z h t kt .byte (1024 : Int32) cs' (.int (0 : Int32))
set_option maxRecDepth 65536 in
set_option maxHeartbeats 40000000 in
theorem rmSepY (l : Launch) (Z : State) (a0 : Array Value) (hw : ∀ d ∈ tables_1, d.before a0 Z = true) (r0 : Addr) (o : Addr) (t : Addr) (kt : ClassId) (cs : List Value) (cn : Int32) (x : Int32) (cs' : List Value) (cn' : Int32) (zCS : Int32) (wSF : Value) (h0 : Heap) (n0 : Nat) (Z0 : n0 ≤ h0.size) (E_r0 : Exa Z h0 r0 "org/allonym/cli/JsonWriter") (F_json_r0 : Fld Z h0 r0 "org/allonym/cli/JsonWriter" "json" "Ljava/lang/StringBuilder;" (.ref o)) (E_o : Exa Z h0 o "java/lang/StringBuilder") (F_value_o : Fld Z h0 o "java/lang/AbstractStringBuilder" "value" "[B" (.ref t)) (F_coder_o : Fld Z h0 o "java/lang/AbstractStringBuilder" "coder" "B" (.int (0 : Int32))) (F_count_o : Fld Z h0 o "java/lang/AbstractStringBuilder" "count" "I" (.int cn)) (V_t : Arv Z h0 t kt .byte (1024 : Int32) cs (.int (0 : Int32))) (S_COMPACT_STRINGS : Sta Z h0 "java/lang/String" "COMPACT_STRINGS" "Z" (.int zCS)) (hCS : ¬ zCS = 0) (S_SIOOBE_FORMATTER : Sta Z h0 "jdk/internal/util/Preconditions" "SIOOBE_FORMATTER" "Ljava/util/function/BiFunction;" wSF) (hSF : wSF.isRef = true) (hcn : cn.toInt = cs.length ∧ cn.toInt + 16 ≤ 1024) (g_o : n0 ≤ o) (g_t : n0 ≤ t) (ne_0o : r0 ≠ o) (ne_0t : r0 ≠ t) (ne_ot : o ≠ t) (hsep : ¬ cn = 0 ∧ ¬ (cn - 1) < 0 ∧ (cn - 1) < cn ∧ cs.getD (cn - 1).toNatClampNeg (.int (0 : Int32)) = .int x ∧ ¬ (x &&& 255) = 123 ∧ ¬ (x &&& 255) = 91 ∧ ¬ (x &&& 255) = 58) (hcs' : cs' = cs ++ [.int (44 : Int32)]) (hcn' : cn' = cn + 1) :
    Ctr l Z (⟨"org/allonym/cli/JsonWriter", "separate", "()V"⟩ : MethodName) prog_10_method_10_code 2 none ({ frames := 4, cells := 0, slots := 0, locals := 56 } : Room) #[(.ref r0)] h0 (Q_rmSepY Z r0 o t kt cs cn x cs' cn' zCS wSF h0 n0) := by
  refine Ctr.body (fr := fun m => mkF m 0 #[.val (.ref r0), .unset] []) (plainFor_of_name pn_org_allonym_cli_JsonWriter) (fun m => by first | (simp [entryFrame, mkF, argsToLocals, Value.category]; done) | rfl) fun p e s m below meth c s₁ hx hby hml hZ hown hnm hret hlk X0 e0 => ?_
  have N0 := Fr.nil n0
  have hown : s.vm.findClass "org/allonym/cli/JsonWriter" = some m.cls := hown
  have KC : Keep h0 h0 [o, t] := Keep.refl _ _
  show W p e below _ (s₁.setTop (mkF m 0 #[.val (.ref r0), .unset] []))
  refine W.go (fun _ hr => XS.aloadN X0.here hx rfl (hb hby d25_0) rfl rfl hr) ?_
  show W p e below _ (s₁.setTop (mkF m 1 #[.val (.ref r0), .unset] [(.ref r0)]))
  obtain ⟨T1, X1, e1, st1⟩ := getF X0 hx hZ hown (host := "") (Or.inl (hw _ (List.mem_of_getElem? (i := 29) rfl))) Via.refl e0 F_json_r0 (g := (mkF m 1 #[.val (.ref r0), .unset] [(.ref r0)])) rfl rfl (hb hby d25_1)
  refine W.go st1 ?_
  show W p e below _ (T1.setTop (mkF m 4 #[.val (.ref r0), .unset] [(.ref o)]))
  obtain ⟨hc0, hi0, hi1', hel, hch1, hch2, hch3⟩ := hsep
  have hi1 : ¬ (cn - (1 : Int32)) < 0 ∧ (cn - (1 : Int32)) < cn := ⟨hi0, hi1'⟩
  refine W.callDC X1 hx hZ hown (g := (mkF m 4 #[.val (.ref r0), .unset] [(.ref o)])) (by rw [hml]; rfl) (hw _ (List.mem_of_getElem? (i := 141) rfl)) (hw _ (List.mem_of_getElem? (i := 142) rfl)) (hw _ (List.mem_of_getElem? (i := 143) rfl)) (hw _ (List.mem_of_getElem? (i := 145) rfl)) (hw _ (List.mem_of_getElem? (i := 144) rfl))  (hw _ (List.mem_of_getElem? (i := 149) rfl)) e1 (rm26 l Z a0 hw o cn (0 : Int32) h0 n0 Z0 E_o F_count_o (by rw [if_neg hc0])) (by decide) pd_98 rfl E_o (argsL := []) (rest := []) rfl rfl rfl (hb hby d25_4) (W0 := 0) rfl (by decide) (by decide) (by decide) (by decide) (fun v2 T2 h2 L2 X2 e2 hQ2 => ?_)
  obtain ⟨rfl, N2q, hh2⟩ := hQ2
  obtain rfl := hh2.symm
  have N2 := Fr.app N0 N2q
  show W p e below _ (T2.setTop (mkF m 7 #[.val (.ref r0), .unset] [(.int (0 : Int32))]))
  refine W.go (fun _ hr => XS.ifYes X2.here hx rfl (pc0 := 7) (pc' := 11) rfl (hb hby d25_7) rfl ((if0 _ _).trans (teq (by decide : ((0 : Int32) = (0 : Int32)))).1) (by decide) (by decide) hr) ?_
  show W p e below _ (T2.setTop (mkF m 11 #[.val (.ref r0), .unset] []))
  refine W.go (fun _ hr => XS.aloadN X2.here hx rfl (hb hby d25_11) rfl rfl hr) ?_
  show W p e below _ (T2.setTop (mkF m 12 #[.val (.ref r0), .unset] [(.ref r0)]))
  obtain ⟨T3, X3, e3, st3⟩ := getF X2 hx hZ hown (host := "") (Or.inl (hw _ (List.mem_of_getElem? (i := 29) rfl))) Via.refl e2 F_json_r0 (g := (mkF m 12 #[.val (.ref r0), .unset] [(.ref r0)])) rfl rfl (hb hby d25_12)
  refine W.go st3 ?_
  show W p e below _ (T3.setTop (mkF m 15 #[.val (.ref r0), .unset] [(.ref o)]))
  refine W.go (fun _ hr => XS.aloadN X3.here hx rfl (hb hby d25_15) rfl rfl hr) ?_
  show W p e below _ (T3.setTop (mkF m 16 #[.val (.ref r0), .unset] [(.ref r0), (.ref o)]))
  obtain ⟨T4, X4, e4, st4⟩ := getF X3 hx hZ hown (host := "") (Or.inl (hw _ (List.mem_of_getElem? (i := 29) rfl))) Via.refl e3 F_json_r0 (g := (mkF m 16 #[.val (.ref r0), .unset] [(.ref r0), (.ref o)])) rfl rfl (hb hby d25_16)
  refine W.go st4 ?_
  show W p e below _ (T4.setTop (mkF m 19 #[.val (.ref r0), .unset] [(.ref o), (.ref o)]))
  refine W.callV X4 hx hZ hown (g := (mkF m 19 #[.val (.ref r0), .unset] [(.ref o), (.ref o)])) (by rw [hml]; rfl) (hw _ (List.mem_of_getElem? (i := 156) rfl)) (hw _ (List.mem_of_getElem? (i := 157) rfl)) (hw _ (List.mem_of_getElem? (i := 158) rfl)) (hw _ (List.mem_of_getElem? (i := 97) rfl)) (hw _ (List.mem_of_getElem? (i := 11) rfl)) (hw _ (List.mem_of_getElem? (i := 98) rfl)) e4 (rm16 l Z a0 hw o cn h0 n0 Z0 E_o F_count_o) (notFace_of_selects (args := #[]) (mvT hZ (hw _ (List.mem_of_getElem? (i := 158) rfl)))) (by decide) pd_28 rfl E_o (argsL := []) (rest := [(.ref o)]) rfl rfl rfl (hb hby d25_19) (W0 := 1) rfl (by decide) (by decide) (by decide) (by decide) (fun v5 T5 h5 L5 X5 e5 hQ5 => ?_)
  obtain ⟨rfl, N5q, hh5⟩ := hQ5
  obtain rfl := hh5.symm
  have N5 := Fr.app N2 N5q
  show W p e below _ (T5.setTop (mkF m 22 #[.val (.ref r0), .unset] [(.int cn), (.ref o)]))
  refine W.go (fun _ hr => XS.iconst X5.here hx rfl (hb hby d25_22) hr) ?_
  show W p e below _ (T5.setTop (mkF m 23 #[.val (.ref r0), .unset] [(.int (1 : Int32)), (.int cn), (.ref o)]))
  refine W.go (fun _ hr => XS.isub X5.here hx rfl (hb hby d25_23) rfl hr) ?_
  show W p e below _ (T5.setTop (mkF m 24 #[.val (.ref r0), .unset] [(.int (cn - (1 : Int32))), (.ref o)]))
  refine W.callV X5 hx hZ hown (g := (mkF m 24 #[.val (.ref r0), .unset] [(.int (cn - (1 : Int32))), (.ref o)])) (by rw [hml]; rfl) (hw _ (List.mem_of_getElem? (i := 159) rfl)) (hw _ (List.mem_of_getElem? (i := 160) rfl)) (hw _ (List.mem_of_getElem? (i := 162) rfl)) (hw _ (List.mem_of_getElem? (i := 161) rfl)) (hw _ (List.mem_of_getElem? (i := 11) rfl)) (hw _ (List.mem_of_getElem? (i := 163) rfl)) e5 (rm27 l Z a0 hw o (cn - (1 : Int32)) t kt cs cn x wSF h0 n0 Z0 E_o F_value_o F_coder_o F_count_o V_t (by omega) hi1 hel S_SIOOBE_FORMATTER hSF) (notFace_of_selects (args := #[]) (mvT hZ (hw _ (List.mem_of_getElem? (i := 162) rfl)))) (by decide) pd_302 rfl E_o (argsL := [(.int (cn - (1 : Int32)))]) (rest := []) rfl rfl rfl (hb hby d25_24) (W0 := 0) rfl (by decide) (by decide) (by decide) (by decide) (fun v6 T6 h6 L6 X6 e6 hQ6 => ?_)
  obtain ⟨rfl, N6q, hh6⟩ := hQ6
  obtain rfl := hh6.symm
  have N6 := Fr.app N5 N6q
  show W p e below _ (T6.setTop (mkF m 27 #[.val (.ref r0), .unset] [(.int (x &&& 255))]))
  generalize e_ch : (x &&& 255) = ch
  rw [e_ch] at hch1 hch2 hch3
  refine W.go (fun _ hr => XS.istoreN X6.here hx rfl (hb hby d25_27) rfl (l' := #[.val (.ref r0), .val (.int ch)]) rfl hr) ?_
  show W p e below _ (T6.setTop (mkF m 28 #[.val (.ref r0), .val (.int ch)] []))
  refine W.go (fun _ hr => XS.iloadN X6.here hx rfl (hb hby d25_28) rfl hr) ?_
  show W p e below _ (T6.setTop (mkF m 29 #[.val (.ref r0), .val (.int ch)] [(.int ch)]))
  refine W.go (fun _ hr => XS.bipush X6.here hx rfl (hb hby d25_29) hr) ?_
  show W p e below _ (T6.setTop (mkF m 31 #[.val (.ref r0), .val (.int ch)] [(.int (123 : Int32)), (.int ch)]))
  refine W.go (fun _ hr => XS.icmpNo X6.here hx rfl (hb hby d25_31) rfl (feq (hch1 : ¬ (ch = (123 : Int32)))).1 hr) ?_
  show W p e below _ (T6.setTop (mkF m 34 #[.val (.ref r0), .val (.int ch)] []))
  refine W.go (fun _ hr => XS.iloadN X6.here hx rfl (hb hby d25_34) rfl hr) ?_
  show W p e below _ (T6.setTop (mkF m 35 #[.val (.ref r0), .val (.int ch)] [(.int ch)]))
  refine W.go (fun _ hr => XS.bipush X6.here hx rfl (hb hby d25_35) hr) ?_
  show W p e below _ (T6.setTop (mkF m 37 #[.val (.ref r0), .val (.int ch)] [(.int (91 : Int32)), (.int ch)]))
  refine W.go (fun _ hr => XS.icmpNo X6.here hx rfl (hb hby d25_37) rfl (feq (hch2 : ¬ (ch = (91 : Int32)))).1 hr) ?_
  show W p e below _ (T6.setTop (mkF m 40 #[.val (.ref r0), .val (.int ch)] []))
  refine W.go (fun _ hr => XS.iloadN X6.here hx rfl (hb hby d25_40) rfl hr) ?_
  show W p e below _ (T6.setTop (mkF m 41 #[.val (.ref r0), .val (.int ch)] [(.int ch)]))
  refine W.go (fun _ hr => XS.bipush X6.here hx rfl (hb hby d25_41) hr) ?_
  show W p e below _ (T6.setTop (mkF m 43 #[.val (.ref r0), .val (.int ch)] [(.int (58 : Int32)), (.int ch)]))
  refine W.go (fun _ hr => XS.icmpNo X6.here hx rfl (hb hby d25_43) rfl (feq (hch3 : ¬ (ch = (58 : Int32)))).1 hr) ?_
  show W p e below _ (T6.setTop (mkF m 46 #[.val (.ref r0), .val (.int ch)] []))
  refine W.go (fun _ hr => XS.aloadN X6.here hx rfl (hb hby d25_46) rfl rfl hr) ?_
  show W p e below _ (T6.setTop (mkF m 47 #[.val (.ref r0), .val (.int ch)] [(.ref r0)]))
  obtain ⟨T7, X7, e7, st7⟩ := getF X6 hx hZ hown (host := "") (Or.inl (hw _ (List.mem_of_getElem? (i := 29) rfl))) Via.refl e6 F_json_r0 (g := (mkF m 47 #[.val (.ref r0), .val (.int ch)] [(.ref r0)])) rfl rfl (hb hby d25_47)
  refine W.go st7 ?_
  show W p e below _ (T7.setTop (mkF m 50 #[.val (.ref r0), .val (.int ch)] [(.ref o)]))
  refine W.go (fun _ hr => XS.bipush X7.here hx rfl (hb hby d25_50) hr) ?_
  show W p e below _ (T7.setTop (mkF m 52 #[.val (.ref r0), .val (.int ch)] [(.int (44 : Int32)), (.ref o)]))
  refine W.callV X7 hx hZ hown (g := (mkF m 52 #[.val (.ref r0), .val (.int ch)] [(.int (44 : Int32)), (.ref o)])) (by rw [hml]; rfl) (hw _ (List.mem_of_getElem? (i := 43) rfl)) (hw _ (List.mem_of_getElem? (i := 44) rfl)) (hw _ (List.mem_of_getElem? (i := 46) rfl)) (hw _ (List.mem_of_getElem? (i := 45) rfl)) (hw _ (List.mem_of_getElem? (i := 11) rfl)) (hw _ (List.mem_of_getElem? (i := 47) rfl)) e7 (rm6 l Z a0 hw o (44 : Int32) t kt cs cn zCS (44 : Int32) cs' cn' h0 n0 Z0 E_o F_value_o F_coder_o F_count_o V_t S_COMPACT_STRINGS hCS ⟨hcn.1, by omega⟩ g_o g_t ne_ot (by decide) (by decide) hcs' hcn') (notFace_of_selects (args := #[]) (mvT hZ (hw _ (List.mem_of_getElem? (i := 46) rfl)))) (by decide) pd_403 rfl E_o (argsL := [(.int (44 : Int32))]) (rest := []) rfl rfl rfl (hb hby d25_52) (W0 := 0) rfl (by decide) (by decide) (by decide) (by decide) (fun v8 T8 h8 L8 X8 e8 hQ8 => ?_)
  obtain ⟨rfl, N8q, K8, Ee8, Fv8, Fc8, Fn8, V8⟩ := hQ8
  have N8 := Fr.app N6 N8q
  have nsK8 := (nsS E_o.nostat (nsS V_t.nostat ns0))
  replace S_COMPACT_STRINGS := Sta.keep S_COMPACT_STRINGS K8 nsK8
  replace S_SIOOBE_FORMATTER := Sta.keep S_SIOOBE_FORMATTER K8 nsK8
  replace E_r0 := E_r0.keep K8
  replace F_json_r0 := F_json_r0.keep K8 (ninS ne_0o (ninS ne_0t nin0))
  replace E_o := E_o.keep K8
  have Z9 : n0 ≤ h8.size := Nat.le_trans Z0 K8.1
  replace KC := KC.trans K8 (allS (Or.inl (List.mem_of_getElem? (i := 0) rfl)) (allS (Or.inl (List.mem_of_getElem? (i := 1) rfl)) all0))
  show W p e below _ (T8.setTop (mkF m 55 #[.val (.ref r0), .val (.int ch)] [(.ref o)]))
  refine W.go (fun _ hr => XS.pop X8.here hx rfl (hb hby d25_55) rfl rfl hr) ?_
  show W p e below _ (T8.setTop (mkF m 56 #[.val (.ref r0), .val (.int ch)] []))
  exact W.retV X8 hx hlk hret (hb hby d25_56) (by decide) (by decide) e8 ⟨rfl, N8, KC, E_o, Fv8, Fc8, Fn8, V8⟩
theorem d33_0 : decode prog_10_method_4_code 0 = .ok (.aload_n 0, 1) := by decide +kernel
theorem d33_1 : decode prog_10_method_4_code 1 = .ok (.invokevirtual 18, 3) := by decide +kernel
theorem pd_407 : parseMethodDescriptor "()V" = some ⟨[], none⟩ := by decide +kernel
theorem d33_4 : decode prog_10_method_4_code 4 = .ok (.aload_n 0, 1) := by decide +kernel
theorem d33_5 : decode prog_10_method_4_code 5 = .ok (.getfield 14, 3) := by decide +kernel
theorem d33_8 : decode prog_10_method_4_code 8 = .ok (.bipush 91, 2) := by decide +kernel
theorem d33_10 : decode prog_10_method_4_code 10 = .ok (.invokevirtual 21, 3) := by decide +kernel
theorem d33_13 : decode prog_10_method_4_code 13 = .ok (.pop, 1) := by decide +kernel
theorem d33_14 : decode prog_10_method_4_code 14 = .ok (.aload_n 0, 1) := by decide +kernel
theorem d33_15 : decode prog_10_method_4_code 15 = .ok (.areturn, 1) := by decide +kernel
def Q_rm_beginArrayN (Z : State) (r0 : Addr) (o : Addr) (t : Addr) (kt : ClassId) (cs : List Value) (cn : Int32) (cs' : List Value) (cn' : Int32) (zCS : Int32) (wSF : Value) (h0 : Heap) (n0 : Nat) (v : Option Value) (h : Heap) (L : List Loc) : Prop := v = some (.ref r0) ∧ Fr n0 L ∧ Keep h0 h [o, t] ∧ Exa Z h o "java/lang/StringBuilder" ∧ Fld Z h o "java/lang/AbstractStringBuilder" "value" "[B" (.ref t) ∧ Fld Z h o "java/lang/AbstractStringBuilder" "coder" "B" (.int (0 : Int32)) ∧ Fld Z h o "java/lang/AbstractStringBuilder" "count" "I" (.int cn') ∧ Arv Z h t kt .byte (1024 : Int32) cs' (.int (0 : Int32))
set_option maxRecDepth 65536 in
set_option maxHeartbeats 40000000 in
theorem rm_beginArrayN (l : Launch) (Z : State) (a0 : Array Value) (hw : ∀ d ∈ tables_1, d.before a0 Z = true) (r0 : Addr) (o : Addr) (t : Addr) (kt : ClassId) (cs : List Value) (cn : Int32) (cs' : List Value) (cn' : Int32) (zCS : Int32) (wSF : Value) (h0 : Heap) (n0 : Nat) (Z0 : n0 ≤ h0.size) (E_r0 : Exa Z h0 r0 "org/allonym/cli/JsonWriter") (F_json_r0 : Fld Z h0 r0 "org/allonym/cli/JsonWriter" "json" "Ljava/lang/StringBuilder;" (.ref o)) (E_o : Exa Z h0 o "java/lang/StringBuilder") (F_value_o : Fld Z h0 o "java/lang/AbstractStringBuilder" "value" "[B" (.ref t)) (F_coder_o : Fld Z h0 o "java/lang/AbstractStringBuilder" "coder" "B" (.int (0 : Int32))) (F_count_o : Fld Z h0 o "java/lang/AbstractStringBuilder" "count" "I" (.int cn)) (V_t : Arv Z h0 t kt .byte (1024 : Int32) cs (.int (0 : Int32))) (S_COMPACT_STRINGS : Sta Z h0 "java/lang/String" "COMPACT_STRINGS" "Z" (.int zCS)) (hCS : ¬ zCS = 0) (S_SIOOBE_FORMATTER : Sta Z h0 "jdk/internal/util/Preconditions" "SIOOBE_FORMATTER" "Ljava/util/function/BiFunction;" wSF) (hSF : wSF.isRef = true) (hcn : cn.toInt = cs.length ∧ cn.toInt + 32 ≤ 1024) (g_o : n0 ≤ o) (g_t : n0 ≤ t) (ne_0o : r0 ≠ o) (ne_0t : r0 ≠ t) (ne_ot : o ≠ t) (hsep : cn = 0 ∨ ∃ x : Int32, ¬ (cn - 1) < 0 ∧ (cn - 1) < cn ∧ cs.getD (cn - 1).toNatClampNeg (.int (0 : Int32)) = .int x ∧ ((x &&& 255) = 123 ∨ (x &&& 255) = 91 ∨ (x &&& 255) = 58)) (hcs' : cs' = cs ++ [.int (91 : Int32)]) (hcn' : cn' = cn + 1) :
    Ctr l Z (⟨"org/allonym/cli/JsonWriter", "beginArray", "()Lorg/allonym/cli/JsonWriter;"⟩ : MethodName) prog_10_method_4_code 1 (some (.object "org/allonym/cli/JsonWriter")) ({ frames := 5, cells := 0, slots := 0, locals := 69 } : Room) #[(.ref r0)] h0 (Q_rm_beginArrayN Z r0 o t kt cs cn cs' cn' zCS wSF h0 n0) := by
  refine Ctr.body (fr := fun m => mkF m 0 #[.val (.ref r0)] []) (plainFor_of_name pn_org_allonym_cli_JsonWriter) (fun m => by first | (simp [entryFrame, mkF, argsToLocals, Value.category]; done) | rfl) fun p e s m below meth c s₁ hx hby hml hZ hown hnm hret hlk X0 e0 => ?_
  have N0 := Fr.nil n0
  have hown : s.vm.findClass "org/allonym/cli/JsonWriter" = some m.cls := hown
  have KC : Keep h0 h0 [o, t] := Keep.refl _ _
  show W p e below _ (s₁.setTop (mkF m 0 #[.val (.ref r0)] []))
  refine W.go (fun _ hr => XS.aloadN X0.here hx rfl (hb hby d33_0) rfl rfl hr) ?_
  show W p e below _ (s₁.setTop (mkF m 1 #[.val (.ref r0)] [(.ref r0)]))
  refine W.callP X0 hx hZ hown (g := (mkF m 1 #[.val (.ref r0)] [(.ref r0)])) (by rw [hml]; rfl) (hw _ (List.mem_of_getElem? (i := 137) rfl)) (hw _ (List.mem_of_getElem? (i := 139) rfl)) (selPriv hZ (hw _ (List.mem_of_getElem? (i := 1) rfl)) (hw _ (List.mem_of_getElem? (i := 139) rfl)) (hw _ (List.mem_of_getElem? (i := 138) rfl)) (by decide)) (hw _ (List.mem_of_getElem? (i := 138) rfl)) (hw _ (List.mem_of_getElem? (i := 2) rfl)) (hw _ (List.mem_of_getElem? (i := 140) rfl)) e0 (rmSepN l Z a0 hw r0 o t kt cs cn zCS wSF h0 n0 Z0 E_r0 F_json_r0 E_o F_value_o F_coder_o F_count_o V_t S_COMPACT_STRINGS hCS S_SIOOBE_FORMATTER hSF ⟨hcn.1, by omega⟩ hsep) (by decide) pd_407 rfl E_r0 (argsL := []) (rest := []) rfl rfl rfl (hb hby d33_1) (W0 := 0) rfl (by decide) (by decide) (by decide) (by decide) (fun v1 T1 h1 L1 X1 e1 hQ1 => ?_)
  obtain ⟨rfl, N1q, hh1⟩ := hQ1
  obtain rfl := hh1.symm
  have N1 := Fr.app N0 N1q
  show W p e below _ (T1.setTop (mkF m 4 #[.val (.ref r0)] []))
  refine W.go (fun _ hr => XS.aloadN X1.here hx rfl (hb hby d33_4) rfl rfl hr) ?_
  show W p e below _ (T1.setTop (mkF m 5 #[.val (.ref r0)] [(.ref r0)]))
  obtain ⟨T2, X2, e2, st2⟩ := getF X1 hx hZ hown (host := "") (Or.inl (hw _ (List.mem_of_getElem? (i := 29) rfl))) Via.refl e1 F_json_r0 (g := (mkF m 5 #[.val (.ref r0)] [(.ref r0)])) rfl rfl (hb hby d33_5)
  refine W.go st2 ?_
  show W p e below _ (T2.setTop (mkF m 8 #[.val (.ref r0)] [(.ref o)]))
  refine W.go (fun _ hr => XS.bipush X2.here hx rfl (hb hby d33_8) hr) ?_
  show W p e below _ (T2.setTop (mkF m 10 #[.val (.ref r0)] [(.int (91 : Int32)), (.ref o)]))
  refine W.callV X2 hx hZ hown (g := (mkF m 10 #[.val (.ref r0)] [(.int (91 : Int32)), (.ref o)])) (by rw [hml]; rfl) (hw _ (List.mem_of_getElem? (i := 43) rfl)) (hw _ (List.mem_of_getElem? (i := 44) rfl)) (hw _ (List.mem_of_getElem? (i := 46) rfl)) (hw _ (List.mem_of_getElem? (i := 45) rfl)) (hw _ (List.mem_of_getElem? (i := 11) rfl)) (hw _ (List.mem_of_getElem? (i := 47) rfl)) e2 (rm6 l Z a0 hw o (91 : Int32) t kt cs cn zCS (91 : Int32) cs' cn' h0 n0 Z0 E_o F_value_o F_coder_o F_count_o V_t S_COMPACT_STRINGS hCS ⟨hcn.1, by omega⟩ g_o g_t ne_ot (by decide) (by decide) hcs' hcn') (notFace_of_selects (args := #[]) (mvT hZ (hw _ (List.mem_of_getElem? (i := 46) rfl)))) (by decide) pd_403 rfl E_o (argsL := [(.int (91 : Int32))]) (rest := []) rfl rfl rfl (hb hby d33_10) (W0 := 0) rfl (by decide) (by decide) (by decide) (by decide) (fun v3 T3 h3 L3 X3 e3 hQ3 => ?_)
  obtain ⟨rfl, N3q, K3, Ee3, Fv3, Fc3, Fn3, V3⟩ := hQ3
  have N3 := Fr.app N1 N3q
  have nsK3 := (nsS E_o.nostat (nsS V_t.nostat ns0))
  replace S_COMPACT_STRINGS := Sta.keep S_COMPACT_STRINGS K3 nsK3
  replace S_SIOOBE_FORMATTER := Sta.keep S_SIOOBE_FORMATTER K3 nsK3
  replace E_r0 := E_r0.keep K3
  replace F_json_r0 := F_json_r0.keep K3 (ninS ne_0o (ninS ne_0t nin0))
  replace E_o := E_o.keep K3
  have Z4 : n0 ≤ h3.size := Nat.le_trans Z0 K3.1
  replace KC := KC.trans K3 (allS (Or.inl (List.mem_of_getElem? (i := 0) rfl)) (allS (Or.inl (List.mem_of_getElem? (i := 1) rfl)) all0))
  show W p e below _ (T3.setTop (mkF m 13 #[.val (.ref r0)] [(.ref o)]))
  refine W.go (fun _ hr => XS.pop X3.here hx rfl (hb hby d33_13) rfl rfl hr) ?_
  show W p e below _ (T3.setTop (mkF m 14 #[.val (.ref r0)] []))
  refine W.go (fun _ hr => XS.aloadN X3.here hx rfl (hb hby d33_14) rfl rfl hr) ?_
  show W p e below _ (T3.setTop (mkF m 15 #[.val (.ref r0)] [(.ref r0)]))
  exact W.retA X3 hx hlk hret rfl rfl (hb hby d33_15) (by decide) (by decide) e3 ⟨rfl, N3, KC, E_o, Fv3, Fc3, Fn3, V3⟩
def Q_rm_beginArrayY (Z : State) (r0 : Addr) (o : Addr) (t : Addr) (kt : ClassId) (cs : List Value) (cn : Int32) (x : Int32) (cs' : List Value) (cn' : Int32) (zCS : Int32) (wSF : Value) (h0 : Heap) (n0 : Nat) (v : Option Value) (h : Heap) (L : List Loc) : Prop := v = some (.ref r0) ∧ Fr n0 L ∧ Keep h0 h [o, t] ∧ Exa Z h o "java/lang/StringBuilder" ∧ Fld Z h o "java/lang/AbstractStringBuilder" "value" "[B" (.ref t) ∧ Fld Z h o "java/lang/AbstractStringBuilder" "coder" "B" (.int (0 : Int32)) ∧ Fld Z h o "java/lang/AbstractStringBuilder" "count" "I" (.int cn') ∧ Arv Z h t kt .byte (1024 : Int32) cs' (.int (0 : Int32))
set_option maxRecDepth 65536 in
set_option maxHeartbeats 40000000 in
theorem rm_beginArrayY (l : Launch) (Z : State) (a0 : Array Value) (hw : ∀ d ∈ tables_1, d.before a0 Z = true) (r0 : Addr) (o : Addr) (t : Addr) (kt : ClassId) (cs : List Value) (cn : Int32) (x : Int32) (cs' : List Value) (cn' : Int32) (zCS : Int32) (wSF : Value) (h0 : Heap) (n0 : Nat) (Z0 : n0 ≤ h0.size) (E_r0 : Exa Z h0 r0 "org/allonym/cli/JsonWriter") (F_json_r0 : Fld Z h0 r0 "org/allonym/cli/JsonWriter" "json" "Ljava/lang/StringBuilder;" (.ref o)) (E_o : Exa Z h0 o "java/lang/StringBuilder") (F_value_o : Fld Z h0 o "java/lang/AbstractStringBuilder" "value" "[B" (.ref t)) (F_coder_o : Fld Z h0 o "java/lang/AbstractStringBuilder" "coder" "B" (.int (0 : Int32))) (F_count_o : Fld Z h0 o "java/lang/AbstractStringBuilder" "count" "I" (.int cn)) (V_t : Arv Z h0 t kt .byte (1024 : Int32) cs (.int (0 : Int32))) (S_COMPACT_STRINGS : Sta Z h0 "java/lang/String" "COMPACT_STRINGS" "Z" (.int zCS)) (hCS : ¬ zCS = 0) (S_SIOOBE_FORMATTER : Sta Z h0 "jdk/internal/util/Preconditions" "SIOOBE_FORMATTER" "Ljava/util/function/BiFunction;" wSF) (hSF : wSF.isRef = true) (hcn : cn.toInt = cs.length ∧ cn.toInt + 32 ≤ 1024) (g_o : n0 ≤ o) (g_t : n0 ≤ t) (ne_0o : r0 ≠ o) (ne_0t : r0 ≠ t) (ne_ot : o ≠ t) (hsep : ¬ cn = 0 ∧ ¬ (cn - 1) < 0 ∧ (cn - 1) < cn ∧ cs.getD (cn - 1).toNatClampNeg (.int (0 : Int32)) = .int x ∧ ¬ (x &&& 255) = 123 ∧ ¬ (x &&& 255) = 91 ∧ ¬ (x &&& 255) = 58) (hcs' : cs' = cs ++ [.int (44 : Int32)] ++ [.int (91 : Int32)]) (hcn' : cn' = cn + 1 + 1) :
    Ctr l Z (⟨"org/allonym/cli/JsonWriter", "beginArray", "()Lorg/allonym/cli/JsonWriter;"⟩ : MethodName) prog_10_method_4_code 1 (some (.object "org/allonym/cli/JsonWriter")) ({ frames := 5, cells := 0, slots := 0, locals := 69 } : Room) #[(.ref r0)] h0 (Q_rm_beginArrayY Z r0 o t kt cs cn x cs' cn' zCS wSF h0 n0) := by
  refine Ctr.body (fr := fun m => mkF m 0 #[.val (.ref r0)] []) (plainFor_of_name pn_org_allonym_cli_JsonWriter) (fun m => by first | (simp [entryFrame, mkF, argsToLocals, Value.category]; done) | rfl) fun p e s m below meth c s₁ hx hby hml hZ hown hnm hret hlk X0 e0 => ?_
  have N0 := Fr.nil n0
  have hown : s.vm.findClass "org/allonym/cli/JsonWriter" = some m.cls := hown
  have KC : Keep h0 h0 [o, t] := Keep.refl _ _
  show W p e below _ (s₁.setTop (mkF m 0 #[.val (.ref r0)] []))
  refine W.go (fun _ hr => XS.aloadN X0.here hx rfl (hb hby d33_0) rfl rfl hr) ?_
  show W p e below _ (s₁.setTop (mkF m 1 #[.val (.ref r0)] [(.ref r0)]))
  refine W.callP X0 hx hZ hown (g := (mkF m 1 #[.val (.ref r0)] [(.ref r0)])) (by rw [hml]; rfl) (hw _ (List.mem_of_getElem? (i := 137) rfl)) (hw _ (List.mem_of_getElem? (i := 139) rfl)) (selPriv hZ (hw _ (List.mem_of_getElem? (i := 1) rfl)) (hw _ (List.mem_of_getElem? (i := 139) rfl)) (hw _ (List.mem_of_getElem? (i := 138) rfl)) (by decide)) (hw _ (List.mem_of_getElem? (i := 138) rfl)) (hw _ (List.mem_of_getElem? (i := 2) rfl)) (hw _ (List.mem_of_getElem? (i := 140) rfl)) e0 (rmSepY l Z a0 hw r0 o t kt cs cn x (cs ++ [.int (44 : Int32)]) (cn + 1) zCS wSF h0 n0 Z0 E_r0 F_json_r0 E_o F_value_o F_coder_o F_count_o V_t S_COMPACT_STRINGS hCS S_SIOOBE_FORMATTER hSF ⟨hcn.1, by omega⟩ g_o g_t ne_0o ne_0t ne_ot hsep rfl rfl) (by decide) pd_407 rfl E_r0 (argsL := []) (rest := []) rfl rfl rfl (hb hby d33_1) (W0 := 0) rfl (by decide) (by decide) (by decide) (by decide) (fun v1 T1 h1 L1 X1 e1 hQ1 => ?_)
  obtain ⟨rfl, N1q, K1, Eo1, Fv1, Fc1, Fn1, V1⟩ := hQ1
  have N1 := Fr.app N0 N1q
  have nsK1 := (nsS E_o.nostat (nsS V_t.nostat ns0))
  replace S_COMPACT_STRINGS := Sta.keep S_COMPACT_STRINGS K1 nsK1
  replace S_SIOOBE_FORMATTER := Sta.keep S_SIOOBE_FORMATTER K1 nsK1
  replace E_r0 := E_r0.keep K1
  replace F_json_r0 := F_json_r0.keep K1 (ninS ne_0o (ninS ne_0t nin0))
  replace E_o := E_o.keep K1
  have Z2 : n0 ≤ h1.size := Nat.le_trans Z0 K1.1
  replace KC := KC.trans K1 (allS (Or.inl (List.mem_of_getElem? (i := 0) rfl)) (allS (Or.inl (List.mem_of_getElem? (i := 1) rfl)) all0))
  show W p e below _ (T1.setTop (mkF m 4 #[.val (.ref r0)] []))
  have hcn2 := own_len (v := (.int (44 : Int32))) hcn.1 (by omega)
  have hcn3 := hcn2
  rw [List.length_append, List.length_singleton] at hcn3
  refine W.go (fun _ hr => XS.aloadN X1.here hx rfl (hb hby d33_4) rfl rfl hr) ?_
  show W p e below _ (T1.setTop (mkF m 5 #[.val (.ref r0)] [(.ref r0)]))
  obtain ⟨T3, X3, e3, st3⟩ := getF X1 hx hZ hown (host := "") (Or.inl (hw _ (List.mem_of_getElem? (i := 29) rfl))) Via.refl e1 F_json_r0 (g := (mkF m 5 #[.val (.ref r0)] [(.ref r0)])) rfl rfl (hb hby d33_5)
  refine W.go st3 ?_
  show W p e below _ (T3.setTop (mkF m 8 #[.val (.ref r0)] [(.ref o)]))
  refine W.go (fun _ hr => XS.bipush X3.here hx rfl (hb hby d33_8) hr) ?_
  show W p e below _ (T3.setTop (mkF m 10 #[.val (.ref r0)] [(.int (91 : Int32)), (.ref o)]))
  refine W.callV X3 hx hZ hown (g := (mkF m 10 #[.val (.ref r0)] [(.int (91 : Int32)), (.ref o)])) (by rw [hml]; rfl) (hw _ (List.mem_of_getElem? (i := 43) rfl)) (hw _ (List.mem_of_getElem? (i := 44) rfl)) (hw _ (List.mem_of_getElem? (i := 46) rfl)) (hw _ (List.mem_of_getElem? (i := 45) rfl)) (hw _ (List.mem_of_getElem? (i := 11) rfl)) (hw _ (List.mem_of_getElem? (i := 47) rfl)) e3 (rm6 l Z a0 hw o (91 : Int32) t kt (cs ++ [.int (44 : Int32)]) (cn + 1) zCS (91 : Int32) cs' cn' h1 n0 Z2 E_o Fv1 Fc1 Fn1 V1 S_COMPACT_STRINGS hCS ⟨hcn2, by omega⟩ g_o g_t ne_ot (by decide) (by decide) hcs' hcn') (notFace_of_selects (args := #[]) (mvT hZ (hw _ (List.mem_of_getElem? (i := 46) rfl)))) (by decide) pd_403 rfl E_o (argsL := [(.int (91 : Int32))]) (rest := []) rfl rfl rfl (hb hby d33_10) (W0 := 0) rfl (by decide) (by decide) (by decide) (by decide) (fun v4 T4 h4 L4 X4 e4 hQ4 => ?_)
  obtain ⟨rfl, N4q, K4, Ee4, Fv4, Fc4, Fn4, V4⟩ := hQ4
  have N4 := Fr.app N1 N4q
  have nsK4 := (nsS E_o.nostat (nsS V1.nostat ns0))
  replace S_COMPACT_STRINGS := Sta.keep S_COMPACT_STRINGS K4 nsK4
  replace S_SIOOBE_FORMATTER := Sta.keep S_SIOOBE_FORMATTER K4 nsK4
  replace E_r0 := E_r0.keep K4
  replace F_json_r0 := F_json_r0.keep K4 (ninS ne_0o (ninS ne_0t nin0))
  replace E_o := E_o.keep K4
  have Z5 : n0 ≤ h4.size := Nat.le_trans Z2 K4.1
  replace KC := KC.trans K4 (allS (Or.inl (List.mem_of_getElem? (i := 0) rfl)) (allS (Or.inl (List.mem_of_getElem? (i := 1) rfl)) all0))
  show W p e below _ (T4.setTop (mkF m 13 #[.val (.ref r0)] [(.ref o)]))
  refine W.go (fun _ hr => XS.pop X4.here hx rfl (hb hby d33_13) rfl rfl hr) ?_
  show W p e below _ (T4.setTop (mkF m 14 #[.val (.ref r0)] []))
  refine W.go (fun _ hr => XS.aloadN X4.here hx rfl (hb hby d33_14) rfl rfl hr) ?_
  show W p e below _ (T4.setTop (mkF m 15 #[.val (.ref r0)] [(.ref r0)]))
  exact W.retA X4 hx hlk hret rfl rfl (hb hby d33_15) (by decide) (by decide) e4 ⟨rfl, N4, KC, E_o, Fv4, Fc4, Fn4, V4⟩
theorem d5_0 : decode prog_10_method_5_code 0 = .ok (.aload_n 0, 1) := by decide +kernel
theorem d5_1 : decode prog_10_method_5_code 1 = .ok (.getfield 14, 3) := by decide +kernel
theorem d5_4 : decode prog_10_method_5_code 4 = .ok (.bipush 93, 2) := by decide +kernel
theorem d5_6 : decode prog_10_method_5_code 6 = .ok (.invokevirtual 21, 3) := by decide +kernel
theorem d5_9 : decode prog_10_method_5_code 9 = .ok (.pop, 1) := by decide +kernel
theorem d5_10 : decode prog_10_method_5_code 10 = .ok (.aload_n 0, 1) := by decide +kernel
theorem d5_11 : decode prog_10_method_5_code 11 = .ok (.areturn, 1) := by decide +kernel
def Q_rm_endArray (Z : State) (r0 : Addr) (o : Addr) (t : Addr) (kt : ClassId) (cs : List Value) (cn : Int32) (cs' : List Value) (cn' : Int32) (zCS : Int32) (wSF : Value) (h0 : Heap) (n0 : Nat) (v : Option Value) (h : Heap) (L : List Loc) : Prop := v = some (.ref r0) ∧ Fr n0 L ∧ Keep h0 h [o, t] ∧ Exa Z h o "java/lang/StringBuilder" ∧ Fld Z h o "java/lang/AbstractStringBuilder" "value" "[B" (.ref t) ∧ Fld Z h o "java/lang/AbstractStringBuilder" "coder" "B" (.int (0 : Int32)) ∧ Fld Z h o "java/lang/AbstractStringBuilder" "count" "I" (.int cn') ∧ Arv Z h t kt .byte (1024 : Int32) cs' (.int (0 : Int32))
set_option maxRecDepth 65536 in
set_option maxHeartbeats 40000000 in
theorem rm_endArray (l : Launch) (Z : State) (a0 : Array Value) (hw : ∀ d ∈ tables_1, d.before a0 Z = true) (r0 : Addr) (o : Addr) (t : Addr) (kt : ClassId) (cs : List Value) (cn : Int32) (cs' : List Value) (cn' : Int32) (zCS : Int32) (wSF : Value) (h0 : Heap) (n0 : Nat) (Z0 : n0 ≤ h0.size) (E_r0 : Exa Z h0 r0 "org/allonym/cli/JsonWriter") (F_json_r0 : Fld Z h0 r0 "org/allonym/cli/JsonWriter" "json" "Ljava/lang/StringBuilder;" (.ref o)) (E_o : Exa Z h0 o "java/lang/StringBuilder") (F_value_o : Fld Z h0 o "java/lang/AbstractStringBuilder" "value" "[B" (.ref t)) (F_coder_o : Fld Z h0 o "java/lang/AbstractStringBuilder" "coder" "B" (.int (0 : Int32))) (F_count_o : Fld Z h0 o "java/lang/AbstractStringBuilder" "count" "I" (.int cn)) (V_t : Arv Z h0 t kt .byte (1024 : Int32) cs (.int (0 : Int32))) (S_COMPACT_STRINGS : Sta Z h0 "java/lang/String" "COMPACT_STRINGS" "Z" (.int zCS)) (hCS : ¬ zCS = 0) (S_SIOOBE_FORMATTER : Sta Z h0 "jdk/internal/util/Preconditions" "SIOOBE_FORMATTER" "Ljava/util/function/BiFunction;" wSF) (hSF : wSF.isRef = true) (hcn : cn.toInt = cs.length ∧ cn.toInt + 32 ≤ 1024) (g_o : n0 ≤ o) (g_t : n0 ≤ t) (ne_0o : r0 ≠ o) (ne_0t : r0 ≠ t) (ne_ot : o ≠ t) (hcs' : cs' = cs ++ [.int (93 : Int32)]) (hcn' : cn' = cn + 1) :
    Ctr l Z (⟨"org/allonym/cli/JsonWriter", "endArray", "()Lorg/allonym/cli/JsonWriter;"⟩ : MethodName) prog_10_method_5_code 1 (some (.object "org/allonym/cli/JsonWriter")) ({ frames := 3, cells := 0, slots := 0, locals := 40 } : Room) #[(.ref r0)] h0 (Q_rm_endArray Z r0 o t kt cs cn cs' cn' zCS wSF h0 n0) := by
  refine Ctr.body (fr := fun m => mkF m 0 #[.val (.ref r0)] []) (plainFor_of_name pn_org_allonym_cli_JsonWriter) (fun m => by first | (simp [entryFrame, mkF, argsToLocals, Value.category]; done) | rfl) fun p e s m below meth c s₁ hx hby hml hZ hown hnm hret hlk X0 e0 => ?_
  have N0 := Fr.nil n0
  have hown : s.vm.findClass "org/allonym/cli/JsonWriter" = some m.cls := hown
  have KC : Keep h0 h0 [o, t] := Keep.refl _ _
  show W p e below _ (s₁.setTop (mkF m 0 #[.val (.ref r0)] []))
  refine W.go (fun _ hr => XS.aloadN X0.here hx rfl (hb hby d5_0) rfl rfl hr) ?_
  show W p e below _ (s₁.setTop (mkF m 1 #[.val (.ref r0)] [(.ref r0)]))
  obtain ⟨T1, X1, e1, st1⟩ := getF X0 hx hZ hown (host := "") (Or.inl (hw _ (List.mem_of_getElem? (i := 29) rfl))) Via.refl e0 F_json_r0 (g := (mkF m 1 #[.val (.ref r0)] [(.ref r0)])) rfl rfl (hb hby d5_1)
  refine W.go st1 ?_
  show W p e below _ (T1.setTop (mkF m 4 #[.val (.ref r0)] [(.ref o)]))
  refine W.go (fun _ hr => XS.bipush X1.here hx rfl (hb hby d5_4) hr) ?_
  show W p e below _ (T1.setTop (mkF m 6 #[.val (.ref r0)] [(.int (93 : Int32)), (.ref o)]))
  refine W.callV X1 hx hZ hown (g := (mkF m 6 #[.val (.ref r0)] [(.int (93 : Int32)), (.ref o)])) (by rw [hml]; rfl) (hw _ (List.mem_of_getElem? (i := 43) rfl)) (hw _ (List.mem_of_getElem? (i := 44) rfl)) (hw _ (List.mem_of_getElem? (i := 46) rfl)) (hw _ (List.mem_of_getElem? (i := 45) rfl)) (hw _ (List.mem_of_getElem? (i := 11) rfl)) (hw _ (List.mem_of_getElem? (i := 47) rfl)) e1 (rm6 l Z a0 hw o (93 : Int32) t kt cs cn zCS (93 : Int32) cs' cn' h0 n0 Z0 E_o F_value_o F_coder_o F_count_o V_t S_COMPACT_STRINGS hCS ⟨hcn.1, by omega⟩ g_o g_t ne_ot (by decide) (by decide) hcs' hcn') (notFace_of_selects (args := #[]) (mvT hZ (hw _ (List.mem_of_getElem? (i := 46) rfl)))) (by decide) pd_403 rfl E_o (argsL := [(.int (93 : Int32))]) (rest := []) rfl rfl rfl (hb hby d5_6) (W0 := 0) rfl (by decide) (by decide) (by decide) (by decide) (fun v2 T2 h2 L2 X2 e2 hQ2 => ?_)
  obtain ⟨rfl, N2q, K2, Ee2, Fv2, Fc2, Fn2, V2⟩ := hQ2
  have N2 := Fr.app N0 N2q
  have nsK2 := (nsS E_o.nostat (nsS V_t.nostat ns0))
  replace S_COMPACT_STRINGS := Sta.keep S_COMPACT_STRINGS K2 nsK2
  replace S_SIOOBE_FORMATTER := Sta.keep S_SIOOBE_FORMATTER K2 nsK2
  replace E_r0 := E_r0.keep K2
  replace F_json_r0 := F_json_r0.keep K2 (ninS ne_0o (ninS ne_0t nin0))
  replace E_o := E_o.keep K2
  have Z3 : n0 ≤ h2.size := Nat.le_trans Z0 K2.1
  replace KC := KC.trans K2 (allS (Or.inl (List.mem_of_getElem? (i := 0) rfl)) (allS (Or.inl (List.mem_of_getElem? (i := 1) rfl)) all0))
  show W p e below _ (T2.setTop (mkF m 9 #[.val (.ref r0)] [(.ref o)]))
  refine W.go (fun _ hr => XS.pop X2.here hx rfl (hb hby d5_9) rfl rfl hr) ?_
  show W p e below _ (T2.setTop (mkF m 10 #[.val (.ref r0)] []))
  refine W.go (fun _ hr => XS.aloadN X2.here hx rfl (hb hby d5_10) rfl rfl hr) ?_
  show W p e below _ (T2.setTop (mkF m 11 #[.val (.ref r0)] [(.ref r0)]))
  exact W.retA X2 hx hlk hret rfl rfl (hb hby d5_11) (by decide) (by decide) e2 ⟨rfl, N2, KC, E_o, Fv2, Fc2, Fn2, V2⟩
theorem d11_0 : decode prog_10_method_12_code 0 = .ok (.aload_n 0, 1) := by decide +kernel
theorem d11_1 : decode prog_10_method_12_code 1 = .ok (.getfield 14, 3) := by decide +kernel
theorem d11_4 : decode prog_10_method_12_code 4 = .ok (.invokevirtual 69, 3) := by decide +kernel
theorem pd_425 : parseMethodDescriptor "()Ljava/lang/String;" = some ⟨[], some (.object "java/lang/String")⟩ := by decide +kernel
theorem d11_7 : decode prog_10_method_12_code 7 = .ok (.areturn, 1) := by decide +kernel
def Q_rm11 (Z : State) (r0 : Addr) (o : Addr) (t : Addr) (kt : ClassId) (cs : List Value) (cn : Int32) (zCS : Int32) (h0 : Heap) (n0 : Nat) (v : Option Value) (h : Heap) (L : List Loc) : Prop := ∃ (o' b : Addr) (kb : ClassId), v = some (.ref o') ∧ Fr n0 L ∧ Keep h0 h [] ∧ h0.size ≤ o' ∧ h0.size ≤ b ∧ o' ≠ b ∧ Exa Z h o' "java/lang/String" ∧ Fld Z h o' "java/lang/String" "value" "[B" (.ref b) ∧ Fld Z h o' "java/lang/String" "coder" "B" (.int (0 : Int32)) ∧ Exa Z h b "[B" ∧ Arv Z h b kb .byte cn cs (.int (0 : Int32))
set_option maxRecDepth 65536 in
set_option maxHeartbeats 40000000 in
theorem rm11 (l : Launch) (Z : State) (a0 : Array Value) (hw : ∀ d ∈ tables_1, d.before a0 Z = true) (r0 : Addr) (o : Addr) (t : Addr) (kt : ClassId) (cs : List Value) (cn : Int32) (zCS : Int32) (h0 : Heap) (n0 : Nat) (Z0 : n0 ≤ h0.size) (E_r0 : Exa Z h0 r0 "org/allonym/cli/JsonWriter") (F_json_r0 : Fld Z h0 r0 "org/allonym/cli/JsonWriter" "json" "Ljava/lang/StringBuilder;" (.ref o)) (E_o : Exa Z h0 o "java/lang/StringBuilder") (F_value_o : Fld Z h0 o "java/lang/AbstractStringBuilder" "value" "[B" (.ref t)) (F_coder_o : Fld Z h0 o "java/lang/AbstractStringBuilder" "coder" "B" (.int (0 : Int32))) (F_count_o : Fld Z h0 o "java/lang/AbstractStringBuilder" "count" "I" (.int cn)) (V_t : Arv Z h0 t kt .byte (1024 : Int32) cs (.int (0 : Int32))) (S_COMPACT_STRINGS : Sta Z h0 "java/lang/String" "COMPACT_STRINGS" "Z" (.int zCS)) (hCS : ¬ zCS = 0) (hcn : cn.toInt = cs.length ∧ cn.toInt ≤ 64 ∧ cn.toInt < 1024) :
    Ctr l Z (⟨"org/allonym/cli/JsonWriter", "toString", "()Ljava/lang/String;"⟩ : MethodName) prog_10_method_12_code 1 (some (.object "java/lang/String")) ({ frames := 6, cells := 2, slots := 68, locals := 113 } : Room) #[(.ref r0)] h0 (Q_rm11 Z r0 o t kt cs cn zCS h0 n0) := by
  refine Ctr.body (fr := fun m => mkF m 0 #[.val (.ref r0)] []) (plainFor_of_name pn_org_allonym_cli_JsonWriter) (fun m => by first | (simp [entryFrame, mkF, argsToLocals, Value.category]; done) | rfl) fun p e s m below meth c s₁ hx hby hml hZ hown hnm hret hlk X0 e0 => ?_
  have N0 := Fr.nil n0
  have hown : s.vm.findClass "org/allonym/cli/JsonWriter" = some m.cls := hown
  have KC : Keep h0 h0 [] := Keep.refl _ _
  show W p e below _ (s₁.setTop (mkF m 0 #[.val (.ref r0)] []))
  refine W.go (fun _ hr => XS.aloadN X0.here hx rfl (hb hby d11_0) rfl rfl hr) ?_
  show W p e below _ (s₁.setTop (mkF m 1 #[.val (.ref r0)] [(.ref r0)]))
  obtain ⟨T1, X1, e1, st1⟩ := getF X0 hx hZ hown (host := "") (Or.inl (hw _ (List.mem_of_getElem? (i := 29) rfl))) Via.refl e0 F_json_r0 (g := (mkF m 1 #[.val (.ref r0)] [(.ref r0)])) rfl rfl (hb hby d11_1)
  refine W.go st1 ?_
  show W p e below _ (T1.setTop (mkF m 4 #[.val (.ref r0)] [(.ref o)]))
  refine W.callV X1 hx hZ hown (g := (mkF m 4 #[.val (.ref r0)] [(.ref o)])) (by rw [hml]; rfl) (hw _ (List.mem_of_getElem? (i := 74) rfl)) (hw _ (List.mem_of_getElem? (i := 75) rfl)) (hw _ (List.mem_of_getElem? (i := 77) rfl)) (hw _ (List.mem_of_getElem? (i := 76) rfl)) (hw _ (List.mem_of_getElem? (i := 11) rfl)) (hw _ (List.mem_of_getElem? (i := 78) rfl)) e1 (rm12 l Z a0 hw o t kt cs cn zCS h0 n0 Z0 E_o F_value_o F_coder_o F_count_o V_t S_COMPACT_STRINGS hCS hcn) (notFace_of_selects (args := #[]) (mvT hZ (hw _ (List.mem_of_getElem? (i := 77) rfl)))) (by decide) pd_425 rfl E_o (argsL := []) (rest := []) rfl rfl rfl (hb hby d11_4) (W0 := 0) rfl (by decide) (by decide) (by decide) (by decide) (fun v2 T2 h2 L2 X2 e2 hQ2 => ?_)
  obtain ⟨o2, b2, kb2, rfl, N2q, K2, so2, sb2, nob2, E_o2, F_value_o2, F_coder_o2, E_b2, V_b2⟩ := hQ2
  have N2 := Fr.app N0 N2q
  have ne_r0_o2 : r0 ≠ o2 := Nat.ne_of_lt (Nat.lt_of_lt_of_le E_r0.lt so2)
  have ne_o_o2 : o ≠ o2 := Nat.ne_of_lt (Nat.lt_of_lt_of_le E_o.lt so2)
  have ne_t_o2 : t ≠ o2 := Nat.ne_of_lt (Nat.lt_of_lt_of_le V_t.lt so2)
  have g_o2 : n0 ≤ o2 := Nat.le_trans Z0 so2
  have sz_o2 : h0.size ≤ o2 := Nat.le_trans KC.1 so2
  have ne_r0_b2 : r0 ≠ b2 := Nat.ne_of_lt (Nat.lt_of_lt_of_le E_r0.lt sb2)
  have ne_o_b2 : o ≠ b2 := Nat.ne_of_lt (Nat.lt_of_lt_of_le E_o.lt sb2)
  have ne_t_b2 : t ≠ b2 := Nat.ne_of_lt (Nat.lt_of_lt_of_le V_t.lt sb2)
  have g_b2 : n0 ≤ b2 := Nat.le_trans Z0 sb2
  have sz_b2 : h0.size ≤ b2 := Nat.le_trans KC.1 sb2
  replace S_COMPACT_STRINGS := Sta.keep S_COMPACT_STRINGS K2 ns0
  replace E_r0 := E_r0.keep K2
  replace F_json_r0 := F_json_r0.keep K2 nin0
  replace E_o := E_o.keep K2
  replace F_value_o := F_value_o.keep K2 nin0
  replace F_coder_o := F_coder_o.keep K2 nin0
  replace F_count_o := F_count_o.keep K2 nin0
  replace V_t := V_t.keep K2 nin0
  have Z3 : n0 ≤ h2.size := Nat.le_trans Z0 K2.1
  replace KC := KC.trans K2 all0
  show W p e below _ (T2.setTop (mkF m 7 #[.val (.ref r0)] [(.ref o2)]))
  exact W.retA X2 hx hlk hret rfl rfl (hb hby d11_7) (by decide) (by decide) e2 ⟨_, _, _, rfl, N2, KC, sz_o2, sz_b2, nob2, E_o2, F_value_o2, F_coder_o2, E_b2, V_b2⟩
theorem d24_0 : decode prog_10_method_9_code 0 = .ok (.aload_n 0, 1) := by decide +kernel
theorem d24_1 : decode prog_10_method_9_code 1 = .ok (.invokevirtual 18, 3) := by decide +kernel
theorem d24_4 : decode prog_10_method_9_code 4 = .ok (.aload_n 0, 1) := by decide +kernel
theorem d24_5 : decode prog_10_method_9_code 5 = .ok (.getfield 14, 3) := by decide +kernel
theorem d24_8 : decode prog_10_method_9_code 8 = .ok (.iload_n 1, 1) := by decide +kernel
theorem d24_9 : decode prog_10_method_9_code 9 = .ok (.invokevirtual 37, 3) := by decide +kernel
theorem pd_433 : parseMethodDescriptor "(Z)Ljava/lang/StringBuilder;" = some ⟨[.boolean], some (.object "java/lang/StringBuilder")⟩ := by decide +kernel
theorem d24_12 : decode prog_10_method_9_code 12 = .ok (.pop, 1) := by decide +kernel
theorem d24_13 : decode prog_10_method_9_code 13 = .ok (.aload_n 0, 1) := by decide +kernel
theorem d24_14 : decode prog_10_method_9_code 14 = .ok (.areturn, 1) := by decide +kernel
def Q_rm_value1N (Z : State) (r0 : Addr) (o : Addr) (t : Addr) (kt : ClassId) (cs : List Value) (cn : Int32) (cs' : List Value) (cn' : Int32) (zCS : Int32) (wSF : Value) (h0 : Heap) (n0 : Nat) (v : Option Value) (h : Heap) (L : List Loc) : Prop := v = some (.ref r0) ∧ Fr n0 L ∧ Keep h0 h [o, t] ∧ Exa Z h o "java/lang/StringBuilder" ∧ Fld Z h o "java/lang/AbstractStringBuilder" "value" "[B" (.ref t) ∧ Fld Z h o "java/lang/AbstractStringBuilder" "coder" "B" (.int (0 : Int32)) ∧ Fld Z h o "java/lang/AbstractStringBuilder" "count" "I" (.int cn') ∧ Arv Z h t kt .byte (1024 : Int32) cs' (.int (0 : Int32))
set_option maxRecDepth 65536 in
set_option maxHeartbeats 40000000 in
theorem rm_value1N (l : Launch) (Z : State) (a0 : Array Value) (hw : ∀ d ∈ tables_1, d.before a0 Z = true) (r0 : Addr) (o : Addr) (t : Addr) (kt : ClassId) (cs : List Value) (cn : Int32) (cs' : List Value) (cn' : Int32) (zCS : Int32) (wSF : Value) (h0 : Heap) (n0 : Nat) (Z0 : n0 ≤ h0.size) (E_r0 : Exa Z h0 r0 "org/allonym/cli/JsonWriter") (F_json_r0 : Fld Z h0 r0 "org/allonym/cli/JsonWriter" "json" "Ljava/lang/StringBuilder;" (.ref o)) (E_o : Exa Z h0 o "java/lang/StringBuilder") (F_value_o : Fld Z h0 o "java/lang/AbstractStringBuilder" "value" "[B" (.ref t)) (F_coder_o : Fld Z h0 o "java/lang/AbstractStringBuilder" "coder" "B" (.int (0 : Int32))) (F_count_o : Fld Z h0 o "java/lang/AbstractStringBuilder" "count" "I" (.int cn)) (V_t : Arv Z h0 t kt .byte (1024 : Int32) cs (.int (0 : Int32))) (S_COMPACT_STRINGS : Sta Z h0 "java/lang/String" "COMPACT_STRINGS" "Z" (.int zCS)) (hCS : ¬ zCS = 0) (S_SIOOBE_FORMATTER : Sta Z h0 "jdk/internal/util/Preconditions" "SIOOBE_FORMATTER" "Ljava/util/function/BiFunction;" wSF) (hSF : wSF.isRef = true) (hcn : cn.toInt = cs.length ∧ cn.toInt + 32 ≤ 1024) (g_o : n0 ≤ o) (g_t : n0 ≤ t) (ne_0o : r0 ≠ o) (ne_0t : r0 ≠ t) (ne_ot : o ≠ t) (hsep : cn = 0 ∨ ∃ x : Int32, ¬ (cn - 1) < 0 ∧ (cn - 1) < cn ∧ cs.getD (cn - 1).toNatClampNeg (.int (0 : Int32)) = .int x ∧ ((x &&& 255) = 123 ∨ (x &&& 255) = 91 ∨ (x &&& 255) = 58)) (hcs' : cs' = cs ++ [.int (116 : Int32)] ++ [.int (114 : Int32)] ++ [.int (117 : Int32)] ++ [.int (101 : Int32)]) (hcn' : cn' = cn + 1 + 1 + 1 + 1) :
    Ctr l Z (⟨"org/allonym/cli/JsonWriter", "value", "(Z)Lorg/allonym/cli/JsonWriter;"⟩ : MethodName) prog_10_method_9_code 2 (some (.object "org/allonym/cli/JsonWriter")) ({ frames := 5, cells := 0, slots := 0, locals := 69 } : Room) #[(.ref r0), (.int (1 : Int32))] h0 (Q_rm_value1N Z r0 o t kt cs cn cs' cn' zCS wSF h0 n0) := by
  refine Ctr.body (fr := fun m => mkF m 0 #[.val (.ref r0), .val (.int (1 : Int32))] []) (plainFor_of_name pn_org_allonym_cli_JsonWriter) (fun m => by first | (simp [entryFrame, mkF, argsToLocals, Value.category]; done) | rfl) fun p e s m below meth c s₁ hx hby hml hZ hown hnm hret hlk X0 e0 => ?_
  have N0 := Fr.nil n0
  have hown : s.vm.findClass "org/allonym/cli/JsonWriter" = some m.cls := hown
  have KC : Keep h0 h0 [o, t] := Keep.refl _ _
  show W p e below _ (s₁.setTop (mkF m 0 #[.val (.ref r0), .val (.int (1 : Int32))] []))
  refine W.go (fun _ hr => XS.aloadN X0.here hx rfl (hb hby d24_0) rfl rfl hr) ?_
  show W p e below _ (s₁.setTop (mkF m 1 #[.val (.ref r0), .val (.int (1 : Int32))] [(.ref r0)]))
  refine W.callP X0 hx hZ hown (g := (mkF m 1 #[.val (.ref r0), .val (.int (1 : Int32))] [(.ref r0)])) (by rw [hml]; rfl) (hw _ (List.mem_of_getElem? (i := 137) rfl)) (hw _ (List.mem_of_getElem? (i := 139) rfl)) (selPriv hZ (hw _ (List.mem_of_getElem? (i := 1) rfl)) (hw _ (List.mem_of_getElem? (i := 139) rfl)) (hw _ (List.mem_of_getElem? (i := 138) rfl)) (by decide)) (hw _ (List.mem_of_getElem? (i := 138) rfl)) (hw _ (List.mem_of_getElem? (i := 2) rfl)) (hw _ (List.mem_of_getElem? (i := 140) rfl)) e0 (rmSepN l Z a0 hw r0 o t kt cs cn zCS wSF h0 n0 Z0 E_r0 F_json_r0 E_o F_value_o F_coder_o F_count_o V_t S_COMPACT_STRINGS hCS S_SIOOBE_FORMATTER hSF ⟨hcn.1, by omega⟩ hsep) (by decide) pd_407 rfl E_r0 (argsL := []) (rest := []) rfl rfl rfl (hb hby d24_1) (W0 := 0) rfl (by decide) (by decide) (by decide) (by decide) (fun v1 T1 h1 L1 X1 e1 hQ1 => ?_)
  obtain ⟨rfl, N1q, hh1⟩ := hQ1
  obtain rfl := hh1.symm
  have N1 := Fr.app N0 N1q
  show W p e below _ (T1.setTop (mkF m 4 #[.val (.ref r0), .val (.int (1 : Int32))] []))
  refine W.go (fun _ hr => XS.aloadN X1.here hx rfl (hb hby d24_4) rfl rfl hr) ?_
  show W p e below _ (T1.setTop (mkF m 5 #[.val (.ref r0), .val (.int (1 : Int32))] [(.ref r0)]))
  obtain ⟨T2, X2, e2, st2⟩ := getF X1 hx hZ hown (host := "") (Or.inl (hw _ (List.mem_of_getElem? (i := 29) rfl))) Via.refl e1 F_json_r0 (g := (mkF m 5 #[.val (.ref r0), .val (.int (1 : Int32))] [(.ref r0)])) rfl rfl (hb hby d24_5)
  refine W.go st2 ?_
  show W p e below _ (T2.setTop (mkF m 8 #[.val (.ref r0), .val (.int (1 : Int32))] [(.ref o)]))
  refine W.go (fun _ hr => XS.iloadN X2.here hx rfl (hb hby d24_8) rfl hr) ?_
  show W p e below _ (T2.setTop (mkF m 9 #[.val (.ref r0), .val (.int (1 : Int32))] [(.int (1 : Int32)), (.ref o)]))
  refine W.callV X2 hx hZ hown (g := (mkF m 9 #[.val (.ref r0), .val (.int (1 : Int32))] [(.int (1 : Int32)), (.ref o)])) (by rw [hml]; rfl) (hw _ (List.mem_of_getElem? (i := 177) rfl)) (hw _ (List.mem_of_getElem? (i := 178) rfl)) (hw _ (List.mem_of_getElem? (i := 180) rfl)) (hw _ (List.mem_of_getElem? (i := 179) rfl)) (hw _ (List.mem_of_getElem? (i := 11) rfl)) (hw _ (List.mem_of_getElem? (i := 181) rfl)) e2 (rmZ1 l Z a0 hw o t kt cs cn zCS cs' cn' h0 n0 Z0 E_o F_value_o F_coder_o F_count_o V_t S_COMPACT_STRINGS hCS ⟨hcn.1, by omega⟩ g_o g_t ne_ot hcs' hcn') (notFace_of_selects (args := #[]) (mvT hZ (hw _ (List.mem_of_getElem? (i := 180) rfl)))) (by decide) pd_433 rfl E_o (argsL := [(.int (1 : Int32))]) (rest := []) rfl rfl rfl (hb hby d24_9) (W0 := 0) rfl (by decide) (by decide) (by decide) (by decide) (fun v3 T3 h3 L3 X3 e3 hQ3 => ?_)
  obtain ⟨rfl, N3q, K3, Ee3, Fv3, Fc3, Fn3, V3⟩ := hQ3
  have N3 := Fr.app N1 N3q
  have nsK3 := (nsS E_o.nostat (nsS V_t.nostat ns0))
  replace S_COMPACT_STRINGS := Sta.keep S_COMPACT_STRINGS K3 nsK3
  replace S_SIOOBE_FORMATTER := Sta.keep S_SIOOBE_FORMATTER K3 nsK3
  replace E_r0 := E_r0.keep K3
  replace F_json_r0 := F_json_r0.keep K3 (ninS ne_0o (ninS ne_0t nin0))
  replace E_o := E_o.keep K3
  have Z4 : n0 ≤ h3.size := Nat.le_trans Z0 K3.1
  replace KC := KC.trans K3 (allS (Or.inl (List.mem_of_getElem? (i := 0) rfl)) (allS (Or.inl (List.mem_of_getElem? (i := 1) rfl)) all0))
  show W p e below _ (T3.setTop (mkF m 12 #[.val (.ref r0), .val (.int (1 : Int32))] [(.ref o)]))
  refine W.go (fun _ hr => XS.pop X3.here hx rfl (hb hby d24_12) rfl rfl hr) ?_
  show W p e below _ (T3.setTop (mkF m 13 #[.val (.ref r0), .val (.int (1 : Int32))] []))
  refine W.go (fun _ hr => XS.aloadN X3.here hx rfl (hb hby d24_13) rfl rfl hr) ?_
  show W p e below _ (T3.setTop (mkF m 14 #[.val (.ref r0), .val (.int (1 : Int32))] [(.ref r0)]))
  exact W.retA X3 hx hlk hret rfl rfl (hb hby d24_14) (by decide) (by decide) e3 ⟨rfl, N3, KC, E_o, Fv3, Fc3, Fn3, V3⟩
def Q_rm_value1Y (Z : State) (r0 : Addr) (o : Addr) (t : Addr) (kt : ClassId) (cs : List Value) (cn : Int32) (x : Int32) (cs' : List Value) (cn' : Int32) (zCS : Int32) (wSF : Value) (h0 : Heap) (n0 : Nat) (v : Option Value) (h : Heap) (L : List Loc) : Prop := v = some (.ref r0) ∧ Fr n0 L ∧ Keep h0 h [o, t] ∧ Exa Z h o "java/lang/StringBuilder" ∧ Fld Z h o "java/lang/AbstractStringBuilder" "value" "[B" (.ref t) ∧ Fld Z h o "java/lang/AbstractStringBuilder" "coder" "B" (.int (0 : Int32)) ∧ Fld Z h o "java/lang/AbstractStringBuilder" "count" "I" (.int cn') ∧ Arv Z h t kt .byte (1024 : Int32) cs' (.int (0 : Int32))
set_option maxRecDepth 65536 in
set_option maxHeartbeats 40000000 in
theorem rm_value1Y (l : Launch) (Z : State) (a0 : Array Value) (hw : ∀ d ∈ tables_1, d.before a0 Z = true) (r0 : Addr) (o : Addr) (t : Addr) (kt : ClassId) (cs : List Value) (cn : Int32) (x : Int32) (cs' : List Value) (cn' : Int32) (zCS : Int32) (wSF : Value) (h0 : Heap) (n0 : Nat) (Z0 : n0 ≤ h0.size) (E_r0 : Exa Z h0 r0 "org/allonym/cli/JsonWriter") (F_json_r0 : Fld Z h0 r0 "org/allonym/cli/JsonWriter" "json" "Ljava/lang/StringBuilder;" (.ref o)) (E_o : Exa Z h0 o "java/lang/StringBuilder") (F_value_o : Fld Z h0 o "java/lang/AbstractStringBuilder" "value" "[B" (.ref t)) (F_coder_o : Fld Z h0 o "java/lang/AbstractStringBuilder" "coder" "B" (.int (0 : Int32))) (F_count_o : Fld Z h0 o "java/lang/AbstractStringBuilder" "count" "I" (.int cn)) (V_t : Arv Z h0 t kt .byte (1024 : Int32) cs (.int (0 : Int32))) (S_COMPACT_STRINGS : Sta Z h0 "java/lang/String" "COMPACT_STRINGS" "Z" (.int zCS)) (hCS : ¬ zCS = 0) (S_SIOOBE_FORMATTER : Sta Z h0 "jdk/internal/util/Preconditions" "SIOOBE_FORMATTER" "Ljava/util/function/BiFunction;" wSF) (hSF : wSF.isRef = true) (hcn : cn.toInt = cs.length ∧ cn.toInt + 32 ≤ 1024) (g_o : n0 ≤ o) (g_t : n0 ≤ t) (ne_0o : r0 ≠ o) (ne_0t : r0 ≠ t) (ne_ot : o ≠ t) (hsep : ¬ cn = 0 ∧ ¬ (cn - 1) < 0 ∧ (cn - 1) < cn ∧ cs.getD (cn - 1).toNatClampNeg (.int (0 : Int32)) = .int x ∧ ¬ (x &&& 255) = 123 ∧ ¬ (x &&& 255) = 91 ∧ ¬ (x &&& 255) = 58) (hcs' : cs' = cs ++ [.int (44 : Int32)] ++ [.int (116 : Int32)] ++ [.int (114 : Int32)] ++ [.int (117 : Int32)] ++ [.int (101 : Int32)]) (hcn' : cn' = cn + 1 + 1 + 1 + 1 + 1) :
    Ctr l Z (⟨"org/allonym/cli/JsonWriter", "value", "(Z)Lorg/allonym/cli/JsonWriter;"⟩ : MethodName) prog_10_method_9_code 2 (some (.object "org/allonym/cli/JsonWriter")) ({ frames := 5, cells := 0, slots := 0, locals := 69 } : Room) #[(.ref r0), (.int (1 : Int32))] h0 (Q_rm_value1Y Z r0 o t kt cs cn x cs' cn' zCS wSF h0 n0) := by
  refine Ctr.body (fr := fun m => mkF m 0 #[.val (.ref r0), .val (.int (1 : Int32))] []) (plainFor_of_name pn_org_allonym_cli_JsonWriter) (fun m => by first | (simp [entryFrame, mkF, argsToLocals, Value.category]; done) | rfl) fun p e s m below meth c s₁ hx hby hml hZ hown hnm hret hlk X0 e0 => ?_
  have N0 := Fr.nil n0
  have hown : s.vm.findClass "org/allonym/cli/JsonWriter" = some m.cls := hown
  have KC : Keep h0 h0 [o, t] := Keep.refl _ _
  show W p e below _ (s₁.setTop (mkF m 0 #[.val (.ref r0), .val (.int (1 : Int32))] []))
  refine W.go (fun _ hr => XS.aloadN X0.here hx rfl (hb hby d24_0) rfl rfl hr) ?_
  show W p e below _ (s₁.setTop (mkF m 1 #[.val (.ref r0), .val (.int (1 : Int32))] [(.ref r0)]))
  refine W.callP X0 hx hZ hown (g := (mkF m 1 #[.val (.ref r0), .val (.int (1 : Int32))] [(.ref r0)])) (by rw [hml]; rfl) (hw _ (List.mem_of_getElem? (i := 137) rfl)) (hw _ (List.mem_of_getElem? (i := 139) rfl)) (selPriv hZ (hw _ (List.mem_of_getElem? (i := 1) rfl)) (hw _ (List.mem_of_getElem? (i := 139) rfl)) (hw _ (List.mem_of_getElem? (i := 138) rfl)) (by decide)) (hw _ (List.mem_of_getElem? (i := 138) rfl)) (hw _ (List.mem_of_getElem? (i := 2) rfl)) (hw _ (List.mem_of_getElem? (i := 140) rfl)) e0 (rmSepY l Z a0 hw r0 o t kt cs cn x (cs ++ [.int (44 : Int32)]) (cn + 1) zCS wSF h0 n0 Z0 E_r0 F_json_r0 E_o F_value_o F_coder_o F_count_o V_t S_COMPACT_STRINGS hCS S_SIOOBE_FORMATTER hSF ⟨hcn.1, by omega⟩ g_o g_t ne_0o ne_0t ne_ot hsep rfl rfl) (by decide) pd_407 rfl E_r0 (argsL := []) (rest := []) rfl rfl rfl (hb hby d24_1) (W0 := 0) rfl (by decide) (by decide) (by decide) (by decide) (fun v1 T1 h1 L1 X1 e1 hQ1 => ?_)
  obtain ⟨rfl, N1q, K1, Eo1, Fv1, Fc1, Fn1, V1⟩ := hQ1
  have N1 := Fr.app N0 N1q
  have nsK1 := (nsS E_o.nostat (nsS V_t.nostat ns0))
  replace S_COMPACT_STRINGS := Sta.keep S_COMPACT_STRINGS K1 nsK1
  replace S_SIOOBE_FORMATTER := Sta.keep S_SIOOBE_FORMATTER K1 nsK1
  replace E_r0 := E_r0.keep K1
  replace F_json_r0 := F_json_r0.keep K1 (ninS ne_0o (ninS ne_0t nin0))
  replace E_o := E_o.keep K1
  have Z2 : n0 ≤ h1.size := Nat.le_trans Z0 K1.1
  replace KC := KC.trans K1 (allS (Or.inl (List.mem_of_getElem? (i := 0) rfl)) (allS (Or.inl (List.mem_of_getElem? (i := 1) rfl)) all0))
  show W p e below _ (T1.setTop (mkF m 4 #[.val (.ref r0), .val (.int (1 : Int32))] []))
  have hcn2 := own_len (v := (.int (44 : Int32))) hcn.1 (by omega)
  have hcn3 := hcn2
  rw [List.length_append, List.length_singleton] at hcn3
  refine W.go (fun _ hr => XS.aloadN X1.here hx rfl (hb hby d24_4) rfl rfl hr) ?_
  show W p e below _ (T1.setTop (mkF m 5 #[.val (.ref r0), .val (.int (1 : Int32))] [(.ref r0)]))
  obtain ⟨T3, X3, e3, st3⟩ := getF X1 hx hZ hown (host := "") (Or.inl (hw _ (List.mem_of_getElem? (i := 29) rfl))) Via.refl e1 F_json_r0 (g := (mkF m 5 #[.val (.ref r0), .val (.int (1 : Int32))] [(.ref r0)])) rfl rfl (hb hby d24_5)
  refine W.go st3 ?_
  show W p e below _ (T3.setTop (mkF m 8 #[.val (.ref r0), .val (.int (1 : Int32))] [(.ref o)]))
  refine W.go (fun _ hr => XS.iloadN X3.here hx rfl (hb hby d24_8) rfl hr) ?_
  show W p e below _ (T3.setTop (mkF m 9 #[.val (.ref r0), .val (.int (1 : Int32))] [(.int (1 : Int32)), (.ref o)]))
  refine W.callV X3 hx hZ hown (g := (mkF m 9 #[.val (.ref r0), .val (.int (1 : Int32))] [(.int (1 : Int32)), (.ref o)])) (by rw [hml]; rfl) (hw _ (List.mem_of_getElem? (i := 177) rfl)) (hw _ (List.mem_of_getElem? (i := 178) rfl)) (hw _ (List.mem_of_getElem? (i := 180) rfl)) (hw _ (List.mem_of_getElem? (i := 179) rfl)) (hw _ (List.mem_of_getElem? (i := 11) rfl)) (hw _ (List.mem_of_getElem? (i := 181) rfl)) e3 (rmZ1 l Z a0 hw o t kt (cs ++ [.int (44 : Int32)]) (cn + 1) zCS cs' cn' h1 n0 Z2 E_o Fv1 Fc1 Fn1 V1 S_COMPACT_STRINGS hCS ⟨hcn2, by omega⟩ g_o g_t ne_ot hcs' hcn') (notFace_of_selects (args := #[]) (mvT hZ (hw _ (List.mem_of_getElem? (i := 180) rfl)))) (by decide) pd_433 rfl E_o (argsL := [(.int (1 : Int32))]) (rest := []) rfl rfl rfl (hb hby d24_9) (W0 := 0) rfl (by decide) (by decide) (by decide) (by decide) (fun v4 T4 h4 L4 X4 e4 hQ4 => ?_)
  obtain ⟨rfl, N4q, K4, Ee4, Fv4, Fc4, Fn4, V4⟩ := hQ4
  have N4 := Fr.app N1 N4q
  have nsK4 := (nsS E_o.nostat (nsS V1.nostat ns0))
  replace S_COMPACT_STRINGS := Sta.keep S_COMPACT_STRINGS K4 nsK4
  replace S_SIOOBE_FORMATTER := Sta.keep S_SIOOBE_FORMATTER K4 nsK4
  replace E_r0 := E_r0.keep K4
  replace F_json_r0 := F_json_r0.keep K4 (ninS ne_0o (ninS ne_0t nin0))
  replace E_o := E_o.keep K4
  have Z5 : n0 ≤ h4.size := Nat.le_trans Z2 K4.1
  replace KC := KC.trans K4 (allS (Or.inl (List.mem_of_getElem? (i := 0) rfl)) (allS (Or.inl (List.mem_of_getElem? (i := 1) rfl)) all0))
  show W p e below _ (T4.setTop (mkF m 12 #[.val (.ref r0), .val (.int (1 : Int32))] [(.ref o)]))
  refine W.go (fun _ hr => XS.pop X4.here hx rfl (hb hby d24_12) rfl rfl hr) ?_
  show W p e below _ (T4.setTop (mkF m 13 #[.val (.ref r0), .val (.int (1 : Int32))] []))
  refine W.go (fun _ hr => XS.aloadN X4.here hx rfl (hb hby d24_13) rfl rfl hr) ?_
  show W p e below _ (T4.setTop (mkF m 14 #[.val (.ref r0), .val (.int (1 : Int32))] [(.ref r0)]))
  exact W.retA X4 hx hlk hret rfl rfl (hb hby d24_14) (by decide) (by decide) e4 ⟨rfl, N4, KC, E_o, Fv4, Fc4, Fn4, V4⟩
def Q_rm_value0N (Z : State) (r0 : Addr) (o : Addr) (t : Addr) (kt : ClassId) (cs : List Value) (cn : Int32) (cs' : List Value) (cn' : Int32) (zCS : Int32) (wSF : Value) (h0 : Heap) (n0 : Nat) (v : Option Value) (h : Heap) (L : List Loc) : Prop := v = some (.ref r0) ∧ Fr n0 L ∧ Keep h0 h [o, t] ∧ Exa Z h o "java/lang/StringBuilder" ∧ Fld Z h o "java/lang/AbstractStringBuilder" "value" "[B" (.ref t) ∧ Fld Z h o "java/lang/AbstractStringBuilder" "coder" "B" (.int (0 : Int32)) ∧ Fld Z h o "java/lang/AbstractStringBuilder" "count" "I" (.int cn') ∧ Arv Z h t kt .byte (1024 : Int32) cs' (.int (0 : Int32))
set_option maxRecDepth 65536 in
set_option maxHeartbeats 40000000 in
theorem rm_value0N (l : Launch) (Z : State) (a0 : Array Value) (hw : ∀ d ∈ tables_1, d.before a0 Z = true) (r0 : Addr) (o : Addr) (t : Addr) (kt : ClassId) (cs : List Value) (cn : Int32) (cs' : List Value) (cn' : Int32) (zCS : Int32) (wSF : Value) (h0 : Heap) (n0 : Nat) (Z0 : n0 ≤ h0.size) (E_r0 : Exa Z h0 r0 "org/allonym/cli/JsonWriter") (F_json_r0 : Fld Z h0 r0 "org/allonym/cli/JsonWriter" "json" "Ljava/lang/StringBuilder;" (.ref o)) (E_o : Exa Z h0 o "java/lang/StringBuilder") (F_value_o : Fld Z h0 o "java/lang/AbstractStringBuilder" "value" "[B" (.ref t)) (F_coder_o : Fld Z h0 o "java/lang/AbstractStringBuilder" "coder" "B" (.int (0 : Int32))) (F_count_o : Fld Z h0 o "java/lang/AbstractStringBuilder" "count" "I" (.int cn)) (V_t : Arv Z h0 t kt .byte (1024 : Int32) cs (.int (0 : Int32))) (S_COMPACT_STRINGS : Sta Z h0 "java/lang/String" "COMPACT_STRINGS" "Z" (.int zCS)) (hCS : ¬ zCS = 0) (S_SIOOBE_FORMATTER : Sta Z h0 "jdk/internal/util/Preconditions" "SIOOBE_FORMATTER" "Ljava/util/function/BiFunction;" wSF) (hSF : wSF.isRef = true) (hcn : cn.toInt = cs.length ∧ cn.toInt + 32 ≤ 1024) (g_o : n0 ≤ o) (g_t : n0 ≤ t) (ne_0o : r0 ≠ o) (ne_0t : r0 ≠ t) (ne_ot : o ≠ t) (hsep : cn = 0 ∨ ∃ x : Int32, ¬ (cn - 1) < 0 ∧ (cn - 1) < cn ∧ cs.getD (cn - 1).toNatClampNeg (.int (0 : Int32)) = .int x ∧ ((x &&& 255) = 123 ∨ (x &&& 255) = 91 ∨ (x &&& 255) = 58)) (hcs' : cs' = cs ++ [.int (102 : Int32)] ++ [.int (97 : Int32)] ++ [.int (108 : Int32)] ++ [.int (115 : Int32)] ++ [.int (101 : Int32)]) (hcn' : cn' = cn + 1 + 1 + 1 + 1 + 1) :
    Ctr l Z (⟨"org/allonym/cli/JsonWriter", "value", "(Z)Lorg/allonym/cli/JsonWriter;"⟩ : MethodName) prog_10_method_9_code 2 (some (.object "org/allonym/cli/JsonWriter")) ({ frames := 5, cells := 0, slots := 0, locals := 69 } : Room) #[(.ref r0), (.int (0 : Int32))] h0 (Q_rm_value0N Z r0 o t kt cs cn cs' cn' zCS wSF h0 n0) := by
  refine Ctr.body (fr := fun m => mkF m 0 #[.val (.ref r0), .val (.int (0 : Int32))] []) (plainFor_of_name pn_org_allonym_cli_JsonWriter) (fun m => by first | (simp [entryFrame, mkF, argsToLocals, Value.category]; done) | rfl) fun p e s m below meth c s₁ hx hby hml hZ hown hnm hret hlk X0 e0 => ?_
  have N0 := Fr.nil n0
  have hown : s.vm.findClass "org/allonym/cli/JsonWriter" = some m.cls := hown
  have KC : Keep h0 h0 [o, t] := Keep.refl _ _
  show W p e below _ (s₁.setTop (mkF m 0 #[.val (.ref r0), .val (.int (0 : Int32))] []))
  refine W.go (fun _ hr => XS.aloadN X0.here hx rfl (hb hby d24_0) rfl rfl hr) ?_
  show W p e below _ (s₁.setTop (mkF m 1 #[.val (.ref r0), .val (.int (0 : Int32))] [(.ref r0)]))
  refine W.callP X0 hx hZ hown (g := (mkF m 1 #[.val (.ref r0), .val (.int (0 : Int32))] [(.ref r0)])) (by rw [hml]; rfl) (hw _ (List.mem_of_getElem? (i := 137) rfl)) (hw _ (List.mem_of_getElem? (i := 139) rfl)) (selPriv hZ (hw _ (List.mem_of_getElem? (i := 1) rfl)) (hw _ (List.mem_of_getElem? (i := 139) rfl)) (hw _ (List.mem_of_getElem? (i := 138) rfl)) (by decide)) (hw _ (List.mem_of_getElem? (i := 138) rfl)) (hw _ (List.mem_of_getElem? (i := 2) rfl)) (hw _ (List.mem_of_getElem? (i := 140) rfl)) e0 (rmSepN l Z a0 hw r0 o t kt cs cn zCS wSF h0 n0 Z0 E_r0 F_json_r0 E_o F_value_o F_coder_o F_count_o V_t S_COMPACT_STRINGS hCS S_SIOOBE_FORMATTER hSF ⟨hcn.1, by omega⟩ hsep) (by decide) pd_407 rfl E_r0 (argsL := []) (rest := []) rfl rfl rfl (hb hby d24_1) (W0 := 0) rfl (by decide) (by decide) (by decide) (by decide) (fun v1 T1 h1 L1 X1 e1 hQ1 => ?_)
  obtain ⟨rfl, N1q, hh1⟩ := hQ1
  obtain rfl := hh1.symm
  have N1 := Fr.app N0 N1q
  show W p e below _ (T1.setTop (mkF m 4 #[.val (.ref r0), .val (.int (0 : Int32))] []))
  refine W.go (fun _ hr => XS.aloadN X1.here hx rfl (hb hby d24_4) rfl rfl hr) ?_
  show W p e below _ (T1.setTop (mkF m 5 #[.val (.ref r0), .val (.int (0 : Int32))] [(.ref r0)]))
  obtain ⟨T2, X2, e2, st2⟩ := getF X1 hx hZ hown (host := "") (Or.inl (hw _ (List.mem_of_getElem? (i := 29) rfl))) Via.refl e1 F_json_r0 (g := (mkF m 5 #[.val (.ref r0), .val (.int (0 : Int32))] [(.ref r0)])) rfl rfl (hb hby d24_5)
  refine W.go st2 ?_
  show W p e below _ (T2.setTop (mkF m 8 #[.val (.ref r0), .val (.int (0 : Int32))] [(.ref o)]))
  refine W.go (fun _ hr => XS.iloadN X2.here hx rfl (hb hby d24_8) rfl hr) ?_
  show W p e below _ (T2.setTop (mkF m 9 #[.val (.ref r0), .val (.int (0 : Int32))] [(.int (0 : Int32)), (.ref o)]))
  refine W.callV X2 hx hZ hown (g := (mkF m 9 #[.val (.ref r0), .val (.int (0 : Int32))] [(.int (0 : Int32)), (.ref o)])) (by rw [hml]; rfl) (hw _ (List.mem_of_getElem? (i := 177) rfl)) (hw _ (List.mem_of_getElem? (i := 178) rfl)) (hw _ (List.mem_of_getElem? (i := 180) rfl)) (hw _ (List.mem_of_getElem? (i := 179) rfl)) (hw _ (List.mem_of_getElem? (i := 11) rfl)) (hw _ (List.mem_of_getElem? (i := 181) rfl)) e2 (rmZ0 l Z a0 hw o t kt cs cn zCS cs' cn' h0 n0 Z0 E_o F_value_o F_coder_o F_count_o V_t S_COMPACT_STRINGS hCS ⟨hcn.1, by omega⟩ g_o g_t ne_ot hcs' hcn') (notFace_of_selects (args := #[]) (mvT hZ (hw _ (List.mem_of_getElem? (i := 180) rfl)))) (by decide) pd_433 rfl E_o (argsL := [(.int (0 : Int32))]) (rest := []) rfl rfl rfl (hb hby d24_9) (W0 := 0) rfl (by decide) (by decide) (by decide) (by decide) (fun v3 T3 h3 L3 X3 e3 hQ3 => ?_)
  obtain ⟨rfl, N3q, K3, Ee3, Fv3, Fc3, Fn3, V3⟩ := hQ3
  have N3 := Fr.app N1 N3q
  have nsK3 := (nsS E_o.nostat (nsS V_t.nostat ns0))
  replace S_COMPACT_STRINGS := Sta.keep S_COMPACT_STRINGS K3 nsK3
  replace S_SIOOBE_FORMATTER := Sta.keep S_SIOOBE_FORMATTER K3 nsK3
  replace E_r0 := E_r0.keep K3
  replace F_json_r0 := F_json_r0.keep K3 (ninS ne_0o (ninS ne_0t nin0))
  replace E_o := E_o.keep K3
  have Z4 : n0 ≤ h3.size := Nat.le_trans Z0 K3.1
  replace KC := KC.trans K3 (allS (Or.inl (List.mem_of_getElem? (i := 0) rfl)) (allS (Or.inl (List.mem_of_getElem? (i := 1) rfl)) all0))
  show W p e below _ (T3.setTop (mkF m 12 #[.val (.ref r0), .val (.int (0 : Int32))] [(.ref o)]))
  refine W.go (fun _ hr => XS.pop X3.here hx rfl (hb hby d24_12) rfl rfl hr) ?_
  show W p e below _ (T3.setTop (mkF m 13 #[.val (.ref r0), .val (.int (0 : Int32))] []))
  refine W.go (fun _ hr => XS.aloadN X3.here hx rfl (hb hby d24_13) rfl rfl hr) ?_
  show W p e below _ (T3.setTop (mkF m 14 #[.val (.ref r0), .val (.int (0 : Int32))] [(.ref r0)]))
  exact W.retA X3 hx hlk hret rfl rfl (hb hby d24_14) (by decide) (by decide) e3 ⟨rfl, N3, KC, E_o, Fv3, Fc3, Fn3, V3⟩
def Q_rm_value0Y (Z : State) (r0 : Addr) (o : Addr) (t : Addr) (kt : ClassId) (cs : List Value) (cn : Int32) (x : Int32) (cs' : List Value) (cn' : Int32) (zCS : Int32) (wSF : Value) (h0 : Heap) (n0 : Nat) (v : Option Value) (h : Heap) (L : List Loc) : Prop := v = some (.ref r0) ∧ Fr n0 L ∧ Keep h0 h [o, t] ∧ Exa Z h o "java/lang/StringBuilder" ∧ Fld Z h o "java/lang/AbstractStringBuilder" "value" "[B" (.ref t) ∧ Fld Z h o "java/lang/AbstractStringBuilder" "coder" "B" (.int (0 : Int32)) ∧ Fld Z h o "java/lang/AbstractStringBuilder" "count" "I" (.int cn') ∧ Arv Z h t kt .byte (1024 : Int32) cs' (.int (0 : Int32))
set_option maxRecDepth 65536 in
set_option maxHeartbeats 40000000 in
theorem rm_value0Y (l : Launch) (Z : State) (a0 : Array Value) (hw : ∀ d ∈ tables_1, d.before a0 Z = true) (r0 : Addr) (o : Addr) (t : Addr) (kt : ClassId) (cs : List Value) (cn : Int32) (x : Int32) (cs' : List Value) (cn' : Int32) (zCS : Int32) (wSF : Value) (h0 : Heap) (n0 : Nat) (Z0 : n0 ≤ h0.size) (E_r0 : Exa Z h0 r0 "org/allonym/cli/JsonWriter") (F_json_r0 : Fld Z h0 r0 "org/allonym/cli/JsonWriter" "json" "Ljava/lang/StringBuilder;" (.ref o)) (E_o : Exa Z h0 o "java/lang/StringBuilder") (F_value_o : Fld Z h0 o "java/lang/AbstractStringBuilder" "value" "[B" (.ref t)) (F_coder_o : Fld Z h0 o "java/lang/AbstractStringBuilder" "coder" "B" (.int (0 : Int32))) (F_count_o : Fld Z h0 o "java/lang/AbstractStringBuilder" "count" "I" (.int cn)) (V_t : Arv Z h0 t kt .byte (1024 : Int32) cs (.int (0 : Int32))) (S_COMPACT_STRINGS : Sta Z h0 "java/lang/String" "COMPACT_STRINGS" "Z" (.int zCS)) (hCS : ¬ zCS = 0) (S_SIOOBE_FORMATTER : Sta Z h0 "jdk/internal/util/Preconditions" "SIOOBE_FORMATTER" "Ljava/util/function/BiFunction;" wSF) (hSF : wSF.isRef = true) (hcn : cn.toInt = cs.length ∧ cn.toInt + 32 ≤ 1024) (g_o : n0 ≤ o) (g_t : n0 ≤ t) (ne_0o : r0 ≠ o) (ne_0t : r0 ≠ t) (ne_ot : o ≠ t) (hsep : ¬ cn = 0 ∧ ¬ (cn - 1) < 0 ∧ (cn - 1) < cn ∧ cs.getD (cn - 1).toNatClampNeg (.int (0 : Int32)) = .int x ∧ ¬ (x &&& 255) = 123 ∧ ¬ (x &&& 255) = 91 ∧ ¬ (x &&& 255) = 58) (hcs' : cs' = cs ++ [.int (44 : Int32)] ++ [.int (102 : Int32)] ++ [.int (97 : Int32)] ++ [.int (108 : Int32)] ++ [.int (115 : Int32)] ++ [.int (101 : Int32)]) (hcn' : cn' = cn + 1 + 1 + 1 + 1 + 1 + 1) :
    Ctr l Z (⟨"org/allonym/cli/JsonWriter", "value", "(Z)Lorg/allonym/cli/JsonWriter;"⟩ : MethodName) prog_10_method_9_code 2 (some (.object "org/allonym/cli/JsonWriter")) ({ frames := 5, cells := 0, slots := 0, locals := 69 } : Room) #[(.ref r0), (.int (0 : Int32))] h0 (Q_rm_value0Y Z r0 o t kt cs cn x cs' cn' zCS wSF h0 n0) := by
  refine Ctr.body (fr := fun m => mkF m 0 #[.val (.ref r0), .val (.int (0 : Int32))] []) (plainFor_of_name pn_org_allonym_cli_JsonWriter) (fun m => by first | (simp [entryFrame, mkF, argsToLocals, Value.category]; done) | rfl) fun p e s m below meth c s₁ hx hby hml hZ hown hnm hret hlk X0 e0 => ?_
  have N0 := Fr.nil n0
  have hown : s.vm.findClass "org/allonym/cli/JsonWriter" = some m.cls := hown
  have KC : Keep h0 h0 [o, t] := Keep.refl _ _
  show W p e below _ (s₁.setTop (mkF m 0 #[.val (.ref r0), .val (.int (0 : Int32))] []))
  refine W.go (fun _ hr => XS.aloadN X0.here hx rfl (hb hby d24_0) rfl rfl hr) ?_
  show W p e below _ (s₁.setTop (mkF m 1 #[.val (.ref r0), .val (.int (0 : Int32))] [(.ref r0)]))
  refine W.callP X0 hx hZ hown (g := (mkF m 1 #[.val (.ref r0), .val (.int (0 : Int32))] [(.ref r0)])) (by rw [hml]; rfl) (hw _ (List.mem_of_getElem? (i := 137) rfl)) (hw _ (List.mem_of_getElem? (i := 139) rfl)) (selPriv hZ (hw _ (List.mem_of_getElem? (i := 1) rfl)) (hw _ (List.mem_of_getElem? (i := 139) rfl)) (hw _ (List.mem_of_getElem? (i := 138) rfl)) (by decide)) (hw _ (List.mem_of_getElem? (i := 138) rfl)) (hw _ (List.mem_of_getElem? (i := 2) rfl)) (hw _ (List.mem_of_getElem? (i := 140) rfl)) e0 (rmSepY l Z a0 hw r0 o t kt cs cn x (cs ++ [.int (44 : Int32)]) (cn + 1) zCS wSF h0 n0 Z0 E_r0 F_json_r0 E_o F_value_o F_coder_o F_count_o V_t S_COMPACT_STRINGS hCS S_SIOOBE_FORMATTER hSF ⟨hcn.1, by omega⟩ g_o g_t ne_0o ne_0t ne_ot hsep rfl rfl) (by decide) pd_407 rfl E_r0 (argsL := []) (rest := []) rfl rfl rfl (hb hby d24_1) (W0 := 0) rfl (by decide) (by decide) (by decide) (by decide) (fun v1 T1 h1 L1 X1 e1 hQ1 => ?_)
  obtain ⟨rfl, N1q, K1, Eo1, Fv1, Fc1, Fn1, V1⟩ := hQ1
  have N1 := Fr.app N0 N1q
  have nsK1 := (nsS E_o.nostat (nsS V_t.nostat ns0))
  replace S_COMPACT_STRINGS := Sta.keep S_COMPACT_STRINGS K1 nsK1
  replace S_SIOOBE_FORMATTER := Sta.keep S_SIOOBE_FORMATTER K1 nsK1
  replace E_r0 := E_r0.keep K1
  replace F_json_r0 := F_json_r0.keep K1 (ninS ne_0o (ninS ne_0t nin0))
  replace E_o := E_o.keep K1
  have Z2 : n0 ≤ h1.size := Nat.le_trans Z0 K1.1
  replace KC := KC.trans K1 (allS (Or.inl (List.mem_of_getElem? (i := 0) rfl)) (allS (Or.inl (List.mem_of_getElem? (i := 1) rfl)) all0))
  show W p e below _ (T1.setTop (mkF m 4 #[.val (.ref r0), .val (.int (0 : Int32))] []))
  have hcn2 := own_len (v := (.int (44 : Int32))) hcn.1 (by omega)
  have hcn3 := hcn2
  rw [List.length_append, List.length_singleton] at hcn3
  refine W.go (fun _ hr => XS.aloadN X1.here hx rfl (hb hby d24_4) rfl rfl hr) ?_
  show W p e below _ (T1.setTop (mkF m 5 #[.val (.ref r0), .val (.int (0 : Int32))] [(.ref r0)]))
  obtain ⟨T3, X3, e3, st3⟩ := getF X1 hx hZ hown (host := "") (Or.inl (hw _ (List.mem_of_getElem? (i := 29) rfl))) Via.refl e1 F_json_r0 (g := (mkF m 5 #[.val (.ref r0), .val (.int (0 : Int32))] [(.ref r0)])) rfl rfl (hb hby d24_5)
  refine W.go st3 ?_
  show W p e below _ (T3.setTop (mkF m 8 #[.val (.ref r0), .val (.int (0 : Int32))] [(.ref o)]))
  refine W.go (fun _ hr => XS.iloadN X3.here hx rfl (hb hby d24_8) rfl hr) ?_
  show W p e below _ (T3.setTop (mkF m 9 #[.val (.ref r0), .val (.int (0 : Int32))] [(.int (0 : Int32)), (.ref o)]))
  refine W.callV X3 hx hZ hown (g := (mkF m 9 #[.val (.ref r0), .val (.int (0 : Int32))] [(.int (0 : Int32)), (.ref o)])) (by rw [hml]; rfl) (hw _ (List.mem_of_getElem? (i := 177) rfl)) (hw _ (List.mem_of_getElem? (i := 178) rfl)) (hw _ (List.mem_of_getElem? (i := 180) rfl)) (hw _ (List.mem_of_getElem? (i := 179) rfl)) (hw _ (List.mem_of_getElem? (i := 11) rfl)) (hw _ (List.mem_of_getElem? (i := 181) rfl)) e3 (rmZ0 l Z a0 hw o t kt (cs ++ [.int (44 : Int32)]) (cn + 1) zCS cs' cn' h1 n0 Z2 E_o Fv1 Fc1 Fn1 V1 S_COMPACT_STRINGS hCS ⟨hcn2, by omega⟩ g_o g_t ne_ot hcs' hcn') (notFace_of_selects (args := #[]) (mvT hZ (hw _ (List.mem_of_getElem? (i := 180) rfl)))) (by decide) pd_433 rfl E_o (argsL := [(.int (0 : Int32))]) (rest := []) rfl rfl rfl (hb hby d24_9) (W0 := 0) rfl (by decide) (by decide) (by decide) (by decide) (fun v4 T4 h4 L4 X4 e4 hQ4 => ?_)
  obtain ⟨rfl, N4q, K4, Ee4, Fv4, Fc4, Fn4, V4⟩ := hQ4
  have N4 := Fr.app N1 N4q
  have nsK4 := (nsS E_o.nostat (nsS V1.nostat ns0))
  replace S_COMPACT_STRINGS := Sta.keep S_COMPACT_STRINGS K4 nsK4
  replace S_SIOOBE_FORMATTER := Sta.keep S_SIOOBE_FORMATTER K4 nsK4
  replace E_r0 := E_r0.keep K4
  replace F_json_r0 := F_json_r0.keep K4 (ninS ne_0o (ninS ne_0t nin0))
  replace E_o := E_o.keep K4
  have Z5 : n0 ≤ h4.size := Nat.le_trans Z2 K4.1
  replace KC := KC.trans K4 (allS (Or.inl (List.mem_of_getElem? (i := 0) rfl)) (allS (Or.inl (List.mem_of_getElem? (i := 1) rfl)) all0))
  show W p e below _ (T4.setTop (mkF m 12 #[.val (.ref r0), .val (.int (0 : Int32))] [(.ref o)]))
  refine W.go (fun _ hr => XS.pop X4.here hx rfl (hb hby d24_12) rfl rfl hr) ?_
  show W p e below _ (T4.setTop (mkF m 13 #[.val (.ref r0), .val (.int (0 : Int32))] []))
  refine W.go (fun _ hr => XS.aloadN X4.here hx rfl (hb hby d24_13) rfl rfl hr) ?_
  show W p e below _ (T4.setTop (mkF m 14 #[.val (.ref r0), .val (.int (0 : Int32))] [(.ref r0)]))
  exact W.retA X4 hx hlk hret rfl rfl (hb hby d24_14) (by decide) (by decide) e4 ⟨rfl, N4, KC, E_o, Fv4, Fc4, Fn4, V4⟩
theorem own_and3 (x : Int32) : x &&& 3 = 0 ∨ x &&& 3 = 1 ∨ x &&& 3 = 2 ∨ x &&& 3 = 3 := by
  have q := c_mask x 3 2 (by decide) (by decide)
  have e0 : (0 : Int32).toInt = 0 := rfl
  have e1 : (1 : Int32).toInt = 1 := rfl
  have e2 : (2 : Int32).toInt = 2 := rfl
  have e3 : (3 : Int32).toInt = 3 := rfl
  simp only [← Int32.toInt_inj, e0, e1, e2, e3]
  omega
theorem pd_437 : parseMethodDescriptor "()Lorg/allonym/cli/JsonWriter;" = some ⟨[], some (.object "org/allonym/cli/JsonWriter")⟩ := by decide +kernel
theorem pd_438 : parseMethodDescriptor "(Ljava/lang/Object;)Z" = some ⟨[(.object "java/lang/Object")], some .boolean⟩ := by decide +kernel
theorem pd_439 : parseMethodDescriptor "(Z)Lorg/allonym/cli/JsonWriter;" = some ⟨[.boolean], some (.object "org/allonym/cli/JsonWriter")⟩ := by decide +kernel
theorem pn_org_allonym_cli_JsonWriterEndArrayPinLaw : plainName "org/allonym/cli/JsonWriterEndArrayPinLaw" = true := by first | (simp [plainName, overriddenIn]; done) | decide +kernel
def Q_rm0 (Z : State) (p0 : Int32) (p1 : Int32) (zCS : Int32) (wSF : Value) (h0 : Heap) (n0 : Nat) (v : Option Value) (h : Heap) (L : List Loc) : Prop := v = some (.int (1 : Int32)) ∧ Fr n0 L
set_option maxRecDepth 65536 in
set_option maxHeartbeats 40000000 in
theorem rm0 (l : Launch) (Z : State) (a0 : Array Value) (hw : ∀ d ∈ tables_1, d.before a0 Z = true) (p0 : Int32) (p1 : Int32) (zCS : Int32) (wSF : Value) (h0 : Heap) (n0 : Nat) (Z0 : n0 ≤ h0.size) (S_COMPACT_STRINGS : Sta Z h0 "java/lang/String" "COMPACT_STRINGS" "Z" (.int zCS)) (hCS : ¬ zCS = 0) (S_SIOOBE_FORMATTER : Sta Z h0 "jdk/internal/util/Preconditions" "SIOOBE_FORMATTER" "Ljava/util/function/BiFunction;" wSF) (hSF : wSF.isRef = true) :
    CtrW l Z EL x code maxLocals ret room_1 #[(.int p0), (.int p1)] h0 (Q_rm0 Z p0 p1 zCS wSF h0 n0) := by
  refine CtrW.body (fr := fun m => mkF m 0 #[.val (.int p0), .val (.int p1), .unset, .unset, .unset, .unset, .unset, .unset] []) (plainFor_of_name pn_org_allonym_cli_JsonWriterEndArrayPinLaw) (fun m => by first | (simp [entryFrame, mkF, argsToLocals, Value.category, maxLocals]; done) | rfl) fun p e s m below meth c s₁ vm0 hx hby hml hZ hown hnm hret hlk X0 e0 hS RC => ?_
  have N0 := Fr.nil n0
  have hown : vm0.findClass "org/allonym/cli/JsonWriterEndArrayPinLaw" = some m.cls := hown
  have own_sa' := fun a ha => hw a (own_sa a ha)
  have own_EW' := own_EW Z a0 hw
  have hkS : 0 ≤ h0.size := Nat.zero_le _
  show W p e below _ (s₁.setTop (mkF m 0 #[.val (.int p0), .val (.int p1), .unset, .unset, .unset, .unset, .unset, .unset] []))
  refine W.go (fun _ hr => XS.iloadN X0.here hx rfl (hb hby at_0) rfl hr) ?_
  show W p e below _ (s₁.setTop (mkF m 1 #[.val (.int p0), .val (.int p1), .unset, .unset, .unset, .unset, .unset, .unset] [(.int p0)]))
  refine W.go (fun _ hr => XS.iconst X0.here hx rfl (hb hby at_1) hr) ?_
  show W p e below _ (s₁.setTop (mkF m 2 #[.val (.int p0), .val (.int p1), .unset, .unset, .unset, .unset, .unset, .unset] [(.int (3 : Int32)), (.int p0)]))
  refine W.go (fun _ hr => XS.iand X0.here hx rfl (hb hby at_2) rfl hr) ?_
  show W p e below _ (s₁.setTop (mkF m 3 #[.val (.int p0), .val (.int p1), .unset, .unset, .unset, .unset, .unset, .unset] [(.int (p0 &&& (3 : Int32)))]))
  rcases own_and3 p0 with q | q | q | q
  · rw [q]
    show W p e below _ (s₁.setTop (mkF m 3 #[.val (.int p0), .val (.int p1), .unset, .unset, .unset, .unset, .unset, .unset] [(.int (0 : Int32))]))
    refine W.go (fun _ hr => XS.istoreN X0.here hx rfl (hb hby at_3) rfl (l' := #[.val (.int p0), .val (.int p1), .val (.int (0 : Int32)), .unset, .unset, .unset, .unset, .unset]) rfl hr) ?_
    show W p e below _ (s₁.setTop (mkF m 4 #[.val (.int p0), .val (.int p1), .val (.int (0 : Int32)), .unset, .unset, .unset, .unset, .unset] []))
    refine W.go (fun _ hr => XS.iloadN X0.here hx rfl (hb hby at_4) rfl hr) ?_
    show W p e below _ (s₁.setTop (mkF m 5 #[.val (.int p0), .val (.int p1), .val (.int (0 : Int32)), .unset, .unset, .unset, .unset, .unset] [(.int p1)]))
    refine W.go (fun _ hr => XS.iconst X0.here hx rfl (hb hby at_5) hr) ?_
    show W p e below _ (s₁.setTop (mkF m 6 #[.val (.int p0), .val (.int p1), .val (.int (0 : Int32)), .unset, .unset, .unset, .unset, .unset] [(.int (1 : Int32)), (.int p1)]))
    refine W.go (fun _ hr => XS.iand X0.here hx rfl (hb hby at_6) rfl hr) ?_
    show W p e below _ (s₁.setTop (mkF m 7 #[.val (.int p0), .val (.int p1), .val (.int (0 : Int32)), .unset, .unset, .unset, .unset, .unset] [(.int (p1 &&& (1 : Int32)))]))
    by_cases hc7_1 : (p1 &&& (1 : Int32)) = (0 : Int32)
    · refine W.go (fun _ hr => XS.ifYes X0.here hx rfl (pc0 := 7) (pc' := 14) rfl (hb hby at_7) rfl ((if0 _ _).trans (teq hc7_1).1) (by decide) (by decide) hr) ?_
      show W p e below _ (s₁.setTop (mkF m 14 #[.val (.int p0), .val (.int p1), .val (.int (0 : Int32)), .unset, .unset, .unset, .unset, .unset] []))
      refine W.go (fun _ hr => XS.iconst X0.here hx rfl (hb hby at_14) hr) ?_
      show W p e below _ (s₁.setTop (mkF m 15 #[.val (.int p0), .val (.int p1), .val (.int (0 : Int32)), .unset, .unset, .unset, .unset, .unset] [(.int (0 : Int32))]))
      refine W.go (fun _ hr => XS.istoreN X0.here hx rfl (hb hby at_15) rfl (l' := #[.val (.int p0), .val (.int p1), .val (.int (0 : Int32)), .val (.int (0 : Int32)), .unset, .unset, .unset, .unset]) rfl hr) ?_
      show W p e below _ (s₁.setTop (mkF m 16 #[.val (.int p0), .val (.int p1), .val (.int (0 : Int32)), .val (.int (0 : Int32)), .unset, .unset, .unset, .unset] []))
      obtain ⟨T2, h2, X2, e2, E2, E_b2, D2, U2, st2⟩ := newO X0 hx hZ hown (hw _ (List.mem_of_getElem? (i := 0) rfl)) (hw _ (List.mem_of_getElem? (i := 1) rfl)) (hw _ (List.mem_of_getElem? (i := 2) rfl)) e0 (g := (mkF m 16 #[.val (.int p0), .val (.int p1), .val (.int (0 : Int32)), .val (.int (0 : Int32)), .unset, .unset, .unset, .unset] [])) rfl (hb hby at_16) (by decide) (by decide)
      obtain ⟨b2, g2⟩ : ∃ z, z = h0.size := ⟨_, rfl⟩
      rw [← g2] at E_b2 D2 U2 st2
      have Sf_b2 : Safe Z EL vm0 h0 b2 := Safe.new (Nat.le_of_eq g2.symm)
      have g_b2 : n0 ≤ b2 := Nat.le_trans Z0 (Nat.le_of_eq g2.symm)
      replace S_COMPACT_STRINGS := Sta.ext E2 S_COMPACT_STRINGS
      replace S_SIOOBE_FORMATTER := Sta.ext E2 S_SIOOBE_FORMATTER
      have Z3 : n0 ≤ h2.size := Nat.le_trans Z0 E2.1
      replace Sf_b2 := Safe.ext E2 RC.1 Sf_b2
      replace RC := RC.trans (CHr.ext E2 RC.1)
      replace hkS := Nat.le_trans hkS E2.1
      have F_json_b2 : Fld Z h2 b2 "org/allonym/cli/JsonWriter" "json" "Ljava/lang/StringBuilder;" .null := D2 (Or.inr (hw _ (List.mem_of_getElem? (i := 30) rfl))) (ty := (.object "java/lang/StringBuilder")) (by decide)
      refine W.go st2 ?_
      show W p e below _ (T2.setTop (mkF m 19 #[.val (.int p0), .val (.int p1), .val (.int (0 : Int32)), .val (.int (0 : Int32)), .unset, .unset, .unset, .unset] [(.ref b2)]))
      refine W.go (fun _ hr => XS.dup X2.here hx rfl (hb hby at_19) rfl rfl hr) ?_
      show W p e below _ (T2.setTop (mkF m 20 #[.val (.int p0), .val (.int p1), .val (.int (0 : Int32)), .val (.int (0 : Int32)), .unset, .unset, .unset, .unset] [(.ref b2), (.ref b2)]))
      refine W.callI X2 hx hZ hown (g := (mkF m 20 #[.val (.int p0), .val (.int p1), .val (.int (0 : Int32)), .val (.int (0 : Int32)), .unset, .unset, .unset, .unset] [(.ref b2), (.ref b2)])) (by rw [hml]; rfl) (hw _ (List.mem_of_getElem? (i := 3) rfl)) (hw _ (List.mem_of_getElem? (i := 4) rfl)) (hw _ (List.mem_of_getElem? (i := 2) rfl)) (hw _ (List.mem_of_getElem? (i := 5) rfl)) e2 (rm1 l Z a0 hw b2 zCS h2 n0 Z3 E_b2 F_json_b2 g_b2 S_COMPACT_STRINGS hCS) rfl (by decide) pd_407 rfl (b := b2) (argsL := []) (rest := [(.ref b2)]) rfl rfl rfl (hb hby at_20) (W0 := 1) rfl (by decide) (by decide) (by decide) (by decide) (fun v4 T4 h4 L4 X4 e4 hQ4 => ?_)
      obtain ⟨rfl, N4q, K4, Ee4, o4, t4, kt4, so4, st4, not4, Fj4, E_o4, F_value_o4, F_coder_o4, F_count_o4, V_t4⟩ := hQ4
      have N4 := Fr.app N0 N4q
      have ne_b2_o4 : b2 ≠ o4 := Nat.ne_of_lt (Nat.lt_of_lt_of_le E_b2.lt so4)
      have Sf_o4 : Safe Z EL vm0 h2 o4 := Safe.new so4
      have g_o4 : n0 ≤ o4 := Nat.le_trans Z3 so4
      have ne_b2_t4 : b2 ≠ t4 := Nat.ne_of_lt (Nat.lt_of_lt_of_le E_b2.lt st4)
      have Sf_t4 : Safe Z EL vm0 h2 t4 := Safe.new st4
      have g_t4 : n0 ≤ t4 := Nat.le_trans Z3 st4
      have SfKK4 := (sfS Sf_b2 sf0)
      have nsK4 := (nsS E_b2.nostat ns0)
      replace S_COMPACT_STRINGS := Sta.keep S_COMPACT_STRINGS K4 nsK4
      replace S_SIOOBE_FORMATTER := Sta.keep S_SIOOBE_FORMATTER K4 nsK4
      replace E_b2 := E_b2.keep K4
      have Z5 : n0 ≤ h4.size := Nat.le_trans Z3 K4.1
      replace Sf_b2 := Safe.keep K4 SfKK4 RC.1 Sf_b2
      replace Sf_o4 := Safe.keep K4 SfKK4 RC.1 Sf_o4
      replace Sf_t4 := Safe.keep K4 SfKK4 RC.1 Sf_t4
      replace RC := RC.trans (CHr.keep K4 SfKK4 RC.1)
      replace hkS := Nat.le_trans hkS K4.1
      show W p e below _ (T4.setTop (mkF m 23 #[.val (.int p0), .val (.int p1), .val (.int (0 : Int32)), .val (.int (0 : Int32)), .unset, .unset, .unset, .unset] [(.ref b2)]))
      refine W.go (fun _ hr => XS.astore X4.here hx rfl (hb hby at_23) rfl rfl (l' := #[.val (.int p0), .val (.int p1), .val (.int (0 : Int32)), .val (.int (0 : Int32)), .val (.ref b2), .unset, .unset, .unset]) rfl hr) ?_
      show W p e below _ (T4.setTop (mkF m 25 #[.val (.int p0), .val (.int p1), .val (.int (0 : Int32)), .val (.int (0 : Int32)), .val (.ref b2), .unset, .unset, .unset] []))
      refine W.go (fun _ hr => XS.iloadN X4.here hx rfl (hb hby at_25) rfl hr) ?_
      show W p e below _ (T4.setTop (mkF m 26 #[.val (.int p0), .val (.int p1), .val (.int (0 : Int32)), .val (.int (0 : Int32)), .val (.ref b2), .unset, .unset, .unset] [(.int (0 : Int32))]))
      refine W.go (fun _ hr => XS.ifNo X4.here hx rfl (hb hby at_26) rfl ((if0 _ _).trans (teq (by decide : ((0 : Int32) = (0 : Int32)))).2) hr) ?_
      show W p e below _ (T4.setTop (mkF m 29 #[.val (.int p0), .val (.int p1), .val (.int (0 : Int32)), .val (.int (0 : Int32)), .val (.ref b2), .unset, .unset, .unset] []))
      have lt6_b2 : b2 < h4.size := E_b2.lt
      have lt6_o4 : o4 < h4.size := E_o4.lt
      have lt6_t4 : t4 < h4.size := V_t4.lt
      obtain ⟨s6, T6, h6, kk6, c6, kb6, X6, e6, E6, hS, hkS, hZ, hown, E_s6, F_coder_s6, F_value_s6, V_c6, la6, lb6, hC6, hL6, hne6, st6⟩ := ldcCH X4 hx hZ hown (hw _ (List.mem_of_getElem? (i := 31) rfl)) own_sa' e4 hS hkS own_EW' (List.mem_of_getElem? (i := 0) rfl) RC.1 (vs := [(.int (93 : Int32))]) (z := (1 : Int32)) (by decide) (by decide) (by decide) (g := (mkF m 29 #[.val (.int p0), .val (.int p1), .val (.int (0 : Int32)), .val (.int (0 : Int32)), .val (.ref b2), .unset, .unset, .unset] [])) rfl (hb hby at_29) (n := 4) (by decide) (by decide) (by decide) (by decide)
      replace S_COMPACT_STRINGS := Sta.ext E6 S_COMPACT_STRINGS
      replace S_SIOOBE_FORMATTER := Sta.ext E6 S_SIOOBE_FORMATTER
      replace E_b2 := E_b2.ext E6
      replace Fj4 := Fj4.ext E6
      replace E_o4 := E_o4.ext E6
      replace F_value_o4 := F_value_o4.ext E6
      replace F_coder_o4 := F_coder_o4.ext E6
      replace F_count_o4 := F_count_o4.ext E6
      replace V_t4 := V_t4.ext E6
      have Z7 : n0 ≤ h6.size := Nat.le_trans Z5 E6.1
      replace Sf_b2 := hC6.safe lt6_b2 Sf_b2
      replace Sf_o4 := hC6.safe lt6_o4 Sf_o4
      replace Sf_t4 := hC6.safe lt6_t4 Sf_t4
      replace RC := RC.trans hC6
      have ne_b2_s6 := (hne6 b2 Sf_b2).1
      have ne_b2_c6 := (hne6 b2 Sf_b2).2
      have ne_o4_s6 := (hne6 o4 Sf_o4).1
      have ne_o4_c6 := (hne6 o4 Sf_o4).2
      have ne_t4_s6 := (hne6 t4 Sf_t4).1
      have ne_t4_c6 := (hne6 t4 Sf_t4).2
      refine W.go st6 ?_
      show W p e below _ (T6.setTop (mkF m 31 #[.val (.int p0), .val (.int p1), .val (.int (0 : Int32)), .val (.int (0 : Int32)), .val (.ref b2), .unset, .unset, .unset] [(.ref s6)]))
      refine W.go (fun _ hr => XS.astore X6.here hx rfl (hb hby at_31) rfl rfl (l' := #[.val (.int p0), .val (.int p1), .val (.int (0 : Int32)), .val (.int (0 : Int32)), .val (.ref b2), .val (.ref s6), .unset, .unset]) rfl hr) ?_
      show W p e below _ (T6.setTop (mkF m 33 #[.val (.int p0), .val (.int p1), .val (.int (0 : Int32)), .val (.int (0 : Int32)), .val (.ref b2), .val (.ref s6), .unset, .unset] []))
      refine W.go (fun _ hr => XS.iloadN X6.here hx rfl (hb hby at_33) rfl hr) ?_
      show W p e below _ (T6.setTop (mkF m 34 #[.val (.int p0), .val (.int p1), .val (.int (0 : Int32)), .val (.int (0 : Int32)), .val (.ref b2), .val (.ref s6), .unset, .unset] [(.int (0 : Int32))]))
      refine W.go (fun _ hr => XS.ifYes X6.here hx rfl (pc0 := 34) (pc' := 42) rfl (hb hby at_34) rfl ((if0 _ _).trans (teq (by decide : ((0 : Int32) = (0 : Int32)))).1) (by decide) (by decide) hr) ?_
      show W p e below _ (T6.setTop (mkF m 42 #[.val (.int p0), .val (.int p1), .val (.int (0 : Int32)), .val (.int (0 : Int32)), .val (.ref b2), .val (.ref s6), .unset, .unset] []))
      have lt8_b2 : b2 < h6.size := E_b2.lt
      have lt8_o4 : o4 < h6.size := E_o4.lt
      have lt8_t4 : t4 < h6.size := V_t4.lt
      obtain ⟨s8, T8, h8, kk8, c8, kb8, X8, e8, E8, hS, hkS, hZ, hown, E_s8, F_coder_s8, F_value_s8, V_c8, la8, lb8, hC8, hL8, hne8, st8⟩ := ldcCH X6 hx hZ hown (hw _ (List.mem_of_getElem? (i := 193) rfl)) own_sa' e6 hS hkS own_EW' (List.mem_of_getElem? (i := 2) rfl) RC.1 (vs := [(.int (93 : Int32)), (.int (44 : Int32)), (.int (102 : Int32)), (.int (97 : Int32)), (.int (108 : Int32)), (.int (115 : Int32)), (.int (101 : Int32))]) (z := (7 : Int32)) (by decide) (by decide) (by decide) (g := (mkF m 42 #[.val (.int p0), .val (.int p1), .val (.int (0 : Int32)), .val (.int (0 : Int32)), .val (.ref b2), .val (.ref s6), .unset, .unset] [])) rfl (hb hby at_42) (n := 28) (by decide) (by decide) (by decide) (by decide)
      replace S_COMPACT_STRINGS := Sta.ext E8 S_COMPACT_STRINGS
      replace S_SIOOBE_FORMATTER := Sta.ext E8 S_SIOOBE_FORMATTER
      replace E_b2 := E_b2.ext E8
      replace Fj4 := Fj4.ext E8
      replace E_o4 := E_o4.ext E8
      replace F_value_o4 := F_value_o4.ext E8
      replace F_coder_o4 := F_coder_o4.ext E8
      replace F_count_o4 := F_count_o4.ext E8
      replace V_t4 := V_t4.ext E8
      replace E_s6 := E_s6.ext E8
      replace F_coder_s6 := F_coder_s6.ext E8
      replace F_value_s6 := F_value_s6.ext E8
      replace V_c6 := V_c6.ext E8
      have Z9 : n0 ≤ h8.size := Nat.le_trans Z7 E8.1
      replace Sf_b2 := hC8.safe lt8_b2 Sf_b2
      replace Sf_o4 := hC8.safe lt8_o4 Sf_o4
      replace Sf_t4 := hC8.safe lt8_t4 Sf_t4
      replace RC := RC.trans hC8
      have ne_b2_s8 := (hne8 b2 Sf_b2).1
      have ne_b2_c8 := (hne8 b2 Sf_b2).2
      have ne_o4_s8 := (hne8 o4 Sf_o4).1
      have ne_o4_c8 := (hne8 o4 Sf_o4).2
      have ne_t4_s8 := (hne8 t4 Sf_t4).1
      have ne_t4_c8 := (hne8 t4 Sf_t4).2
      refine W.go st8 ?_
      show W p e below _ (T8.setTop (mkF m 44 #[.val (.int p0), .val (.int p1), .val (.int (0 : Int32)), .val (.int (0 : Int32)), .val (.ref b2), .val (.ref s6), .unset, .unset] [(.ref s8)]))
      refine W.go (fun _ hr => XS.astore X8.here hx rfl (hb hby at_44) rfl rfl (l' := #[.val (.int p0), .val (.int p1), .val (.int (0 : Int32)), .val (.int (0 : Int32)), .val (.ref b2), .val (.ref s6), .val (.ref s8), .unset]) rfl hr) ?_
      show W p e below _ (T8.setTop (mkF m 46 #[.val (.int p0), .val (.int p1), .val (.int (0 : Int32)), .val (.int (0 : Int32)), .val (.ref b2), .val (.ref s6), .val (.ref s8), .unset] []))
      refine W.go (fun _ hr => XS.goto X8.here hx rfl (pc0 := 46) (pc' := 156) rfl (hb hby at_46) (by decide) (by decide) hr) ?_
      show W p e below _ (T8.setTop (mkF m 156 #[.val (.int p0), .val (.int p1), .val (.int (0 : Int32)), .val (.int (0 : Int32)), .val (.ref b2), .val (.ref s6), .val (.ref s8), .unset] []))
      refine W.go (fun _ hr => XS.aload X8.here hx rfl (hb hby at_156) rfl rfl hr) ?_
      show W p e below _ (T8.setTop (mkF m 158 #[.val (.int p0), .val (.int p1), .val (.int (0 : Int32)), .val (.int (0 : Int32)), .val (.ref b2), .val (.ref s6), .val (.ref s8), .unset] [(.ref b2)]))
      refine W.callV X8 hx hZ hown (g := (mkF m 158 #[.val (.int p0), .val (.int p1), .val (.int (0 : Int32)), .val (.int (0 : Int32)), .val (.ref b2), .val (.ref s6), .val (.ref s8), .unset] [(.ref b2)])) (by rw [hml]; rfl) (hw _ (List.mem_of_getElem? (i := 38) rfl)) (hw _ (List.mem_of_getElem? (i := 39) rfl)) (hw _ (List.mem_of_getElem? (i := 41) rfl)) (hw _ (List.mem_of_getElem? (i := 40) rfl)) (hw _ (List.mem_of_getElem? (i := 2) rfl)) (hw _ (List.mem_of_getElem? (i := 42) rfl)) e8 (rm_endArray l Z a0 hw b2 o4 t4 kt4 [] (0 : Int32) [(.int (93 : Int32))] (1 : Int32) zCS wSF h8 n0 Z9 E_b2 Fj4 E_o4 F_value_o4 F_coder_o4 F_count_o4 V_t4 S_COMPACT_STRINGS hCS S_SIOOBE_FORMATTER hSF (by decide) g_o4 g_t4 ne_b2_o4 ne_b2_t4 not4  rfl (by decide)) (notFace_of_selects (args := #[]) (mvT hZ (hw _ (List.mem_of_getElem? (i := 41) rfl)))) (by decide) pd_437 rfl E_b2 (argsL := []) (rest := []) rfl rfl rfl (hb hby at_158) (W0 := 0) rfl (by decide) (by decide) (by decide) (by decide) (fun v10 T10 h10 L10 X10 e10 hQ10 => ?_)
      obtain ⟨rfl, N10q, K10, Eo10, Fv10, Fc10, Fn10, V10⟩ := hQ10
      have N10 := Fr.app N4 N10q
      have SfKK10 := (sfS Sf_o4 (sfS Sf_t4 sf0))
      have nsK10 := (nsS E_o4.nostat (nsS V_t4.nostat ns0))
      replace S_COMPACT_STRINGS := Sta.keep S_COMPACT_STRINGS K10 nsK10
      replace S_SIOOBE_FORMATTER := Sta.keep S_SIOOBE_FORMATTER K10 nsK10
      replace E_b2 := E_b2.keep K10
      replace Fj4 := Fj4.keep K10 (ninS ne_b2_o4 (ninS ne_b2_t4 nin0))
      replace E_o4 := E_o4.keep K10
      replace E_s6 := E_s6.keep K10
      replace F_coder_s6 := F_coder_s6.keep K10 (ninS (Ne.symm ne_o4_s6) (ninS (Ne.symm ne_t4_s6) nin0))
      replace F_value_s6 := F_value_s6.keep K10 (ninS (Ne.symm ne_o4_s6) (ninS (Ne.symm ne_t4_s6) nin0))
      replace V_c6 := V_c6.keep K10 (ninS (Ne.symm ne_o4_c6) (ninS (Ne.symm ne_t4_c6) nin0))
      replace E_s8 := E_s8.keep K10
      replace F_coder_s8 := F_coder_s8.keep K10 (ninS (Ne.symm ne_o4_s8) (ninS (Ne.symm ne_t4_s8) nin0))
      replace F_value_s8 := F_value_s8.keep K10 (ninS (Ne.symm ne_o4_s8) (ninS (Ne.symm ne_t4_s8) nin0))
      replace V_c8 := V_c8.keep K10 (ninS (Ne.symm ne_o4_c8) (ninS (Ne.symm ne_t4_c8) nin0))
      have Z11 : n0 ≤ h10.size := Nat.le_trans Z9 K10.1
      replace Sf_b2 := Safe.keep K10 SfKK10 RC.1 Sf_b2
      replace Sf_o4 := Safe.keep K10 SfKK10 RC.1 Sf_o4
      replace Sf_t4 := Safe.keep K10 SfKK10 RC.1 Sf_t4
      replace RC := RC.trans (CHr.keep K10 SfKK10 RC.1)
      replace hkS := Nat.le_trans hkS K10.1
      show W p e below _ (T10.setTop (mkF m 161 #[.val (.int p0), .val (.int p1), .val (.int (0 : Int32)), .val (.int (0 : Int32)), .val (.ref b2), .val (.ref s6), .val (.ref s8), .unset] [(.ref b2)]))
      refine W.go (fun _ hr => XS.astore X10.here hx rfl (hb hby at_161) rfl rfl (l' := #[.val (.int p0), .val (.int p1), .val (.int (0 : Int32)), .val (.int (0 : Int32)), .val (.ref b2), .val (.ref s6), .val (.ref s8), .val (.ref b2)]) rfl hr) ?_
      show W p e below _ (T10.setTop (mkF m 163 #[.val (.int p0), .val (.int p1), .val (.int (0 : Int32)), .val (.int (0 : Int32)), .val (.ref b2), .val (.ref s6), .val (.ref s8), .val (.ref b2)] []))
      refine W.go (fun _ hr => XS.aload X10.here hx rfl (hb hby at_163) rfl rfl hr) ?_
      show W p e below _ (T10.setTop (mkF m 165 #[.val (.int p0), .val (.int p1), .val (.int (0 : Int32)), .val (.int (0 : Int32)), .val (.ref b2), .val (.ref s6), .val (.ref s8), .val (.ref b2)] [(.ref b2)]))
      refine W.go (fun _ hr => XS.aload X10.here hx rfl (hb hby at_165) rfl rfl hr) ?_
      show W p e below _ (T10.setTop (mkF m 167 #[.val (.int p0), .val (.int p1), .val (.int (0 : Int32)), .val (.int (0 : Int32)), .val (.ref b2), .val (.ref s6), .val (.ref s8), .val (.ref b2)] [(.ref b2), (.ref b2)]))
      refine W.go (fun _ hr => Jvm.RoadKit.acmp (g := (mkF m 167 #[.val (.int p0), .val (.int p1), .val (.int (0 : Int32)), .val (.int (0 : Int32)), .val (.ref b2), .val (.ref s6), .val (.ref s8), .val (.ref b2)] [(.ref b2), (.ref b2)])) X10 hx rfl rfl rfl (pc0 := 167) (pc' := 172) (same := true) rfl (hb hby at_167) rfl (decide_eq_true rfl) (by decide) (by decide) hr) ?_
      show W p e below _ (T10.setTop (mkF m 172 #[.val (.int p0), .val (.int p1), .val (.int (0 : Int32)), .val (.int (0 : Int32)), .val (.ref b2), .val (.ref s6), .val (.ref s8), .val (.ref b2)] []))
      refine W.go (fun _ hr => XS.aload X10.here hx rfl (hb hby at_172) rfl rfl hr) ?_
      show W p e below _ (T10.setTop (mkF m 174 #[.val (.int p0), .val (.int p1), .val (.int (0 : Int32)), .val (.int (0 : Int32)), .val (.ref b2), .val (.ref s6), .val (.ref s8), .val (.ref b2)] [(.ref b2)]))
      refine W.callV X10 hx hZ hown (g := (mkF m 174 #[.val (.int p0), .val (.int p1), .val (.int (0 : Int32)), .val (.int (0 : Int32)), .val (.ref b2), .val (.ref s6), .val (.ref s8), .val (.ref b2)] [(.ref b2)])) (by rw [hml]; rfl) (hw _ (List.mem_of_getElem? (i := 69) rfl)) (hw _ (List.mem_of_getElem? (i := 70) rfl)) (hw _ (List.mem_of_getElem? (i := 72) rfl)) (hw _ (List.mem_of_getElem? (i := 71) rfl)) (hw _ (List.mem_of_getElem? (i := 2) rfl)) (hw _ (List.mem_of_getElem? (i := 73) rfl)) e10 (rm11 l Z a0 hw b2 o4 t4 kt4 [(.int (93 : Int32))] (1 : Int32) zCS h10 n0 Z11 E_b2 Fj4 E_o4 Fv10 Fc10 Fn10 V10 S_COMPACT_STRINGS hCS (by decide)) (notFace_of_selects (args := #[]) (mvT hZ (hw _ (List.mem_of_getElem? (i := 72) rfl)))) (by decide) pd_425 rfl E_b2 (argsL := []) (rest := []) rfl rfl rfl (hb hby at_174) (W0 := 0) rfl (by decide) (by decide) (by decide) (by decide) (fun v12 T12 h12 L12 X12 e12 hQ12 => ?_)
      obtain ⟨o12, b12, kb12, rfl, N12q, K12, so12, sb12, nob12, E_o12, F_value_o12, F_coder_o12, E_b12, V_b12⟩ := hQ12
      have N12 := Fr.app N10 N12q
      have ne_b2_o12 : b2 ≠ o12 := Nat.ne_of_lt (Nat.lt_of_lt_of_le E_b2.lt so12)
      have ne_o4_o12 : o4 ≠ o12 := Nat.ne_of_lt (Nat.lt_of_lt_of_le E_o4.lt so12)
      have ne_s6_o12 : s6 ≠ o12 := Nat.ne_of_lt (Nat.lt_of_lt_of_le E_s6.lt so12)
      have ne_c6_o12 : c6 ≠ o12 := Nat.ne_of_lt (Nat.lt_of_lt_of_le V_c6.lt so12)
      have ne_s8_o12 : s8 ≠ o12 := Nat.ne_of_lt (Nat.lt_of_lt_of_le E_s8.lt so12)
      have ne_c8_o12 : c8 ≠ o12 := Nat.ne_of_lt (Nat.lt_of_lt_of_le V_c8.lt so12)
      have ne_t4_o12 : t4 ≠ o12 := Nat.ne_of_lt (Nat.lt_of_lt_of_le V10.lt so12)
      have Sf_o12 : Safe Z EL T8.vm h10 o12 := Safe.new so12
      have g_o12 : n0 ≤ o12 := Nat.le_trans Z11 so12
      have ne_b2_b12 : b2 ≠ b12 := Nat.ne_of_lt (Nat.lt_of_lt_of_le E_b2.lt sb12)
      have ne_o4_b12 : o4 ≠ b12 := Nat.ne_of_lt (Nat.lt_of_lt_of_le E_o4.lt sb12)
      have ne_s6_b12 : s6 ≠ b12 := Nat.ne_of_lt (Nat.lt_of_lt_of_le E_s6.lt sb12)
      have ne_c6_b12 : c6 ≠ b12 := Nat.ne_of_lt (Nat.lt_of_lt_of_le V_c6.lt sb12)
      have ne_s8_b12 : s8 ≠ b12 := Nat.ne_of_lt (Nat.lt_of_lt_of_le E_s8.lt sb12)
      have ne_c8_b12 : c8 ≠ b12 := Nat.ne_of_lt (Nat.lt_of_lt_of_le V_c8.lt sb12)
      have ne_t4_b12 : t4 ≠ b12 := Nat.ne_of_lt (Nat.lt_of_lt_of_le V10.lt sb12)
      have Sf_b12 : Safe Z EL T8.vm h10 b12 := Safe.new sb12
      have g_b12 : n0 ≤ b12 := Nat.le_trans Z11 sb12
      have SfKK12 : ∀ x ∈ ([] : List Addr), Safe Z EL T8.vm h10 x := sf0
      replace S_COMPACT_STRINGS := Sta.keep S_COMPACT_STRINGS K12 ns0
      replace S_SIOOBE_FORMATTER := Sta.keep S_SIOOBE_FORMATTER K12 ns0
      replace E_b2 := E_b2.keep K12
      replace Fj4 := Fj4.keep K12 nin0
      replace E_o4 := E_o4.keep K12
      replace E_s6 := E_s6.keep K12
      replace F_coder_s6 := F_coder_s6.keep K12 nin0
      replace F_value_s6 := F_value_s6.keep K12 nin0
      replace V_c6 := V_c6.keep K12 nin0
      replace E_s8 := E_s8.keep K12
      replace F_coder_s8 := F_coder_s8.keep K12 nin0
      replace F_value_s8 := F_value_s8.keep K12 nin0
      replace V_c8 := V_c8.keep K12 nin0
      replace Fv10 := Fv10.keep K12 nin0
      replace Fc10 := Fc10.keep K12 nin0
      replace Fn10 := Fn10.keep K12 nin0
      replace V10 := V10.keep K12 nin0
      have Z13 : n0 ≤ h12.size := Nat.le_trans Z11 K12.1
      replace Sf_b2 := Safe.keep K12 SfKK12 RC.1 Sf_b2
      replace Sf_o4 := Safe.keep K12 SfKK12 RC.1 Sf_o4
      replace Sf_t4 := Safe.keep K12 SfKK12 RC.1 Sf_t4
      replace Sf_o12 := Safe.keep K12 SfKK12 RC.1 Sf_o12
      replace Sf_b12 := Safe.keep K12 SfKK12 RC.1 Sf_b12
      replace RC := RC.trans (CHr.keep K12 SfKK12 RC.1)
      replace hkS := Nat.le_trans hkS K12.1
      show W p e below _ (T12.setTop (mkF m 177 #[.val (.int p0), .val (.int p1), .val (.int (0 : Int32)), .val (.int (0 : Int32)), .val (.ref b2), .val (.ref s6), .val (.ref s8), .val (.ref b2)] [(.ref o12)]))
      refine W.go (fun _ hr => XS.aload X12.here hx rfl (hb hby at_177) rfl rfl hr) ?_
      show W p e below _ (T12.setTop (mkF m 179 #[.val (.int p0), .val (.int p1), .val (.int (0 : Int32)), .val (.int (0 : Int32)), .val (.ref b2), .val (.ref s6), .val (.ref s8), .val (.ref b2)] [(.ref s6), (.ref o12)]))
      refine W.callV X12 hx hZ hown (g := (mkF m 179 #[.val (.int p0), .val (.int p1), .val (.int (0 : Int32)), .val (.int (0 : Int32)), .val (.ref b2), .val (.ref s6), .val (.ref s8), .val (.ref b2)] [(.ref s6), (.ref o12)])) (by rw [hml]; rfl) (hw _ (List.mem_of_getElem? (i := 122) rfl)) (hw _ (List.mem_of_getElem? (i := 123) rfl)) (hw _ (List.mem_of_getElem? (i := 125) rfl)) (hw _ (List.mem_of_getElem? (i := 124) rfl)) (hw _ (List.mem_of_getElem? (i := 23) rfl)) (hw _ (List.mem_of_getElem? (i := 126) rfl)) e12 (rm22 l Z a0 hw o12 s6 b12 c6 kb12 kb6 (1 : Int32) (1 : Int32) [(93 : Int32)] [(93 : Int32)] (1 : Int32) zCS h12 n0 Z13 E_o12 F_value_o12 F_coder_o12 V_b12 E_s6 F_value_s6 F_coder_s6 V_c6 (by decide) (by decide) (Ne.symm ne_s6_o12) S_COMPACT_STRINGS hCS) (notFace_of_selects (args := #[]) (mvT hZ (hw _ (List.mem_of_getElem? (i := 125) rfl)))) (by decide) pd_438 rfl E_o12 (argsL := [(.ref s6)]) (rest := []) rfl rfl rfl (hb hby at_179) (W0 := 0) rfl (by decide) (by decide) (by decide) (by decide) (fun v14 T14 h14 L14 X14 e14 hQ14 => ?_)
      obtain ⟨rfl, N14q, hh14⟩ := hQ14
      obtain rfl := hh14.symm
      have N14 := Fr.app N12 N14q
      show W p e below _ (T14.setTop (mkF m 182 #[.val (.int p0), .val (.int p1), .val (.int (0 : Int32)), .val (.int (0 : Int32)), .val (.ref b2), .val (.ref s6), .val (.ref s8), .val (.ref b2)] [(.int (1 : Int32))]))
      refine W.go (fun _ hr => XS.ifYes X14.here hx rfl (pc0 := 182) (pc' := 187) rfl (hb hby at_182) rfl ((if0 _ _).trans (feq (by decide : ¬ ((1 : Int32) = (0 : Int32)))).2) (by decide) (by decide) hr) ?_
      show W p e below _ (T14.setTop (mkF m 187 #[.val (.int p0), .val (.int p1), .val (.int (0 : Int32)), .val (.int (0 : Int32)), .val (.ref b2), .val (.ref s6), .val (.ref s8), .val (.ref b2)] []))
      refine W.go (fun _ hr => XS.aload X14.here hx rfl (hb hby at_187) rfl rfl hr) ?_
      show W p e below _ (T14.setTop (mkF m 189 #[.val (.int p0), .val (.int p1), .val (.int (0 : Int32)), .val (.int (0 : Int32)), .val (.ref b2), .val (.ref s6), .val (.ref s8), .val (.ref b2)] [(.ref b2)]))
      refine W.go (fun _ hr => XS.iloadN X14.here hx rfl (hb hby at_189) rfl hr) ?_
      show W p e below _ (T14.setTop (mkF m 190 #[.val (.int p0), .val (.int p1), .val (.int (0 : Int32)), .val (.int (0 : Int32)), .val (.ref b2), .val (.ref s6), .val (.ref s8), .val (.ref b2)] [(.int (0 : Int32)), (.ref b2)]))
      refine W.callV X14 hx hZ hown (g := (mkF m 190 #[.val (.int p0), .val (.int p1), .val (.int (0 : Int32)), .val (.int (0 : Int32)), .val (.ref b2), .val (.ref s6), .val (.ref s8), .val (.ref b2)] [(.int (0 : Int32)), (.ref b2)])) (by rw [hml]; rfl) (hw _ (List.mem_of_getElem? (i := 132) rfl)) (hw _ (List.mem_of_getElem? (i := 133) rfl)) (hw _ (List.mem_of_getElem? (i := 135) rfl)) (hw _ (List.mem_of_getElem? (i := 134) rfl)) (hw _ (List.mem_of_getElem? (i := 2) rfl)) (hw _ (List.mem_of_getElem? (i := 136) rfl)) e14 (rm_value0Y l Z a0 hw b2 o4 t4 kt4 [(.int (93 : Int32))] (1 : Int32) (93 : Int32) [(.int (93 : Int32)), (.int (44 : Int32)), (.int (102 : Int32)), (.int (97 : Int32)), (.int (108 : Int32)), (.int (115 : Int32)), (.int (101 : Int32))] (7 : Int32) zCS wSF h12 n0 Z13 E_b2 Fj4 E_o4 Fv10 Fc10 Fn10 V10 S_COMPACT_STRINGS hCS S_SIOOBE_FORMATTER hSF (by decide) g_o4 g_t4 ne_b2_o4 ne_b2_t4 not4 ⟨by decide, by decide, by decide, rfl, by decide, by decide, by decide⟩ rfl (by decide)) (notFace_of_selects (args := #[]) (mvT hZ (hw _ (List.mem_of_getElem? (i := 135) rfl)))) (by decide) pd_439 rfl E_b2 (argsL := [(.int (0 : Int32))]) (rest := []) rfl rfl rfl (hb hby at_190) (W0 := 0) rfl (by decide) (by decide) (by decide) (by decide) (fun v15 T15 h15 L15 X15 e15 hQ15 => ?_)
      obtain ⟨rfl, N15q, K15, Eo15, Fv15, Fc15, Fn15, V15⟩ := hQ15
      have N15 := Fr.app N14 N15q
      have SfKK15 := (sfS Sf_o4 (sfS Sf_t4 sf0))
      have nsK15 := (nsS E_o4.nostat (nsS V10.nostat ns0))
      replace S_COMPACT_STRINGS := Sta.keep S_COMPACT_STRINGS K15 nsK15
      replace S_SIOOBE_FORMATTER := Sta.keep S_SIOOBE_FORMATTER K15 nsK15
      replace E_b2 := E_b2.keep K15
      replace Fj4 := Fj4.keep K15 (ninS ne_b2_o4 (ninS ne_b2_t4 nin0))
      replace E_o4 := E_o4.keep K15
      replace E_s6 := E_s6.keep K15
      replace F_coder_s6 := F_coder_s6.keep K15 (ninS (Ne.symm ne_o4_s6) (ninS (Ne.symm ne_t4_s6) nin0))
      replace F_value_s6 := F_value_s6.keep K15 (ninS (Ne.symm ne_o4_s6) (ninS (Ne.symm ne_t4_s6) nin0))
      replace V_c6 := V_c6.keep K15 (ninS (Ne.symm ne_o4_c6) (ninS (Ne.symm ne_t4_c6) nin0))
      replace E_s8 := E_s8.keep K15
      replace F_coder_s8 := F_coder_s8.keep K15 (ninS (Ne.symm ne_o4_s8) (ninS (Ne.symm ne_t4_s8) nin0))
      replace F_value_s8 := F_value_s8.keep K15 (ninS (Ne.symm ne_o4_s8) (ninS (Ne.symm ne_t4_s8) nin0))
      replace V_c8 := V_c8.keep K15 (ninS (Ne.symm ne_o4_c8) (ninS (Ne.symm ne_t4_c8) nin0))
      replace E_o12 := E_o12.keep K15
      replace F_value_o12 := F_value_o12.keep K15 (ninS (Ne.symm ne_o4_o12) (ninS (Ne.symm ne_t4_o12) nin0))
      replace F_coder_o12 := F_coder_o12.keep K15 (ninS (Ne.symm ne_o4_o12) (ninS (Ne.symm ne_t4_o12) nin0))
      replace E_b12 := E_b12.keep K15
      replace V_b12 := V_b12.keep K15 (ninS (Ne.symm ne_o4_b12) (ninS (Ne.symm ne_t4_b12) nin0))
      have Z16 : n0 ≤ h15.size := Nat.le_trans Z13 K15.1
      replace Sf_b2 := Safe.keep K15 SfKK15 RC.1 Sf_b2
      replace Sf_o4 := Safe.keep K15 SfKK15 RC.1 Sf_o4
      replace Sf_t4 := Safe.keep K15 SfKK15 RC.1 Sf_t4
      replace Sf_o12 := Safe.keep K15 SfKK15 RC.1 Sf_o12
      replace Sf_b12 := Safe.keep K15 SfKK15 RC.1 Sf_b12
      replace RC := RC.trans (CHr.keep K15 SfKK15 RC.1)
      replace hkS := Nat.le_trans hkS K15.1
      show W p e below _ (T15.setTop (mkF m 193 #[.val (.int p0), .val (.int p1), .val (.int (0 : Int32)), .val (.int (0 : Int32)), .val (.ref b2), .val (.ref s6), .val (.ref s8), .val (.ref b2)] [(.ref b2)]))
      refine W.go (fun _ hr => XS.pop X15.here hx rfl (hb hby at_193) rfl rfl hr) ?_
      show W p e below _ (T15.setTop (mkF m 194 #[.val (.int p0), .val (.int p1), .val (.int (0 : Int32)), .val (.int (0 : Int32)), .val (.ref b2), .val (.ref s6), .val (.ref s8), .val (.ref b2)] []))
      refine W.go (fun _ hr => XS.aload X15.here hx rfl (hb hby at_194) rfl rfl hr) ?_
      show W p e below _ (T15.setTop (mkF m 196 #[.val (.int p0), .val (.int p1), .val (.int (0 : Int32)), .val (.int (0 : Int32)), .val (.ref b2), .val (.ref s6), .val (.ref s8), .val (.ref b2)] [(.ref b2)]))
      refine W.callV X15 hx hZ hown (g := (mkF m 196 #[.val (.int p0), .val (.int p1), .val (.int (0 : Int32)), .val (.int (0 : Int32)), .val (.ref b2), .val (.ref s6), .val (.ref s8), .val (.ref b2)] [(.ref b2)])) (by rw [hml]; rfl) (hw _ (List.mem_of_getElem? (i := 69) rfl)) (hw _ (List.mem_of_getElem? (i := 70) rfl)) (hw _ (List.mem_of_getElem? (i := 72) rfl)) (hw _ (List.mem_of_getElem? (i := 71) rfl)) (hw _ (List.mem_of_getElem? (i := 2) rfl)) (hw _ (List.mem_of_getElem? (i := 73) rfl)) e15 (rm11 l Z a0 hw b2 o4 t4 kt4 [(.int (93 : Int32)), (.int (44 : Int32)), (.int (102 : Int32)), (.int (97 : Int32)), (.int (108 : Int32)), (.int (115 : Int32)), (.int (101 : Int32))] (7 : Int32) zCS h15 n0 Z16 E_b2 Fj4 E_o4 Fv15 Fc15 Fn15 V15 S_COMPACT_STRINGS hCS (by decide)) (notFace_of_selects (args := #[]) (mvT hZ (hw _ (List.mem_of_getElem? (i := 72) rfl)))) (by decide) pd_425 rfl E_b2 (argsL := []) (rest := []) rfl rfl rfl (hb hby at_196) (W0 := 0) rfl (by decide) (by decide) (by decide) (by decide) (fun v17 T17 h17 L17 X17 e17 hQ17 => ?_)
      obtain ⟨o17, b17, kb17, rfl, N17q, K17, so17, sb17, nob17, E_o17, F_value_o17, F_coder_o17, E_b17, V_b17⟩ := hQ17
      have N17 := Fr.app N15 N17q
      have ne_b2_o17 : b2 ≠ o17 := Nat.ne_of_lt (Nat.lt_of_lt_of_le E_b2.lt so17)
      have ne_o4_o17 : o4 ≠ o17 := Nat.ne_of_lt (Nat.lt_of_lt_of_le E_o4.lt so17)
      have ne_s6_o17 : s6 ≠ o17 := Nat.ne_of_lt (Nat.lt_of_lt_of_le E_s6.lt so17)
      have ne_c6_o17 : c6 ≠ o17 := Nat.ne_of_lt (Nat.lt_of_lt_of_le V_c6.lt so17)
      have ne_s8_o17 : s8 ≠ o17 := Nat.ne_of_lt (Nat.lt_of_lt_of_le E_s8.lt so17)
      have ne_c8_o17 : c8 ≠ o17 := Nat.ne_of_lt (Nat.lt_of_lt_of_le V_c8.lt so17)
      have ne_o12_o17 : o12 ≠ o17 := Nat.ne_of_lt (Nat.lt_of_lt_of_le E_o12.lt so17)
      have ne_b12_o17 : b12 ≠ o17 := Nat.ne_of_lt (Nat.lt_of_lt_of_le E_b12.lt so17)
      have ne_t4_o17 : t4 ≠ o17 := Nat.ne_of_lt (Nat.lt_of_lt_of_le V15.lt so17)
      have Sf_o17 : Safe Z EL T8.vm h15 o17 := Safe.new so17
      have g_o17 : n0 ≤ o17 := Nat.le_trans Z16 so17
      have ne_b2_b17 : b2 ≠ b17 := Nat.ne_of_lt (Nat.lt_of_lt_of_le E_b2.lt sb17)
      have ne_o4_b17 : o4 ≠ b17 := Nat.ne_of_lt (Nat.lt_of_lt_of_le E_o4.lt sb17)
      have ne_s6_b17 : s6 ≠ b17 := Nat.ne_of_lt (Nat.lt_of_lt_of_le E_s6.lt sb17)
      have ne_c6_b17 : c6 ≠ b17 := Nat.ne_of_lt (Nat.lt_of_lt_of_le V_c6.lt sb17)
      have ne_s8_b17 : s8 ≠ b17 := Nat.ne_of_lt (Nat.lt_of_lt_of_le E_s8.lt sb17)
      have ne_c8_b17 : c8 ≠ b17 := Nat.ne_of_lt (Nat.lt_of_lt_of_le V_c8.lt sb17)
      have ne_o12_b17 : o12 ≠ b17 := Nat.ne_of_lt (Nat.lt_of_lt_of_le E_o12.lt sb17)
      have ne_b12_b17 : b12 ≠ b17 := Nat.ne_of_lt (Nat.lt_of_lt_of_le E_b12.lt sb17)
      have ne_t4_b17 : t4 ≠ b17 := Nat.ne_of_lt (Nat.lt_of_lt_of_le V15.lt sb17)
      have Sf_b17 : Safe Z EL T8.vm h15 b17 := Safe.new sb17
      have g_b17 : n0 ≤ b17 := Nat.le_trans Z16 sb17
      have SfKK17 : ∀ x ∈ ([] : List Addr), Safe Z EL T8.vm h15 x := sf0
      replace S_COMPACT_STRINGS := Sta.keep S_COMPACT_STRINGS K17 ns0
      replace S_SIOOBE_FORMATTER := Sta.keep S_SIOOBE_FORMATTER K17 ns0
      replace E_b2 := E_b2.keep K17
      replace Fj4 := Fj4.keep K17 nin0
      replace E_o4 := E_o4.keep K17
      replace E_s6 := E_s6.keep K17
      replace F_coder_s6 := F_coder_s6.keep K17 nin0
      replace F_value_s6 := F_value_s6.keep K17 nin0
      replace V_c6 := V_c6.keep K17 nin0
      replace E_s8 := E_s8.keep K17
      replace F_coder_s8 := F_coder_s8.keep K17 nin0
      replace F_value_s8 := F_value_s8.keep K17 nin0
      replace V_c8 := V_c8.keep K17 nin0
      replace E_o12 := E_o12.keep K17
      replace F_value_o12 := F_value_o12.keep K17 nin0
      replace F_coder_o12 := F_coder_o12.keep K17 nin0
      replace E_b12 := E_b12.keep K17
      replace V_b12 := V_b12.keep K17 nin0
      replace Fv15 := Fv15.keep K17 nin0
      replace Fc15 := Fc15.keep K17 nin0
      replace Fn15 := Fn15.keep K17 nin0
      replace V15 := V15.keep K17 nin0
      have Z18 : n0 ≤ h17.size := Nat.le_trans Z16 K17.1
      replace Sf_b2 := Safe.keep K17 SfKK17 RC.1 Sf_b2
      replace Sf_o4 := Safe.keep K17 SfKK17 RC.1 Sf_o4
      replace Sf_t4 := Safe.keep K17 SfKK17 RC.1 Sf_t4
      replace Sf_o12 := Safe.keep K17 SfKK17 RC.1 Sf_o12
      replace Sf_b12 := Safe.keep K17 SfKK17 RC.1 Sf_b12
      replace Sf_o17 := Safe.keep K17 SfKK17 RC.1 Sf_o17
      replace Sf_b17 := Safe.keep K17 SfKK17 RC.1 Sf_b17
      replace RC := RC.trans (CHr.keep K17 SfKK17 RC.1)
      replace hkS := Nat.le_trans hkS K17.1
      show W p e below _ (T17.setTop (mkF m 199 #[.val (.int p0), .val (.int p1), .val (.int (0 : Int32)), .val (.int (0 : Int32)), .val (.ref b2), .val (.ref s6), .val (.ref s8), .val (.ref b2)] [(.ref o17)]))
      refine W.go (fun _ hr => XS.aload X17.here hx rfl (hb hby at_199) rfl rfl hr) ?_
      show W p e below _ (T17.setTop (mkF m 201 #[.val (.int p0), .val (.int p1), .val (.int (0 : Int32)), .val (.int (0 : Int32)), .val (.ref b2), .val (.ref s6), .val (.ref s8), .val (.ref b2)] [(.ref s8), (.ref o17)]))
      refine W.callV X17 hx hZ hown (g := (mkF m 201 #[.val (.int p0), .val (.int p1), .val (.int (0 : Int32)), .val (.int (0 : Int32)), .val (.ref b2), .val (.ref s6), .val (.ref s8), .val (.ref b2)] [(.ref s8), (.ref o17)])) (by rw [hml]; rfl) (hw _ (List.mem_of_getElem? (i := 122) rfl)) (hw _ (List.mem_of_getElem? (i := 123) rfl)) (hw _ (List.mem_of_getElem? (i := 125) rfl)) (hw _ (List.mem_of_getElem? (i := 124) rfl)) (hw _ (List.mem_of_getElem? (i := 23) rfl)) (hw _ (List.mem_of_getElem? (i := 126) rfl)) e17 (rm22 l Z a0 hw o17 s8 b17 c8 kb17 kb8 (7 : Int32) (7 : Int32) [(93 : Int32), (44 : Int32), (102 : Int32), (97 : Int32), (108 : Int32), (115 : Int32), (101 : Int32)] [(93 : Int32), (44 : Int32), (102 : Int32), (97 : Int32), (108 : Int32), (115 : Int32), (101 : Int32)] (1 : Int32) zCS h17 n0 Z18 E_o17 F_value_o17 F_coder_o17 V_b17 E_s8 F_value_s8 F_coder_s8 V_c8 (by decide) (by decide) (Ne.symm ne_s8_o17) S_COMPACT_STRINGS hCS) (notFace_of_selects (args := #[]) (mvT hZ (hw _ (List.mem_of_getElem? (i := 125) rfl)))) (by decide) pd_438 rfl E_o17 (argsL := [(.ref s8)]) (rest := []) rfl rfl rfl (hb hby at_201) (W0 := 0) rfl (by decide) (by decide) (by decide) (by decide) (fun v19 T19 h19 L19 X19 e19 hQ19 => ?_)
      obtain ⟨rfl, N19q, hh19⟩ := hQ19
      obtain rfl := hh19.symm
      have N19 := Fr.app N17 N19q
      show W p e below _ (T19.setTop (mkF m 204 #[.val (.int p0), .val (.int p1), .val (.int (0 : Int32)), .val (.int (0 : Int32)), .val (.ref b2), .val (.ref s6), .val (.ref s8), .val (.ref b2)] [(.int (1 : Int32))]))
      exact W.retBW X19 hx hlk (t := .boolean) hret (by simp) (hb hby at_204) hS hkS hZ own_EW' RC (by decide) (by decide) e19 ⟨rfl, N19⟩
    · refine W.go (fun _ hr => XS.ifNo X0.here hx rfl (hb hby at_7) rfl ((if0 _ _).trans (feq hc7_1).1) hr) ?_
      show W p e below _ (s₁.setTop (mkF m 10 #[.val (.int p0), .val (.int p1), .val (.int (0 : Int32)), .unset, .unset, .unset, .unset, .unset] []))
      refine W.go (fun _ hr => XS.iconst X0.here hx rfl (hb hby at_10) hr) ?_
      show W p e below _ (s₁.setTop (mkF m 11 #[.val (.int p0), .val (.int p1), .val (.int (0 : Int32)), .unset, .unset, .unset, .unset, .unset] [(.int (1 : Int32))]))
      refine W.go (fun _ hr => XS.goto X0.here hx rfl (pc0 := 11) (pc' := 15) rfl (hb hby at_11) (by decide) (by decide) hr) ?_
      show W p e below _ (s₁.setTop (mkF m 15 #[.val (.int p0), .val (.int p1), .val (.int (0 : Int32)), .unset, .unset, .unset, .unset, .unset] [(.int (1 : Int32))]))
      refine W.go (fun _ hr => XS.istoreN X0.here hx rfl (hb hby at_15) rfl (l' := #[.val (.int p0), .val (.int p1), .val (.int (0 : Int32)), .val (.int (1 : Int32)), .unset, .unset, .unset, .unset]) rfl hr) ?_
      show W p e below _ (s₁.setTop (mkF m 16 #[.val (.int p0), .val (.int p1), .val (.int (0 : Int32)), .val (.int (1 : Int32)), .unset, .unset, .unset, .unset] []))
      obtain ⟨T20, h20, X20, e20, E20, E_b20, D20, U20, st20⟩ := newO X0 hx hZ hown (hw _ (List.mem_of_getElem? (i := 0) rfl)) (hw _ (List.mem_of_getElem? (i := 1) rfl)) (hw _ (List.mem_of_getElem? (i := 2) rfl)) e0 (g := (mkF m 16 #[.val (.int p0), .val (.int p1), .val (.int (0 : Int32)), .val (.int (1 : Int32)), .unset, .unset, .unset, .unset] [])) rfl (hb hby at_16) (by decide) (by decide)
      obtain ⟨b20, g20⟩ : ∃ z, z = h0.size := ⟨_, rfl⟩
      rw [← g20] at E_b20 D20 U20 st20
      have Sf_b20 : Safe Z EL vm0 h0 b20 := Safe.new (Nat.le_of_eq g20.symm)
      have g_b20 : n0 ≤ b20 := Nat.le_trans Z0 (Nat.le_of_eq g20.symm)
      replace S_COMPACT_STRINGS := Sta.ext E20 S_COMPACT_STRINGS
      replace S_SIOOBE_FORMATTER := Sta.ext E20 S_SIOOBE_FORMATTER
      have Z21 : n0 ≤ h20.size := Nat.le_trans Z0 E20.1
      replace Sf_b20 := Safe.ext E20 RC.1 Sf_b20
      replace RC := RC.trans (CHr.ext E20 RC.1)
      replace hkS := Nat.le_trans hkS E20.1
      have F_json_b20 : Fld Z h20 b20 "org/allonym/cli/JsonWriter" "json" "Ljava/lang/StringBuilder;" .null := D20 (Or.inr (hw _ (List.mem_of_getElem? (i := 30) rfl))) (ty := (.object "java/lang/StringBuilder")) (by decide)
      refine W.go st20 ?_
      show W p e below _ (T20.setTop (mkF m 19 #[.val (.int p0), .val (.int p1), .val (.int (0 : Int32)), .val (.int (1 : Int32)), .unset, .unset, .unset, .unset] [(.ref b20)]))
      refine W.go (fun _ hr => XS.dup X20.here hx rfl (hb hby at_19) rfl rfl hr) ?_
      show W p e below _ (T20.setTop (mkF m 20 #[.val (.int p0), .val (.int p1), .val (.int (0 : Int32)), .val (.int (1 : Int32)), .unset, .unset, .unset, .unset] [(.ref b20), (.ref b20)]))
      refine W.callI X20 hx hZ hown (g := (mkF m 20 #[.val (.int p0), .val (.int p1), .val (.int (0 : Int32)), .val (.int (1 : Int32)), .unset, .unset, .unset, .unset] [(.ref b20), (.ref b20)])) (by rw [hml]; rfl) (hw _ (List.mem_of_getElem? (i := 3) rfl)) (hw _ (List.mem_of_getElem? (i := 4) rfl)) (hw _ (List.mem_of_getElem? (i := 2) rfl)) (hw _ (List.mem_of_getElem? (i := 5) rfl)) e20 (rm1 l Z a0 hw b20 zCS h20 n0 Z21 E_b20 F_json_b20 g_b20 S_COMPACT_STRINGS hCS) rfl (by decide) pd_407 rfl (b := b20) (argsL := []) (rest := [(.ref b20)]) rfl rfl rfl (hb hby at_20) (W0 := 1) rfl (by decide) (by decide) (by decide) (by decide) (fun v22 T22 h22 L22 X22 e22 hQ22 => ?_)
      obtain ⟨rfl, N22q, K22, Ee22, o22, t22, kt22, so22, st22, not22, Fj22, E_o22, F_value_o22, F_coder_o22, F_count_o22, V_t22⟩ := hQ22
      have N22 := Fr.app N0 N22q
      have ne_b20_o22 : b20 ≠ o22 := Nat.ne_of_lt (Nat.lt_of_lt_of_le E_b20.lt so22)
      have Sf_o22 : Safe Z EL vm0 h20 o22 := Safe.new so22
      have g_o22 : n0 ≤ o22 := Nat.le_trans Z21 so22
      have ne_b20_t22 : b20 ≠ t22 := Nat.ne_of_lt (Nat.lt_of_lt_of_le E_b20.lt st22)
      have Sf_t22 : Safe Z EL vm0 h20 t22 := Safe.new st22
      have g_t22 : n0 ≤ t22 := Nat.le_trans Z21 st22
      have SfKK22 := (sfS Sf_b20 sf0)
      have nsK22 := (nsS E_b20.nostat ns0)
      replace S_COMPACT_STRINGS := Sta.keep S_COMPACT_STRINGS K22 nsK22
      replace S_SIOOBE_FORMATTER := Sta.keep S_SIOOBE_FORMATTER K22 nsK22
      replace E_b20 := E_b20.keep K22
      have Z23 : n0 ≤ h22.size := Nat.le_trans Z21 K22.1
      replace Sf_b20 := Safe.keep K22 SfKK22 RC.1 Sf_b20
      replace Sf_o22 := Safe.keep K22 SfKK22 RC.1 Sf_o22
      replace Sf_t22 := Safe.keep K22 SfKK22 RC.1 Sf_t22
      replace RC := RC.trans (CHr.keep K22 SfKK22 RC.1)
      replace hkS := Nat.le_trans hkS K22.1
      show W p e below _ (T22.setTop (mkF m 23 #[.val (.int p0), .val (.int p1), .val (.int (0 : Int32)), .val (.int (1 : Int32)), .unset, .unset, .unset, .unset] [(.ref b20)]))
      refine W.go (fun _ hr => XS.astore X22.here hx rfl (hb hby at_23) rfl rfl (l' := #[.val (.int p0), .val (.int p1), .val (.int (0 : Int32)), .val (.int (1 : Int32)), .val (.ref b20), .unset, .unset, .unset]) rfl hr) ?_
      show W p e below _ (T22.setTop (mkF m 25 #[.val (.int p0), .val (.int p1), .val (.int (0 : Int32)), .val (.int (1 : Int32)), .val (.ref b20), .unset, .unset, .unset] []))
      refine W.go (fun _ hr => XS.iloadN X22.here hx rfl (hb hby at_25) rfl hr) ?_
      show W p e below _ (T22.setTop (mkF m 26 #[.val (.int p0), .val (.int p1), .val (.int (0 : Int32)), .val (.int (1 : Int32)), .val (.ref b20), .unset, .unset, .unset] [(.int (0 : Int32))]))
      refine W.go (fun _ hr => XS.ifNo X22.here hx rfl (hb hby at_26) rfl ((if0 _ _).trans (teq (by decide : ((0 : Int32) = (0 : Int32)))).2) hr) ?_
      show W p e below _ (T22.setTop (mkF m 29 #[.val (.int p0), .val (.int p1), .val (.int (0 : Int32)), .val (.int (1 : Int32)), .val (.ref b20), .unset, .unset, .unset] []))
      have lt24_b20 : b20 < h22.size := E_b20.lt
      have lt24_o22 : o22 < h22.size := E_o22.lt
      have lt24_t22 : t22 < h22.size := V_t22.lt
      obtain ⟨s24, T24, h24, kk24, c24, kb24, X24, e24, E24, hS, hkS, hZ, hown, E_s24, F_coder_s24, F_value_s24, V_c24, la24, lb24, hC24, hL24, hne24, st24⟩ := ldcCH X22 hx hZ hown (hw _ (List.mem_of_getElem? (i := 31) rfl)) own_sa' e22 hS hkS own_EW' (List.mem_of_getElem? (i := 0) rfl) RC.1 (vs := [(.int (93 : Int32))]) (z := (1 : Int32)) (by decide) (by decide) (by decide) (g := (mkF m 29 #[.val (.int p0), .val (.int p1), .val (.int (0 : Int32)), .val (.int (1 : Int32)), .val (.ref b20), .unset, .unset, .unset] [])) rfl (hb hby at_29) (n := 4) (by decide) (by decide) (by decide) (by decide)
      replace S_COMPACT_STRINGS := Sta.ext E24 S_COMPACT_STRINGS
      replace S_SIOOBE_FORMATTER := Sta.ext E24 S_SIOOBE_FORMATTER
      replace E_b20 := E_b20.ext E24
      replace Fj22 := Fj22.ext E24
      replace E_o22 := E_o22.ext E24
      replace F_value_o22 := F_value_o22.ext E24
      replace F_coder_o22 := F_coder_o22.ext E24
      replace F_count_o22 := F_count_o22.ext E24
      replace V_t22 := V_t22.ext E24
      have Z25 : n0 ≤ h24.size := Nat.le_trans Z23 E24.1
      replace Sf_b20 := hC24.safe lt24_b20 Sf_b20
      replace Sf_o22 := hC24.safe lt24_o22 Sf_o22
      replace Sf_t22 := hC24.safe lt24_t22 Sf_t22
      replace RC := RC.trans hC24
      have ne_b20_s24 := (hne24 b20 Sf_b20).1
      have ne_b20_c24 := (hne24 b20 Sf_b20).2
      have ne_o22_s24 := (hne24 o22 Sf_o22).1
      have ne_o22_c24 := (hne24 o22 Sf_o22).2
      have ne_t22_s24 := (hne24 t22 Sf_t22).1
      have ne_t22_c24 := (hne24 t22 Sf_t22).2
      refine W.go st24 ?_
      show W p e below _ (T24.setTop (mkF m 31 #[.val (.int p0), .val (.int p1), .val (.int (0 : Int32)), .val (.int (1 : Int32)), .val (.ref b20), .unset, .unset, .unset] [(.ref s24)]))
      refine W.go (fun _ hr => XS.astore X24.here hx rfl (hb hby at_31) rfl rfl (l' := #[.val (.int p0), .val (.int p1), .val (.int (0 : Int32)), .val (.int (1 : Int32)), .val (.ref b20), .val (.ref s24), .unset, .unset]) rfl hr) ?_
      show W p e below _ (T24.setTop (mkF m 33 #[.val (.int p0), .val (.int p1), .val (.int (0 : Int32)), .val (.int (1 : Int32)), .val (.ref b20), .val (.ref s24), .unset, .unset] []))
      refine W.go (fun _ hr => XS.iloadN X24.here hx rfl (hb hby at_33) rfl hr) ?_
      show W p e below _ (T24.setTop (mkF m 34 #[.val (.int p0), .val (.int p1), .val (.int (0 : Int32)), .val (.int (1 : Int32)), .val (.ref b20), .val (.ref s24), .unset, .unset] [(.int (1 : Int32))]))
      refine W.go (fun _ hr => XS.ifNo X24.here hx rfl (hb hby at_34) rfl ((if0 _ _).trans (feq (by decide : ¬ ((1 : Int32) = (0 : Int32)))).1) hr) ?_
      show W p e below _ (T24.setTop (mkF m 37 #[.val (.int p0), .val (.int p1), .val (.int (0 : Int32)), .val (.int (1 : Int32)), .val (.ref b20), .val (.ref s24), .unset, .unset] []))
      have lt26_b20 : b20 < h24.size := E_b20.lt
      have lt26_o22 : o22 < h24.size := E_o22.lt
      have lt26_t22 : t22 < h24.size := V_t22.lt
      obtain ⟨s26, T26, h26, kk26, c26, kb26, X26, e26, E26, hS, hkS, hZ, hown, E_s26, F_coder_s26, F_value_s26, V_c26, la26, lb26, hC26, hL26, hne26, st26⟩ := ldcCH X24 hx hZ hown (hw _ (List.mem_of_getElem? (i := 37) rfl)) own_sa' e24 hS hkS own_EW' (List.mem_of_getElem? (i := 1) rfl) RC.1 (vs := [(.int (93 : Int32)), (.int (44 : Int32)), (.int (116 : Int32)), (.int (114 : Int32)), (.int (117 : Int32)), (.int (101 : Int32))]) (z := (6 : Int32)) (by decide) (by decide) (by decide) (g := (mkF m 37 #[.val (.int p0), .val (.int p1), .val (.int (0 : Int32)), .val (.int (1 : Int32)), .val (.ref b20), .val (.ref s24), .unset, .unset] [])) rfl (hb hby at_37) (n := 24) (by decide) (by decide) (by decide) (by decide)
      replace S_COMPACT_STRINGS := Sta.ext E26 S_COMPACT_STRINGS
      replace S_SIOOBE_FORMATTER := Sta.ext E26 S_SIOOBE_FORMATTER
      replace E_b20 := E_b20.ext E26
      replace Fj22 := Fj22.ext E26
      replace E_o22 := E_o22.ext E26
      replace F_value_o22 := F_value_o22.ext E26
      replace F_coder_o22 := F_coder_o22.ext E26
      replace F_count_o22 := F_count_o22.ext E26
      replace V_t22 := V_t22.ext E26
      replace E_s24 := E_s24.ext E26
      replace F_coder_s24 := F_coder_s24.ext E26
      replace F_value_s24 := F_value_s24.ext E26
      replace V_c24 := V_c24.ext E26
      have Z27 : n0 ≤ h26.size := Nat.le_trans Z25 E26.1
      replace Sf_b20 := hC26.safe lt26_b20 Sf_b20
      replace Sf_o22 := hC26.safe lt26_o22 Sf_o22
      replace Sf_t22 := hC26.safe lt26_t22 Sf_t22
      replace RC := RC.trans hC26
      have ne_b20_s26 := (hne26 b20 Sf_b20).1
      have ne_b20_c26 := (hne26 b20 Sf_b20).2
      have ne_o22_s26 := (hne26 o22 Sf_o22).1
      have ne_o22_c26 := (hne26 o22 Sf_o22).2
      have ne_t22_s26 := (hne26 t22 Sf_t22).1
      have ne_t22_c26 := (hne26 t22 Sf_t22).2
      refine W.go st26 ?_
      show W p e below _ (T26.setTop (mkF m 39 #[.val (.int p0), .val (.int p1), .val (.int (0 : Int32)), .val (.int (1 : Int32)), .val (.ref b20), .val (.ref s24), .unset, .unset] [(.ref s26)]))
      refine W.go (fun _ hr => XS.goto X26.here hx rfl (pc0 := 39) (pc' := 44) rfl (hb hby at_39) (by decide) (by decide) hr) ?_
      show W p e below _ (T26.setTop (mkF m 44 #[.val (.int p0), .val (.int p1), .val (.int (0 : Int32)), .val (.int (1 : Int32)), .val (.ref b20), .val (.ref s24), .unset, .unset] [(.ref s26)]))
      refine W.go (fun _ hr => XS.astore X26.here hx rfl (hb hby at_44) rfl rfl (l' := #[.val (.int p0), .val (.int p1), .val (.int (0 : Int32)), .val (.int (1 : Int32)), .val (.ref b20), .val (.ref s24), .val (.ref s26), .unset]) rfl hr) ?_
      show W p e below _ (T26.setTop (mkF m 46 #[.val (.int p0), .val (.int p1), .val (.int (0 : Int32)), .val (.int (1 : Int32)), .val (.ref b20), .val (.ref s24), .val (.ref s26), .unset] []))
      refine W.go (fun _ hr => XS.goto X26.here hx rfl (pc0 := 46) (pc' := 156) rfl (hb hby at_46) (by decide) (by decide) hr) ?_
      show W p e below _ (T26.setTop (mkF m 156 #[.val (.int p0), .val (.int p1), .val (.int (0 : Int32)), .val (.int (1 : Int32)), .val (.ref b20), .val (.ref s24), .val (.ref s26), .unset] []))
      refine W.go (fun _ hr => XS.aload X26.here hx rfl (hb hby at_156) rfl rfl hr) ?_
      show W p e below _ (T26.setTop (mkF m 158 #[.val (.int p0), .val (.int p1), .val (.int (0 : Int32)), .val (.int (1 : Int32)), .val (.ref b20), .val (.ref s24), .val (.ref s26), .unset] [(.ref b20)]))
      refine W.callV X26 hx hZ hown (g := (mkF m 158 #[.val (.int p0), .val (.int p1), .val (.int (0 : Int32)), .val (.int (1 : Int32)), .val (.ref b20), .val (.ref s24), .val (.ref s26), .unset] [(.ref b20)])) (by rw [hml]; rfl) (hw _ (List.mem_of_getElem? (i := 38) rfl)) (hw _ (List.mem_of_getElem? (i := 39) rfl)) (hw _ (List.mem_of_getElem? (i := 41) rfl)) (hw _ (List.mem_of_getElem? (i := 40) rfl)) (hw _ (List.mem_of_getElem? (i := 2) rfl)) (hw _ (List.mem_of_getElem? (i := 42) rfl)) e26 (rm_endArray l Z a0 hw b20 o22 t22 kt22 [] (0 : Int32) [(.int (93 : Int32))] (1 : Int32) zCS wSF h26 n0 Z27 E_b20 Fj22 E_o22 F_value_o22 F_coder_o22 F_count_o22 V_t22 S_COMPACT_STRINGS hCS S_SIOOBE_FORMATTER hSF (by decide) g_o22 g_t22 ne_b20_o22 ne_b20_t22 not22  rfl (by decide)) (notFace_of_selects (args := #[]) (mvT hZ (hw _ (List.mem_of_getElem? (i := 41) rfl)))) (by decide) pd_437 rfl E_b20 (argsL := []) (rest := []) rfl rfl rfl (hb hby at_158) (W0 := 0) rfl (by decide) (by decide) (by decide) (by decide) (fun v28 T28 h28 L28 X28 e28 hQ28 => ?_)
      obtain ⟨rfl, N28q, K28, Eo28, Fv28, Fc28, Fn28, V28⟩ := hQ28
      have N28 := Fr.app N22 N28q
      have SfKK28 := (sfS Sf_o22 (sfS Sf_t22 sf0))
      have nsK28 := (nsS E_o22.nostat (nsS V_t22.nostat ns0))
      replace S_COMPACT_STRINGS := Sta.keep S_COMPACT_STRINGS K28 nsK28
      replace S_SIOOBE_FORMATTER := Sta.keep S_SIOOBE_FORMATTER K28 nsK28
      replace E_b20 := E_b20.keep K28
      replace Fj22 := Fj22.keep K28 (ninS ne_b20_o22 (ninS ne_b20_t22 nin0))
      replace E_o22 := E_o22.keep K28
      replace E_s24 := E_s24.keep K28
      replace F_coder_s24 := F_coder_s24.keep K28 (ninS (Ne.symm ne_o22_s24) (ninS (Ne.symm ne_t22_s24) nin0))
      replace F_value_s24 := F_value_s24.keep K28 (ninS (Ne.symm ne_o22_s24) (ninS (Ne.symm ne_t22_s24) nin0))
      replace V_c24 := V_c24.keep K28 (ninS (Ne.symm ne_o22_c24) (ninS (Ne.symm ne_t22_c24) nin0))
      replace E_s26 := E_s26.keep K28
      replace F_coder_s26 := F_coder_s26.keep K28 (ninS (Ne.symm ne_o22_s26) (ninS (Ne.symm ne_t22_s26) nin0))
      replace F_value_s26 := F_value_s26.keep K28 (ninS (Ne.symm ne_o22_s26) (ninS (Ne.symm ne_t22_s26) nin0))
      replace V_c26 := V_c26.keep K28 (ninS (Ne.symm ne_o22_c26) (ninS (Ne.symm ne_t22_c26) nin0))
      have Z29 : n0 ≤ h28.size := Nat.le_trans Z27 K28.1
      replace Sf_b20 := Safe.keep K28 SfKK28 RC.1 Sf_b20
      replace Sf_o22 := Safe.keep K28 SfKK28 RC.1 Sf_o22
      replace Sf_t22 := Safe.keep K28 SfKK28 RC.1 Sf_t22
      replace RC := RC.trans (CHr.keep K28 SfKK28 RC.1)
      replace hkS := Nat.le_trans hkS K28.1
      show W p e below _ (T28.setTop (mkF m 161 #[.val (.int p0), .val (.int p1), .val (.int (0 : Int32)), .val (.int (1 : Int32)), .val (.ref b20), .val (.ref s24), .val (.ref s26), .unset] [(.ref b20)]))
      refine W.go (fun _ hr => XS.astore X28.here hx rfl (hb hby at_161) rfl rfl (l' := #[.val (.int p0), .val (.int p1), .val (.int (0 : Int32)), .val (.int (1 : Int32)), .val (.ref b20), .val (.ref s24), .val (.ref s26), .val (.ref b20)]) rfl hr) ?_
      show W p e below _ (T28.setTop (mkF m 163 #[.val (.int p0), .val (.int p1), .val (.int (0 : Int32)), .val (.int (1 : Int32)), .val (.ref b20), .val (.ref s24), .val (.ref s26), .val (.ref b20)] []))
      refine W.go (fun _ hr => XS.aload X28.here hx rfl (hb hby at_163) rfl rfl hr) ?_
      show W p e below _ (T28.setTop (mkF m 165 #[.val (.int p0), .val (.int p1), .val (.int (0 : Int32)), .val (.int (1 : Int32)), .val (.ref b20), .val (.ref s24), .val (.ref s26), .val (.ref b20)] [(.ref b20)]))
      refine W.go (fun _ hr => XS.aload X28.here hx rfl (hb hby at_165) rfl rfl hr) ?_
      show W p e below _ (T28.setTop (mkF m 167 #[.val (.int p0), .val (.int p1), .val (.int (0 : Int32)), .val (.int (1 : Int32)), .val (.ref b20), .val (.ref s24), .val (.ref s26), .val (.ref b20)] [(.ref b20), (.ref b20)]))
      refine W.go (fun _ hr => Jvm.RoadKit.acmp (g := (mkF m 167 #[.val (.int p0), .val (.int p1), .val (.int (0 : Int32)), .val (.int (1 : Int32)), .val (.ref b20), .val (.ref s24), .val (.ref s26), .val (.ref b20)] [(.ref b20), (.ref b20)])) X28 hx rfl rfl rfl (pc0 := 167) (pc' := 172) (same := true) rfl (hb hby at_167) rfl (decide_eq_true rfl) (by decide) (by decide) hr) ?_
      show W p e below _ (T28.setTop (mkF m 172 #[.val (.int p0), .val (.int p1), .val (.int (0 : Int32)), .val (.int (1 : Int32)), .val (.ref b20), .val (.ref s24), .val (.ref s26), .val (.ref b20)] []))
      refine W.go (fun _ hr => XS.aload X28.here hx rfl (hb hby at_172) rfl rfl hr) ?_
      show W p e below _ (T28.setTop (mkF m 174 #[.val (.int p0), .val (.int p1), .val (.int (0 : Int32)), .val (.int (1 : Int32)), .val (.ref b20), .val (.ref s24), .val (.ref s26), .val (.ref b20)] [(.ref b20)]))
      refine W.callV X28 hx hZ hown (g := (mkF m 174 #[.val (.int p0), .val (.int p1), .val (.int (0 : Int32)), .val (.int (1 : Int32)), .val (.ref b20), .val (.ref s24), .val (.ref s26), .val (.ref b20)] [(.ref b20)])) (by rw [hml]; rfl) (hw _ (List.mem_of_getElem? (i := 69) rfl)) (hw _ (List.mem_of_getElem? (i := 70) rfl)) (hw _ (List.mem_of_getElem? (i := 72) rfl)) (hw _ (List.mem_of_getElem? (i := 71) rfl)) (hw _ (List.mem_of_getElem? (i := 2) rfl)) (hw _ (List.mem_of_getElem? (i := 73) rfl)) e28 (rm11 l Z a0 hw b20 o22 t22 kt22 [(.int (93 : Int32))] (1 : Int32) zCS h28 n0 Z29 E_b20 Fj22 E_o22 Fv28 Fc28 Fn28 V28 S_COMPACT_STRINGS hCS (by decide)) (notFace_of_selects (args := #[]) (mvT hZ (hw _ (List.mem_of_getElem? (i := 72) rfl)))) (by decide) pd_425 rfl E_b20 (argsL := []) (rest := []) rfl rfl rfl (hb hby at_174) (W0 := 0) rfl (by decide) (by decide) (by decide) (by decide) (fun v30 T30 h30 L30 X30 e30 hQ30 => ?_)
      obtain ⟨o30, b30, kb30, rfl, N30q, K30, so30, sb30, nob30, E_o30, F_value_o30, F_coder_o30, E_b30, V_b30⟩ := hQ30
      have N30 := Fr.app N28 N30q
      have ne_b20_o30 : b20 ≠ o30 := Nat.ne_of_lt (Nat.lt_of_lt_of_le E_b20.lt so30)
      have ne_o22_o30 : o22 ≠ o30 := Nat.ne_of_lt (Nat.lt_of_lt_of_le E_o22.lt so30)
      have ne_s24_o30 : s24 ≠ o30 := Nat.ne_of_lt (Nat.lt_of_lt_of_le E_s24.lt so30)
      have ne_c24_o30 : c24 ≠ o30 := Nat.ne_of_lt (Nat.lt_of_lt_of_le V_c24.lt so30)
      have ne_s26_o30 : s26 ≠ o30 := Nat.ne_of_lt (Nat.lt_of_lt_of_le E_s26.lt so30)
      have ne_c26_o30 : c26 ≠ o30 := Nat.ne_of_lt (Nat.lt_of_lt_of_le V_c26.lt so30)
      have ne_t22_o30 : t22 ≠ o30 := Nat.ne_of_lt (Nat.lt_of_lt_of_le V28.lt so30)
      have Sf_o30 : Safe Z EL T26.vm h28 o30 := Safe.new so30
      have g_o30 : n0 ≤ o30 := Nat.le_trans Z29 so30
      have ne_b20_b30 : b20 ≠ b30 := Nat.ne_of_lt (Nat.lt_of_lt_of_le E_b20.lt sb30)
      have ne_o22_b30 : o22 ≠ b30 := Nat.ne_of_lt (Nat.lt_of_lt_of_le E_o22.lt sb30)
      have ne_s24_b30 : s24 ≠ b30 := Nat.ne_of_lt (Nat.lt_of_lt_of_le E_s24.lt sb30)
      have ne_c24_b30 : c24 ≠ b30 := Nat.ne_of_lt (Nat.lt_of_lt_of_le V_c24.lt sb30)
      have ne_s26_b30 : s26 ≠ b30 := Nat.ne_of_lt (Nat.lt_of_lt_of_le E_s26.lt sb30)
      have ne_c26_b30 : c26 ≠ b30 := Nat.ne_of_lt (Nat.lt_of_lt_of_le V_c26.lt sb30)
      have ne_t22_b30 : t22 ≠ b30 := Nat.ne_of_lt (Nat.lt_of_lt_of_le V28.lt sb30)
      have Sf_b30 : Safe Z EL T26.vm h28 b30 := Safe.new sb30
      have g_b30 : n0 ≤ b30 := Nat.le_trans Z29 sb30
      have SfKK30 : ∀ x ∈ ([] : List Addr), Safe Z EL T26.vm h28 x := sf0
      replace S_COMPACT_STRINGS := Sta.keep S_COMPACT_STRINGS K30 ns0
      replace S_SIOOBE_FORMATTER := Sta.keep S_SIOOBE_FORMATTER K30 ns0
      replace E_b20 := E_b20.keep K30
      replace Fj22 := Fj22.keep K30 nin0
      replace E_o22 := E_o22.keep K30
      replace E_s24 := E_s24.keep K30
      replace F_coder_s24 := F_coder_s24.keep K30 nin0
      replace F_value_s24 := F_value_s24.keep K30 nin0
      replace V_c24 := V_c24.keep K30 nin0
      replace E_s26 := E_s26.keep K30
      replace F_coder_s26 := F_coder_s26.keep K30 nin0
      replace F_value_s26 := F_value_s26.keep K30 nin0
      replace V_c26 := V_c26.keep K30 nin0
      replace Fv28 := Fv28.keep K30 nin0
      replace Fc28 := Fc28.keep K30 nin0
      replace Fn28 := Fn28.keep K30 nin0
      replace V28 := V28.keep K30 nin0
      have Z31 : n0 ≤ h30.size := Nat.le_trans Z29 K30.1
      replace Sf_b20 := Safe.keep K30 SfKK30 RC.1 Sf_b20
      replace Sf_o22 := Safe.keep K30 SfKK30 RC.1 Sf_o22
      replace Sf_t22 := Safe.keep K30 SfKK30 RC.1 Sf_t22
      replace Sf_o30 := Safe.keep K30 SfKK30 RC.1 Sf_o30
      replace Sf_b30 := Safe.keep K30 SfKK30 RC.1 Sf_b30
      replace RC := RC.trans (CHr.keep K30 SfKK30 RC.1)
      replace hkS := Nat.le_trans hkS K30.1
      show W p e below _ (T30.setTop (mkF m 177 #[.val (.int p0), .val (.int p1), .val (.int (0 : Int32)), .val (.int (1 : Int32)), .val (.ref b20), .val (.ref s24), .val (.ref s26), .val (.ref b20)] [(.ref o30)]))
      refine W.go (fun _ hr => XS.aload X30.here hx rfl (hb hby at_177) rfl rfl hr) ?_
      show W p e below _ (T30.setTop (mkF m 179 #[.val (.int p0), .val (.int p1), .val (.int (0 : Int32)), .val (.int (1 : Int32)), .val (.ref b20), .val (.ref s24), .val (.ref s26), .val (.ref b20)] [(.ref s24), (.ref o30)]))
      refine W.callV X30 hx hZ hown (g := (mkF m 179 #[.val (.int p0), .val (.int p1), .val (.int (0 : Int32)), .val (.int (1 : Int32)), .val (.ref b20), .val (.ref s24), .val (.ref s26), .val (.ref b20)] [(.ref s24), (.ref o30)])) (by rw [hml]; rfl) (hw _ (List.mem_of_getElem? (i := 122) rfl)) (hw _ (List.mem_of_getElem? (i := 123) rfl)) (hw _ (List.mem_of_getElem? (i := 125) rfl)) (hw _ (List.mem_of_getElem? (i := 124) rfl)) (hw _ (List.mem_of_getElem? (i := 23) rfl)) (hw _ (List.mem_of_getElem? (i := 126) rfl)) e30 (rm22 l Z a0 hw o30 s24 b30 c24 kb30 kb24 (1 : Int32) (1 : Int32) [(93 : Int32)] [(93 : Int32)] (1 : Int32) zCS h30 n0 Z31 E_o30 F_value_o30 F_coder_o30 V_b30 E_s24 F_value_s24 F_coder_s24 V_c24 (by decide) (by decide) (Ne.symm ne_s24_o30) S_COMPACT_STRINGS hCS) (notFace_of_selects (args := #[]) (mvT hZ (hw _ (List.mem_of_getElem? (i := 125) rfl)))) (by decide) pd_438 rfl E_o30 (argsL := [(.ref s24)]) (rest := []) rfl rfl rfl (hb hby at_179) (W0 := 0) rfl (by decide) (by decide) (by decide) (by decide) (fun v32 T32 h32 L32 X32 e32 hQ32 => ?_)
      obtain ⟨rfl, N32q, hh32⟩ := hQ32
      obtain rfl := hh32.symm
      have N32 := Fr.app N30 N32q
      show W p e below _ (T32.setTop (mkF m 182 #[.val (.int p0), .val (.int p1), .val (.int (0 : Int32)), .val (.int (1 : Int32)), .val (.ref b20), .val (.ref s24), .val (.ref s26), .val (.ref b20)] [(.int (1 : Int32))]))
      refine W.go (fun _ hr => XS.ifYes X32.here hx rfl (pc0 := 182) (pc' := 187) rfl (hb hby at_182) rfl ((if0 _ _).trans (feq (by decide : ¬ ((1 : Int32) = (0 : Int32)))).2) (by decide) (by decide) hr) ?_
      show W p e below _ (T32.setTop (mkF m 187 #[.val (.int p0), .val (.int p1), .val (.int (0 : Int32)), .val (.int (1 : Int32)), .val (.ref b20), .val (.ref s24), .val (.ref s26), .val (.ref b20)] []))
      refine W.go (fun _ hr => XS.aload X32.here hx rfl (hb hby at_187) rfl rfl hr) ?_
      show W p e below _ (T32.setTop (mkF m 189 #[.val (.int p0), .val (.int p1), .val (.int (0 : Int32)), .val (.int (1 : Int32)), .val (.ref b20), .val (.ref s24), .val (.ref s26), .val (.ref b20)] [(.ref b20)]))
      refine W.go (fun _ hr => XS.iloadN X32.here hx rfl (hb hby at_189) rfl hr) ?_
      show W p e below _ (T32.setTop (mkF m 190 #[.val (.int p0), .val (.int p1), .val (.int (0 : Int32)), .val (.int (1 : Int32)), .val (.ref b20), .val (.ref s24), .val (.ref s26), .val (.ref b20)] [(.int (1 : Int32)), (.ref b20)]))
      refine W.callV X32 hx hZ hown (g := (mkF m 190 #[.val (.int p0), .val (.int p1), .val (.int (0 : Int32)), .val (.int (1 : Int32)), .val (.ref b20), .val (.ref s24), .val (.ref s26), .val (.ref b20)] [(.int (1 : Int32)), (.ref b20)])) (by rw [hml]; rfl) (hw _ (List.mem_of_getElem? (i := 132) rfl)) (hw _ (List.mem_of_getElem? (i := 133) rfl)) (hw _ (List.mem_of_getElem? (i := 135) rfl)) (hw _ (List.mem_of_getElem? (i := 134) rfl)) (hw _ (List.mem_of_getElem? (i := 2) rfl)) (hw _ (List.mem_of_getElem? (i := 136) rfl)) e32 (rm_value1Y l Z a0 hw b20 o22 t22 kt22 [(.int (93 : Int32))] (1 : Int32) (93 : Int32) [(.int (93 : Int32)), (.int (44 : Int32)), (.int (116 : Int32)), (.int (114 : Int32)), (.int (117 : Int32)), (.int (101 : Int32))] (6 : Int32) zCS wSF h30 n0 Z31 E_b20 Fj22 E_o22 Fv28 Fc28 Fn28 V28 S_COMPACT_STRINGS hCS S_SIOOBE_FORMATTER hSF (by decide) g_o22 g_t22 ne_b20_o22 ne_b20_t22 not22 ⟨by decide, by decide, by decide, rfl, by decide, by decide, by decide⟩ rfl (by decide)) (notFace_of_selects (args := #[]) (mvT hZ (hw _ (List.mem_of_getElem? (i := 135) rfl)))) (by decide) pd_439 rfl E_b20 (argsL := [(.int (1 : Int32))]) (rest := []) rfl rfl rfl (hb hby at_190) (W0 := 0) rfl (by decide) (by decide) (by decide) (by decide) (fun v33 T33 h33 L33 X33 e33 hQ33 => ?_)
      obtain ⟨rfl, N33q, K33, Eo33, Fv33, Fc33, Fn33, V33⟩ := hQ33
      have N33 := Fr.app N32 N33q
      have SfKK33 := (sfS Sf_o22 (sfS Sf_t22 sf0))
      have nsK33 := (nsS E_o22.nostat (nsS V28.nostat ns0))
      replace S_COMPACT_STRINGS := Sta.keep S_COMPACT_STRINGS K33 nsK33
      replace S_SIOOBE_FORMATTER := Sta.keep S_SIOOBE_FORMATTER K33 nsK33
      replace E_b20 := E_b20.keep K33
      replace Fj22 := Fj22.keep K33 (ninS ne_b20_o22 (ninS ne_b20_t22 nin0))
      replace E_o22 := E_o22.keep K33
      replace E_s24 := E_s24.keep K33
      replace F_coder_s24 := F_coder_s24.keep K33 (ninS (Ne.symm ne_o22_s24) (ninS (Ne.symm ne_t22_s24) nin0))
      replace F_value_s24 := F_value_s24.keep K33 (ninS (Ne.symm ne_o22_s24) (ninS (Ne.symm ne_t22_s24) nin0))
      replace V_c24 := V_c24.keep K33 (ninS (Ne.symm ne_o22_c24) (ninS (Ne.symm ne_t22_c24) nin0))
      replace E_s26 := E_s26.keep K33
      replace F_coder_s26 := F_coder_s26.keep K33 (ninS (Ne.symm ne_o22_s26) (ninS (Ne.symm ne_t22_s26) nin0))
      replace F_value_s26 := F_value_s26.keep K33 (ninS (Ne.symm ne_o22_s26) (ninS (Ne.symm ne_t22_s26) nin0))
      replace V_c26 := V_c26.keep K33 (ninS (Ne.symm ne_o22_c26) (ninS (Ne.symm ne_t22_c26) nin0))
      replace E_o30 := E_o30.keep K33
      replace F_value_o30 := F_value_o30.keep K33 (ninS (Ne.symm ne_o22_o30) (ninS (Ne.symm ne_t22_o30) nin0))
      replace F_coder_o30 := F_coder_o30.keep K33 (ninS (Ne.symm ne_o22_o30) (ninS (Ne.symm ne_t22_o30) nin0))
      replace E_b30 := E_b30.keep K33
      replace V_b30 := V_b30.keep K33 (ninS (Ne.symm ne_o22_b30) (ninS (Ne.symm ne_t22_b30) nin0))
      have Z34 : n0 ≤ h33.size := Nat.le_trans Z31 K33.1
      replace Sf_b20 := Safe.keep K33 SfKK33 RC.1 Sf_b20
      replace Sf_o22 := Safe.keep K33 SfKK33 RC.1 Sf_o22
      replace Sf_t22 := Safe.keep K33 SfKK33 RC.1 Sf_t22
      replace Sf_o30 := Safe.keep K33 SfKK33 RC.1 Sf_o30
      replace Sf_b30 := Safe.keep K33 SfKK33 RC.1 Sf_b30
      replace RC := RC.trans (CHr.keep K33 SfKK33 RC.1)
      replace hkS := Nat.le_trans hkS K33.1
      show W p e below _ (T33.setTop (mkF m 193 #[.val (.int p0), .val (.int p1), .val (.int (0 : Int32)), .val (.int (1 : Int32)), .val (.ref b20), .val (.ref s24), .val (.ref s26), .val (.ref b20)] [(.ref b20)]))
      refine W.go (fun _ hr => XS.pop X33.here hx rfl (hb hby at_193) rfl rfl hr) ?_
      show W p e below _ (T33.setTop (mkF m 194 #[.val (.int p0), .val (.int p1), .val (.int (0 : Int32)), .val (.int (1 : Int32)), .val (.ref b20), .val (.ref s24), .val (.ref s26), .val (.ref b20)] []))
      refine W.go (fun _ hr => XS.aload X33.here hx rfl (hb hby at_194) rfl rfl hr) ?_
      show W p e below _ (T33.setTop (mkF m 196 #[.val (.int p0), .val (.int p1), .val (.int (0 : Int32)), .val (.int (1 : Int32)), .val (.ref b20), .val (.ref s24), .val (.ref s26), .val (.ref b20)] [(.ref b20)]))
      refine W.callV X33 hx hZ hown (g := (mkF m 196 #[.val (.int p0), .val (.int p1), .val (.int (0 : Int32)), .val (.int (1 : Int32)), .val (.ref b20), .val (.ref s24), .val (.ref s26), .val (.ref b20)] [(.ref b20)])) (by rw [hml]; rfl) (hw _ (List.mem_of_getElem? (i := 69) rfl)) (hw _ (List.mem_of_getElem? (i := 70) rfl)) (hw _ (List.mem_of_getElem? (i := 72) rfl)) (hw _ (List.mem_of_getElem? (i := 71) rfl)) (hw _ (List.mem_of_getElem? (i := 2) rfl)) (hw _ (List.mem_of_getElem? (i := 73) rfl)) e33 (rm11 l Z a0 hw b20 o22 t22 kt22 [(.int (93 : Int32)), (.int (44 : Int32)), (.int (116 : Int32)), (.int (114 : Int32)), (.int (117 : Int32)), (.int (101 : Int32))] (6 : Int32) zCS h33 n0 Z34 E_b20 Fj22 E_o22 Fv33 Fc33 Fn33 V33 S_COMPACT_STRINGS hCS (by decide)) (notFace_of_selects (args := #[]) (mvT hZ (hw _ (List.mem_of_getElem? (i := 72) rfl)))) (by decide) pd_425 rfl E_b20 (argsL := []) (rest := []) rfl rfl rfl (hb hby at_196) (W0 := 0) rfl (by decide) (by decide) (by decide) (by decide) (fun v35 T35 h35 L35 X35 e35 hQ35 => ?_)
      obtain ⟨o35, b35, kb35, rfl, N35q, K35, so35, sb35, nob35, E_o35, F_value_o35, F_coder_o35, E_b35, V_b35⟩ := hQ35
      have N35 := Fr.app N33 N35q
      have ne_b20_o35 : b20 ≠ o35 := Nat.ne_of_lt (Nat.lt_of_lt_of_le E_b20.lt so35)
      have ne_o22_o35 : o22 ≠ o35 := Nat.ne_of_lt (Nat.lt_of_lt_of_le E_o22.lt so35)
      have ne_s24_o35 : s24 ≠ o35 := Nat.ne_of_lt (Nat.lt_of_lt_of_le E_s24.lt so35)
      have ne_c24_o35 : c24 ≠ o35 := Nat.ne_of_lt (Nat.lt_of_lt_of_le V_c24.lt so35)
      have ne_s26_o35 : s26 ≠ o35 := Nat.ne_of_lt (Nat.lt_of_lt_of_le E_s26.lt so35)
      have ne_c26_o35 : c26 ≠ o35 := Nat.ne_of_lt (Nat.lt_of_lt_of_le V_c26.lt so35)
      have ne_o30_o35 : o30 ≠ o35 := Nat.ne_of_lt (Nat.lt_of_lt_of_le E_o30.lt so35)
      have ne_b30_o35 : b30 ≠ o35 := Nat.ne_of_lt (Nat.lt_of_lt_of_le E_b30.lt so35)
      have ne_t22_o35 : t22 ≠ o35 := Nat.ne_of_lt (Nat.lt_of_lt_of_le V33.lt so35)
      have Sf_o35 : Safe Z EL T26.vm h33 o35 := Safe.new so35
      have g_o35 : n0 ≤ o35 := Nat.le_trans Z34 so35
      have ne_b20_b35 : b20 ≠ b35 := Nat.ne_of_lt (Nat.lt_of_lt_of_le E_b20.lt sb35)
      have ne_o22_b35 : o22 ≠ b35 := Nat.ne_of_lt (Nat.lt_of_lt_of_le E_o22.lt sb35)
      have ne_s24_b35 : s24 ≠ b35 := Nat.ne_of_lt (Nat.lt_of_lt_of_le E_s24.lt sb35)
      have ne_c24_b35 : c24 ≠ b35 := Nat.ne_of_lt (Nat.lt_of_lt_of_le V_c24.lt sb35)
      have ne_s26_b35 : s26 ≠ b35 := Nat.ne_of_lt (Nat.lt_of_lt_of_le E_s26.lt sb35)
      have ne_c26_b35 : c26 ≠ b35 := Nat.ne_of_lt (Nat.lt_of_lt_of_le V_c26.lt sb35)
      have ne_o30_b35 : o30 ≠ b35 := Nat.ne_of_lt (Nat.lt_of_lt_of_le E_o30.lt sb35)
      have ne_b30_b35 : b30 ≠ b35 := Nat.ne_of_lt (Nat.lt_of_lt_of_le E_b30.lt sb35)
      have ne_t22_b35 : t22 ≠ b35 := Nat.ne_of_lt (Nat.lt_of_lt_of_le V33.lt sb35)
      have Sf_b35 : Safe Z EL T26.vm h33 b35 := Safe.new sb35
      have g_b35 : n0 ≤ b35 := Nat.le_trans Z34 sb35
      have SfKK35 : ∀ x ∈ ([] : List Addr), Safe Z EL T26.vm h33 x := sf0
      replace S_COMPACT_STRINGS := Sta.keep S_COMPACT_STRINGS K35 ns0
      replace S_SIOOBE_FORMATTER := Sta.keep S_SIOOBE_FORMATTER K35 ns0
      replace E_b20 := E_b20.keep K35
      replace Fj22 := Fj22.keep K35 nin0
      replace E_o22 := E_o22.keep K35
      replace E_s24 := E_s24.keep K35
      replace F_coder_s24 := F_coder_s24.keep K35 nin0
      replace F_value_s24 := F_value_s24.keep K35 nin0
      replace V_c24 := V_c24.keep K35 nin0
      replace E_s26 := E_s26.keep K35
      replace F_coder_s26 := F_coder_s26.keep K35 nin0
      replace F_value_s26 := F_value_s26.keep K35 nin0
      replace V_c26 := V_c26.keep K35 nin0
      replace E_o30 := E_o30.keep K35
      replace F_value_o30 := F_value_o30.keep K35 nin0
      replace F_coder_o30 := F_coder_o30.keep K35 nin0
      replace E_b30 := E_b30.keep K35
      replace V_b30 := V_b30.keep K35 nin0
      replace Fv33 := Fv33.keep K35 nin0
      replace Fc33 := Fc33.keep K35 nin0
      replace Fn33 := Fn33.keep K35 nin0
      replace V33 := V33.keep K35 nin0
      have Z36 : n0 ≤ h35.size := Nat.le_trans Z34 K35.1
      replace Sf_b20 := Safe.keep K35 SfKK35 RC.1 Sf_b20
      replace Sf_o22 := Safe.keep K35 SfKK35 RC.1 Sf_o22
      replace Sf_t22 := Safe.keep K35 SfKK35 RC.1 Sf_t22
      replace Sf_o30 := Safe.keep K35 SfKK35 RC.1 Sf_o30
      replace Sf_b30 := Safe.keep K35 SfKK35 RC.1 Sf_b30
      replace Sf_o35 := Safe.keep K35 SfKK35 RC.1 Sf_o35
      replace Sf_b35 := Safe.keep K35 SfKK35 RC.1 Sf_b35
      replace RC := RC.trans (CHr.keep K35 SfKK35 RC.1)
      replace hkS := Nat.le_trans hkS K35.1
      show W p e below _ (T35.setTop (mkF m 199 #[.val (.int p0), .val (.int p1), .val (.int (0 : Int32)), .val (.int (1 : Int32)), .val (.ref b20), .val (.ref s24), .val (.ref s26), .val (.ref b20)] [(.ref o35)]))
      refine W.go (fun _ hr => XS.aload X35.here hx rfl (hb hby at_199) rfl rfl hr) ?_
      show W p e below _ (T35.setTop (mkF m 201 #[.val (.int p0), .val (.int p1), .val (.int (0 : Int32)), .val (.int (1 : Int32)), .val (.ref b20), .val (.ref s24), .val (.ref s26), .val (.ref b20)] [(.ref s26), (.ref o35)]))
      refine W.callV X35 hx hZ hown (g := (mkF m 201 #[.val (.int p0), .val (.int p1), .val (.int (0 : Int32)), .val (.int (1 : Int32)), .val (.ref b20), .val (.ref s24), .val (.ref s26), .val (.ref b20)] [(.ref s26), (.ref o35)])) (by rw [hml]; rfl) (hw _ (List.mem_of_getElem? (i := 122) rfl)) (hw _ (List.mem_of_getElem? (i := 123) rfl)) (hw _ (List.mem_of_getElem? (i := 125) rfl)) (hw _ (List.mem_of_getElem? (i := 124) rfl)) (hw _ (List.mem_of_getElem? (i := 23) rfl)) (hw _ (List.mem_of_getElem? (i := 126) rfl)) e35 (rm22 l Z a0 hw o35 s26 b35 c26 kb35 kb26 (6 : Int32) (6 : Int32) [(93 : Int32), (44 : Int32), (116 : Int32), (114 : Int32), (117 : Int32), (101 : Int32)] [(93 : Int32), (44 : Int32), (116 : Int32), (114 : Int32), (117 : Int32), (101 : Int32)] (1 : Int32) zCS h35 n0 Z36 E_o35 F_value_o35 F_coder_o35 V_b35 E_s26 F_value_s26 F_coder_s26 V_c26 (by decide) (by decide) (Ne.symm ne_s26_o35) S_COMPACT_STRINGS hCS) (notFace_of_selects (args := #[]) (mvT hZ (hw _ (List.mem_of_getElem? (i := 125) rfl)))) (by decide) pd_438 rfl E_o35 (argsL := [(.ref s26)]) (rest := []) rfl rfl rfl (hb hby at_201) (W0 := 0) rfl (by decide) (by decide) (by decide) (by decide) (fun v37 T37 h37 L37 X37 e37 hQ37 => ?_)
      obtain ⟨rfl, N37q, hh37⟩ := hQ37
      obtain rfl := hh37.symm
      have N37 := Fr.app N35 N37q
      show W p e below _ (T37.setTop (mkF m 204 #[.val (.int p0), .val (.int p1), .val (.int (0 : Int32)), .val (.int (1 : Int32)), .val (.ref b20), .val (.ref s24), .val (.ref s26), .val (.ref b20)] [(.int (1 : Int32))]))
      exact W.retBW X37 hx hlk (t := .boolean) hret (by simp) (hb hby at_204) hS hkS hZ own_EW' RC (by decide) (by decide) e37 ⟨rfl, N37⟩
  · rw [q]
    show W p e below _ (s₁.setTop (mkF m 3 #[.val (.int p0), .val (.int p1), .unset, .unset, .unset, .unset, .unset, .unset] [(.int (1 : Int32))]))
    refine W.go (fun _ hr => XS.istoreN X0.here hx rfl (hb hby at_3) rfl (l' := #[.val (.int p0), .val (.int p1), .val (.int (1 : Int32)), .unset, .unset, .unset, .unset, .unset]) rfl hr) ?_
    show W p e below _ (s₁.setTop (mkF m 4 #[.val (.int p0), .val (.int p1), .val (.int (1 : Int32)), .unset, .unset, .unset, .unset, .unset] []))
    refine W.go (fun _ hr => XS.iloadN X0.here hx rfl (hb hby at_4) rfl hr) ?_
    show W p e below _ (s₁.setTop (mkF m 5 #[.val (.int p0), .val (.int p1), .val (.int (1 : Int32)), .unset, .unset, .unset, .unset, .unset] [(.int p1)]))
    refine W.go (fun _ hr => XS.iconst X0.here hx rfl (hb hby at_5) hr) ?_
    show W p e below _ (s₁.setTop (mkF m 6 #[.val (.int p0), .val (.int p1), .val (.int (1 : Int32)), .unset, .unset, .unset, .unset, .unset] [(.int (1 : Int32)), (.int p1)]))
    refine W.go (fun _ hr => XS.iand X0.here hx rfl (hb hby at_6) rfl hr) ?_
    show W p e below _ (s₁.setTop (mkF m 7 #[.val (.int p0), .val (.int p1), .val (.int (1 : Int32)), .unset, .unset, .unset, .unset, .unset] [(.int (p1 &&& (1 : Int32)))]))
    by_cases hc7_38 : (p1 &&& (1 : Int32)) = (0 : Int32)
    · refine W.go (fun _ hr => XS.ifYes X0.here hx rfl (pc0 := 7) (pc' := 14) rfl (hb hby at_7) rfl ((if0 _ _).trans (teq hc7_38).1) (by decide) (by decide) hr) ?_
      show W p e below _ (s₁.setTop (mkF m 14 #[.val (.int p0), .val (.int p1), .val (.int (1 : Int32)), .unset, .unset, .unset, .unset, .unset] []))
      refine W.go (fun _ hr => XS.iconst X0.here hx rfl (hb hby at_14) hr) ?_
      show W p e below _ (s₁.setTop (mkF m 15 #[.val (.int p0), .val (.int p1), .val (.int (1 : Int32)), .unset, .unset, .unset, .unset, .unset] [(.int (0 : Int32))]))
      refine W.go (fun _ hr => XS.istoreN X0.here hx rfl (hb hby at_15) rfl (l' := #[.val (.int p0), .val (.int p1), .val (.int (1 : Int32)), .val (.int (0 : Int32)), .unset, .unset, .unset, .unset]) rfl hr) ?_
      show W p e below _ (s₁.setTop (mkF m 16 #[.val (.int p0), .val (.int p1), .val (.int (1 : Int32)), .val (.int (0 : Int32)), .unset, .unset, .unset, .unset] []))
      obtain ⟨T39, h39, X39, e39, E39, E_b39, D39, U39, st39⟩ := newO X0 hx hZ hown (hw _ (List.mem_of_getElem? (i := 0) rfl)) (hw _ (List.mem_of_getElem? (i := 1) rfl)) (hw _ (List.mem_of_getElem? (i := 2) rfl)) e0 (g := (mkF m 16 #[.val (.int p0), .val (.int p1), .val (.int (1 : Int32)), .val (.int (0 : Int32)), .unset, .unset, .unset, .unset] [])) rfl (hb hby at_16) (by decide) (by decide)
      obtain ⟨b39, g39⟩ : ∃ z, z = h0.size := ⟨_, rfl⟩
      rw [← g39] at E_b39 D39 U39 st39
      have Sf_b39 : Safe Z EL vm0 h0 b39 := Safe.new (Nat.le_of_eq g39.symm)
      have g_b39 : n0 ≤ b39 := Nat.le_trans Z0 (Nat.le_of_eq g39.symm)
      replace S_COMPACT_STRINGS := Sta.ext E39 S_COMPACT_STRINGS
      replace S_SIOOBE_FORMATTER := Sta.ext E39 S_SIOOBE_FORMATTER
      have Z40 : n0 ≤ h39.size := Nat.le_trans Z0 E39.1
      replace Sf_b39 := Safe.ext E39 RC.1 Sf_b39
      replace RC := RC.trans (CHr.ext E39 RC.1)
      replace hkS := Nat.le_trans hkS E39.1
      have F_json_b39 : Fld Z h39 b39 "org/allonym/cli/JsonWriter" "json" "Ljava/lang/StringBuilder;" .null := D39 (Or.inr (hw _ (List.mem_of_getElem? (i := 30) rfl))) (ty := (.object "java/lang/StringBuilder")) (by decide)
      refine W.go st39 ?_
      show W p e below _ (T39.setTop (mkF m 19 #[.val (.int p0), .val (.int p1), .val (.int (1 : Int32)), .val (.int (0 : Int32)), .unset, .unset, .unset, .unset] [(.ref b39)]))
      refine W.go (fun _ hr => XS.dup X39.here hx rfl (hb hby at_19) rfl rfl hr) ?_
      show W p e below _ (T39.setTop (mkF m 20 #[.val (.int p0), .val (.int p1), .val (.int (1 : Int32)), .val (.int (0 : Int32)), .unset, .unset, .unset, .unset] [(.ref b39), (.ref b39)]))
      refine W.callI X39 hx hZ hown (g := (mkF m 20 #[.val (.int p0), .val (.int p1), .val (.int (1 : Int32)), .val (.int (0 : Int32)), .unset, .unset, .unset, .unset] [(.ref b39), (.ref b39)])) (by rw [hml]; rfl) (hw _ (List.mem_of_getElem? (i := 3) rfl)) (hw _ (List.mem_of_getElem? (i := 4) rfl)) (hw _ (List.mem_of_getElem? (i := 2) rfl)) (hw _ (List.mem_of_getElem? (i := 5) rfl)) e39 (rm1 l Z a0 hw b39 zCS h39 n0 Z40 E_b39 F_json_b39 g_b39 S_COMPACT_STRINGS hCS) rfl (by decide) pd_407 rfl (b := b39) (argsL := []) (rest := [(.ref b39)]) rfl rfl rfl (hb hby at_20) (W0 := 1) rfl (by decide) (by decide) (by decide) (by decide) (fun v41 T41 h41 L41 X41 e41 hQ41 => ?_)
      obtain ⟨rfl, N41q, K41, Ee41, o41, t41, kt41, so41, st41, not41, Fj41, E_o41, F_value_o41, F_coder_o41, F_count_o41, V_t41⟩ := hQ41
      have N41 := Fr.app N0 N41q
      have ne_b39_o41 : b39 ≠ o41 := Nat.ne_of_lt (Nat.lt_of_lt_of_le E_b39.lt so41)
      have Sf_o41 : Safe Z EL vm0 h39 o41 := Safe.new so41
      have g_o41 : n0 ≤ o41 := Nat.le_trans Z40 so41
      have ne_b39_t41 : b39 ≠ t41 := Nat.ne_of_lt (Nat.lt_of_lt_of_le E_b39.lt st41)
      have Sf_t41 : Safe Z EL vm0 h39 t41 := Safe.new st41
      have g_t41 : n0 ≤ t41 := Nat.le_trans Z40 st41
      have SfKK41 := (sfS Sf_b39 sf0)
      have nsK41 := (nsS E_b39.nostat ns0)
      replace S_COMPACT_STRINGS := Sta.keep S_COMPACT_STRINGS K41 nsK41
      replace S_SIOOBE_FORMATTER := Sta.keep S_SIOOBE_FORMATTER K41 nsK41
      replace E_b39 := E_b39.keep K41
      have Z42 : n0 ≤ h41.size := Nat.le_trans Z40 K41.1
      replace Sf_b39 := Safe.keep K41 SfKK41 RC.1 Sf_b39
      replace Sf_o41 := Safe.keep K41 SfKK41 RC.1 Sf_o41
      replace Sf_t41 := Safe.keep K41 SfKK41 RC.1 Sf_t41
      replace RC := RC.trans (CHr.keep K41 SfKK41 RC.1)
      replace hkS := Nat.le_trans hkS K41.1
      show W p e below _ (T41.setTop (mkF m 23 #[.val (.int p0), .val (.int p1), .val (.int (1 : Int32)), .val (.int (0 : Int32)), .unset, .unset, .unset, .unset] [(.ref b39)]))
      refine W.go (fun _ hr => XS.astore X41.here hx rfl (hb hby at_23) rfl rfl (l' := #[.val (.int p0), .val (.int p1), .val (.int (1 : Int32)), .val (.int (0 : Int32)), .val (.ref b39), .unset, .unset, .unset]) rfl hr) ?_
      show W p e below _ (T41.setTop (mkF m 25 #[.val (.int p0), .val (.int p1), .val (.int (1 : Int32)), .val (.int (0 : Int32)), .val (.ref b39), .unset, .unset, .unset] []))
      refine W.go (fun _ hr => XS.iloadN X41.here hx rfl (hb hby at_25) rfl hr) ?_
      show W p e below _ (T41.setTop (mkF m 26 #[.val (.int p0), .val (.int p1), .val (.int (1 : Int32)), .val (.int (0 : Int32)), .val (.ref b39), .unset, .unset, .unset] [(.int (1 : Int32))]))
      refine W.go (fun _ hr => XS.ifYes X41.here hx rfl (pc0 := 26) (pc' := 49) rfl (hb hby at_26) rfl ((if0 _ _).trans (feq (by decide : ¬ ((1 : Int32) = (0 : Int32)))).2) (by decide) (by decide) hr) ?_
      show W p e below _ (T41.setTop (mkF m 49 #[.val (.int p0), .val (.int p1), .val (.int (1 : Int32)), .val (.int (0 : Int32)), .val (.ref b39), .unset, .unset, .unset] []))
      refine W.go (fun _ hr => XS.iloadN X41.here hx rfl (hb hby at_49) rfl hr) ?_
      show W p e below _ (T41.setTop (mkF m 50 #[.val (.int p0), .val (.int p1), .val (.int (1 : Int32)), .val (.int (0 : Int32)), .val (.ref b39), .unset, .unset, .unset] [(.int (1 : Int32))]))
      refine W.go (fun _ hr => XS.iconst X41.here hx rfl (hb hby at_50) hr) ?_
      show W p e below _ (T41.setTop (mkF m 51 #[.val (.int p0), .val (.int p1), .val (.int (1 : Int32)), .val (.int (0 : Int32)), .val (.ref b39), .unset, .unset, .unset] [(.int (1 : Int32)), (.int (1 : Int32))]))
      refine W.go (fun _ hr => XS.icmpNo X41.here hx rfl (hb hby at_51) rfl (teq (by decide : ((1 : Int32) = (1 : Int32)))).2 hr) ?_
      show W p e below _ (T41.setTop (mkF m 54 #[.val (.int p0), .val (.int p1), .val (.int (1 : Int32)), .val (.int (0 : Int32)), .val (.ref b39), .unset, .unset, .unset] []))
      refine W.go (fun _ hr => XS.aload X41.here hx rfl (hb hby at_54) rfl rfl hr) ?_
      show W p e below _ (T41.setTop (mkF m 56 #[.val (.int p0), .val (.int p1), .val (.int (1 : Int32)), .val (.int (0 : Int32)), .val (.ref b39), .unset, .unset, .unset] [(.ref b39)]))
      refine W.callV X41 hx hZ hown (g := (mkF m 56 #[.val (.int p0), .val (.int p1), .val (.int (1 : Int32)), .val (.int (0 : Int32)), .val (.ref b39), .unset, .unset, .unset] [(.ref b39)])) (by rw [hml]; rfl) (hw _ (List.mem_of_getElem? (i := 186) rfl)) (hw _ (List.mem_of_getElem? (i := 187) rfl)) (hw _ (List.mem_of_getElem? (i := 189) rfl)) (hw _ (List.mem_of_getElem? (i := 188) rfl)) (hw _ (List.mem_of_getElem? (i := 2) rfl)) (hw _ (List.mem_of_getElem? (i := 190) rfl)) e41 (rm_beginArrayN l Z a0 hw b39 o41 t41 kt41 [] (0 : Int32) [(.int (91 : Int32))] (1 : Int32) zCS wSF h41 n0 Z42 E_b39 Fj41 E_o41 F_value_o41 F_coder_o41 F_count_o41 V_t41 S_COMPACT_STRINGS hCS S_SIOOBE_FORMATTER hSF (by decide) g_o41 g_t41 ne_b39_o41 ne_b39_t41 not41 (Or.inl rfl) rfl (by decide)) (notFace_of_selects (args := #[]) (mvT hZ (hw _ (List.mem_of_getElem? (i := 189) rfl)))) (by decide) pd_437 rfl E_b39 (argsL := []) (rest := []) rfl rfl rfl (hb hby at_56) (W0 := 0) rfl (by decide) (by decide) (by decide) (by decide) (fun v43 T43 h43 L43 X43 e43 hQ43 => ?_)
      obtain ⟨rfl, N43q, K43, Eo43, Fv43, Fc43, Fn43, V43⟩ := hQ43
      have N43 := Fr.app N41 N43q
      have SfKK43 := (sfS Sf_o41 (sfS Sf_t41 sf0))
      have nsK43 := (nsS E_o41.nostat (nsS V_t41.nostat ns0))
      replace S_COMPACT_STRINGS := Sta.keep S_COMPACT_STRINGS K43 nsK43
      replace S_SIOOBE_FORMATTER := Sta.keep S_SIOOBE_FORMATTER K43 nsK43
      replace E_b39 := E_b39.keep K43
      replace Fj41 := Fj41.keep K43 (ninS ne_b39_o41 (ninS ne_b39_t41 nin0))
      replace E_o41 := E_o41.keep K43
      have Z44 : n0 ≤ h43.size := Nat.le_trans Z42 K43.1
      replace Sf_b39 := Safe.keep K43 SfKK43 RC.1 Sf_b39
      replace Sf_o41 := Safe.keep K43 SfKK43 RC.1 Sf_o41
      replace Sf_t41 := Safe.keep K43 SfKK43 RC.1 Sf_t41
      replace RC := RC.trans (CHr.keep K43 SfKK43 RC.1)
      replace hkS := Nat.le_trans hkS K43.1
      show W p e below _ (T43.setTop (mkF m 59 #[.val (.int p0), .val (.int p1), .val (.int (1 : Int32)), .val (.int (0 : Int32)), .val (.ref b39), .unset, .unset, .unset] [(.ref b39)]))
      refine W.go (fun _ hr => XS.pop X43.here hx rfl (hb hby at_59) rfl rfl hr) ?_
      show W p e below _ (T43.setTop (mkF m 60 #[.val (.int p0), .val (.int p1), .val (.int (1 : Int32)), .val (.int (0 : Int32)), .val (.ref b39), .unset, .unset, .unset] []))
      have lt45_b39 : b39 < h43.size := E_b39.lt
      have lt45_o41 : o41 < h43.size := E_o41.lt
      have lt45_t41 : t41 < h43.size := V43.lt
      obtain ⟨s45, T45, h45, kk45, c45, kb45, X45, e45, E45, hS, hkS, hZ, hown, E_s45, F_coder_s45, F_value_s45, V_c45, la45, lb45, hC45, hL45, hne45, st45⟩ := ldcCH X43 hx hZ hown (hw _ (List.mem_of_getElem? (i := 194) rfl)) own_sa' e43 hS hkS own_EW' (List.mem_of_getElem? (i := 3) rfl) RC.1 (vs := [(.int (91 : Int32)), (.int (93 : Int32))]) (z := (2 : Int32)) (by decide) (by decide) (by decide) (g := (mkF m 60 #[.val (.int p0), .val (.int p1), .val (.int (1 : Int32)), .val (.int (0 : Int32)), .val (.ref b39), .unset, .unset, .unset] [])) rfl (hb hby at_60) (n := 8) (by decide) (by decide) (by decide) (by decide)
      replace S_COMPACT_STRINGS := Sta.ext E45 S_COMPACT_STRINGS
      replace S_SIOOBE_FORMATTER := Sta.ext E45 S_SIOOBE_FORMATTER
      replace E_b39 := E_b39.ext E45
      replace Fj41 := Fj41.ext E45
      replace E_o41 := E_o41.ext E45
      replace Fv43 := Fv43.ext E45
      replace Fc43 := Fc43.ext E45
      replace Fn43 := Fn43.ext E45
      replace V43 := V43.ext E45
      have Z46 : n0 ≤ h45.size := Nat.le_trans Z44 E45.1
      replace Sf_b39 := hC45.safe lt45_b39 Sf_b39
      replace Sf_o41 := hC45.safe lt45_o41 Sf_o41
      replace Sf_t41 := hC45.safe lt45_t41 Sf_t41
      replace RC := RC.trans hC45
      have ne_b39_s45 := (hne45 b39 Sf_b39).1
      have ne_b39_c45 := (hne45 b39 Sf_b39).2
      have ne_o41_s45 := (hne45 o41 Sf_o41).1
      have ne_o41_c45 := (hne45 o41 Sf_o41).2
      have ne_t41_s45 := (hne45 t41 Sf_t41).1
      have ne_t41_c45 := (hne45 t41 Sf_t41).2
      refine W.go st45 ?_
      show W p e below _ (T45.setTop (mkF m 62 #[.val (.int p0), .val (.int p1), .val (.int (1 : Int32)), .val (.int (0 : Int32)), .val (.ref b39), .unset, .unset, .unset] [(.ref s45)]))
      refine W.go (fun _ hr => XS.astore X45.here hx rfl (hb hby at_62) rfl rfl (l' := #[.val (.int p0), .val (.int p1), .val (.int (1 : Int32)), .val (.int (0 : Int32)), .val (.ref b39), .val (.ref s45), .unset, .unset]) rfl hr) ?_
      show W p e below _ (T45.setTop (mkF m 64 #[.val (.int p0), .val (.int p1), .val (.int (1 : Int32)), .val (.int (0 : Int32)), .val (.ref b39), .val (.ref s45), .unset, .unset] []))
      refine W.go (fun _ hr => XS.iloadN X45.here hx rfl (hb hby at_64) rfl hr) ?_
      show W p e below _ (T45.setTop (mkF m 65 #[.val (.int p0), .val (.int p1), .val (.int (1 : Int32)), .val (.int (0 : Int32)), .val (.ref b39), .val (.ref s45), .unset, .unset] [(.int (0 : Int32))]))
      refine W.go (fun _ hr => XS.ifYes X45.here hx rfl (pc0 := 65) (pc' := 73) rfl (hb hby at_65) rfl ((if0 _ _).trans (teq (by decide : ((0 : Int32) = (0 : Int32)))).1) (by decide) (by decide) hr) ?_
      show W p e below _ (T45.setTop (mkF m 73 #[.val (.int p0), .val (.int p1), .val (.int (1 : Int32)), .val (.int (0 : Int32)), .val (.ref b39), .val (.ref s45), .unset, .unset] []))
      have lt47_b39 : b39 < h45.size := E_b39.lt
      have lt47_o41 : o41 < h45.size := E_o41.lt
      have lt47_t41 : t41 < h45.size := V43.lt
      obtain ⟨s47, T47, h47, kk47, c47, kb47, X47, e47, E47, hS, hkS, hZ, hown, E_s47, F_coder_s47, F_value_s47, V_c47, la47, lb47, hC47, hL47, hne47, st47⟩ := ldcCH X45 hx hZ hown (hw _ (List.mem_of_getElem? (i := 201) rfl)) own_sa' e45 hS hkS own_EW' (List.mem_of_getElem? (i := 5) rfl) RC.1 (vs := [(.int (91 : Int32)), (.int (93 : Int32)), (.int (44 : Int32)), (.int (102 : Int32)), (.int (97 : Int32)), (.int (108 : Int32)), (.int (115 : Int32)), (.int (101 : Int32))]) (z := (8 : Int32)) (by decide) (by decide) (by decide) (g := (mkF m 73 #[.val (.int p0), .val (.int p1), .val (.int (1 : Int32)), .val (.int (0 : Int32)), .val (.ref b39), .val (.ref s45), .unset, .unset] [])) rfl (hb hby at_73) (n := 32) (by decide) (by decide) (by decide) (by decide)
      replace S_COMPACT_STRINGS := Sta.ext E47 S_COMPACT_STRINGS
      replace S_SIOOBE_FORMATTER := Sta.ext E47 S_SIOOBE_FORMATTER
      replace E_b39 := E_b39.ext E47
      replace Fj41 := Fj41.ext E47
      replace E_o41 := E_o41.ext E47
      replace Fv43 := Fv43.ext E47
      replace Fc43 := Fc43.ext E47
      replace Fn43 := Fn43.ext E47
      replace V43 := V43.ext E47
      replace E_s45 := E_s45.ext E47
      replace F_coder_s45 := F_coder_s45.ext E47
      replace F_value_s45 := F_value_s45.ext E47
      replace V_c45 := V_c45.ext E47
      have Z48 : n0 ≤ h47.size := Nat.le_trans Z46 E47.1
      replace Sf_b39 := hC47.safe lt47_b39 Sf_b39
      replace Sf_o41 := hC47.safe lt47_o41 Sf_o41
      replace Sf_t41 := hC47.safe lt47_t41 Sf_t41
      replace RC := RC.trans hC47
      have ne_b39_s47 := (hne47 b39 Sf_b39).1
      have ne_b39_c47 := (hne47 b39 Sf_b39).2
      have ne_o41_s47 := (hne47 o41 Sf_o41).1
      have ne_o41_c47 := (hne47 o41 Sf_o41).2
      have ne_t41_s47 := (hne47 t41 Sf_t41).1
      have ne_t41_c47 := (hne47 t41 Sf_t41).2
      refine W.go st47 ?_
      show W p e below _ (T47.setTop (mkF m 75 #[.val (.int p0), .val (.int p1), .val (.int (1 : Int32)), .val (.int (0 : Int32)), .val (.ref b39), .val (.ref s45), .unset, .unset] [(.ref s47)]))
      refine W.go (fun _ hr => XS.astore X47.here hx rfl (hb hby at_75) rfl rfl (l' := #[.val (.int p0), .val (.int p1), .val (.int (1 : Int32)), .val (.int (0 : Int32)), .val (.ref b39), .val (.ref s45), .val (.ref s47), .unset]) rfl hr) ?_
      show W p e below _ (T47.setTop (mkF m 77 #[.val (.int p0), .val (.int p1), .val (.int (1 : Int32)), .val (.int (0 : Int32)), .val (.ref b39), .val (.ref s45), .val (.ref s47), .unset] []))
      refine W.go (fun _ hr => XS.goto X47.here hx rfl (pc0 := 77) (pc' := 156) rfl (hb hby at_77) (by decide) (by decide) hr) ?_
      show W p e below _ (T47.setTop (mkF m 156 #[.val (.int p0), .val (.int p1), .val (.int (1 : Int32)), .val (.int (0 : Int32)), .val (.ref b39), .val (.ref s45), .val (.ref s47), .unset] []))
      refine W.go (fun _ hr => XS.aload X47.here hx rfl (hb hby at_156) rfl rfl hr) ?_
      show W p e below _ (T47.setTop (mkF m 158 #[.val (.int p0), .val (.int p1), .val (.int (1 : Int32)), .val (.int (0 : Int32)), .val (.ref b39), .val (.ref s45), .val (.ref s47), .unset] [(.ref b39)]))
      refine W.callV X47 hx hZ hown (g := (mkF m 158 #[.val (.int p0), .val (.int p1), .val (.int (1 : Int32)), .val (.int (0 : Int32)), .val (.ref b39), .val (.ref s45), .val (.ref s47), .unset] [(.ref b39)])) (by rw [hml]; rfl) (hw _ (List.mem_of_getElem? (i := 38) rfl)) (hw _ (List.mem_of_getElem? (i := 39) rfl)) (hw _ (List.mem_of_getElem? (i := 41) rfl)) (hw _ (List.mem_of_getElem? (i := 40) rfl)) (hw _ (List.mem_of_getElem? (i := 2) rfl)) (hw _ (List.mem_of_getElem? (i := 42) rfl)) e47 (rm_endArray l Z a0 hw b39 o41 t41 kt41 [(.int (91 : Int32))] (1 : Int32) [(.int (91 : Int32)), (.int (93 : Int32))] (2 : Int32) zCS wSF h47 n0 Z48 E_b39 Fj41 E_o41 Fv43 Fc43 Fn43 V43 S_COMPACT_STRINGS hCS S_SIOOBE_FORMATTER hSF (by decide) g_o41 g_t41 ne_b39_o41 ne_b39_t41 not41  rfl (by decide)) (notFace_of_selects (args := #[]) (mvT hZ (hw _ (List.mem_of_getElem? (i := 41) rfl)))) (by decide) pd_437 rfl E_b39 (argsL := []) (rest := []) rfl rfl rfl (hb hby at_158) (W0 := 0) rfl (by decide) (by decide) (by decide) (by decide) (fun v49 T49 h49 L49 X49 e49 hQ49 => ?_)
      obtain ⟨rfl, N49q, K49, Eo49, Fv49, Fc49, Fn49, V49⟩ := hQ49
      have N49 := Fr.app N43 N49q
      have SfKK49 := (sfS Sf_o41 (sfS Sf_t41 sf0))
      have nsK49 := (nsS E_o41.nostat (nsS V43.nostat ns0))
      replace S_COMPACT_STRINGS := Sta.keep S_COMPACT_STRINGS K49 nsK49
      replace S_SIOOBE_FORMATTER := Sta.keep S_SIOOBE_FORMATTER K49 nsK49
      replace E_b39 := E_b39.keep K49
      replace Fj41 := Fj41.keep K49 (ninS ne_b39_o41 (ninS ne_b39_t41 nin0))
      replace E_o41 := E_o41.keep K49
      replace E_s45 := E_s45.keep K49
      replace F_coder_s45 := F_coder_s45.keep K49 (ninS (Ne.symm ne_o41_s45) (ninS (Ne.symm ne_t41_s45) nin0))
      replace F_value_s45 := F_value_s45.keep K49 (ninS (Ne.symm ne_o41_s45) (ninS (Ne.symm ne_t41_s45) nin0))
      replace V_c45 := V_c45.keep K49 (ninS (Ne.symm ne_o41_c45) (ninS (Ne.symm ne_t41_c45) nin0))
      replace E_s47 := E_s47.keep K49
      replace F_coder_s47 := F_coder_s47.keep K49 (ninS (Ne.symm ne_o41_s47) (ninS (Ne.symm ne_t41_s47) nin0))
      replace F_value_s47 := F_value_s47.keep K49 (ninS (Ne.symm ne_o41_s47) (ninS (Ne.symm ne_t41_s47) nin0))
      replace V_c47 := V_c47.keep K49 (ninS (Ne.symm ne_o41_c47) (ninS (Ne.symm ne_t41_c47) nin0))
      have Z50 : n0 ≤ h49.size := Nat.le_trans Z48 K49.1
      replace Sf_b39 := Safe.keep K49 SfKK49 RC.1 Sf_b39
      replace Sf_o41 := Safe.keep K49 SfKK49 RC.1 Sf_o41
      replace Sf_t41 := Safe.keep K49 SfKK49 RC.1 Sf_t41
      replace RC := RC.trans (CHr.keep K49 SfKK49 RC.1)
      replace hkS := Nat.le_trans hkS K49.1
      show W p e below _ (T49.setTop (mkF m 161 #[.val (.int p0), .val (.int p1), .val (.int (1 : Int32)), .val (.int (0 : Int32)), .val (.ref b39), .val (.ref s45), .val (.ref s47), .unset] [(.ref b39)]))
      refine W.go (fun _ hr => XS.astore X49.here hx rfl (hb hby at_161) rfl rfl (l' := #[.val (.int p0), .val (.int p1), .val (.int (1 : Int32)), .val (.int (0 : Int32)), .val (.ref b39), .val (.ref s45), .val (.ref s47), .val (.ref b39)]) rfl hr) ?_
      show W p e below _ (T49.setTop (mkF m 163 #[.val (.int p0), .val (.int p1), .val (.int (1 : Int32)), .val (.int (0 : Int32)), .val (.ref b39), .val (.ref s45), .val (.ref s47), .val (.ref b39)] []))
      refine W.go (fun _ hr => XS.aload X49.here hx rfl (hb hby at_163) rfl rfl hr) ?_
      show W p e below _ (T49.setTop (mkF m 165 #[.val (.int p0), .val (.int p1), .val (.int (1 : Int32)), .val (.int (0 : Int32)), .val (.ref b39), .val (.ref s45), .val (.ref s47), .val (.ref b39)] [(.ref b39)]))
      refine W.go (fun _ hr => XS.aload X49.here hx rfl (hb hby at_165) rfl rfl hr) ?_
      show W p e below _ (T49.setTop (mkF m 167 #[.val (.int p0), .val (.int p1), .val (.int (1 : Int32)), .val (.int (0 : Int32)), .val (.ref b39), .val (.ref s45), .val (.ref s47), .val (.ref b39)] [(.ref b39), (.ref b39)]))
      refine W.go (fun _ hr => Jvm.RoadKit.acmp (g := (mkF m 167 #[.val (.int p0), .val (.int p1), .val (.int (1 : Int32)), .val (.int (0 : Int32)), .val (.ref b39), .val (.ref s45), .val (.ref s47), .val (.ref b39)] [(.ref b39), (.ref b39)])) X49 hx rfl rfl rfl (pc0 := 167) (pc' := 172) (same := true) rfl (hb hby at_167) rfl (decide_eq_true rfl) (by decide) (by decide) hr) ?_
      show W p e below _ (T49.setTop (mkF m 172 #[.val (.int p0), .val (.int p1), .val (.int (1 : Int32)), .val (.int (0 : Int32)), .val (.ref b39), .val (.ref s45), .val (.ref s47), .val (.ref b39)] []))
      refine W.go (fun _ hr => XS.aload X49.here hx rfl (hb hby at_172) rfl rfl hr) ?_
      show W p e below _ (T49.setTop (mkF m 174 #[.val (.int p0), .val (.int p1), .val (.int (1 : Int32)), .val (.int (0 : Int32)), .val (.ref b39), .val (.ref s45), .val (.ref s47), .val (.ref b39)] [(.ref b39)]))
      refine W.callV X49 hx hZ hown (g := (mkF m 174 #[.val (.int p0), .val (.int p1), .val (.int (1 : Int32)), .val (.int (0 : Int32)), .val (.ref b39), .val (.ref s45), .val (.ref s47), .val (.ref b39)] [(.ref b39)])) (by rw [hml]; rfl) (hw _ (List.mem_of_getElem? (i := 69) rfl)) (hw _ (List.mem_of_getElem? (i := 70) rfl)) (hw _ (List.mem_of_getElem? (i := 72) rfl)) (hw _ (List.mem_of_getElem? (i := 71) rfl)) (hw _ (List.mem_of_getElem? (i := 2) rfl)) (hw _ (List.mem_of_getElem? (i := 73) rfl)) e49 (rm11 l Z a0 hw b39 o41 t41 kt41 [(.int (91 : Int32)), (.int (93 : Int32))] (2 : Int32) zCS h49 n0 Z50 E_b39 Fj41 E_o41 Fv49 Fc49 Fn49 V49 S_COMPACT_STRINGS hCS (by decide)) (notFace_of_selects (args := #[]) (mvT hZ (hw _ (List.mem_of_getElem? (i := 72) rfl)))) (by decide) pd_425 rfl E_b39 (argsL := []) (rest := []) rfl rfl rfl (hb hby at_174) (W0 := 0) rfl (by decide) (by decide) (by decide) (by decide) (fun v51 T51 h51 L51 X51 e51 hQ51 => ?_)
      obtain ⟨o51, b51, kb51, rfl, N51q, K51, so51, sb51, nob51, E_o51, F_value_o51, F_coder_o51, E_b51, V_b51⟩ := hQ51
      have N51 := Fr.app N49 N51q
      have ne_b39_o51 : b39 ≠ o51 := Nat.ne_of_lt (Nat.lt_of_lt_of_le E_b39.lt so51)
      have ne_o41_o51 : o41 ≠ o51 := Nat.ne_of_lt (Nat.lt_of_lt_of_le E_o41.lt so51)
      have ne_s45_o51 : s45 ≠ o51 := Nat.ne_of_lt (Nat.lt_of_lt_of_le E_s45.lt so51)
      have ne_c45_o51 : c45 ≠ o51 := Nat.ne_of_lt (Nat.lt_of_lt_of_le V_c45.lt so51)
      have ne_s47_o51 : s47 ≠ o51 := Nat.ne_of_lt (Nat.lt_of_lt_of_le E_s47.lt so51)
      have ne_c47_o51 : c47 ≠ o51 := Nat.ne_of_lt (Nat.lt_of_lt_of_le V_c47.lt so51)
      have ne_t41_o51 : t41 ≠ o51 := Nat.ne_of_lt (Nat.lt_of_lt_of_le V49.lt so51)
      have Sf_o51 : Safe Z EL T47.vm h49 o51 := Safe.new so51
      have g_o51 : n0 ≤ o51 := Nat.le_trans Z50 so51
      have ne_b39_b51 : b39 ≠ b51 := Nat.ne_of_lt (Nat.lt_of_lt_of_le E_b39.lt sb51)
      have ne_o41_b51 : o41 ≠ b51 := Nat.ne_of_lt (Nat.lt_of_lt_of_le E_o41.lt sb51)
      have ne_s45_b51 : s45 ≠ b51 := Nat.ne_of_lt (Nat.lt_of_lt_of_le E_s45.lt sb51)
      have ne_c45_b51 : c45 ≠ b51 := Nat.ne_of_lt (Nat.lt_of_lt_of_le V_c45.lt sb51)
      have ne_s47_b51 : s47 ≠ b51 := Nat.ne_of_lt (Nat.lt_of_lt_of_le E_s47.lt sb51)
      have ne_c47_b51 : c47 ≠ b51 := Nat.ne_of_lt (Nat.lt_of_lt_of_le V_c47.lt sb51)
      have ne_t41_b51 : t41 ≠ b51 := Nat.ne_of_lt (Nat.lt_of_lt_of_le V49.lt sb51)
      have Sf_b51 : Safe Z EL T47.vm h49 b51 := Safe.new sb51
      have g_b51 : n0 ≤ b51 := Nat.le_trans Z50 sb51
      have SfKK51 : ∀ x ∈ ([] : List Addr), Safe Z EL T47.vm h49 x := sf0
      replace S_COMPACT_STRINGS := Sta.keep S_COMPACT_STRINGS K51 ns0
      replace S_SIOOBE_FORMATTER := Sta.keep S_SIOOBE_FORMATTER K51 ns0
      replace E_b39 := E_b39.keep K51
      replace Fj41 := Fj41.keep K51 nin0
      replace E_o41 := E_o41.keep K51
      replace E_s45 := E_s45.keep K51
      replace F_coder_s45 := F_coder_s45.keep K51 nin0
      replace F_value_s45 := F_value_s45.keep K51 nin0
      replace V_c45 := V_c45.keep K51 nin0
      replace E_s47 := E_s47.keep K51
      replace F_coder_s47 := F_coder_s47.keep K51 nin0
      replace F_value_s47 := F_value_s47.keep K51 nin0
      replace V_c47 := V_c47.keep K51 nin0
      replace Fv49 := Fv49.keep K51 nin0
      replace Fc49 := Fc49.keep K51 nin0
      replace Fn49 := Fn49.keep K51 nin0
      replace V49 := V49.keep K51 nin0
      have Z52 : n0 ≤ h51.size := Nat.le_trans Z50 K51.1
      replace Sf_b39 := Safe.keep K51 SfKK51 RC.1 Sf_b39
      replace Sf_o41 := Safe.keep K51 SfKK51 RC.1 Sf_o41
      replace Sf_t41 := Safe.keep K51 SfKK51 RC.1 Sf_t41
      replace Sf_o51 := Safe.keep K51 SfKK51 RC.1 Sf_o51
      replace Sf_b51 := Safe.keep K51 SfKK51 RC.1 Sf_b51
      replace RC := RC.trans (CHr.keep K51 SfKK51 RC.1)
      replace hkS := Nat.le_trans hkS K51.1
      show W p e below _ (T51.setTop (mkF m 177 #[.val (.int p0), .val (.int p1), .val (.int (1 : Int32)), .val (.int (0 : Int32)), .val (.ref b39), .val (.ref s45), .val (.ref s47), .val (.ref b39)] [(.ref o51)]))
      refine W.go (fun _ hr => XS.aload X51.here hx rfl (hb hby at_177) rfl rfl hr) ?_
      show W p e below _ (T51.setTop (mkF m 179 #[.val (.int p0), .val (.int p1), .val (.int (1 : Int32)), .val (.int (0 : Int32)), .val (.ref b39), .val (.ref s45), .val (.ref s47), .val (.ref b39)] [(.ref s45), (.ref o51)]))
      refine W.callV X51 hx hZ hown (g := (mkF m 179 #[.val (.int p0), .val (.int p1), .val (.int (1 : Int32)), .val (.int (0 : Int32)), .val (.ref b39), .val (.ref s45), .val (.ref s47), .val (.ref b39)] [(.ref s45), (.ref o51)])) (by rw [hml]; rfl) (hw _ (List.mem_of_getElem? (i := 122) rfl)) (hw _ (List.mem_of_getElem? (i := 123) rfl)) (hw _ (List.mem_of_getElem? (i := 125) rfl)) (hw _ (List.mem_of_getElem? (i := 124) rfl)) (hw _ (List.mem_of_getElem? (i := 23) rfl)) (hw _ (List.mem_of_getElem? (i := 126) rfl)) e51 (rm22 l Z a0 hw o51 s45 b51 c45 kb51 kb45 (2 : Int32) (2 : Int32) [(91 : Int32), (93 : Int32)] [(91 : Int32), (93 : Int32)] (1 : Int32) zCS h51 n0 Z52 E_o51 F_value_o51 F_coder_o51 V_b51 E_s45 F_value_s45 F_coder_s45 V_c45 (by decide) (by decide) (Ne.symm ne_s45_o51) S_COMPACT_STRINGS hCS) (notFace_of_selects (args := #[]) (mvT hZ (hw _ (List.mem_of_getElem? (i := 125) rfl)))) (by decide) pd_438 rfl E_o51 (argsL := [(.ref s45)]) (rest := []) rfl rfl rfl (hb hby at_179) (W0 := 0) rfl (by decide) (by decide) (by decide) (by decide) (fun v53 T53 h53 L53 X53 e53 hQ53 => ?_)
      obtain ⟨rfl, N53q, hh53⟩ := hQ53
      obtain rfl := hh53.symm
      have N53 := Fr.app N51 N53q
      show W p e below _ (T53.setTop (mkF m 182 #[.val (.int p0), .val (.int p1), .val (.int (1 : Int32)), .val (.int (0 : Int32)), .val (.ref b39), .val (.ref s45), .val (.ref s47), .val (.ref b39)] [(.int (1 : Int32))]))
      refine W.go (fun _ hr => XS.ifYes X53.here hx rfl (pc0 := 182) (pc' := 187) rfl (hb hby at_182) rfl ((if0 _ _).trans (feq (by decide : ¬ ((1 : Int32) = (0 : Int32)))).2) (by decide) (by decide) hr) ?_
      show W p e below _ (T53.setTop (mkF m 187 #[.val (.int p0), .val (.int p1), .val (.int (1 : Int32)), .val (.int (0 : Int32)), .val (.ref b39), .val (.ref s45), .val (.ref s47), .val (.ref b39)] []))
      refine W.go (fun _ hr => XS.aload X53.here hx rfl (hb hby at_187) rfl rfl hr) ?_
      show W p e below _ (T53.setTop (mkF m 189 #[.val (.int p0), .val (.int p1), .val (.int (1 : Int32)), .val (.int (0 : Int32)), .val (.ref b39), .val (.ref s45), .val (.ref s47), .val (.ref b39)] [(.ref b39)]))
      refine W.go (fun _ hr => XS.iloadN X53.here hx rfl (hb hby at_189) rfl hr) ?_
      show W p e below _ (T53.setTop (mkF m 190 #[.val (.int p0), .val (.int p1), .val (.int (1 : Int32)), .val (.int (0 : Int32)), .val (.ref b39), .val (.ref s45), .val (.ref s47), .val (.ref b39)] [(.int (0 : Int32)), (.ref b39)]))
      refine W.callV X53 hx hZ hown (g := (mkF m 190 #[.val (.int p0), .val (.int p1), .val (.int (1 : Int32)), .val (.int (0 : Int32)), .val (.ref b39), .val (.ref s45), .val (.ref s47), .val (.ref b39)] [(.int (0 : Int32)), (.ref b39)])) (by rw [hml]; rfl) (hw _ (List.mem_of_getElem? (i := 132) rfl)) (hw _ (List.mem_of_getElem? (i := 133) rfl)) (hw _ (List.mem_of_getElem? (i := 135) rfl)) (hw _ (List.mem_of_getElem? (i := 134) rfl)) (hw _ (List.mem_of_getElem? (i := 2) rfl)) (hw _ (List.mem_of_getElem? (i := 136) rfl)) e53 (rm_value0Y l Z a0 hw b39 o41 t41 kt41 [(.int (91 : Int32)), (.int (93 : Int32))] (2 : Int32) (93 : Int32) [(.int (91 : Int32)), (.int (93 : Int32)), (.int (44 : Int32)), (.int (102 : Int32)), (.int (97 : Int32)), (.int (108 : Int32)), (.int (115 : Int32)), (.int (101 : Int32))] (8 : Int32) zCS wSF h51 n0 Z52 E_b39 Fj41 E_o41 Fv49 Fc49 Fn49 V49 S_COMPACT_STRINGS hCS S_SIOOBE_FORMATTER hSF (by decide) g_o41 g_t41 ne_b39_o41 ne_b39_t41 not41 ⟨by decide, by decide, by decide, rfl, by decide, by decide, by decide⟩ rfl (by decide)) (notFace_of_selects (args := #[]) (mvT hZ (hw _ (List.mem_of_getElem? (i := 135) rfl)))) (by decide) pd_439 rfl E_b39 (argsL := [(.int (0 : Int32))]) (rest := []) rfl rfl rfl (hb hby at_190) (W0 := 0) rfl (by decide) (by decide) (by decide) (by decide) (fun v54 T54 h54 L54 X54 e54 hQ54 => ?_)
      obtain ⟨rfl, N54q, K54, Eo54, Fv54, Fc54, Fn54, V54⟩ := hQ54
      have N54 := Fr.app N53 N54q
      have SfKK54 := (sfS Sf_o41 (sfS Sf_t41 sf0))
      have nsK54 := (nsS E_o41.nostat (nsS V49.nostat ns0))
      replace S_COMPACT_STRINGS := Sta.keep S_COMPACT_STRINGS K54 nsK54
      replace S_SIOOBE_FORMATTER := Sta.keep S_SIOOBE_FORMATTER K54 nsK54
      replace E_b39 := E_b39.keep K54
      replace Fj41 := Fj41.keep K54 (ninS ne_b39_o41 (ninS ne_b39_t41 nin0))
      replace E_o41 := E_o41.keep K54
      replace E_s45 := E_s45.keep K54
      replace F_coder_s45 := F_coder_s45.keep K54 (ninS (Ne.symm ne_o41_s45) (ninS (Ne.symm ne_t41_s45) nin0))
      replace F_value_s45 := F_value_s45.keep K54 (ninS (Ne.symm ne_o41_s45) (ninS (Ne.symm ne_t41_s45) nin0))
      replace V_c45 := V_c45.keep K54 (ninS (Ne.symm ne_o41_c45) (ninS (Ne.symm ne_t41_c45) nin0))
      replace E_s47 := E_s47.keep K54
      replace F_coder_s47 := F_coder_s47.keep K54 (ninS (Ne.symm ne_o41_s47) (ninS (Ne.symm ne_t41_s47) nin0))
      replace F_value_s47 := F_value_s47.keep K54 (ninS (Ne.symm ne_o41_s47) (ninS (Ne.symm ne_t41_s47) nin0))
      replace V_c47 := V_c47.keep K54 (ninS (Ne.symm ne_o41_c47) (ninS (Ne.symm ne_t41_c47) nin0))
      replace E_o51 := E_o51.keep K54
      replace F_value_o51 := F_value_o51.keep K54 (ninS (Ne.symm ne_o41_o51) (ninS (Ne.symm ne_t41_o51) nin0))
      replace F_coder_o51 := F_coder_o51.keep K54 (ninS (Ne.symm ne_o41_o51) (ninS (Ne.symm ne_t41_o51) nin0))
      replace E_b51 := E_b51.keep K54
      replace V_b51 := V_b51.keep K54 (ninS (Ne.symm ne_o41_b51) (ninS (Ne.symm ne_t41_b51) nin0))
      have Z55 : n0 ≤ h54.size := Nat.le_trans Z52 K54.1
      replace Sf_b39 := Safe.keep K54 SfKK54 RC.1 Sf_b39
      replace Sf_o41 := Safe.keep K54 SfKK54 RC.1 Sf_o41
      replace Sf_t41 := Safe.keep K54 SfKK54 RC.1 Sf_t41
      replace Sf_o51 := Safe.keep K54 SfKK54 RC.1 Sf_o51
      replace Sf_b51 := Safe.keep K54 SfKK54 RC.1 Sf_b51
      replace RC := RC.trans (CHr.keep K54 SfKK54 RC.1)
      replace hkS := Nat.le_trans hkS K54.1
      show W p e below _ (T54.setTop (mkF m 193 #[.val (.int p0), .val (.int p1), .val (.int (1 : Int32)), .val (.int (0 : Int32)), .val (.ref b39), .val (.ref s45), .val (.ref s47), .val (.ref b39)] [(.ref b39)]))
      refine W.go (fun _ hr => XS.pop X54.here hx rfl (hb hby at_193) rfl rfl hr) ?_
      show W p e below _ (T54.setTop (mkF m 194 #[.val (.int p0), .val (.int p1), .val (.int (1 : Int32)), .val (.int (0 : Int32)), .val (.ref b39), .val (.ref s45), .val (.ref s47), .val (.ref b39)] []))
      refine W.go (fun _ hr => XS.aload X54.here hx rfl (hb hby at_194) rfl rfl hr) ?_
      show W p e below _ (T54.setTop (mkF m 196 #[.val (.int p0), .val (.int p1), .val (.int (1 : Int32)), .val (.int (0 : Int32)), .val (.ref b39), .val (.ref s45), .val (.ref s47), .val (.ref b39)] [(.ref b39)]))
      refine W.callV X54 hx hZ hown (g := (mkF m 196 #[.val (.int p0), .val (.int p1), .val (.int (1 : Int32)), .val (.int (0 : Int32)), .val (.ref b39), .val (.ref s45), .val (.ref s47), .val (.ref b39)] [(.ref b39)])) (by rw [hml]; rfl) (hw _ (List.mem_of_getElem? (i := 69) rfl)) (hw _ (List.mem_of_getElem? (i := 70) rfl)) (hw _ (List.mem_of_getElem? (i := 72) rfl)) (hw _ (List.mem_of_getElem? (i := 71) rfl)) (hw _ (List.mem_of_getElem? (i := 2) rfl)) (hw _ (List.mem_of_getElem? (i := 73) rfl)) e54 (rm11 l Z a0 hw b39 o41 t41 kt41 [(.int (91 : Int32)), (.int (93 : Int32)), (.int (44 : Int32)), (.int (102 : Int32)), (.int (97 : Int32)), (.int (108 : Int32)), (.int (115 : Int32)), (.int (101 : Int32))] (8 : Int32) zCS h54 n0 Z55 E_b39 Fj41 E_o41 Fv54 Fc54 Fn54 V54 S_COMPACT_STRINGS hCS (by decide)) (notFace_of_selects (args := #[]) (mvT hZ (hw _ (List.mem_of_getElem? (i := 72) rfl)))) (by decide) pd_425 rfl E_b39 (argsL := []) (rest := []) rfl rfl rfl (hb hby at_196) (W0 := 0) rfl (by decide) (by decide) (by decide) (by decide) (fun v56 T56 h56 L56 X56 e56 hQ56 => ?_)
      obtain ⟨o56, b56, kb56, rfl, N56q, K56, so56, sb56, nob56, E_o56, F_value_o56, F_coder_o56, E_b56, V_b56⟩ := hQ56
      have N56 := Fr.app N54 N56q
      have ne_b39_o56 : b39 ≠ o56 := Nat.ne_of_lt (Nat.lt_of_lt_of_le E_b39.lt so56)
      have ne_o41_o56 : o41 ≠ o56 := Nat.ne_of_lt (Nat.lt_of_lt_of_le E_o41.lt so56)
      have ne_s45_o56 : s45 ≠ o56 := Nat.ne_of_lt (Nat.lt_of_lt_of_le E_s45.lt so56)
      have ne_c45_o56 : c45 ≠ o56 := Nat.ne_of_lt (Nat.lt_of_lt_of_le V_c45.lt so56)
      have ne_s47_o56 : s47 ≠ o56 := Nat.ne_of_lt (Nat.lt_of_lt_of_le E_s47.lt so56)
      have ne_c47_o56 : c47 ≠ o56 := Nat.ne_of_lt (Nat.lt_of_lt_of_le V_c47.lt so56)
      have ne_o51_o56 : o51 ≠ o56 := Nat.ne_of_lt (Nat.lt_of_lt_of_le E_o51.lt so56)
      have ne_b51_o56 : b51 ≠ o56 := Nat.ne_of_lt (Nat.lt_of_lt_of_le E_b51.lt so56)
      have ne_t41_o56 : t41 ≠ o56 := Nat.ne_of_lt (Nat.lt_of_lt_of_le V54.lt so56)
      have Sf_o56 : Safe Z EL T47.vm h54 o56 := Safe.new so56
      have g_o56 : n0 ≤ o56 := Nat.le_trans Z55 so56
      have ne_b39_b56 : b39 ≠ b56 := Nat.ne_of_lt (Nat.lt_of_lt_of_le E_b39.lt sb56)
      have ne_o41_b56 : o41 ≠ b56 := Nat.ne_of_lt (Nat.lt_of_lt_of_le E_o41.lt sb56)
      have ne_s45_b56 : s45 ≠ b56 := Nat.ne_of_lt (Nat.lt_of_lt_of_le E_s45.lt sb56)
      have ne_c45_b56 : c45 ≠ b56 := Nat.ne_of_lt (Nat.lt_of_lt_of_le V_c45.lt sb56)
      have ne_s47_b56 : s47 ≠ b56 := Nat.ne_of_lt (Nat.lt_of_lt_of_le E_s47.lt sb56)
      have ne_c47_b56 : c47 ≠ b56 := Nat.ne_of_lt (Nat.lt_of_lt_of_le V_c47.lt sb56)
      have ne_o51_b56 : o51 ≠ b56 := Nat.ne_of_lt (Nat.lt_of_lt_of_le E_o51.lt sb56)
      have ne_b51_b56 : b51 ≠ b56 := Nat.ne_of_lt (Nat.lt_of_lt_of_le E_b51.lt sb56)
      have ne_t41_b56 : t41 ≠ b56 := Nat.ne_of_lt (Nat.lt_of_lt_of_le V54.lt sb56)
      have Sf_b56 : Safe Z EL T47.vm h54 b56 := Safe.new sb56
      have g_b56 : n0 ≤ b56 := Nat.le_trans Z55 sb56
      have SfKK56 : ∀ x ∈ ([] : List Addr), Safe Z EL T47.vm h54 x := sf0
      replace S_COMPACT_STRINGS := Sta.keep S_COMPACT_STRINGS K56 ns0
      replace S_SIOOBE_FORMATTER := Sta.keep S_SIOOBE_FORMATTER K56 ns0
      replace E_b39 := E_b39.keep K56
      replace Fj41 := Fj41.keep K56 nin0
      replace E_o41 := E_o41.keep K56
      replace E_s45 := E_s45.keep K56
      replace F_coder_s45 := F_coder_s45.keep K56 nin0
      replace F_value_s45 := F_value_s45.keep K56 nin0
      replace V_c45 := V_c45.keep K56 nin0
      replace E_s47 := E_s47.keep K56
      replace F_coder_s47 := F_coder_s47.keep K56 nin0
      replace F_value_s47 := F_value_s47.keep K56 nin0
      replace V_c47 := V_c47.keep K56 nin0
      replace E_o51 := E_o51.keep K56
      replace F_value_o51 := F_value_o51.keep K56 nin0
      replace F_coder_o51 := F_coder_o51.keep K56 nin0
      replace E_b51 := E_b51.keep K56
      replace V_b51 := V_b51.keep K56 nin0
      replace Fv54 := Fv54.keep K56 nin0
      replace Fc54 := Fc54.keep K56 nin0
      replace Fn54 := Fn54.keep K56 nin0
      replace V54 := V54.keep K56 nin0
      have Z57 : n0 ≤ h56.size := Nat.le_trans Z55 K56.1
      replace Sf_b39 := Safe.keep K56 SfKK56 RC.1 Sf_b39
      replace Sf_o41 := Safe.keep K56 SfKK56 RC.1 Sf_o41
      replace Sf_t41 := Safe.keep K56 SfKK56 RC.1 Sf_t41
      replace Sf_o51 := Safe.keep K56 SfKK56 RC.1 Sf_o51
      replace Sf_b51 := Safe.keep K56 SfKK56 RC.1 Sf_b51
      replace Sf_o56 := Safe.keep K56 SfKK56 RC.1 Sf_o56
      replace Sf_b56 := Safe.keep K56 SfKK56 RC.1 Sf_b56
      replace RC := RC.trans (CHr.keep K56 SfKK56 RC.1)
      replace hkS := Nat.le_trans hkS K56.1
      show W p e below _ (T56.setTop (mkF m 199 #[.val (.int p0), .val (.int p1), .val (.int (1 : Int32)), .val (.int (0 : Int32)), .val (.ref b39), .val (.ref s45), .val (.ref s47), .val (.ref b39)] [(.ref o56)]))
      refine W.go (fun _ hr => XS.aload X56.here hx rfl (hb hby at_199) rfl rfl hr) ?_
      show W p e below _ (T56.setTop (mkF m 201 #[.val (.int p0), .val (.int p1), .val (.int (1 : Int32)), .val (.int (0 : Int32)), .val (.ref b39), .val (.ref s45), .val (.ref s47), .val (.ref b39)] [(.ref s47), (.ref o56)]))
      refine W.callV X56 hx hZ hown (g := (mkF m 201 #[.val (.int p0), .val (.int p1), .val (.int (1 : Int32)), .val (.int (0 : Int32)), .val (.ref b39), .val (.ref s45), .val (.ref s47), .val (.ref b39)] [(.ref s47), (.ref o56)])) (by rw [hml]; rfl) (hw _ (List.mem_of_getElem? (i := 122) rfl)) (hw _ (List.mem_of_getElem? (i := 123) rfl)) (hw _ (List.mem_of_getElem? (i := 125) rfl)) (hw _ (List.mem_of_getElem? (i := 124) rfl)) (hw _ (List.mem_of_getElem? (i := 23) rfl)) (hw _ (List.mem_of_getElem? (i := 126) rfl)) e56 (rm22 l Z a0 hw o56 s47 b56 c47 kb56 kb47 (8 : Int32) (8 : Int32) [(91 : Int32), (93 : Int32), (44 : Int32), (102 : Int32), (97 : Int32), (108 : Int32), (115 : Int32), (101 : Int32)] [(91 : Int32), (93 : Int32), (44 : Int32), (102 : Int32), (97 : Int32), (108 : Int32), (115 : Int32), (101 : Int32)] (1 : Int32) zCS h56 n0 Z57 E_o56 F_value_o56 F_coder_o56 V_b56 E_s47 F_value_s47 F_coder_s47 V_c47 (by decide) (by decide) (Ne.symm ne_s47_o56) S_COMPACT_STRINGS hCS) (notFace_of_selects (args := #[]) (mvT hZ (hw _ (List.mem_of_getElem? (i := 125) rfl)))) (by decide) pd_438 rfl E_o56 (argsL := [(.ref s47)]) (rest := []) rfl rfl rfl (hb hby at_201) (W0 := 0) rfl (by decide) (by decide) (by decide) (by decide) (fun v58 T58 h58 L58 X58 e58 hQ58 => ?_)
      obtain ⟨rfl, N58q, hh58⟩ := hQ58
      obtain rfl := hh58.symm
      have N58 := Fr.app N56 N58q
      show W p e below _ (T58.setTop (mkF m 204 #[.val (.int p0), .val (.int p1), .val (.int (1 : Int32)), .val (.int (0 : Int32)), .val (.ref b39), .val (.ref s45), .val (.ref s47), .val (.ref b39)] [(.int (1 : Int32))]))
      exact W.retBW X58 hx hlk (t := .boolean) hret (by simp) (hb hby at_204) hS hkS hZ own_EW' RC (by decide) (by decide) e58 ⟨rfl, N58⟩
    · refine W.go (fun _ hr => XS.ifNo X0.here hx rfl (hb hby at_7) rfl ((if0 _ _).trans (feq hc7_38).1) hr) ?_
      show W p e below _ (s₁.setTop (mkF m 10 #[.val (.int p0), .val (.int p1), .val (.int (1 : Int32)), .unset, .unset, .unset, .unset, .unset] []))
      refine W.go (fun _ hr => XS.iconst X0.here hx rfl (hb hby at_10) hr) ?_
      show W p e below _ (s₁.setTop (mkF m 11 #[.val (.int p0), .val (.int p1), .val (.int (1 : Int32)), .unset, .unset, .unset, .unset, .unset] [(.int (1 : Int32))]))
      refine W.go (fun _ hr => XS.goto X0.here hx rfl (pc0 := 11) (pc' := 15) rfl (hb hby at_11) (by decide) (by decide) hr) ?_
      show W p e below _ (s₁.setTop (mkF m 15 #[.val (.int p0), .val (.int p1), .val (.int (1 : Int32)), .unset, .unset, .unset, .unset, .unset] [(.int (1 : Int32))]))
      refine W.go (fun _ hr => XS.istoreN X0.here hx rfl (hb hby at_15) rfl (l' := #[.val (.int p0), .val (.int p1), .val (.int (1 : Int32)), .val (.int (1 : Int32)), .unset, .unset, .unset, .unset]) rfl hr) ?_
      show W p e below _ (s₁.setTop (mkF m 16 #[.val (.int p0), .val (.int p1), .val (.int (1 : Int32)), .val (.int (1 : Int32)), .unset, .unset, .unset, .unset] []))
      obtain ⟨T59, h59, X59, e59, E59, E_b59, D59, U59, st59⟩ := newO X0 hx hZ hown (hw _ (List.mem_of_getElem? (i := 0) rfl)) (hw _ (List.mem_of_getElem? (i := 1) rfl)) (hw _ (List.mem_of_getElem? (i := 2) rfl)) e0 (g := (mkF m 16 #[.val (.int p0), .val (.int p1), .val (.int (1 : Int32)), .val (.int (1 : Int32)), .unset, .unset, .unset, .unset] [])) rfl (hb hby at_16) (by decide) (by decide)
      obtain ⟨b59, g59⟩ : ∃ z, z = h0.size := ⟨_, rfl⟩
      rw [← g59] at E_b59 D59 U59 st59
      have Sf_b59 : Safe Z EL vm0 h0 b59 := Safe.new (Nat.le_of_eq g59.symm)
      have g_b59 : n0 ≤ b59 := Nat.le_trans Z0 (Nat.le_of_eq g59.symm)
      replace S_COMPACT_STRINGS := Sta.ext E59 S_COMPACT_STRINGS
      replace S_SIOOBE_FORMATTER := Sta.ext E59 S_SIOOBE_FORMATTER
      have Z60 : n0 ≤ h59.size := Nat.le_trans Z0 E59.1
      replace Sf_b59 := Safe.ext E59 RC.1 Sf_b59
      replace RC := RC.trans (CHr.ext E59 RC.1)
      replace hkS := Nat.le_trans hkS E59.1
      have F_json_b59 : Fld Z h59 b59 "org/allonym/cli/JsonWriter" "json" "Ljava/lang/StringBuilder;" .null := D59 (Or.inr (hw _ (List.mem_of_getElem? (i := 30) rfl))) (ty := (.object "java/lang/StringBuilder")) (by decide)
      refine W.go st59 ?_
      show W p e below _ (T59.setTop (mkF m 19 #[.val (.int p0), .val (.int p1), .val (.int (1 : Int32)), .val (.int (1 : Int32)), .unset, .unset, .unset, .unset] [(.ref b59)]))
      refine W.go (fun _ hr => XS.dup X59.here hx rfl (hb hby at_19) rfl rfl hr) ?_
      show W p e below _ (T59.setTop (mkF m 20 #[.val (.int p0), .val (.int p1), .val (.int (1 : Int32)), .val (.int (1 : Int32)), .unset, .unset, .unset, .unset] [(.ref b59), (.ref b59)]))
      refine W.callI X59 hx hZ hown (g := (mkF m 20 #[.val (.int p0), .val (.int p1), .val (.int (1 : Int32)), .val (.int (1 : Int32)), .unset, .unset, .unset, .unset] [(.ref b59), (.ref b59)])) (by rw [hml]; rfl) (hw _ (List.mem_of_getElem? (i := 3) rfl)) (hw _ (List.mem_of_getElem? (i := 4) rfl)) (hw _ (List.mem_of_getElem? (i := 2) rfl)) (hw _ (List.mem_of_getElem? (i := 5) rfl)) e59 (rm1 l Z a0 hw b59 zCS h59 n0 Z60 E_b59 F_json_b59 g_b59 S_COMPACT_STRINGS hCS) rfl (by decide) pd_407 rfl (b := b59) (argsL := []) (rest := [(.ref b59)]) rfl rfl rfl (hb hby at_20) (W0 := 1) rfl (by decide) (by decide) (by decide) (by decide) (fun v61 T61 h61 L61 X61 e61 hQ61 => ?_)
      obtain ⟨rfl, N61q, K61, Ee61, o61, t61, kt61, so61, st61, not61, Fj61, E_o61, F_value_o61, F_coder_o61, F_count_o61, V_t61⟩ := hQ61
      have N61 := Fr.app N0 N61q
      have ne_b59_o61 : b59 ≠ o61 := Nat.ne_of_lt (Nat.lt_of_lt_of_le E_b59.lt so61)
      have Sf_o61 : Safe Z EL vm0 h59 o61 := Safe.new so61
      have g_o61 : n0 ≤ o61 := Nat.le_trans Z60 so61
      have ne_b59_t61 : b59 ≠ t61 := Nat.ne_of_lt (Nat.lt_of_lt_of_le E_b59.lt st61)
      have Sf_t61 : Safe Z EL vm0 h59 t61 := Safe.new st61
      have g_t61 : n0 ≤ t61 := Nat.le_trans Z60 st61
      have SfKK61 := (sfS Sf_b59 sf0)
      have nsK61 := (nsS E_b59.nostat ns0)
      replace S_COMPACT_STRINGS := Sta.keep S_COMPACT_STRINGS K61 nsK61
      replace S_SIOOBE_FORMATTER := Sta.keep S_SIOOBE_FORMATTER K61 nsK61
      replace E_b59 := E_b59.keep K61
      have Z62 : n0 ≤ h61.size := Nat.le_trans Z60 K61.1
      replace Sf_b59 := Safe.keep K61 SfKK61 RC.1 Sf_b59
      replace Sf_o61 := Safe.keep K61 SfKK61 RC.1 Sf_o61
      replace Sf_t61 := Safe.keep K61 SfKK61 RC.1 Sf_t61
      replace RC := RC.trans (CHr.keep K61 SfKK61 RC.1)
      replace hkS := Nat.le_trans hkS K61.1
      show W p e below _ (T61.setTop (mkF m 23 #[.val (.int p0), .val (.int p1), .val (.int (1 : Int32)), .val (.int (1 : Int32)), .unset, .unset, .unset, .unset] [(.ref b59)]))
      refine W.go (fun _ hr => XS.astore X61.here hx rfl (hb hby at_23) rfl rfl (l' := #[.val (.int p0), .val (.int p1), .val (.int (1 : Int32)), .val (.int (1 : Int32)), .val (.ref b59), .unset, .unset, .unset]) rfl hr) ?_
      show W p e below _ (T61.setTop (mkF m 25 #[.val (.int p0), .val (.int p1), .val (.int (1 : Int32)), .val (.int (1 : Int32)), .val (.ref b59), .unset, .unset, .unset] []))
      refine W.go (fun _ hr => XS.iloadN X61.here hx rfl (hb hby at_25) rfl hr) ?_
      show W p e below _ (T61.setTop (mkF m 26 #[.val (.int p0), .val (.int p1), .val (.int (1 : Int32)), .val (.int (1 : Int32)), .val (.ref b59), .unset, .unset, .unset] [(.int (1 : Int32))]))
      refine W.go (fun _ hr => XS.ifYes X61.here hx rfl (pc0 := 26) (pc' := 49) rfl (hb hby at_26) rfl ((if0 _ _).trans (feq (by decide : ¬ ((1 : Int32) = (0 : Int32)))).2) (by decide) (by decide) hr) ?_
      show W p e below _ (T61.setTop (mkF m 49 #[.val (.int p0), .val (.int p1), .val (.int (1 : Int32)), .val (.int (1 : Int32)), .val (.ref b59), .unset, .unset, .unset] []))
      refine W.go (fun _ hr => XS.iloadN X61.here hx rfl (hb hby at_49) rfl hr) ?_
      show W p e below _ (T61.setTop (mkF m 50 #[.val (.int p0), .val (.int p1), .val (.int (1 : Int32)), .val (.int (1 : Int32)), .val (.ref b59), .unset, .unset, .unset] [(.int (1 : Int32))]))
      refine W.go (fun _ hr => XS.iconst X61.here hx rfl (hb hby at_50) hr) ?_
      show W p e below _ (T61.setTop (mkF m 51 #[.val (.int p0), .val (.int p1), .val (.int (1 : Int32)), .val (.int (1 : Int32)), .val (.ref b59), .unset, .unset, .unset] [(.int (1 : Int32)), (.int (1 : Int32))]))
      refine W.go (fun _ hr => XS.icmpNo X61.here hx rfl (hb hby at_51) rfl (teq (by decide : ((1 : Int32) = (1 : Int32)))).2 hr) ?_
      show W p e below _ (T61.setTop (mkF m 54 #[.val (.int p0), .val (.int p1), .val (.int (1 : Int32)), .val (.int (1 : Int32)), .val (.ref b59), .unset, .unset, .unset] []))
      refine W.go (fun _ hr => XS.aload X61.here hx rfl (hb hby at_54) rfl rfl hr) ?_
      show W p e below _ (T61.setTop (mkF m 56 #[.val (.int p0), .val (.int p1), .val (.int (1 : Int32)), .val (.int (1 : Int32)), .val (.ref b59), .unset, .unset, .unset] [(.ref b59)]))
      refine W.callV X61 hx hZ hown (g := (mkF m 56 #[.val (.int p0), .val (.int p1), .val (.int (1 : Int32)), .val (.int (1 : Int32)), .val (.ref b59), .unset, .unset, .unset] [(.ref b59)])) (by rw [hml]; rfl) (hw _ (List.mem_of_getElem? (i := 186) rfl)) (hw _ (List.mem_of_getElem? (i := 187) rfl)) (hw _ (List.mem_of_getElem? (i := 189) rfl)) (hw _ (List.mem_of_getElem? (i := 188) rfl)) (hw _ (List.mem_of_getElem? (i := 2) rfl)) (hw _ (List.mem_of_getElem? (i := 190) rfl)) e61 (rm_beginArrayN l Z a0 hw b59 o61 t61 kt61 [] (0 : Int32) [(.int (91 : Int32))] (1 : Int32) zCS wSF h61 n0 Z62 E_b59 Fj61 E_o61 F_value_o61 F_coder_o61 F_count_o61 V_t61 S_COMPACT_STRINGS hCS S_SIOOBE_FORMATTER hSF (by decide) g_o61 g_t61 ne_b59_o61 ne_b59_t61 not61 (Or.inl rfl) rfl (by decide)) (notFace_of_selects (args := #[]) (mvT hZ (hw _ (List.mem_of_getElem? (i := 189) rfl)))) (by decide) pd_437 rfl E_b59 (argsL := []) (rest := []) rfl rfl rfl (hb hby at_56) (W0 := 0) rfl (by decide) (by decide) (by decide) (by decide) (fun v63 T63 h63 L63 X63 e63 hQ63 => ?_)
      obtain ⟨rfl, N63q, K63, Eo63, Fv63, Fc63, Fn63, V63⟩ := hQ63
      have N63 := Fr.app N61 N63q
      have SfKK63 := (sfS Sf_o61 (sfS Sf_t61 sf0))
      have nsK63 := (nsS E_o61.nostat (nsS V_t61.nostat ns0))
      replace S_COMPACT_STRINGS := Sta.keep S_COMPACT_STRINGS K63 nsK63
      replace S_SIOOBE_FORMATTER := Sta.keep S_SIOOBE_FORMATTER K63 nsK63
      replace E_b59 := E_b59.keep K63
      replace Fj61 := Fj61.keep K63 (ninS ne_b59_o61 (ninS ne_b59_t61 nin0))
      replace E_o61 := E_o61.keep K63
      have Z64 : n0 ≤ h63.size := Nat.le_trans Z62 K63.1
      replace Sf_b59 := Safe.keep K63 SfKK63 RC.1 Sf_b59
      replace Sf_o61 := Safe.keep K63 SfKK63 RC.1 Sf_o61
      replace Sf_t61 := Safe.keep K63 SfKK63 RC.1 Sf_t61
      replace RC := RC.trans (CHr.keep K63 SfKK63 RC.1)
      replace hkS := Nat.le_trans hkS K63.1
      show W p e below _ (T63.setTop (mkF m 59 #[.val (.int p0), .val (.int p1), .val (.int (1 : Int32)), .val (.int (1 : Int32)), .val (.ref b59), .unset, .unset, .unset] [(.ref b59)]))
      refine W.go (fun _ hr => XS.pop X63.here hx rfl (hb hby at_59) rfl rfl hr) ?_
      show W p e below _ (T63.setTop (mkF m 60 #[.val (.int p0), .val (.int p1), .val (.int (1 : Int32)), .val (.int (1 : Int32)), .val (.ref b59), .unset, .unset, .unset] []))
      have lt65_b59 : b59 < h63.size := E_b59.lt
      have lt65_o61 : o61 < h63.size := E_o61.lt
      have lt65_t61 : t61 < h63.size := V63.lt
      obtain ⟨s65, T65, h65, kk65, c65, kb65, X65, e65, E65, hS, hkS, hZ, hown, E_s65, F_coder_s65, F_value_s65, V_c65, la65, lb65, hC65, hL65, hne65, st65⟩ := ldcCH X63 hx hZ hown (hw _ (List.mem_of_getElem? (i := 194) rfl)) own_sa' e63 hS hkS own_EW' (List.mem_of_getElem? (i := 3) rfl) RC.1 (vs := [(.int (91 : Int32)), (.int (93 : Int32))]) (z := (2 : Int32)) (by decide) (by decide) (by decide) (g := (mkF m 60 #[.val (.int p0), .val (.int p1), .val (.int (1 : Int32)), .val (.int (1 : Int32)), .val (.ref b59), .unset, .unset, .unset] [])) rfl (hb hby at_60) (n := 8) (by decide) (by decide) (by decide) (by decide)
      replace S_COMPACT_STRINGS := Sta.ext E65 S_COMPACT_STRINGS
      replace S_SIOOBE_FORMATTER := Sta.ext E65 S_SIOOBE_FORMATTER
      replace E_b59 := E_b59.ext E65
      replace Fj61 := Fj61.ext E65
      replace E_o61 := E_o61.ext E65
      replace Fv63 := Fv63.ext E65
      replace Fc63 := Fc63.ext E65
      replace Fn63 := Fn63.ext E65
      replace V63 := V63.ext E65
      have Z66 : n0 ≤ h65.size := Nat.le_trans Z64 E65.1
      replace Sf_b59 := hC65.safe lt65_b59 Sf_b59
      replace Sf_o61 := hC65.safe lt65_o61 Sf_o61
      replace Sf_t61 := hC65.safe lt65_t61 Sf_t61
      replace RC := RC.trans hC65
      have ne_b59_s65 := (hne65 b59 Sf_b59).1
      have ne_b59_c65 := (hne65 b59 Sf_b59).2
      have ne_o61_s65 := (hne65 o61 Sf_o61).1
      have ne_o61_c65 := (hne65 o61 Sf_o61).2
      have ne_t61_s65 := (hne65 t61 Sf_t61).1
      have ne_t61_c65 := (hne65 t61 Sf_t61).2
      refine W.go st65 ?_
      show W p e below _ (T65.setTop (mkF m 62 #[.val (.int p0), .val (.int p1), .val (.int (1 : Int32)), .val (.int (1 : Int32)), .val (.ref b59), .unset, .unset, .unset] [(.ref s65)]))
      refine W.go (fun _ hr => XS.astore X65.here hx rfl (hb hby at_62) rfl rfl (l' := #[.val (.int p0), .val (.int p1), .val (.int (1 : Int32)), .val (.int (1 : Int32)), .val (.ref b59), .val (.ref s65), .unset, .unset]) rfl hr) ?_
      show W p e below _ (T65.setTop (mkF m 64 #[.val (.int p0), .val (.int p1), .val (.int (1 : Int32)), .val (.int (1 : Int32)), .val (.ref b59), .val (.ref s65), .unset, .unset] []))
      refine W.go (fun _ hr => XS.iloadN X65.here hx rfl (hb hby at_64) rfl hr) ?_
      show W p e below _ (T65.setTop (mkF m 65 #[.val (.int p0), .val (.int p1), .val (.int (1 : Int32)), .val (.int (1 : Int32)), .val (.ref b59), .val (.ref s65), .unset, .unset] [(.int (1 : Int32))]))
      refine W.go (fun _ hr => XS.ifNo X65.here hx rfl (hb hby at_65) rfl ((if0 _ _).trans (feq (by decide : ¬ ((1 : Int32) = (0 : Int32)))).1) hr) ?_
      show W p e below _ (T65.setTop (mkF m 68 #[.val (.int p0), .val (.int p1), .val (.int (1 : Int32)), .val (.int (1 : Int32)), .val (.ref b59), .val (.ref s65), .unset, .unset] []))
      have lt67_b59 : b59 < h65.size := E_b59.lt
      have lt67_o61 : o61 < h65.size := E_o61.lt
      have lt67_t61 : t61 < h65.size := V63.lt
      obtain ⟨s67, T67, h67, kk67, c67, kb67, X67, e67, E67, hS, hkS, hZ, hown, E_s67, F_coder_s67, F_value_s67, V_c67, la67, lb67, hC67, hL67, hne67, st67⟩ := ldcCH X65 hx hZ hown (hw _ (List.mem_of_getElem? (i := 195) rfl)) own_sa' e65 hS hkS own_EW' (List.mem_of_getElem? (i := 4) rfl) RC.1 (vs := [(.int (91 : Int32)), (.int (93 : Int32)), (.int (44 : Int32)), (.int (116 : Int32)), (.int (114 : Int32)), (.int (117 : Int32)), (.int (101 : Int32))]) (z := (7 : Int32)) (by decide) (by decide) (by decide) (g := (mkF m 68 #[.val (.int p0), .val (.int p1), .val (.int (1 : Int32)), .val (.int (1 : Int32)), .val (.ref b59), .val (.ref s65), .unset, .unset] [])) rfl (hb hby at_68) (n := 28) (by decide) (by decide) (by decide) (by decide)
      replace S_COMPACT_STRINGS := Sta.ext E67 S_COMPACT_STRINGS
      replace S_SIOOBE_FORMATTER := Sta.ext E67 S_SIOOBE_FORMATTER
      replace E_b59 := E_b59.ext E67
      replace Fj61 := Fj61.ext E67
      replace E_o61 := E_o61.ext E67
      replace Fv63 := Fv63.ext E67
      replace Fc63 := Fc63.ext E67
      replace Fn63 := Fn63.ext E67
      replace V63 := V63.ext E67
      replace E_s65 := E_s65.ext E67
      replace F_coder_s65 := F_coder_s65.ext E67
      replace F_value_s65 := F_value_s65.ext E67
      replace V_c65 := V_c65.ext E67
      have Z68 : n0 ≤ h67.size := Nat.le_trans Z66 E67.1
      replace Sf_b59 := hC67.safe lt67_b59 Sf_b59
      replace Sf_o61 := hC67.safe lt67_o61 Sf_o61
      replace Sf_t61 := hC67.safe lt67_t61 Sf_t61
      replace RC := RC.trans hC67
      have ne_b59_s67 := (hne67 b59 Sf_b59).1
      have ne_b59_c67 := (hne67 b59 Sf_b59).2
      have ne_o61_s67 := (hne67 o61 Sf_o61).1
      have ne_o61_c67 := (hne67 o61 Sf_o61).2
      have ne_t61_s67 := (hne67 t61 Sf_t61).1
      have ne_t61_c67 := (hne67 t61 Sf_t61).2
      refine W.go st67 ?_
      show W p e below _ (T67.setTop (mkF m 70 #[.val (.int p0), .val (.int p1), .val (.int (1 : Int32)), .val (.int (1 : Int32)), .val (.ref b59), .val (.ref s65), .unset, .unset] [(.ref s67)]))
      refine W.go (fun _ hr => XS.goto X67.here hx rfl (pc0 := 70) (pc' := 75) rfl (hb hby at_70) (by decide) (by decide) hr) ?_
      show W p e below _ (T67.setTop (mkF m 75 #[.val (.int p0), .val (.int p1), .val (.int (1 : Int32)), .val (.int (1 : Int32)), .val (.ref b59), .val (.ref s65), .unset, .unset] [(.ref s67)]))
      refine W.go (fun _ hr => XS.astore X67.here hx rfl (hb hby at_75) rfl rfl (l' := #[.val (.int p0), .val (.int p1), .val (.int (1 : Int32)), .val (.int (1 : Int32)), .val (.ref b59), .val (.ref s65), .val (.ref s67), .unset]) rfl hr) ?_
      show W p e below _ (T67.setTop (mkF m 77 #[.val (.int p0), .val (.int p1), .val (.int (1 : Int32)), .val (.int (1 : Int32)), .val (.ref b59), .val (.ref s65), .val (.ref s67), .unset] []))
      refine W.go (fun _ hr => XS.goto X67.here hx rfl (pc0 := 77) (pc' := 156) rfl (hb hby at_77) (by decide) (by decide) hr) ?_
      show W p e below _ (T67.setTop (mkF m 156 #[.val (.int p0), .val (.int p1), .val (.int (1 : Int32)), .val (.int (1 : Int32)), .val (.ref b59), .val (.ref s65), .val (.ref s67), .unset] []))
      refine W.go (fun _ hr => XS.aload X67.here hx rfl (hb hby at_156) rfl rfl hr) ?_
      show W p e below _ (T67.setTop (mkF m 158 #[.val (.int p0), .val (.int p1), .val (.int (1 : Int32)), .val (.int (1 : Int32)), .val (.ref b59), .val (.ref s65), .val (.ref s67), .unset] [(.ref b59)]))
      refine W.callV X67 hx hZ hown (g := (mkF m 158 #[.val (.int p0), .val (.int p1), .val (.int (1 : Int32)), .val (.int (1 : Int32)), .val (.ref b59), .val (.ref s65), .val (.ref s67), .unset] [(.ref b59)])) (by rw [hml]; rfl) (hw _ (List.mem_of_getElem? (i := 38) rfl)) (hw _ (List.mem_of_getElem? (i := 39) rfl)) (hw _ (List.mem_of_getElem? (i := 41) rfl)) (hw _ (List.mem_of_getElem? (i := 40) rfl)) (hw _ (List.mem_of_getElem? (i := 2) rfl)) (hw _ (List.mem_of_getElem? (i := 42) rfl)) e67 (rm_endArray l Z a0 hw b59 o61 t61 kt61 [(.int (91 : Int32))] (1 : Int32) [(.int (91 : Int32)), (.int (93 : Int32))] (2 : Int32) zCS wSF h67 n0 Z68 E_b59 Fj61 E_o61 Fv63 Fc63 Fn63 V63 S_COMPACT_STRINGS hCS S_SIOOBE_FORMATTER hSF (by decide) g_o61 g_t61 ne_b59_o61 ne_b59_t61 not61  rfl (by decide)) (notFace_of_selects (args := #[]) (mvT hZ (hw _ (List.mem_of_getElem? (i := 41) rfl)))) (by decide) pd_437 rfl E_b59 (argsL := []) (rest := []) rfl rfl rfl (hb hby at_158) (W0 := 0) rfl (by decide) (by decide) (by decide) (by decide) (fun v69 T69 h69 L69 X69 e69 hQ69 => ?_)
      obtain ⟨rfl, N69q, K69, Eo69, Fv69, Fc69, Fn69, V69⟩ := hQ69
      have N69 := Fr.app N63 N69q
      have SfKK69 := (sfS Sf_o61 (sfS Sf_t61 sf0))
      have nsK69 := (nsS E_o61.nostat (nsS V63.nostat ns0))
      replace S_COMPACT_STRINGS := Sta.keep S_COMPACT_STRINGS K69 nsK69
      replace S_SIOOBE_FORMATTER := Sta.keep S_SIOOBE_FORMATTER K69 nsK69
      replace E_b59 := E_b59.keep K69
      replace Fj61 := Fj61.keep K69 (ninS ne_b59_o61 (ninS ne_b59_t61 nin0))
      replace E_o61 := E_o61.keep K69
      replace E_s65 := E_s65.keep K69
      replace F_coder_s65 := F_coder_s65.keep K69 (ninS (Ne.symm ne_o61_s65) (ninS (Ne.symm ne_t61_s65) nin0))
      replace F_value_s65 := F_value_s65.keep K69 (ninS (Ne.symm ne_o61_s65) (ninS (Ne.symm ne_t61_s65) nin0))
      replace V_c65 := V_c65.keep K69 (ninS (Ne.symm ne_o61_c65) (ninS (Ne.symm ne_t61_c65) nin0))
      replace E_s67 := E_s67.keep K69
      replace F_coder_s67 := F_coder_s67.keep K69 (ninS (Ne.symm ne_o61_s67) (ninS (Ne.symm ne_t61_s67) nin0))
      replace F_value_s67 := F_value_s67.keep K69 (ninS (Ne.symm ne_o61_s67) (ninS (Ne.symm ne_t61_s67) nin0))
      replace V_c67 := V_c67.keep K69 (ninS (Ne.symm ne_o61_c67) (ninS (Ne.symm ne_t61_c67) nin0))
      have Z70 : n0 ≤ h69.size := Nat.le_trans Z68 K69.1
      replace Sf_b59 := Safe.keep K69 SfKK69 RC.1 Sf_b59
      replace Sf_o61 := Safe.keep K69 SfKK69 RC.1 Sf_o61
      replace Sf_t61 := Safe.keep K69 SfKK69 RC.1 Sf_t61
      replace RC := RC.trans (CHr.keep K69 SfKK69 RC.1)
      replace hkS := Nat.le_trans hkS K69.1
      show W p e below _ (T69.setTop (mkF m 161 #[.val (.int p0), .val (.int p1), .val (.int (1 : Int32)), .val (.int (1 : Int32)), .val (.ref b59), .val (.ref s65), .val (.ref s67), .unset] [(.ref b59)]))
      refine W.go (fun _ hr => XS.astore X69.here hx rfl (hb hby at_161) rfl rfl (l' := #[.val (.int p0), .val (.int p1), .val (.int (1 : Int32)), .val (.int (1 : Int32)), .val (.ref b59), .val (.ref s65), .val (.ref s67), .val (.ref b59)]) rfl hr) ?_
      show W p e below _ (T69.setTop (mkF m 163 #[.val (.int p0), .val (.int p1), .val (.int (1 : Int32)), .val (.int (1 : Int32)), .val (.ref b59), .val (.ref s65), .val (.ref s67), .val (.ref b59)] []))
      refine W.go (fun _ hr => XS.aload X69.here hx rfl (hb hby at_163) rfl rfl hr) ?_
      show W p e below _ (T69.setTop (mkF m 165 #[.val (.int p0), .val (.int p1), .val (.int (1 : Int32)), .val (.int (1 : Int32)), .val (.ref b59), .val (.ref s65), .val (.ref s67), .val (.ref b59)] [(.ref b59)]))
      refine W.go (fun _ hr => XS.aload X69.here hx rfl (hb hby at_165) rfl rfl hr) ?_
      show W p e below _ (T69.setTop (mkF m 167 #[.val (.int p0), .val (.int p1), .val (.int (1 : Int32)), .val (.int (1 : Int32)), .val (.ref b59), .val (.ref s65), .val (.ref s67), .val (.ref b59)] [(.ref b59), (.ref b59)]))
      refine W.go (fun _ hr => Jvm.RoadKit.acmp (g := (mkF m 167 #[.val (.int p0), .val (.int p1), .val (.int (1 : Int32)), .val (.int (1 : Int32)), .val (.ref b59), .val (.ref s65), .val (.ref s67), .val (.ref b59)] [(.ref b59), (.ref b59)])) X69 hx rfl rfl rfl (pc0 := 167) (pc' := 172) (same := true) rfl (hb hby at_167) rfl (decide_eq_true rfl) (by decide) (by decide) hr) ?_
      show W p e below _ (T69.setTop (mkF m 172 #[.val (.int p0), .val (.int p1), .val (.int (1 : Int32)), .val (.int (1 : Int32)), .val (.ref b59), .val (.ref s65), .val (.ref s67), .val (.ref b59)] []))
      refine W.go (fun _ hr => XS.aload X69.here hx rfl (hb hby at_172) rfl rfl hr) ?_
      show W p e below _ (T69.setTop (mkF m 174 #[.val (.int p0), .val (.int p1), .val (.int (1 : Int32)), .val (.int (1 : Int32)), .val (.ref b59), .val (.ref s65), .val (.ref s67), .val (.ref b59)] [(.ref b59)]))
      refine W.callV X69 hx hZ hown (g := (mkF m 174 #[.val (.int p0), .val (.int p1), .val (.int (1 : Int32)), .val (.int (1 : Int32)), .val (.ref b59), .val (.ref s65), .val (.ref s67), .val (.ref b59)] [(.ref b59)])) (by rw [hml]; rfl) (hw _ (List.mem_of_getElem? (i := 69) rfl)) (hw _ (List.mem_of_getElem? (i := 70) rfl)) (hw _ (List.mem_of_getElem? (i := 72) rfl)) (hw _ (List.mem_of_getElem? (i := 71) rfl)) (hw _ (List.mem_of_getElem? (i := 2) rfl)) (hw _ (List.mem_of_getElem? (i := 73) rfl)) e69 (rm11 l Z a0 hw b59 o61 t61 kt61 [(.int (91 : Int32)), (.int (93 : Int32))] (2 : Int32) zCS h69 n0 Z70 E_b59 Fj61 E_o61 Fv69 Fc69 Fn69 V69 S_COMPACT_STRINGS hCS (by decide)) (notFace_of_selects (args := #[]) (mvT hZ (hw _ (List.mem_of_getElem? (i := 72) rfl)))) (by decide) pd_425 rfl E_b59 (argsL := []) (rest := []) rfl rfl rfl (hb hby at_174) (W0 := 0) rfl (by decide) (by decide) (by decide) (by decide) (fun v71 T71 h71 L71 X71 e71 hQ71 => ?_)
      obtain ⟨o71, b71, kb71, rfl, N71q, K71, so71, sb71, nob71, E_o71, F_value_o71, F_coder_o71, E_b71, V_b71⟩ := hQ71
      have N71 := Fr.app N69 N71q
      have ne_b59_o71 : b59 ≠ o71 := Nat.ne_of_lt (Nat.lt_of_lt_of_le E_b59.lt so71)
      have ne_o61_o71 : o61 ≠ o71 := Nat.ne_of_lt (Nat.lt_of_lt_of_le E_o61.lt so71)
      have ne_s65_o71 : s65 ≠ o71 := Nat.ne_of_lt (Nat.lt_of_lt_of_le E_s65.lt so71)
      have ne_c65_o71 : c65 ≠ o71 := Nat.ne_of_lt (Nat.lt_of_lt_of_le V_c65.lt so71)
      have ne_s67_o71 : s67 ≠ o71 := Nat.ne_of_lt (Nat.lt_of_lt_of_le E_s67.lt so71)
      have ne_c67_o71 : c67 ≠ o71 := Nat.ne_of_lt (Nat.lt_of_lt_of_le V_c67.lt so71)
      have ne_t61_o71 : t61 ≠ o71 := Nat.ne_of_lt (Nat.lt_of_lt_of_le V69.lt so71)
      have Sf_o71 : Safe Z EL T67.vm h69 o71 := Safe.new so71
      have g_o71 : n0 ≤ o71 := Nat.le_trans Z70 so71
      have ne_b59_b71 : b59 ≠ b71 := Nat.ne_of_lt (Nat.lt_of_lt_of_le E_b59.lt sb71)
      have ne_o61_b71 : o61 ≠ b71 := Nat.ne_of_lt (Nat.lt_of_lt_of_le E_o61.lt sb71)
      have ne_s65_b71 : s65 ≠ b71 := Nat.ne_of_lt (Nat.lt_of_lt_of_le E_s65.lt sb71)
      have ne_c65_b71 : c65 ≠ b71 := Nat.ne_of_lt (Nat.lt_of_lt_of_le V_c65.lt sb71)
      have ne_s67_b71 : s67 ≠ b71 := Nat.ne_of_lt (Nat.lt_of_lt_of_le E_s67.lt sb71)
      have ne_c67_b71 : c67 ≠ b71 := Nat.ne_of_lt (Nat.lt_of_lt_of_le V_c67.lt sb71)
      have ne_t61_b71 : t61 ≠ b71 := Nat.ne_of_lt (Nat.lt_of_lt_of_le V69.lt sb71)
      have Sf_b71 : Safe Z EL T67.vm h69 b71 := Safe.new sb71
      have g_b71 : n0 ≤ b71 := Nat.le_trans Z70 sb71
      have SfKK71 : ∀ x ∈ ([] : List Addr), Safe Z EL T67.vm h69 x := sf0
      replace S_COMPACT_STRINGS := Sta.keep S_COMPACT_STRINGS K71 ns0
      replace S_SIOOBE_FORMATTER := Sta.keep S_SIOOBE_FORMATTER K71 ns0
      replace E_b59 := E_b59.keep K71
      replace Fj61 := Fj61.keep K71 nin0
      replace E_o61 := E_o61.keep K71
      replace E_s65 := E_s65.keep K71
      replace F_coder_s65 := F_coder_s65.keep K71 nin0
      replace F_value_s65 := F_value_s65.keep K71 nin0
      replace V_c65 := V_c65.keep K71 nin0
      replace E_s67 := E_s67.keep K71
      replace F_coder_s67 := F_coder_s67.keep K71 nin0
      replace F_value_s67 := F_value_s67.keep K71 nin0
      replace V_c67 := V_c67.keep K71 nin0
      replace Fv69 := Fv69.keep K71 nin0
      replace Fc69 := Fc69.keep K71 nin0
      replace Fn69 := Fn69.keep K71 nin0
      replace V69 := V69.keep K71 nin0
      have Z72 : n0 ≤ h71.size := Nat.le_trans Z70 K71.1
      replace Sf_b59 := Safe.keep K71 SfKK71 RC.1 Sf_b59
      replace Sf_o61 := Safe.keep K71 SfKK71 RC.1 Sf_o61
      replace Sf_t61 := Safe.keep K71 SfKK71 RC.1 Sf_t61
      replace Sf_o71 := Safe.keep K71 SfKK71 RC.1 Sf_o71
      replace Sf_b71 := Safe.keep K71 SfKK71 RC.1 Sf_b71
      replace RC := RC.trans (CHr.keep K71 SfKK71 RC.1)
      replace hkS := Nat.le_trans hkS K71.1
      show W p e below _ (T71.setTop (mkF m 177 #[.val (.int p0), .val (.int p1), .val (.int (1 : Int32)), .val (.int (1 : Int32)), .val (.ref b59), .val (.ref s65), .val (.ref s67), .val (.ref b59)] [(.ref o71)]))
      refine W.go (fun _ hr => XS.aload X71.here hx rfl (hb hby at_177) rfl rfl hr) ?_
      show W p e below _ (T71.setTop (mkF m 179 #[.val (.int p0), .val (.int p1), .val (.int (1 : Int32)), .val (.int (1 : Int32)), .val (.ref b59), .val (.ref s65), .val (.ref s67), .val (.ref b59)] [(.ref s65), (.ref o71)]))
      refine W.callV X71 hx hZ hown (g := (mkF m 179 #[.val (.int p0), .val (.int p1), .val (.int (1 : Int32)), .val (.int (1 : Int32)), .val (.ref b59), .val (.ref s65), .val (.ref s67), .val (.ref b59)] [(.ref s65), (.ref o71)])) (by rw [hml]; rfl) (hw _ (List.mem_of_getElem? (i := 122) rfl)) (hw _ (List.mem_of_getElem? (i := 123) rfl)) (hw _ (List.mem_of_getElem? (i := 125) rfl)) (hw _ (List.mem_of_getElem? (i := 124) rfl)) (hw _ (List.mem_of_getElem? (i := 23) rfl)) (hw _ (List.mem_of_getElem? (i := 126) rfl)) e71 (rm22 l Z a0 hw o71 s65 b71 c65 kb71 kb65 (2 : Int32) (2 : Int32) [(91 : Int32), (93 : Int32)] [(91 : Int32), (93 : Int32)] (1 : Int32) zCS h71 n0 Z72 E_o71 F_value_o71 F_coder_o71 V_b71 E_s65 F_value_s65 F_coder_s65 V_c65 (by decide) (by decide) (Ne.symm ne_s65_o71) S_COMPACT_STRINGS hCS) (notFace_of_selects (args := #[]) (mvT hZ (hw _ (List.mem_of_getElem? (i := 125) rfl)))) (by decide) pd_438 rfl E_o71 (argsL := [(.ref s65)]) (rest := []) rfl rfl rfl (hb hby at_179) (W0 := 0) rfl (by decide) (by decide) (by decide) (by decide) (fun v73 T73 h73 L73 X73 e73 hQ73 => ?_)
      obtain ⟨rfl, N73q, hh73⟩ := hQ73
      obtain rfl := hh73.symm
      have N73 := Fr.app N71 N73q
      show W p e below _ (T73.setTop (mkF m 182 #[.val (.int p0), .val (.int p1), .val (.int (1 : Int32)), .val (.int (1 : Int32)), .val (.ref b59), .val (.ref s65), .val (.ref s67), .val (.ref b59)] [(.int (1 : Int32))]))
      refine W.go (fun _ hr => XS.ifYes X73.here hx rfl (pc0 := 182) (pc' := 187) rfl (hb hby at_182) rfl ((if0 _ _).trans (feq (by decide : ¬ ((1 : Int32) = (0 : Int32)))).2) (by decide) (by decide) hr) ?_
      show W p e below _ (T73.setTop (mkF m 187 #[.val (.int p0), .val (.int p1), .val (.int (1 : Int32)), .val (.int (1 : Int32)), .val (.ref b59), .val (.ref s65), .val (.ref s67), .val (.ref b59)] []))
      refine W.go (fun _ hr => XS.aload X73.here hx rfl (hb hby at_187) rfl rfl hr) ?_
      show W p e below _ (T73.setTop (mkF m 189 #[.val (.int p0), .val (.int p1), .val (.int (1 : Int32)), .val (.int (1 : Int32)), .val (.ref b59), .val (.ref s65), .val (.ref s67), .val (.ref b59)] [(.ref b59)]))
      refine W.go (fun _ hr => XS.iloadN X73.here hx rfl (hb hby at_189) rfl hr) ?_
      show W p e below _ (T73.setTop (mkF m 190 #[.val (.int p0), .val (.int p1), .val (.int (1 : Int32)), .val (.int (1 : Int32)), .val (.ref b59), .val (.ref s65), .val (.ref s67), .val (.ref b59)] [(.int (1 : Int32)), (.ref b59)]))
      refine W.callV X73 hx hZ hown (g := (mkF m 190 #[.val (.int p0), .val (.int p1), .val (.int (1 : Int32)), .val (.int (1 : Int32)), .val (.ref b59), .val (.ref s65), .val (.ref s67), .val (.ref b59)] [(.int (1 : Int32)), (.ref b59)])) (by rw [hml]; rfl) (hw _ (List.mem_of_getElem? (i := 132) rfl)) (hw _ (List.mem_of_getElem? (i := 133) rfl)) (hw _ (List.mem_of_getElem? (i := 135) rfl)) (hw _ (List.mem_of_getElem? (i := 134) rfl)) (hw _ (List.mem_of_getElem? (i := 2) rfl)) (hw _ (List.mem_of_getElem? (i := 136) rfl)) e73 (rm_value1Y l Z a0 hw b59 o61 t61 kt61 [(.int (91 : Int32)), (.int (93 : Int32))] (2 : Int32) (93 : Int32) [(.int (91 : Int32)), (.int (93 : Int32)), (.int (44 : Int32)), (.int (116 : Int32)), (.int (114 : Int32)), (.int (117 : Int32)), (.int (101 : Int32))] (7 : Int32) zCS wSF h71 n0 Z72 E_b59 Fj61 E_o61 Fv69 Fc69 Fn69 V69 S_COMPACT_STRINGS hCS S_SIOOBE_FORMATTER hSF (by decide) g_o61 g_t61 ne_b59_o61 ne_b59_t61 not61 ⟨by decide, by decide, by decide, rfl, by decide, by decide, by decide⟩ rfl (by decide)) (notFace_of_selects (args := #[]) (mvT hZ (hw _ (List.mem_of_getElem? (i := 135) rfl)))) (by decide) pd_439 rfl E_b59 (argsL := [(.int (1 : Int32))]) (rest := []) rfl rfl rfl (hb hby at_190) (W0 := 0) rfl (by decide) (by decide) (by decide) (by decide) (fun v74 T74 h74 L74 X74 e74 hQ74 => ?_)
      obtain ⟨rfl, N74q, K74, Eo74, Fv74, Fc74, Fn74, V74⟩ := hQ74
      have N74 := Fr.app N73 N74q
      have SfKK74 := (sfS Sf_o61 (sfS Sf_t61 sf0))
      have nsK74 := (nsS E_o61.nostat (nsS V69.nostat ns0))
      replace S_COMPACT_STRINGS := Sta.keep S_COMPACT_STRINGS K74 nsK74
      replace S_SIOOBE_FORMATTER := Sta.keep S_SIOOBE_FORMATTER K74 nsK74
      replace E_b59 := E_b59.keep K74
      replace Fj61 := Fj61.keep K74 (ninS ne_b59_o61 (ninS ne_b59_t61 nin0))
      replace E_o61 := E_o61.keep K74
      replace E_s65 := E_s65.keep K74
      replace F_coder_s65 := F_coder_s65.keep K74 (ninS (Ne.symm ne_o61_s65) (ninS (Ne.symm ne_t61_s65) nin0))
      replace F_value_s65 := F_value_s65.keep K74 (ninS (Ne.symm ne_o61_s65) (ninS (Ne.symm ne_t61_s65) nin0))
      replace V_c65 := V_c65.keep K74 (ninS (Ne.symm ne_o61_c65) (ninS (Ne.symm ne_t61_c65) nin0))
      replace E_s67 := E_s67.keep K74
      replace F_coder_s67 := F_coder_s67.keep K74 (ninS (Ne.symm ne_o61_s67) (ninS (Ne.symm ne_t61_s67) nin0))
      replace F_value_s67 := F_value_s67.keep K74 (ninS (Ne.symm ne_o61_s67) (ninS (Ne.symm ne_t61_s67) nin0))
      replace V_c67 := V_c67.keep K74 (ninS (Ne.symm ne_o61_c67) (ninS (Ne.symm ne_t61_c67) nin0))
      replace E_o71 := E_o71.keep K74
      replace F_value_o71 := F_value_o71.keep K74 (ninS (Ne.symm ne_o61_o71) (ninS (Ne.symm ne_t61_o71) nin0))
      replace F_coder_o71 := F_coder_o71.keep K74 (ninS (Ne.symm ne_o61_o71) (ninS (Ne.symm ne_t61_o71) nin0))
      replace E_b71 := E_b71.keep K74
      replace V_b71 := V_b71.keep K74 (ninS (Ne.symm ne_o61_b71) (ninS (Ne.symm ne_t61_b71) nin0))
      have Z75 : n0 ≤ h74.size := Nat.le_trans Z72 K74.1
      replace Sf_b59 := Safe.keep K74 SfKK74 RC.1 Sf_b59
      replace Sf_o61 := Safe.keep K74 SfKK74 RC.1 Sf_o61
      replace Sf_t61 := Safe.keep K74 SfKK74 RC.1 Sf_t61
      replace Sf_o71 := Safe.keep K74 SfKK74 RC.1 Sf_o71
      replace Sf_b71 := Safe.keep K74 SfKK74 RC.1 Sf_b71
      replace RC := RC.trans (CHr.keep K74 SfKK74 RC.1)
      replace hkS := Nat.le_trans hkS K74.1
      show W p e below _ (T74.setTop (mkF m 193 #[.val (.int p0), .val (.int p1), .val (.int (1 : Int32)), .val (.int (1 : Int32)), .val (.ref b59), .val (.ref s65), .val (.ref s67), .val (.ref b59)] [(.ref b59)]))
      refine W.go (fun _ hr => XS.pop X74.here hx rfl (hb hby at_193) rfl rfl hr) ?_
      show W p e below _ (T74.setTop (mkF m 194 #[.val (.int p0), .val (.int p1), .val (.int (1 : Int32)), .val (.int (1 : Int32)), .val (.ref b59), .val (.ref s65), .val (.ref s67), .val (.ref b59)] []))
      refine W.go (fun _ hr => XS.aload X74.here hx rfl (hb hby at_194) rfl rfl hr) ?_
      show W p e below _ (T74.setTop (mkF m 196 #[.val (.int p0), .val (.int p1), .val (.int (1 : Int32)), .val (.int (1 : Int32)), .val (.ref b59), .val (.ref s65), .val (.ref s67), .val (.ref b59)] [(.ref b59)]))
      refine W.callV X74 hx hZ hown (g := (mkF m 196 #[.val (.int p0), .val (.int p1), .val (.int (1 : Int32)), .val (.int (1 : Int32)), .val (.ref b59), .val (.ref s65), .val (.ref s67), .val (.ref b59)] [(.ref b59)])) (by rw [hml]; rfl) (hw _ (List.mem_of_getElem? (i := 69) rfl)) (hw _ (List.mem_of_getElem? (i := 70) rfl)) (hw _ (List.mem_of_getElem? (i := 72) rfl)) (hw _ (List.mem_of_getElem? (i := 71) rfl)) (hw _ (List.mem_of_getElem? (i := 2) rfl)) (hw _ (List.mem_of_getElem? (i := 73) rfl)) e74 (rm11 l Z a0 hw b59 o61 t61 kt61 [(.int (91 : Int32)), (.int (93 : Int32)), (.int (44 : Int32)), (.int (116 : Int32)), (.int (114 : Int32)), (.int (117 : Int32)), (.int (101 : Int32))] (7 : Int32) zCS h74 n0 Z75 E_b59 Fj61 E_o61 Fv74 Fc74 Fn74 V74 S_COMPACT_STRINGS hCS (by decide)) (notFace_of_selects (args := #[]) (mvT hZ (hw _ (List.mem_of_getElem? (i := 72) rfl)))) (by decide) pd_425 rfl E_b59 (argsL := []) (rest := []) rfl rfl rfl (hb hby at_196) (W0 := 0) rfl (by decide) (by decide) (by decide) (by decide) (fun v76 T76 h76 L76 X76 e76 hQ76 => ?_)
      obtain ⟨o76, b76, kb76, rfl, N76q, K76, so76, sb76, nob76, E_o76, F_value_o76, F_coder_o76, E_b76, V_b76⟩ := hQ76
      have N76 := Fr.app N74 N76q
      have ne_b59_o76 : b59 ≠ o76 := Nat.ne_of_lt (Nat.lt_of_lt_of_le E_b59.lt so76)
      have ne_o61_o76 : o61 ≠ o76 := Nat.ne_of_lt (Nat.lt_of_lt_of_le E_o61.lt so76)
      have ne_s65_o76 : s65 ≠ o76 := Nat.ne_of_lt (Nat.lt_of_lt_of_le E_s65.lt so76)
      have ne_c65_o76 : c65 ≠ o76 := Nat.ne_of_lt (Nat.lt_of_lt_of_le V_c65.lt so76)
      have ne_s67_o76 : s67 ≠ o76 := Nat.ne_of_lt (Nat.lt_of_lt_of_le E_s67.lt so76)
      have ne_c67_o76 : c67 ≠ o76 := Nat.ne_of_lt (Nat.lt_of_lt_of_le V_c67.lt so76)
      have ne_o71_o76 : o71 ≠ o76 := Nat.ne_of_lt (Nat.lt_of_lt_of_le E_o71.lt so76)
      have ne_b71_o76 : b71 ≠ o76 := Nat.ne_of_lt (Nat.lt_of_lt_of_le E_b71.lt so76)
      have ne_t61_o76 : t61 ≠ o76 := Nat.ne_of_lt (Nat.lt_of_lt_of_le V74.lt so76)
      have Sf_o76 : Safe Z EL T67.vm h74 o76 := Safe.new so76
      have g_o76 : n0 ≤ o76 := Nat.le_trans Z75 so76
      have ne_b59_b76 : b59 ≠ b76 := Nat.ne_of_lt (Nat.lt_of_lt_of_le E_b59.lt sb76)
      have ne_o61_b76 : o61 ≠ b76 := Nat.ne_of_lt (Nat.lt_of_lt_of_le E_o61.lt sb76)
      have ne_s65_b76 : s65 ≠ b76 := Nat.ne_of_lt (Nat.lt_of_lt_of_le E_s65.lt sb76)
      have ne_c65_b76 : c65 ≠ b76 := Nat.ne_of_lt (Nat.lt_of_lt_of_le V_c65.lt sb76)
      have ne_s67_b76 : s67 ≠ b76 := Nat.ne_of_lt (Nat.lt_of_lt_of_le E_s67.lt sb76)
      have ne_c67_b76 : c67 ≠ b76 := Nat.ne_of_lt (Nat.lt_of_lt_of_le V_c67.lt sb76)
      have ne_o71_b76 : o71 ≠ b76 := Nat.ne_of_lt (Nat.lt_of_lt_of_le E_o71.lt sb76)
      have ne_b71_b76 : b71 ≠ b76 := Nat.ne_of_lt (Nat.lt_of_lt_of_le E_b71.lt sb76)
      have ne_t61_b76 : t61 ≠ b76 := Nat.ne_of_lt (Nat.lt_of_lt_of_le V74.lt sb76)
      have Sf_b76 : Safe Z EL T67.vm h74 b76 := Safe.new sb76
      have g_b76 : n0 ≤ b76 := Nat.le_trans Z75 sb76
      have SfKK76 : ∀ x ∈ ([] : List Addr), Safe Z EL T67.vm h74 x := sf0
      replace S_COMPACT_STRINGS := Sta.keep S_COMPACT_STRINGS K76 ns0
      replace S_SIOOBE_FORMATTER := Sta.keep S_SIOOBE_FORMATTER K76 ns0
      replace E_b59 := E_b59.keep K76
      replace Fj61 := Fj61.keep K76 nin0
      replace E_o61 := E_o61.keep K76
      replace E_s65 := E_s65.keep K76
      replace F_coder_s65 := F_coder_s65.keep K76 nin0
      replace F_value_s65 := F_value_s65.keep K76 nin0
      replace V_c65 := V_c65.keep K76 nin0
      replace E_s67 := E_s67.keep K76
      replace F_coder_s67 := F_coder_s67.keep K76 nin0
      replace F_value_s67 := F_value_s67.keep K76 nin0
      replace V_c67 := V_c67.keep K76 nin0
      replace E_o71 := E_o71.keep K76
      replace F_value_o71 := F_value_o71.keep K76 nin0
      replace F_coder_o71 := F_coder_o71.keep K76 nin0
      replace E_b71 := E_b71.keep K76
      replace V_b71 := V_b71.keep K76 nin0
      replace Fv74 := Fv74.keep K76 nin0
      replace Fc74 := Fc74.keep K76 nin0
      replace Fn74 := Fn74.keep K76 nin0
      replace V74 := V74.keep K76 nin0
      have Z77 : n0 ≤ h76.size := Nat.le_trans Z75 K76.1
      replace Sf_b59 := Safe.keep K76 SfKK76 RC.1 Sf_b59
      replace Sf_o61 := Safe.keep K76 SfKK76 RC.1 Sf_o61
      replace Sf_t61 := Safe.keep K76 SfKK76 RC.1 Sf_t61
      replace Sf_o71 := Safe.keep K76 SfKK76 RC.1 Sf_o71
      replace Sf_b71 := Safe.keep K76 SfKK76 RC.1 Sf_b71
      replace Sf_o76 := Safe.keep K76 SfKK76 RC.1 Sf_o76
      replace Sf_b76 := Safe.keep K76 SfKK76 RC.1 Sf_b76
      replace RC := RC.trans (CHr.keep K76 SfKK76 RC.1)
      replace hkS := Nat.le_trans hkS K76.1
      show W p e below _ (T76.setTop (mkF m 199 #[.val (.int p0), .val (.int p1), .val (.int (1 : Int32)), .val (.int (1 : Int32)), .val (.ref b59), .val (.ref s65), .val (.ref s67), .val (.ref b59)] [(.ref o76)]))
      refine W.go (fun _ hr => XS.aload X76.here hx rfl (hb hby at_199) rfl rfl hr) ?_
      show W p e below _ (T76.setTop (mkF m 201 #[.val (.int p0), .val (.int p1), .val (.int (1 : Int32)), .val (.int (1 : Int32)), .val (.ref b59), .val (.ref s65), .val (.ref s67), .val (.ref b59)] [(.ref s67), (.ref o76)]))
      refine W.callV X76 hx hZ hown (g := (mkF m 201 #[.val (.int p0), .val (.int p1), .val (.int (1 : Int32)), .val (.int (1 : Int32)), .val (.ref b59), .val (.ref s65), .val (.ref s67), .val (.ref b59)] [(.ref s67), (.ref o76)])) (by rw [hml]; rfl) (hw _ (List.mem_of_getElem? (i := 122) rfl)) (hw _ (List.mem_of_getElem? (i := 123) rfl)) (hw _ (List.mem_of_getElem? (i := 125) rfl)) (hw _ (List.mem_of_getElem? (i := 124) rfl)) (hw _ (List.mem_of_getElem? (i := 23) rfl)) (hw _ (List.mem_of_getElem? (i := 126) rfl)) e76 (rm22 l Z a0 hw o76 s67 b76 c67 kb76 kb67 (7 : Int32) (7 : Int32) [(91 : Int32), (93 : Int32), (44 : Int32), (116 : Int32), (114 : Int32), (117 : Int32), (101 : Int32)] [(91 : Int32), (93 : Int32), (44 : Int32), (116 : Int32), (114 : Int32), (117 : Int32), (101 : Int32)] (1 : Int32) zCS h76 n0 Z77 E_o76 F_value_o76 F_coder_o76 V_b76 E_s67 F_value_s67 F_coder_s67 V_c67 (by decide) (by decide) (Ne.symm ne_s67_o76) S_COMPACT_STRINGS hCS) (notFace_of_selects (args := #[]) (mvT hZ (hw _ (List.mem_of_getElem? (i := 125) rfl)))) (by decide) pd_438 rfl E_o76 (argsL := [(.ref s67)]) (rest := []) rfl rfl rfl (hb hby at_201) (W0 := 0) rfl (by decide) (by decide) (by decide) (by decide) (fun v78 T78 h78 L78 X78 e78 hQ78 => ?_)
      obtain ⟨rfl, N78q, hh78⟩ := hQ78
      obtain rfl := hh78.symm
      have N78 := Fr.app N76 N78q
      show W p e below _ (T78.setTop (mkF m 204 #[.val (.int p0), .val (.int p1), .val (.int (1 : Int32)), .val (.int (1 : Int32)), .val (.ref b59), .val (.ref s65), .val (.ref s67), .val (.ref b59)] [(.int (1 : Int32))]))
      exact W.retBW X78 hx hlk (t := .boolean) hret (by simp) (hb hby at_204) hS hkS hZ own_EW' RC (by decide) (by decide) e78 ⟨rfl, N78⟩
  · rw [q]
    show W p e below _ (s₁.setTop (mkF m 3 #[.val (.int p0), .val (.int p1), .unset, .unset, .unset, .unset, .unset, .unset] [(.int (2 : Int32))]))
    refine W.go (fun _ hr => XS.istoreN X0.here hx rfl (hb hby at_3) rfl (l' := #[.val (.int p0), .val (.int p1), .val (.int (2 : Int32)), .unset, .unset, .unset, .unset, .unset]) rfl hr) ?_
    show W p e below _ (s₁.setTop (mkF m 4 #[.val (.int p0), .val (.int p1), .val (.int (2 : Int32)), .unset, .unset, .unset, .unset, .unset] []))
    refine W.go (fun _ hr => XS.iloadN X0.here hx rfl (hb hby at_4) rfl hr) ?_
    show W p e below _ (s₁.setTop (mkF m 5 #[.val (.int p0), .val (.int p1), .val (.int (2 : Int32)), .unset, .unset, .unset, .unset, .unset] [(.int p1)]))
    refine W.go (fun _ hr => XS.iconst X0.here hx rfl (hb hby at_5) hr) ?_
    show W p e below _ (s₁.setTop (mkF m 6 #[.val (.int p0), .val (.int p1), .val (.int (2 : Int32)), .unset, .unset, .unset, .unset, .unset] [(.int (1 : Int32)), (.int p1)]))
    refine W.go (fun _ hr => XS.iand X0.here hx rfl (hb hby at_6) rfl hr) ?_
    show W p e below _ (s₁.setTop (mkF m 7 #[.val (.int p0), .val (.int p1), .val (.int (2 : Int32)), .unset, .unset, .unset, .unset, .unset] [(.int (p1 &&& (1 : Int32)))]))
    by_cases hc7_79 : (p1 &&& (1 : Int32)) = (0 : Int32)
    · refine W.go (fun _ hr => XS.ifYes X0.here hx rfl (pc0 := 7) (pc' := 14) rfl (hb hby at_7) rfl ((if0 _ _).trans (teq hc7_79).1) (by decide) (by decide) hr) ?_
      show W p e below _ (s₁.setTop (mkF m 14 #[.val (.int p0), .val (.int p1), .val (.int (2 : Int32)), .unset, .unset, .unset, .unset, .unset] []))
      refine W.go (fun _ hr => XS.iconst X0.here hx rfl (hb hby at_14) hr) ?_
      show W p e below _ (s₁.setTop (mkF m 15 #[.val (.int p0), .val (.int p1), .val (.int (2 : Int32)), .unset, .unset, .unset, .unset, .unset] [(.int (0 : Int32))]))
      refine W.go (fun _ hr => XS.istoreN X0.here hx rfl (hb hby at_15) rfl (l' := #[.val (.int p0), .val (.int p1), .val (.int (2 : Int32)), .val (.int (0 : Int32)), .unset, .unset, .unset, .unset]) rfl hr) ?_
      show W p e below _ (s₁.setTop (mkF m 16 #[.val (.int p0), .val (.int p1), .val (.int (2 : Int32)), .val (.int (0 : Int32)), .unset, .unset, .unset, .unset] []))
      obtain ⟨T80, h80, X80, e80, E80, E_b80, D80, U80, st80⟩ := newO X0 hx hZ hown (hw _ (List.mem_of_getElem? (i := 0) rfl)) (hw _ (List.mem_of_getElem? (i := 1) rfl)) (hw _ (List.mem_of_getElem? (i := 2) rfl)) e0 (g := (mkF m 16 #[.val (.int p0), .val (.int p1), .val (.int (2 : Int32)), .val (.int (0 : Int32)), .unset, .unset, .unset, .unset] [])) rfl (hb hby at_16) (by decide) (by decide)
      obtain ⟨b80, g80⟩ : ∃ z, z = h0.size := ⟨_, rfl⟩
      rw [← g80] at E_b80 D80 U80 st80
      have Sf_b80 : Safe Z EL vm0 h0 b80 := Safe.new (Nat.le_of_eq g80.symm)
      have g_b80 : n0 ≤ b80 := Nat.le_trans Z0 (Nat.le_of_eq g80.symm)
      replace S_COMPACT_STRINGS := Sta.ext E80 S_COMPACT_STRINGS
      replace S_SIOOBE_FORMATTER := Sta.ext E80 S_SIOOBE_FORMATTER
      have Z81 : n0 ≤ h80.size := Nat.le_trans Z0 E80.1
      replace Sf_b80 := Safe.ext E80 RC.1 Sf_b80
      replace RC := RC.trans (CHr.ext E80 RC.1)
      replace hkS := Nat.le_trans hkS E80.1
      have F_json_b80 : Fld Z h80 b80 "org/allonym/cli/JsonWriter" "json" "Ljava/lang/StringBuilder;" .null := D80 (Or.inr (hw _ (List.mem_of_getElem? (i := 30) rfl))) (ty := (.object "java/lang/StringBuilder")) (by decide)
      refine W.go st80 ?_
      show W p e below _ (T80.setTop (mkF m 19 #[.val (.int p0), .val (.int p1), .val (.int (2 : Int32)), .val (.int (0 : Int32)), .unset, .unset, .unset, .unset] [(.ref b80)]))
      refine W.go (fun _ hr => XS.dup X80.here hx rfl (hb hby at_19) rfl rfl hr) ?_
      show W p e below _ (T80.setTop (mkF m 20 #[.val (.int p0), .val (.int p1), .val (.int (2 : Int32)), .val (.int (0 : Int32)), .unset, .unset, .unset, .unset] [(.ref b80), (.ref b80)]))
      refine W.callI X80 hx hZ hown (g := (mkF m 20 #[.val (.int p0), .val (.int p1), .val (.int (2 : Int32)), .val (.int (0 : Int32)), .unset, .unset, .unset, .unset] [(.ref b80), (.ref b80)])) (by rw [hml]; rfl) (hw _ (List.mem_of_getElem? (i := 3) rfl)) (hw _ (List.mem_of_getElem? (i := 4) rfl)) (hw _ (List.mem_of_getElem? (i := 2) rfl)) (hw _ (List.mem_of_getElem? (i := 5) rfl)) e80 (rm1 l Z a0 hw b80 zCS h80 n0 Z81 E_b80 F_json_b80 g_b80 S_COMPACT_STRINGS hCS) rfl (by decide) pd_407 rfl (b := b80) (argsL := []) (rest := [(.ref b80)]) rfl rfl rfl (hb hby at_20) (W0 := 1) rfl (by decide) (by decide) (by decide) (by decide) (fun v82 T82 h82 L82 X82 e82 hQ82 => ?_)
      obtain ⟨rfl, N82q, K82, Ee82, o82, t82, kt82, so82, st82, not82, Fj82, E_o82, F_value_o82, F_coder_o82, F_count_o82, V_t82⟩ := hQ82
      have N82 := Fr.app N0 N82q
      have ne_b80_o82 : b80 ≠ o82 := Nat.ne_of_lt (Nat.lt_of_lt_of_le E_b80.lt so82)
      have Sf_o82 : Safe Z EL vm0 h80 o82 := Safe.new so82
      have g_o82 : n0 ≤ o82 := Nat.le_trans Z81 so82
      have ne_b80_t82 : b80 ≠ t82 := Nat.ne_of_lt (Nat.lt_of_lt_of_le E_b80.lt st82)
      have Sf_t82 : Safe Z EL vm0 h80 t82 := Safe.new st82
      have g_t82 : n0 ≤ t82 := Nat.le_trans Z81 st82
      have SfKK82 := (sfS Sf_b80 sf0)
      have nsK82 := (nsS E_b80.nostat ns0)
      replace S_COMPACT_STRINGS := Sta.keep S_COMPACT_STRINGS K82 nsK82
      replace S_SIOOBE_FORMATTER := Sta.keep S_SIOOBE_FORMATTER K82 nsK82
      replace E_b80 := E_b80.keep K82
      have Z83 : n0 ≤ h82.size := Nat.le_trans Z81 K82.1
      replace Sf_b80 := Safe.keep K82 SfKK82 RC.1 Sf_b80
      replace Sf_o82 := Safe.keep K82 SfKK82 RC.1 Sf_o82
      replace Sf_t82 := Safe.keep K82 SfKK82 RC.1 Sf_t82
      replace RC := RC.trans (CHr.keep K82 SfKK82 RC.1)
      replace hkS := Nat.le_trans hkS K82.1
      show W p e below _ (T82.setTop (mkF m 23 #[.val (.int p0), .val (.int p1), .val (.int (2 : Int32)), .val (.int (0 : Int32)), .unset, .unset, .unset, .unset] [(.ref b80)]))
      refine W.go (fun _ hr => XS.astore X82.here hx rfl (hb hby at_23) rfl rfl (l' := #[.val (.int p0), .val (.int p1), .val (.int (2 : Int32)), .val (.int (0 : Int32)), .val (.ref b80), .unset, .unset, .unset]) rfl hr) ?_
      show W p e below _ (T82.setTop (mkF m 25 #[.val (.int p0), .val (.int p1), .val (.int (2 : Int32)), .val (.int (0 : Int32)), .val (.ref b80), .unset, .unset, .unset] []))
      refine W.go (fun _ hr => XS.iloadN X82.here hx rfl (hb hby at_25) rfl hr) ?_
      show W p e below _ (T82.setTop (mkF m 26 #[.val (.int p0), .val (.int p1), .val (.int (2 : Int32)), .val (.int (0 : Int32)), .val (.ref b80), .unset, .unset, .unset] [(.int (2 : Int32))]))
      refine W.go (fun _ hr => XS.ifYes X82.here hx rfl (pc0 := 26) (pc' := 49) rfl (hb hby at_26) rfl ((if0 _ _).trans (feq (by decide : ¬ ((2 : Int32) = (0 : Int32)))).2) (by decide) (by decide) hr) ?_
      show W p e below _ (T82.setTop (mkF m 49 #[.val (.int p0), .val (.int p1), .val (.int (2 : Int32)), .val (.int (0 : Int32)), .val (.ref b80), .unset, .unset, .unset] []))
      refine W.go (fun _ hr => XS.iloadN X82.here hx rfl (hb hby at_49) rfl hr) ?_
      show W p e below _ (T82.setTop (mkF m 50 #[.val (.int p0), .val (.int p1), .val (.int (2 : Int32)), .val (.int (0 : Int32)), .val (.ref b80), .unset, .unset, .unset] [(.int (2 : Int32))]))
      refine W.go (fun _ hr => XS.iconst X82.here hx rfl (hb hby at_50) hr) ?_
      show W p e below _ (T82.setTop (mkF m 51 #[.val (.int p0), .val (.int p1), .val (.int (2 : Int32)), .val (.int (0 : Int32)), .val (.ref b80), .unset, .unset, .unset] [(.int (1 : Int32)), (.int (2 : Int32))]))
      refine W.go (fun _ hr => XS.icmpYes X82.here hx rfl (pc0 := 51) (pc' := 80) rfl (hb hby at_51) rfl (feq (by decide : ¬ ((2 : Int32) = (1 : Int32)))).2 (by decide) (by decide) hr) ?_
      show W p e below _ (T82.setTop (mkF m 80 #[.val (.int p0), .val (.int p1), .val (.int (2 : Int32)), .val (.int (0 : Int32)), .val (.ref b80), .unset, .unset, .unset] []))
      refine W.go (fun _ hr => XS.iloadN X82.here hx rfl (hb hby at_80) rfl hr) ?_
      show W p e below _ (T82.setTop (mkF m 81 #[.val (.int p0), .val (.int p1), .val (.int (2 : Int32)), .val (.int (0 : Int32)), .val (.ref b80), .unset, .unset, .unset] [(.int (2 : Int32))]))
      refine W.go (fun _ hr => XS.iconst X82.here hx rfl (hb hby at_81) hr) ?_
      show W p e below _ (T82.setTop (mkF m 82 #[.val (.int p0), .val (.int p1), .val (.int (2 : Int32)), .val (.int (0 : Int32)), .val (.ref b80), .unset, .unset, .unset] [(.int (2 : Int32)), (.int (2 : Int32))]))
      refine W.go (fun _ hr => XS.icmpNo X82.here hx rfl (hb hby at_82) rfl (teq (by decide : ((2 : Int32) = (2 : Int32)))).2 hr) ?_
      show W p e below _ (T82.setTop (mkF m 85 #[.val (.int p0), .val (.int p1), .val (.int (2 : Int32)), .val (.int (0 : Int32)), .val (.ref b80), .unset, .unset, .unset] []))
      refine W.go (fun _ hr => XS.aload X82.here hx rfl (hb hby at_85) rfl rfl hr) ?_
      show W p e below _ (T82.setTop (mkF m 87 #[.val (.int p0), .val (.int p1), .val (.int (2 : Int32)), .val (.int (0 : Int32)), .val (.ref b80), .unset, .unset, .unset] [(.ref b80)]))
      refine W.callV X82 hx hZ hown (g := (mkF m 87 #[.val (.int p0), .val (.int p1), .val (.int (2 : Int32)), .val (.int (0 : Int32)), .val (.ref b80), .unset, .unset, .unset] [(.ref b80)])) (by rw [hml]; rfl) (hw _ (List.mem_of_getElem? (i := 186) rfl)) (hw _ (List.mem_of_getElem? (i := 187) rfl)) (hw _ (List.mem_of_getElem? (i := 189) rfl)) (hw _ (List.mem_of_getElem? (i := 188) rfl)) (hw _ (List.mem_of_getElem? (i := 2) rfl)) (hw _ (List.mem_of_getElem? (i := 190) rfl)) e82 (rm_beginArrayN l Z a0 hw b80 o82 t82 kt82 [] (0 : Int32) [(.int (91 : Int32))] (1 : Int32) zCS wSF h82 n0 Z83 E_b80 Fj82 E_o82 F_value_o82 F_coder_o82 F_count_o82 V_t82 S_COMPACT_STRINGS hCS S_SIOOBE_FORMATTER hSF (by decide) g_o82 g_t82 ne_b80_o82 ne_b80_t82 not82 (Or.inl rfl) rfl (by decide)) (notFace_of_selects (args := #[]) (mvT hZ (hw _ (List.mem_of_getElem? (i := 189) rfl)))) (by decide) pd_437 rfl E_b80 (argsL := []) (rest := []) rfl rfl rfl (hb hby at_87) (W0 := 0) rfl (by decide) (by decide) (by decide) (by decide) (fun v84 T84 h84 L84 X84 e84 hQ84 => ?_)
      obtain ⟨rfl, N84q, K84, Eo84, Fv84, Fc84, Fn84, V84⟩ := hQ84
      have N84 := Fr.app N82 N84q
      have SfKK84 := (sfS Sf_o82 (sfS Sf_t82 sf0))
      have nsK84 := (nsS E_o82.nostat (nsS V_t82.nostat ns0))
      replace S_COMPACT_STRINGS := Sta.keep S_COMPACT_STRINGS K84 nsK84
      replace S_SIOOBE_FORMATTER := Sta.keep S_SIOOBE_FORMATTER K84 nsK84
      replace E_b80 := E_b80.keep K84
      replace Fj82 := Fj82.keep K84 (ninS ne_b80_o82 (ninS ne_b80_t82 nin0))
      replace E_o82 := E_o82.keep K84
      have Z85 : n0 ≤ h84.size := Nat.le_trans Z83 K84.1
      replace Sf_b80 := Safe.keep K84 SfKK84 RC.1 Sf_b80
      replace Sf_o82 := Safe.keep K84 SfKK84 RC.1 Sf_o82
      replace Sf_t82 := Safe.keep K84 SfKK84 RC.1 Sf_t82
      replace RC := RC.trans (CHr.keep K84 SfKK84 RC.1)
      replace hkS := Nat.le_trans hkS K84.1
      show W p e below _ (T84.setTop (mkF m 90 #[.val (.int p0), .val (.int p1), .val (.int (2 : Int32)), .val (.int (0 : Int32)), .val (.ref b80), .unset, .unset, .unset] [(.ref b80)]))
      refine W.go (fun _ hr => XS.pop X84.here hx rfl (hb hby at_90) rfl rfl hr) ?_
      show W p e below _ (T84.setTop (mkF m 91 #[.val (.int p0), .val (.int p1), .val (.int (2 : Int32)), .val (.int (0 : Int32)), .val (.ref b80), .unset, .unset, .unset] []))
      refine W.go (fun _ hr => XS.aload X84.here hx rfl (hb hby at_91) rfl rfl hr) ?_
      show W p e below _ (T84.setTop (mkF m 93 #[.val (.int p0), .val (.int p1), .val (.int (2 : Int32)), .val (.int (0 : Int32)), .val (.ref b80), .unset, .unset, .unset] [(.ref b80)]))
      refine W.go (fun _ hr => XS.iloadN X84.here hx rfl (hb hby at_93) rfl hr) ?_
      show W p e below _ (T84.setTop (mkF m 94 #[.val (.int p0), .val (.int p1), .val (.int (2 : Int32)), .val (.int (0 : Int32)), .val (.ref b80), .unset, .unset, .unset] [(.int (0 : Int32)), (.ref b80)]))
      refine W.callV X84 hx hZ hown (g := (mkF m 94 #[.val (.int p0), .val (.int p1), .val (.int (2 : Int32)), .val (.int (0 : Int32)), .val (.ref b80), .unset, .unset, .unset] [(.int (0 : Int32)), (.ref b80)])) (by rw [hml]; rfl) (hw _ (List.mem_of_getElem? (i := 132) rfl)) (hw _ (List.mem_of_getElem? (i := 133) rfl)) (hw _ (List.mem_of_getElem? (i := 135) rfl)) (hw _ (List.mem_of_getElem? (i := 134) rfl)) (hw _ (List.mem_of_getElem? (i := 2) rfl)) (hw _ (List.mem_of_getElem? (i := 136) rfl)) e84 (rm_value0N l Z a0 hw b80 o82 t82 kt82 [(.int (91 : Int32))] (1 : Int32) [(.int (91 : Int32)), (.int (102 : Int32)), (.int (97 : Int32)), (.int (108 : Int32)), (.int (115 : Int32)), (.int (101 : Int32))] (6 : Int32) zCS wSF h84 n0 Z85 E_b80 Fj82 E_o82 Fv84 Fc84 Fn84 V84 S_COMPACT_STRINGS hCS S_SIOOBE_FORMATTER hSF (by decide) g_o82 g_t82 ne_b80_o82 ne_b80_t82 not82 (Or.inr ⟨(91 : Int32), by decide, by decide, rfl, by decide⟩) rfl (by decide)) (notFace_of_selects (args := #[]) (mvT hZ (hw _ (List.mem_of_getElem? (i := 135) rfl)))) (by decide) pd_439 rfl E_b80 (argsL := [(.int (0 : Int32))]) (rest := []) rfl rfl rfl (hb hby at_94) (W0 := 0) rfl (by decide) (by decide) (by decide) (by decide) (fun v86 T86 h86 L86 X86 e86 hQ86 => ?_)
      obtain ⟨rfl, N86q, K86, Eo86, Fv86, Fc86, Fn86, V86⟩ := hQ86
      have N86 := Fr.app N84 N86q
      have SfKK86 := (sfS Sf_o82 (sfS Sf_t82 sf0))
      have nsK86 := (nsS E_o82.nostat (nsS V84.nostat ns0))
      replace S_COMPACT_STRINGS := Sta.keep S_COMPACT_STRINGS K86 nsK86
      replace S_SIOOBE_FORMATTER := Sta.keep S_SIOOBE_FORMATTER K86 nsK86
      replace E_b80 := E_b80.keep K86
      replace Fj82 := Fj82.keep K86 (ninS ne_b80_o82 (ninS ne_b80_t82 nin0))
      replace E_o82 := E_o82.keep K86
      have Z87 : n0 ≤ h86.size := Nat.le_trans Z85 K86.1
      replace Sf_b80 := Safe.keep K86 SfKK86 RC.1 Sf_b80
      replace Sf_o82 := Safe.keep K86 SfKK86 RC.1 Sf_o82
      replace Sf_t82 := Safe.keep K86 SfKK86 RC.1 Sf_t82
      replace RC := RC.trans (CHr.keep K86 SfKK86 RC.1)
      replace hkS := Nat.le_trans hkS K86.1
      show W p e below _ (T86.setTop (mkF m 97 #[.val (.int p0), .val (.int p1), .val (.int (2 : Int32)), .val (.int (0 : Int32)), .val (.ref b80), .unset, .unset, .unset] [(.ref b80)]))
      refine W.go (fun _ hr => XS.pop X86.here hx rfl (hb hby at_97) rfl rfl hr) ?_
      show W p e below _ (T86.setTop (mkF m 98 #[.val (.int p0), .val (.int p1), .val (.int (2 : Int32)), .val (.int (0 : Int32)), .val (.ref b80), .unset, .unset, .unset] []))
      refine W.go (fun _ hr => XS.iloadN X86.here hx rfl (hb hby at_98) rfl hr) ?_
      show W p e below _ (T86.setTop (mkF m 99 #[.val (.int p0), .val (.int p1), .val (.int (2 : Int32)), .val (.int (0 : Int32)), .val (.ref b80), .unset, .unset, .unset] [(.int (0 : Int32))]))
      refine W.go (fun _ hr => XS.ifYes X86.here hx rfl (pc0 := 99) (pc' := 107) rfl (hb hby at_99) rfl ((if0 _ _).trans (teq (by decide : ((0 : Int32) = (0 : Int32)))).1) (by decide) (by decide) hr) ?_
      show W p e below _ (T86.setTop (mkF m 107 #[.val (.int p0), .val (.int p1), .val (.int (2 : Int32)), .val (.int (0 : Int32)), .val (.ref b80), .unset, .unset, .unset] []))
      have lt88_b80 : b80 < h86.size := E_b80.lt
      have lt88_o82 : o82 < h86.size := E_o82.lt
      have lt88_t82 : t82 < h86.size := V86.lt
      obtain ⟨s88, T88, h88, kk88, c88, kb88, X88, e88, E88, hS, hkS, hZ, hown, E_s88, F_coder_s88, F_value_s88, V_c88, la88, lb88, hC88, hL88, hne88, st88⟩ := ldcCH X86 hx hZ hown (hw _ (List.mem_of_getElem? (i := 196) rfl)) own_sa' e86 hS hkS own_EW' (List.mem_of_getElem? (i := 7) rfl) RC.1 (vs := [(.int (91 : Int32)), (.int (102 : Int32)), (.int (97 : Int32)), (.int (108 : Int32)), (.int (115 : Int32)), (.int (101 : Int32)), (.int (93 : Int32))]) (z := (7 : Int32)) (by decide) (by decide) (by decide) (g := (mkF m 107 #[.val (.int p0), .val (.int p1), .val (.int (2 : Int32)), .val (.int (0 : Int32)), .val (.ref b80), .unset, .unset, .unset] [])) rfl (hb hby at_107) (n := 28) (by decide) (by decide) (by decide) (by decide)
      replace S_COMPACT_STRINGS := Sta.ext E88 S_COMPACT_STRINGS
      replace S_SIOOBE_FORMATTER := Sta.ext E88 S_SIOOBE_FORMATTER
      replace E_b80 := E_b80.ext E88
      replace Fj82 := Fj82.ext E88
      replace E_o82 := E_o82.ext E88
      replace Fv86 := Fv86.ext E88
      replace Fc86 := Fc86.ext E88
      replace Fn86 := Fn86.ext E88
      replace V86 := V86.ext E88
      have Z89 : n0 ≤ h88.size := Nat.le_trans Z87 E88.1
      replace Sf_b80 := hC88.safe lt88_b80 Sf_b80
      replace Sf_o82 := hC88.safe lt88_o82 Sf_o82
      replace Sf_t82 := hC88.safe lt88_t82 Sf_t82
      replace RC := RC.trans hC88
      have ne_b80_s88 := (hne88 b80 Sf_b80).1
      have ne_b80_c88 := (hne88 b80 Sf_b80).2
      have ne_o82_s88 := (hne88 o82 Sf_o82).1
      have ne_o82_c88 := (hne88 o82 Sf_o82).2
      have ne_t82_s88 := (hne88 t82 Sf_t82).1
      have ne_t82_c88 := (hne88 t82 Sf_t82).2
      refine W.go st88 ?_
      show W p e below _ (T88.setTop (mkF m 109 #[.val (.int p0), .val (.int p1), .val (.int (2 : Int32)), .val (.int (0 : Int32)), .val (.ref b80), .unset, .unset, .unset] [(.ref s88)]))
      refine W.go (fun _ hr => XS.astore X88.here hx rfl (hb hby at_109) rfl rfl (l' := #[.val (.int p0), .val (.int p1), .val (.int (2 : Int32)), .val (.int (0 : Int32)), .val (.ref b80), .val (.ref s88), .unset, .unset]) rfl hr) ?_
      show W p e below _ (T88.setTop (mkF m 111 #[.val (.int p0), .val (.int p1), .val (.int (2 : Int32)), .val (.int (0 : Int32)), .val (.ref b80), .val (.ref s88), .unset, .unset] []))
      refine W.go (fun _ hr => XS.iloadN X88.here hx rfl (hb hby at_111) rfl hr) ?_
      show W p e below _ (T88.setTop (mkF m 112 #[.val (.int p0), .val (.int p1), .val (.int (2 : Int32)), .val (.int (0 : Int32)), .val (.ref b80), .val (.ref s88), .unset, .unset] [(.int (0 : Int32))]))
      refine W.go (fun _ hr => XS.ifYes X88.here hx rfl (pc0 := 112) (pc' := 120) rfl (hb hby at_112) rfl ((if0 _ _).trans (teq (by decide : ((0 : Int32) = (0 : Int32)))).1) (by decide) (by decide) hr) ?_
      show W p e below _ (T88.setTop (mkF m 120 #[.val (.int p0), .val (.int p1), .val (.int (2 : Int32)), .val (.int (0 : Int32)), .val (.ref b80), .val (.ref s88), .unset, .unset] []))
      have lt90_b80 : b80 < h88.size := E_b80.lt
      have lt90_o82 : o82 < h88.size := E_o82.lt
      have lt90_t82 : t82 < h88.size := V86.lt
      obtain ⟨s90, T90, h90, kk90, c90, kb90, X90, e90, E90, hS, hkS, hZ, hown, E_s90, F_coder_s90, F_value_s90, V_c90, la90, lb90, hC90, hL90, hne90, st90⟩ := ldcCH X88 hx hZ hown (hw _ (List.mem_of_getElem? (i := 197) rfl)) own_sa' e88 hS hkS own_EW' (List.mem_of_getElem? (i := 9) rfl) RC.1 (vs := [(.int (91 : Int32)), (.int (102 : Int32)), (.int (97 : Int32)), (.int (108 : Int32)), (.int (115 : Int32)), (.int (101 : Int32)), (.int (93 : Int32)), (.int (44 : Int32)), (.int (102 : Int32)), (.int (97 : Int32)), (.int (108 : Int32)), (.int (115 : Int32)), (.int (101 : Int32))]) (z := (13 : Int32)) (by decide) (by decide) (by decide) (g := (mkF m 120 #[.val (.int p0), .val (.int p1), .val (.int (2 : Int32)), .val (.int (0 : Int32)), .val (.ref b80), .val (.ref s88), .unset, .unset] [])) rfl (hb hby at_120) (n := 52) (by decide) (by decide) (by decide) (by decide)
      replace S_COMPACT_STRINGS := Sta.ext E90 S_COMPACT_STRINGS
      replace S_SIOOBE_FORMATTER := Sta.ext E90 S_SIOOBE_FORMATTER
      replace E_b80 := E_b80.ext E90
      replace Fj82 := Fj82.ext E90
      replace E_o82 := E_o82.ext E90
      replace Fv86 := Fv86.ext E90
      replace Fc86 := Fc86.ext E90
      replace Fn86 := Fn86.ext E90
      replace V86 := V86.ext E90
      replace E_s88 := E_s88.ext E90
      replace F_coder_s88 := F_coder_s88.ext E90
      replace F_value_s88 := F_value_s88.ext E90
      replace V_c88 := V_c88.ext E90
      have Z91 : n0 ≤ h90.size := Nat.le_trans Z89 E90.1
      replace Sf_b80 := hC90.safe lt90_b80 Sf_b80
      replace Sf_o82 := hC90.safe lt90_o82 Sf_o82
      replace Sf_t82 := hC90.safe lt90_t82 Sf_t82
      replace RC := RC.trans hC90
      have ne_b80_s90 := (hne90 b80 Sf_b80).1
      have ne_b80_c90 := (hne90 b80 Sf_b80).2
      have ne_o82_s90 := (hne90 o82 Sf_o82).1
      have ne_o82_c90 := (hne90 o82 Sf_o82).2
      have ne_t82_s90 := (hne90 t82 Sf_t82).1
      have ne_t82_c90 := (hne90 t82 Sf_t82).2
      refine W.go st90 ?_
      show W p e below _ (T90.setTop (mkF m 122 #[.val (.int p0), .val (.int p1), .val (.int (2 : Int32)), .val (.int (0 : Int32)), .val (.ref b80), .val (.ref s88), .unset, .unset] [(.ref s90)]))
      refine W.go (fun _ hr => XS.astore X90.here hx rfl (hb hby at_122) rfl rfl (l' := #[.val (.int p0), .val (.int p1), .val (.int (2 : Int32)), .val (.int (0 : Int32)), .val (.ref b80), .val (.ref s88), .val (.ref s90), .unset]) rfl hr) ?_
      show W p e below _ (T90.setTop (mkF m 124 #[.val (.int p0), .val (.int p1), .val (.int (2 : Int32)), .val (.int (0 : Int32)), .val (.ref b80), .val (.ref s88), .val (.ref s90), .unset] []))
      refine W.go (fun _ hr => XS.goto X90.here hx rfl (pc0 := 124) (pc' := 156) rfl (hb hby at_124) (by decide) (by decide) hr) ?_
      show W p e below _ (T90.setTop (mkF m 156 #[.val (.int p0), .val (.int p1), .val (.int (2 : Int32)), .val (.int (0 : Int32)), .val (.ref b80), .val (.ref s88), .val (.ref s90), .unset] []))
      refine W.go (fun _ hr => XS.aload X90.here hx rfl (hb hby at_156) rfl rfl hr) ?_
      show W p e below _ (T90.setTop (mkF m 158 #[.val (.int p0), .val (.int p1), .val (.int (2 : Int32)), .val (.int (0 : Int32)), .val (.ref b80), .val (.ref s88), .val (.ref s90), .unset] [(.ref b80)]))
      refine W.callV X90 hx hZ hown (g := (mkF m 158 #[.val (.int p0), .val (.int p1), .val (.int (2 : Int32)), .val (.int (0 : Int32)), .val (.ref b80), .val (.ref s88), .val (.ref s90), .unset] [(.ref b80)])) (by rw [hml]; rfl) (hw _ (List.mem_of_getElem? (i := 38) rfl)) (hw _ (List.mem_of_getElem? (i := 39) rfl)) (hw _ (List.mem_of_getElem? (i := 41) rfl)) (hw _ (List.mem_of_getElem? (i := 40) rfl)) (hw _ (List.mem_of_getElem? (i := 2) rfl)) (hw _ (List.mem_of_getElem? (i := 42) rfl)) e90 (rm_endArray l Z a0 hw b80 o82 t82 kt82 [(.int (91 : Int32)), (.int (102 : Int32)), (.int (97 : Int32)), (.int (108 : Int32)), (.int (115 : Int32)), (.int (101 : Int32))] (6 : Int32) [(.int (91 : Int32)), (.int (102 : Int32)), (.int (97 : Int32)), (.int (108 : Int32)), (.int (115 : Int32)), (.int (101 : Int32)), (.int (93 : Int32))] (7 : Int32) zCS wSF h90 n0 Z91 E_b80 Fj82 E_o82 Fv86 Fc86 Fn86 V86 S_COMPACT_STRINGS hCS S_SIOOBE_FORMATTER hSF (by decide) g_o82 g_t82 ne_b80_o82 ne_b80_t82 not82  rfl (by decide)) (notFace_of_selects (args := #[]) (mvT hZ (hw _ (List.mem_of_getElem? (i := 41) rfl)))) (by decide) pd_437 rfl E_b80 (argsL := []) (rest := []) rfl rfl rfl (hb hby at_158) (W0 := 0) rfl (by decide) (by decide) (by decide) (by decide) (fun v92 T92 h92 L92 X92 e92 hQ92 => ?_)
      obtain ⟨rfl, N92q, K92, Eo92, Fv92, Fc92, Fn92, V92⟩ := hQ92
      have N92 := Fr.app N86 N92q
      have SfKK92 := (sfS Sf_o82 (sfS Sf_t82 sf0))
      have nsK92 := (nsS E_o82.nostat (nsS V86.nostat ns0))
      replace S_COMPACT_STRINGS := Sta.keep S_COMPACT_STRINGS K92 nsK92
      replace S_SIOOBE_FORMATTER := Sta.keep S_SIOOBE_FORMATTER K92 nsK92
      replace E_b80 := E_b80.keep K92
      replace Fj82 := Fj82.keep K92 (ninS ne_b80_o82 (ninS ne_b80_t82 nin0))
      replace E_o82 := E_o82.keep K92
      replace E_s88 := E_s88.keep K92
      replace F_coder_s88 := F_coder_s88.keep K92 (ninS (Ne.symm ne_o82_s88) (ninS (Ne.symm ne_t82_s88) nin0))
      replace F_value_s88 := F_value_s88.keep K92 (ninS (Ne.symm ne_o82_s88) (ninS (Ne.symm ne_t82_s88) nin0))
      replace V_c88 := V_c88.keep K92 (ninS (Ne.symm ne_o82_c88) (ninS (Ne.symm ne_t82_c88) nin0))
      replace E_s90 := E_s90.keep K92
      replace F_coder_s90 := F_coder_s90.keep K92 (ninS (Ne.symm ne_o82_s90) (ninS (Ne.symm ne_t82_s90) nin0))
      replace F_value_s90 := F_value_s90.keep K92 (ninS (Ne.symm ne_o82_s90) (ninS (Ne.symm ne_t82_s90) nin0))
      replace V_c90 := V_c90.keep K92 (ninS (Ne.symm ne_o82_c90) (ninS (Ne.symm ne_t82_c90) nin0))
      have Z93 : n0 ≤ h92.size := Nat.le_trans Z91 K92.1
      replace Sf_b80 := Safe.keep K92 SfKK92 RC.1 Sf_b80
      replace Sf_o82 := Safe.keep K92 SfKK92 RC.1 Sf_o82
      replace Sf_t82 := Safe.keep K92 SfKK92 RC.1 Sf_t82
      replace RC := RC.trans (CHr.keep K92 SfKK92 RC.1)
      replace hkS := Nat.le_trans hkS K92.1
      show W p e below _ (T92.setTop (mkF m 161 #[.val (.int p0), .val (.int p1), .val (.int (2 : Int32)), .val (.int (0 : Int32)), .val (.ref b80), .val (.ref s88), .val (.ref s90), .unset] [(.ref b80)]))
      refine W.go (fun _ hr => XS.astore X92.here hx rfl (hb hby at_161) rfl rfl (l' := #[.val (.int p0), .val (.int p1), .val (.int (2 : Int32)), .val (.int (0 : Int32)), .val (.ref b80), .val (.ref s88), .val (.ref s90), .val (.ref b80)]) rfl hr) ?_
      show W p e below _ (T92.setTop (mkF m 163 #[.val (.int p0), .val (.int p1), .val (.int (2 : Int32)), .val (.int (0 : Int32)), .val (.ref b80), .val (.ref s88), .val (.ref s90), .val (.ref b80)] []))
      refine W.go (fun _ hr => XS.aload X92.here hx rfl (hb hby at_163) rfl rfl hr) ?_
      show W p e below _ (T92.setTop (mkF m 165 #[.val (.int p0), .val (.int p1), .val (.int (2 : Int32)), .val (.int (0 : Int32)), .val (.ref b80), .val (.ref s88), .val (.ref s90), .val (.ref b80)] [(.ref b80)]))
      refine W.go (fun _ hr => XS.aload X92.here hx rfl (hb hby at_165) rfl rfl hr) ?_
      show W p e below _ (T92.setTop (mkF m 167 #[.val (.int p0), .val (.int p1), .val (.int (2 : Int32)), .val (.int (0 : Int32)), .val (.ref b80), .val (.ref s88), .val (.ref s90), .val (.ref b80)] [(.ref b80), (.ref b80)]))
      refine W.go (fun _ hr => Jvm.RoadKit.acmp (g := (mkF m 167 #[.val (.int p0), .val (.int p1), .val (.int (2 : Int32)), .val (.int (0 : Int32)), .val (.ref b80), .val (.ref s88), .val (.ref s90), .val (.ref b80)] [(.ref b80), (.ref b80)])) X92 hx rfl rfl rfl (pc0 := 167) (pc' := 172) (same := true) rfl (hb hby at_167) rfl (decide_eq_true rfl) (by decide) (by decide) hr) ?_
      show W p e below _ (T92.setTop (mkF m 172 #[.val (.int p0), .val (.int p1), .val (.int (2 : Int32)), .val (.int (0 : Int32)), .val (.ref b80), .val (.ref s88), .val (.ref s90), .val (.ref b80)] []))
      refine W.go (fun _ hr => XS.aload X92.here hx rfl (hb hby at_172) rfl rfl hr) ?_
      show W p e below _ (T92.setTop (mkF m 174 #[.val (.int p0), .val (.int p1), .val (.int (2 : Int32)), .val (.int (0 : Int32)), .val (.ref b80), .val (.ref s88), .val (.ref s90), .val (.ref b80)] [(.ref b80)]))
      refine W.callV X92 hx hZ hown (g := (mkF m 174 #[.val (.int p0), .val (.int p1), .val (.int (2 : Int32)), .val (.int (0 : Int32)), .val (.ref b80), .val (.ref s88), .val (.ref s90), .val (.ref b80)] [(.ref b80)])) (by rw [hml]; rfl) (hw _ (List.mem_of_getElem? (i := 69) rfl)) (hw _ (List.mem_of_getElem? (i := 70) rfl)) (hw _ (List.mem_of_getElem? (i := 72) rfl)) (hw _ (List.mem_of_getElem? (i := 71) rfl)) (hw _ (List.mem_of_getElem? (i := 2) rfl)) (hw _ (List.mem_of_getElem? (i := 73) rfl)) e92 (rm11 l Z a0 hw b80 o82 t82 kt82 [(.int (91 : Int32)), (.int (102 : Int32)), (.int (97 : Int32)), (.int (108 : Int32)), (.int (115 : Int32)), (.int (101 : Int32)), (.int (93 : Int32))] (7 : Int32) zCS h92 n0 Z93 E_b80 Fj82 E_o82 Fv92 Fc92 Fn92 V92 S_COMPACT_STRINGS hCS (by decide)) (notFace_of_selects (args := #[]) (mvT hZ (hw _ (List.mem_of_getElem? (i := 72) rfl)))) (by decide) pd_425 rfl E_b80 (argsL := []) (rest := []) rfl rfl rfl (hb hby at_174) (W0 := 0) rfl (by decide) (by decide) (by decide) (by decide) (fun v94 T94 h94 L94 X94 e94 hQ94 => ?_)
      obtain ⟨o94, b94, kb94, rfl, N94q, K94, so94, sb94, nob94, E_o94, F_value_o94, F_coder_o94, E_b94, V_b94⟩ := hQ94
      have N94 := Fr.app N92 N94q
      have ne_b80_o94 : b80 ≠ o94 := Nat.ne_of_lt (Nat.lt_of_lt_of_le E_b80.lt so94)
      have ne_o82_o94 : o82 ≠ o94 := Nat.ne_of_lt (Nat.lt_of_lt_of_le E_o82.lt so94)
      have ne_s88_o94 : s88 ≠ o94 := Nat.ne_of_lt (Nat.lt_of_lt_of_le E_s88.lt so94)
      have ne_c88_o94 : c88 ≠ o94 := Nat.ne_of_lt (Nat.lt_of_lt_of_le V_c88.lt so94)
      have ne_s90_o94 : s90 ≠ o94 := Nat.ne_of_lt (Nat.lt_of_lt_of_le E_s90.lt so94)
      have ne_c90_o94 : c90 ≠ o94 := Nat.ne_of_lt (Nat.lt_of_lt_of_le V_c90.lt so94)
      have ne_t82_o94 : t82 ≠ o94 := Nat.ne_of_lt (Nat.lt_of_lt_of_le V92.lt so94)
      have Sf_o94 : Safe Z EL T90.vm h92 o94 := Safe.new so94
      have g_o94 : n0 ≤ o94 := Nat.le_trans Z93 so94
      have ne_b80_b94 : b80 ≠ b94 := Nat.ne_of_lt (Nat.lt_of_lt_of_le E_b80.lt sb94)
      have ne_o82_b94 : o82 ≠ b94 := Nat.ne_of_lt (Nat.lt_of_lt_of_le E_o82.lt sb94)
      have ne_s88_b94 : s88 ≠ b94 := Nat.ne_of_lt (Nat.lt_of_lt_of_le E_s88.lt sb94)
      have ne_c88_b94 : c88 ≠ b94 := Nat.ne_of_lt (Nat.lt_of_lt_of_le V_c88.lt sb94)
      have ne_s90_b94 : s90 ≠ b94 := Nat.ne_of_lt (Nat.lt_of_lt_of_le E_s90.lt sb94)
      have ne_c90_b94 : c90 ≠ b94 := Nat.ne_of_lt (Nat.lt_of_lt_of_le V_c90.lt sb94)
      have ne_t82_b94 : t82 ≠ b94 := Nat.ne_of_lt (Nat.lt_of_lt_of_le V92.lt sb94)
      have Sf_b94 : Safe Z EL T90.vm h92 b94 := Safe.new sb94
      have g_b94 : n0 ≤ b94 := Nat.le_trans Z93 sb94
      have SfKK94 : ∀ x ∈ ([] : List Addr), Safe Z EL T90.vm h92 x := sf0
      replace S_COMPACT_STRINGS := Sta.keep S_COMPACT_STRINGS K94 ns0
      replace S_SIOOBE_FORMATTER := Sta.keep S_SIOOBE_FORMATTER K94 ns0
      replace E_b80 := E_b80.keep K94
      replace Fj82 := Fj82.keep K94 nin0
      replace E_o82 := E_o82.keep K94
      replace E_s88 := E_s88.keep K94
      replace F_coder_s88 := F_coder_s88.keep K94 nin0
      replace F_value_s88 := F_value_s88.keep K94 nin0
      replace V_c88 := V_c88.keep K94 nin0
      replace E_s90 := E_s90.keep K94
      replace F_coder_s90 := F_coder_s90.keep K94 nin0
      replace F_value_s90 := F_value_s90.keep K94 nin0
      replace V_c90 := V_c90.keep K94 nin0
      replace Fv92 := Fv92.keep K94 nin0
      replace Fc92 := Fc92.keep K94 nin0
      replace Fn92 := Fn92.keep K94 nin0
      replace V92 := V92.keep K94 nin0
      have Z95 : n0 ≤ h94.size := Nat.le_trans Z93 K94.1
      replace Sf_b80 := Safe.keep K94 SfKK94 RC.1 Sf_b80
      replace Sf_o82 := Safe.keep K94 SfKK94 RC.1 Sf_o82
      replace Sf_t82 := Safe.keep K94 SfKK94 RC.1 Sf_t82
      replace Sf_o94 := Safe.keep K94 SfKK94 RC.1 Sf_o94
      replace Sf_b94 := Safe.keep K94 SfKK94 RC.1 Sf_b94
      replace RC := RC.trans (CHr.keep K94 SfKK94 RC.1)
      replace hkS := Nat.le_trans hkS K94.1
      show W p e below _ (T94.setTop (mkF m 177 #[.val (.int p0), .val (.int p1), .val (.int (2 : Int32)), .val (.int (0 : Int32)), .val (.ref b80), .val (.ref s88), .val (.ref s90), .val (.ref b80)] [(.ref o94)]))
      refine W.go (fun _ hr => XS.aload X94.here hx rfl (hb hby at_177) rfl rfl hr) ?_
      show W p e below _ (T94.setTop (mkF m 179 #[.val (.int p0), .val (.int p1), .val (.int (2 : Int32)), .val (.int (0 : Int32)), .val (.ref b80), .val (.ref s88), .val (.ref s90), .val (.ref b80)] [(.ref s88), (.ref o94)]))
      refine W.callV X94 hx hZ hown (g := (mkF m 179 #[.val (.int p0), .val (.int p1), .val (.int (2 : Int32)), .val (.int (0 : Int32)), .val (.ref b80), .val (.ref s88), .val (.ref s90), .val (.ref b80)] [(.ref s88), (.ref o94)])) (by rw [hml]; rfl) (hw _ (List.mem_of_getElem? (i := 122) rfl)) (hw _ (List.mem_of_getElem? (i := 123) rfl)) (hw _ (List.mem_of_getElem? (i := 125) rfl)) (hw _ (List.mem_of_getElem? (i := 124) rfl)) (hw _ (List.mem_of_getElem? (i := 23) rfl)) (hw _ (List.mem_of_getElem? (i := 126) rfl)) e94 (rm22 l Z a0 hw o94 s88 b94 c88 kb94 kb88 (7 : Int32) (7 : Int32) [(91 : Int32), (102 : Int32), (97 : Int32), (108 : Int32), (115 : Int32), (101 : Int32), (93 : Int32)] [(91 : Int32), (102 : Int32), (97 : Int32), (108 : Int32), (115 : Int32), (101 : Int32), (93 : Int32)] (1 : Int32) zCS h94 n0 Z95 E_o94 F_value_o94 F_coder_o94 V_b94 E_s88 F_value_s88 F_coder_s88 V_c88 (by decide) (by decide) (Ne.symm ne_s88_o94) S_COMPACT_STRINGS hCS) (notFace_of_selects (args := #[]) (mvT hZ (hw _ (List.mem_of_getElem? (i := 125) rfl)))) (by decide) pd_438 rfl E_o94 (argsL := [(.ref s88)]) (rest := []) rfl rfl rfl (hb hby at_179) (W0 := 0) rfl (by decide) (by decide) (by decide) (by decide) (fun v96 T96 h96 L96 X96 e96 hQ96 => ?_)
      obtain ⟨rfl, N96q, hh96⟩ := hQ96
      obtain rfl := hh96.symm
      have N96 := Fr.app N94 N96q
      show W p e below _ (T96.setTop (mkF m 182 #[.val (.int p0), .val (.int p1), .val (.int (2 : Int32)), .val (.int (0 : Int32)), .val (.ref b80), .val (.ref s88), .val (.ref s90), .val (.ref b80)] [(.int (1 : Int32))]))
      refine W.go (fun _ hr => XS.ifYes X96.here hx rfl (pc0 := 182) (pc' := 187) rfl (hb hby at_182) rfl ((if0 _ _).trans (feq (by decide : ¬ ((1 : Int32) = (0 : Int32)))).2) (by decide) (by decide) hr) ?_
      show W p e below _ (T96.setTop (mkF m 187 #[.val (.int p0), .val (.int p1), .val (.int (2 : Int32)), .val (.int (0 : Int32)), .val (.ref b80), .val (.ref s88), .val (.ref s90), .val (.ref b80)] []))
      refine W.go (fun _ hr => XS.aload X96.here hx rfl (hb hby at_187) rfl rfl hr) ?_
      show W p e below _ (T96.setTop (mkF m 189 #[.val (.int p0), .val (.int p1), .val (.int (2 : Int32)), .val (.int (0 : Int32)), .val (.ref b80), .val (.ref s88), .val (.ref s90), .val (.ref b80)] [(.ref b80)]))
      refine W.go (fun _ hr => XS.iloadN X96.here hx rfl (hb hby at_189) rfl hr) ?_
      show W p e below _ (T96.setTop (mkF m 190 #[.val (.int p0), .val (.int p1), .val (.int (2 : Int32)), .val (.int (0 : Int32)), .val (.ref b80), .val (.ref s88), .val (.ref s90), .val (.ref b80)] [(.int (0 : Int32)), (.ref b80)]))
      refine W.callV X96 hx hZ hown (g := (mkF m 190 #[.val (.int p0), .val (.int p1), .val (.int (2 : Int32)), .val (.int (0 : Int32)), .val (.ref b80), .val (.ref s88), .val (.ref s90), .val (.ref b80)] [(.int (0 : Int32)), (.ref b80)])) (by rw [hml]; rfl) (hw _ (List.mem_of_getElem? (i := 132) rfl)) (hw _ (List.mem_of_getElem? (i := 133) rfl)) (hw _ (List.mem_of_getElem? (i := 135) rfl)) (hw _ (List.mem_of_getElem? (i := 134) rfl)) (hw _ (List.mem_of_getElem? (i := 2) rfl)) (hw _ (List.mem_of_getElem? (i := 136) rfl)) e96 (rm_value0Y l Z a0 hw b80 o82 t82 kt82 [(.int (91 : Int32)), (.int (102 : Int32)), (.int (97 : Int32)), (.int (108 : Int32)), (.int (115 : Int32)), (.int (101 : Int32)), (.int (93 : Int32))] (7 : Int32) (93 : Int32) [(.int (91 : Int32)), (.int (102 : Int32)), (.int (97 : Int32)), (.int (108 : Int32)), (.int (115 : Int32)), (.int (101 : Int32)), (.int (93 : Int32)), (.int (44 : Int32)), (.int (102 : Int32)), (.int (97 : Int32)), (.int (108 : Int32)), (.int (115 : Int32)), (.int (101 : Int32))] (13 : Int32) zCS wSF h94 n0 Z95 E_b80 Fj82 E_o82 Fv92 Fc92 Fn92 V92 S_COMPACT_STRINGS hCS S_SIOOBE_FORMATTER hSF (by decide) g_o82 g_t82 ne_b80_o82 ne_b80_t82 not82 ⟨by decide, by decide, by decide, rfl, by decide, by decide, by decide⟩ rfl (by decide)) (notFace_of_selects (args := #[]) (mvT hZ (hw _ (List.mem_of_getElem? (i := 135) rfl)))) (by decide) pd_439 rfl E_b80 (argsL := [(.int (0 : Int32))]) (rest := []) rfl rfl rfl (hb hby at_190) (W0 := 0) rfl (by decide) (by decide) (by decide) (by decide) (fun v97 T97 h97 L97 X97 e97 hQ97 => ?_)
      obtain ⟨rfl, N97q, K97, Eo97, Fv97, Fc97, Fn97, V97⟩ := hQ97
      have N97 := Fr.app N96 N97q
      have SfKK97 := (sfS Sf_o82 (sfS Sf_t82 sf0))
      have nsK97 := (nsS E_o82.nostat (nsS V92.nostat ns0))
      replace S_COMPACT_STRINGS := Sta.keep S_COMPACT_STRINGS K97 nsK97
      replace S_SIOOBE_FORMATTER := Sta.keep S_SIOOBE_FORMATTER K97 nsK97
      replace E_b80 := E_b80.keep K97
      replace Fj82 := Fj82.keep K97 (ninS ne_b80_o82 (ninS ne_b80_t82 nin0))
      replace E_o82 := E_o82.keep K97
      replace E_s88 := E_s88.keep K97
      replace F_coder_s88 := F_coder_s88.keep K97 (ninS (Ne.symm ne_o82_s88) (ninS (Ne.symm ne_t82_s88) nin0))
      replace F_value_s88 := F_value_s88.keep K97 (ninS (Ne.symm ne_o82_s88) (ninS (Ne.symm ne_t82_s88) nin0))
      replace V_c88 := V_c88.keep K97 (ninS (Ne.symm ne_o82_c88) (ninS (Ne.symm ne_t82_c88) nin0))
      replace E_s90 := E_s90.keep K97
      replace F_coder_s90 := F_coder_s90.keep K97 (ninS (Ne.symm ne_o82_s90) (ninS (Ne.symm ne_t82_s90) nin0))
      replace F_value_s90 := F_value_s90.keep K97 (ninS (Ne.symm ne_o82_s90) (ninS (Ne.symm ne_t82_s90) nin0))
      replace V_c90 := V_c90.keep K97 (ninS (Ne.symm ne_o82_c90) (ninS (Ne.symm ne_t82_c90) nin0))
      replace E_o94 := E_o94.keep K97
      replace F_value_o94 := F_value_o94.keep K97 (ninS (Ne.symm ne_o82_o94) (ninS (Ne.symm ne_t82_o94) nin0))
      replace F_coder_o94 := F_coder_o94.keep K97 (ninS (Ne.symm ne_o82_o94) (ninS (Ne.symm ne_t82_o94) nin0))
      replace E_b94 := E_b94.keep K97
      replace V_b94 := V_b94.keep K97 (ninS (Ne.symm ne_o82_b94) (ninS (Ne.symm ne_t82_b94) nin0))
      have Z98 : n0 ≤ h97.size := Nat.le_trans Z95 K97.1
      replace Sf_b80 := Safe.keep K97 SfKK97 RC.1 Sf_b80
      replace Sf_o82 := Safe.keep K97 SfKK97 RC.1 Sf_o82
      replace Sf_t82 := Safe.keep K97 SfKK97 RC.1 Sf_t82
      replace Sf_o94 := Safe.keep K97 SfKK97 RC.1 Sf_o94
      replace Sf_b94 := Safe.keep K97 SfKK97 RC.1 Sf_b94
      replace RC := RC.trans (CHr.keep K97 SfKK97 RC.1)
      replace hkS := Nat.le_trans hkS K97.1
      show W p e below _ (T97.setTop (mkF m 193 #[.val (.int p0), .val (.int p1), .val (.int (2 : Int32)), .val (.int (0 : Int32)), .val (.ref b80), .val (.ref s88), .val (.ref s90), .val (.ref b80)] [(.ref b80)]))
      refine W.go (fun _ hr => XS.pop X97.here hx rfl (hb hby at_193) rfl rfl hr) ?_
      show W p e below _ (T97.setTop (mkF m 194 #[.val (.int p0), .val (.int p1), .val (.int (2 : Int32)), .val (.int (0 : Int32)), .val (.ref b80), .val (.ref s88), .val (.ref s90), .val (.ref b80)] []))
      refine W.go (fun _ hr => XS.aload X97.here hx rfl (hb hby at_194) rfl rfl hr) ?_
      show W p e below _ (T97.setTop (mkF m 196 #[.val (.int p0), .val (.int p1), .val (.int (2 : Int32)), .val (.int (0 : Int32)), .val (.ref b80), .val (.ref s88), .val (.ref s90), .val (.ref b80)] [(.ref b80)]))
      refine W.callV X97 hx hZ hown (g := (mkF m 196 #[.val (.int p0), .val (.int p1), .val (.int (2 : Int32)), .val (.int (0 : Int32)), .val (.ref b80), .val (.ref s88), .val (.ref s90), .val (.ref b80)] [(.ref b80)])) (by rw [hml]; rfl) (hw _ (List.mem_of_getElem? (i := 69) rfl)) (hw _ (List.mem_of_getElem? (i := 70) rfl)) (hw _ (List.mem_of_getElem? (i := 72) rfl)) (hw _ (List.mem_of_getElem? (i := 71) rfl)) (hw _ (List.mem_of_getElem? (i := 2) rfl)) (hw _ (List.mem_of_getElem? (i := 73) rfl)) e97 (rm11 l Z a0 hw b80 o82 t82 kt82 [(.int (91 : Int32)), (.int (102 : Int32)), (.int (97 : Int32)), (.int (108 : Int32)), (.int (115 : Int32)), (.int (101 : Int32)), (.int (93 : Int32)), (.int (44 : Int32)), (.int (102 : Int32)), (.int (97 : Int32)), (.int (108 : Int32)), (.int (115 : Int32)), (.int (101 : Int32))] (13 : Int32) zCS h97 n0 Z98 E_b80 Fj82 E_o82 Fv97 Fc97 Fn97 V97 S_COMPACT_STRINGS hCS (by decide)) (notFace_of_selects (args := #[]) (mvT hZ (hw _ (List.mem_of_getElem? (i := 72) rfl)))) (by decide) pd_425 rfl E_b80 (argsL := []) (rest := []) rfl rfl rfl (hb hby at_196) (W0 := 0) rfl (by decide) (by decide) (by decide) (by decide) (fun v99 T99 h99 L99 X99 e99 hQ99 => ?_)
      obtain ⟨o99, b99, kb99, rfl, N99q, K99, so99, sb99, nob99, E_o99, F_value_o99, F_coder_o99, E_b99, V_b99⟩ := hQ99
      have N99 := Fr.app N97 N99q
      have ne_b80_o99 : b80 ≠ o99 := Nat.ne_of_lt (Nat.lt_of_lt_of_le E_b80.lt so99)
      have ne_o82_o99 : o82 ≠ o99 := Nat.ne_of_lt (Nat.lt_of_lt_of_le E_o82.lt so99)
      have ne_s88_o99 : s88 ≠ o99 := Nat.ne_of_lt (Nat.lt_of_lt_of_le E_s88.lt so99)
      have ne_c88_o99 : c88 ≠ o99 := Nat.ne_of_lt (Nat.lt_of_lt_of_le V_c88.lt so99)
      have ne_s90_o99 : s90 ≠ o99 := Nat.ne_of_lt (Nat.lt_of_lt_of_le E_s90.lt so99)
      have ne_c90_o99 : c90 ≠ o99 := Nat.ne_of_lt (Nat.lt_of_lt_of_le V_c90.lt so99)
      have ne_o94_o99 : o94 ≠ o99 := Nat.ne_of_lt (Nat.lt_of_lt_of_le E_o94.lt so99)
      have ne_b94_o99 : b94 ≠ o99 := Nat.ne_of_lt (Nat.lt_of_lt_of_le E_b94.lt so99)
      have ne_t82_o99 : t82 ≠ o99 := Nat.ne_of_lt (Nat.lt_of_lt_of_le V97.lt so99)
      have Sf_o99 : Safe Z EL T90.vm h97 o99 := Safe.new so99
      have g_o99 : n0 ≤ o99 := Nat.le_trans Z98 so99
      have ne_b80_b99 : b80 ≠ b99 := Nat.ne_of_lt (Nat.lt_of_lt_of_le E_b80.lt sb99)
      have ne_o82_b99 : o82 ≠ b99 := Nat.ne_of_lt (Nat.lt_of_lt_of_le E_o82.lt sb99)
      have ne_s88_b99 : s88 ≠ b99 := Nat.ne_of_lt (Nat.lt_of_lt_of_le E_s88.lt sb99)
      have ne_c88_b99 : c88 ≠ b99 := Nat.ne_of_lt (Nat.lt_of_lt_of_le V_c88.lt sb99)
      have ne_s90_b99 : s90 ≠ b99 := Nat.ne_of_lt (Nat.lt_of_lt_of_le E_s90.lt sb99)
      have ne_c90_b99 : c90 ≠ b99 := Nat.ne_of_lt (Nat.lt_of_lt_of_le V_c90.lt sb99)
      have ne_o94_b99 : o94 ≠ b99 := Nat.ne_of_lt (Nat.lt_of_lt_of_le E_o94.lt sb99)
      have ne_b94_b99 : b94 ≠ b99 := Nat.ne_of_lt (Nat.lt_of_lt_of_le E_b94.lt sb99)
      have ne_t82_b99 : t82 ≠ b99 := Nat.ne_of_lt (Nat.lt_of_lt_of_le V97.lt sb99)
      have Sf_b99 : Safe Z EL T90.vm h97 b99 := Safe.new sb99
      have g_b99 : n0 ≤ b99 := Nat.le_trans Z98 sb99
      have SfKK99 : ∀ x ∈ ([] : List Addr), Safe Z EL T90.vm h97 x := sf0
      replace S_COMPACT_STRINGS := Sta.keep S_COMPACT_STRINGS K99 ns0
      replace S_SIOOBE_FORMATTER := Sta.keep S_SIOOBE_FORMATTER K99 ns0
      replace E_b80 := E_b80.keep K99
      replace Fj82 := Fj82.keep K99 nin0
      replace E_o82 := E_o82.keep K99
      replace E_s88 := E_s88.keep K99
      replace F_coder_s88 := F_coder_s88.keep K99 nin0
      replace F_value_s88 := F_value_s88.keep K99 nin0
      replace V_c88 := V_c88.keep K99 nin0
      replace E_s90 := E_s90.keep K99
      replace F_coder_s90 := F_coder_s90.keep K99 nin0
      replace F_value_s90 := F_value_s90.keep K99 nin0
      replace V_c90 := V_c90.keep K99 nin0
      replace E_o94 := E_o94.keep K99
      replace F_value_o94 := F_value_o94.keep K99 nin0
      replace F_coder_o94 := F_coder_o94.keep K99 nin0
      replace E_b94 := E_b94.keep K99
      replace V_b94 := V_b94.keep K99 nin0
      replace Fv97 := Fv97.keep K99 nin0
      replace Fc97 := Fc97.keep K99 nin0
      replace Fn97 := Fn97.keep K99 nin0
      replace V97 := V97.keep K99 nin0
      have Z100 : n0 ≤ h99.size := Nat.le_trans Z98 K99.1
      replace Sf_b80 := Safe.keep K99 SfKK99 RC.1 Sf_b80
      replace Sf_o82 := Safe.keep K99 SfKK99 RC.1 Sf_o82
      replace Sf_t82 := Safe.keep K99 SfKK99 RC.1 Sf_t82
      replace Sf_o94 := Safe.keep K99 SfKK99 RC.1 Sf_o94
      replace Sf_b94 := Safe.keep K99 SfKK99 RC.1 Sf_b94
      replace Sf_o99 := Safe.keep K99 SfKK99 RC.1 Sf_o99
      replace Sf_b99 := Safe.keep K99 SfKK99 RC.1 Sf_b99
      replace RC := RC.trans (CHr.keep K99 SfKK99 RC.1)
      replace hkS := Nat.le_trans hkS K99.1
      show W p e below _ (T99.setTop (mkF m 199 #[.val (.int p0), .val (.int p1), .val (.int (2 : Int32)), .val (.int (0 : Int32)), .val (.ref b80), .val (.ref s88), .val (.ref s90), .val (.ref b80)] [(.ref o99)]))
      refine W.go (fun _ hr => XS.aload X99.here hx rfl (hb hby at_199) rfl rfl hr) ?_
      show W p e below _ (T99.setTop (mkF m 201 #[.val (.int p0), .val (.int p1), .val (.int (2 : Int32)), .val (.int (0 : Int32)), .val (.ref b80), .val (.ref s88), .val (.ref s90), .val (.ref b80)] [(.ref s90), (.ref o99)]))
      refine W.callV X99 hx hZ hown (g := (mkF m 201 #[.val (.int p0), .val (.int p1), .val (.int (2 : Int32)), .val (.int (0 : Int32)), .val (.ref b80), .val (.ref s88), .val (.ref s90), .val (.ref b80)] [(.ref s90), (.ref o99)])) (by rw [hml]; rfl) (hw _ (List.mem_of_getElem? (i := 122) rfl)) (hw _ (List.mem_of_getElem? (i := 123) rfl)) (hw _ (List.mem_of_getElem? (i := 125) rfl)) (hw _ (List.mem_of_getElem? (i := 124) rfl)) (hw _ (List.mem_of_getElem? (i := 23) rfl)) (hw _ (List.mem_of_getElem? (i := 126) rfl)) e99 (rm22 l Z a0 hw o99 s90 b99 c90 kb99 kb90 (13 : Int32) (13 : Int32) [(91 : Int32), (102 : Int32), (97 : Int32), (108 : Int32), (115 : Int32), (101 : Int32), (93 : Int32), (44 : Int32), (102 : Int32), (97 : Int32), (108 : Int32), (115 : Int32), (101 : Int32)] [(91 : Int32), (102 : Int32), (97 : Int32), (108 : Int32), (115 : Int32), (101 : Int32), (93 : Int32), (44 : Int32), (102 : Int32), (97 : Int32), (108 : Int32), (115 : Int32), (101 : Int32)] (1 : Int32) zCS h99 n0 Z100 E_o99 F_value_o99 F_coder_o99 V_b99 E_s90 F_value_s90 F_coder_s90 V_c90 (by decide) (by decide) (Ne.symm ne_s90_o99) S_COMPACT_STRINGS hCS) (notFace_of_selects (args := #[]) (mvT hZ (hw _ (List.mem_of_getElem? (i := 125) rfl)))) (by decide) pd_438 rfl E_o99 (argsL := [(.ref s90)]) (rest := []) rfl rfl rfl (hb hby at_201) (W0 := 0) rfl (by decide) (by decide) (by decide) (by decide) (fun v101 T101 h101 L101 X101 e101 hQ101 => ?_)
      obtain ⟨rfl, N101q, hh101⟩ := hQ101
      obtain rfl := hh101.symm
      have N101 := Fr.app N99 N101q
      show W p e below _ (T101.setTop (mkF m 204 #[.val (.int p0), .val (.int p1), .val (.int (2 : Int32)), .val (.int (0 : Int32)), .val (.ref b80), .val (.ref s88), .val (.ref s90), .val (.ref b80)] [(.int (1 : Int32))]))
      exact W.retBW X101 hx hlk (t := .boolean) hret (by simp) (hb hby at_204) hS hkS hZ own_EW' RC (by decide) (by decide) e101 ⟨rfl, N101⟩
    · refine W.go (fun _ hr => XS.ifNo X0.here hx rfl (hb hby at_7) rfl ((if0 _ _).trans (feq hc7_79).1) hr) ?_
      show W p e below _ (s₁.setTop (mkF m 10 #[.val (.int p0), .val (.int p1), .val (.int (2 : Int32)), .unset, .unset, .unset, .unset, .unset] []))
      refine W.go (fun _ hr => XS.iconst X0.here hx rfl (hb hby at_10) hr) ?_
      show W p e below _ (s₁.setTop (mkF m 11 #[.val (.int p0), .val (.int p1), .val (.int (2 : Int32)), .unset, .unset, .unset, .unset, .unset] [(.int (1 : Int32))]))
      refine W.go (fun _ hr => XS.goto X0.here hx rfl (pc0 := 11) (pc' := 15) rfl (hb hby at_11) (by decide) (by decide) hr) ?_
      show W p e below _ (s₁.setTop (mkF m 15 #[.val (.int p0), .val (.int p1), .val (.int (2 : Int32)), .unset, .unset, .unset, .unset, .unset] [(.int (1 : Int32))]))
      refine W.go (fun _ hr => XS.istoreN X0.here hx rfl (hb hby at_15) rfl (l' := #[.val (.int p0), .val (.int p1), .val (.int (2 : Int32)), .val (.int (1 : Int32)), .unset, .unset, .unset, .unset]) rfl hr) ?_
      show W p e below _ (s₁.setTop (mkF m 16 #[.val (.int p0), .val (.int p1), .val (.int (2 : Int32)), .val (.int (1 : Int32)), .unset, .unset, .unset, .unset] []))
      obtain ⟨T102, h102, X102, e102, E102, E_b102, D102, U102, st102⟩ := newO X0 hx hZ hown (hw _ (List.mem_of_getElem? (i := 0) rfl)) (hw _ (List.mem_of_getElem? (i := 1) rfl)) (hw _ (List.mem_of_getElem? (i := 2) rfl)) e0 (g := (mkF m 16 #[.val (.int p0), .val (.int p1), .val (.int (2 : Int32)), .val (.int (1 : Int32)), .unset, .unset, .unset, .unset] [])) rfl (hb hby at_16) (by decide) (by decide)
      obtain ⟨b102, g102⟩ : ∃ z, z = h0.size := ⟨_, rfl⟩
      rw [← g102] at E_b102 D102 U102 st102
      have Sf_b102 : Safe Z EL vm0 h0 b102 := Safe.new (Nat.le_of_eq g102.symm)
      have g_b102 : n0 ≤ b102 := Nat.le_trans Z0 (Nat.le_of_eq g102.symm)
      replace S_COMPACT_STRINGS := Sta.ext E102 S_COMPACT_STRINGS
      replace S_SIOOBE_FORMATTER := Sta.ext E102 S_SIOOBE_FORMATTER
      have Z103 : n0 ≤ h102.size := Nat.le_trans Z0 E102.1
      replace Sf_b102 := Safe.ext E102 RC.1 Sf_b102
      replace RC := RC.trans (CHr.ext E102 RC.1)
      replace hkS := Nat.le_trans hkS E102.1
      have F_json_b102 : Fld Z h102 b102 "org/allonym/cli/JsonWriter" "json" "Ljava/lang/StringBuilder;" .null := D102 (Or.inr (hw _ (List.mem_of_getElem? (i := 30) rfl))) (ty := (.object "java/lang/StringBuilder")) (by decide)
      refine W.go st102 ?_
      show W p e below _ (T102.setTop (mkF m 19 #[.val (.int p0), .val (.int p1), .val (.int (2 : Int32)), .val (.int (1 : Int32)), .unset, .unset, .unset, .unset] [(.ref b102)]))
      refine W.go (fun _ hr => XS.dup X102.here hx rfl (hb hby at_19) rfl rfl hr) ?_
      show W p e below _ (T102.setTop (mkF m 20 #[.val (.int p0), .val (.int p1), .val (.int (2 : Int32)), .val (.int (1 : Int32)), .unset, .unset, .unset, .unset] [(.ref b102), (.ref b102)]))
      refine W.callI X102 hx hZ hown (g := (mkF m 20 #[.val (.int p0), .val (.int p1), .val (.int (2 : Int32)), .val (.int (1 : Int32)), .unset, .unset, .unset, .unset] [(.ref b102), (.ref b102)])) (by rw [hml]; rfl) (hw _ (List.mem_of_getElem? (i := 3) rfl)) (hw _ (List.mem_of_getElem? (i := 4) rfl)) (hw _ (List.mem_of_getElem? (i := 2) rfl)) (hw _ (List.mem_of_getElem? (i := 5) rfl)) e102 (rm1 l Z a0 hw b102 zCS h102 n0 Z103 E_b102 F_json_b102 g_b102 S_COMPACT_STRINGS hCS) rfl (by decide) pd_407 rfl (b := b102) (argsL := []) (rest := [(.ref b102)]) rfl rfl rfl (hb hby at_20) (W0 := 1) rfl (by decide) (by decide) (by decide) (by decide) (fun v104 T104 h104 L104 X104 e104 hQ104 => ?_)
      obtain ⟨rfl, N104q, K104, Ee104, o104, t104, kt104, so104, st104, not104, Fj104, E_o104, F_value_o104, F_coder_o104, F_count_o104, V_t104⟩ := hQ104
      have N104 := Fr.app N0 N104q
      have ne_b102_o104 : b102 ≠ o104 := Nat.ne_of_lt (Nat.lt_of_lt_of_le E_b102.lt so104)
      have Sf_o104 : Safe Z EL vm0 h102 o104 := Safe.new so104
      have g_o104 : n0 ≤ o104 := Nat.le_trans Z103 so104
      have ne_b102_t104 : b102 ≠ t104 := Nat.ne_of_lt (Nat.lt_of_lt_of_le E_b102.lt st104)
      have Sf_t104 : Safe Z EL vm0 h102 t104 := Safe.new st104
      have g_t104 : n0 ≤ t104 := Nat.le_trans Z103 st104
      have SfKK104 := (sfS Sf_b102 sf0)
      have nsK104 := (nsS E_b102.nostat ns0)
      replace S_COMPACT_STRINGS := Sta.keep S_COMPACT_STRINGS K104 nsK104
      replace S_SIOOBE_FORMATTER := Sta.keep S_SIOOBE_FORMATTER K104 nsK104
      replace E_b102 := E_b102.keep K104
      have Z105 : n0 ≤ h104.size := Nat.le_trans Z103 K104.1
      replace Sf_b102 := Safe.keep K104 SfKK104 RC.1 Sf_b102
      replace Sf_o104 := Safe.keep K104 SfKK104 RC.1 Sf_o104
      replace Sf_t104 := Safe.keep K104 SfKK104 RC.1 Sf_t104
      replace RC := RC.trans (CHr.keep K104 SfKK104 RC.1)
      replace hkS := Nat.le_trans hkS K104.1
      show W p e below _ (T104.setTop (mkF m 23 #[.val (.int p0), .val (.int p1), .val (.int (2 : Int32)), .val (.int (1 : Int32)), .unset, .unset, .unset, .unset] [(.ref b102)]))
      refine W.go (fun _ hr => XS.astore X104.here hx rfl (hb hby at_23) rfl rfl (l' := #[.val (.int p0), .val (.int p1), .val (.int (2 : Int32)), .val (.int (1 : Int32)), .val (.ref b102), .unset, .unset, .unset]) rfl hr) ?_
      show W p e below _ (T104.setTop (mkF m 25 #[.val (.int p0), .val (.int p1), .val (.int (2 : Int32)), .val (.int (1 : Int32)), .val (.ref b102), .unset, .unset, .unset] []))
      refine W.go (fun _ hr => XS.iloadN X104.here hx rfl (hb hby at_25) rfl hr) ?_
      show W p e below _ (T104.setTop (mkF m 26 #[.val (.int p0), .val (.int p1), .val (.int (2 : Int32)), .val (.int (1 : Int32)), .val (.ref b102), .unset, .unset, .unset] [(.int (2 : Int32))]))
      refine W.go (fun _ hr => XS.ifYes X104.here hx rfl (pc0 := 26) (pc' := 49) rfl (hb hby at_26) rfl ((if0 _ _).trans (feq (by decide : ¬ ((2 : Int32) = (0 : Int32)))).2) (by decide) (by decide) hr) ?_
      show W p e below _ (T104.setTop (mkF m 49 #[.val (.int p0), .val (.int p1), .val (.int (2 : Int32)), .val (.int (1 : Int32)), .val (.ref b102), .unset, .unset, .unset] []))
      refine W.go (fun _ hr => XS.iloadN X104.here hx rfl (hb hby at_49) rfl hr) ?_
      show W p e below _ (T104.setTop (mkF m 50 #[.val (.int p0), .val (.int p1), .val (.int (2 : Int32)), .val (.int (1 : Int32)), .val (.ref b102), .unset, .unset, .unset] [(.int (2 : Int32))]))
      refine W.go (fun _ hr => XS.iconst X104.here hx rfl (hb hby at_50) hr) ?_
      show W p e below _ (T104.setTop (mkF m 51 #[.val (.int p0), .val (.int p1), .val (.int (2 : Int32)), .val (.int (1 : Int32)), .val (.ref b102), .unset, .unset, .unset] [(.int (1 : Int32)), (.int (2 : Int32))]))
      refine W.go (fun _ hr => XS.icmpYes X104.here hx rfl (pc0 := 51) (pc' := 80) rfl (hb hby at_51) rfl (feq (by decide : ¬ ((2 : Int32) = (1 : Int32)))).2 (by decide) (by decide) hr) ?_
      show W p e below _ (T104.setTop (mkF m 80 #[.val (.int p0), .val (.int p1), .val (.int (2 : Int32)), .val (.int (1 : Int32)), .val (.ref b102), .unset, .unset, .unset] []))
      refine W.go (fun _ hr => XS.iloadN X104.here hx rfl (hb hby at_80) rfl hr) ?_
      show W p e below _ (T104.setTop (mkF m 81 #[.val (.int p0), .val (.int p1), .val (.int (2 : Int32)), .val (.int (1 : Int32)), .val (.ref b102), .unset, .unset, .unset] [(.int (2 : Int32))]))
      refine W.go (fun _ hr => XS.iconst X104.here hx rfl (hb hby at_81) hr) ?_
      show W p e below _ (T104.setTop (mkF m 82 #[.val (.int p0), .val (.int p1), .val (.int (2 : Int32)), .val (.int (1 : Int32)), .val (.ref b102), .unset, .unset, .unset] [(.int (2 : Int32)), (.int (2 : Int32))]))
      refine W.go (fun _ hr => XS.icmpNo X104.here hx rfl (hb hby at_82) rfl (teq (by decide : ((2 : Int32) = (2 : Int32)))).2 hr) ?_
      show W p e below _ (T104.setTop (mkF m 85 #[.val (.int p0), .val (.int p1), .val (.int (2 : Int32)), .val (.int (1 : Int32)), .val (.ref b102), .unset, .unset, .unset] []))
      refine W.go (fun _ hr => XS.aload X104.here hx rfl (hb hby at_85) rfl rfl hr) ?_
      show W p e below _ (T104.setTop (mkF m 87 #[.val (.int p0), .val (.int p1), .val (.int (2 : Int32)), .val (.int (1 : Int32)), .val (.ref b102), .unset, .unset, .unset] [(.ref b102)]))
      refine W.callV X104 hx hZ hown (g := (mkF m 87 #[.val (.int p0), .val (.int p1), .val (.int (2 : Int32)), .val (.int (1 : Int32)), .val (.ref b102), .unset, .unset, .unset] [(.ref b102)])) (by rw [hml]; rfl) (hw _ (List.mem_of_getElem? (i := 186) rfl)) (hw _ (List.mem_of_getElem? (i := 187) rfl)) (hw _ (List.mem_of_getElem? (i := 189) rfl)) (hw _ (List.mem_of_getElem? (i := 188) rfl)) (hw _ (List.mem_of_getElem? (i := 2) rfl)) (hw _ (List.mem_of_getElem? (i := 190) rfl)) e104 (rm_beginArrayN l Z a0 hw b102 o104 t104 kt104 [] (0 : Int32) [(.int (91 : Int32))] (1 : Int32) zCS wSF h104 n0 Z105 E_b102 Fj104 E_o104 F_value_o104 F_coder_o104 F_count_o104 V_t104 S_COMPACT_STRINGS hCS S_SIOOBE_FORMATTER hSF (by decide) g_o104 g_t104 ne_b102_o104 ne_b102_t104 not104 (Or.inl rfl) rfl (by decide)) (notFace_of_selects (args := #[]) (mvT hZ (hw _ (List.mem_of_getElem? (i := 189) rfl)))) (by decide) pd_437 rfl E_b102 (argsL := []) (rest := []) rfl rfl rfl (hb hby at_87) (W0 := 0) rfl (by decide) (by decide) (by decide) (by decide) (fun v106 T106 h106 L106 X106 e106 hQ106 => ?_)
      obtain ⟨rfl, N106q, K106, Eo106, Fv106, Fc106, Fn106, V106⟩ := hQ106
      have N106 := Fr.app N104 N106q
      have SfKK106 := (sfS Sf_o104 (sfS Sf_t104 sf0))
      have nsK106 := (nsS E_o104.nostat (nsS V_t104.nostat ns0))
      replace S_COMPACT_STRINGS := Sta.keep S_COMPACT_STRINGS K106 nsK106
      replace S_SIOOBE_FORMATTER := Sta.keep S_SIOOBE_FORMATTER K106 nsK106
      replace E_b102 := E_b102.keep K106
      replace Fj104 := Fj104.keep K106 (ninS ne_b102_o104 (ninS ne_b102_t104 nin0))
      replace E_o104 := E_o104.keep K106
      have Z107 : n0 ≤ h106.size := Nat.le_trans Z105 K106.1
      replace Sf_b102 := Safe.keep K106 SfKK106 RC.1 Sf_b102
      replace Sf_o104 := Safe.keep K106 SfKK106 RC.1 Sf_o104
      replace Sf_t104 := Safe.keep K106 SfKK106 RC.1 Sf_t104
      replace RC := RC.trans (CHr.keep K106 SfKK106 RC.1)
      replace hkS := Nat.le_trans hkS K106.1
      show W p e below _ (T106.setTop (mkF m 90 #[.val (.int p0), .val (.int p1), .val (.int (2 : Int32)), .val (.int (1 : Int32)), .val (.ref b102), .unset, .unset, .unset] [(.ref b102)]))
      refine W.go (fun _ hr => XS.pop X106.here hx rfl (hb hby at_90) rfl rfl hr) ?_
      show W p e below _ (T106.setTop (mkF m 91 #[.val (.int p0), .val (.int p1), .val (.int (2 : Int32)), .val (.int (1 : Int32)), .val (.ref b102), .unset, .unset, .unset] []))
      refine W.go (fun _ hr => XS.aload X106.here hx rfl (hb hby at_91) rfl rfl hr) ?_
      show W p e below _ (T106.setTop (mkF m 93 #[.val (.int p0), .val (.int p1), .val (.int (2 : Int32)), .val (.int (1 : Int32)), .val (.ref b102), .unset, .unset, .unset] [(.ref b102)]))
      refine W.go (fun _ hr => XS.iloadN X106.here hx rfl (hb hby at_93) rfl hr) ?_
      show W p e below _ (T106.setTop (mkF m 94 #[.val (.int p0), .val (.int p1), .val (.int (2 : Int32)), .val (.int (1 : Int32)), .val (.ref b102), .unset, .unset, .unset] [(.int (1 : Int32)), (.ref b102)]))
      refine W.callV X106 hx hZ hown (g := (mkF m 94 #[.val (.int p0), .val (.int p1), .val (.int (2 : Int32)), .val (.int (1 : Int32)), .val (.ref b102), .unset, .unset, .unset] [(.int (1 : Int32)), (.ref b102)])) (by rw [hml]; rfl) (hw _ (List.mem_of_getElem? (i := 132) rfl)) (hw _ (List.mem_of_getElem? (i := 133) rfl)) (hw _ (List.mem_of_getElem? (i := 135) rfl)) (hw _ (List.mem_of_getElem? (i := 134) rfl)) (hw _ (List.mem_of_getElem? (i := 2) rfl)) (hw _ (List.mem_of_getElem? (i := 136) rfl)) e106 (rm_value1N l Z a0 hw b102 o104 t104 kt104 [(.int (91 : Int32))] (1 : Int32) [(.int (91 : Int32)), (.int (116 : Int32)), (.int (114 : Int32)), (.int (117 : Int32)), (.int (101 : Int32))] (5 : Int32) zCS wSF h106 n0 Z107 E_b102 Fj104 E_o104 Fv106 Fc106 Fn106 V106 S_COMPACT_STRINGS hCS S_SIOOBE_FORMATTER hSF (by decide) g_o104 g_t104 ne_b102_o104 ne_b102_t104 not104 (Or.inr ⟨(91 : Int32), by decide, by decide, rfl, by decide⟩) rfl (by decide)) (notFace_of_selects (args := #[]) (mvT hZ (hw _ (List.mem_of_getElem? (i := 135) rfl)))) (by decide) pd_439 rfl E_b102 (argsL := [(.int (1 : Int32))]) (rest := []) rfl rfl rfl (hb hby at_94) (W0 := 0) rfl (by decide) (by decide) (by decide) (by decide) (fun v108 T108 h108 L108 X108 e108 hQ108 => ?_)
      obtain ⟨rfl, N108q, K108, Eo108, Fv108, Fc108, Fn108, V108⟩ := hQ108
      have N108 := Fr.app N106 N108q
      have SfKK108 := (sfS Sf_o104 (sfS Sf_t104 sf0))
      have nsK108 := (nsS E_o104.nostat (nsS V106.nostat ns0))
      replace S_COMPACT_STRINGS := Sta.keep S_COMPACT_STRINGS K108 nsK108
      replace S_SIOOBE_FORMATTER := Sta.keep S_SIOOBE_FORMATTER K108 nsK108
      replace E_b102 := E_b102.keep K108
      replace Fj104 := Fj104.keep K108 (ninS ne_b102_o104 (ninS ne_b102_t104 nin0))
      replace E_o104 := E_o104.keep K108
      have Z109 : n0 ≤ h108.size := Nat.le_trans Z107 K108.1
      replace Sf_b102 := Safe.keep K108 SfKK108 RC.1 Sf_b102
      replace Sf_o104 := Safe.keep K108 SfKK108 RC.1 Sf_o104
      replace Sf_t104 := Safe.keep K108 SfKK108 RC.1 Sf_t104
      replace RC := RC.trans (CHr.keep K108 SfKK108 RC.1)
      replace hkS := Nat.le_trans hkS K108.1
      show W p e below _ (T108.setTop (mkF m 97 #[.val (.int p0), .val (.int p1), .val (.int (2 : Int32)), .val (.int (1 : Int32)), .val (.ref b102), .unset, .unset, .unset] [(.ref b102)]))
      refine W.go (fun _ hr => XS.pop X108.here hx rfl (hb hby at_97) rfl rfl hr) ?_
      show W p e below _ (T108.setTop (mkF m 98 #[.val (.int p0), .val (.int p1), .val (.int (2 : Int32)), .val (.int (1 : Int32)), .val (.ref b102), .unset, .unset, .unset] []))
      refine W.go (fun _ hr => XS.iloadN X108.here hx rfl (hb hby at_98) rfl hr) ?_
      show W p e below _ (T108.setTop (mkF m 99 #[.val (.int p0), .val (.int p1), .val (.int (2 : Int32)), .val (.int (1 : Int32)), .val (.ref b102), .unset, .unset, .unset] [(.int (1 : Int32))]))
      refine W.go (fun _ hr => XS.ifNo X108.here hx rfl (hb hby at_99) rfl ((if0 _ _).trans (feq (by decide : ¬ ((1 : Int32) = (0 : Int32)))).1) hr) ?_
      show W p e below _ (T108.setTop (mkF m 102 #[.val (.int p0), .val (.int p1), .val (.int (2 : Int32)), .val (.int (1 : Int32)), .val (.ref b102), .unset, .unset, .unset] []))
      have lt110_b102 : b102 < h108.size := E_b102.lt
      have lt110_o104 : o104 < h108.size := E_o104.lt
      have lt110_t104 : t104 < h108.size := V108.lt
      obtain ⟨s110, T110, h110, kk110, c110, kb110, X110, e110, E110, hS, hkS, hZ, hown, E_s110, F_coder_s110, F_value_s110, V_c110, la110, lb110, hC110, hL110, hne110, st110⟩ := ldcCH X108 hx hZ hown (hw _ (List.mem_of_getElem? (i := 191) rfl)) own_sa' e108 hS hkS own_EW' (List.mem_of_getElem? (i := 6) rfl) RC.1 (vs := [(.int (91 : Int32)), (.int (116 : Int32)), (.int (114 : Int32)), (.int (117 : Int32)), (.int (101 : Int32)), (.int (93 : Int32))]) (z := (6 : Int32)) (by decide) (by decide) (by decide) (g := (mkF m 102 #[.val (.int p0), .val (.int p1), .val (.int (2 : Int32)), .val (.int (1 : Int32)), .val (.ref b102), .unset, .unset, .unset] [])) rfl (hb hby at_102) (n := 24) (by decide) (by decide) (by decide) (by decide)
      replace S_COMPACT_STRINGS := Sta.ext E110 S_COMPACT_STRINGS
      replace S_SIOOBE_FORMATTER := Sta.ext E110 S_SIOOBE_FORMATTER
      replace E_b102 := E_b102.ext E110
      replace Fj104 := Fj104.ext E110
      replace E_o104 := E_o104.ext E110
      replace Fv108 := Fv108.ext E110
      replace Fc108 := Fc108.ext E110
      replace Fn108 := Fn108.ext E110
      replace V108 := V108.ext E110
      have Z111 : n0 ≤ h110.size := Nat.le_trans Z109 E110.1
      replace Sf_b102 := hC110.safe lt110_b102 Sf_b102
      replace Sf_o104 := hC110.safe lt110_o104 Sf_o104
      replace Sf_t104 := hC110.safe lt110_t104 Sf_t104
      replace RC := RC.trans hC110
      have ne_b102_s110 := (hne110 b102 Sf_b102).1
      have ne_b102_c110 := (hne110 b102 Sf_b102).2
      have ne_o104_s110 := (hne110 o104 Sf_o104).1
      have ne_o104_c110 := (hne110 o104 Sf_o104).2
      have ne_t104_s110 := (hne110 t104 Sf_t104).1
      have ne_t104_c110 := (hne110 t104 Sf_t104).2
      refine W.go st110 ?_
      show W p e below _ (T110.setTop (mkF m 104 #[.val (.int p0), .val (.int p1), .val (.int (2 : Int32)), .val (.int (1 : Int32)), .val (.ref b102), .unset, .unset, .unset] [(.ref s110)]))
      refine W.go (fun _ hr => XS.goto X110.here hx rfl (pc0 := 104) (pc' := 109) rfl (hb hby at_104) (by decide) (by decide) hr) ?_
      show W p e below _ (T110.setTop (mkF m 109 #[.val (.int p0), .val (.int p1), .val (.int (2 : Int32)), .val (.int (1 : Int32)), .val (.ref b102), .unset, .unset, .unset] [(.ref s110)]))
      refine W.go (fun _ hr => XS.astore X110.here hx rfl (hb hby at_109) rfl rfl (l' := #[.val (.int p0), .val (.int p1), .val (.int (2 : Int32)), .val (.int (1 : Int32)), .val (.ref b102), .val (.ref s110), .unset, .unset]) rfl hr) ?_
      show W p e below _ (T110.setTop (mkF m 111 #[.val (.int p0), .val (.int p1), .val (.int (2 : Int32)), .val (.int (1 : Int32)), .val (.ref b102), .val (.ref s110), .unset, .unset] []))
      refine W.go (fun _ hr => XS.iloadN X110.here hx rfl (hb hby at_111) rfl hr) ?_
      show W p e below _ (T110.setTop (mkF m 112 #[.val (.int p0), .val (.int p1), .val (.int (2 : Int32)), .val (.int (1 : Int32)), .val (.ref b102), .val (.ref s110), .unset, .unset] [(.int (1 : Int32))]))
      refine W.go (fun _ hr => XS.ifNo X110.here hx rfl (hb hby at_112) rfl ((if0 _ _).trans (feq (by decide : ¬ ((1 : Int32) = (0 : Int32)))).1) hr) ?_
      show W p e below _ (T110.setTop (mkF m 115 #[.val (.int p0), .val (.int p1), .val (.int (2 : Int32)), .val (.int (1 : Int32)), .val (.ref b102), .val (.ref s110), .unset, .unset] []))
      have lt112_b102 : b102 < h110.size := E_b102.lt
      have lt112_o104 : o104 < h110.size := E_o104.lt
      have lt112_t104 : t104 < h110.size := V108.lt
      obtain ⟨s112, T112, h112, kk112, c112, kb112, X112, e112, E112, hS, hkS, hZ, hown, E_s112, F_coder_s112, F_value_s112, V_c112, la112, lb112, hC112, hL112, hne112, st112⟩ := ldcCH X110 hx hZ hown (hw _ (List.mem_of_getElem? (i := 192) rfl)) own_sa' e110 hS hkS own_EW' (List.mem_of_getElem? (i := 8) rfl) RC.1 (vs := [(.int (91 : Int32)), (.int (116 : Int32)), (.int (114 : Int32)), (.int (117 : Int32)), (.int (101 : Int32)), (.int (93 : Int32)), (.int (44 : Int32)), (.int (116 : Int32)), (.int (114 : Int32)), (.int (117 : Int32)), (.int (101 : Int32))]) (z := (11 : Int32)) (by decide) (by decide) (by decide) (g := (mkF m 115 #[.val (.int p0), .val (.int p1), .val (.int (2 : Int32)), .val (.int (1 : Int32)), .val (.ref b102), .val (.ref s110), .unset, .unset] [])) rfl (hb hby at_115) (n := 44) (by decide) (by decide) (by decide) (by decide)
      replace S_COMPACT_STRINGS := Sta.ext E112 S_COMPACT_STRINGS
      replace S_SIOOBE_FORMATTER := Sta.ext E112 S_SIOOBE_FORMATTER
      replace E_b102 := E_b102.ext E112
      replace Fj104 := Fj104.ext E112
      replace E_o104 := E_o104.ext E112
      replace Fv108 := Fv108.ext E112
      replace Fc108 := Fc108.ext E112
      replace Fn108 := Fn108.ext E112
      replace V108 := V108.ext E112
      replace E_s110 := E_s110.ext E112
      replace F_coder_s110 := F_coder_s110.ext E112
      replace F_value_s110 := F_value_s110.ext E112
      replace V_c110 := V_c110.ext E112
      have Z113 : n0 ≤ h112.size := Nat.le_trans Z111 E112.1
      replace Sf_b102 := hC112.safe lt112_b102 Sf_b102
      replace Sf_o104 := hC112.safe lt112_o104 Sf_o104
      replace Sf_t104 := hC112.safe lt112_t104 Sf_t104
      replace RC := RC.trans hC112
      have ne_b102_s112 := (hne112 b102 Sf_b102).1
      have ne_b102_c112 := (hne112 b102 Sf_b102).2
      have ne_o104_s112 := (hne112 o104 Sf_o104).1
      have ne_o104_c112 := (hne112 o104 Sf_o104).2
      have ne_t104_s112 := (hne112 t104 Sf_t104).1
      have ne_t104_c112 := (hne112 t104 Sf_t104).2
      refine W.go st112 ?_
      show W p e below _ (T112.setTop (mkF m 117 #[.val (.int p0), .val (.int p1), .val (.int (2 : Int32)), .val (.int (1 : Int32)), .val (.ref b102), .val (.ref s110), .unset, .unset] [(.ref s112)]))
      refine W.go (fun _ hr => XS.goto X112.here hx rfl (pc0 := 117) (pc' := 122) rfl (hb hby at_117) (by decide) (by decide) hr) ?_
      show W p e below _ (T112.setTop (mkF m 122 #[.val (.int p0), .val (.int p1), .val (.int (2 : Int32)), .val (.int (1 : Int32)), .val (.ref b102), .val (.ref s110), .unset, .unset] [(.ref s112)]))
      refine W.go (fun _ hr => XS.astore X112.here hx rfl (hb hby at_122) rfl rfl (l' := #[.val (.int p0), .val (.int p1), .val (.int (2 : Int32)), .val (.int (1 : Int32)), .val (.ref b102), .val (.ref s110), .val (.ref s112), .unset]) rfl hr) ?_
      show W p e below _ (T112.setTop (mkF m 124 #[.val (.int p0), .val (.int p1), .val (.int (2 : Int32)), .val (.int (1 : Int32)), .val (.ref b102), .val (.ref s110), .val (.ref s112), .unset] []))
      refine W.go (fun _ hr => XS.goto X112.here hx rfl (pc0 := 124) (pc' := 156) rfl (hb hby at_124) (by decide) (by decide) hr) ?_
      show W p e below _ (T112.setTop (mkF m 156 #[.val (.int p0), .val (.int p1), .val (.int (2 : Int32)), .val (.int (1 : Int32)), .val (.ref b102), .val (.ref s110), .val (.ref s112), .unset] []))
      refine W.go (fun _ hr => XS.aload X112.here hx rfl (hb hby at_156) rfl rfl hr) ?_
      show W p e below _ (T112.setTop (mkF m 158 #[.val (.int p0), .val (.int p1), .val (.int (2 : Int32)), .val (.int (1 : Int32)), .val (.ref b102), .val (.ref s110), .val (.ref s112), .unset] [(.ref b102)]))
      refine W.callV X112 hx hZ hown (g := (mkF m 158 #[.val (.int p0), .val (.int p1), .val (.int (2 : Int32)), .val (.int (1 : Int32)), .val (.ref b102), .val (.ref s110), .val (.ref s112), .unset] [(.ref b102)])) (by rw [hml]; rfl) (hw _ (List.mem_of_getElem? (i := 38) rfl)) (hw _ (List.mem_of_getElem? (i := 39) rfl)) (hw _ (List.mem_of_getElem? (i := 41) rfl)) (hw _ (List.mem_of_getElem? (i := 40) rfl)) (hw _ (List.mem_of_getElem? (i := 2) rfl)) (hw _ (List.mem_of_getElem? (i := 42) rfl)) e112 (rm_endArray l Z a0 hw b102 o104 t104 kt104 [(.int (91 : Int32)), (.int (116 : Int32)), (.int (114 : Int32)), (.int (117 : Int32)), (.int (101 : Int32))] (5 : Int32) [(.int (91 : Int32)), (.int (116 : Int32)), (.int (114 : Int32)), (.int (117 : Int32)), (.int (101 : Int32)), (.int (93 : Int32))] (6 : Int32) zCS wSF h112 n0 Z113 E_b102 Fj104 E_o104 Fv108 Fc108 Fn108 V108 S_COMPACT_STRINGS hCS S_SIOOBE_FORMATTER hSF (by decide) g_o104 g_t104 ne_b102_o104 ne_b102_t104 not104  rfl (by decide)) (notFace_of_selects (args := #[]) (mvT hZ (hw _ (List.mem_of_getElem? (i := 41) rfl)))) (by decide) pd_437 rfl E_b102 (argsL := []) (rest := []) rfl rfl rfl (hb hby at_158) (W0 := 0) rfl (by decide) (by decide) (by decide) (by decide) (fun v114 T114 h114 L114 X114 e114 hQ114 => ?_)
      obtain ⟨rfl, N114q, K114, Eo114, Fv114, Fc114, Fn114, V114⟩ := hQ114
      have N114 := Fr.app N108 N114q
      have SfKK114 := (sfS Sf_o104 (sfS Sf_t104 sf0))
      have nsK114 := (nsS E_o104.nostat (nsS V108.nostat ns0))
      replace S_COMPACT_STRINGS := Sta.keep S_COMPACT_STRINGS K114 nsK114
      replace S_SIOOBE_FORMATTER := Sta.keep S_SIOOBE_FORMATTER K114 nsK114
      replace E_b102 := E_b102.keep K114
      replace Fj104 := Fj104.keep K114 (ninS ne_b102_o104 (ninS ne_b102_t104 nin0))
      replace E_o104 := E_o104.keep K114
      replace E_s110 := E_s110.keep K114
      replace F_coder_s110 := F_coder_s110.keep K114 (ninS (Ne.symm ne_o104_s110) (ninS (Ne.symm ne_t104_s110) nin0))
      replace F_value_s110 := F_value_s110.keep K114 (ninS (Ne.symm ne_o104_s110) (ninS (Ne.symm ne_t104_s110) nin0))
      replace V_c110 := V_c110.keep K114 (ninS (Ne.symm ne_o104_c110) (ninS (Ne.symm ne_t104_c110) nin0))
      replace E_s112 := E_s112.keep K114
      replace F_coder_s112 := F_coder_s112.keep K114 (ninS (Ne.symm ne_o104_s112) (ninS (Ne.symm ne_t104_s112) nin0))
      replace F_value_s112 := F_value_s112.keep K114 (ninS (Ne.symm ne_o104_s112) (ninS (Ne.symm ne_t104_s112) nin0))
      replace V_c112 := V_c112.keep K114 (ninS (Ne.symm ne_o104_c112) (ninS (Ne.symm ne_t104_c112) nin0))
      have Z115 : n0 ≤ h114.size := Nat.le_trans Z113 K114.1
      replace Sf_b102 := Safe.keep K114 SfKK114 RC.1 Sf_b102
      replace Sf_o104 := Safe.keep K114 SfKK114 RC.1 Sf_o104
      replace Sf_t104 := Safe.keep K114 SfKK114 RC.1 Sf_t104
      replace RC := RC.trans (CHr.keep K114 SfKK114 RC.1)
      replace hkS := Nat.le_trans hkS K114.1
      show W p e below _ (T114.setTop (mkF m 161 #[.val (.int p0), .val (.int p1), .val (.int (2 : Int32)), .val (.int (1 : Int32)), .val (.ref b102), .val (.ref s110), .val (.ref s112), .unset] [(.ref b102)]))
      refine W.go (fun _ hr => XS.astore X114.here hx rfl (hb hby at_161) rfl rfl (l' := #[.val (.int p0), .val (.int p1), .val (.int (2 : Int32)), .val (.int (1 : Int32)), .val (.ref b102), .val (.ref s110), .val (.ref s112), .val (.ref b102)]) rfl hr) ?_
      show W p e below _ (T114.setTop (mkF m 163 #[.val (.int p0), .val (.int p1), .val (.int (2 : Int32)), .val (.int (1 : Int32)), .val (.ref b102), .val (.ref s110), .val (.ref s112), .val (.ref b102)] []))
      refine W.go (fun _ hr => XS.aload X114.here hx rfl (hb hby at_163) rfl rfl hr) ?_
      show W p e below _ (T114.setTop (mkF m 165 #[.val (.int p0), .val (.int p1), .val (.int (2 : Int32)), .val (.int (1 : Int32)), .val (.ref b102), .val (.ref s110), .val (.ref s112), .val (.ref b102)] [(.ref b102)]))
      refine W.go (fun _ hr => XS.aload X114.here hx rfl (hb hby at_165) rfl rfl hr) ?_
      show W p e below _ (T114.setTop (mkF m 167 #[.val (.int p0), .val (.int p1), .val (.int (2 : Int32)), .val (.int (1 : Int32)), .val (.ref b102), .val (.ref s110), .val (.ref s112), .val (.ref b102)] [(.ref b102), (.ref b102)]))
      refine W.go (fun _ hr => Jvm.RoadKit.acmp (g := (mkF m 167 #[.val (.int p0), .val (.int p1), .val (.int (2 : Int32)), .val (.int (1 : Int32)), .val (.ref b102), .val (.ref s110), .val (.ref s112), .val (.ref b102)] [(.ref b102), (.ref b102)])) X114 hx rfl rfl rfl (pc0 := 167) (pc' := 172) (same := true) rfl (hb hby at_167) rfl (decide_eq_true rfl) (by decide) (by decide) hr) ?_
      show W p e below _ (T114.setTop (mkF m 172 #[.val (.int p0), .val (.int p1), .val (.int (2 : Int32)), .val (.int (1 : Int32)), .val (.ref b102), .val (.ref s110), .val (.ref s112), .val (.ref b102)] []))
      refine W.go (fun _ hr => XS.aload X114.here hx rfl (hb hby at_172) rfl rfl hr) ?_
      show W p e below _ (T114.setTop (mkF m 174 #[.val (.int p0), .val (.int p1), .val (.int (2 : Int32)), .val (.int (1 : Int32)), .val (.ref b102), .val (.ref s110), .val (.ref s112), .val (.ref b102)] [(.ref b102)]))
      refine W.callV X114 hx hZ hown (g := (mkF m 174 #[.val (.int p0), .val (.int p1), .val (.int (2 : Int32)), .val (.int (1 : Int32)), .val (.ref b102), .val (.ref s110), .val (.ref s112), .val (.ref b102)] [(.ref b102)])) (by rw [hml]; rfl) (hw _ (List.mem_of_getElem? (i := 69) rfl)) (hw _ (List.mem_of_getElem? (i := 70) rfl)) (hw _ (List.mem_of_getElem? (i := 72) rfl)) (hw _ (List.mem_of_getElem? (i := 71) rfl)) (hw _ (List.mem_of_getElem? (i := 2) rfl)) (hw _ (List.mem_of_getElem? (i := 73) rfl)) e114 (rm11 l Z a0 hw b102 o104 t104 kt104 [(.int (91 : Int32)), (.int (116 : Int32)), (.int (114 : Int32)), (.int (117 : Int32)), (.int (101 : Int32)), (.int (93 : Int32))] (6 : Int32) zCS h114 n0 Z115 E_b102 Fj104 E_o104 Fv114 Fc114 Fn114 V114 S_COMPACT_STRINGS hCS (by decide)) (notFace_of_selects (args := #[]) (mvT hZ (hw _ (List.mem_of_getElem? (i := 72) rfl)))) (by decide) pd_425 rfl E_b102 (argsL := []) (rest := []) rfl rfl rfl (hb hby at_174) (W0 := 0) rfl (by decide) (by decide) (by decide) (by decide) (fun v116 T116 h116 L116 X116 e116 hQ116 => ?_)
      obtain ⟨o116, b116, kb116, rfl, N116q, K116, so116, sb116, nob116, E_o116, F_value_o116, F_coder_o116, E_b116, V_b116⟩ := hQ116
      have N116 := Fr.app N114 N116q
      have ne_b102_o116 : b102 ≠ o116 := Nat.ne_of_lt (Nat.lt_of_lt_of_le E_b102.lt so116)
      have ne_o104_o116 : o104 ≠ o116 := Nat.ne_of_lt (Nat.lt_of_lt_of_le E_o104.lt so116)
      have ne_s110_o116 : s110 ≠ o116 := Nat.ne_of_lt (Nat.lt_of_lt_of_le E_s110.lt so116)
      have ne_c110_o116 : c110 ≠ o116 := Nat.ne_of_lt (Nat.lt_of_lt_of_le V_c110.lt so116)
      have ne_s112_o116 : s112 ≠ o116 := Nat.ne_of_lt (Nat.lt_of_lt_of_le E_s112.lt so116)
      have ne_c112_o116 : c112 ≠ o116 := Nat.ne_of_lt (Nat.lt_of_lt_of_le V_c112.lt so116)
      have ne_t104_o116 : t104 ≠ o116 := Nat.ne_of_lt (Nat.lt_of_lt_of_le V114.lt so116)
      have Sf_o116 : Safe Z EL T112.vm h114 o116 := Safe.new so116
      have g_o116 : n0 ≤ o116 := Nat.le_trans Z115 so116
      have ne_b102_b116 : b102 ≠ b116 := Nat.ne_of_lt (Nat.lt_of_lt_of_le E_b102.lt sb116)
      have ne_o104_b116 : o104 ≠ b116 := Nat.ne_of_lt (Nat.lt_of_lt_of_le E_o104.lt sb116)
      have ne_s110_b116 : s110 ≠ b116 := Nat.ne_of_lt (Nat.lt_of_lt_of_le E_s110.lt sb116)
      have ne_c110_b116 : c110 ≠ b116 := Nat.ne_of_lt (Nat.lt_of_lt_of_le V_c110.lt sb116)
      have ne_s112_b116 : s112 ≠ b116 := Nat.ne_of_lt (Nat.lt_of_lt_of_le E_s112.lt sb116)
      have ne_c112_b116 : c112 ≠ b116 := Nat.ne_of_lt (Nat.lt_of_lt_of_le V_c112.lt sb116)
      have ne_t104_b116 : t104 ≠ b116 := Nat.ne_of_lt (Nat.lt_of_lt_of_le V114.lt sb116)
      have Sf_b116 : Safe Z EL T112.vm h114 b116 := Safe.new sb116
      have g_b116 : n0 ≤ b116 := Nat.le_trans Z115 sb116
      have SfKK116 : ∀ x ∈ ([] : List Addr), Safe Z EL T112.vm h114 x := sf0
      replace S_COMPACT_STRINGS := Sta.keep S_COMPACT_STRINGS K116 ns0
      replace S_SIOOBE_FORMATTER := Sta.keep S_SIOOBE_FORMATTER K116 ns0
      replace E_b102 := E_b102.keep K116
      replace Fj104 := Fj104.keep K116 nin0
      replace E_o104 := E_o104.keep K116
      replace E_s110 := E_s110.keep K116
      replace F_coder_s110 := F_coder_s110.keep K116 nin0
      replace F_value_s110 := F_value_s110.keep K116 nin0
      replace V_c110 := V_c110.keep K116 nin0
      replace E_s112 := E_s112.keep K116
      replace F_coder_s112 := F_coder_s112.keep K116 nin0
      replace F_value_s112 := F_value_s112.keep K116 nin0
      replace V_c112 := V_c112.keep K116 nin0
      replace Fv114 := Fv114.keep K116 nin0
      replace Fc114 := Fc114.keep K116 nin0
      replace Fn114 := Fn114.keep K116 nin0
      replace V114 := V114.keep K116 nin0
      have Z117 : n0 ≤ h116.size := Nat.le_trans Z115 K116.1
      replace Sf_b102 := Safe.keep K116 SfKK116 RC.1 Sf_b102
      replace Sf_o104 := Safe.keep K116 SfKK116 RC.1 Sf_o104
      replace Sf_t104 := Safe.keep K116 SfKK116 RC.1 Sf_t104
      replace Sf_o116 := Safe.keep K116 SfKK116 RC.1 Sf_o116
      replace Sf_b116 := Safe.keep K116 SfKK116 RC.1 Sf_b116
      replace RC := RC.trans (CHr.keep K116 SfKK116 RC.1)
      replace hkS := Nat.le_trans hkS K116.1
      show W p e below _ (T116.setTop (mkF m 177 #[.val (.int p0), .val (.int p1), .val (.int (2 : Int32)), .val (.int (1 : Int32)), .val (.ref b102), .val (.ref s110), .val (.ref s112), .val (.ref b102)] [(.ref o116)]))
      refine W.go (fun _ hr => XS.aload X116.here hx rfl (hb hby at_177) rfl rfl hr) ?_
      show W p e below _ (T116.setTop (mkF m 179 #[.val (.int p0), .val (.int p1), .val (.int (2 : Int32)), .val (.int (1 : Int32)), .val (.ref b102), .val (.ref s110), .val (.ref s112), .val (.ref b102)] [(.ref s110), (.ref o116)]))
      refine W.callV X116 hx hZ hown (g := (mkF m 179 #[.val (.int p0), .val (.int p1), .val (.int (2 : Int32)), .val (.int (1 : Int32)), .val (.ref b102), .val (.ref s110), .val (.ref s112), .val (.ref b102)] [(.ref s110), (.ref o116)])) (by rw [hml]; rfl) (hw _ (List.mem_of_getElem? (i := 122) rfl)) (hw _ (List.mem_of_getElem? (i := 123) rfl)) (hw _ (List.mem_of_getElem? (i := 125) rfl)) (hw _ (List.mem_of_getElem? (i := 124) rfl)) (hw _ (List.mem_of_getElem? (i := 23) rfl)) (hw _ (List.mem_of_getElem? (i := 126) rfl)) e116 (rm22 l Z a0 hw o116 s110 b116 c110 kb116 kb110 (6 : Int32) (6 : Int32) [(91 : Int32), (116 : Int32), (114 : Int32), (117 : Int32), (101 : Int32), (93 : Int32)] [(91 : Int32), (116 : Int32), (114 : Int32), (117 : Int32), (101 : Int32), (93 : Int32)] (1 : Int32) zCS h116 n0 Z117 E_o116 F_value_o116 F_coder_o116 V_b116 E_s110 F_value_s110 F_coder_s110 V_c110 (by decide) (by decide) (Ne.symm ne_s110_o116) S_COMPACT_STRINGS hCS) (notFace_of_selects (args := #[]) (mvT hZ (hw _ (List.mem_of_getElem? (i := 125) rfl)))) (by decide) pd_438 rfl E_o116 (argsL := [(.ref s110)]) (rest := []) rfl rfl rfl (hb hby at_179) (W0 := 0) rfl (by decide) (by decide) (by decide) (by decide) (fun v118 T118 h118 L118 X118 e118 hQ118 => ?_)
      obtain ⟨rfl, N118q, hh118⟩ := hQ118
      obtain rfl := hh118.symm
      have N118 := Fr.app N116 N118q
      show W p e below _ (T118.setTop (mkF m 182 #[.val (.int p0), .val (.int p1), .val (.int (2 : Int32)), .val (.int (1 : Int32)), .val (.ref b102), .val (.ref s110), .val (.ref s112), .val (.ref b102)] [(.int (1 : Int32))]))
      refine W.go (fun _ hr => XS.ifYes X118.here hx rfl (pc0 := 182) (pc' := 187) rfl (hb hby at_182) rfl ((if0 _ _).trans (feq (by decide : ¬ ((1 : Int32) = (0 : Int32)))).2) (by decide) (by decide) hr) ?_
      show W p e below _ (T118.setTop (mkF m 187 #[.val (.int p0), .val (.int p1), .val (.int (2 : Int32)), .val (.int (1 : Int32)), .val (.ref b102), .val (.ref s110), .val (.ref s112), .val (.ref b102)] []))
      refine W.go (fun _ hr => XS.aload X118.here hx rfl (hb hby at_187) rfl rfl hr) ?_
      show W p e below _ (T118.setTop (mkF m 189 #[.val (.int p0), .val (.int p1), .val (.int (2 : Int32)), .val (.int (1 : Int32)), .val (.ref b102), .val (.ref s110), .val (.ref s112), .val (.ref b102)] [(.ref b102)]))
      refine W.go (fun _ hr => XS.iloadN X118.here hx rfl (hb hby at_189) rfl hr) ?_
      show W p e below _ (T118.setTop (mkF m 190 #[.val (.int p0), .val (.int p1), .val (.int (2 : Int32)), .val (.int (1 : Int32)), .val (.ref b102), .val (.ref s110), .val (.ref s112), .val (.ref b102)] [(.int (1 : Int32)), (.ref b102)]))
      refine W.callV X118 hx hZ hown (g := (mkF m 190 #[.val (.int p0), .val (.int p1), .val (.int (2 : Int32)), .val (.int (1 : Int32)), .val (.ref b102), .val (.ref s110), .val (.ref s112), .val (.ref b102)] [(.int (1 : Int32)), (.ref b102)])) (by rw [hml]; rfl) (hw _ (List.mem_of_getElem? (i := 132) rfl)) (hw _ (List.mem_of_getElem? (i := 133) rfl)) (hw _ (List.mem_of_getElem? (i := 135) rfl)) (hw _ (List.mem_of_getElem? (i := 134) rfl)) (hw _ (List.mem_of_getElem? (i := 2) rfl)) (hw _ (List.mem_of_getElem? (i := 136) rfl)) e118 (rm_value1Y l Z a0 hw b102 o104 t104 kt104 [(.int (91 : Int32)), (.int (116 : Int32)), (.int (114 : Int32)), (.int (117 : Int32)), (.int (101 : Int32)), (.int (93 : Int32))] (6 : Int32) (93 : Int32) [(.int (91 : Int32)), (.int (116 : Int32)), (.int (114 : Int32)), (.int (117 : Int32)), (.int (101 : Int32)), (.int (93 : Int32)), (.int (44 : Int32)), (.int (116 : Int32)), (.int (114 : Int32)), (.int (117 : Int32)), (.int (101 : Int32))] (11 : Int32) zCS wSF h116 n0 Z117 E_b102 Fj104 E_o104 Fv114 Fc114 Fn114 V114 S_COMPACT_STRINGS hCS S_SIOOBE_FORMATTER hSF (by decide) g_o104 g_t104 ne_b102_o104 ne_b102_t104 not104 ⟨by decide, by decide, by decide, rfl, by decide, by decide, by decide⟩ rfl (by decide)) (notFace_of_selects (args := #[]) (mvT hZ (hw _ (List.mem_of_getElem? (i := 135) rfl)))) (by decide) pd_439 rfl E_b102 (argsL := [(.int (1 : Int32))]) (rest := []) rfl rfl rfl (hb hby at_190) (W0 := 0) rfl (by decide) (by decide) (by decide) (by decide) (fun v119 T119 h119 L119 X119 e119 hQ119 => ?_)
      obtain ⟨rfl, N119q, K119, Eo119, Fv119, Fc119, Fn119, V119⟩ := hQ119
      have N119 := Fr.app N118 N119q
      have SfKK119 := (sfS Sf_o104 (sfS Sf_t104 sf0))
      have nsK119 := (nsS E_o104.nostat (nsS V114.nostat ns0))
      replace S_COMPACT_STRINGS := Sta.keep S_COMPACT_STRINGS K119 nsK119
      replace S_SIOOBE_FORMATTER := Sta.keep S_SIOOBE_FORMATTER K119 nsK119
      replace E_b102 := E_b102.keep K119
      replace Fj104 := Fj104.keep K119 (ninS ne_b102_o104 (ninS ne_b102_t104 nin0))
      replace E_o104 := E_o104.keep K119
      replace E_s110 := E_s110.keep K119
      replace F_coder_s110 := F_coder_s110.keep K119 (ninS (Ne.symm ne_o104_s110) (ninS (Ne.symm ne_t104_s110) nin0))
      replace F_value_s110 := F_value_s110.keep K119 (ninS (Ne.symm ne_o104_s110) (ninS (Ne.symm ne_t104_s110) nin0))
      replace V_c110 := V_c110.keep K119 (ninS (Ne.symm ne_o104_c110) (ninS (Ne.symm ne_t104_c110) nin0))
      replace E_s112 := E_s112.keep K119
      replace F_coder_s112 := F_coder_s112.keep K119 (ninS (Ne.symm ne_o104_s112) (ninS (Ne.symm ne_t104_s112) nin0))
      replace F_value_s112 := F_value_s112.keep K119 (ninS (Ne.symm ne_o104_s112) (ninS (Ne.symm ne_t104_s112) nin0))
      replace V_c112 := V_c112.keep K119 (ninS (Ne.symm ne_o104_c112) (ninS (Ne.symm ne_t104_c112) nin0))
      replace E_o116 := E_o116.keep K119
      replace F_value_o116 := F_value_o116.keep K119 (ninS (Ne.symm ne_o104_o116) (ninS (Ne.symm ne_t104_o116) nin0))
      replace F_coder_o116 := F_coder_o116.keep K119 (ninS (Ne.symm ne_o104_o116) (ninS (Ne.symm ne_t104_o116) nin0))
      replace E_b116 := E_b116.keep K119
      replace V_b116 := V_b116.keep K119 (ninS (Ne.symm ne_o104_b116) (ninS (Ne.symm ne_t104_b116) nin0))
      have Z120 : n0 ≤ h119.size := Nat.le_trans Z117 K119.1
      replace Sf_b102 := Safe.keep K119 SfKK119 RC.1 Sf_b102
      replace Sf_o104 := Safe.keep K119 SfKK119 RC.1 Sf_o104
      replace Sf_t104 := Safe.keep K119 SfKK119 RC.1 Sf_t104
      replace Sf_o116 := Safe.keep K119 SfKK119 RC.1 Sf_o116
      replace Sf_b116 := Safe.keep K119 SfKK119 RC.1 Sf_b116
      replace RC := RC.trans (CHr.keep K119 SfKK119 RC.1)
      replace hkS := Nat.le_trans hkS K119.1
      show W p e below _ (T119.setTop (mkF m 193 #[.val (.int p0), .val (.int p1), .val (.int (2 : Int32)), .val (.int (1 : Int32)), .val (.ref b102), .val (.ref s110), .val (.ref s112), .val (.ref b102)] [(.ref b102)]))
      refine W.go (fun _ hr => XS.pop X119.here hx rfl (hb hby at_193) rfl rfl hr) ?_
      show W p e below _ (T119.setTop (mkF m 194 #[.val (.int p0), .val (.int p1), .val (.int (2 : Int32)), .val (.int (1 : Int32)), .val (.ref b102), .val (.ref s110), .val (.ref s112), .val (.ref b102)] []))
      refine W.go (fun _ hr => XS.aload X119.here hx rfl (hb hby at_194) rfl rfl hr) ?_
      show W p e below _ (T119.setTop (mkF m 196 #[.val (.int p0), .val (.int p1), .val (.int (2 : Int32)), .val (.int (1 : Int32)), .val (.ref b102), .val (.ref s110), .val (.ref s112), .val (.ref b102)] [(.ref b102)]))
      refine W.callV X119 hx hZ hown (g := (mkF m 196 #[.val (.int p0), .val (.int p1), .val (.int (2 : Int32)), .val (.int (1 : Int32)), .val (.ref b102), .val (.ref s110), .val (.ref s112), .val (.ref b102)] [(.ref b102)])) (by rw [hml]; rfl) (hw _ (List.mem_of_getElem? (i := 69) rfl)) (hw _ (List.mem_of_getElem? (i := 70) rfl)) (hw _ (List.mem_of_getElem? (i := 72) rfl)) (hw _ (List.mem_of_getElem? (i := 71) rfl)) (hw _ (List.mem_of_getElem? (i := 2) rfl)) (hw _ (List.mem_of_getElem? (i := 73) rfl)) e119 (rm11 l Z a0 hw b102 o104 t104 kt104 [(.int (91 : Int32)), (.int (116 : Int32)), (.int (114 : Int32)), (.int (117 : Int32)), (.int (101 : Int32)), (.int (93 : Int32)), (.int (44 : Int32)), (.int (116 : Int32)), (.int (114 : Int32)), (.int (117 : Int32)), (.int (101 : Int32))] (11 : Int32) zCS h119 n0 Z120 E_b102 Fj104 E_o104 Fv119 Fc119 Fn119 V119 S_COMPACT_STRINGS hCS (by decide)) (notFace_of_selects (args := #[]) (mvT hZ (hw _ (List.mem_of_getElem? (i := 72) rfl)))) (by decide) pd_425 rfl E_b102 (argsL := []) (rest := []) rfl rfl rfl (hb hby at_196) (W0 := 0) rfl (by decide) (by decide) (by decide) (by decide) (fun v121 T121 h121 L121 X121 e121 hQ121 => ?_)
      obtain ⟨o121, b121, kb121, rfl, N121q, K121, so121, sb121, nob121, E_o121, F_value_o121, F_coder_o121, E_b121, V_b121⟩ := hQ121
      have N121 := Fr.app N119 N121q
      have ne_b102_o121 : b102 ≠ o121 := Nat.ne_of_lt (Nat.lt_of_lt_of_le E_b102.lt so121)
      have ne_o104_o121 : o104 ≠ o121 := Nat.ne_of_lt (Nat.lt_of_lt_of_le E_o104.lt so121)
      have ne_s110_o121 : s110 ≠ o121 := Nat.ne_of_lt (Nat.lt_of_lt_of_le E_s110.lt so121)
      have ne_c110_o121 : c110 ≠ o121 := Nat.ne_of_lt (Nat.lt_of_lt_of_le V_c110.lt so121)
      have ne_s112_o121 : s112 ≠ o121 := Nat.ne_of_lt (Nat.lt_of_lt_of_le E_s112.lt so121)
      have ne_c112_o121 : c112 ≠ o121 := Nat.ne_of_lt (Nat.lt_of_lt_of_le V_c112.lt so121)
      have ne_o116_o121 : o116 ≠ o121 := Nat.ne_of_lt (Nat.lt_of_lt_of_le E_o116.lt so121)
      have ne_b116_o121 : b116 ≠ o121 := Nat.ne_of_lt (Nat.lt_of_lt_of_le E_b116.lt so121)
      have ne_t104_o121 : t104 ≠ o121 := Nat.ne_of_lt (Nat.lt_of_lt_of_le V119.lt so121)
      have Sf_o121 : Safe Z EL T112.vm h119 o121 := Safe.new so121
      have g_o121 : n0 ≤ o121 := Nat.le_trans Z120 so121
      have ne_b102_b121 : b102 ≠ b121 := Nat.ne_of_lt (Nat.lt_of_lt_of_le E_b102.lt sb121)
      have ne_o104_b121 : o104 ≠ b121 := Nat.ne_of_lt (Nat.lt_of_lt_of_le E_o104.lt sb121)
      have ne_s110_b121 : s110 ≠ b121 := Nat.ne_of_lt (Nat.lt_of_lt_of_le E_s110.lt sb121)
      have ne_c110_b121 : c110 ≠ b121 := Nat.ne_of_lt (Nat.lt_of_lt_of_le V_c110.lt sb121)
      have ne_s112_b121 : s112 ≠ b121 := Nat.ne_of_lt (Nat.lt_of_lt_of_le E_s112.lt sb121)
      have ne_c112_b121 : c112 ≠ b121 := Nat.ne_of_lt (Nat.lt_of_lt_of_le V_c112.lt sb121)
      have ne_o116_b121 : o116 ≠ b121 := Nat.ne_of_lt (Nat.lt_of_lt_of_le E_o116.lt sb121)
      have ne_b116_b121 : b116 ≠ b121 := Nat.ne_of_lt (Nat.lt_of_lt_of_le E_b116.lt sb121)
      have ne_t104_b121 : t104 ≠ b121 := Nat.ne_of_lt (Nat.lt_of_lt_of_le V119.lt sb121)
      have Sf_b121 : Safe Z EL T112.vm h119 b121 := Safe.new sb121
      have g_b121 : n0 ≤ b121 := Nat.le_trans Z120 sb121
      have SfKK121 : ∀ x ∈ ([] : List Addr), Safe Z EL T112.vm h119 x := sf0
      replace S_COMPACT_STRINGS := Sta.keep S_COMPACT_STRINGS K121 ns0
      replace S_SIOOBE_FORMATTER := Sta.keep S_SIOOBE_FORMATTER K121 ns0
      replace E_b102 := E_b102.keep K121
      replace Fj104 := Fj104.keep K121 nin0
      replace E_o104 := E_o104.keep K121
      replace E_s110 := E_s110.keep K121
      replace F_coder_s110 := F_coder_s110.keep K121 nin0
      replace F_value_s110 := F_value_s110.keep K121 nin0
      replace V_c110 := V_c110.keep K121 nin0
      replace E_s112 := E_s112.keep K121
      replace F_coder_s112 := F_coder_s112.keep K121 nin0
      replace F_value_s112 := F_value_s112.keep K121 nin0
      replace V_c112 := V_c112.keep K121 nin0
      replace E_o116 := E_o116.keep K121
      replace F_value_o116 := F_value_o116.keep K121 nin0
      replace F_coder_o116 := F_coder_o116.keep K121 nin0
      replace E_b116 := E_b116.keep K121
      replace V_b116 := V_b116.keep K121 nin0
      replace Fv119 := Fv119.keep K121 nin0
      replace Fc119 := Fc119.keep K121 nin0
      replace Fn119 := Fn119.keep K121 nin0
      replace V119 := V119.keep K121 nin0
      have Z122 : n0 ≤ h121.size := Nat.le_trans Z120 K121.1
      replace Sf_b102 := Safe.keep K121 SfKK121 RC.1 Sf_b102
      replace Sf_o104 := Safe.keep K121 SfKK121 RC.1 Sf_o104
      replace Sf_t104 := Safe.keep K121 SfKK121 RC.1 Sf_t104
      replace Sf_o116 := Safe.keep K121 SfKK121 RC.1 Sf_o116
      replace Sf_b116 := Safe.keep K121 SfKK121 RC.1 Sf_b116
      replace Sf_o121 := Safe.keep K121 SfKK121 RC.1 Sf_o121
      replace Sf_b121 := Safe.keep K121 SfKK121 RC.1 Sf_b121
      replace RC := RC.trans (CHr.keep K121 SfKK121 RC.1)
      replace hkS := Nat.le_trans hkS K121.1
      show W p e below _ (T121.setTop (mkF m 199 #[.val (.int p0), .val (.int p1), .val (.int (2 : Int32)), .val (.int (1 : Int32)), .val (.ref b102), .val (.ref s110), .val (.ref s112), .val (.ref b102)] [(.ref o121)]))
      refine W.go (fun _ hr => XS.aload X121.here hx rfl (hb hby at_199) rfl rfl hr) ?_
      show W p e below _ (T121.setTop (mkF m 201 #[.val (.int p0), .val (.int p1), .val (.int (2 : Int32)), .val (.int (1 : Int32)), .val (.ref b102), .val (.ref s110), .val (.ref s112), .val (.ref b102)] [(.ref s112), (.ref o121)]))
      refine W.callV X121 hx hZ hown (g := (mkF m 201 #[.val (.int p0), .val (.int p1), .val (.int (2 : Int32)), .val (.int (1 : Int32)), .val (.ref b102), .val (.ref s110), .val (.ref s112), .val (.ref b102)] [(.ref s112), (.ref o121)])) (by rw [hml]; rfl) (hw _ (List.mem_of_getElem? (i := 122) rfl)) (hw _ (List.mem_of_getElem? (i := 123) rfl)) (hw _ (List.mem_of_getElem? (i := 125) rfl)) (hw _ (List.mem_of_getElem? (i := 124) rfl)) (hw _ (List.mem_of_getElem? (i := 23) rfl)) (hw _ (List.mem_of_getElem? (i := 126) rfl)) e121 (rm22 l Z a0 hw o121 s112 b121 c112 kb121 kb112 (11 : Int32) (11 : Int32) [(91 : Int32), (116 : Int32), (114 : Int32), (117 : Int32), (101 : Int32), (93 : Int32), (44 : Int32), (116 : Int32), (114 : Int32), (117 : Int32), (101 : Int32)] [(91 : Int32), (116 : Int32), (114 : Int32), (117 : Int32), (101 : Int32), (93 : Int32), (44 : Int32), (116 : Int32), (114 : Int32), (117 : Int32), (101 : Int32)] (1 : Int32) zCS h121 n0 Z122 E_o121 F_value_o121 F_coder_o121 V_b121 E_s112 F_value_s112 F_coder_s112 V_c112 (by decide) (by decide) (Ne.symm ne_s112_o121) S_COMPACT_STRINGS hCS) (notFace_of_selects (args := #[]) (mvT hZ (hw _ (List.mem_of_getElem? (i := 125) rfl)))) (by decide) pd_438 rfl E_o121 (argsL := [(.ref s112)]) (rest := []) rfl rfl rfl (hb hby at_201) (W0 := 0) rfl (by decide) (by decide) (by decide) (by decide) (fun v123 T123 h123 L123 X123 e123 hQ123 => ?_)
      obtain ⟨rfl, N123q, hh123⟩ := hQ123
      obtain rfl := hh123.symm
      have N123 := Fr.app N121 N123q
      show W p e below _ (T123.setTop (mkF m 204 #[.val (.int p0), .val (.int p1), .val (.int (2 : Int32)), .val (.int (1 : Int32)), .val (.ref b102), .val (.ref s110), .val (.ref s112), .val (.ref b102)] [(.int (1 : Int32))]))
      exact W.retBW X123 hx hlk (t := .boolean) hret (by simp) (hb hby at_204) hS hkS hZ own_EW' RC (by decide) (by decide) e123 ⟨rfl, N123⟩
  · rw [q]
    show W p e below _ (s₁.setTop (mkF m 3 #[.val (.int p0), .val (.int p1), .unset, .unset, .unset, .unset, .unset, .unset] [(.int (3 : Int32))]))
    refine W.go (fun _ hr => XS.istoreN X0.here hx rfl (hb hby at_3) rfl (l' := #[.val (.int p0), .val (.int p1), .val (.int (3 : Int32)), .unset, .unset, .unset, .unset, .unset]) rfl hr) ?_
    show W p e below _ (s₁.setTop (mkF m 4 #[.val (.int p0), .val (.int p1), .val (.int (3 : Int32)), .unset, .unset, .unset, .unset, .unset] []))
    refine W.go (fun _ hr => XS.iloadN X0.here hx rfl (hb hby at_4) rfl hr) ?_
    show W p e below _ (s₁.setTop (mkF m 5 #[.val (.int p0), .val (.int p1), .val (.int (3 : Int32)), .unset, .unset, .unset, .unset, .unset] [(.int p1)]))
    refine W.go (fun _ hr => XS.iconst X0.here hx rfl (hb hby at_5) hr) ?_
    show W p e below _ (s₁.setTop (mkF m 6 #[.val (.int p0), .val (.int p1), .val (.int (3 : Int32)), .unset, .unset, .unset, .unset, .unset] [(.int (1 : Int32)), (.int p1)]))
    refine W.go (fun _ hr => XS.iand X0.here hx rfl (hb hby at_6) rfl hr) ?_
    show W p e below _ (s₁.setTop (mkF m 7 #[.val (.int p0), .val (.int p1), .val (.int (3 : Int32)), .unset, .unset, .unset, .unset, .unset] [(.int (p1 &&& (1 : Int32)))]))
    by_cases hc7_124 : (p1 &&& (1 : Int32)) = (0 : Int32)
    · refine W.go (fun _ hr => XS.ifYes X0.here hx rfl (pc0 := 7) (pc' := 14) rfl (hb hby at_7) rfl ((if0 _ _).trans (teq hc7_124).1) (by decide) (by decide) hr) ?_
      show W p e below _ (s₁.setTop (mkF m 14 #[.val (.int p0), .val (.int p1), .val (.int (3 : Int32)), .unset, .unset, .unset, .unset, .unset] []))
      refine W.go (fun _ hr => XS.iconst X0.here hx rfl (hb hby at_14) hr) ?_
      show W p e below _ (s₁.setTop (mkF m 15 #[.val (.int p0), .val (.int p1), .val (.int (3 : Int32)), .unset, .unset, .unset, .unset, .unset] [(.int (0 : Int32))]))
      refine W.go (fun _ hr => XS.istoreN X0.here hx rfl (hb hby at_15) rfl (l' := #[.val (.int p0), .val (.int p1), .val (.int (3 : Int32)), .val (.int (0 : Int32)), .unset, .unset, .unset, .unset]) rfl hr) ?_
      show W p e below _ (s₁.setTop (mkF m 16 #[.val (.int p0), .val (.int p1), .val (.int (3 : Int32)), .val (.int (0 : Int32)), .unset, .unset, .unset, .unset] []))
      obtain ⟨T125, h125, X125, e125, E125, E_b125, D125, U125, st125⟩ := newO X0 hx hZ hown (hw _ (List.mem_of_getElem? (i := 0) rfl)) (hw _ (List.mem_of_getElem? (i := 1) rfl)) (hw _ (List.mem_of_getElem? (i := 2) rfl)) e0 (g := (mkF m 16 #[.val (.int p0), .val (.int p1), .val (.int (3 : Int32)), .val (.int (0 : Int32)), .unset, .unset, .unset, .unset] [])) rfl (hb hby at_16) (by decide) (by decide)
      obtain ⟨b125, g125⟩ : ∃ z, z = h0.size := ⟨_, rfl⟩
      rw [← g125] at E_b125 D125 U125 st125
      have Sf_b125 : Safe Z EL vm0 h0 b125 := Safe.new (Nat.le_of_eq g125.symm)
      have g_b125 : n0 ≤ b125 := Nat.le_trans Z0 (Nat.le_of_eq g125.symm)
      replace S_COMPACT_STRINGS := Sta.ext E125 S_COMPACT_STRINGS
      replace S_SIOOBE_FORMATTER := Sta.ext E125 S_SIOOBE_FORMATTER
      have Z126 : n0 ≤ h125.size := Nat.le_trans Z0 E125.1
      replace Sf_b125 := Safe.ext E125 RC.1 Sf_b125
      replace RC := RC.trans (CHr.ext E125 RC.1)
      replace hkS := Nat.le_trans hkS E125.1
      have F_json_b125 : Fld Z h125 b125 "org/allonym/cli/JsonWriter" "json" "Ljava/lang/StringBuilder;" .null := D125 (Or.inr (hw _ (List.mem_of_getElem? (i := 30) rfl))) (ty := (.object "java/lang/StringBuilder")) (by decide)
      refine W.go st125 ?_
      show W p e below _ (T125.setTop (mkF m 19 #[.val (.int p0), .val (.int p1), .val (.int (3 : Int32)), .val (.int (0 : Int32)), .unset, .unset, .unset, .unset] [(.ref b125)]))
      refine W.go (fun _ hr => XS.dup X125.here hx rfl (hb hby at_19) rfl rfl hr) ?_
      show W p e below _ (T125.setTop (mkF m 20 #[.val (.int p0), .val (.int p1), .val (.int (3 : Int32)), .val (.int (0 : Int32)), .unset, .unset, .unset, .unset] [(.ref b125), (.ref b125)]))
      refine W.callI X125 hx hZ hown (g := (mkF m 20 #[.val (.int p0), .val (.int p1), .val (.int (3 : Int32)), .val (.int (0 : Int32)), .unset, .unset, .unset, .unset] [(.ref b125), (.ref b125)])) (by rw [hml]; rfl) (hw _ (List.mem_of_getElem? (i := 3) rfl)) (hw _ (List.mem_of_getElem? (i := 4) rfl)) (hw _ (List.mem_of_getElem? (i := 2) rfl)) (hw _ (List.mem_of_getElem? (i := 5) rfl)) e125 (rm1 l Z a0 hw b125 zCS h125 n0 Z126 E_b125 F_json_b125 g_b125 S_COMPACT_STRINGS hCS) rfl (by decide) pd_407 rfl (b := b125) (argsL := []) (rest := [(.ref b125)]) rfl rfl rfl (hb hby at_20) (W0 := 1) rfl (by decide) (by decide) (by decide) (by decide) (fun v127 T127 h127 L127 X127 e127 hQ127 => ?_)
      obtain ⟨rfl, N127q, K127, Ee127, o127, t127, kt127, so127, st127, not127, Fj127, E_o127, F_value_o127, F_coder_o127, F_count_o127, V_t127⟩ := hQ127
      have N127 := Fr.app N0 N127q
      have ne_b125_o127 : b125 ≠ o127 := Nat.ne_of_lt (Nat.lt_of_lt_of_le E_b125.lt so127)
      have Sf_o127 : Safe Z EL vm0 h125 o127 := Safe.new so127
      have g_o127 : n0 ≤ o127 := Nat.le_trans Z126 so127
      have ne_b125_t127 : b125 ≠ t127 := Nat.ne_of_lt (Nat.lt_of_lt_of_le E_b125.lt st127)
      have Sf_t127 : Safe Z EL vm0 h125 t127 := Safe.new st127
      have g_t127 : n0 ≤ t127 := Nat.le_trans Z126 st127
      have SfKK127 := (sfS Sf_b125 sf0)
      have nsK127 := (nsS E_b125.nostat ns0)
      replace S_COMPACT_STRINGS := Sta.keep S_COMPACT_STRINGS K127 nsK127
      replace S_SIOOBE_FORMATTER := Sta.keep S_SIOOBE_FORMATTER K127 nsK127
      replace E_b125 := E_b125.keep K127
      have Z128 : n0 ≤ h127.size := Nat.le_trans Z126 K127.1
      replace Sf_b125 := Safe.keep K127 SfKK127 RC.1 Sf_b125
      replace Sf_o127 := Safe.keep K127 SfKK127 RC.1 Sf_o127
      replace Sf_t127 := Safe.keep K127 SfKK127 RC.1 Sf_t127
      replace RC := RC.trans (CHr.keep K127 SfKK127 RC.1)
      replace hkS := Nat.le_trans hkS K127.1
      show W p e below _ (T127.setTop (mkF m 23 #[.val (.int p0), .val (.int p1), .val (.int (3 : Int32)), .val (.int (0 : Int32)), .unset, .unset, .unset, .unset] [(.ref b125)]))
      refine W.go (fun _ hr => XS.astore X127.here hx rfl (hb hby at_23) rfl rfl (l' := #[.val (.int p0), .val (.int p1), .val (.int (3 : Int32)), .val (.int (0 : Int32)), .val (.ref b125), .unset, .unset, .unset]) rfl hr) ?_
      show W p e below _ (T127.setTop (mkF m 25 #[.val (.int p0), .val (.int p1), .val (.int (3 : Int32)), .val (.int (0 : Int32)), .val (.ref b125), .unset, .unset, .unset] []))
      refine W.go (fun _ hr => XS.iloadN X127.here hx rfl (hb hby at_25) rfl hr) ?_
      show W p e below _ (T127.setTop (mkF m 26 #[.val (.int p0), .val (.int p1), .val (.int (3 : Int32)), .val (.int (0 : Int32)), .val (.ref b125), .unset, .unset, .unset] [(.int (3 : Int32))]))
      refine W.go (fun _ hr => XS.ifYes X127.here hx rfl (pc0 := 26) (pc' := 49) rfl (hb hby at_26) rfl ((if0 _ _).trans (feq (by decide : ¬ ((3 : Int32) = (0 : Int32)))).2) (by decide) (by decide) hr) ?_
      show W p e below _ (T127.setTop (mkF m 49 #[.val (.int p0), .val (.int p1), .val (.int (3 : Int32)), .val (.int (0 : Int32)), .val (.ref b125), .unset, .unset, .unset] []))
      refine W.go (fun _ hr => XS.iloadN X127.here hx rfl (hb hby at_49) rfl hr) ?_
      show W p e below _ (T127.setTop (mkF m 50 #[.val (.int p0), .val (.int p1), .val (.int (3 : Int32)), .val (.int (0 : Int32)), .val (.ref b125), .unset, .unset, .unset] [(.int (3 : Int32))]))
      refine W.go (fun _ hr => XS.iconst X127.here hx rfl (hb hby at_50) hr) ?_
      show W p e below _ (T127.setTop (mkF m 51 #[.val (.int p0), .val (.int p1), .val (.int (3 : Int32)), .val (.int (0 : Int32)), .val (.ref b125), .unset, .unset, .unset] [(.int (1 : Int32)), (.int (3 : Int32))]))
      refine W.go (fun _ hr => XS.icmpYes X127.here hx rfl (pc0 := 51) (pc' := 80) rfl (hb hby at_51) rfl (feq (by decide : ¬ ((3 : Int32) = (1 : Int32)))).2 (by decide) (by decide) hr) ?_
      show W p e below _ (T127.setTop (mkF m 80 #[.val (.int p0), .val (.int p1), .val (.int (3 : Int32)), .val (.int (0 : Int32)), .val (.ref b125), .unset, .unset, .unset] []))
      refine W.go (fun _ hr => XS.iloadN X127.here hx rfl (hb hby at_80) rfl hr) ?_
      show W p e below _ (T127.setTop (mkF m 81 #[.val (.int p0), .val (.int p1), .val (.int (3 : Int32)), .val (.int (0 : Int32)), .val (.ref b125), .unset, .unset, .unset] [(.int (3 : Int32))]))
      refine W.go (fun _ hr => XS.iconst X127.here hx rfl (hb hby at_81) hr) ?_
      show W p e below _ (T127.setTop (mkF m 82 #[.val (.int p0), .val (.int p1), .val (.int (3 : Int32)), .val (.int (0 : Int32)), .val (.ref b125), .unset, .unset, .unset] [(.int (2 : Int32)), (.int (3 : Int32))]))
      refine W.go (fun _ hr => XS.icmpYes X127.here hx rfl (pc0 := 82) (pc' := 127) rfl (hb hby at_82) rfl (feq (by decide : ¬ ((3 : Int32) = (2 : Int32)))).2 (by decide) (by decide) hr) ?_
      show W p e below _ (T127.setTop (mkF m 127 #[.val (.int p0), .val (.int p1), .val (.int (3 : Int32)), .val (.int (0 : Int32)), .val (.ref b125), .unset, .unset, .unset] []))
      refine W.go (fun _ hr => XS.aload X127.here hx rfl (hb hby at_127) rfl rfl hr) ?_
      show W p e below _ (T127.setTop (mkF m 129 #[.val (.int p0), .val (.int p1), .val (.int (3 : Int32)), .val (.int (0 : Int32)), .val (.ref b125), .unset, .unset, .unset] [(.ref b125)]))
      refine W.callV X127 hx hZ hown (g := (mkF m 129 #[.val (.int p0), .val (.int p1), .val (.int (3 : Int32)), .val (.int (0 : Int32)), .val (.ref b125), .unset, .unset, .unset] [(.ref b125)])) (by rw [hml]; rfl) (hw _ (List.mem_of_getElem? (i := 186) rfl)) (hw _ (List.mem_of_getElem? (i := 187) rfl)) (hw _ (List.mem_of_getElem? (i := 189) rfl)) (hw _ (List.mem_of_getElem? (i := 188) rfl)) (hw _ (List.mem_of_getElem? (i := 2) rfl)) (hw _ (List.mem_of_getElem? (i := 190) rfl)) e127 (rm_beginArrayN l Z a0 hw b125 o127 t127 kt127 [] (0 : Int32) [(.int (91 : Int32))] (1 : Int32) zCS wSF h127 n0 Z128 E_b125 Fj127 E_o127 F_value_o127 F_coder_o127 F_count_o127 V_t127 S_COMPACT_STRINGS hCS S_SIOOBE_FORMATTER hSF (by decide) g_o127 g_t127 ne_b125_o127 ne_b125_t127 not127 (Or.inl rfl) rfl (by decide)) (notFace_of_selects (args := #[]) (mvT hZ (hw _ (List.mem_of_getElem? (i := 189) rfl)))) (by decide) pd_437 rfl E_b125 (argsL := []) (rest := []) rfl rfl rfl (hb hby at_129) (W0 := 0) rfl (by decide) (by decide) (by decide) (by decide) (fun v129 T129 h129 L129 X129 e129 hQ129 => ?_)
      obtain ⟨rfl, N129q, K129, Eo129, Fv129, Fc129, Fn129, V129⟩ := hQ129
      have N129 := Fr.app N127 N129q
      have SfKK129 := (sfS Sf_o127 (sfS Sf_t127 sf0))
      have nsK129 := (nsS E_o127.nostat (nsS V_t127.nostat ns0))
      replace S_COMPACT_STRINGS := Sta.keep S_COMPACT_STRINGS K129 nsK129
      replace S_SIOOBE_FORMATTER := Sta.keep S_SIOOBE_FORMATTER K129 nsK129
      replace E_b125 := E_b125.keep K129
      replace Fj127 := Fj127.keep K129 (ninS ne_b125_o127 (ninS ne_b125_t127 nin0))
      replace E_o127 := E_o127.keep K129
      have Z130 : n0 ≤ h129.size := Nat.le_trans Z128 K129.1
      replace Sf_b125 := Safe.keep K129 SfKK129 RC.1 Sf_b125
      replace Sf_o127 := Safe.keep K129 SfKK129 RC.1 Sf_o127
      replace Sf_t127 := Safe.keep K129 SfKK129 RC.1 Sf_t127
      replace RC := RC.trans (CHr.keep K129 SfKK129 RC.1)
      replace hkS := Nat.le_trans hkS K129.1
      show W p e below _ (T129.setTop (mkF m 132 #[.val (.int p0), .val (.int p1), .val (.int (3 : Int32)), .val (.int (0 : Int32)), .val (.ref b125), .unset, .unset, .unset] [(.ref b125)]))
      refine W.go (fun _ hr => XS.pop X129.here hx rfl (hb hby at_132) rfl rfl hr) ?_
      show W p e below _ (T129.setTop (mkF m 133 #[.val (.int p0), .val (.int p1), .val (.int (3 : Int32)), .val (.int (0 : Int32)), .val (.ref b125), .unset, .unset, .unset] []))
      refine W.go (fun _ hr => XS.aload X129.here hx rfl (hb hby at_133) rfl rfl hr) ?_
      show W p e below _ (T129.setTop (mkF m 135 #[.val (.int p0), .val (.int p1), .val (.int (3 : Int32)), .val (.int (0 : Int32)), .val (.ref b125), .unset, .unset, .unset] [(.ref b125)]))
      refine W.callV X129 hx hZ hown (g := (mkF m 135 #[.val (.int p0), .val (.int p1), .val (.int (3 : Int32)), .val (.int (0 : Int32)), .val (.ref b125), .unset, .unset, .unset] [(.ref b125)])) (by rw [hml]; rfl) (hw _ (List.mem_of_getElem? (i := 186) rfl)) (hw _ (List.mem_of_getElem? (i := 187) rfl)) (hw _ (List.mem_of_getElem? (i := 189) rfl)) (hw _ (List.mem_of_getElem? (i := 188) rfl)) (hw _ (List.mem_of_getElem? (i := 2) rfl)) (hw _ (List.mem_of_getElem? (i := 190) rfl)) e129 (rm_beginArrayN l Z a0 hw b125 o127 t127 kt127 [(.int (91 : Int32))] (1 : Int32) [(.int (91 : Int32)), (.int (91 : Int32))] (2 : Int32) zCS wSF h129 n0 Z130 E_b125 Fj127 E_o127 Fv129 Fc129 Fn129 V129 S_COMPACT_STRINGS hCS S_SIOOBE_FORMATTER hSF (by decide) g_o127 g_t127 ne_b125_o127 ne_b125_t127 not127 (Or.inr ⟨(91 : Int32), by decide, by decide, rfl, by decide⟩) rfl (by decide)) (notFace_of_selects (args := #[]) (mvT hZ (hw _ (List.mem_of_getElem? (i := 189) rfl)))) (by decide) pd_437 rfl E_b125 (argsL := []) (rest := []) rfl rfl rfl (hb hby at_135) (W0 := 0) rfl (by decide) (by decide) (by decide) (by decide) (fun v131 T131 h131 L131 X131 e131 hQ131 => ?_)
      obtain ⟨rfl, N131q, K131, Eo131, Fv131, Fc131, Fn131, V131⟩ := hQ131
      have N131 := Fr.app N129 N131q
      have SfKK131 := (sfS Sf_o127 (sfS Sf_t127 sf0))
      have nsK131 := (nsS E_o127.nostat (nsS V129.nostat ns0))
      replace S_COMPACT_STRINGS := Sta.keep S_COMPACT_STRINGS K131 nsK131
      replace S_SIOOBE_FORMATTER := Sta.keep S_SIOOBE_FORMATTER K131 nsK131
      replace E_b125 := E_b125.keep K131
      replace Fj127 := Fj127.keep K131 (ninS ne_b125_o127 (ninS ne_b125_t127 nin0))
      replace E_o127 := E_o127.keep K131
      have Z132 : n0 ≤ h131.size := Nat.le_trans Z130 K131.1
      replace Sf_b125 := Safe.keep K131 SfKK131 RC.1 Sf_b125
      replace Sf_o127 := Safe.keep K131 SfKK131 RC.1 Sf_o127
      replace Sf_t127 := Safe.keep K131 SfKK131 RC.1 Sf_t127
      replace RC := RC.trans (CHr.keep K131 SfKK131 RC.1)
      replace hkS := Nat.le_trans hkS K131.1
      show W p e below _ (T131.setTop (mkF m 138 #[.val (.int p0), .val (.int p1), .val (.int (3 : Int32)), .val (.int (0 : Int32)), .val (.ref b125), .unset, .unset, .unset] [(.ref b125)]))
      refine W.go (fun _ hr => XS.pop X131.here hx rfl (hb hby at_138) rfl rfl hr) ?_
      show W p e below _ (T131.setTop (mkF m 139 #[.val (.int p0), .val (.int p1), .val (.int (3 : Int32)), .val (.int (0 : Int32)), .val (.ref b125), .unset, .unset, .unset] []))
      have lt133_b125 : b125 < h131.size := E_b125.lt
      have lt133_o127 : o127 < h131.size := E_o127.lt
      have lt133_t127 : t127 < h131.size := V131.lt
      obtain ⟨s133, T133, h133, kk133, c133, kb133, X133, e133, E133, hS, hkS, hZ, hown, E_s133, F_coder_s133, F_value_s133, V_c133, la133, lb133, hC133, hL133, hne133, st133⟩ := ldcCH X131 hx hZ hown (hw _ (List.mem_of_getElem? (i := 198) rfl)) own_sa' e131 hS hkS own_EW' (List.mem_of_getElem? (i := 10) rfl) RC.1 (vs := [(.int (91 : Int32)), (.int (91 : Int32)), (.int (93 : Int32))]) (z := (3 : Int32)) (by decide) (by decide) (by decide) (g := (mkF m 139 #[.val (.int p0), .val (.int p1), .val (.int (3 : Int32)), .val (.int (0 : Int32)), .val (.ref b125), .unset, .unset, .unset] [])) rfl (hb hby at_139) (n := 12) (by decide) (by decide) (by decide) (by decide)
      replace S_COMPACT_STRINGS := Sta.ext E133 S_COMPACT_STRINGS
      replace S_SIOOBE_FORMATTER := Sta.ext E133 S_SIOOBE_FORMATTER
      replace E_b125 := E_b125.ext E133
      replace Fj127 := Fj127.ext E133
      replace E_o127 := E_o127.ext E133
      replace Fv131 := Fv131.ext E133
      replace Fc131 := Fc131.ext E133
      replace Fn131 := Fn131.ext E133
      replace V131 := V131.ext E133
      have Z134 : n0 ≤ h133.size := Nat.le_trans Z132 E133.1
      replace Sf_b125 := hC133.safe lt133_b125 Sf_b125
      replace Sf_o127 := hC133.safe lt133_o127 Sf_o127
      replace Sf_t127 := hC133.safe lt133_t127 Sf_t127
      replace RC := RC.trans hC133
      have ne_b125_s133 := (hne133 b125 Sf_b125).1
      have ne_b125_c133 := (hne133 b125 Sf_b125).2
      have ne_o127_s133 := (hne133 o127 Sf_o127).1
      have ne_o127_c133 := (hne133 o127 Sf_o127).2
      have ne_t127_s133 := (hne133 t127 Sf_t127).1
      have ne_t127_c133 := (hne133 t127 Sf_t127).2
      refine W.go st133 ?_
      show W p e below _ (T133.setTop (mkF m 141 #[.val (.int p0), .val (.int p1), .val (.int (3 : Int32)), .val (.int (0 : Int32)), .val (.ref b125), .unset, .unset, .unset] [(.ref s133)]))
      refine W.go (fun _ hr => XS.astore X133.here hx rfl (hb hby at_141) rfl rfl (l' := #[.val (.int p0), .val (.int p1), .val (.int (3 : Int32)), .val (.int (0 : Int32)), .val (.ref b125), .val (.ref s133), .unset, .unset]) rfl hr) ?_
      show W p e below _ (T133.setTop (mkF m 143 #[.val (.int p0), .val (.int p1), .val (.int (3 : Int32)), .val (.int (0 : Int32)), .val (.ref b125), .val (.ref s133), .unset, .unset] []))
      refine W.go (fun _ hr => XS.iloadN X133.here hx rfl (hb hby at_143) rfl hr) ?_
      show W p e below _ (T133.setTop (mkF m 144 #[.val (.int p0), .val (.int p1), .val (.int (3 : Int32)), .val (.int (0 : Int32)), .val (.ref b125), .val (.ref s133), .unset, .unset] [(.int (0 : Int32))]))
      refine W.go (fun _ hr => XS.ifYes X133.here hx rfl (pc0 := 144) (pc' := 152) rfl (hb hby at_144) rfl ((if0 _ _).trans (teq (by decide : ((0 : Int32) = (0 : Int32)))).1) (by decide) (by decide) hr) ?_
      show W p e below _ (T133.setTop (mkF m 152 #[.val (.int p0), .val (.int p1), .val (.int (3 : Int32)), .val (.int (0 : Int32)), .val (.ref b125), .val (.ref s133), .unset, .unset] []))
      have lt135_b125 : b125 < h133.size := E_b125.lt
      have lt135_o127 : o127 < h133.size := E_o127.lt
      have lt135_t127 : t127 < h133.size := V131.lt
      obtain ⟨s135, T135, h135, kk135, c135, kb135, X135, e135, E135, hS, hkS, hZ, hown, E_s135, F_coder_s135, F_value_s135, V_c135, la135, lb135, hC135, hL135, hne135, st135⟩ := ldcCH X133 hx hZ hown (hw _ (List.mem_of_getElem? (i := 199) rfl)) own_sa' e133 hS hkS own_EW' (List.mem_of_getElem? (i := 12) rfl) RC.1 (vs := [(.int (91 : Int32)), (.int (91 : Int32)), (.int (93 : Int32)), (.int (44 : Int32)), (.int (102 : Int32)), (.int (97 : Int32)), (.int (108 : Int32)), (.int (115 : Int32)), (.int (101 : Int32))]) (z := (9 : Int32)) (by decide) (by decide) (by decide) (g := (mkF m 152 #[.val (.int p0), .val (.int p1), .val (.int (3 : Int32)), .val (.int (0 : Int32)), .val (.ref b125), .val (.ref s133), .unset, .unset] [])) rfl (hb hby at_152) (n := 36) (by decide) (by decide) (by decide) (by decide)
      replace S_COMPACT_STRINGS := Sta.ext E135 S_COMPACT_STRINGS
      replace S_SIOOBE_FORMATTER := Sta.ext E135 S_SIOOBE_FORMATTER
      replace E_b125 := E_b125.ext E135
      replace Fj127 := Fj127.ext E135
      replace E_o127 := E_o127.ext E135
      replace Fv131 := Fv131.ext E135
      replace Fc131 := Fc131.ext E135
      replace Fn131 := Fn131.ext E135
      replace V131 := V131.ext E135
      replace E_s133 := E_s133.ext E135
      replace F_coder_s133 := F_coder_s133.ext E135
      replace F_value_s133 := F_value_s133.ext E135
      replace V_c133 := V_c133.ext E135
      have Z136 : n0 ≤ h135.size := Nat.le_trans Z134 E135.1
      replace Sf_b125 := hC135.safe lt135_b125 Sf_b125
      replace Sf_o127 := hC135.safe lt135_o127 Sf_o127
      replace Sf_t127 := hC135.safe lt135_t127 Sf_t127
      replace RC := RC.trans hC135
      have ne_b125_s135 := (hne135 b125 Sf_b125).1
      have ne_b125_c135 := (hne135 b125 Sf_b125).2
      have ne_o127_s135 := (hne135 o127 Sf_o127).1
      have ne_o127_c135 := (hne135 o127 Sf_o127).2
      have ne_t127_s135 := (hne135 t127 Sf_t127).1
      have ne_t127_c135 := (hne135 t127 Sf_t127).2
      refine W.go st135 ?_
      show W p e below _ (T135.setTop (mkF m 154 #[.val (.int p0), .val (.int p1), .val (.int (3 : Int32)), .val (.int (0 : Int32)), .val (.ref b125), .val (.ref s133), .unset, .unset] [(.ref s135)]))
      refine W.go (fun _ hr => XS.astore X135.here hx rfl (hb hby at_154) rfl rfl (l' := #[.val (.int p0), .val (.int p1), .val (.int (3 : Int32)), .val (.int (0 : Int32)), .val (.ref b125), .val (.ref s133), .val (.ref s135), .unset]) rfl hr) ?_
      show W p e below _ (T135.setTop (mkF m 156 #[.val (.int p0), .val (.int p1), .val (.int (3 : Int32)), .val (.int (0 : Int32)), .val (.ref b125), .val (.ref s133), .val (.ref s135), .unset] []))
      refine W.go (fun _ hr => XS.aload X135.here hx rfl (hb hby at_156) rfl rfl hr) ?_
      show W p e below _ (T135.setTop (mkF m 158 #[.val (.int p0), .val (.int p1), .val (.int (3 : Int32)), .val (.int (0 : Int32)), .val (.ref b125), .val (.ref s133), .val (.ref s135), .unset] [(.ref b125)]))
      refine W.callV X135 hx hZ hown (g := (mkF m 158 #[.val (.int p0), .val (.int p1), .val (.int (3 : Int32)), .val (.int (0 : Int32)), .val (.ref b125), .val (.ref s133), .val (.ref s135), .unset] [(.ref b125)])) (by rw [hml]; rfl) (hw _ (List.mem_of_getElem? (i := 38) rfl)) (hw _ (List.mem_of_getElem? (i := 39) rfl)) (hw _ (List.mem_of_getElem? (i := 41) rfl)) (hw _ (List.mem_of_getElem? (i := 40) rfl)) (hw _ (List.mem_of_getElem? (i := 2) rfl)) (hw _ (List.mem_of_getElem? (i := 42) rfl)) e135 (rm_endArray l Z a0 hw b125 o127 t127 kt127 [(.int (91 : Int32)), (.int (91 : Int32))] (2 : Int32) [(.int (91 : Int32)), (.int (91 : Int32)), (.int (93 : Int32))] (3 : Int32) zCS wSF h135 n0 Z136 E_b125 Fj127 E_o127 Fv131 Fc131 Fn131 V131 S_COMPACT_STRINGS hCS S_SIOOBE_FORMATTER hSF (by decide) g_o127 g_t127 ne_b125_o127 ne_b125_t127 not127  rfl (by decide)) (notFace_of_selects (args := #[]) (mvT hZ (hw _ (List.mem_of_getElem? (i := 41) rfl)))) (by decide) pd_437 rfl E_b125 (argsL := []) (rest := []) rfl rfl rfl (hb hby at_158) (W0 := 0) rfl (by decide) (by decide) (by decide) (by decide) (fun v137 T137 h137 L137 X137 e137 hQ137 => ?_)
      obtain ⟨rfl, N137q, K137, Eo137, Fv137, Fc137, Fn137, V137⟩ := hQ137
      have N137 := Fr.app N131 N137q
      have SfKK137 := (sfS Sf_o127 (sfS Sf_t127 sf0))
      have nsK137 := (nsS E_o127.nostat (nsS V131.nostat ns0))
      replace S_COMPACT_STRINGS := Sta.keep S_COMPACT_STRINGS K137 nsK137
      replace S_SIOOBE_FORMATTER := Sta.keep S_SIOOBE_FORMATTER K137 nsK137
      replace E_b125 := E_b125.keep K137
      replace Fj127 := Fj127.keep K137 (ninS ne_b125_o127 (ninS ne_b125_t127 nin0))
      replace E_o127 := E_o127.keep K137
      replace E_s133 := E_s133.keep K137
      replace F_coder_s133 := F_coder_s133.keep K137 (ninS (Ne.symm ne_o127_s133) (ninS (Ne.symm ne_t127_s133) nin0))
      replace F_value_s133 := F_value_s133.keep K137 (ninS (Ne.symm ne_o127_s133) (ninS (Ne.symm ne_t127_s133) nin0))
      replace V_c133 := V_c133.keep K137 (ninS (Ne.symm ne_o127_c133) (ninS (Ne.symm ne_t127_c133) nin0))
      replace E_s135 := E_s135.keep K137
      replace F_coder_s135 := F_coder_s135.keep K137 (ninS (Ne.symm ne_o127_s135) (ninS (Ne.symm ne_t127_s135) nin0))
      replace F_value_s135 := F_value_s135.keep K137 (ninS (Ne.symm ne_o127_s135) (ninS (Ne.symm ne_t127_s135) nin0))
      replace V_c135 := V_c135.keep K137 (ninS (Ne.symm ne_o127_c135) (ninS (Ne.symm ne_t127_c135) nin0))
      have Z138 : n0 ≤ h137.size := Nat.le_trans Z136 K137.1
      replace Sf_b125 := Safe.keep K137 SfKK137 RC.1 Sf_b125
      replace Sf_o127 := Safe.keep K137 SfKK137 RC.1 Sf_o127
      replace Sf_t127 := Safe.keep K137 SfKK137 RC.1 Sf_t127
      replace RC := RC.trans (CHr.keep K137 SfKK137 RC.1)
      replace hkS := Nat.le_trans hkS K137.1
      show W p e below _ (T137.setTop (mkF m 161 #[.val (.int p0), .val (.int p1), .val (.int (3 : Int32)), .val (.int (0 : Int32)), .val (.ref b125), .val (.ref s133), .val (.ref s135), .unset] [(.ref b125)]))
      refine W.go (fun _ hr => XS.astore X137.here hx rfl (hb hby at_161) rfl rfl (l' := #[.val (.int p0), .val (.int p1), .val (.int (3 : Int32)), .val (.int (0 : Int32)), .val (.ref b125), .val (.ref s133), .val (.ref s135), .val (.ref b125)]) rfl hr) ?_
      show W p e below _ (T137.setTop (mkF m 163 #[.val (.int p0), .val (.int p1), .val (.int (3 : Int32)), .val (.int (0 : Int32)), .val (.ref b125), .val (.ref s133), .val (.ref s135), .val (.ref b125)] []))
      refine W.go (fun _ hr => XS.aload X137.here hx rfl (hb hby at_163) rfl rfl hr) ?_
      show W p e below _ (T137.setTop (mkF m 165 #[.val (.int p0), .val (.int p1), .val (.int (3 : Int32)), .val (.int (0 : Int32)), .val (.ref b125), .val (.ref s133), .val (.ref s135), .val (.ref b125)] [(.ref b125)]))
      refine W.go (fun _ hr => XS.aload X137.here hx rfl (hb hby at_165) rfl rfl hr) ?_
      show W p e below _ (T137.setTop (mkF m 167 #[.val (.int p0), .val (.int p1), .val (.int (3 : Int32)), .val (.int (0 : Int32)), .val (.ref b125), .val (.ref s133), .val (.ref s135), .val (.ref b125)] [(.ref b125), (.ref b125)]))
      refine W.go (fun _ hr => Jvm.RoadKit.acmp (g := (mkF m 167 #[.val (.int p0), .val (.int p1), .val (.int (3 : Int32)), .val (.int (0 : Int32)), .val (.ref b125), .val (.ref s133), .val (.ref s135), .val (.ref b125)] [(.ref b125), (.ref b125)])) X137 hx rfl rfl rfl (pc0 := 167) (pc' := 172) (same := true) rfl (hb hby at_167) rfl (decide_eq_true rfl) (by decide) (by decide) hr) ?_
      show W p e below _ (T137.setTop (mkF m 172 #[.val (.int p0), .val (.int p1), .val (.int (3 : Int32)), .val (.int (0 : Int32)), .val (.ref b125), .val (.ref s133), .val (.ref s135), .val (.ref b125)] []))
      refine W.go (fun _ hr => XS.aload X137.here hx rfl (hb hby at_172) rfl rfl hr) ?_
      show W p e below _ (T137.setTop (mkF m 174 #[.val (.int p0), .val (.int p1), .val (.int (3 : Int32)), .val (.int (0 : Int32)), .val (.ref b125), .val (.ref s133), .val (.ref s135), .val (.ref b125)] [(.ref b125)]))
      refine W.callV X137 hx hZ hown (g := (mkF m 174 #[.val (.int p0), .val (.int p1), .val (.int (3 : Int32)), .val (.int (0 : Int32)), .val (.ref b125), .val (.ref s133), .val (.ref s135), .val (.ref b125)] [(.ref b125)])) (by rw [hml]; rfl) (hw _ (List.mem_of_getElem? (i := 69) rfl)) (hw _ (List.mem_of_getElem? (i := 70) rfl)) (hw _ (List.mem_of_getElem? (i := 72) rfl)) (hw _ (List.mem_of_getElem? (i := 71) rfl)) (hw _ (List.mem_of_getElem? (i := 2) rfl)) (hw _ (List.mem_of_getElem? (i := 73) rfl)) e137 (rm11 l Z a0 hw b125 o127 t127 kt127 [(.int (91 : Int32)), (.int (91 : Int32)), (.int (93 : Int32))] (3 : Int32) zCS h137 n0 Z138 E_b125 Fj127 E_o127 Fv137 Fc137 Fn137 V137 S_COMPACT_STRINGS hCS (by decide)) (notFace_of_selects (args := #[]) (mvT hZ (hw _ (List.mem_of_getElem? (i := 72) rfl)))) (by decide) pd_425 rfl E_b125 (argsL := []) (rest := []) rfl rfl rfl (hb hby at_174) (W0 := 0) rfl (by decide) (by decide) (by decide) (by decide) (fun v139 T139 h139 L139 X139 e139 hQ139 => ?_)
      obtain ⟨o139, b139, kb139, rfl, N139q, K139, so139, sb139, nob139, E_o139, F_value_o139, F_coder_o139, E_b139, V_b139⟩ := hQ139
      have N139 := Fr.app N137 N139q
      have ne_b125_o139 : b125 ≠ o139 := Nat.ne_of_lt (Nat.lt_of_lt_of_le E_b125.lt so139)
      have ne_o127_o139 : o127 ≠ o139 := Nat.ne_of_lt (Nat.lt_of_lt_of_le E_o127.lt so139)
      have ne_s133_o139 : s133 ≠ o139 := Nat.ne_of_lt (Nat.lt_of_lt_of_le E_s133.lt so139)
      have ne_c133_o139 : c133 ≠ o139 := Nat.ne_of_lt (Nat.lt_of_lt_of_le V_c133.lt so139)
      have ne_s135_o139 : s135 ≠ o139 := Nat.ne_of_lt (Nat.lt_of_lt_of_le E_s135.lt so139)
      have ne_c135_o139 : c135 ≠ o139 := Nat.ne_of_lt (Nat.lt_of_lt_of_le V_c135.lt so139)
      have ne_t127_o139 : t127 ≠ o139 := Nat.ne_of_lt (Nat.lt_of_lt_of_le V137.lt so139)
      have Sf_o139 : Safe Z EL T135.vm h137 o139 := Safe.new so139
      have g_o139 : n0 ≤ o139 := Nat.le_trans Z138 so139
      have ne_b125_b139 : b125 ≠ b139 := Nat.ne_of_lt (Nat.lt_of_lt_of_le E_b125.lt sb139)
      have ne_o127_b139 : o127 ≠ b139 := Nat.ne_of_lt (Nat.lt_of_lt_of_le E_o127.lt sb139)
      have ne_s133_b139 : s133 ≠ b139 := Nat.ne_of_lt (Nat.lt_of_lt_of_le E_s133.lt sb139)
      have ne_c133_b139 : c133 ≠ b139 := Nat.ne_of_lt (Nat.lt_of_lt_of_le V_c133.lt sb139)
      have ne_s135_b139 : s135 ≠ b139 := Nat.ne_of_lt (Nat.lt_of_lt_of_le E_s135.lt sb139)
      have ne_c135_b139 : c135 ≠ b139 := Nat.ne_of_lt (Nat.lt_of_lt_of_le V_c135.lt sb139)
      have ne_t127_b139 : t127 ≠ b139 := Nat.ne_of_lt (Nat.lt_of_lt_of_le V137.lt sb139)
      have Sf_b139 : Safe Z EL T135.vm h137 b139 := Safe.new sb139
      have g_b139 : n0 ≤ b139 := Nat.le_trans Z138 sb139
      have SfKK139 : ∀ x ∈ ([] : List Addr), Safe Z EL T135.vm h137 x := sf0
      replace S_COMPACT_STRINGS := Sta.keep S_COMPACT_STRINGS K139 ns0
      replace S_SIOOBE_FORMATTER := Sta.keep S_SIOOBE_FORMATTER K139 ns0
      replace E_b125 := E_b125.keep K139
      replace Fj127 := Fj127.keep K139 nin0
      replace E_o127 := E_o127.keep K139
      replace E_s133 := E_s133.keep K139
      replace F_coder_s133 := F_coder_s133.keep K139 nin0
      replace F_value_s133 := F_value_s133.keep K139 nin0
      replace V_c133 := V_c133.keep K139 nin0
      replace E_s135 := E_s135.keep K139
      replace F_coder_s135 := F_coder_s135.keep K139 nin0
      replace F_value_s135 := F_value_s135.keep K139 nin0
      replace V_c135 := V_c135.keep K139 nin0
      replace Fv137 := Fv137.keep K139 nin0
      replace Fc137 := Fc137.keep K139 nin0
      replace Fn137 := Fn137.keep K139 nin0
      replace V137 := V137.keep K139 nin0
      have Z140 : n0 ≤ h139.size := Nat.le_trans Z138 K139.1
      replace Sf_b125 := Safe.keep K139 SfKK139 RC.1 Sf_b125
      replace Sf_o127 := Safe.keep K139 SfKK139 RC.1 Sf_o127
      replace Sf_t127 := Safe.keep K139 SfKK139 RC.1 Sf_t127
      replace Sf_o139 := Safe.keep K139 SfKK139 RC.1 Sf_o139
      replace Sf_b139 := Safe.keep K139 SfKK139 RC.1 Sf_b139
      replace RC := RC.trans (CHr.keep K139 SfKK139 RC.1)
      replace hkS := Nat.le_trans hkS K139.1
      show W p e below _ (T139.setTop (mkF m 177 #[.val (.int p0), .val (.int p1), .val (.int (3 : Int32)), .val (.int (0 : Int32)), .val (.ref b125), .val (.ref s133), .val (.ref s135), .val (.ref b125)] [(.ref o139)]))
      refine W.go (fun _ hr => XS.aload X139.here hx rfl (hb hby at_177) rfl rfl hr) ?_
      show W p e below _ (T139.setTop (mkF m 179 #[.val (.int p0), .val (.int p1), .val (.int (3 : Int32)), .val (.int (0 : Int32)), .val (.ref b125), .val (.ref s133), .val (.ref s135), .val (.ref b125)] [(.ref s133), (.ref o139)]))
      refine W.callV X139 hx hZ hown (g := (mkF m 179 #[.val (.int p0), .val (.int p1), .val (.int (3 : Int32)), .val (.int (0 : Int32)), .val (.ref b125), .val (.ref s133), .val (.ref s135), .val (.ref b125)] [(.ref s133), (.ref o139)])) (by rw [hml]; rfl) (hw _ (List.mem_of_getElem? (i := 122) rfl)) (hw _ (List.mem_of_getElem? (i := 123) rfl)) (hw _ (List.mem_of_getElem? (i := 125) rfl)) (hw _ (List.mem_of_getElem? (i := 124) rfl)) (hw _ (List.mem_of_getElem? (i := 23) rfl)) (hw _ (List.mem_of_getElem? (i := 126) rfl)) e139 (rm22 l Z a0 hw o139 s133 b139 c133 kb139 kb133 (3 : Int32) (3 : Int32) [(91 : Int32), (91 : Int32), (93 : Int32)] [(91 : Int32), (91 : Int32), (93 : Int32)] (1 : Int32) zCS h139 n0 Z140 E_o139 F_value_o139 F_coder_o139 V_b139 E_s133 F_value_s133 F_coder_s133 V_c133 (by decide) (by decide) (Ne.symm ne_s133_o139) S_COMPACT_STRINGS hCS) (notFace_of_selects (args := #[]) (mvT hZ (hw _ (List.mem_of_getElem? (i := 125) rfl)))) (by decide) pd_438 rfl E_o139 (argsL := [(.ref s133)]) (rest := []) rfl rfl rfl (hb hby at_179) (W0 := 0) rfl (by decide) (by decide) (by decide) (by decide) (fun v141 T141 h141 L141 X141 e141 hQ141 => ?_)
      obtain ⟨rfl, N141q, hh141⟩ := hQ141
      obtain rfl := hh141.symm
      have N141 := Fr.app N139 N141q
      show W p e below _ (T141.setTop (mkF m 182 #[.val (.int p0), .val (.int p1), .val (.int (3 : Int32)), .val (.int (0 : Int32)), .val (.ref b125), .val (.ref s133), .val (.ref s135), .val (.ref b125)] [(.int (1 : Int32))]))
      refine W.go (fun _ hr => XS.ifYes X141.here hx rfl (pc0 := 182) (pc' := 187) rfl (hb hby at_182) rfl ((if0 _ _).trans (feq (by decide : ¬ ((1 : Int32) = (0 : Int32)))).2) (by decide) (by decide) hr) ?_
      show W p e below _ (T141.setTop (mkF m 187 #[.val (.int p0), .val (.int p1), .val (.int (3 : Int32)), .val (.int (0 : Int32)), .val (.ref b125), .val (.ref s133), .val (.ref s135), .val (.ref b125)] []))
      refine W.go (fun _ hr => XS.aload X141.here hx rfl (hb hby at_187) rfl rfl hr) ?_
      show W p e below _ (T141.setTop (mkF m 189 #[.val (.int p0), .val (.int p1), .val (.int (3 : Int32)), .val (.int (0 : Int32)), .val (.ref b125), .val (.ref s133), .val (.ref s135), .val (.ref b125)] [(.ref b125)]))
      refine W.go (fun _ hr => XS.iloadN X141.here hx rfl (hb hby at_189) rfl hr) ?_
      show W p e below _ (T141.setTop (mkF m 190 #[.val (.int p0), .val (.int p1), .val (.int (3 : Int32)), .val (.int (0 : Int32)), .val (.ref b125), .val (.ref s133), .val (.ref s135), .val (.ref b125)] [(.int (0 : Int32)), (.ref b125)]))
      refine W.callV X141 hx hZ hown (g := (mkF m 190 #[.val (.int p0), .val (.int p1), .val (.int (3 : Int32)), .val (.int (0 : Int32)), .val (.ref b125), .val (.ref s133), .val (.ref s135), .val (.ref b125)] [(.int (0 : Int32)), (.ref b125)])) (by rw [hml]; rfl) (hw _ (List.mem_of_getElem? (i := 132) rfl)) (hw _ (List.mem_of_getElem? (i := 133) rfl)) (hw _ (List.mem_of_getElem? (i := 135) rfl)) (hw _ (List.mem_of_getElem? (i := 134) rfl)) (hw _ (List.mem_of_getElem? (i := 2) rfl)) (hw _ (List.mem_of_getElem? (i := 136) rfl)) e141 (rm_value0Y l Z a0 hw b125 o127 t127 kt127 [(.int (91 : Int32)), (.int (91 : Int32)), (.int (93 : Int32))] (3 : Int32) (93 : Int32) [(.int (91 : Int32)), (.int (91 : Int32)), (.int (93 : Int32)), (.int (44 : Int32)), (.int (102 : Int32)), (.int (97 : Int32)), (.int (108 : Int32)), (.int (115 : Int32)), (.int (101 : Int32))] (9 : Int32) zCS wSF h139 n0 Z140 E_b125 Fj127 E_o127 Fv137 Fc137 Fn137 V137 S_COMPACT_STRINGS hCS S_SIOOBE_FORMATTER hSF (by decide) g_o127 g_t127 ne_b125_o127 ne_b125_t127 not127 ⟨by decide, by decide, by decide, rfl, by decide, by decide, by decide⟩ rfl (by decide)) (notFace_of_selects (args := #[]) (mvT hZ (hw _ (List.mem_of_getElem? (i := 135) rfl)))) (by decide) pd_439 rfl E_b125 (argsL := [(.int (0 : Int32))]) (rest := []) rfl rfl rfl (hb hby at_190) (W0 := 0) rfl (by decide) (by decide) (by decide) (by decide) (fun v142 T142 h142 L142 X142 e142 hQ142 => ?_)
      obtain ⟨rfl, N142q, K142, Eo142, Fv142, Fc142, Fn142, V142⟩ := hQ142
      have N142 := Fr.app N141 N142q
      have SfKK142 := (sfS Sf_o127 (sfS Sf_t127 sf0))
      have nsK142 := (nsS E_o127.nostat (nsS V137.nostat ns0))
      replace S_COMPACT_STRINGS := Sta.keep S_COMPACT_STRINGS K142 nsK142
      replace S_SIOOBE_FORMATTER := Sta.keep S_SIOOBE_FORMATTER K142 nsK142
      replace E_b125 := E_b125.keep K142
      replace Fj127 := Fj127.keep K142 (ninS ne_b125_o127 (ninS ne_b125_t127 nin0))
      replace E_o127 := E_o127.keep K142
      replace E_s133 := E_s133.keep K142
      replace F_coder_s133 := F_coder_s133.keep K142 (ninS (Ne.symm ne_o127_s133) (ninS (Ne.symm ne_t127_s133) nin0))
      replace F_value_s133 := F_value_s133.keep K142 (ninS (Ne.symm ne_o127_s133) (ninS (Ne.symm ne_t127_s133) nin0))
      replace V_c133 := V_c133.keep K142 (ninS (Ne.symm ne_o127_c133) (ninS (Ne.symm ne_t127_c133) nin0))
      replace E_s135 := E_s135.keep K142
      replace F_coder_s135 := F_coder_s135.keep K142 (ninS (Ne.symm ne_o127_s135) (ninS (Ne.symm ne_t127_s135) nin0))
      replace F_value_s135 := F_value_s135.keep K142 (ninS (Ne.symm ne_o127_s135) (ninS (Ne.symm ne_t127_s135) nin0))
      replace V_c135 := V_c135.keep K142 (ninS (Ne.symm ne_o127_c135) (ninS (Ne.symm ne_t127_c135) nin0))
      replace E_o139 := E_o139.keep K142
      replace F_value_o139 := F_value_o139.keep K142 (ninS (Ne.symm ne_o127_o139) (ninS (Ne.symm ne_t127_o139) nin0))
      replace F_coder_o139 := F_coder_o139.keep K142 (ninS (Ne.symm ne_o127_o139) (ninS (Ne.symm ne_t127_o139) nin0))
      replace E_b139 := E_b139.keep K142
      replace V_b139 := V_b139.keep K142 (ninS (Ne.symm ne_o127_b139) (ninS (Ne.symm ne_t127_b139) nin0))
      have Z143 : n0 ≤ h142.size := Nat.le_trans Z140 K142.1
      replace Sf_b125 := Safe.keep K142 SfKK142 RC.1 Sf_b125
      replace Sf_o127 := Safe.keep K142 SfKK142 RC.1 Sf_o127
      replace Sf_t127 := Safe.keep K142 SfKK142 RC.1 Sf_t127
      replace Sf_o139 := Safe.keep K142 SfKK142 RC.1 Sf_o139
      replace Sf_b139 := Safe.keep K142 SfKK142 RC.1 Sf_b139
      replace RC := RC.trans (CHr.keep K142 SfKK142 RC.1)
      replace hkS := Nat.le_trans hkS K142.1
      show W p e below _ (T142.setTop (mkF m 193 #[.val (.int p0), .val (.int p1), .val (.int (3 : Int32)), .val (.int (0 : Int32)), .val (.ref b125), .val (.ref s133), .val (.ref s135), .val (.ref b125)] [(.ref b125)]))
      refine W.go (fun _ hr => XS.pop X142.here hx rfl (hb hby at_193) rfl rfl hr) ?_
      show W p e below _ (T142.setTop (mkF m 194 #[.val (.int p0), .val (.int p1), .val (.int (3 : Int32)), .val (.int (0 : Int32)), .val (.ref b125), .val (.ref s133), .val (.ref s135), .val (.ref b125)] []))
      refine W.go (fun _ hr => XS.aload X142.here hx rfl (hb hby at_194) rfl rfl hr) ?_
      show W p e below _ (T142.setTop (mkF m 196 #[.val (.int p0), .val (.int p1), .val (.int (3 : Int32)), .val (.int (0 : Int32)), .val (.ref b125), .val (.ref s133), .val (.ref s135), .val (.ref b125)] [(.ref b125)]))
      refine W.callV X142 hx hZ hown (g := (mkF m 196 #[.val (.int p0), .val (.int p1), .val (.int (3 : Int32)), .val (.int (0 : Int32)), .val (.ref b125), .val (.ref s133), .val (.ref s135), .val (.ref b125)] [(.ref b125)])) (by rw [hml]; rfl) (hw _ (List.mem_of_getElem? (i := 69) rfl)) (hw _ (List.mem_of_getElem? (i := 70) rfl)) (hw _ (List.mem_of_getElem? (i := 72) rfl)) (hw _ (List.mem_of_getElem? (i := 71) rfl)) (hw _ (List.mem_of_getElem? (i := 2) rfl)) (hw _ (List.mem_of_getElem? (i := 73) rfl)) e142 (rm11 l Z a0 hw b125 o127 t127 kt127 [(.int (91 : Int32)), (.int (91 : Int32)), (.int (93 : Int32)), (.int (44 : Int32)), (.int (102 : Int32)), (.int (97 : Int32)), (.int (108 : Int32)), (.int (115 : Int32)), (.int (101 : Int32))] (9 : Int32) zCS h142 n0 Z143 E_b125 Fj127 E_o127 Fv142 Fc142 Fn142 V142 S_COMPACT_STRINGS hCS (by decide)) (notFace_of_selects (args := #[]) (mvT hZ (hw _ (List.mem_of_getElem? (i := 72) rfl)))) (by decide) pd_425 rfl E_b125 (argsL := []) (rest := []) rfl rfl rfl (hb hby at_196) (W0 := 0) rfl (by decide) (by decide) (by decide) (by decide) (fun v144 T144 h144 L144 X144 e144 hQ144 => ?_)
      obtain ⟨o144, b144, kb144, rfl, N144q, K144, so144, sb144, nob144, E_o144, F_value_o144, F_coder_o144, E_b144, V_b144⟩ := hQ144
      have N144 := Fr.app N142 N144q
      have ne_b125_o144 : b125 ≠ o144 := Nat.ne_of_lt (Nat.lt_of_lt_of_le E_b125.lt so144)
      have ne_o127_o144 : o127 ≠ o144 := Nat.ne_of_lt (Nat.lt_of_lt_of_le E_o127.lt so144)
      have ne_s133_o144 : s133 ≠ o144 := Nat.ne_of_lt (Nat.lt_of_lt_of_le E_s133.lt so144)
      have ne_c133_o144 : c133 ≠ o144 := Nat.ne_of_lt (Nat.lt_of_lt_of_le V_c133.lt so144)
      have ne_s135_o144 : s135 ≠ o144 := Nat.ne_of_lt (Nat.lt_of_lt_of_le E_s135.lt so144)
      have ne_c135_o144 : c135 ≠ o144 := Nat.ne_of_lt (Nat.lt_of_lt_of_le V_c135.lt so144)
      have ne_o139_o144 : o139 ≠ o144 := Nat.ne_of_lt (Nat.lt_of_lt_of_le E_o139.lt so144)
      have ne_b139_o144 : b139 ≠ o144 := Nat.ne_of_lt (Nat.lt_of_lt_of_le E_b139.lt so144)
      have ne_t127_o144 : t127 ≠ o144 := Nat.ne_of_lt (Nat.lt_of_lt_of_le V142.lt so144)
      have Sf_o144 : Safe Z EL T135.vm h142 o144 := Safe.new so144
      have g_o144 : n0 ≤ o144 := Nat.le_trans Z143 so144
      have ne_b125_b144 : b125 ≠ b144 := Nat.ne_of_lt (Nat.lt_of_lt_of_le E_b125.lt sb144)
      have ne_o127_b144 : o127 ≠ b144 := Nat.ne_of_lt (Nat.lt_of_lt_of_le E_o127.lt sb144)
      have ne_s133_b144 : s133 ≠ b144 := Nat.ne_of_lt (Nat.lt_of_lt_of_le E_s133.lt sb144)
      have ne_c133_b144 : c133 ≠ b144 := Nat.ne_of_lt (Nat.lt_of_lt_of_le V_c133.lt sb144)
      have ne_s135_b144 : s135 ≠ b144 := Nat.ne_of_lt (Nat.lt_of_lt_of_le E_s135.lt sb144)
      have ne_c135_b144 : c135 ≠ b144 := Nat.ne_of_lt (Nat.lt_of_lt_of_le V_c135.lt sb144)
      have ne_o139_b144 : o139 ≠ b144 := Nat.ne_of_lt (Nat.lt_of_lt_of_le E_o139.lt sb144)
      have ne_b139_b144 : b139 ≠ b144 := Nat.ne_of_lt (Nat.lt_of_lt_of_le E_b139.lt sb144)
      have ne_t127_b144 : t127 ≠ b144 := Nat.ne_of_lt (Nat.lt_of_lt_of_le V142.lt sb144)
      have Sf_b144 : Safe Z EL T135.vm h142 b144 := Safe.new sb144
      have g_b144 : n0 ≤ b144 := Nat.le_trans Z143 sb144
      have SfKK144 : ∀ x ∈ ([] : List Addr), Safe Z EL T135.vm h142 x := sf0
      replace S_COMPACT_STRINGS := Sta.keep S_COMPACT_STRINGS K144 ns0
      replace S_SIOOBE_FORMATTER := Sta.keep S_SIOOBE_FORMATTER K144 ns0
      replace E_b125 := E_b125.keep K144
      replace Fj127 := Fj127.keep K144 nin0
      replace E_o127 := E_o127.keep K144
      replace E_s133 := E_s133.keep K144
      replace F_coder_s133 := F_coder_s133.keep K144 nin0
      replace F_value_s133 := F_value_s133.keep K144 nin0
      replace V_c133 := V_c133.keep K144 nin0
      replace E_s135 := E_s135.keep K144
      replace F_coder_s135 := F_coder_s135.keep K144 nin0
      replace F_value_s135 := F_value_s135.keep K144 nin0
      replace V_c135 := V_c135.keep K144 nin0
      replace E_o139 := E_o139.keep K144
      replace F_value_o139 := F_value_o139.keep K144 nin0
      replace F_coder_o139 := F_coder_o139.keep K144 nin0
      replace E_b139 := E_b139.keep K144
      replace V_b139 := V_b139.keep K144 nin0
      replace Fv142 := Fv142.keep K144 nin0
      replace Fc142 := Fc142.keep K144 nin0
      replace Fn142 := Fn142.keep K144 nin0
      replace V142 := V142.keep K144 nin0
      have Z145 : n0 ≤ h144.size := Nat.le_trans Z143 K144.1
      replace Sf_b125 := Safe.keep K144 SfKK144 RC.1 Sf_b125
      replace Sf_o127 := Safe.keep K144 SfKK144 RC.1 Sf_o127
      replace Sf_t127 := Safe.keep K144 SfKK144 RC.1 Sf_t127
      replace Sf_o139 := Safe.keep K144 SfKK144 RC.1 Sf_o139
      replace Sf_b139 := Safe.keep K144 SfKK144 RC.1 Sf_b139
      replace Sf_o144 := Safe.keep K144 SfKK144 RC.1 Sf_o144
      replace Sf_b144 := Safe.keep K144 SfKK144 RC.1 Sf_b144
      replace RC := RC.trans (CHr.keep K144 SfKK144 RC.1)
      replace hkS := Nat.le_trans hkS K144.1
      show W p e below _ (T144.setTop (mkF m 199 #[.val (.int p0), .val (.int p1), .val (.int (3 : Int32)), .val (.int (0 : Int32)), .val (.ref b125), .val (.ref s133), .val (.ref s135), .val (.ref b125)] [(.ref o144)]))
      refine W.go (fun _ hr => XS.aload X144.here hx rfl (hb hby at_199) rfl rfl hr) ?_
      show W p e below _ (T144.setTop (mkF m 201 #[.val (.int p0), .val (.int p1), .val (.int (3 : Int32)), .val (.int (0 : Int32)), .val (.ref b125), .val (.ref s133), .val (.ref s135), .val (.ref b125)] [(.ref s135), (.ref o144)]))
      refine W.callV X144 hx hZ hown (g := (mkF m 201 #[.val (.int p0), .val (.int p1), .val (.int (3 : Int32)), .val (.int (0 : Int32)), .val (.ref b125), .val (.ref s133), .val (.ref s135), .val (.ref b125)] [(.ref s135), (.ref o144)])) (by rw [hml]; rfl) (hw _ (List.mem_of_getElem? (i := 122) rfl)) (hw _ (List.mem_of_getElem? (i := 123) rfl)) (hw _ (List.mem_of_getElem? (i := 125) rfl)) (hw _ (List.mem_of_getElem? (i := 124) rfl)) (hw _ (List.mem_of_getElem? (i := 23) rfl)) (hw _ (List.mem_of_getElem? (i := 126) rfl)) e144 (rm22 l Z a0 hw o144 s135 b144 c135 kb144 kb135 (9 : Int32) (9 : Int32) [(91 : Int32), (91 : Int32), (93 : Int32), (44 : Int32), (102 : Int32), (97 : Int32), (108 : Int32), (115 : Int32), (101 : Int32)] [(91 : Int32), (91 : Int32), (93 : Int32), (44 : Int32), (102 : Int32), (97 : Int32), (108 : Int32), (115 : Int32), (101 : Int32)] (1 : Int32) zCS h144 n0 Z145 E_o144 F_value_o144 F_coder_o144 V_b144 E_s135 F_value_s135 F_coder_s135 V_c135 (by decide) (by decide) (Ne.symm ne_s135_o144) S_COMPACT_STRINGS hCS) (notFace_of_selects (args := #[]) (mvT hZ (hw _ (List.mem_of_getElem? (i := 125) rfl)))) (by decide) pd_438 rfl E_o144 (argsL := [(.ref s135)]) (rest := []) rfl rfl rfl (hb hby at_201) (W0 := 0) rfl (by decide) (by decide) (by decide) (by decide) (fun v146 T146 h146 L146 X146 e146 hQ146 => ?_)
      obtain ⟨rfl, N146q, hh146⟩ := hQ146
      obtain rfl := hh146.symm
      have N146 := Fr.app N144 N146q
      show W p e below _ (T146.setTop (mkF m 204 #[.val (.int p0), .val (.int p1), .val (.int (3 : Int32)), .val (.int (0 : Int32)), .val (.ref b125), .val (.ref s133), .val (.ref s135), .val (.ref b125)] [(.int (1 : Int32))]))
      exact W.retBW X146 hx hlk (t := .boolean) hret (by simp) (hb hby at_204) hS hkS hZ own_EW' RC (by decide) (by decide) e146 ⟨rfl, N146⟩
    · refine W.go (fun _ hr => XS.ifNo X0.here hx rfl (hb hby at_7) rfl ((if0 _ _).trans (feq hc7_124).1) hr) ?_
      show W p e below _ (s₁.setTop (mkF m 10 #[.val (.int p0), .val (.int p1), .val (.int (3 : Int32)), .unset, .unset, .unset, .unset, .unset] []))
      refine W.go (fun _ hr => XS.iconst X0.here hx rfl (hb hby at_10) hr) ?_
      show W p e below _ (s₁.setTop (mkF m 11 #[.val (.int p0), .val (.int p1), .val (.int (3 : Int32)), .unset, .unset, .unset, .unset, .unset] [(.int (1 : Int32))]))
      refine W.go (fun _ hr => XS.goto X0.here hx rfl (pc0 := 11) (pc' := 15) rfl (hb hby at_11) (by decide) (by decide) hr) ?_
      show W p e below _ (s₁.setTop (mkF m 15 #[.val (.int p0), .val (.int p1), .val (.int (3 : Int32)), .unset, .unset, .unset, .unset, .unset] [(.int (1 : Int32))]))
      refine W.go (fun _ hr => XS.istoreN X0.here hx rfl (hb hby at_15) rfl (l' := #[.val (.int p0), .val (.int p1), .val (.int (3 : Int32)), .val (.int (1 : Int32)), .unset, .unset, .unset, .unset]) rfl hr) ?_
      show W p e below _ (s₁.setTop (mkF m 16 #[.val (.int p0), .val (.int p1), .val (.int (3 : Int32)), .val (.int (1 : Int32)), .unset, .unset, .unset, .unset] []))
      obtain ⟨T147, h147, X147, e147, E147, E_b147, D147, U147, st147⟩ := newO X0 hx hZ hown (hw _ (List.mem_of_getElem? (i := 0) rfl)) (hw _ (List.mem_of_getElem? (i := 1) rfl)) (hw _ (List.mem_of_getElem? (i := 2) rfl)) e0 (g := (mkF m 16 #[.val (.int p0), .val (.int p1), .val (.int (3 : Int32)), .val (.int (1 : Int32)), .unset, .unset, .unset, .unset] [])) rfl (hb hby at_16) (by decide) (by decide)
      obtain ⟨b147, g147⟩ : ∃ z, z = h0.size := ⟨_, rfl⟩
      rw [← g147] at E_b147 D147 U147 st147
      have Sf_b147 : Safe Z EL vm0 h0 b147 := Safe.new (Nat.le_of_eq g147.symm)
      have g_b147 : n0 ≤ b147 := Nat.le_trans Z0 (Nat.le_of_eq g147.symm)
      replace S_COMPACT_STRINGS := Sta.ext E147 S_COMPACT_STRINGS
      replace S_SIOOBE_FORMATTER := Sta.ext E147 S_SIOOBE_FORMATTER
      have Z148 : n0 ≤ h147.size := Nat.le_trans Z0 E147.1
      replace Sf_b147 := Safe.ext E147 RC.1 Sf_b147
      replace RC := RC.trans (CHr.ext E147 RC.1)
      replace hkS := Nat.le_trans hkS E147.1
      have F_json_b147 : Fld Z h147 b147 "org/allonym/cli/JsonWriter" "json" "Ljava/lang/StringBuilder;" .null := D147 (Or.inr (hw _ (List.mem_of_getElem? (i := 30) rfl))) (ty := (.object "java/lang/StringBuilder")) (by decide)
      refine W.go st147 ?_
      show W p e below _ (T147.setTop (mkF m 19 #[.val (.int p0), .val (.int p1), .val (.int (3 : Int32)), .val (.int (1 : Int32)), .unset, .unset, .unset, .unset] [(.ref b147)]))
      refine W.go (fun _ hr => XS.dup X147.here hx rfl (hb hby at_19) rfl rfl hr) ?_
      show W p e below _ (T147.setTop (mkF m 20 #[.val (.int p0), .val (.int p1), .val (.int (3 : Int32)), .val (.int (1 : Int32)), .unset, .unset, .unset, .unset] [(.ref b147), (.ref b147)]))
      refine W.callI X147 hx hZ hown (g := (mkF m 20 #[.val (.int p0), .val (.int p1), .val (.int (3 : Int32)), .val (.int (1 : Int32)), .unset, .unset, .unset, .unset] [(.ref b147), (.ref b147)])) (by rw [hml]; rfl) (hw _ (List.mem_of_getElem? (i := 3) rfl)) (hw _ (List.mem_of_getElem? (i := 4) rfl)) (hw _ (List.mem_of_getElem? (i := 2) rfl)) (hw _ (List.mem_of_getElem? (i := 5) rfl)) e147 (rm1 l Z a0 hw b147 zCS h147 n0 Z148 E_b147 F_json_b147 g_b147 S_COMPACT_STRINGS hCS) rfl (by decide) pd_407 rfl (b := b147) (argsL := []) (rest := [(.ref b147)]) rfl rfl rfl (hb hby at_20) (W0 := 1) rfl (by decide) (by decide) (by decide) (by decide) (fun v149 T149 h149 L149 X149 e149 hQ149 => ?_)
      obtain ⟨rfl, N149q, K149, Ee149, o149, t149, kt149, so149, st149, not149, Fj149, E_o149, F_value_o149, F_coder_o149, F_count_o149, V_t149⟩ := hQ149
      have N149 := Fr.app N0 N149q
      have ne_b147_o149 : b147 ≠ o149 := Nat.ne_of_lt (Nat.lt_of_lt_of_le E_b147.lt so149)
      have Sf_o149 : Safe Z EL vm0 h147 o149 := Safe.new so149
      have g_o149 : n0 ≤ o149 := Nat.le_trans Z148 so149
      have ne_b147_t149 : b147 ≠ t149 := Nat.ne_of_lt (Nat.lt_of_lt_of_le E_b147.lt st149)
      have Sf_t149 : Safe Z EL vm0 h147 t149 := Safe.new st149
      have g_t149 : n0 ≤ t149 := Nat.le_trans Z148 st149
      have SfKK149 := (sfS Sf_b147 sf0)
      have nsK149 := (nsS E_b147.nostat ns0)
      replace S_COMPACT_STRINGS := Sta.keep S_COMPACT_STRINGS K149 nsK149
      replace S_SIOOBE_FORMATTER := Sta.keep S_SIOOBE_FORMATTER K149 nsK149
      replace E_b147 := E_b147.keep K149
      have Z150 : n0 ≤ h149.size := Nat.le_trans Z148 K149.1
      replace Sf_b147 := Safe.keep K149 SfKK149 RC.1 Sf_b147
      replace Sf_o149 := Safe.keep K149 SfKK149 RC.1 Sf_o149
      replace Sf_t149 := Safe.keep K149 SfKK149 RC.1 Sf_t149
      replace RC := RC.trans (CHr.keep K149 SfKK149 RC.1)
      replace hkS := Nat.le_trans hkS K149.1
      show W p e below _ (T149.setTop (mkF m 23 #[.val (.int p0), .val (.int p1), .val (.int (3 : Int32)), .val (.int (1 : Int32)), .unset, .unset, .unset, .unset] [(.ref b147)]))
      refine W.go (fun _ hr => XS.astore X149.here hx rfl (hb hby at_23) rfl rfl (l' := #[.val (.int p0), .val (.int p1), .val (.int (3 : Int32)), .val (.int (1 : Int32)), .val (.ref b147), .unset, .unset, .unset]) rfl hr) ?_
      show W p e below _ (T149.setTop (mkF m 25 #[.val (.int p0), .val (.int p1), .val (.int (3 : Int32)), .val (.int (1 : Int32)), .val (.ref b147), .unset, .unset, .unset] []))
      refine W.go (fun _ hr => XS.iloadN X149.here hx rfl (hb hby at_25) rfl hr) ?_
      show W p e below _ (T149.setTop (mkF m 26 #[.val (.int p0), .val (.int p1), .val (.int (3 : Int32)), .val (.int (1 : Int32)), .val (.ref b147), .unset, .unset, .unset] [(.int (3 : Int32))]))
      refine W.go (fun _ hr => XS.ifYes X149.here hx rfl (pc0 := 26) (pc' := 49) rfl (hb hby at_26) rfl ((if0 _ _).trans (feq (by decide : ¬ ((3 : Int32) = (0 : Int32)))).2) (by decide) (by decide) hr) ?_
      show W p e below _ (T149.setTop (mkF m 49 #[.val (.int p0), .val (.int p1), .val (.int (3 : Int32)), .val (.int (1 : Int32)), .val (.ref b147), .unset, .unset, .unset] []))
      refine W.go (fun _ hr => XS.iloadN X149.here hx rfl (hb hby at_49) rfl hr) ?_
      show W p e below _ (T149.setTop (mkF m 50 #[.val (.int p0), .val (.int p1), .val (.int (3 : Int32)), .val (.int (1 : Int32)), .val (.ref b147), .unset, .unset, .unset] [(.int (3 : Int32))]))
      refine W.go (fun _ hr => XS.iconst X149.here hx rfl (hb hby at_50) hr) ?_
      show W p e below _ (T149.setTop (mkF m 51 #[.val (.int p0), .val (.int p1), .val (.int (3 : Int32)), .val (.int (1 : Int32)), .val (.ref b147), .unset, .unset, .unset] [(.int (1 : Int32)), (.int (3 : Int32))]))
      refine W.go (fun _ hr => XS.icmpYes X149.here hx rfl (pc0 := 51) (pc' := 80) rfl (hb hby at_51) rfl (feq (by decide : ¬ ((3 : Int32) = (1 : Int32)))).2 (by decide) (by decide) hr) ?_
      show W p e below _ (T149.setTop (mkF m 80 #[.val (.int p0), .val (.int p1), .val (.int (3 : Int32)), .val (.int (1 : Int32)), .val (.ref b147), .unset, .unset, .unset] []))
      refine W.go (fun _ hr => XS.iloadN X149.here hx rfl (hb hby at_80) rfl hr) ?_
      show W p e below _ (T149.setTop (mkF m 81 #[.val (.int p0), .val (.int p1), .val (.int (3 : Int32)), .val (.int (1 : Int32)), .val (.ref b147), .unset, .unset, .unset] [(.int (3 : Int32))]))
      refine W.go (fun _ hr => XS.iconst X149.here hx rfl (hb hby at_81) hr) ?_
      show W p e below _ (T149.setTop (mkF m 82 #[.val (.int p0), .val (.int p1), .val (.int (3 : Int32)), .val (.int (1 : Int32)), .val (.ref b147), .unset, .unset, .unset] [(.int (2 : Int32)), (.int (3 : Int32))]))
      refine W.go (fun _ hr => XS.icmpYes X149.here hx rfl (pc0 := 82) (pc' := 127) rfl (hb hby at_82) rfl (feq (by decide : ¬ ((3 : Int32) = (2 : Int32)))).2 (by decide) (by decide) hr) ?_
      show W p e below _ (T149.setTop (mkF m 127 #[.val (.int p0), .val (.int p1), .val (.int (3 : Int32)), .val (.int (1 : Int32)), .val (.ref b147), .unset, .unset, .unset] []))
      refine W.go (fun _ hr => XS.aload X149.here hx rfl (hb hby at_127) rfl rfl hr) ?_
      show W p e below _ (T149.setTop (mkF m 129 #[.val (.int p0), .val (.int p1), .val (.int (3 : Int32)), .val (.int (1 : Int32)), .val (.ref b147), .unset, .unset, .unset] [(.ref b147)]))
      refine W.callV X149 hx hZ hown (g := (mkF m 129 #[.val (.int p0), .val (.int p1), .val (.int (3 : Int32)), .val (.int (1 : Int32)), .val (.ref b147), .unset, .unset, .unset] [(.ref b147)])) (by rw [hml]; rfl) (hw _ (List.mem_of_getElem? (i := 186) rfl)) (hw _ (List.mem_of_getElem? (i := 187) rfl)) (hw _ (List.mem_of_getElem? (i := 189) rfl)) (hw _ (List.mem_of_getElem? (i := 188) rfl)) (hw _ (List.mem_of_getElem? (i := 2) rfl)) (hw _ (List.mem_of_getElem? (i := 190) rfl)) e149 (rm_beginArrayN l Z a0 hw b147 o149 t149 kt149 [] (0 : Int32) [(.int (91 : Int32))] (1 : Int32) zCS wSF h149 n0 Z150 E_b147 Fj149 E_o149 F_value_o149 F_coder_o149 F_count_o149 V_t149 S_COMPACT_STRINGS hCS S_SIOOBE_FORMATTER hSF (by decide) g_o149 g_t149 ne_b147_o149 ne_b147_t149 not149 (Or.inl rfl) rfl (by decide)) (notFace_of_selects (args := #[]) (mvT hZ (hw _ (List.mem_of_getElem? (i := 189) rfl)))) (by decide) pd_437 rfl E_b147 (argsL := []) (rest := []) rfl rfl rfl (hb hby at_129) (W0 := 0) rfl (by decide) (by decide) (by decide) (by decide) (fun v151 T151 h151 L151 X151 e151 hQ151 => ?_)
      obtain ⟨rfl, N151q, K151, Eo151, Fv151, Fc151, Fn151, V151⟩ := hQ151
      have N151 := Fr.app N149 N151q
      have SfKK151 := (sfS Sf_o149 (sfS Sf_t149 sf0))
      have nsK151 := (nsS E_o149.nostat (nsS V_t149.nostat ns0))
      replace S_COMPACT_STRINGS := Sta.keep S_COMPACT_STRINGS K151 nsK151
      replace S_SIOOBE_FORMATTER := Sta.keep S_SIOOBE_FORMATTER K151 nsK151
      replace E_b147 := E_b147.keep K151
      replace Fj149 := Fj149.keep K151 (ninS ne_b147_o149 (ninS ne_b147_t149 nin0))
      replace E_o149 := E_o149.keep K151
      have Z152 : n0 ≤ h151.size := Nat.le_trans Z150 K151.1
      replace Sf_b147 := Safe.keep K151 SfKK151 RC.1 Sf_b147
      replace Sf_o149 := Safe.keep K151 SfKK151 RC.1 Sf_o149
      replace Sf_t149 := Safe.keep K151 SfKK151 RC.1 Sf_t149
      replace RC := RC.trans (CHr.keep K151 SfKK151 RC.1)
      replace hkS := Nat.le_trans hkS K151.1
      show W p e below _ (T151.setTop (mkF m 132 #[.val (.int p0), .val (.int p1), .val (.int (3 : Int32)), .val (.int (1 : Int32)), .val (.ref b147), .unset, .unset, .unset] [(.ref b147)]))
      refine W.go (fun _ hr => XS.pop X151.here hx rfl (hb hby at_132) rfl rfl hr) ?_
      show W p e below _ (T151.setTop (mkF m 133 #[.val (.int p0), .val (.int p1), .val (.int (3 : Int32)), .val (.int (1 : Int32)), .val (.ref b147), .unset, .unset, .unset] []))
      refine W.go (fun _ hr => XS.aload X151.here hx rfl (hb hby at_133) rfl rfl hr) ?_
      show W p e below _ (T151.setTop (mkF m 135 #[.val (.int p0), .val (.int p1), .val (.int (3 : Int32)), .val (.int (1 : Int32)), .val (.ref b147), .unset, .unset, .unset] [(.ref b147)]))
      refine W.callV X151 hx hZ hown (g := (mkF m 135 #[.val (.int p0), .val (.int p1), .val (.int (3 : Int32)), .val (.int (1 : Int32)), .val (.ref b147), .unset, .unset, .unset] [(.ref b147)])) (by rw [hml]; rfl) (hw _ (List.mem_of_getElem? (i := 186) rfl)) (hw _ (List.mem_of_getElem? (i := 187) rfl)) (hw _ (List.mem_of_getElem? (i := 189) rfl)) (hw _ (List.mem_of_getElem? (i := 188) rfl)) (hw _ (List.mem_of_getElem? (i := 2) rfl)) (hw _ (List.mem_of_getElem? (i := 190) rfl)) e151 (rm_beginArrayN l Z a0 hw b147 o149 t149 kt149 [(.int (91 : Int32))] (1 : Int32) [(.int (91 : Int32)), (.int (91 : Int32))] (2 : Int32) zCS wSF h151 n0 Z152 E_b147 Fj149 E_o149 Fv151 Fc151 Fn151 V151 S_COMPACT_STRINGS hCS S_SIOOBE_FORMATTER hSF (by decide) g_o149 g_t149 ne_b147_o149 ne_b147_t149 not149 (Or.inr ⟨(91 : Int32), by decide, by decide, rfl, by decide⟩) rfl (by decide)) (notFace_of_selects (args := #[]) (mvT hZ (hw _ (List.mem_of_getElem? (i := 189) rfl)))) (by decide) pd_437 rfl E_b147 (argsL := []) (rest := []) rfl rfl rfl (hb hby at_135) (W0 := 0) rfl (by decide) (by decide) (by decide) (by decide) (fun v153 T153 h153 L153 X153 e153 hQ153 => ?_)
      obtain ⟨rfl, N153q, K153, Eo153, Fv153, Fc153, Fn153, V153⟩ := hQ153
      have N153 := Fr.app N151 N153q
      have SfKK153 := (sfS Sf_o149 (sfS Sf_t149 sf0))
      have nsK153 := (nsS E_o149.nostat (nsS V151.nostat ns0))
      replace S_COMPACT_STRINGS := Sta.keep S_COMPACT_STRINGS K153 nsK153
      replace S_SIOOBE_FORMATTER := Sta.keep S_SIOOBE_FORMATTER K153 nsK153
      replace E_b147 := E_b147.keep K153
      replace Fj149 := Fj149.keep K153 (ninS ne_b147_o149 (ninS ne_b147_t149 nin0))
      replace E_o149 := E_o149.keep K153
      have Z154 : n0 ≤ h153.size := Nat.le_trans Z152 K153.1
      replace Sf_b147 := Safe.keep K153 SfKK153 RC.1 Sf_b147
      replace Sf_o149 := Safe.keep K153 SfKK153 RC.1 Sf_o149
      replace Sf_t149 := Safe.keep K153 SfKK153 RC.1 Sf_t149
      replace RC := RC.trans (CHr.keep K153 SfKK153 RC.1)
      replace hkS := Nat.le_trans hkS K153.1
      show W p e below _ (T153.setTop (mkF m 138 #[.val (.int p0), .val (.int p1), .val (.int (3 : Int32)), .val (.int (1 : Int32)), .val (.ref b147), .unset, .unset, .unset] [(.ref b147)]))
      refine W.go (fun _ hr => XS.pop X153.here hx rfl (hb hby at_138) rfl rfl hr) ?_
      show W p e below _ (T153.setTop (mkF m 139 #[.val (.int p0), .val (.int p1), .val (.int (3 : Int32)), .val (.int (1 : Int32)), .val (.ref b147), .unset, .unset, .unset] []))
      have lt155_b147 : b147 < h153.size := E_b147.lt
      have lt155_o149 : o149 < h153.size := E_o149.lt
      have lt155_t149 : t149 < h153.size := V153.lt
      obtain ⟨s155, T155, h155, kk155, c155, kb155, X155, e155, E155, hS, hkS, hZ, hown, E_s155, F_coder_s155, F_value_s155, V_c155, la155, lb155, hC155, hL155, hne155, st155⟩ := ldcCH X153 hx hZ hown (hw _ (List.mem_of_getElem? (i := 198) rfl)) own_sa' e153 hS hkS own_EW' (List.mem_of_getElem? (i := 10) rfl) RC.1 (vs := [(.int (91 : Int32)), (.int (91 : Int32)), (.int (93 : Int32))]) (z := (3 : Int32)) (by decide) (by decide) (by decide) (g := (mkF m 139 #[.val (.int p0), .val (.int p1), .val (.int (3 : Int32)), .val (.int (1 : Int32)), .val (.ref b147), .unset, .unset, .unset] [])) rfl (hb hby at_139) (n := 12) (by decide) (by decide) (by decide) (by decide)
      replace S_COMPACT_STRINGS := Sta.ext E155 S_COMPACT_STRINGS
      replace S_SIOOBE_FORMATTER := Sta.ext E155 S_SIOOBE_FORMATTER
      replace E_b147 := E_b147.ext E155
      replace Fj149 := Fj149.ext E155
      replace E_o149 := E_o149.ext E155
      replace Fv153 := Fv153.ext E155
      replace Fc153 := Fc153.ext E155
      replace Fn153 := Fn153.ext E155
      replace V153 := V153.ext E155
      have Z156 : n0 ≤ h155.size := Nat.le_trans Z154 E155.1
      replace Sf_b147 := hC155.safe lt155_b147 Sf_b147
      replace Sf_o149 := hC155.safe lt155_o149 Sf_o149
      replace Sf_t149 := hC155.safe lt155_t149 Sf_t149
      replace RC := RC.trans hC155
      have ne_b147_s155 := (hne155 b147 Sf_b147).1
      have ne_b147_c155 := (hne155 b147 Sf_b147).2
      have ne_o149_s155 := (hne155 o149 Sf_o149).1
      have ne_o149_c155 := (hne155 o149 Sf_o149).2
      have ne_t149_s155 := (hne155 t149 Sf_t149).1
      have ne_t149_c155 := (hne155 t149 Sf_t149).2
      refine W.go st155 ?_
      show W p e below _ (T155.setTop (mkF m 141 #[.val (.int p0), .val (.int p1), .val (.int (3 : Int32)), .val (.int (1 : Int32)), .val (.ref b147), .unset, .unset, .unset] [(.ref s155)]))
      refine W.go (fun _ hr => XS.astore X155.here hx rfl (hb hby at_141) rfl rfl (l' := #[.val (.int p0), .val (.int p1), .val (.int (3 : Int32)), .val (.int (1 : Int32)), .val (.ref b147), .val (.ref s155), .unset, .unset]) rfl hr) ?_
      show W p e below _ (T155.setTop (mkF m 143 #[.val (.int p0), .val (.int p1), .val (.int (3 : Int32)), .val (.int (1 : Int32)), .val (.ref b147), .val (.ref s155), .unset, .unset] []))
      refine W.go (fun _ hr => XS.iloadN X155.here hx rfl (hb hby at_143) rfl hr) ?_
      show W p e below _ (T155.setTop (mkF m 144 #[.val (.int p0), .val (.int p1), .val (.int (3 : Int32)), .val (.int (1 : Int32)), .val (.ref b147), .val (.ref s155), .unset, .unset] [(.int (1 : Int32))]))
      refine W.go (fun _ hr => XS.ifNo X155.here hx rfl (hb hby at_144) rfl ((if0 _ _).trans (feq (by decide : ¬ ((1 : Int32) = (0 : Int32)))).1) hr) ?_
      show W p e below _ (T155.setTop (mkF m 147 #[.val (.int p0), .val (.int p1), .val (.int (3 : Int32)), .val (.int (1 : Int32)), .val (.ref b147), .val (.ref s155), .unset, .unset] []))
      have lt157_b147 : b147 < h155.size := E_b147.lt
      have lt157_o149 : o149 < h155.size := E_o149.lt
      have lt157_t149 : t149 < h155.size := V153.lt
      obtain ⟨s157, T157, h157, kk157, c157, kb157, X157, e157, E157, hS, hkS, hZ, hown, E_s157, F_coder_s157, F_value_s157, V_c157, la157, lb157, hC157, hL157, hne157, st157⟩ := ldcCH X155 hx hZ hown (hw _ (List.mem_of_getElem? (i := 200) rfl)) own_sa' e155 hS hkS own_EW' (List.mem_of_getElem? (i := 11) rfl) RC.1 (vs := [(.int (91 : Int32)), (.int (91 : Int32)), (.int (93 : Int32)), (.int (44 : Int32)), (.int (116 : Int32)), (.int (114 : Int32)), (.int (117 : Int32)), (.int (101 : Int32))]) (z := (8 : Int32)) (by decide) (by decide) (by decide) (g := (mkF m 147 #[.val (.int p0), .val (.int p1), .val (.int (3 : Int32)), .val (.int (1 : Int32)), .val (.ref b147), .val (.ref s155), .unset, .unset] [])) rfl (hb hby at_147) (n := 32) (by decide) (by decide) (by decide) (by decide)
      replace S_COMPACT_STRINGS := Sta.ext E157 S_COMPACT_STRINGS
      replace S_SIOOBE_FORMATTER := Sta.ext E157 S_SIOOBE_FORMATTER
      replace E_b147 := E_b147.ext E157
      replace Fj149 := Fj149.ext E157
      replace E_o149 := E_o149.ext E157
      replace Fv153 := Fv153.ext E157
      replace Fc153 := Fc153.ext E157
      replace Fn153 := Fn153.ext E157
      replace V153 := V153.ext E157
      replace E_s155 := E_s155.ext E157
      replace F_coder_s155 := F_coder_s155.ext E157
      replace F_value_s155 := F_value_s155.ext E157
      replace V_c155 := V_c155.ext E157
      have Z158 : n0 ≤ h157.size := Nat.le_trans Z156 E157.1
      replace Sf_b147 := hC157.safe lt157_b147 Sf_b147
      replace Sf_o149 := hC157.safe lt157_o149 Sf_o149
      replace Sf_t149 := hC157.safe lt157_t149 Sf_t149
      replace RC := RC.trans hC157
      have ne_b147_s157 := (hne157 b147 Sf_b147).1
      have ne_b147_c157 := (hne157 b147 Sf_b147).2
      have ne_o149_s157 := (hne157 o149 Sf_o149).1
      have ne_o149_c157 := (hne157 o149 Sf_o149).2
      have ne_t149_s157 := (hne157 t149 Sf_t149).1
      have ne_t149_c157 := (hne157 t149 Sf_t149).2
      refine W.go st157 ?_
      show W p e below _ (T157.setTop (mkF m 149 #[.val (.int p0), .val (.int p1), .val (.int (3 : Int32)), .val (.int (1 : Int32)), .val (.ref b147), .val (.ref s155), .unset, .unset] [(.ref s157)]))
      refine W.go (fun _ hr => XS.goto X157.here hx rfl (pc0 := 149) (pc' := 154) rfl (hb hby at_149) (by decide) (by decide) hr) ?_
      show W p e below _ (T157.setTop (mkF m 154 #[.val (.int p0), .val (.int p1), .val (.int (3 : Int32)), .val (.int (1 : Int32)), .val (.ref b147), .val (.ref s155), .unset, .unset] [(.ref s157)]))
      refine W.go (fun _ hr => XS.astore X157.here hx rfl (hb hby at_154) rfl rfl (l' := #[.val (.int p0), .val (.int p1), .val (.int (3 : Int32)), .val (.int (1 : Int32)), .val (.ref b147), .val (.ref s155), .val (.ref s157), .unset]) rfl hr) ?_
      show W p e below _ (T157.setTop (mkF m 156 #[.val (.int p0), .val (.int p1), .val (.int (3 : Int32)), .val (.int (1 : Int32)), .val (.ref b147), .val (.ref s155), .val (.ref s157), .unset] []))
      refine W.go (fun _ hr => XS.aload X157.here hx rfl (hb hby at_156) rfl rfl hr) ?_
      show W p e below _ (T157.setTop (mkF m 158 #[.val (.int p0), .val (.int p1), .val (.int (3 : Int32)), .val (.int (1 : Int32)), .val (.ref b147), .val (.ref s155), .val (.ref s157), .unset] [(.ref b147)]))
      refine W.callV X157 hx hZ hown (g := (mkF m 158 #[.val (.int p0), .val (.int p1), .val (.int (3 : Int32)), .val (.int (1 : Int32)), .val (.ref b147), .val (.ref s155), .val (.ref s157), .unset] [(.ref b147)])) (by rw [hml]; rfl) (hw _ (List.mem_of_getElem? (i := 38) rfl)) (hw _ (List.mem_of_getElem? (i := 39) rfl)) (hw _ (List.mem_of_getElem? (i := 41) rfl)) (hw _ (List.mem_of_getElem? (i := 40) rfl)) (hw _ (List.mem_of_getElem? (i := 2) rfl)) (hw _ (List.mem_of_getElem? (i := 42) rfl)) e157 (rm_endArray l Z a0 hw b147 o149 t149 kt149 [(.int (91 : Int32)), (.int (91 : Int32))] (2 : Int32) [(.int (91 : Int32)), (.int (91 : Int32)), (.int (93 : Int32))] (3 : Int32) zCS wSF h157 n0 Z158 E_b147 Fj149 E_o149 Fv153 Fc153 Fn153 V153 S_COMPACT_STRINGS hCS S_SIOOBE_FORMATTER hSF (by decide) g_o149 g_t149 ne_b147_o149 ne_b147_t149 not149  rfl (by decide)) (notFace_of_selects (args := #[]) (mvT hZ (hw _ (List.mem_of_getElem? (i := 41) rfl)))) (by decide) pd_437 rfl E_b147 (argsL := []) (rest := []) rfl rfl rfl (hb hby at_158) (W0 := 0) rfl (by decide) (by decide) (by decide) (by decide) (fun v159 T159 h159 L159 X159 e159 hQ159 => ?_)
      obtain ⟨rfl, N159q, K159, Eo159, Fv159, Fc159, Fn159, V159⟩ := hQ159
      have N159 := Fr.app N153 N159q
      have SfKK159 := (sfS Sf_o149 (sfS Sf_t149 sf0))
      have nsK159 := (nsS E_o149.nostat (nsS V153.nostat ns0))
      replace S_COMPACT_STRINGS := Sta.keep S_COMPACT_STRINGS K159 nsK159
      replace S_SIOOBE_FORMATTER := Sta.keep S_SIOOBE_FORMATTER K159 nsK159
      replace E_b147 := E_b147.keep K159
      replace Fj149 := Fj149.keep K159 (ninS ne_b147_o149 (ninS ne_b147_t149 nin0))
      replace E_o149 := E_o149.keep K159
      replace E_s155 := E_s155.keep K159
      replace F_coder_s155 := F_coder_s155.keep K159 (ninS (Ne.symm ne_o149_s155) (ninS (Ne.symm ne_t149_s155) nin0))
      replace F_value_s155 := F_value_s155.keep K159 (ninS (Ne.symm ne_o149_s155) (ninS (Ne.symm ne_t149_s155) nin0))
      replace V_c155 := V_c155.keep K159 (ninS (Ne.symm ne_o149_c155) (ninS (Ne.symm ne_t149_c155) nin0))
      replace E_s157 := E_s157.keep K159
      replace F_coder_s157 := F_coder_s157.keep K159 (ninS (Ne.symm ne_o149_s157) (ninS (Ne.symm ne_t149_s157) nin0))
      replace F_value_s157 := F_value_s157.keep K159 (ninS (Ne.symm ne_o149_s157) (ninS (Ne.symm ne_t149_s157) nin0))
      replace V_c157 := V_c157.keep K159 (ninS (Ne.symm ne_o149_c157) (ninS (Ne.symm ne_t149_c157) nin0))
      have Z160 : n0 ≤ h159.size := Nat.le_trans Z158 K159.1
      replace Sf_b147 := Safe.keep K159 SfKK159 RC.1 Sf_b147
      replace Sf_o149 := Safe.keep K159 SfKK159 RC.1 Sf_o149
      replace Sf_t149 := Safe.keep K159 SfKK159 RC.1 Sf_t149
      replace RC := RC.trans (CHr.keep K159 SfKK159 RC.1)
      replace hkS := Nat.le_trans hkS K159.1
      show W p e below _ (T159.setTop (mkF m 161 #[.val (.int p0), .val (.int p1), .val (.int (3 : Int32)), .val (.int (1 : Int32)), .val (.ref b147), .val (.ref s155), .val (.ref s157), .unset] [(.ref b147)]))
      refine W.go (fun _ hr => XS.astore X159.here hx rfl (hb hby at_161) rfl rfl (l' := #[.val (.int p0), .val (.int p1), .val (.int (3 : Int32)), .val (.int (1 : Int32)), .val (.ref b147), .val (.ref s155), .val (.ref s157), .val (.ref b147)]) rfl hr) ?_
      show W p e below _ (T159.setTop (mkF m 163 #[.val (.int p0), .val (.int p1), .val (.int (3 : Int32)), .val (.int (1 : Int32)), .val (.ref b147), .val (.ref s155), .val (.ref s157), .val (.ref b147)] []))
      refine W.go (fun _ hr => XS.aload X159.here hx rfl (hb hby at_163) rfl rfl hr) ?_
      show W p e below _ (T159.setTop (mkF m 165 #[.val (.int p0), .val (.int p1), .val (.int (3 : Int32)), .val (.int (1 : Int32)), .val (.ref b147), .val (.ref s155), .val (.ref s157), .val (.ref b147)] [(.ref b147)]))
      refine W.go (fun _ hr => XS.aload X159.here hx rfl (hb hby at_165) rfl rfl hr) ?_
      show W p e below _ (T159.setTop (mkF m 167 #[.val (.int p0), .val (.int p1), .val (.int (3 : Int32)), .val (.int (1 : Int32)), .val (.ref b147), .val (.ref s155), .val (.ref s157), .val (.ref b147)] [(.ref b147), (.ref b147)]))
      refine W.go (fun _ hr => Jvm.RoadKit.acmp (g := (mkF m 167 #[.val (.int p0), .val (.int p1), .val (.int (3 : Int32)), .val (.int (1 : Int32)), .val (.ref b147), .val (.ref s155), .val (.ref s157), .val (.ref b147)] [(.ref b147), (.ref b147)])) X159 hx rfl rfl rfl (pc0 := 167) (pc' := 172) (same := true) rfl (hb hby at_167) rfl (decide_eq_true rfl) (by decide) (by decide) hr) ?_
      show W p e below _ (T159.setTop (mkF m 172 #[.val (.int p0), .val (.int p1), .val (.int (3 : Int32)), .val (.int (1 : Int32)), .val (.ref b147), .val (.ref s155), .val (.ref s157), .val (.ref b147)] []))
      refine W.go (fun _ hr => XS.aload X159.here hx rfl (hb hby at_172) rfl rfl hr) ?_
      show W p e below _ (T159.setTop (mkF m 174 #[.val (.int p0), .val (.int p1), .val (.int (3 : Int32)), .val (.int (1 : Int32)), .val (.ref b147), .val (.ref s155), .val (.ref s157), .val (.ref b147)] [(.ref b147)]))
      refine W.callV X159 hx hZ hown (g := (mkF m 174 #[.val (.int p0), .val (.int p1), .val (.int (3 : Int32)), .val (.int (1 : Int32)), .val (.ref b147), .val (.ref s155), .val (.ref s157), .val (.ref b147)] [(.ref b147)])) (by rw [hml]; rfl) (hw _ (List.mem_of_getElem? (i := 69) rfl)) (hw _ (List.mem_of_getElem? (i := 70) rfl)) (hw _ (List.mem_of_getElem? (i := 72) rfl)) (hw _ (List.mem_of_getElem? (i := 71) rfl)) (hw _ (List.mem_of_getElem? (i := 2) rfl)) (hw _ (List.mem_of_getElem? (i := 73) rfl)) e159 (rm11 l Z a0 hw b147 o149 t149 kt149 [(.int (91 : Int32)), (.int (91 : Int32)), (.int (93 : Int32))] (3 : Int32) zCS h159 n0 Z160 E_b147 Fj149 E_o149 Fv159 Fc159 Fn159 V159 S_COMPACT_STRINGS hCS (by decide)) (notFace_of_selects (args := #[]) (mvT hZ (hw _ (List.mem_of_getElem? (i := 72) rfl)))) (by decide) pd_425 rfl E_b147 (argsL := []) (rest := []) rfl rfl rfl (hb hby at_174) (W0 := 0) rfl (by decide) (by decide) (by decide) (by decide) (fun v161 T161 h161 L161 X161 e161 hQ161 => ?_)
      obtain ⟨o161, b161, kb161, rfl, N161q, K161, so161, sb161, nob161, E_o161, F_value_o161, F_coder_o161, E_b161, V_b161⟩ := hQ161
      have N161 := Fr.app N159 N161q
      have ne_b147_o161 : b147 ≠ o161 := Nat.ne_of_lt (Nat.lt_of_lt_of_le E_b147.lt so161)
      have ne_o149_o161 : o149 ≠ o161 := Nat.ne_of_lt (Nat.lt_of_lt_of_le E_o149.lt so161)
      have ne_s155_o161 : s155 ≠ o161 := Nat.ne_of_lt (Nat.lt_of_lt_of_le E_s155.lt so161)
      have ne_c155_o161 : c155 ≠ o161 := Nat.ne_of_lt (Nat.lt_of_lt_of_le V_c155.lt so161)
      have ne_s157_o161 : s157 ≠ o161 := Nat.ne_of_lt (Nat.lt_of_lt_of_le E_s157.lt so161)
      have ne_c157_o161 : c157 ≠ o161 := Nat.ne_of_lt (Nat.lt_of_lt_of_le V_c157.lt so161)
      have ne_t149_o161 : t149 ≠ o161 := Nat.ne_of_lt (Nat.lt_of_lt_of_le V159.lt so161)
      have Sf_o161 : Safe Z EL T157.vm h159 o161 := Safe.new so161
      have g_o161 : n0 ≤ o161 := Nat.le_trans Z160 so161
      have ne_b147_b161 : b147 ≠ b161 := Nat.ne_of_lt (Nat.lt_of_lt_of_le E_b147.lt sb161)
      have ne_o149_b161 : o149 ≠ b161 := Nat.ne_of_lt (Nat.lt_of_lt_of_le E_o149.lt sb161)
      have ne_s155_b161 : s155 ≠ b161 := Nat.ne_of_lt (Nat.lt_of_lt_of_le E_s155.lt sb161)
      have ne_c155_b161 : c155 ≠ b161 := Nat.ne_of_lt (Nat.lt_of_lt_of_le V_c155.lt sb161)
      have ne_s157_b161 : s157 ≠ b161 := Nat.ne_of_lt (Nat.lt_of_lt_of_le E_s157.lt sb161)
      have ne_c157_b161 : c157 ≠ b161 := Nat.ne_of_lt (Nat.lt_of_lt_of_le V_c157.lt sb161)
      have ne_t149_b161 : t149 ≠ b161 := Nat.ne_of_lt (Nat.lt_of_lt_of_le V159.lt sb161)
      have Sf_b161 : Safe Z EL T157.vm h159 b161 := Safe.new sb161
      have g_b161 : n0 ≤ b161 := Nat.le_trans Z160 sb161
      have SfKK161 : ∀ x ∈ ([] : List Addr), Safe Z EL T157.vm h159 x := sf0
      replace S_COMPACT_STRINGS := Sta.keep S_COMPACT_STRINGS K161 ns0
      replace S_SIOOBE_FORMATTER := Sta.keep S_SIOOBE_FORMATTER K161 ns0
      replace E_b147 := E_b147.keep K161
      replace Fj149 := Fj149.keep K161 nin0
      replace E_o149 := E_o149.keep K161
      replace E_s155 := E_s155.keep K161
      replace F_coder_s155 := F_coder_s155.keep K161 nin0
      replace F_value_s155 := F_value_s155.keep K161 nin0
      replace V_c155 := V_c155.keep K161 nin0
      replace E_s157 := E_s157.keep K161
      replace F_coder_s157 := F_coder_s157.keep K161 nin0
      replace F_value_s157 := F_value_s157.keep K161 nin0
      replace V_c157 := V_c157.keep K161 nin0
      replace Fv159 := Fv159.keep K161 nin0
      replace Fc159 := Fc159.keep K161 nin0
      replace Fn159 := Fn159.keep K161 nin0
      replace V159 := V159.keep K161 nin0
      have Z162 : n0 ≤ h161.size := Nat.le_trans Z160 K161.1
      replace Sf_b147 := Safe.keep K161 SfKK161 RC.1 Sf_b147
      replace Sf_o149 := Safe.keep K161 SfKK161 RC.1 Sf_o149
      replace Sf_t149 := Safe.keep K161 SfKK161 RC.1 Sf_t149
      replace Sf_o161 := Safe.keep K161 SfKK161 RC.1 Sf_o161
      replace Sf_b161 := Safe.keep K161 SfKK161 RC.1 Sf_b161
      replace RC := RC.trans (CHr.keep K161 SfKK161 RC.1)
      replace hkS := Nat.le_trans hkS K161.1
      show W p e below _ (T161.setTop (mkF m 177 #[.val (.int p0), .val (.int p1), .val (.int (3 : Int32)), .val (.int (1 : Int32)), .val (.ref b147), .val (.ref s155), .val (.ref s157), .val (.ref b147)] [(.ref o161)]))
      refine W.go (fun _ hr => XS.aload X161.here hx rfl (hb hby at_177) rfl rfl hr) ?_
      show W p e below _ (T161.setTop (mkF m 179 #[.val (.int p0), .val (.int p1), .val (.int (3 : Int32)), .val (.int (1 : Int32)), .val (.ref b147), .val (.ref s155), .val (.ref s157), .val (.ref b147)] [(.ref s155), (.ref o161)]))
      refine W.callV X161 hx hZ hown (g := (mkF m 179 #[.val (.int p0), .val (.int p1), .val (.int (3 : Int32)), .val (.int (1 : Int32)), .val (.ref b147), .val (.ref s155), .val (.ref s157), .val (.ref b147)] [(.ref s155), (.ref o161)])) (by rw [hml]; rfl) (hw _ (List.mem_of_getElem? (i := 122) rfl)) (hw _ (List.mem_of_getElem? (i := 123) rfl)) (hw _ (List.mem_of_getElem? (i := 125) rfl)) (hw _ (List.mem_of_getElem? (i := 124) rfl)) (hw _ (List.mem_of_getElem? (i := 23) rfl)) (hw _ (List.mem_of_getElem? (i := 126) rfl)) e161 (rm22 l Z a0 hw o161 s155 b161 c155 kb161 kb155 (3 : Int32) (3 : Int32) [(91 : Int32), (91 : Int32), (93 : Int32)] [(91 : Int32), (91 : Int32), (93 : Int32)] (1 : Int32) zCS h161 n0 Z162 E_o161 F_value_o161 F_coder_o161 V_b161 E_s155 F_value_s155 F_coder_s155 V_c155 (by decide) (by decide) (Ne.symm ne_s155_o161) S_COMPACT_STRINGS hCS) (notFace_of_selects (args := #[]) (mvT hZ (hw _ (List.mem_of_getElem? (i := 125) rfl)))) (by decide) pd_438 rfl E_o161 (argsL := [(.ref s155)]) (rest := []) rfl rfl rfl (hb hby at_179) (W0 := 0) rfl (by decide) (by decide) (by decide) (by decide) (fun v163 T163 h163 L163 X163 e163 hQ163 => ?_)
      obtain ⟨rfl, N163q, hh163⟩ := hQ163
      obtain rfl := hh163.symm
      have N163 := Fr.app N161 N163q
      show W p e below _ (T163.setTop (mkF m 182 #[.val (.int p0), .val (.int p1), .val (.int (3 : Int32)), .val (.int (1 : Int32)), .val (.ref b147), .val (.ref s155), .val (.ref s157), .val (.ref b147)] [(.int (1 : Int32))]))
      refine W.go (fun _ hr => XS.ifYes X163.here hx rfl (pc0 := 182) (pc' := 187) rfl (hb hby at_182) rfl ((if0 _ _).trans (feq (by decide : ¬ ((1 : Int32) = (0 : Int32)))).2) (by decide) (by decide) hr) ?_
      show W p e below _ (T163.setTop (mkF m 187 #[.val (.int p0), .val (.int p1), .val (.int (3 : Int32)), .val (.int (1 : Int32)), .val (.ref b147), .val (.ref s155), .val (.ref s157), .val (.ref b147)] []))
      refine W.go (fun _ hr => XS.aload X163.here hx rfl (hb hby at_187) rfl rfl hr) ?_
      show W p e below _ (T163.setTop (mkF m 189 #[.val (.int p0), .val (.int p1), .val (.int (3 : Int32)), .val (.int (1 : Int32)), .val (.ref b147), .val (.ref s155), .val (.ref s157), .val (.ref b147)] [(.ref b147)]))
      refine W.go (fun _ hr => XS.iloadN X163.here hx rfl (hb hby at_189) rfl hr) ?_
      show W p e below _ (T163.setTop (mkF m 190 #[.val (.int p0), .val (.int p1), .val (.int (3 : Int32)), .val (.int (1 : Int32)), .val (.ref b147), .val (.ref s155), .val (.ref s157), .val (.ref b147)] [(.int (1 : Int32)), (.ref b147)]))
      refine W.callV X163 hx hZ hown (g := (mkF m 190 #[.val (.int p0), .val (.int p1), .val (.int (3 : Int32)), .val (.int (1 : Int32)), .val (.ref b147), .val (.ref s155), .val (.ref s157), .val (.ref b147)] [(.int (1 : Int32)), (.ref b147)])) (by rw [hml]; rfl) (hw _ (List.mem_of_getElem? (i := 132) rfl)) (hw _ (List.mem_of_getElem? (i := 133) rfl)) (hw _ (List.mem_of_getElem? (i := 135) rfl)) (hw _ (List.mem_of_getElem? (i := 134) rfl)) (hw _ (List.mem_of_getElem? (i := 2) rfl)) (hw _ (List.mem_of_getElem? (i := 136) rfl)) e163 (rm_value1Y l Z a0 hw b147 o149 t149 kt149 [(.int (91 : Int32)), (.int (91 : Int32)), (.int (93 : Int32))] (3 : Int32) (93 : Int32) [(.int (91 : Int32)), (.int (91 : Int32)), (.int (93 : Int32)), (.int (44 : Int32)), (.int (116 : Int32)), (.int (114 : Int32)), (.int (117 : Int32)), (.int (101 : Int32))] (8 : Int32) zCS wSF h161 n0 Z162 E_b147 Fj149 E_o149 Fv159 Fc159 Fn159 V159 S_COMPACT_STRINGS hCS S_SIOOBE_FORMATTER hSF (by decide) g_o149 g_t149 ne_b147_o149 ne_b147_t149 not149 ⟨by decide, by decide, by decide, rfl, by decide, by decide, by decide⟩ rfl (by decide)) (notFace_of_selects (args := #[]) (mvT hZ (hw _ (List.mem_of_getElem? (i := 135) rfl)))) (by decide) pd_439 rfl E_b147 (argsL := [(.int (1 : Int32))]) (rest := []) rfl rfl rfl (hb hby at_190) (W0 := 0) rfl (by decide) (by decide) (by decide) (by decide) (fun v164 T164 h164 L164 X164 e164 hQ164 => ?_)
      obtain ⟨rfl, N164q, K164, Eo164, Fv164, Fc164, Fn164, V164⟩ := hQ164
      have N164 := Fr.app N163 N164q
      have SfKK164 := (sfS Sf_o149 (sfS Sf_t149 sf0))
      have nsK164 := (nsS E_o149.nostat (nsS V159.nostat ns0))
      replace S_COMPACT_STRINGS := Sta.keep S_COMPACT_STRINGS K164 nsK164
      replace S_SIOOBE_FORMATTER := Sta.keep S_SIOOBE_FORMATTER K164 nsK164
      replace E_b147 := E_b147.keep K164
      replace Fj149 := Fj149.keep K164 (ninS ne_b147_o149 (ninS ne_b147_t149 nin0))
      replace E_o149 := E_o149.keep K164
      replace E_s155 := E_s155.keep K164
      replace F_coder_s155 := F_coder_s155.keep K164 (ninS (Ne.symm ne_o149_s155) (ninS (Ne.symm ne_t149_s155) nin0))
      replace F_value_s155 := F_value_s155.keep K164 (ninS (Ne.symm ne_o149_s155) (ninS (Ne.symm ne_t149_s155) nin0))
      replace V_c155 := V_c155.keep K164 (ninS (Ne.symm ne_o149_c155) (ninS (Ne.symm ne_t149_c155) nin0))
      replace E_s157 := E_s157.keep K164
      replace F_coder_s157 := F_coder_s157.keep K164 (ninS (Ne.symm ne_o149_s157) (ninS (Ne.symm ne_t149_s157) nin0))
      replace F_value_s157 := F_value_s157.keep K164 (ninS (Ne.symm ne_o149_s157) (ninS (Ne.symm ne_t149_s157) nin0))
      replace V_c157 := V_c157.keep K164 (ninS (Ne.symm ne_o149_c157) (ninS (Ne.symm ne_t149_c157) nin0))
      replace E_o161 := E_o161.keep K164
      replace F_value_o161 := F_value_o161.keep K164 (ninS (Ne.symm ne_o149_o161) (ninS (Ne.symm ne_t149_o161) nin0))
      replace F_coder_o161 := F_coder_o161.keep K164 (ninS (Ne.symm ne_o149_o161) (ninS (Ne.symm ne_t149_o161) nin0))
      replace E_b161 := E_b161.keep K164
      replace V_b161 := V_b161.keep K164 (ninS (Ne.symm ne_o149_b161) (ninS (Ne.symm ne_t149_b161) nin0))
      have Z165 : n0 ≤ h164.size := Nat.le_trans Z162 K164.1
      replace Sf_b147 := Safe.keep K164 SfKK164 RC.1 Sf_b147
      replace Sf_o149 := Safe.keep K164 SfKK164 RC.1 Sf_o149
      replace Sf_t149 := Safe.keep K164 SfKK164 RC.1 Sf_t149
      replace Sf_o161 := Safe.keep K164 SfKK164 RC.1 Sf_o161
      replace Sf_b161 := Safe.keep K164 SfKK164 RC.1 Sf_b161
      replace RC := RC.trans (CHr.keep K164 SfKK164 RC.1)
      replace hkS := Nat.le_trans hkS K164.1
      show W p e below _ (T164.setTop (mkF m 193 #[.val (.int p0), .val (.int p1), .val (.int (3 : Int32)), .val (.int (1 : Int32)), .val (.ref b147), .val (.ref s155), .val (.ref s157), .val (.ref b147)] [(.ref b147)]))
      refine W.go (fun _ hr => XS.pop X164.here hx rfl (hb hby at_193) rfl rfl hr) ?_
      show W p e below _ (T164.setTop (mkF m 194 #[.val (.int p0), .val (.int p1), .val (.int (3 : Int32)), .val (.int (1 : Int32)), .val (.ref b147), .val (.ref s155), .val (.ref s157), .val (.ref b147)] []))
      refine W.go (fun _ hr => XS.aload X164.here hx rfl (hb hby at_194) rfl rfl hr) ?_
      show W p e below _ (T164.setTop (mkF m 196 #[.val (.int p0), .val (.int p1), .val (.int (3 : Int32)), .val (.int (1 : Int32)), .val (.ref b147), .val (.ref s155), .val (.ref s157), .val (.ref b147)] [(.ref b147)]))
      refine W.callV X164 hx hZ hown (g := (mkF m 196 #[.val (.int p0), .val (.int p1), .val (.int (3 : Int32)), .val (.int (1 : Int32)), .val (.ref b147), .val (.ref s155), .val (.ref s157), .val (.ref b147)] [(.ref b147)])) (by rw [hml]; rfl) (hw _ (List.mem_of_getElem? (i := 69) rfl)) (hw _ (List.mem_of_getElem? (i := 70) rfl)) (hw _ (List.mem_of_getElem? (i := 72) rfl)) (hw _ (List.mem_of_getElem? (i := 71) rfl)) (hw _ (List.mem_of_getElem? (i := 2) rfl)) (hw _ (List.mem_of_getElem? (i := 73) rfl)) e164 (rm11 l Z a0 hw b147 o149 t149 kt149 [(.int (91 : Int32)), (.int (91 : Int32)), (.int (93 : Int32)), (.int (44 : Int32)), (.int (116 : Int32)), (.int (114 : Int32)), (.int (117 : Int32)), (.int (101 : Int32))] (8 : Int32) zCS h164 n0 Z165 E_b147 Fj149 E_o149 Fv164 Fc164 Fn164 V164 S_COMPACT_STRINGS hCS (by decide)) (notFace_of_selects (args := #[]) (mvT hZ (hw _ (List.mem_of_getElem? (i := 72) rfl)))) (by decide) pd_425 rfl E_b147 (argsL := []) (rest := []) rfl rfl rfl (hb hby at_196) (W0 := 0) rfl (by decide) (by decide) (by decide) (by decide) (fun v166 T166 h166 L166 X166 e166 hQ166 => ?_)
      obtain ⟨o166, b166, kb166, rfl, N166q, K166, so166, sb166, nob166, E_o166, F_value_o166, F_coder_o166, E_b166, V_b166⟩ := hQ166
      have N166 := Fr.app N164 N166q
      have ne_b147_o166 : b147 ≠ o166 := Nat.ne_of_lt (Nat.lt_of_lt_of_le E_b147.lt so166)
      have ne_o149_o166 : o149 ≠ o166 := Nat.ne_of_lt (Nat.lt_of_lt_of_le E_o149.lt so166)
      have ne_s155_o166 : s155 ≠ o166 := Nat.ne_of_lt (Nat.lt_of_lt_of_le E_s155.lt so166)
      have ne_c155_o166 : c155 ≠ o166 := Nat.ne_of_lt (Nat.lt_of_lt_of_le V_c155.lt so166)
      have ne_s157_o166 : s157 ≠ o166 := Nat.ne_of_lt (Nat.lt_of_lt_of_le E_s157.lt so166)
      have ne_c157_o166 : c157 ≠ o166 := Nat.ne_of_lt (Nat.lt_of_lt_of_le V_c157.lt so166)
      have ne_o161_o166 : o161 ≠ o166 := Nat.ne_of_lt (Nat.lt_of_lt_of_le E_o161.lt so166)
      have ne_b161_o166 : b161 ≠ o166 := Nat.ne_of_lt (Nat.lt_of_lt_of_le E_b161.lt so166)
      have ne_t149_o166 : t149 ≠ o166 := Nat.ne_of_lt (Nat.lt_of_lt_of_le V164.lt so166)
      have Sf_o166 : Safe Z EL T157.vm h164 o166 := Safe.new so166
      have g_o166 : n0 ≤ o166 := Nat.le_trans Z165 so166
      have ne_b147_b166 : b147 ≠ b166 := Nat.ne_of_lt (Nat.lt_of_lt_of_le E_b147.lt sb166)
      have ne_o149_b166 : o149 ≠ b166 := Nat.ne_of_lt (Nat.lt_of_lt_of_le E_o149.lt sb166)
      have ne_s155_b166 : s155 ≠ b166 := Nat.ne_of_lt (Nat.lt_of_lt_of_le E_s155.lt sb166)
      have ne_c155_b166 : c155 ≠ b166 := Nat.ne_of_lt (Nat.lt_of_lt_of_le V_c155.lt sb166)
      have ne_s157_b166 : s157 ≠ b166 := Nat.ne_of_lt (Nat.lt_of_lt_of_le E_s157.lt sb166)
      have ne_c157_b166 : c157 ≠ b166 := Nat.ne_of_lt (Nat.lt_of_lt_of_le V_c157.lt sb166)
      have ne_o161_b166 : o161 ≠ b166 := Nat.ne_of_lt (Nat.lt_of_lt_of_le E_o161.lt sb166)
      have ne_b161_b166 : b161 ≠ b166 := Nat.ne_of_lt (Nat.lt_of_lt_of_le E_b161.lt sb166)
      have ne_t149_b166 : t149 ≠ b166 := Nat.ne_of_lt (Nat.lt_of_lt_of_le V164.lt sb166)
      have Sf_b166 : Safe Z EL T157.vm h164 b166 := Safe.new sb166
      have g_b166 : n0 ≤ b166 := Nat.le_trans Z165 sb166
      have SfKK166 : ∀ x ∈ ([] : List Addr), Safe Z EL T157.vm h164 x := sf0
      replace S_COMPACT_STRINGS := Sta.keep S_COMPACT_STRINGS K166 ns0
      replace S_SIOOBE_FORMATTER := Sta.keep S_SIOOBE_FORMATTER K166 ns0
      replace E_b147 := E_b147.keep K166
      replace Fj149 := Fj149.keep K166 nin0
      replace E_o149 := E_o149.keep K166
      replace E_s155 := E_s155.keep K166
      replace F_coder_s155 := F_coder_s155.keep K166 nin0
      replace F_value_s155 := F_value_s155.keep K166 nin0
      replace V_c155 := V_c155.keep K166 nin0
      replace E_s157 := E_s157.keep K166
      replace F_coder_s157 := F_coder_s157.keep K166 nin0
      replace F_value_s157 := F_value_s157.keep K166 nin0
      replace V_c157 := V_c157.keep K166 nin0
      replace E_o161 := E_o161.keep K166
      replace F_value_o161 := F_value_o161.keep K166 nin0
      replace F_coder_o161 := F_coder_o161.keep K166 nin0
      replace E_b161 := E_b161.keep K166
      replace V_b161 := V_b161.keep K166 nin0
      replace Fv164 := Fv164.keep K166 nin0
      replace Fc164 := Fc164.keep K166 nin0
      replace Fn164 := Fn164.keep K166 nin0
      replace V164 := V164.keep K166 nin0
      have Z167 : n0 ≤ h166.size := Nat.le_trans Z165 K166.1
      replace Sf_b147 := Safe.keep K166 SfKK166 RC.1 Sf_b147
      replace Sf_o149 := Safe.keep K166 SfKK166 RC.1 Sf_o149
      replace Sf_t149 := Safe.keep K166 SfKK166 RC.1 Sf_t149
      replace Sf_o161 := Safe.keep K166 SfKK166 RC.1 Sf_o161
      replace Sf_b161 := Safe.keep K166 SfKK166 RC.1 Sf_b161
      replace Sf_o166 := Safe.keep K166 SfKK166 RC.1 Sf_o166
      replace Sf_b166 := Safe.keep K166 SfKK166 RC.1 Sf_b166
      replace RC := RC.trans (CHr.keep K166 SfKK166 RC.1)
      replace hkS := Nat.le_trans hkS K166.1
      show W p e below _ (T166.setTop (mkF m 199 #[.val (.int p0), .val (.int p1), .val (.int (3 : Int32)), .val (.int (1 : Int32)), .val (.ref b147), .val (.ref s155), .val (.ref s157), .val (.ref b147)] [(.ref o166)]))
      refine W.go (fun _ hr => XS.aload X166.here hx rfl (hb hby at_199) rfl rfl hr) ?_
      show W p e below _ (T166.setTop (mkF m 201 #[.val (.int p0), .val (.int p1), .val (.int (3 : Int32)), .val (.int (1 : Int32)), .val (.ref b147), .val (.ref s155), .val (.ref s157), .val (.ref b147)] [(.ref s157), (.ref o166)]))
      refine W.callV X166 hx hZ hown (g := (mkF m 201 #[.val (.int p0), .val (.int p1), .val (.int (3 : Int32)), .val (.int (1 : Int32)), .val (.ref b147), .val (.ref s155), .val (.ref s157), .val (.ref b147)] [(.ref s157), (.ref o166)])) (by rw [hml]; rfl) (hw _ (List.mem_of_getElem? (i := 122) rfl)) (hw _ (List.mem_of_getElem? (i := 123) rfl)) (hw _ (List.mem_of_getElem? (i := 125) rfl)) (hw _ (List.mem_of_getElem? (i := 124) rfl)) (hw _ (List.mem_of_getElem? (i := 23) rfl)) (hw _ (List.mem_of_getElem? (i := 126) rfl)) e166 (rm22 l Z a0 hw o166 s157 b166 c157 kb166 kb157 (8 : Int32) (8 : Int32) [(91 : Int32), (91 : Int32), (93 : Int32), (44 : Int32), (116 : Int32), (114 : Int32), (117 : Int32), (101 : Int32)] [(91 : Int32), (91 : Int32), (93 : Int32), (44 : Int32), (116 : Int32), (114 : Int32), (117 : Int32), (101 : Int32)] (1 : Int32) zCS h166 n0 Z167 E_o166 F_value_o166 F_coder_o166 V_b166 E_s157 F_value_s157 F_coder_s157 V_c157 (by decide) (by decide) (Ne.symm ne_s157_o166) S_COMPACT_STRINGS hCS) (notFace_of_selects (args := #[]) (mvT hZ (hw _ (List.mem_of_getElem? (i := 125) rfl)))) (by decide) pd_438 rfl E_o166 (argsL := [(.ref s157)]) (rest := []) rfl rfl rfl (hb hby at_201) (W0 := 0) rfl (by decide) (by decide) (by decide) (by decide) (fun v168 T168 h168 L168 X168 e168 hQ168 => ?_)
      obtain ⟨rfl, N168q, hh168⟩ := hQ168
      obtain rfl := hh168.symm
      have N168 := Fr.app N166 N168q
      show W p e below _ (T168.setTop (mkF m 204 #[.val (.int p0), .val (.int p1), .val (.int (3 : Int32)), .val (.int (1 : Int32)), .val (.ref b147), .val (.ref s155), .val (.ref s157), .val (.ref b147)] [(.int (1 : Int32))]))
      exact W.retBW X168 hx hlk (t := .boolean) hret (by simp) (hb hby at_204) hS hkS hZ own_EW' RC (by decide) (by decide) e168 ⟨rfl, N168⟩
set_option maxRecDepth 65536 in
set_option maxHeartbeats 40000000 in
theorem comes_1 {Post : Tables → Env → Array Value → State → Outcome → State → Prop} (hpost : ∀ tb e args s v u, (limb_1_1.after args s (.returned v) u = true ∧ limb_1_2.after args s (.returned v) u = true ∧ True) → ReturnedEndW s (.returned v) u (Jvm.fieldLocs frame_1_writes args s ++ Jvm.arrayLocs frame_1_arrays args s ++ Jvm.staticLocs frame_1_statics s) 48 15552 → Post tb e args s (.returned v) u) :
    ArmFor flags0 classFile x code maxLocals ret World_1 tables_1 room_1 Calls_1 rest_1 Pre_1 Post := by
  intro l hfl _ _ p e ha hc hk s m args below hf hA hF happ hP
  obtain ⟨hcalls, hrest, hpre⟩ := hP
  obtain ⟨-, -, -, hnamed, -, -, -, hat⟩ := (Spec.applies_iff hf).mp happ
  obtain ⟨hg, hn⟩ := and_e (Cond.before_iff.mp (show (Jvm.Cond.and given_1 narrow_1).before args s = true from hpre))
  obtain ⟨c1, c2⟩ := and_e hg
  obtain ⟨c3, c4⟩ := and_e c2
  obtain ⟨w0, w1, rfl⟩ : ∃ w0 w1 : Value, args = #[w0, w1] := by
    have hs : args.size = 2 := by simpa [Cond.value, given_1] using c1
    obtain ⟨L⟩ := args
    match L, hs with
    | [w0, w1], _ => exact ⟨w0, w1, rfl⟩
  have hw := fun d (hd : d ∈ tables_1) => atoms_spec (ws := Jvm.Cond.code x code maxLocals ret :: tables_1) hat d (List.mem_cons_of_mem _ hd)
  have hfit : Fit s := fun {y c} hc i hi => by
    obtain ⟨ha, rfl⟩ := Array.getElem?_eq_some_iff.mp hc
    have q := List.all_eq_true.mp ((Array.all_eq_true_iff_forall_mem.mp hF) _ (Array.getElem_mem ha)) i (List.mem_range.mpr hi)
    simpa [Array.getElem?_eq_getElem hi] using q
  obtain ⟨hsets, hown0⟩ := atoms_of _ (rest_1_c_eq ▸ (show rest_1_c.before _ s = true from hrest))
  have hr0 := Cond.before_iff.mp hown0
  obtain ⟨i0, ei0⟩ := is_v c3
  obtain rfl : w0 = (.int i0) := Option.some.inj ei0
  obtain ⟨i1, ei1⟩ := is_v c4
  obtain rfl : w1 = (.int i1) := Option.some.inj ei1
  -- hn : Jvm.Cond.tt
  obtain ⟨zCS, ez⟩ := is_v (Cond.before_iff.mp (hsets _ (List.mem_of_getElem? (i := 1) rfl)))
  have S_COMPACT_STRINGS : Sta s s.heap "java/lang/String" "COMPACT_STRINGS" "Z" (.int zCS) := Sta.start ez (Or.inl (hsets _ (List.mem_of_getElem? (i := 0) rfl)))
  have hCS : ¬ zCS = 0 := by
    have n3 := not_v (Cond.before_iff.mp (hsets _ (List.mem_of_getElem? (i := 2) rfl)))
    intro q
    subst q
    have r := eq_i ez (Term.int_eval (0 : Int32)) rfl
    rw [r] at n3
    cases n3
  obtain ⟨wSF, eSF, hSF⟩ := isR_v (Cond.before_iff.mp (hsets _ (List.mem_of_getElem? (i := 8) rfl)))
  have S_SF := Sta.start eSF (Or.inl (hsets _ (List.mem_of_getElem? (i := 7) rfl)))
  have hCH : CHv s EL s.vm s.heap := CHv.start (own_EW s _ hw) hcalls.1 (hsets _ (List.mem_of_getElem? (i := 2) rfl)) (hw _ (List.mem_of_getElem? (i := 24) rfl)) (hw _ (List.mem_of_getElem? (i := 32) rfl))
  obtain ⟨n, o, h1, h2, h3, _, L, rfl, ⟨rfl, N⟩, -, hq⟩ := rm0 l s _ hw i0 i1 zCS wSF s.heap s.heap.size (Nat.le_refl _) S_COMPACT_STRINGS hCS S_SF hSF tables_1 p e ha hc hk s m _ below hf ((Spec.applies_iff_loose hf).mp happ).1 ⟨rfl, State.Warmed39.refl s, rfl, hCH⟩ trivial
  refine ⟨n, _, h1, h2, h3, hpost _ _ _ _ _ _ ⟨Cond.after_iff.mpr rfl, Cond.after_iff.mpr (eq_i res_at (Term.int_eval (1)) rfl), trivial⟩ ⟨hq.1, hq.2.1, hq.2.2.1, (hq.2.2.2.sift fun y hy => Or.inr (N y hy)).mono (by decide) (by decide)⟩⟩
theorem main_1_1 : Claimed_1_1 := comes_1 fun _ _ _ _ _ _ h hF => ⟨h.1, hF⟩
theorem main_1_2 : Claimed_1_2 := comes_1 fun _ _ _ _ _ _ h hF => ⟨h.2.1, hF⟩
end Jvm.Pilot.@@N@@
namespace Jvm.Pilot.@@N@@
open Jvm Jvm.ClassFile Sem Op Lib Jvm.Free Jvm.Stand Jvm.Pilot.@@N@@.Jvm.D
/-! MADE BY PROGRAM (witnessworld.py) out of the Statement's table words and the real class files: 23 classes; the members and pool entries that the words name. The judged class is class 1, her method 1. -/
namespace start1
open Jvm.ClassFile
def u (s : String) : CpInfo := .utf8 (stringToUtf16 s)
/-- a pool by its gaps: so many unusable entries, then the entry; so many at the end -/
def gap : Nat → List CpInfo → List CpInfo
  | 0, r => r
  | n + 1, r => .unusable :: gap n r
def poolList (es : List (Nat × CpInfo)) (last : Nat) : List CpInfo := es.foldr (fun e r => gap e.1 (e.2 :: r)) (gap last [])
def pool (es : List (Nat × CpInfo)) (last : Nat) : Array CpInfo := ⟨poolList es last⟩
def fileOf (pool : Array CpInfo) (this : Nat) (attrs : Array Attribute := #[]) (ms : Array MethodInfo := #[]) (fl : Nat := 33) (sup : Nat := 0) (ifs : Array Nat := #[]) (fds : Array FieldInfo := #[]) : ClassFile where
  minorVersion := 0
  majorVersion := 65
  constantPool := pool
  accessFlags := fl
  thisClass := this
  superClass := sup
  interfaces := ifs
  fields := fds
  methods := ms
  attributes := attrs
def plain (name : String) (sup : Option ClassId) : Class where
  name := name
  kind := .ordinary
  loader := none
  accessFlags := 33
  super := sup
  interfaces := #[]
  cf := none
  fields := #[]
  methods := #[]
  instanceTypes := #[]
  staticTypes := #[]
  resolved := #[]
  callSites := []
  init := .initialized
  statics := none
  mirror := none

def pool0 : Array CpInfo := pool [(5, u "<init>"), (0, u "()V"), (1, .class_ 10), (1, u "java/lang/Object")] 113

def k0c0 : Code := { maxStack := 0, maxLocals := 1, code := object_method_1_code, exceptionTable := #[], attributes := #[] }
def k0m0 : Method := { name := "<init>", desc := "()V", sig := { parameters := [], returnType := none }, accessFlags := 1, code := some k0c0 }
/-- java/lang/Object -/
def k0 : Class := { plain "java/lang/Object" none with
  accessFlags := 33
  interfaces := #[]
  cf := some (fileOf pool0 8 #[] #[{ accessFlags := 1, nameIndex := 5, descriptorIndex := 6, attributes := #[] }] 33 0 #[] #[])
  fields := #[]
  methods := #[k0m0]
  instanceTypes := #[]
  staticTypes := #[]
  resolved := Array.replicate 124 none
  statics := none }

def pool1 : Array CpInfo := pool [(2, .class_ 4), (0, .nameAndType 5 6), (0, u "java/lang/Object"), (0, u "<init>"), (0, u "()V"), (0, .class_ 8), (0, u "org/allonym/cli/JsonWriter"), (0, .methodref 7 3), (0, .string 11), (0, u "]"), (0, .string 13), (0, u "],true"), (0, .string 15), (0, u "],false"), (0, .methodref 7 17), (0, .nameAndType 18 19), (0, u "beginArray"), (0, u "()Lorg/allonym/cli/JsonWriter;"), (0, .string 21), (0, u "[]"), (0, .string 23), (0, u "[],true"), (0, .string 25), (0, u "[],false"), (0, .methodref 7 27), (0, .nameAndType 28 29), (0, u "value"), (0, u "(Z)Lorg/allonym/cli/JsonWriter;"), (0, .string 31), (0, u "[true]"), (0, .string 33), (0, u "[false]"), (0, .string 35), (0, u "[true],true"), (0, .string 37), (0, u "[false],false"), (0, .string 39), (0, u "[[]"), (0, .string 41), (0, u "[[],true"), (0, .string 43), (0, u "[[],false"), (0, .methodref 7 45), (0, .nameAndType 46 19), (0, u "endArray"), (0, .methodref 7 48), (0, .nameAndType 49 50), (0, u "toString"), (0, u "()Ljava/lang/String;"), (0, .methodref 52 53), (0, .class_ 54), (0, .nameAndType 55 56), (0, u "java/lang/String"), (0, u "equals"), (0, u "(Ljava/lang/Object;)Z"), (0, .class_ 58), (0, u "org/allonym/cli/JsonWriterEndArrayPinLaw"), (2, u "law"), (0, u "(II)Z")] 3

def k1m0 : Method := { name := "<init>", desc := "()V", sig := { parameters := [], returnType := none }, accessFlags := 2, code := none }
def k1c1 : Code := { maxStack := 2, maxLocals := 8, code := code, exceptionTable := #[], attributes := #[] }
def k1m1 : Method := { name := "law", desc := "(II)Z", sig := { parameters := [.int, .int], returnType := some .boolean }, accessFlags := 9, code := some k1c1 }
/-- org/allonym/cli/JsonWriterEndArrayPinLaw -/
def k1 : Class := { plain "org/allonym/cli/JsonWriterEndArrayPinLaw" (some 0) with
  accessFlags := 49
  interfaces := #[]
  cf := some (fileOf pool1 57 #[] #[{ accessFlags := 2, nameIndex := 5, descriptorIndex := 6, attributes := #[] }, { accessFlags := 9, nameIndex := 61, descriptorIndex := 62, attributes := #[] }] 49 2 #[] #[])
  fields := #[]
  methods := #[k1m0, k1m1]
  instanceTypes := #[]
  staticTypes := #[]
  resolved := Array.replicate 66 none
  statics := none }

def pool2 : Array CpInfo := pool [(1, .methodref 2 3), (0, .class_ 4), (0, .nameAndType 5 6), (0, u "java/lang/Object"), (0, u "<init>"), (0, u "()V"), (0, .class_ 8), (0, u "java/lang/StringBuilder"), (0, .class_ 10), (0, u "org/allonym/cli/JsonWriter"), (0, .methodref 7 12), (0, .nameAndType 5 13), (0, u "(I)V"), (0, .fieldref 9 15), (0, .nameAndType 16 17), (0, u "json"), (0, u "Ljava/lang/StringBuilder;"), (0, .methodref 9 19), (0, .nameAndType 20 6), (0, u "separate"), (0, .methodref 7 22), (0, .nameAndType 23 24), (0, u "append"), (0, u "(C)Ljava/lang/StringBuilder;"), (12, .methodref 7 38), (0, .nameAndType 23 39), (0, u "(Z)Ljava/lang/StringBuilder;"), (0, .methodref 7 41), (0, .nameAndType 42 43), (0, u "isEmpty"), (0, u "()Z"), (0, .methodref 7 45), (0, .nameAndType 46 47), (0, u "length"), (0, u "()I"), (0, .methodref 7 49), (0, .nameAndType 50 51), (0, u "charAt"), (0, u "(I)C"), (17, .methodref 7 70), (0, .nameAndType 71 72), (0, u "toString"), (0, u "()Ljava/lang/String;"), (0, u "CAPACITY"), (0, u "I"), (5, u "()Lorg/allonym/cli/JsonWriter;"), (1, u "beginArray"), (0, u "endArray"), (2, u "value"), (2, u "(Z)Lorg/allonym/cli/JsonWriter;")] 2

def k2c0 : Code := { maxStack := 4, maxLocals := 1, code := prog_10_method_1_code, exceptionTable := #[], attributes := #[] }
def k2m0 : Method := { name := "<init>", desc := "()V", sig := { parameters := [], returnType := none }, accessFlags := 0, code := some k2c0 }
def k2c1 : Code := { maxStack := 2, maxLocals := 1, code := prog_10_method_4_code, exceptionTable := #[], attributes := #[] }
def k2m1 : Method := { name := "beginArray", desc := "()Lorg/allonym/cli/JsonWriter;", sig := { parameters := [], returnType := some (.object "org/allonym/cli/JsonWriter") }, accessFlags := 0, code := some k2c1 }
def k2c2 : Code := { maxStack := 2, maxLocals := 1, code := prog_10_method_5_code, exceptionTable := #[], attributes := #[] }
def k2m2 : Method := { name := "endArray", desc := "()Lorg/allonym/cli/JsonWriter;", sig := { parameters := [], returnType := some (.object "org/allonym/cli/JsonWriter") }, accessFlags := 0, code := some k2c2 }
def k2c3 : Code := { maxStack := 2, maxLocals := 2, code := prog_10_method_9_code, exceptionTable := #[], attributes := #[] }
def k2m3 : Method := { name := "value", desc := "(Z)Lorg/allonym/cli/JsonWriter;", sig := { parameters := [.boolean], returnType := some (.object "org/allonym/cli/JsonWriter") }, accessFlags := 0, code := some k2c3 }
def k2c4 : Code := { maxStack := 3, maxLocals := 2, code := prog_10_method_10_code, exceptionTable := #[], attributes := #[] }
def k2m4 : Method := { name := "separate", desc := "()V", sig := { parameters := [], returnType := none }, accessFlags := 2, code := some k2c4 }
def k2c5 : Code := { maxStack := 1, maxLocals := 1, code := prog_10_method_12_code, exceptionTable := #[], attributes := #[] }
def k2m5 : Method := { name := "toString", desc := "()Ljava/lang/String;", sig := { parameters := [], returnType := some (.object "java/lang/String") }, accessFlags := 1, code := some k2c5 }
/-- org/allonym/cli/JsonWriter -/
def k2 : Class := { plain "org/allonym/cli/JsonWriter" (some 0) with
  accessFlags := 48
  interfaces := #[]
  cf := some (fileOf pool2 9 #[] #[{ accessFlags := 0, nameIndex := 5, descriptorIndex := 6, attributes := #[] }, { accessFlags := 0, nameIndex := 82, descriptorIndex := 80, attributes := #[] }, { accessFlags := 0, nameIndex := 83, descriptorIndex := 80, attributes := #[] }, { accessFlags := 0, nameIndex := 86, descriptorIndex := 89, attributes := #[] }, { accessFlags := 2, nameIndex := 20, descriptorIndex := 6, attributes := #[] }, { accessFlags := 1, nameIndex := 71, descriptorIndex := 72, attributes := #[] }] 48 2 #[] #[{ accessFlags := 26, nameIndex := 73, descriptorIndex := 74, attributes := #[] }, { accessFlags := 18, nameIndex := 16, descriptorIndex := 17, attributes := #[] }])
  fields := #[{ name := "CAPACITY", type := .int, accessFlags := 26, slot := 0, constantValue := 0 }, { name := "json", type := (.object "java/lang/StringBuilder"), accessFlags := 18, slot := 0, constantValue := 0 }]
  methods := #[k2m0, k2m1, k2m2, k2m3, k2m4, k2m5]
  instanceTypes := #[(.object "java/lang/StringBuilder")]
  staticTypes := #[.int]
  resolved := Array.replicate 92 none
  statics := none }

def pool3 : Array CpInfo := pool [(1, .class_ 2), (0, u "java/lang/Appendable"), (0, .class_ 4), (0, u "java/lang/Object")] 9

/-- java/lang/Appendable -/
def k3 : Class := { plain "java/lang/Appendable" (some 0) with
  accessFlags := 1537
  interfaces := #[]
  cf := some (fileOf pool3 1 #[] #[] 1537 3 #[] #[])
  fields := #[]
  methods := #[]
  instanceTypes := #[]
  staticTypes := #[]
  resolved := Array.replicate 14 none
  statics := none }

def pool4 : Array CpInfo := pool [(1, .interfaceMethodref 2 3), (0, .class_ 4), (0, .nameAndType 5 6), (0, u "java/lang/CharSequence"), (0, u "length"), (0, u "()I"), (40, .class_ 48), (0, u "java/lang/CharSequence$1CodePointIterator"), (10, .class_ 60), (0, u "java/lang/CharSequence$1CharIterator"), (5, .class_ 67), (0, u "java/lang/Object"), (0, u "isEmpty"), (0, u "()Z")] 61

def k4m0 : Method := { name := "length", desc := "()I", sig := { parameters := [], returnType := some .int }, accessFlags := 1025, code := none }
def k4c1 : Code := { maxStack := 1, maxLocals := 1, code := jdk_88_method_3_code, exceptionTable := #[], attributes := #[] }
def k4m1 : Method := { name := "isEmpty", desc := "()Z", sig := { parameters := [], returnType := some .boolean }, accessFlags := 1, code := some k4c1 }
/-- java/lang/CharSequence -/
def k4 : Class := { plain "java/lang/CharSequence" (some 0) with
  accessFlags := 1537
  interfaces := #[]
  cf := some (fileOf pool4 2 #[.nestMembers #[47, 59]] #[{ accessFlags := 1025, nameIndex := 5, descriptorIndex := 6, attributes := #[] }, { accessFlags := 1, nameIndex := 68, descriptorIndex := 69, attributes := #[] }] 1537 66 #[] #[])
  fields := #[]
  methods := #[k4m0, k4m1]
  instanceTypes := #[]
  staticTypes := #[]
  resolved := Array.replicate 131 none
  statics := none }

def pool5 : Array CpInfo := pool [(1, .class_ 2), (0, u "java/lang/String"), (0, .methodref 4 5), (0, .class_ 6), (0, .nameAndType 7 8), (0, u "java/lang/Object"), (0, u "<init>"), (0, u "()V"), (1, .class_ 12), (1, u "java/lang/AbstractStringBuilder"), (0, u "EMPTYVALUE"), (0, u "[B"), (0, .fieldref 10 16), (0, .nameAndType 17 14), (0, u "value"), (0, .fieldref 1 19), (0, .nameAndType 20 21), (0, u "COMPACT_STRINGS"), (0, u "Z"), (0, .fieldref 10 23), (0, .nameAndType 24 25), (0, u "coder"), (0, u "B"), (8, u "length"), (0, u "()I"), (9, u "append"), (2, .class_ 49), (0, u "java/lang/CharSequence"), (25, u "maybeLatin1"), (3, .fieldref 10 80), (0, .nameAndType 81 82), (0, u "count"), (0, u "I"), (0, .methodref 10 84), (0, .nameAndType 85 86), (0, u "isLatin1"), (0, u "()Z"), (1, .class_ 90), (1, u "java/lang/StringLatin1"), (9, .methodref 10 101), (0, .nameAndType 102 103), (0, u "ensureCapacityInternal"), (0, u "(I)V"), (34, .methodref 139 140), (0, .class_ 141), (0, .nameAndType 142 143), (0, u "java/lang/Math"), (0, u "min"), (0, u "(II)I"), (0, .methodref 1 145), (0, .nameAndType 146 147), (0, u "checkIndex"), (0, u "(II)V"), (43, .methodref 88 192), (0, .nameAndType 193 194), (0, u "canEncode"), (0, u "(C)Z"), (97, u "(C)Ljava/lang/AbstractStringBuilder;"), (99, u "charAt"), (0, u "(I)C"), (9, u "()[B"), (40, .class_ 445), (0, u "java/lang/Appendable"), (62, u "(Z)Ljava/lang/AbstractStringBuilder;"), (43, u "getValue")] 56

def k5m0 : Method := { name := "<init>", desc := "()V", sig := { parameters := [], returnType := none }, accessFlags := 0, code := none }
def k5c1 : Code := { maxStack := 2, maxLocals := 2, code := jdk_68_method_2_code, exceptionTable := #[], attributes := #[] }
def k5m1 : Method := { name := "<init>", desc := "(I)V", sig := { parameters := [.int], returnType := none }, accessFlags := 0, code := some k5c1 }
def k5c2 : Code := { maxStack := 1, maxLocals := 1, code := jdk_68_method_6_code, exceptionTable := #[], attributes := #[] }
def k5m2 : Method := { name := "length", desc := "()I", sig := { parameters := [], returnType := some .int }, accessFlags := 1, code := some k5c2 }
def k5c3 : Code := { maxStack := 4, maxLocals := 3, code := jdk_68_method_9_code, exceptionTable := #[], attributes := #[] }
def k5m3 : Method := { name := "ensureCapacityInternal", desc := "(I)V", sig := { parameters := [.int], returnType := none }, accessFlags := 2, code := some k5c3 }
def k5c4 : Code := { maxStack := 3, maxLocals := 5, code := jdk_68_method_14_code, exceptionTable := #[], attributes := #[] }
def k5m4 : Method := { name := "charAt", desc := "(I)C", sig := { parameters := [.int], returnType := some .char }, accessFlags := 1, code := some k5c4 }
def k5c5 : Code := { maxStack := 7, maxLocals := 4, code := jdk_68_method_30_code, exceptionTable := #[], attributes := #[] }
def k5m5 : Method := { name := "append", desc := "(Z)Ljava/lang/AbstractStringBuilder;", sig := { parameters := [.boolean], returnType := some (.object "java/lang/AbstractStringBuilder") }, accessFlags := 1, code := some k5c5 }
def k5c6 : Code := { maxStack := 5, maxLocals := 2, code := jdk_68_method_31_code, exceptionTable := #[], attributes := #[] }
def k5m6 : Method := { name := "append", desc := "(C)Ljava/lang/AbstractStringBuilder;", sig := { parameters := [.char], returnType := some (.object "java/lang/AbstractStringBuilder") }, accessFlags := 1, code := some k5c6 }
def k5c7 : Code := { maxStack := 1, maxLocals := 1, code := jdk_68_method_64_code, exceptionTable := #[], attributes := #[] }
def k5m7 : Method := { name := "getValue", desc := "()[B", sig := { parameters := [], returnType := some (.array .byte) }, accessFlags := 16, code := some k5c7 }
def k5c8 : Code := { maxStack := 1, maxLocals := 1, code := jdk_68_method_68_code, exceptionTable := #[], attributes := #[] }
def k5m8 : Method := { name := "isLatin1", desc := "()Z", sig := { parameters := [], returnType := some .boolean }, accessFlags := 16, code := some k5c8 }
/-- java/lang/AbstractStringBuilder -/
def k5 : Class := { plain "java/lang/AbstractStringBuilder" (some 0) with
  accessFlags := 1056
  interfaces := #[3, 4]
  cf := some (fileOf pool5 10 #[] #[{ accessFlags := 0, nameIndex := 7, descriptorIndex := 8, attributes := #[] }, { accessFlags := 0, nameIndex := 7, descriptorIndex := 103, attributes := #[] }, { accessFlags := 1, nameIndex := 34, descriptorIndex := 35, attributes := #[] }, { accessFlags := 2, nameIndex := 102, descriptorIndex := 103, attributes := #[] }, { accessFlags := 1, nameIndex := 392, descriptorIndex := 393, attributes := #[] }, { accessFlags := 1, nameIndex := 45, descriptorIndex := 508, attributes := #[] }, { accessFlags := 1, nameIndex := 45, descriptorIndex := 292, attributes := #[] }, { accessFlags := 16, nameIndex := 552, descriptorIndex := 403, attributes := #[] }, { accessFlags := 16, nameIndex := 85, descriptorIndex := 86, attributes := #[] }] 1056 4 #[444, 48] #[{ accessFlags := 0, nameIndex := 17, descriptorIndex := 14, attributes := #[] }, { accessFlags := 0, nameIndex := 24, descriptorIndex := 25, attributes := #[] }, { accessFlags := 0, nameIndex := 75, descriptorIndex := 21, attributes := #[] }, { accessFlags := 0, nameIndex := 81, descriptorIndex := 82, attributes := #[] }, { accessFlags := 26, nameIndex := 13, descriptorIndex := 14, attributes := #[] }])
  fields := #[{ name := "value", type := (.array .byte), accessFlags := 0, slot := 0, constantValue := 0 }, { name := "coder", type := .byte, accessFlags := 0, slot := 1, constantValue := 0 }, { name := "maybeLatin1", type := .boolean, accessFlags := 0, slot := 2, constantValue := 0 }, { name := "count", type := .int, accessFlags := 0, slot := 3, constantValue := 0 }, { name := "EMPTYVALUE", type := (.array .byte), accessFlags := 26, slot := 0, constantValue := 0 }]
  methods := #[k5m0, k5m1, k5m2, k5m3, k5m4, k5m5, k5m6, k5m7, k5m8]
  instanceTypes := #[(.array .byte), .byte, .boolean, .int]
  staticTypes := #[(.array .byte)]
  resolved := Array.replicate 609 none
  statics := none }

def pool6 : Array CpInfo := pool [(1, .class_ 2), (0, u "java/io/Serializable"), (0, .class_ 4), (0, u "java/lang/Object")] 2

/-- java/io/Serializable -/
def k6 : Class := { plain "java/io/Serializable" (some 0) with
  accessFlags := 1537
  interfaces := #[]
  cf := some (fileOf pool6 1 #[] #[] 1537 3 #[] #[])
  fields := #[]
  methods := #[]
  instanceTypes := #[]
  staticTypes := #[]
  resolved := Array.replicate 7 none
  statics := none }

def pool7 : Array CpInfo := pool [(1, .class_ 2), (0, u "java/lang/Comparable"), (0, .class_ 4), (0, u "java/lang/Object")] 7

/-- java/lang/Comparable -/
def k7 : Class := { plain "java/lang/Comparable" (some 0) with
  accessFlags := 1537
  interfaces := #[]
  cf := some (fileOf pool7 1 #[] #[] 1537 3 #[] #[])
  fields := #[]
  methods := #[]
  instanceTypes := #[]
  staticTypes := #[]
  resolved := Array.replicate 12 none
  statics := none }

def pool8 : Array CpInfo := pool [(1, .methodref 2 3), (0, .class_ 4), (0, .nameAndType 5 6), (0, u "java/lang/AbstractStringBuilder"), (0, u "<init>"), (0, u "(I)V"), (11, .class_ 20), (1, u "java/lang/String"), (3, .class_ 26), (1, u "java/lang/StringBuilder"), (0, u "append"), (19, .methodref 2 48), (0, .nameAndType 27 49), (0, u "(Z)Ljava/lang/AbstractStringBuilder;"), (0, .methodref 2 51), (0, .nameAndType 27 52), (0, u "(C)Ljava/lang/AbstractStringBuilder;"), (84, .methodref 18 138), (0, .nameAndType 5 139), (0, u "(Ljava/lang/StringBuilder;)V"), (5, u "()V"), (10, u "()I"), (129, u "(C)Ljava/lang/StringBuilder;"), (2, u "(Z)Ljava/lang/StringBuilder;"), (39, .methodref 2 330), (0, .nameAndType 331 332), (0, u "charAt"), (0, u "(I)C"), (10, .methodref 2 344), (0, .nameAndType 345 156), (0, u "length"), (3, .class_ 350), (0, u "java/lang/Appendable"), (0, .class_ 352), (0, u "java/io/Serializable"), (0, .class_ 354), (0, u "java/lang/Comparable"), (0, .class_ 356), (0, u "java/lang/CharSequence"), (0, u "serialVersionUID"), (0, u "J"), (40, u "toString"), (0, u "()Ljava/lang/String;")] 21

def k8m0 : Method := { name := "<init>", desc := "()V", sig := { parameters := [], returnType := none }, accessFlags := 1, code := none }
def k8c1 : Code := { maxStack := 2, maxLocals := 2, code := jdk_67_method_2_code, exceptionTable := #[], attributes := #[] }
def k8m1 : Method := { name := "<init>", desc := "(I)V", sig := { parameters := [.int], returnType := none }, accessFlags := 1, code := some k8c1 }
def k8c2 : Code := { maxStack := 2, maxLocals := 2, code := jdk_67_method_13_code, exceptionTable := #[], attributes := #[] }
def k8m2 : Method := { name := "append", desc := "(Z)Ljava/lang/StringBuilder;", sig := { parameters := [.boolean], returnType := some (.object "java/lang/StringBuilder") }, accessFlags := 1, code := some k8c2 }
def k8c3 : Code := { maxStack := 2, maxLocals := 2, code := jdk_67_method_14_code, exceptionTable := #[], attributes := #[] }
def k8m3 : Method := { name := "append", desc := "(C)Ljava/lang/StringBuilder;", sig := { parameters := [.char], returnType := some (.object "java/lang/StringBuilder") }, accessFlags := 1, code := some k8c3 }
def k8c4 : Code := { maxStack := 3, maxLocals := 1, code := jdk_67_method_42_code, exceptionTable := #[], attributes := #[] }
def k8m4 : Method := { name := "toString", desc := "()Ljava/lang/String;", sig := { parameters := [], returnType := some (.object "java/lang/String") }, accessFlags := 1, code := some k8c4 }
def k8c5 : Code := { maxStack := 2, maxLocals := 2, code := jdk_67_method_88_code, exceptionTable := #[], attributes := #[] }
def k8m5 : Method := { name := "charAt", desc := "(I)C", sig := { parameters := [.int], returnType := some .char }, accessFlags := 4161, code := some k8c5 }
def k8c6 : Code := { maxStack := 1, maxLocals := 1, code := jdk_67_method_93_code, exceptionTable := #[], attributes := #[] }
def k8m6 : Method := { name := "length", desc := "()I", sig := { parameters := [], returnType := some .int }, accessFlags := 4161, code := some k8c6 }
/-- java/lang/StringBuilder -/
def k8 : Class := { plain "java/lang/StringBuilder" (some 5) with
  accessFlags := 49
  interfaces := #[3, 6, 7, 4]
  cf := some (fileOf pool8 24 #[] #[{ accessFlags := 1, nameIndex := 5, descriptorIndex := 145, attributes := #[] }, { accessFlags := 1, nameIndex := 5, descriptorIndex := 6, attributes := #[] }, { accessFlags := 1, nameIndex := 27, descriptorIndex := 289, attributes := #[] }, { accessFlags := 1, nameIndex := 27, descriptorIndex := 286, attributes := #[] }, { accessFlags := 1, nameIndex := 399, descriptorIndex := 400, attributes := #[] }, { accessFlags := 4161, nameIndex := 331, descriptorIndex := 332, attributes := #[] }, { accessFlags := 4161, nameIndex := 345, descriptorIndex := 156, attributes := #[] }] 49 2 #[349, 351, 353, 355] #[{ accessFlags := 24, nameIndex := 357, descriptorIndex := 358, attributes := #[] }])
  fields := #[{ name := "serialVersionUID", type := .long, accessFlags := 24, slot := 0, constantValue := 0 }]
  methods := #[k8m0, k8m1, k8m2, k8m3, k8m4, k8m5, k8m6]
  instanceTypes := #[(.array .byte), .byte, .boolean, .int]
  staticTypes := #[.long]
  resolved := Array.replicate 422 none
  statics := none }

def pool9 : Array CpInfo := pool [(1, .class_ 2), (0, u "java/lang/constant/Constable"), (0, .class_ 4), (0, u "java/lang/Object")] 6

/-- java/lang/constant/Constable -/
def k9 : Class := { plain "java/lang/constant/Constable" (some 0) with
  accessFlags := 1537
  interfaces := #[]
  cf := some (fileOf pool9 1 #[] #[] 1537 3 #[] #[])
  fields := #[]
  methods := #[]
  instanceTypes := #[]
  staticTypes := #[]
  resolved := Array.replicate 11 none
  statics := none }

def pool10 : Array CpInfo := pool [(1, .class_ 2), (0, u "java/lang/constant/ConstantDesc"), (0, .class_ 4), (0, u "java/lang/Object")] 32

/-- java/lang/constant/ConstantDesc -/
def k10 : Class := { plain "java/lang/constant/ConstantDesc" (some 0) with
  accessFlags := 1537
  interfaces := #[]
  cf := some (fileOf pool10 1 #[] #[] 1537 3 #[] #[])
  fields := #[]
  methods := #[]
  instanceTypes := #[]
  staticTypes := #[]
  resolved := Array.replicate 37 none
  statics := none }

def pool11 : Array CpInfo := pool [(1, .methodref 2 3), (0, .class_ 4), (0, .nameAndType 5 6), (0, u "java/lang/Object"), (0, u "<init>"), (0, u "()V"), (2, .fieldref 10 11), (0, .class_ 12), (0, .nameAndType 13 14), (0, u "java/lang/String"), (0, u "value"), (0, u "[B"), (0, .fieldref 10 16), (0, .nameAndType 17 18), (0, u "coder"), (0, u "B"), (2, u "hash"), (0, u "I"), (2, u "hashIsZero"), (0, u "Z"), (11, .fieldref 10 39), (0, .nameAndType 40 26), (0, u "COMPACT_STRINGS"), (13, .methodref 55 56), (0, .class_ 57), (0, .nameAndType 58 59), (0, u "java/util/Arrays"), (0, u "copyOfRange"), (0, u "([BII)[B"), (47, .class_ 109), (1, u "java/lang/StringLatin1"), (32, u "()Z"), (191, u "()I"), (5, u "()[B"), (50, u "(II)V"), (97, .methodref 10 490), (0, .nameAndType 5 491), (0, u "(Ljava/lang/AbstractStringBuilder;Ljava/lang/Void;)V"), (1, .nameAndType 494 142), (0, u "isLatin1"), (6, u "checkIndex"), (4, .nameAndType 507 334), (0, u "length"), (33, .methodref 107 542), (0, .nameAndType 543 544), (0, u "equals"), (0, u "([B[B)Z"), (4, .methodref 550 506), (0, .class_ 551), (0, u "java/lang/AbstractStringBuilder"), (0, .methodref 550 553), (0, .nameAndType 554 340), (0, u "getValue"), (18, u "(Ljava/lang/Object;)Z"), (1, .class_ 576), (0, u "java/lang/CharSequence"), (22, u "CASE_INSENSITIVE_ORDER"), (0, u "Ljava/util/Comparator;"), (446, .methodref 550 493), (5, .fieldref 1054 1055), (0, .class_ 1056), (0, .nameAndType 1057 1058), (0, u "jdk/internal/util/Preconditions"), (0, u "SIOOBE_FORMATTER"), (0, u "Ljava/util/function/BiFunction;"), (0, .methodref 1054 1060), (0, .nameAndType 501 1061), (0, u "(IILjava/util/function/BiFunction;)I"), (39, u "serialPersistentFields"), (0, u "[Ljava/io/ObjectStreamField;"), (0, .class_ 1104), (0, u "java/lang/String$CaseInsensitiveComparator"), (1, .class_ 1107), (0, u "java/io/Serializable"), (0, .class_ 1109), (0, u "java/lang/Comparable"), (0, .class_ 1111), (0, u "java/lang/constant/Constable"), (0, .class_ 1113), (0, u "java/lang/constant/ConstantDesc"), (2, u "serialVersionUID"), (0, u "J"), (3, u "REPL"), (0, u "C"), (2, u "LATIN1"), (1, u "UTF16"), (105, u "(Ljava/lang/StringBuilder;)V")] 217

def k11m0 : Method := { name := "<init>", desc := "()V", sig := { parameters := [], returnType := none }, accessFlags := 1, code := none }
def k11c1 : Code := { maxStack := 3, maxLocals := 2, code := jdk_42_method_53_code, exceptionTable := #[], attributes := #[] }
def k11m1 : Method := { name := "<init>", desc := "(Ljava/lang/StringBuilder;)V", sig := { parameters := [(.object "java/lang/StringBuilder")], returnType := none }, accessFlags := 1, code := some k11c1 }
def k11c2 : Code := { maxStack := 2, maxLocals := 3, code := jdk_42_method_66_code, exceptionTable := #[], attributes := #[] }
def k11m2 : Method := { name := "equals", desc := "(Ljava/lang/Object;)Z", sig := { parameters := [(.object "java/lang/Object")], returnType := some .boolean }, accessFlags := 1, code := some k11c2 }
def k11c3 : Code := { maxStack := 5, maxLocals := 5, code := jdk_42_method_150_code, exceptionTable := #[], attributes := #[] }
def k11m3 : Method := { name := "<init>", desc := "(Ljava/lang/AbstractStringBuilder;Ljava/lang/Void;)V", sig := { parameters := [(.object "java/lang/AbstractStringBuilder"), (.object "java/lang/Void")], returnType := none }, accessFlags := 0, code := some k11c3 }
def k11c4 : Code := { maxStack := 3, maxLocals := 2, code := jdk_42_method_155_code, exceptionTable := #[], attributes := #[] }
def k11m4 : Method := { name := "checkIndex", desc := "(II)V", sig := { parameters := [.int, .int], returnType := none }, accessFlags := 8, code := some k11c4 }
/-- java/lang/String -/
def k11 : Class := { plain "java/lang/String" (some 0) with
  accessFlags := 49
  interfaces := #[6, 7, 4, 9, 10]
  cf := some (fileOf pool11 10 #[.nestMembers #[1103]] #[{ accessFlags := 1, nameIndex := 5, descriptorIndex := 6, attributes := #[] }, { accessFlags := 1, nameIndex := 5, descriptorIndex := 1233, attributes := #[] }, { accessFlags := 1, nameIndex := 543, descriptorIndex := 573, attributes := #[] }, { accessFlags := 0, nameIndex := 5, descriptorIndex := 491, attributes := #[] }, { accessFlags := 8, nameIndex := 501, descriptorIndex := 391, attributes := #[] }] 49 2 #[1106, 1108, 575, 1110, 1112] #[{ accessFlags := 18, nameIndex := 13, descriptorIndex := 14, attributes := #[] }, { accessFlags := 18, nameIndex := 17, descriptorIndex := 18, attributes := #[] }, { accessFlags := 2, nameIndex := 21, descriptorIndex := 22, attributes := #[] }, { accessFlags := 2, nameIndex := 25, descriptorIndex := 26, attributes := #[] }, { accessFlags := 26, nameIndex := 1116, descriptorIndex := 1117, attributes := #[] }, { accessFlags := 24, nameIndex := 40, descriptorIndex := 26, attributes := #[] }, { accessFlags := 26, nameIndex := 1101, descriptorIndex := 1102, attributes := #[] }, { accessFlags := 26, nameIndex := 1121, descriptorIndex := 1122, attributes := #[] }, { accessFlags := 25, nameIndex := 599, descriptorIndex := 600, attributes := #[] }, { accessFlags := 24, nameIndex := 1125, descriptorIndex := 18, attributes := #[] }, { accessFlags := 24, nameIndex := 1127, descriptorIndex := 18, attributes := #[] }])
  fields := #[{ name := "value", type := (.array .byte), accessFlags := 18, slot := 0, constantValue := 0 }, { name := "coder", type := .byte, accessFlags := 18, slot := 1, constantValue := 0 }, { name := "hash", type := .int, accessFlags := 2, slot := 2, constantValue := 0 }, { name := "hashIsZero", type := .boolean, accessFlags := 2, slot := 3, constantValue := 0 }, { name := "serialVersionUID", type := .long, accessFlags := 26, slot := 0, constantValue := 0 }, { name := "COMPACT_STRINGS", type := .boolean, accessFlags := 24, slot := 1, constantValue := 0 }, { name := "serialPersistentFields", type := (.array (.object "java/io/ObjectStreamField")), accessFlags := 26, slot := 2, constantValue := 0 }, { name := "REPL", type := .char, accessFlags := 26, slot := 3, constantValue := 0 }, { name := "CASE_INSENSITIVE_ORDER", type := (.object "java/util/Comparator"), accessFlags := 25, slot := 4, constantValue := 0 }, { name := "LATIN1", type := .byte, accessFlags := 24, slot := 5, constantValue := 0 }, { name := "UTF16", type := .byte, accessFlags := 24, slot := 6, constantValue := 0 }]
  methods := #[k11m0, k11m1, k11m2, k11m3, k11m4]
  instanceTypes := #[(.array .byte), .byte, .int, .boolean]
  staticTypes := #[.long, .boolean, (.array (.object "java/io/ObjectStreamField")), .char, (.object "java/util/Comparator"), .byte, .byte]
  resolved := Array.replicate 1451 none
  statics := some 0 }

def pool12 : Array CpInfo := pool [(4, .class_ 6), (1, u "java/lang/Object"), (0, u "<init>"), (0, u "()V"), (5, .class_ 16), (1, u "java/lang/StringLatin1"), (73, u "canEncode"), (14, u "(C)Z"), (15, u "$assertionsDisabled"), (0, u "Z"), (98, .class_ 223), (1, u "java/lang/StringLatin1$LinesSpliterator"), (57, u "equals"), (0, u "([B[B)Z"), (107, .class_ 391), (0, u "java/lang/StringLatin1$CharsSpliterator")] 3

def k12m0 : Method := { name := "<init>", desc := "()V", sig := { parameters := [], returnType := none }, accessFlags := 0, code := none }
def k12c1 : Code := { maxStack := 2, maxLocals := 1, code := jdk_43_method_3_code, exceptionTable := #[], attributes := #[] }
def k12m1 : Method := { name := "canEncode", desc := "(C)Z", sig := { parameters := [.char], returnType := some .boolean }, accessFlags := 9, code := some k12c1 }
def k12c2 : Code := { maxStack := 3, maxLocals := 3, code := jdk_43_method_13_code, exceptionTable := #[], attributes := #[] }
def k12m2 : Method := { name := "equals", desc := "([B[B)Z", sig := { parameters := [(.array .byte), (.array .byte)], returnType := some .boolean }, accessFlags := 9, code := some k12c2 }
/-- java/lang/StringLatin1 -/
def k12 : Class := { plain "java/lang/StringLatin1" (some 0) with
  accessFlags := 48
  interfaces := #[]
  cf := some (fileOf pool12 14 #[.nestMembers #[390, 221]] #[{ accessFlags := 0, nameIndex := 7, descriptorIndex := 8, attributes := #[] }, { accessFlags := 9, nameIndex := 90, descriptorIndex := 105, attributes := #[] }, { accessFlags := 9, nameIndex := 281, descriptorIndex := 282, attributes := #[] }] 48 4 #[] #[{ accessFlags := 4120, nameIndex := 121, descriptorIndex := 122, attributes := #[] }])
  fields := #[{ name := "$assertionsDisabled", type := .boolean, accessFlags := 4120, slot := 0, constantValue := 0 }]
  methods := #[k12m0, k12m1, k12m2]
  instanceTypes := #[]
  staticTypes := #[.boolean]
  resolved := Array.replicate 395 none
  statics := none }

def pool13 : Array CpInfo := pool [(2, .class_ 4), (1, u "java/lang/Object"), (0, u "<init>"), (0, u "()V"), (7, .class_ 16), (1, u "java/util/Arrays"), (57, .class_ 76), (1, u "java/util/Arrays$NaturalOrder"), (36, .class_ 115), (1, u "java/util/Arrays$LegacyMergeSort"), (1, u "Z"), (21, u "copyOfRange"), (10, .methodref 151 152), (0, .class_ 153), (0, .nameAndType 154 155), (0, u "java/lang/System"), (0, u "arraycopy"), (0, u "(Ljava/lang/Object;ILjava/lang/Object;II)V"), (148, .methodref 305 306), (0, .class_ 307), (0, .nameAndType 308 309), (0, u "java/lang/Math"), (0, u "min"), (0, u "(II)I"), (29, .methodref 14 340), (0, .nameAndType 341 342), (0, u "copyOfRangeByte"), (0, u "([BII)[B"), (0, .methodref 14 344), (0, .nameAndType 345 346), (0, u "checkLength"), (0, u "(II)V"), (28, .class_ 376), (0, u "java/util/Arrays$ArrayList"), (68, u "$assertionsDisabled"), (269, u "MIN_ARRAY_SORT_GRAN"), (0, u "I"), (2, u "INSERTIONSORT_THRESHOLD"), (255, .class_ 976), (0, u "java/util/Arrays$ArrayItr")] 52

def k13m0 : Method := { name := "<init>", desc := "()V", sig := { parameters := [], returnType := none }, accessFlags := 2, code := none }
def k13c1 : Code := { maxStack := 4, maxLocals := 2, code := jdk_65_method_131_code, exceptionTable := #[], attributes := #[] }
def k13m1 : Method := { name := "checkLength", desc := "(II)V", sig := { parameters := [.int, .int], returnType := none }, accessFlags := 10, code := some k13c1 }
def k13c2 : Code := { maxStack := 3, maxLocals := 3, code := jdk_65_method_132_code, exceptionTable := #[], attributes := #[] }
def k13m2 : Method := { name := "copyOfRange", desc := "([BII)[B", sig := { parameters := [(.array .byte), .int, .int], returnType := some (.array .byte) }, accessFlags := 9, code := some k13c2 }
def k13c3 : Code := { maxStack := 6, maxLocals := 5, code := jdk_65_method_133_code, exceptionTable := #[], attributes := #[] }
def k13m3 : Method := { name := "copyOfRangeByte", desc := "([BII)[B", sig := { parameters := [(.array .byte), .int, .int], returnType := some (.array .byte) }, accessFlags := 10, code := some k13c3 }
/-- java/util/Arrays -/
def k13 : Class := { plain "java/util/Arrays" (some 0) with
  accessFlags := 49
  interfaces := #[]
  cf := some (fileOf pool13 14 #[.nestMembers #[975, 375, 113, 74]] #[{ accessFlags := 2, nameIndex := 5, descriptorIndex := 6, attributes := #[] }, { accessFlags := 10, nameIndex := 345, descriptorIndex := 346, attributes := #[] }, { accessFlags := 9, nameIndex := 139, descriptorIndex := 342, attributes := #[] }, { accessFlags := 10, nameIndex := 341, descriptorIndex := 342, attributes := #[] }] 49 2 #[] #[{ accessFlags := 26, nameIndex := 715, descriptorIndex := 716, attributes := #[] }, { accessFlags := 26, nameIndex := 719, descriptorIndex := 716, attributes := #[] }, { accessFlags := 4120, nameIndex := 445, descriptorIndex := 117, attributes := #[] }])
  fields := #[{ name := "MIN_ARRAY_SORT_GRAN", type := .int, accessFlags := 26, slot := 0, constantValue := 0 }, { name := "INSERTIONSORT_THRESHOLD", type := .int, accessFlags := 26, slot := 1, constantValue := 0 }, { name := "$assertionsDisabled", type := .boolean, accessFlags := 4120, slot := 2, constantValue := 0 }]
  methods := #[k13m0, k13m1, k13m2, k13m3]
  instanceTypes := #[]
  staticTypes := #[.int, .int, .boolean]
  resolved := Array.replicate 1029 none
  statics := none }

def pool14 : Array CpInfo := pool [(1, .class_ 2), (0, u "java/lang/Math"), (1, .class_ 6), (1, u "java/lang/Object"), (0, u "<init>"), (0, u "()V"), (89, .class_ 100), (1, u "java/lang/Math$RandomNumberGeneratorHolder"), (71, u "negativeZeroFloatBits"), (0, u "J"), (2, u "negativeZeroDoubleBits"), (24, u "min"), (43, u "$assertionsDisabled"), (0, u "Z"), (88, u "(II)I"), (2, u "twoToTheDoubleScaleDown"), (0, u "D"), (4, u "twoToTheDoubleScaleUp"), (9, u "E"), (3, u "PI"), (2, u "TAU"), (2, u "DEGREES_TO_RADIANS"), (0, u "RADIANS_TO_DEGREES")] 94

def k14m0 : Method := { name := "<init>", desc := "()V", sig := { parameters := [], returnType := none }, accessFlags := 2, code := none }
def k14c1 : Code := { maxStack := 2, maxLocals := 2, code := jdk_29_method_69_code, exceptionTable := #[], attributes := #[] }
def k14m1 : Method := { name := "min", desc := "(II)I", sig := { parameters := [.int, .int], returnType := some .int }, accessFlags := 9, code := some k14c1 }
/-- java/lang/Math -/
def k14 : Class := { plain "java/lang/Math" (some 0) with
  accessFlags := 49
  interfaces := #[]
  cf := some (fileOf pool14 1 #[.nestMembers #[98]] #[{ accessFlags := 2, nameIndex := 7, descriptorIndex := 8, attributes := #[] }, { accessFlags := 9, nameIndex := 201, descriptorIndex := 335, attributes := #[] }] 49 4 #[] #[{ accessFlags := 25, nameIndex := 354, descriptorIndex := 339, attributes := #[] }, { accessFlags := 25, nameIndex := 358, descriptorIndex := 339, attributes := #[] }, { accessFlags := 25, nameIndex := 361, descriptorIndex := 339, attributes := #[] }, { accessFlags := 26, nameIndex := 364, descriptorIndex := 339, attributes := #[] }, { accessFlags := 26, nameIndex := 365, descriptorIndex := 339, attributes := #[] }, { accessFlags := 26, nameIndex := 172, descriptorIndex := 173, attributes := #[] }, { accessFlags := 26, nameIndex := 176, descriptorIndex := 173, attributes := #[] }, { accessFlags := 8, nameIndex := 344, descriptorIndex := 339, attributes := #[] }, { accessFlags := 8, nameIndex := 338, descriptorIndex := 339, attributes := #[] }, { accessFlags := 4120, nameIndex := 245, descriptorIndex := 246, attributes := #[] }])
  fields := #[{ name := "E", type := .double, accessFlags := 25, slot := 0, constantValue := 0 }, { name := "PI", type := .double, accessFlags := 25, slot := 1, constantValue := 0 }, { name := "TAU", type := .double, accessFlags := 25, slot := 2, constantValue := 0 }, { name := "DEGREES_TO_RADIANS", type := .double, accessFlags := 26, slot := 3, constantValue := 0 }, { name := "RADIANS_TO_DEGREES", type := .double, accessFlags := 26, slot := 4, constantValue := 0 }, { name := "negativeZeroFloatBits", type := .long, accessFlags := 26, slot := 5, constantValue := 0 }, { name := "negativeZeroDoubleBits", type := .long, accessFlags := 26, slot := 6, constantValue := 0 }, { name := "twoToTheDoubleScaleUp", type := .double, accessFlags := 8, slot := 7, constantValue := 0 }, { name := "twoToTheDoubleScaleDown", type := .double, accessFlags := 8, slot := 8, constantValue := 0 }, { name := "$assertionsDisabled", type := .boolean, accessFlags := 4120, slot := 9, constantValue := 0 }]
  methods := #[k14m0, k14m1]
  instanceTypes := #[]
  staticTypes := #[.double, .double, .double, .double, .double, .long, .long, .double, .double, .boolean]
  resolved := Array.replicate 460 none
  statics := none }

def pool15 : Array CpInfo := pool [(2, .class_ 4), (1, u "java/lang/Object"), (0, u "<init>"), (0, u "()V"), (1, .class_ 10), (1, u "java/lang/System"), (0, u "allowSecurityManager"), (0, u "I"), (16, u "cons"), (0, u "Ljava/io/Console;"), (77, .class_ 110), (1, u "java/lang/System$CallersHolder"), (43, u "initialErrStream"), (0, u "Ljava/io/PrintStream;"), (19, u "security"), (0, u "Ljava/lang/SecurityManager;"), (31, .class_ 209), (0, u "java/lang/System$1"), (7, u "props"), (0, u "Ljava/util/Properties;"), (2, u "lineSeparator"), (0, u "Ljava/lang/String;"), (96, .class_ 321), (1, u "java/lang/System$LoggerFinder"), (5, .class_ 328), (0, u "java/lang/System$Logger"), (67, u "err"), (2, u "out"), (91, u "notSupportedJnuEncoding"), (15, u "in"), (17, u "initialIn"), (0, u "Ljava/io/InputStream;"), (35, u "bootLayer"), (0, u "Ljava/lang/ModuleLayer;"), (99, .class_ 664), (0, u "java/lang/System$2"), (9, u "NEVER"), (2, u "MAYBE"), (49, u "arraycopy"), (0, u "(Ljava/lang/Object;ILjava/lang/Object;II)V"), (72, .class_ 802), (0, u "java/lang/System$Logger$Level")] 31

def k15m0 : Method := { name := "<init>", desc := "()V", sig := { parameters := [], returnType := none }, accessFlags := 2, code := none }
def k15m1 : Method := { name := "arraycopy", desc := "(Ljava/lang/Object;ILjava/lang/Object;II)V", sig := { parameters := [(.object "java/lang/Object"), .int, (.object "java/lang/Object"), .int, .int], returnType := none }, accessFlags := 265, code := none }
/-- java/lang/System -/
def k15 : Class := { plain "java/lang/System" (some 0) with
  accessFlags := 49
  interfaces := #[]
  cf := some (fileOf pool15 8 #[.nestMembers #[319, 327, 801, 108, 663, 208]] #[{ accessFlags := 2, nameIndex := 5, descriptorIndex := 6, attributes := #[] }, { accessFlags := 265, nameIndex := 727, descriptorIndex := 728, attributes := #[] }] 49 2 #[] #[{ accessFlags := 25, nameIndex := 507, descriptorIndex := 526, attributes := #[] }, { accessFlags := 25, nameIndex := 399, descriptorIndex := 155, attributes := #[] }, { accessFlags := 25, nameIndex := 396, descriptorIndex := 155, attributes := #[] }, { accessFlags := 10, nameIndex := 525, descriptorIndex := 526, attributes := #[] }, { accessFlags := 26, nameIndex := 674, descriptorIndex := 12, attributes := #[] }, { accessFlags := 26, nameIndex := 677, descriptorIndex := 12, attributes := #[] }, { accessFlags := 10, nameIndex := 11, descriptorIndex := 12, attributes := #[] }, { accessFlags := 74, nameIndex := 175, descriptorIndex := 176, attributes := #[] }, { accessFlags := 10, nameIndex := 491, descriptorIndex := 222, attributes := #[] }, { accessFlags := 74, nameIndex := 29, descriptorIndex := 30, attributes := #[] }, { accessFlags := 74, nameIndex := 154, descriptorIndex := 155, attributes := #[] }, { accessFlags := 10, nameIndex := 217, descriptorIndex := 218, attributes := #[] }, { accessFlags := 10, nameIndex := 221, descriptorIndex := 222, attributes := #[] }, { accessFlags := 8, nameIndex := 562, descriptorIndex := 563, attributes := #[] }])
  fields := #[{ name := "in", type := (.object "java/io/InputStream"), accessFlags := 25, slot := 0, constantValue := 0 }, { name := "out", type := (.object "java/io/PrintStream"), accessFlags := 25, slot := 1, constantValue := 0 }, { name := "err", type := (.object "java/io/PrintStream"), accessFlags := 25, slot := 2, constantValue := 0 }, { name := "initialIn", type := (.object "java/io/InputStream"), accessFlags := 10, slot := 3, constantValue := 0 }, { name := "NEVER", type := .int, accessFlags := 26, slot := 4, constantValue := 0 }, { name := "MAYBE", type := .int, accessFlags := 26, slot := 5, constantValue := 0 }, { name := "allowSecurityManager", type := .int, accessFlags := 10, slot := 6, constantValue := 0 }, { name := "security", type := (.object "java/lang/SecurityManager"), accessFlags := 74, slot := 7, constantValue := 0 }, { name := "notSupportedJnuEncoding", type := (.object "java/lang/String"), accessFlags := 10, slot := 8, constantValue := 0 }, { name := "cons", type := (.object "java/io/Console"), accessFlags := 74, slot := 9, constantValue := 0 }, { name := "initialErrStream", type := (.object "java/io/PrintStream"), accessFlags := 74, slot := 10, constantValue := 0 }, { name := "props", type := (.object "java/util/Properties"), accessFlags := 10, slot := 11, constantValue := 0 }, { name := "lineSeparator", type := (.object "java/lang/String"), accessFlags := 10, slot := 12, constantValue := 0 }, { name := "bootLayer", type := (.object "java/lang/ModuleLayer"), accessFlags := 8, slot := 13, constantValue := 0 }]
  methods := #[k15m0, k15m1]
  instanceTypes := #[]
  staticTypes := #[(.object "java/io/InputStream"), (.object "java/io/PrintStream"), (.object "java/io/PrintStream"), (.object "java/io/InputStream"), .int, .int, .int, (.object "java/lang/SecurityManager"), (.object "java/lang/String"), (.object "java/io/Console"), (.object "java/io/PrintStream"), (.object "java/util/Properties"), (.object "java/lang/String"), (.object "java/lang/ModuleLayer")]
  resolved := Array.replicate 834 none
  statics := none }

def pool16 : Array CpInfo := pool [(2, .class_ 4), (1, u "java/lang/Object"), (0, u "<init>"), (0, u "()V"), (17, .class_ 26), (1, u "jdk/internal/util/Preconditions"), (6, u "checkIndex"), (21, .class_ 56), (0, u "jdk/internal/util/Preconditions$4"), (57, .class_ 115), (0, u "jdk/internal/util/Preconditions$1"), (7, u "SIOOBE_FORMATTER"), (0, u "Ljava/util/function/BiFunction;"), (0, .class_ 126), (0, u "jdk/internal/util/Preconditions$2"), (3, u "AIOOBE_FORMATTER"), (0, .class_ 132), (0, u "jdk/internal/util/Preconditions$3"), (3, u "IOOBE_FORMATTER"), (41, u "(IILjava/util/function/BiFunction;)I")] 15

def k16m0 : Method := { name := "<init>", desc := "()V", sig := { parameters := [], returnType := none }, accessFlags := 1, code := none }
def k16c1 : Code := { maxStack := 3, maxLocals := 3, code := jdk_41_method_11_code, exceptionTable := #[], attributes := #[] }
def k16m1 : Method := { name := "checkIndex", desc := "(IILjava/util/function/BiFunction;)I", sig := { parameters := [.int, .int, (.object "java/util/function/BiFunction")], returnType := some .int }, accessFlags := 9, code := some k16c1 }
/-- jdk/internal/util/Preconditions -/
def k16 : Class := { plain "jdk/internal/util/Preconditions" (some 0) with
  accessFlags := 33
  interfaces := #[]
  cf := some (fileOf pool16 24 #[.nestMembers #[55, 131, 125, 114]] #[{ accessFlags := 1, nameIndex := 5, descriptorIndex := 6, attributes := #[] }, { accessFlags := 9, nameIndex := 33, descriptorIndex := 178, attributes := #[] }] 33 2 #[] #[{ accessFlags := 25, nameIndex := 123, descriptorIndex := 124, attributes := #[] }, { accessFlags := 25, nameIndex := 130, descriptorIndex := 124, attributes := #[] }, { accessFlags := 25, nameIndex := 136, descriptorIndex := 124, attributes := #[] }])
  fields := #[{ name := "SIOOBE_FORMATTER", type := (.object "java/util/function/BiFunction"), accessFlags := 25, slot := 0, constantValue := 0 }, { name := "AIOOBE_FORMATTER", type := (.object "java/util/function/BiFunction"), accessFlags := 25, slot := 1, constantValue := 0 }, { name := "IOOBE_FORMATTER", type := (.object "java/util/function/BiFunction"), accessFlags := 25, slot := 2, constantValue := 0 }]
  methods := #[k16m0, k16m1]
  instanceTypes := #[]
  staticTypes := #[(.object "java/util/function/BiFunction"), (.object "java/util/function/BiFunction"), (.object "java/util/function/BiFunction")]
  resolved := Array.replicate 194 none
  statics := some 1 }

def pool17 : Array CpInfo := pool [(9, u "<init>"), (6, .class_ 18), (1, u "java/lang/Object"), (0, u "()V"), (1, .class_ 23), (1, u "jdk/internal/util/ArraysSupport"), (0, u "LOG2_ARRAY_LONG_INDEX_SCALE"), (0, u "I"), (2, u "U"), (0, u "Ljdk/internal/misc/Unsafe;"), (8, u "BIG_ENDIAN"), (0, u "Z"), (8, u "LOG2_BYTE_BIT_SIZE"), (4, u "LOG2_ARRAY_INT_INDEX_SCALE"), (54, u "JLA"), (0, u "Ljdk/internal/access/JavaLangAccess;"), (11, u "LOG2_ARRAY_BOOLEAN_INDEX_SCALE"), (9, u "LOG2_ARRAY_BYTE_INDEX_SCALE"), (5, u "LOG2_ARRAY_CHAR_INDEX_SCALE"), (5, u "LOG2_ARRAY_SHORT_INDEX_SCALE"), (18, u "LOG2_ARRAY_FLOAT_INDEX_SCALE"), (24, u "LOG2_ARRAY_DOUBLE_INDEX_SCALE"), (89, u "T_BOOLEAN"), (2, u "T_CHAR"), (1, u "T_FLOAT"), (1, u "T_DOUBLE"), (1, u "T_BYTE"), (1, u "T_SHORT"), (1, u "T_INT"), (1, u "T_LONG"), (1, u "SOFT_MAX_ARRAY_LENGTH")] 83

def k17m0 : Method := { name := "<init>", desc := "()V", sig := { parameters := [], returnType := none }, accessFlags := 2, code := none }
/-- jdk/internal/util/ArraysSupport -/
def k17 : Class := { plain "jdk/internal/util/ArraysSupport" (some 0) with
  accessFlags := 33
  interfaces := #[]
  cf := some (fileOf pool17 21 #[] #[{ accessFlags := 2, nameIndex := 9, descriptorIndex := 19, attributes := #[] }] 33 16 #[] #[{ accessFlags := 24, nameIndex := 28, descriptorIndex := 29, attributes := #[] }, { accessFlags := 26, nameIndex := 38, descriptorIndex := 39, attributes := #[] }, { accessFlags := 25, nameIndex := 121, descriptorIndex := 25, attributes := #[] }, { accessFlags := 25, nameIndex := 131, descriptorIndex := 25, attributes := #[] }, { accessFlags := 25, nameIndex := 137, descriptorIndex := 25, attributes := #[] }, { accessFlags := 25, nameIndex := 143, descriptorIndex := 25, attributes := #[] }, { accessFlags := 25, nameIndex := 53, descriptorIndex := 25, attributes := #[] }, { accessFlags := 25, nameIndex := 24, descriptorIndex := 25, attributes := #[] }, { accessFlags := 25, nameIndex := 162, descriptorIndex := 25, attributes := #[] }, { accessFlags := 25, nameIndex := 187, descriptorIndex := 25, attributes := #[] }, { accessFlags := 26, nameIndex := 48, descriptorIndex := 25, attributes := #[] }, { accessFlags := 25, nameIndex := 277, descriptorIndex := 25, attributes := #[] }, { accessFlags := 25, nameIndex := 280, descriptorIndex := 25, attributes := #[] }, { accessFlags := 25, nameIndex := 282, descriptorIndex := 25, attributes := #[] }, { accessFlags := 25, nameIndex := 284, descriptorIndex := 25, attributes := #[] }, { accessFlags := 25, nameIndex := 286, descriptorIndex := 25, attributes := #[] }, { accessFlags := 25, nameIndex := 288, descriptorIndex := 25, attributes := #[] }, { accessFlags := 25, nameIndex := 290, descriptorIndex := 25, attributes := #[] }, { accessFlags := 25, nameIndex := 292, descriptorIndex := 25, attributes := #[] }, { accessFlags := 26, nameIndex := 108, descriptorIndex := 109, attributes := #[] }, { accessFlags := 25, nameIndex := 294, descriptorIndex := 25, attributes := #[] }])
  fields := #[{ name := "U", type := (.object "jdk/internal/misc/Unsafe"), accessFlags := 24, slot := 0, constantValue := 0 }, { name := "BIG_ENDIAN", type := .boolean, accessFlags := 26, slot := 1, constantValue := 0 }, { name := "LOG2_ARRAY_BOOLEAN_INDEX_SCALE", type := .int, accessFlags := 25, slot := 2, constantValue := 0 }, { name := "LOG2_ARRAY_BYTE_INDEX_SCALE", type := .int, accessFlags := 25, slot := 3, constantValue := 0 }, { name := "LOG2_ARRAY_CHAR_INDEX_SCALE", type := .int, accessFlags := 25, slot := 4, constantValue := 0 }, { name := "LOG2_ARRAY_SHORT_INDEX_SCALE", type := .int, accessFlags := 25, slot := 5, constantValue := 0 }, { name := "LOG2_ARRAY_INT_INDEX_SCALE", type := .int, accessFlags := 25, slot := 6, constantValue := 0 }, { name := "LOG2_ARRAY_LONG_INDEX_SCALE", type := .int, accessFlags := 25, slot := 7, constantValue := 0 }, { name := "LOG2_ARRAY_FLOAT_INDEX_SCALE", type := .int, accessFlags := 25, slot := 8, constantValue := 0 }, { name := "LOG2_ARRAY_DOUBLE_INDEX_SCALE", type := .int, accessFlags := 25, slot := 9, constantValue := 0 }, { name := "LOG2_BYTE_BIT_SIZE", type := .int, accessFlags := 26, slot := 10, constantValue := 0 }, { name := "T_BOOLEAN", type := .int, accessFlags := 25, slot := 11, constantValue := 0 }, { name := "T_CHAR", type := .int, accessFlags := 25, slot := 12, constantValue := 0 }, { name := "T_FLOAT", type := .int, accessFlags := 25, slot := 13, constantValue := 0 }, { name := "T_DOUBLE", type := .int, accessFlags := 25, slot := 14, constantValue := 0 }, { name := "T_BYTE", type := .int, accessFlags := 25, slot := 15, constantValue := 0 }, { name := "T_SHORT", type := .int, accessFlags := 25, slot := 16, constantValue := 0 }, { name := "T_INT", type := .int, accessFlags := 25, slot := 17, constantValue := 0 }, { name := "T_LONG", type := .int, accessFlags := 25, slot := 18, constantValue := 0 }, { name := "JLA", type := (.object "jdk/internal/access/JavaLangAccess"), accessFlags := 26, slot := 19, constantValue := 0 }, { name := "SOFT_MAX_ARRAY_LENGTH", type := .int, accessFlags := 25, slot := 20, constantValue := 0 }]
  methods := #[k17m0]
  instanceTypes := #[]
  staticTypes := #[(.object "jdk/internal/misc/Unsafe"), .boolean, .int, .int, .int, .int, .int, .int, .int, .int, .int, .int, .int, .int, .int, .int, .int, .int, .int, (.object "jdk/internal/access/JavaLangAccess"), .int]
  resolved := Array.replicate 378 none
  statics := none }

def pool18 : Array CpInfo := pool [(1, u "java/lang/Cloneable"), (0, .class_ 1), (0, u "java/lang/Object"), (0, .class_ 3)] 3

/-- java/lang/Cloneable -/
def k18 : Class := { plain "java/lang/Cloneable" (some 0) with
  accessFlags := 1537
  interfaces := #[]
  cf := some (fileOf pool18 2 #[] #[] 1537 4 #[] #[])
  fields := #[]
  methods := #[]
  instanceTypes := #[]
  staticTypes := #[]
  resolved := Array.replicate 8 none
  statics := none }

/-- the primitive byte -/
def k19 : Class := { plain "byte" none with kind := .primitive 'B', accessFlags := 0x411 }
/-- [B -/
def k20 : Class := { plain "[B" (some 0) with kind := .array 19 .byte, interfaces := #[18, 6], accessFlags := 1041 }

/-- the primitive int -/
def k21 : Class := { plain "int" none with kind := .primitive 'I', accessFlags := 0x411 }
/-- [I -/
def k22 : Class := { plain "[I" (some 0) with kind := .array 21 .int, interfaces := #[18, 6], accessFlags := 1041 }

def heap : Heap := #[{ cls := 11, slots := #[.long 0, .int 1, .null, .int 0, .null, .int 0, .int 0], vm := .statics 11 },
  { cls := 16, slots := #[.null, .null, .null], vm := .statics 16 }]
def classes : Array Class := #[k0, k1, k2, k3, k4, k5, k6, k7, k8, k9, k10, k11, k12, k13, k14, k15, k16, k17, k18, k19, k20, k21, k22]
def interned : List (Array UInt16 × Addr) := []
def slotsUsed : Nat := 10
def theMethod : MethodId := ⟨1, 1⟩
def args0 : Array Value := #[.int 7, .int 5]
def aboutOver (below : List Frame) : State where
  vm := { classes := classes, interned := interned.toArray }
  heap := heap
  slotsUsed := slotsUsed
  threads := #[{ frames := .invoking theMethod args0 :: below }]
def below0 : List Frame := [.native { method := ⟨0, 0⟩, args := #[] }]
def about1 : State := aboutOver below0
def p0 : Program := .bare "" "" ""
def e0 : Env := launch0.env 0 0 0
theorem w_frames : about1.frames = Frame.invoking theMethod args0 :: below0 := rfl
set_option maxRecDepth 65536 in
theorem w_args : argsFit about1.vm theMethod args0 = true := by decide +kernel
set_option maxRecDepth 65536 in
theorem w_heap : heapFits about1 = true := by decide +kernel
set_option maxRecDepth 65536 in
theorem w_runnable : about1.curStatus? = some .runnable := by decide +kernel
set_option maxRecDepth 65536 in
theorem w_alone : about1.alone = true := by decide +kernel
set_option maxRecDepth 65536 in
theorem w_named : about1.methodNamed? x = some theMethod := by decide +kernel
set_option maxRecDepth 65536 in
theorem w_hears : about1.hears theMethod below0 = true := by decide +kernel
set_option maxRecDepth 65536 in
theorem w_ripe : about1.ripe theMethod args0 below0 = true := by decide +kernel
theorem w_running : about1.status = .running := rfl
set_option maxRecDepth 65536 in
theorem w_room : about1.hasRoom e0.platform room_1 = true :=
  launch0.hasRoom_least _ room_1 (by decide +kernel) (by decide +kernel) (by decide +kernel) (by decide +kernel) (by decide +kernel) (by decide +kernel)
theorem allAtoms_all (ts : List Jvm.Cond) (a : Array Jvm.Value) (st : Jvm.State) : (allAtoms ts).before a st = ts.all (fun c => c.before a st) := by
  induction ts with
  | nil => rfl
  | cons c t ih =>
    show (Jvm.Cond.and c (allAtoms t)).before a st = _
    rw [Jvm.Cond.before_and, ih, List.all_cons]
def words1 : List Jvm.Cond := Jvm.Cond.code x code maxLocals ret :: tables_1
/-- a 'code' word, met by the world's own term for the bytes: nothing is compared byte by byte -/
theorem code_word {y : MethodName} {bytes : ByteArray} {mx : Nat} {rt : Option FieldType} {a : Array Value} {s : State} {m : MethodId} {meth : Method} {c : Code} (h1 : s.methodNamed? y = some m) (h2 : s.vm.method? m = some meth) (h3 : meth.code = some c) (h4 : c.code = bytes)
    (h5 : (c.maxLocals == mx && c.exceptionTable.isEmpty && decide (c.maxStack ≤ mostOperands) && decide (meth.sig.returnType = rt) && !meth.locks && decide (parseMethodDescriptor y.desc = some meth.sig)) = true) : (Jvm.Cond.code y bytes mx rt).before a s = true := by
  simp only [Bool.and_eq_true, beq_iff_eq, Bool.not_eq_true', decide_eq_true_eq] at h5
  obtain ⟨⟨⟨⟨⟨g1, g2⟩, g3⟩, g4⟩, g5⟩, g6⟩ := h5
  simp [Cond.before, Cond.holds, Cond.value, h1, h2, h3, h4, g1, g2, g3, g4, g5, g6]
def isCode : Jvm.Cond → Bool
  | .code _ _ _ _ => true
  | _ => false
theorem all_split {L : List Jvm.Cond} {P : Jvm.Cond → Bool} (h1 : L.all (fun c => isCode c || P c) = true) (h2 : ∀ c ∈ L.filter isCode, P c = true) : L.all P = true := by
  refine List.all_eq_true.mpr fun c hc => ?_
  have h := List.all_eq_true.mp h1 c hc
  rcases Bool.eq_false_or_eq_true (isCode c) with hi | hi
  · exact h2 c (List.mem_filter.mpr ⟨hc, hi⟩)
  · simpa [hi] using h
set_option maxRecDepth 65536 in
theorem w_c0 : (Jvm.Cond.code x code maxLocals ret).before args0 about1 = true := code_word (m := ⟨1, 1⟩) (meth := k1m1) (c := k1c1) (by decide +kernel) rfl rfl rfl (by decide +kernel)
set_option maxRecDepth 65536 in
theorem w_c1 : (Jvm.Cond.code ({ cls := "org/allonym/cli/JsonWriter", name := "<init>", desc := "()V" } : Jvm.MethodName) prog_10_method_1_code (1 : Nat) (Option.none : Option Jvm.ClassFile.FieldType)).before args0 about1 = true := code_word (m := ⟨2, 0⟩) (meth := k2m0) (c := k2c0) (by decide +kernel) rfl rfl rfl (by decide +kernel)
set_option maxRecDepth 65536 in
theorem w_c2 : (Jvm.Cond.code ({ cls := "java/lang/Object", name := "<init>", desc := "()V" } : Jvm.MethodName) object_method_1_code (1 : Nat) (Option.none : Option Jvm.ClassFile.FieldType)).before args0 about1 = true := code_word (m := ⟨0, 0⟩) (meth := k0m0) (c := k0c0) (by decide +kernel) rfl rfl rfl (by decide +kernel)
set_option maxRecDepth 65536 in
theorem w_c3 : (Jvm.Cond.code ({ cls := "java/lang/StringBuilder", name := "<init>", desc := "(I)V" } : Jvm.MethodName) jdk_67_method_2_code (2 : Nat) (Option.none : Option Jvm.ClassFile.FieldType)).before args0 about1 = true := code_word (m := ⟨8, 1⟩) (meth := k8m1) (c := k8c1) (by decide +kernel) rfl rfl rfl (by decide +kernel)
set_option maxRecDepth 65536 in
theorem w_c4 : (Jvm.Cond.code ({ cls := "java/lang/AbstractStringBuilder", name := "<init>", desc := "(I)V" } : Jvm.MethodName) jdk_68_method_2_code (2 : Nat) (Option.none : Option Jvm.ClassFile.FieldType)).before args0 about1 = true := code_word (m := ⟨5, 1⟩) (meth := k5m1) (c := k5c1) (by decide +kernel) rfl rfl rfl (by decide +kernel)
set_option maxRecDepth 65536 in
theorem w_c5 : (Jvm.Cond.code ({ cls := "org/allonym/cli/JsonWriter", name := "endArray", desc := "()Lorg/allonym/cli/JsonWriter;" } : Jvm.MethodName) prog_10_method_5_code (1 : Nat) (Option.some (Jvm.ClassFile.FieldType.object "org/allonym/cli/JsonWriter"))).before args0 about1 = true := code_word (m := ⟨2, 2⟩) (meth := k2m2) (c := k2c2) (by decide +kernel) rfl rfl rfl (by decide +kernel)
set_option maxRecDepth 65536 in
theorem w_c6 : (Jvm.Cond.code ({ cls := "java/lang/StringBuilder", name := "append", desc := "(C)Ljava/lang/StringBuilder;" } : Jvm.MethodName) jdk_67_method_14_code (2 : Nat) (Option.some (Jvm.ClassFile.FieldType.object "java/lang/StringBuilder"))).before args0 about1 = true := code_word (m := ⟨8, 3⟩) (meth := k8m3) (c := k8c3) (by decide +kernel) rfl rfl rfl (by decide +kernel)
set_option maxRecDepth 65536 in
theorem w_c7 : (Jvm.Cond.code ({ cls := "java/lang/AbstractStringBuilder", name := "append", desc := "(C)Ljava/lang/AbstractStringBuilder;" } : Jvm.MethodName) jdk_68_method_31_code (2 : Nat) (Option.some (Jvm.ClassFile.FieldType.object "java/lang/AbstractStringBuilder"))).before args0 about1 = true := code_word (m := ⟨5, 6⟩) (meth := k5m6) (c := k5c6) (by decide +kernel) rfl rfl rfl (by decide +kernel)
set_option maxRecDepth 65536 in
theorem w_c8 : (Jvm.Cond.code ({ cls := "java/lang/AbstractStringBuilder", name := "ensureCapacityInternal", desc := "(I)V" } : Jvm.MethodName) jdk_68_method_9_code (3 : Nat) (Option.none : Option Jvm.ClassFile.FieldType)).before args0 about1 = true := code_word (m := ⟨5, 3⟩) (meth := k5m3) (c := k5c3) (by decide +kernel) rfl rfl rfl (by decide +kernel)
set_option maxRecDepth 65536 in
theorem w_c9 : (Jvm.Cond.code ({ cls := "java/lang/AbstractStringBuilder", name := "isLatin1", desc := "()Z" } : Jvm.MethodName) jdk_68_method_68_code (1 : Nat) (Option.some Jvm.ClassFile.FieldType.boolean)).before args0 about1 = true := code_word (m := ⟨5, 8⟩) (meth := k5m8) (c := k5c8) (by decide +kernel) rfl rfl rfl (by decide +kernel)
set_option maxRecDepth 65536 in
theorem w_c10 : (Jvm.Cond.code ({ cls := "java/lang/StringLatin1", name := "canEncode", desc := "(C)Z" } : Jvm.MethodName) jdk_43_method_3_code (1 : Nat) (Option.some Jvm.ClassFile.FieldType.boolean)).before args0 about1 = true := code_word (m := ⟨12, 1⟩) (meth := k12m1) (c := k12c1) (by decide +kernel) rfl rfl rfl (by decide +kernel)
set_option maxRecDepth 65536 in
theorem w_c11 : (Jvm.Cond.code ({ cls := "org/allonym/cli/JsonWriter", name := "toString", desc := "()Ljava/lang/String;" } : Jvm.MethodName) prog_10_method_12_code (1 : Nat) (Option.some (Jvm.ClassFile.FieldType.object "java/lang/String"))).before args0 about1 = true := code_word (m := ⟨2, 5⟩) (meth := k2m5) (c := k2c5) (by decide +kernel) rfl rfl rfl (by decide +kernel)
set_option maxRecDepth 65536 in
theorem w_c12 : (Jvm.Cond.code ({ cls := "java/lang/StringBuilder", name := "toString", desc := "()Ljava/lang/String;" } : Jvm.MethodName) jdk_67_method_42_code (1 : Nat) (Option.some (Jvm.ClassFile.FieldType.object "java/lang/String"))).before args0 about1 = true := code_word (m := ⟨8, 4⟩) (meth := k8m4) (c := k8c4) (by decide +kernel) rfl rfl rfl (by decide +kernel)
set_option maxRecDepth 65536 in
theorem w_c13 : (Jvm.Cond.code ({ cls := "java/lang/String", name := "<init>", desc := "(Ljava/lang/StringBuilder;)V" } : Jvm.MethodName) jdk_42_method_53_code (2 : Nat) (Option.none : Option Jvm.ClassFile.FieldType)).before args0 about1 = true := code_word (m := ⟨11, 1⟩) (meth := k11m1) (c := k11c1) (by decide +kernel) rfl rfl rfl (by decide +kernel)
set_option maxRecDepth 65536 in
theorem w_c14 : (Jvm.Cond.code ({ cls := "java/lang/String", name := "<init>", desc := "(Ljava/lang/AbstractStringBuilder;Ljava/lang/Void;)V" } : Jvm.MethodName) jdk_42_method_150_code (5 : Nat) (Option.none : Option Jvm.ClassFile.FieldType)).before args0 about1 = true := code_word (m := ⟨11, 3⟩) (meth := k11m3) (c := k11c3) (by decide +kernel) rfl rfl rfl (by decide +kernel)
set_option maxRecDepth 65536 in
theorem w_c15 : (Jvm.Cond.code ({ cls := "java/lang/AbstractStringBuilder", name := "getValue", desc := "()[B" } : Jvm.MethodName) jdk_68_method_64_code (1 : Nat) (Option.some (Jvm.ClassFile.FieldType.array Jvm.ClassFile.FieldType.byte))).before args0 about1 = true := code_word (m := ⟨5, 7⟩) (meth := k5m7) (c := k5c7) (by decide +kernel) rfl rfl rfl (by decide +kernel)
set_option maxRecDepth 65536 in
theorem w_c16 : (Jvm.Cond.code ({ cls := "java/lang/StringBuilder", name := "length", desc := "()I" } : Jvm.MethodName) jdk_67_method_93_code (1 : Nat) (Option.some Jvm.ClassFile.FieldType.int)).before args0 about1 = true := code_word (m := ⟨8, 6⟩) (meth := k8m6) (c := k8c6) (by decide +kernel) rfl rfl rfl (by decide +kernel)
set_option maxRecDepth 65536 in
theorem w_c17 : (Jvm.Cond.code ({ cls := "java/lang/AbstractStringBuilder", name := "length", desc := "()I" } : Jvm.MethodName) jdk_68_method_6_code (1 : Nat) (Option.some Jvm.ClassFile.FieldType.int)).before args0 about1 = true := code_word (m := ⟨5, 2⟩) (meth := k5m2) (c := k5c2) (by decide +kernel) rfl rfl rfl (by decide +kernel)
set_option maxRecDepth 65536 in
theorem w_c18 : (Jvm.Cond.code ({ cls := "java/util/Arrays", name := "copyOfRange", desc := "([BII)[B" } : Jvm.MethodName) jdk_65_method_132_code (3 : Nat) (Option.some (Jvm.ClassFile.FieldType.array Jvm.ClassFile.FieldType.byte))).before args0 about1 = true := code_word (m := ⟨13, 2⟩) (meth := k13m2) (c := k13c2) (by decide +kernel) rfl rfl rfl (by decide +kernel)
set_option maxRecDepth 65536 in
theorem w_c19 : (Jvm.Cond.code ({ cls := "java/util/Arrays", name := "copyOfRangeByte", desc := "([BII)[B" } : Jvm.MethodName) jdk_65_method_133_code (5 : Nat) (Option.some (Jvm.ClassFile.FieldType.array Jvm.ClassFile.FieldType.byte))).before args0 about1 = true := code_word (m := ⟨13, 3⟩) (meth := k13m3) (c := k13c3) (by decide +kernel) rfl rfl rfl (by decide +kernel)
set_option maxRecDepth 65536 in
theorem w_c20 : (Jvm.Cond.code ({ cls := "java/util/Arrays", name := "checkLength", desc := "(II)V" } : Jvm.MethodName) jdk_65_method_131_code (2 : Nat) (Option.none : Option Jvm.ClassFile.FieldType)).before args0 about1 = true := code_word (m := ⟨13, 1⟩) (meth := k13m1) (c := k13c1) (by decide +kernel) rfl rfl rfl (by decide +kernel)
set_option maxRecDepth 65536 in
theorem w_c21 : (Jvm.Cond.code ({ cls := "java/lang/Math", name := "min", desc := "(II)I" } : Jvm.MethodName) jdk_29_method_69_code (2 : Nat) (Option.some Jvm.ClassFile.FieldType.int)).before args0 about1 = true := code_word (m := ⟨14, 1⟩) (meth := k14m1) (c := k14c1) (by decide +kernel) rfl rfl rfl (by decide +kernel)
set_option maxRecDepth 65536 in
theorem w_c22 : (Jvm.Cond.code ({ cls := "java/lang/String", name := "equals", desc := "(Ljava/lang/Object;)Z" } : Jvm.MethodName) jdk_42_method_66_code (3 : Nat) (Option.some Jvm.ClassFile.FieldType.boolean)).before args0 about1 = true := code_word (m := ⟨11, 2⟩) (meth := k11m2) (c := k11c2) (by decide +kernel) rfl rfl rfl (by decide +kernel)
set_option maxRecDepth 65536 in
theorem w_c23 : (Jvm.Cond.code ({ cls := "java/lang/StringLatin1", name := "equals", desc := "([B[B)Z" } : Jvm.MethodName) jdk_43_method_13_code (3 : Nat) (Option.some Jvm.ClassFile.FieldType.boolean)).before args0 about1 = true := code_word (m := ⟨12, 2⟩) (meth := k12m2) (c := k12c2) (by decide +kernel) rfl rfl rfl (by decide +kernel)
set_option maxRecDepth 65536 in
theorem w_c24 : (Jvm.Cond.code ({ cls := "org/allonym/cli/JsonWriter", name := "value", desc := "(Z)Lorg/allonym/cli/JsonWriter;" } : Jvm.MethodName) prog_10_method_9_code (2 : Nat) (Option.some (Jvm.ClassFile.FieldType.object "org/allonym/cli/JsonWriter"))).before args0 about1 = true := code_word (m := ⟨2, 3⟩) (meth := k2m3) (c := k2c3) (by decide +kernel) rfl rfl rfl (by decide +kernel)
set_option maxRecDepth 65536 in
theorem w_c25 : (Jvm.Cond.code ({ cls := "org/allonym/cli/JsonWriter", name := "separate", desc := "()V" } : Jvm.MethodName) prog_10_method_10_code (2 : Nat) (Option.none : Option Jvm.ClassFile.FieldType)).before args0 about1 = true := code_word (m := ⟨2, 4⟩) (meth := k2m4) (c := k2c4) (by decide +kernel) rfl rfl rfl (by decide +kernel)
set_option maxRecDepth 65536 in
theorem w_c26 : (Jvm.Cond.code ({ cls := "java/lang/CharSequence", name := "isEmpty", desc := "()Z" } : Jvm.MethodName) jdk_88_method_3_code (1 : Nat) (Option.some Jvm.ClassFile.FieldType.boolean)).before args0 about1 = true := code_word (m := ⟨4, 1⟩) (meth := k4m1) (c := k4c1) (by decide +kernel) rfl rfl rfl (by decide +kernel)
set_option maxRecDepth 65536 in
theorem w_c27 : (Jvm.Cond.code ({ cls := "java/lang/StringBuilder", name := "charAt", desc := "(I)C" } : Jvm.MethodName) jdk_67_method_88_code (2 : Nat) (Option.some Jvm.ClassFile.FieldType.char)).before args0 about1 = true := code_word (m := ⟨8, 5⟩) (meth := k8m5) (c := k8c5) (by decide +kernel) rfl rfl rfl (by decide +kernel)
set_option maxRecDepth 65536 in
theorem w_c28 : (Jvm.Cond.code ({ cls := "java/lang/AbstractStringBuilder", name := "charAt", desc := "(I)C" } : Jvm.MethodName) jdk_68_method_14_code (5 : Nat) (Option.some Jvm.ClassFile.FieldType.char)).before args0 about1 = true := code_word (m := ⟨5, 4⟩) (meth := k5m4) (c := k5c4) (by decide +kernel) rfl rfl rfl (by decide +kernel)
set_option maxRecDepth 65536 in
theorem w_c29 : (Jvm.Cond.code ({ cls := "java/lang/String", name := "checkIndex", desc := "(II)V" } : Jvm.MethodName) jdk_42_method_155_code (2 : Nat) (Option.none : Option Jvm.ClassFile.FieldType)).before args0 about1 = true := code_word (m := ⟨11, 4⟩) (meth := k11m4) (c := k11c4) (by decide +kernel) rfl rfl rfl (by decide +kernel)
set_option maxRecDepth 65536 in
theorem w_c30 : (Jvm.Cond.code ({ cls := "jdk/internal/util/Preconditions", name := "checkIndex", desc := "(IILjava/util/function/BiFunction;)I" } : Jvm.MethodName) jdk_41_method_11_code (3 : Nat) (Option.some Jvm.ClassFile.FieldType.int)).before args0 about1 = true := code_word (m := ⟨16, 1⟩) (meth := k16m1) (c := k16c1) (by decide +kernel) rfl rfl rfl (by decide +kernel)
set_option maxRecDepth 65536 in
theorem w_c31 : (Jvm.Cond.code ({ cls := "java/lang/StringBuilder", name := "append", desc := "(Z)Ljava/lang/StringBuilder;" } : Jvm.MethodName) jdk_67_method_13_code (2 : Nat) (Option.some (Jvm.ClassFile.FieldType.object "java/lang/StringBuilder"))).before args0 about1 = true := code_word (m := ⟨8, 2⟩) (meth := k8m2) (c := k8c2) (by decide +kernel) rfl rfl rfl (by decide +kernel)
set_option maxRecDepth 65536 in
theorem w_c32 : (Jvm.Cond.code ({ cls := "java/lang/AbstractStringBuilder", name := "append", desc := "(Z)Ljava/lang/AbstractStringBuilder;" } : Jvm.MethodName) jdk_68_method_30_code (4 : Nat) (Option.some (Jvm.ClassFile.FieldType.object "java/lang/AbstractStringBuilder"))).before args0 about1 = true := code_word (m := ⟨5, 5⟩) (meth := k5m5) (c := k5c5) (by decide +kernel) rfl rfl rfl (by decide +kernel)
set_option maxRecDepth 65536 in
theorem w_c33 : (Jvm.Cond.code ({ cls := "org/allonym/cli/JsonWriter", name := "beginArray", desc := "()Lorg/allonym/cli/JsonWriter;" } : Jvm.MethodName) prog_10_method_4_code (1 : Nat) (Option.some (Jvm.ClassFile.FieldType.object "org/allonym/cli/JsonWriter"))).before args0 about1 = true := code_word (m := ⟨2, 1⟩) (meth := k2m1) (c := k2c1) (by decide +kernel) rfl rfl rfl (by decide +kernel)
def codes1 : List Jvm.Cond := [Jvm.Cond.code x code maxLocals ret, Jvm.Cond.code ({ cls := "org/allonym/cli/JsonWriter", name := "<init>", desc := "()V" } : Jvm.MethodName) prog_10_method_1_code (1 : Nat) (Option.none : Option Jvm.ClassFile.FieldType), Jvm.Cond.code ({ cls := "java/lang/Object", name := "<init>", desc := "()V" } : Jvm.MethodName) object_method_1_code (1 : Nat) (Option.none : Option Jvm.ClassFile.FieldType), Jvm.Cond.code ({ cls := "java/lang/StringBuilder", name := "<init>", desc := "(I)V" } : Jvm.MethodName) jdk_67_method_2_code (2 : Nat) (Option.none : Option Jvm.ClassFile.FieldType), Jvm.Cond.code ({ cls := "java/lang/AbstractStringBuilder", name := "<init>", desc := "(I)V" } : Jvm.MethodName) jdk_68_method_2_code (2 : Nat) (Option.none : Option Jvm.ClassFile.FieldType), Jvm.Cond.code ({ cls := "org/allonym/cli/JsonWriter", name := "endArray", desc := "()Lorg/allonym/cli/JsonWriter;" } : Jvm.MethodName) prog_10_method_5_code (1 : Nat) (Option.some (Jvm.ClassFile.FieldType.object "org/allonym/cli/JsonWriter")), Jvm.Cond.code ({ cls := "java/lang/StringBuilder", name := "append", desc := "(C)Ljava/lang/StringBuilder;" } : Jvm.MethodName) jdk_67_method_14_code (2 : Nat) (Option.some (Jvm.ClassFile.FieldType.object "java/lang/StringBuilder")), Jvm.Cond.code ({ cls := "java/lang/AbstractStringBuilder", name := "append", desc := "(C)Ljava/lang/AbstractStringBuilder;" } : Jvm.MethodName) jdk_68_method_31_code (2 : Nat) (Option.some (Jvm.ClassFile.FieldType.object "java/lang/AbstractStringBuilder")), Jvm.Cond.code ({ cls := "java/lang/AbstractStringBuilder", name := "ensureCapacityInternal", desc := "(I)V" } : Jvm.MethodName) jdk_68_method_9_code (3 : Nat) (Option.none : Option Jvm.ClassFile.FieldType), Jvm.Cond.code ({ cls := "java/lang/AbstractStringBuilder", name := "isLatin1", desc := "()Z" } : Jvm.MethodName) jdk_68_method_68_code (1 : Nat) (Option.some Jvm.ClassFile.FieldType.boolean), Jvm.Cond.code ({ cls := "java/lang/StringLatin1", name := "canEncode", desc := "(C)Z" } : Jvm.MethodName) jdk_43_method_3_code (1 : Nat) (Option.some Jvm.ClassFile.FieldType.boolean), Jvm.Cond.code ({ cls := "org/allonym/cli/JsonWriter", name := "toString", desc := "()Ljava/lang/String;" } : Jvm.MethodName) prog_10_method_12_code (1 : Nat) (Option.some (Jvm.ClassFile.FieldType.object "java/lang/String")), Jvm.Cond.code ({ cls := "java/lang/StringBuilder", name := "toString", desc := "()Ljava/lang/String;" } : Jvm.MethodName) jdk_67_method_42_code (1 : Nat) (Option.some (Jvm.ClassFile.FieldType.object "java/lang/String")), Jvm.Cond.code ({ cls := "java/lang/String", name := "<init>", desc := "(Ljava/lang/StringBuilder;)V" } : Jvm.MethodName) jdk_42_method_53_code (2 : Nat) (Option.none : Option Jvm.ClassFile.FieldType), Jvm.Cond.code ({ cls := "java/lang/String", name := "<init>", desc := "(Ljava/lang/AbstractStringBuilder;Ljava/lang/Void;)V" } : Jvm.MethodName) jdk_42_method_150_code (5 : Nat) (Option.none : Option Jvm.ClassFile.FieldType), Jvm.Cond.code ({ cls := "java/lang/AbstractStringBuilder", name := "getValue", desc := "()[B" } : Jvm.MethodName) jdk_68_method_64_code (1 : Nat) (Option.some (Jvm.ClassFile.FieldType.array Jvm.ClassFile.FieldType.byte)), Jvm.Cond.code ({ cls := "java/lang/StringBuilder", name := "length", desc := "()I" } : Jvm.MethodName) jdk_67_method_93_code (1 : Nat) (Option.some Jvm.ClassFile.FieldType.int), Jvm.Cond.code ({ cls := "java/lang/AbstractStringBuilder", name := "length", desc := "()I" } : Jvm.MethodName) jdk_68_method_6_code (1 : Nat) (Option.some Jvm.ClassFile.FieldType.int), Jvm.Cond.code ({ cls := "java/util/Arrays", name := "copyOfRange", desc := "([BII)[B" } : Jvm.MethodName) jdk_65_method_132_code (3 : Nat) (Option.some (Jvm.ClassFile.FieldType.array Jvm.ClassFile.FieldType.byte)), Jvm.Cond.code ({ cls := "java/util/Arrays", name := "copyOfRangeByte", desc := "([BII)[B" } : Jvm.MethodName) jdk_65_method_133_code (5 : Nat) (Option.some (Jvm.ClassFile.FieldType.array Jvm.ClassFile.FieldType.byte)), Jvm.Cond.code ({ cls := "java/util/Arrays", name := "checkLength", desc := "(II)V" } : Jvm.MethodName) jdk_65_method_131_code (2 : Nat) (Option.none : Option Jvm.ClassFile.FieldType), Jvm.Cond.code ({ cls := "java/lang/Math", name := "min", desc := "(II)I" } : Jvm.MethodName) jdk_29_method_69_code (2 : Nat) (Option.some Jvm.ClassFile.FieldType.int), Jvm.Cond.code ({ cls := "java/lang/String", name := "equals", desc := "(Ljava/lang/Object;)Z" } : Jvm.MethodName) jdk_42_method_66_code (3 : Nat) (Option.some Jvm.ClassFile.FieldType.boolean), Jvm.Cond.code ({ cls := "java/lang/StringLatin1", name := "equals", desc := "([B[B)Z" } : Jvm.MethodName) jdk_43_method_13_code (3 : Nat) (Option.some Jvm.ClassFile.FieldType.boolean), Jvm.Cond.code ({ cls := "org/allonym/cli/JsonWriter", name := "value", desc := "(Z)Lorg/allonym/cli/JsonWriter;" } : Jvm.MethodName) prog_10_method_9_code (2 : Nat) (Option.some (Jvm.ClassFile.FieldType.object "org/allonym/cli/JsonWriter")), Jvm.Cond.code ({ cls := "org/allonym/cli/JsonWriter", name := "separate", desc := "()V" } : Jvm.MethodName) prog_10_method_10_code (2 : Nat) (Option.none : Option Jvm.ClassFile.FieldType), Jvm.Cond.code ({ cls := "java/lang/CharSequence", name := "isEmpty", desc := "()Z" } : Jvm.MethodName) jdk_88_method_3_code (1 : Nat) (Option.some Jvm.ClassFile.FieldType.boolean), Jvm.Cond.code ({ cls := "java/lang/StringBuilder", name := "charAt", desc := "(I)C" } : Jvm.MethodName) jdk_67_method_88_code (2 : Nat) (Option.some Jvm.ClassFile.FieldType.char), Jvm.Cond.code ({ cls := "java/lang/AbstractStringBuilder", name := "charAt", desc := "(I)C" } : Jvm.MethodName) jdk_68_method_14_code (5 : Nat) (Option.some Jvm.ClassFile.FieldType.char), Jvm.Cond.code ({ cls := "java/lang/String", name := "checkIndex", desc := "(II)V" } : Jvm.MethodName) jdk_42_method_155_code (2 : Nat) (Option.none : Option Jvm.ClassFile.FieldType), Jvm.Cond.code ({ cls := "jdk/internal/util/Preconditions", name := "checkIndex", desc := "(IILjava/util/function/BiFunction;)I" } : Jvm.MethodName) jdk_41_method_11_code (3 : Nat) (Option.some Jvm.ClassFile.FieldType.int), Jvm.Cond.code ({ cls := "java/lang/StringBuilder", name := "append", desc := "(Z)Ljava/lang/StringBuilder;" } : Jvm.MethodName) jdk_67_method_13_code (2 : Nat) (Option.some (Jvm.ClassFile.FieldType.object "java/lang/StringBuilder")), Jvm.Cond.code ({ cls := "java/lang/AbstractStringBuilder", name := "append", desc := "(Z)Ljava/lang/AbstractStringBuilder;" } : Jvm.MethodName) jdk_68_method_30_code (4 : Nat) (Option.some (Jvm.ClassFile.FieldType.object "java/lang/AbstractStringBuilder")), Jvm.Cond.code ({ cls := "org/allonym/cli/JsonWriter", name := "beginArray", desc := "()Lorg/allonym/cli/JsonWriter;" } : Jvm.MethodName) prog_10_method_4_code (1 : Nat) (Option.some (Jvm.ClassFile.FieldType.object "org/allonym/cli/JsonWriter"))]
set_option maxRecDepth 65536 in
theorem codes_eq : words1.filter isCode = codes1 := rfl
theorem w_codes : ∀ c ∈ words1.filter isCode, c.before args0 about1 = true := by
  rw [codes_eq]
  intro c hc
  simp only [codes1, List.mem_cons, List.not_mem_nil, or_false] at hc
  rcases hc with rfl | rfl | rfl | rfl | rfl | rfl | rfl | rfl | rfl | rfl | rfl | rfl | rfl | rfl | rfl | rfl | rfl | rfl | rfl | rfl | rfl | rfl | rfl | rfl | rfl | rfl | rfl | rfl | rfl | rfl | rfl | rfl | rfl | rfl
  · exact w_c0
  · exact w_c1
  · exact w_c2
  · exact w_c3
  · exact w_c4
  · exact w_c5
  · exact w_c6
  · exact w_c7
  · exact w_c8
  · exact w_c9
  · exact w_c10
  · exact w_c11
  · exact w_c12
  · exact w_c13
  · exact w_c14
  · exact w_c15
  · exact w_c16
  · exact w_c17
  · exact w_c18
  · exact w_c19
  · exact w_c20
  · exact w_c21
  · exact w_c22
  · exact w_c23
  · exact w_c24
  · exact w_c25
  · exact w_c26
  · exact w_c27
  · exact w_c28
  · exact w_c29
  · exact w_c30
  · exact w_c31
  · exact w_c32
  · exact w_c33
set_option maxRecDepth 65536 in
theorem w_t1 : (words1.take 24).all (fun c => isCode c || c.before args0 about1) = true := by decide +kernel
set_option maxRecDepth 65536 in
theorem w_t2 : ((words1.drop 24).take 24).all (fun c => isCode c || c.before args0 about1) = true := by decide +kernel
set_option maxRecDepth 65536 in
theorem w_t3 : (((words1.drop 24).drop 24).take 24).all (fun c => isCode c || c.before args0 about1) = true := by decide +kernel
set_option maxRecDepth 65536 in
theorem w_t4 : ((((words1.drop 24).drop 24).drop 24).take 24).all (fun c => isCode c || c.before args0 about1) = true := by decide +kernel
set_option maxRecDepth 65536 in
theorem w_t5 : (((((words1.drop 24).drop 24).drop 24).drop 24).take 24).all (fun c => isCode c || c.before args0 about1) = true := by decide +kernel
set_option maxRecDepth 65536 in
theorem w_t6 : ((((((words1.drop 24).drop 24).drop 24).drop 24).drop 24).take 24).all (fun c => isCode c || c.before args0 about1) = true := by decide +kernel
set_option maxRecDepth 65536 in
theorem w_t7 : (((((((words1.drop 24).drop 24).drop 24).drop 24).drop 24).drop 24).take 24).all (fun c => isCode c || c.before args0 about1) = true := by decide +kernel
set_option maxRecDepth 65536 in
theorem w_t8 : ((((((((words1.drop 24).drop 24).drop 24).drop 24).drop 24).drop 24).drop 24).take 24).all (fun c => isCode c || c.before args0 about1) = true := by decide +kernel
set_option maxRecDepth 65536 in
theorem w_t9 : ((((((((words1.drop 24).drop 24).drop 24).drop 24).drop 24).drop 24).drop 24).drop 24).all (fun c => isCode c || c.before args0 about1) = true := by decide +kernel
theorem w_tables : (allAtoms (Jvm.Cond.code x code maxLocals ret :: tables_1)).before args0 about1 = true := by
  rw [allAtoms_all]
  show words1.all (fun c => c.before args0 about1) = true
  refine all_split ?_ w_codes
  rw [← List.take_append_drop 24 words1, List.all_append, w_t1, ← List.take_append_drop 24 (words1.drop 24), List.all_append, w_t2, ← List.take_append_drop 24 ((words1.drop 24).drop 24), List.all_append, w_t3, ← List.take_append_drop 24 (((words1.drop 24).drop 24).drop 24), List.all_append, w_t4, ← List.take_append_drop 24 ((((words1.drop 24).drop 24).drop 24).drop 24), List.all_append, w_t5, ← List.take_append_drop 24 (((((words1.drop 24).drop 24).drop 24).drop 24).drop 24), List.all_append, w_t6, ← List.take_append_drop 24 ((((((words1.drop 24).drop 24).drop 24).drop 24).drop 24).drop 24), List.all_append, w_t7, ← List.take_append_drop 24 (((((((words1.drop 24).drop 24).drop 24).drop 24).drop 24).drop 24).drop 24), List.all_append, w_t8, w_t9]
  rfl
set_option maxRecDepth 65536 in
theorem w_rest : rest_1_c.before args0 about1 = true := by decide +kernel
set_option maxRecDepth 65536 in
theorem w_case : (Jvm.Cond.and given_1 narrow_1).before args0 about1 = true := by decide +kernel
set_option maxRecDepth 65536 in
theorem w_consts : constsHeld consts_1 about1 := Jvm.Lit.constsHeldB_iff.mp (by decide +kernel)
theorem w_applies : (headSpec (Jvm.Cond.code x code maxLocals ret :: tables_1) room_1).applies x e0.platform about1 = true :=
  (Spec.applies_iff w_frames).mpr ⟨w_running, w_runnable, w_alone, w_named, w_hears, w_ripe, w_room, w_tables⟩
theorem atStart : AtStart classFile x code maxLocals ret World_1 tables_1 room_1 Calls_1 rest_1 Pre_1 launch0 p0 e0 about1 theMethod args0 below0 :=
  ⟨lists_1, trivial, launch0.admits_env _ _ _, launch0.least_env, fairChoices_fair.cas, fairChoices_fair.clock, w_frames, w_args, w_heap, w_applies, ⟨w_consts, trivial⟩, w_rest, w_case⟩
end start1
theorem witness_1 : WitnessClaimed_1 := ⟨start1.p0, start1.e0, start1.about1, start1.theMethod, start1.args0, start1.below0, start1.atStart⟩
end Jvm.Pilot.@@N@@
