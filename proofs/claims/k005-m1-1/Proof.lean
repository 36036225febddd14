import JvmDerived
import JvmDerived.Pilot.@@N@@Statement
import JvmDerived.Pilot.@@N@@Code
set_option linter.unusedVariables false
set_option linter.unusedSimpArgs false
namespace Jvm.OwnKit
open Sem ClassFile Op Lib Jvm.Stand Jvm.Free Jvm.LawKit Jvm.RoadKit
section Own
variable {p : Program} {l : Launch} {e : Env} {R : Room} {s : State} {m : MethodId} {args : Array Value} {below : List Frame} {meth : Method} {c : Code} {T : State} {locs : List Loc} {cells slots : Nat} {Z : State} {a0 : Array Value} {h : Heap}
/-- from S the run comes to an end that F admits -/
def W (p : Program) (e : Env) (below : List Frame) (F : Outcome → State → Prop) (S : State) : Prop := ∃ s₂ o, Steps p.tables e below S s₂ ∧ s₂.status = .running ∧ Ended s₂ below o ∧ F o s₂
def Fin (s : State) (Q : Option Value → Heap → List Loc → Prop) (rc rs : Nat) (o : Outcome) (U : State) : Prop := ∃ v L, o = .returned v ∧ Q v U.heap L ∧ FrameEnd s o U L rc rs
theorem W.go {F : Outcome → State → Prop} {S S' : State} (st : ∀ t, Steps p.tables e below S' t → Steps p.tables e below S t) (k : W p e below F S') : W p e below F S := by
  obtain ⟨s2, o, h1, h2⟩ := k; exact ⟨s2, o, st _ h1, h2⟩
theorem W.via {F : Outcome → State → Prop} {S S' : State} (st : Steps p.tables e below S S') (k : W p e below F S') : W p e below F S := by
  obtain ⟨s2, o, h1, h2⟩ := k; exact ⟨s2, o, st.trans h1, h2⟩
/-- a contract: called with these arguments, over this heap, the body returns and leaves what Q says -/
def Ctr (l : Launch) (Z : State) (y : MethodName) (bytes : ByteArray) (maxL : Nat) (ret : Option FieldType) (rm : Room) (as' : Array Value) (h0 : Heap) (Q : Option Value → Heap → List Loc → Prop) : Prop :=
  ∀ ws : List Jvm.Cond, MetFree l y (head1 (Jvm.Cond.code y bytes maxL ret :: ws) rm) (fun a U => a = as' ∧ Z.Warmed39 U.vm ∧ U.heap = h0) (fun _ _ _ _ _ => True) (fun _ U o U' => Fin U Q rm.cells rm.slots o U')
theorem Ctr.body {y : MethodName} {bytes : ByteArray} {maxL : Nat} {ret : Option FieldType} {rm : Room} {as' : Array Value} {h0 : Heap} {Q : Option Value → Heap → List Loc → Prop} {fr : MethodId → JFrame} (hpl : plainFor y = true) (hef : ∀ m, entryFrame m as' maxL = fr m)
    (body : ∀ (p : Program) (e : Env) (s : State) (m : MethodId) (below : List Frame) (meth : Method) (c : Code) (s₁ : State), p.tables.exec = Jvm.exec → c.code = bytes → c.maxLocals = maxL → Z.Warmed39 s.vm → s.vm.findClass y.cls = some m.cls → meth.name = y.name → meth.sig.returnType = ret → meth.locks = false →
      Stand p l e rm s m as' below meth c s₁ [] 0 0 → s₁.heap = h0 → W p e below (Fin s Q rm.cells rm.slots) (s₁.setTop (fr m))) : Ctr l Z y bytes maxL ret rm as' h0 Q := by
  intro ws
  refine MetFree.of_bodySF hpl hisR ?_
  intro p e s m args below meth c s₁ Bd hml0 hP hK
  obtain ⟨rfl, hZ, hh⟩ := hP
  have r := body p e s m below meth c s₁ Bd.exec Bd.bytes hml0 hZ (findClass_of_methodNamed Bd.named) (name_of_methodNamed Bd.named Bd.method).1 Bd.returns Bd.notSynchronized (Stand.of_body Bd) (by rw [← hh, Bd.state]; rfl)
  rw [← hef] at r
  exact r
theorem W.retB (X : Stand p l e R s m args below meth c T locs cells slots) (hx : p.tables.exec = Jvm.exec) (hlk : meth.locks = false) {t : FieldType} (hret : meth.sig.returnType = some t) (ht : t = .boolean ∨ t = .byte ∨ t = .char ∨ t = .short) {pc : Nat} {Ls : Array Slot} {z : Int32} {rest : List Value} (hd : decode c.code pc = .ok (.ireturn, 1))
    {Q : Option Value → Heap → List Loc → Prop} {rc rs : Nat} (hc : cells ≤ rc) (hs : slots ≤ rs) (eT : T.heap = h) (hQ : Q (some (.int (nar t z))) h locs) : W p e below (Fin s Q rc rs) (T.setTop (mkF m pc Ls (.int z :: rest))) := by
  obtain ⟨fs, hr, hrun, hended, hW, hsame⟩ := X.leave (v := some (.int (nar t z))) (fun h => by rw [hret] at h; cases h) hlk
  subst eT
  exact ⟨_, _, retN X hx hret ht hd hr, hrun, hended, _, _, rfl, hQ, ⟨_, rfl⟩, hW, hsame.mono hc hs⟩
theorem W.retI (X : Stand p l e R s m args below meth c T locs cells slots) (hx : p.tables.exec = Jvm.exec) (hlk : meth.locks = false) (hret : meth.sig.returnType = some .int) {pc : Nat} {Ls : Array Slot} {z : Int32} {rest : List Value} (hd : decode c.code pc = .ok (.ireturn, 1))
    {Q : Option Value → Heap → List Loc → Prop} {rc rs : Nat} (hc : cells ≤ rc) (hs : slots ≤ rs) (eT : T.heap = h) (hQ : Q (some (.int z)) h locs) : W p e below (Fin s Q rc rs) (T.setTop (mkF m pc Ls (.int z :: rest))) := by
  obtain ⟨fs, hr, hrun, hended, hW, hsame⟩ := X.leave (v := some (.int z)) (fun h => by rw [hret] at h; cases h) hlk
  subst eT
  refine ⟨_, _, ?_, hrun, hended, _, _, rfl, hQ, ⟨_, rfl⟩, hW, hsame.mono hc hs⟩
  have hm' : T.vm.method? m = some meth := X.method'
  have hn : narrow .int (.int z) = .int z := rfl
  show Steps p.tables e below (T.setTop { method := m, pc := pc, locals := Ls, stack := _ :: rest, locked := none }) _
  jvm_step X.here [X.here.top, hx, hd, hm', hret, hn]
  first | (intro acts; rw [hr _ acts rfl rfl rfl]) | rw [hr _ _ rfl rfl rfl]
  exact Steps.refl _
theorem W.retL (X : Stand p l e R s m args below meth c T locs cells slots) (hx : p.tables.exec = Jvm.exec) (hlk : meth.locks = false) (hret : meth.sig.returnType = some .long) {pc : Nat} {Ls : Array Slot} {z : Int64} {rest : List Value} (hd : decode c.code pc = .ok (.lreturn, 1))
    {Q : Option Value → Heap → List Loc → Prop} {rc rs : Nat} (hc : cells ≤ rc) (hs : slots ≤ rs) (eT : T.heap = h) (hQ : Q (some (.long z)) h locs) : W p e below (Fin s Q rc rs) (T.setTop (mkF m pc Ls (.long z :: rest))) := by
  obtain ⟨fs, hr, hrun, hended, hW, hsame⟩ := X.leave (v := some (.long z)) (fun h => by rw [hret] at h; cases h) hlk
  subst eT
  refine ⟨_, _, ?_, hrun, hended, _, _, rfl, hQ, ⟨_, rfl⟩, hW, hsame.mono hc hs⟩
  have hm' : T.vm.method? m = some meth := X.method'
  have hn : narrow .long (.long z) = .long z := rfl
  show Steps p.tables e below (T.setTop { method := m, pc := pc, locals := Ls, stack := _ :: rest, locked := none }) _
  jvm_step X.here [X.here.top, hx, hd, hm', hret, hn]
  first | (intro acts; rw [hr _ acts rfl rfl rfl]) | rw [hr _ _ rfl rfl rfl]
  exact Steps.refl _
theorem W.retA (X : Stand p l e R s m args below meth c T locs cells slots) (hx : p.tables.exec = Jvm.exec) (hlk : meth.locks = false) {t : FieldType} (hret : meth.sig.returnType = some t) (ht : t.isReference = true) {pc : Nat} {Ls : Array Slot} {w : Value} (hw : w.isRef = true) {rest : List Value} (hd : decode c.code pc = .ok (.areturn, 1))
    {Q : Option Value → Heap → List Loc → Prop} {rc rs : Nat} (hc : cells ≤ rc) (hs : slots ≤ rs) (eT : T.heap = h) (hQ : Q (some w) h locs) : W p e below (Fin s Q rc rs) (T.setTop (mkF m pc Ls (w :: rest))) := by
  obtain ⟨fs, hr, hrun, hended, hW, hsame⟩ := X.leave (v := some w) (fun h => by rw [hret] at h; cases h) hlk
  subst eT
  refine ⟨_, _, ?_, hrun, hended, _, _, rfl, hQ, ⟨_, rfl⟩, hW, hsame.mono hc hs⟩
  have hm' : T.vm.method? m = some meth := X.method'
  rcases ref_cases hw with rfl | ⟨z, rfl⟩
  all_goals
    show Steps p.tables e below (T.setTop { method := m, pc := pc, locals := Ls, stack := _ :: rest, locked := none }) _
    jvm_step X.here [X.here.top, hx, hd, hm', hret, ht, Value.isRef]
    first | (intro acts; rw [hr _ acts rfl rfl rfl]) | rw [hr _ _ rfl rfl rfl]
    exact Steps.refl _
theorem W.retV (X : Stand p l e R s m args below meth c T locs cells slots) (hx : p.tables.exec = Jvm.exec) (hlk : meth.locks = false) (hret : meth.sig.returnType = none) {pc : Nat} {Ls : Array Slot} (hd : decode c.code pc = .ok (.return_, 1))
    {Q : Option Value → Heap → List Loc → Prop} {rc rs : Nat} (hc : cells ≤ rc) (hs : slots ≤ rs) (eT : T.heap = h) (hQ : Q none h locs) : W p e below (Fin s Q rc rs) (T.setTop (mkF m pc Ls [])) := by
  obtain ⟨fs, hr, hrun, hended, hW, hsame⟩ := X.leave (v := none) (fun _ => rfl) hlk
  subst eT
  exact ⟨_, _, X.returnOut hx hret hd hr, hrun, hended, _, _, rfl, hQ, ⟨_, rfl⟩, hW, hsame.mono hc hs⟩
section Calls
variable {y y0 : MethodName} {bytes : ByteArray} {maxL W0 : Nat} {ret : Option FieldType} {rm : Room} {as' : Array Value} {Q : Option Value → Heap → List Loc → Prop} {own : String} {index : Nat} {sig : MethodDescriptor} {g : JFrame} {argsL rest : List Value} {F : Outcome → State → Prop}
theorem Ctr.back {len : Nat} (hM : Ctr l Z y bytes maxL ret rm as' h Q) (hZ : Z.Warmed39 s.vm) (wc : (Jvm.Cond.code y bytes maxL ret).before a0 Z = true) (wz : (Jvm.Cond.initialized y.cls).before a0 Z = true) (hf : rm.frames + 1 ≤ R.frames) (hl : W0 + (maxL + 11) + rm.locals ≤ R.locals) :
    Back l R p e below s args y len W0 (fun A a => a = as' ∧ A.U.heap = h ∧ A.cells + rm.cells ≤ R.cells ∧ A.slots + rm.slots ≤ R.slots)
      (fun A _ v B => ∃ L, Q v B.U.heap L ∧ B.locs = A.locs ++ L ∧ B.cells = A.cells + rm.cells ∧ B.slots = A.slots + rm.slots) := backOf (hM []) hZ wc wz hf hl
/-- a static call by its contract -/
theorem W.callS (X : Stand p l e R s m args below meth c T locs cells slots) (hx : p.tables.exec = Jvm.exec) (hZ : Z.Warmed39 s.vm) (hown : s.vm.findClass own = some m.cls) (hml : g.locals.size = c.maxLocals)
    (w1 : (Jvm.Cond.methodLink own index y).before a0 Z = true) (w2 : (Jvm.Cond.static y).before a0 Z = true) (w3 : (Jvm.Cond.initialized y.cls).before a0 Z = true) (w4 : (Jvm.Cond.code y bytes maxL ret).before a0 Z = true) (eT : T.heap = h)
    (hM : Ctr l Z y bytes maxL ret rm as' h Q) (hy : y.cls ≠ "java/lang/invoke/MethodHandle" ∧ y.cls ≠ "java/lang/invoke/VarHandle") (pd : parseMethodDescriptor y.desc = some sig) (hg : g.method = m) (has : argsL.toArray = as') (hlen : argsL.length = sig.parameters.length)
    (hst : g.stack = argsL.reverse ++ rest) (hd : decode c.code g.pc = .ok (.invokestatic index, 3)) (hW : 2 * g.monitorRoom + (rest.map fun v => v.category).sum = W0) (hf : rm.frames + 1 ≤ R.frames) (hl : W0 + (maxL + 11) + rm.locals ≤ R.locals) (hc : cells + rm.cells ≤ R.cells) (hs : slots + rm.slots ≤ R.slots)
    (k : ∀ v T' h' L, Stand p l e R s m args below meth c T' (locs ++ L) (cells + rm.cells) (slots + rm.slots) → T'.heap = h' → Q v h' L → W p e below F (T'.setTop { g with pc := g.pc + 3, stack := v.toList ++ rest })) : W p e below F (T.setTop g) := by
  obtain ⟨v, _, ⟨T', L', k', n'⟩, -, X', ⟨L, hQ, e1, e2, e3⟩, st⟩ := Jvm.LawKit.callS X hx hown (mvT hZ w1) (mvT hZ w2) (mvT hZ w3) (mvT hZ w4) hy (hM.back hZ w4 w3 hf hl) hg hml (argsL := argsL) (rest := rest) (fun sg q => by cases pd.symm.trans q; exact hlen) hst (Nat.le_of_eq hW) hd (fun _ _ => ⟨has, eT, hc, hs⟩)
  dsimp only [Pt.U, Pt.locs, Pt.cells, Pt.slots] at X' e1 e2 e3 hQ st
  subst e1 e2 e3
  exact W.go st (k v T' _ L X' rfl hQ)
/-- a constructor, whoever pays it -/
theorem W.callIK {kc ks : Nat} (X : Stand p l e R s m args below meth c T locs cells slots) (hx : p.tables.exec = Jvm.exec) (hZ : Z.Warmed39 s.vm) (hown : s.vm.findClass own = some m.cls) (hml : g.locals.size = c.maxLocals)
    (w1 : (Jvm.Cond.methodLink own index y).before a0 Z = true) (w2 : (Jvm.Cond.instanceMethod y).before a0 Z = true) (w4 : (Jvm.Cond.code y bytes maxL none).before a0 Z = true) (eT : T.heap = h)
    (hK : Back l R p e below s args y 3 W0 (fun A a => a = as' ∧ A.U.heap = h ∧ A.cells + kc ≤ R.cells ∧ A.slots + ks ≤ R.slots) (fun A _ v B => ∃ L, Q v B.U.heap L ∧ B.locs = A.locs ++ L ∧ B.cells = A.cells + kc ∧ B.slots = A.slots + ks)) (hn : y.name = "<init>") (hy : y.cls ≠ "java/lang/invoke/MethodHandle" ∧ y.cls ≠ "java/lang/invoke/VarHandle") (pd : parseMethodDescriptor y.desc = some sig) (hg : g.method = m) {b : Addr} (has : (Value.ref b :: argsL).toArray = as') (hlen : argsL.length = sig.parameters.length)
    (hst : g.stack = argsL.reverse ++ .ref b :: rest) (hd : decode c.code g.pc = .ok (.invokespecial index, 3)) (hW : 2 * g.monitorRoom + (rest.map fun v => v.category).sum = W0) (hc : cells + kc ≤ R.cells) (hs : slots + ks ≤ R.slots)
    (k : ∀ v T' h' L, Stand p l e R s m args below meth c T' (locs ++ L) (cells + kc) (slots + ks) → T'.heap = h' → Q v h' L → W p e below F (T'.setTop { g with pc := g.pc + 3, stack := v.toList ++ rest })) : W p e below F (T.setTop g) := by
  obtain ⟨v, _, ⟨T', L', k', n'⟩, -, X', ⟨L, hQ, e1, e2, e3⟩, st⟩ := X.specialBack hx hn hown (mvT hZ w1) (mvT hZ w2) (mvT hZ w4) hy hK hg hml (Steps.refl _) (a := b) (argsL := argsL) (rest := rest) (fun sg q => by cases pd.symm.trans q; exact hlen) hst (Nat.le_of_eq hW) hd (fun _ _ => ⟨has, eT, hc, hs⟩)
  dsimp only [Pt.U, Pt.locs, Pt.cells, Pt.slots] at X' e1 e2 e3 hQ st
  subst e1 e2 e3
  exact W.via st (k v T' _ L X' rfl hQ)
/-- a constructor by its contract -/
theorem W.callI (X : Stand p l e R s m args below meth c T locs cells slots) (hx : p.tables.exec = Jvm.exec) (hZ : Z.Warmed39 s.vm) (hown : s.vm.findClass own = some m.cls) (hml : g.locals.size = c.maxLocals)
    (w1 : (Jvm.Cond.methodLink own index y).before a0 Z = true) (w2 : (Jvm.Cond.instanceMethod y).before a0 Z = true) (w3 : (Jvm.Cond.initialized y.cls).before a0 Z = true) (w4 : (Jvm.Cond.code y bytes maxL none).before a0 Z = true) (eT : T.heap = h)
    (hM : Ctr l Z y bytes maxL none rm as' h Q) (hn : y.name = "<init>") (hy : y.cls ≠ "java/lang/invoke/MethodHandle" ∧ y.cls ≠ "java/lang/invoke/VarHandle") (pd : parseMethodDescriptor y.desc = some sig) (hg : g.method = m) {b : Addr} (has : (Value.ref b :: argsL).toArray = as') (hlen : argsL.length = sig.parameters.length)
    (hst : g.stack = argsL.reverse ++ .ref b :: rest) (hd : decode c.code g.pc = .ok (.invokespecial index, 3)) (hW : 2 * g.monitorRoom + (rest.map fun v => v.category).sum = W0) (hf : rm.frames + 1 ≤ R.frames) (hl : W0 + (maxL + 11) + rm.locals ≤ R.locals) (hc : cells + rm.cells ≤ R.cells) (hs : slots + rm.slots ≤ R.slots)
    (k : ∀ v T' h' L, Stand p l e R s m args below meth c T' (locs ++ L) (cells + rm.cells) (slots + rm.slots) → T'.heap = h' → Q v h' L → W p e below F (T'.setTop { g with pc := g.pc + 3, stack := v.toList ++ rest })) : W p e below F (T.setTop g) := by
  obtain ⟨v, _, ⟨T', L', k', n'⟩, -, X', ⟨L, hQ, e1, e2, e3⟩, st⟩ := X.specialBack hx hn hown (mvT hZ w1) (mvT hZ w2) (mvT hZ w4) hy (hM.back hZ w4 w3 hf hl) hg hml (Steps.refl _) (a := b) (argsL := argsL) (rest := rest) (fun sg q => by cases pd.symm.trans q; exact hlen) hst (Nat.le_of_eq hW) hd (fun _ _ => ⟨has, eT, hc, hs⟩)
  dsimp only [Pt.U, Pt.locs, Pt.cells, Pt.slots] at X' e1 e2 e3 hQ st
  subst e1 e2 e3
  exact W.via st (k v T' _ L X' rfl hQ)
/-- an instance method, whoever pays it -/
theorem W.callVK {kc ks : Nat} {C : String} (X : Stand p l e R s m args below meth c T locs cells slots) (hx : p.tables.exec = Jvm.exec) (hZ : Z.Warmed39 s.vm) (hown : s.vm.findClass own = some m.cls) (hml : g.locals.size = c.maxLocals)
    (w1 : (Jvm.Cond.methodLink own index y0).before a0 Z = true) (w5 : (Jvm.Cond.declares y0).before a0 Z = true) (w6 : (Jvm.Cond.selects C y0 y).before a0 Z = true) (w2 : (Jvm.Cond.instanceMethod y).before a0 Z = true) (eT : T.heap = h)
    (hK : Back l R p e below s args y 3 W0 (fun A a => a = as' ∧ A.U.heap = h ∧ A.cells + kc ≤ R.cells ∧ A.slots + ks ≤ R.slots) (fun A _ v B => ∃ L, Q v B.U.heap L ∧ B.locs = A.locs ++ L ∧ B.cells = A.cells + kc ∧ B.slots = A.slots + ks)) (hnf : NotFace s y0) (hy : y0.cls ≠ "java/lang/invoke/MethodHandle" ∧ y0.cls ≠ "java/lang/invoke/VarHandle") (pd : parseMethodDescriptor y0.desc = some sig) (hg : g.method = m) {b : Addr} (E : Exa Z h b C) (has : (Value.ref b :: argsL).toArray = as') (hlen : argsL.length = sig.parameters.length)
    (hst : g.stack = argsL.reverse ++ .ref b :: rest) (hd : decode c.code g.pc = .ok (.invokevirtual index, 3)) (hW : 2 * g.monitorRoom + (rest.map fun v => v.category).sum = W0) (hc : cells + kc ≤ R.cells) (hs : slots + ks ≤ R.slots)
    (k : ∀ v T' h' L, Stand p l e R s m args below meth c T' (locs ++ L) (cells + kc) (slots + ks) → T'.heap = h' → Q v h' L → W p e below F (T'.setTop { g with pc := g.pc + 3, stack := v.toList ++ rest })) : W p e below F (T.setTop g) := by
  obtain ⟨cq, kq, qa, qb, qc⟩ := isOf hZ eT E
  obtain ⟨v, _, ⟨T', L', k', n'⟩, -, X', ⟨L, hQ, e1, e2, e3⟩, st⟩ := X.virtualBack hx hown (mvT hZ w1) (mvT hZ w5) hnf (mvT hZ w6) (mvT hZ w2) hy hK qa qc hg hml (Steps.refl _) (argsL := argsL) (rest := rest) (fun sg q => by cases pd.symm.trans q; exact hlen) hst (Nat.le_of_eq hW) hd (fun _ _ => ⟨has, eT, hc, hs⟩)
  dsimp only [Pt.U, Pt.locs, Pt.cells, Pt.slots] at X' e1 e2 e3 hQ st
  subst e1 e2 e3
  exact W.via st (k v T' _ L X' rfl hQ)
/-- an instance method by its contract -/
theorem W.callV {C : String} (X : Stand p l e R s m args below meth c T locs cells slots) (hx : p.tables.exec = Jvm.exec) (hZ : Z.Warmed39 s.vm) (hown : s.vm.findClass own = some m.cls) (hml : g.locals.size = c.maxLocals)
    (w1 : (Jvm.Cond.methodLink own index y0).before a0 Z = true) (w5 : (Jvm.Cond.declares y0).before a0 Z = true) (w6 : (Jvm.Cond.selects C y0 y).before a0 Z = true) (w2 : (Jvm.Cond.instanceMethod y).before a0 Z = true) (w3 : (Jvm.Cond.initialized y.cls).before a0 Z = true) (w4 : (Jvm.Cond.code y bytes maxL ret).before a0 Z = true) (eT : T.heap = h)
    (hM : Ctr l Z y bytes maxL ret rm as' h Q) (hnf : NotFace s y0) (hy : y0.cls ≠ "java/lang/invoke/MethodHandle" ∧ y0.cls ≠ "java/lang/invoke/VarHandle") (pd : parseMethodDescriptor y0.desc = some sig) (hg : g.method = m) {b : Addr} (E : Exa Z h b C) (has : (Value.ref b :: argsL).toArray = as') (hlen : argsL.length = sig.parameters.length)
    (hst : g.stack = argsL.reverse ++ .ref b :: rest) (hd : decode c.code g.pc = .ok (.invokevirtual index, 3)) (hW : 2 * g.monitorRoom + (rest.map fun v => v.category).sum = W0) (hf : rm.frames + 1 ≤ R.frames) (hl : W0 + (maxL + 11) + rm.locals ≤ R.locals) (hc : cells + rm.cells ≤ R.cells) (hs : slots + rm.slots ≤ R.slots)
    (k : ∀ v T' h' L, Stand p l e R s m args below meth c T' (locs ++ L) (cells + rm.cells) (slots + rm.slots) → T'.heap = h' → Q v h' L → W p e below F (T'.setTop { g with pc := g.pc + 3, stack := v.toList ++ rest })) : W p e below F (T.setTop g) := by
  obtain ⟨cq, kq, qa, qb, qc⟩ := isOf hZ eT E
  obtain ⟨v, _, ⟨T', L', k', n'⟩, -, X', ⟨L, hQ, e1, e2, e3⟩, st⟩ := X.virtualBack hx hown (mvT hZ w1) (mvT hZ w5) hnf (mvT hZ w6) (mvT hZ w2) hy (hM.back hZ w4 w3 hf hl) qa qc hg hml (Steps.refl _) (argsL := argsL) (rest := rest) (fun sg q => by cases pd.symm.trans q; exact hlen) hst (Nat.le_of_eq hW) hd (fun _ _ => ⟨has, eT, hc, hs⟩)
  dsimp only [Pt.U, Pt.locs, Pt.cells, Pt.slots] at X' e1 e2 e3 hQ st
  subst e1 e2 e3
  exact W.via st (k v T' _ L X' rfl hQ)
/-- the same, the method declared further up -/
theorem W.callU {C owner : String} (X : Stand p l e R s m args below meth c T locs cells slots) (hx : p.tables.exec = Jvm.exec) (hZ : Z.Warmed39 s.vm) (hown : s.vm.findClass own = some m.cls) (hml : g.locals.size = c.maxLocals)
    (w1 : (Jvm.Cond.methodLink own index y0).before a0 Z = true) (w7 : (Jvm.Cond.sameMethod y0.cls owner y0.name y0.desc).before a0 Z = true) (w5 : (Jvm.Cond.declares ⟨owner, y0.name, y0.desc⟩).before a0 Z = true) (w6 : (Jvm.Cond.selects C y0 y).before a0 Z = true) (w2 : (Jvm.Cond.instanceMethod y).before a0 Z = true) (w3 : (Jvm.Cond.initialized y.cls).before a0 Z = true) (w4 : (Jvm.Cond.code y bytes maxL ret).before a0 Z = true) (eT : T.heap = h)
    (hM : Ctr l Z y bytes maxL ret rm as' h Q) (hy : owner ≠ "java/lang/invoke/MethodHandle" ∧ owner ≠ "java/lang/invoke/VarHandle") (pd : parseMethodDescriptor y0.desc = some sig) (hg : g.method = m) {b : Addr} (E : Exa Z h b C) (has : (Value.ref b :: argsL).toArray = as') (hlen : argsL.length = sig.parameters.length)
    (hst : g.stack = argsL.reverse ++ .ref b :: rest) (hd : decode c.code g.pc = .ok (.invokevirtual index, 3)) (hW : 2 * g.monitorRoom + (rest.map fun v => v.category).sum = W0) (hf : rm.frames + 1 ≤ R.frames) (hl : W0 + (maxL + 11) + rm.locals ≤ R.locals) (hc : cells + rm.cells ≤ R.cells) (hs : slots + rm.slots ≤ R.slots)
    (k : ∀ v T' h' L, Stand p l e R s m args below meth c T' (locs ++ L) (cells + rm.cells) (slots + rm.slots) → T'.heap = h' → Q v h' L → W p e below F (T'.setTop { g with pc := g.pc + 3, stack := v.toList ++ rest })) : W p e below F (T.setTop g) := by
  obtain ⟨cq, kq, qa, qb, qc⟩ := isOf hZ eT E
  obtain ⟨v, _, ⟨T', L', k', n'⟩, -, X', ⟨L, hQ, e1, e2, e3⟩, st⟩ := X.virtualBackUp hx hown (mvT hZ w1) (mvT hZ w7) (mvT hZ w5) hy (mvT hZ w6) (mvT hZ w2) (hM.back hZ w4 w3 hf hl) qa qc hg hml (Steps.refl _) (argsL := argsL) (rest := rest) (fun sg q => by cases pd.symm.trans q; exact hlen) hst (Nat.le_of_eq hW) hd (fun _ _ => ⟨has, eT, hc, hs⟩)
  dsimp only [Pt.U, Pt.locs, Pt.cells, Pt.slots] at X' e1 e2 e3 hQ st
  subst e1 e2 e3
  exact W.via st (k v T' _ L X' rfl hQ)
/-- a method that lands in a default of an interface -/
theorem W.callD {C owner : String} (X : Stand p l e R s m args below meth c T locs cells slots) (hx : p.tables.exec = Jvm.exec) (hZ : Z.Warmed39 s.vm) (hown : s.vm.findClass own = some m.cls) (hml : g.locals.size = c.maxLocals)
    (w1 : (Jvm.Cond.methodLink own index y0).before a0 Z = true) (w7 : (Jvm.Cond.sameMethod y0.cls owner y0.name y0.desc).before a0 Z = true) (w5 : (Jvm.Cond.declares ⟨owner, y0.name, y0.desc⟩).before a0 Z = true) (w6 : (Jvm.Cond.landsInDefault C y0 y).before a0 Z = true) (w2 : (Jvm.Cond.instanceMethod y).before a0 Z = true) (w3 : (Jvm.Cond.initialized y.cls).before a0 Z = true) (w4 : (Jvm.Cond.code y bytes maxL ret).before a0 Z = true) (eT : T.heap = h)
    (hM : Ctr l Z y bytes maxL ret rm as' h Q) (hy : owner ≠ "java/lang/invoke/MethodHandle" ∧ owner ≠ "java/lang/invoke/VarHandle") (pd : parseMethodDescriptor y0.desc = some sig) (hg : g.method = m) {b : Addr} (E : Exa Z h b C) (has : (Value.ref b :: argsL).toArray = as') (hlen : argsL.length = sig.parameters.length)
    (hst : g.stack = argsL.reverse ++ .ref b :: rest) (hd : decode c.code g.pc = .ok (.invokevirtual index, 3)) (hW : 2 * g.monitorRoom + (rest.map fun v => v.category).sum = W0) (hf : rm.frames + 1 ≤ R.frames) (hl : W0 + (maxL + 11) + rm.locals ≤ R.locals) (hc : cells + rm.cells ≤ R.cells) (hs : slots + rm.slots ≤ R.slots)
    (k : ∀ v T' h' L, Stand p l e R s m args below meth c T' (locs ++ L) (cells + rm.cells) (slots + rm.slots) → T'.heap = h' → Q v h' L → W p e below F (T'.setTop { g with pc := g.pc + 3, stack := v.toList ++ rest })) : W p e below F (T.setTop g) := by
  obtain ⟨cq, kq, qa, qb, qc⟩ := isOf hZ eT E
  obtain ⟨v, _, ⟨T', L', k', n'⟩, -, X', ⟨L, hQ, e1, e2, e3⟩, st⟩ := X.virtualBackUpD hx hown (mvT hZ w1) (mvT hZ w7) (mvT hZ w5) hy (mvD hZ w6) (mvT hZ w2) (hM.back hZ w4 w3 hf hl) qa qc hg hml (Steps.refl _) (argsL := argsL) (rest := rest) (fun sg q => by cases pd.symm.trans q; exact hlen) hst (Nat.le_of_eq hW) hd (fun _ _ => ⟨has, eT, hc, hs⟩)
  dsimp only [Pt.U, Pt.locs, Pt.cells, Pt.slots] at X' e1 e2 e3 hQ st
  subst e1 e2 e3
  exact W.via st (k v T' _ L X' rfl hQ)
/-- a call through an interface -/
theorem W.callF {C : String} {count : Nat} (X : Stand p l e R s m args below meth c T locs cells slots) (hx : p.tables.exec = Jvm.exec) (hZ : Z.Warmed39 s.vm) (hown : s.vm.findClass own = some m.cls) (hml : g.locals.size = c.maxLocals)
    (w1 : (Jvm.Cond.methodLink own index y0).before a0 Z = true) (w5 : (Jvm.Cond.declares y0).before a0 Z = true) (w7 : (Jvm.Cond.interfaceMethod y0.cls y0.cls y0.name y0.desc).before args s = true) (w6 : (Jvm.Cond.selects C y0 y).before a0 Z = true) (w2 : (Jvm.Cond.instanceMethod y).before a0 Z = true) (w8 : (Jvm.Cond.publicMethod y).before a0 Z = true) (w9 : (Jvm.Cond.unhidden C y0.name y0.desc).before a0 Z = true) (w10 : (Jvm.Cond.castable C y0.cls).before a0 Z = true) (w3 : (Jvm.Cond.initialized y.cls).before a0 Z = true) (w4 : (Jvm.Cond.code y bytes maxL ret).before a0 Z = true) (eT : T.heap = h)
    (hM : Ctr l Z y bytes maxL ret rm as' h Q) (hy : y0.cls ≠ "java/lang/invoke/MethodHandle" ∧ y0.cls ≠ "java/lang/invoke/VarHandle") (pd : parseMethodDescriptor y0.desc = some sig) (hg : g.method = m) {b : Addr} (E : Exa Z h b C) (has : (Value.ref b :: argsL).toArray = as') (hlen : argsL.length = sig.parameters.length)
    (hst : g.stack = argsL.reverse ++ .ref b :: rest) (hd : decode c.code g.pc = .ok (.invokeinterface index count, 5)) (hW : 2 * g.monitorRoom + (rest.map fun v => v.category).sum = W0) (hf : rm.frames + 1 ≤ R.frames) (hl : W0 + (maxL + 11) + rm.locals ≤ R.locals) (hc : cells + rm.cells ≤ R.cells) (hs : slots + rm.slots ≤ R.slots)
    (k : ∀ v T' h' L, Stand p l e R s m args below meth c T' (locs ++ L) (cells + rm.cells) (slots + rm.slots) → T'.heap = h' → Q v h' L → W p e below F (T'.setTop { g with pc := g.pc + 5, stack := v.toList ++ rest })) : W p e below F (T.setTop g) := by
  obtain ⟨cq, kq, qa, qb, qc⟩ := isOf hZ eT E
  obtain ⟨v, _, ⟨T', L', k', n'⟩, -, X', ⟨L, hQ, e1, e2, e3⟩, st⟩ := X.interfaceBack hx hown (mvT hZ w1) (mvT hZ w5) w7 (mvT hZ w6) (mvT hZ w2) (mvT hZ w8) (mvT hZ w9) (mvT hZ w10) hy (hM.back hZ w4 w3 hf hl) qa qb qc hg hml (Steps.refl _) (argsL := argsL) (rest := rest) (fun sg q => by cases pd.symm.trans q; exact hlen) hst (Nat.le_of_eq hW) hd (fun _ _ => ⟨has, eT, hc, hs⟩)
  dsimp only [Pt.U, Pt.locs, Pt.cells, Pt.slots] at X' e1 e2 e3 hQ st
  subst e1 e2 e3
  exact W.via st (k v T' _ L X' rfl hQ)
/-- super.m(..) -/
theorem W.callSup {K : String} (X : Stand p l e R s m args below meth c T locs cells slots) (hx : p.tables.exec = Jvm.exec) (hZ : Z.Warmed39 s.vm) (hown : s.vm.findClass own = some m.cls) (hml : g.locals.size = c.maxLocals)
    (w1 : (Jvm.Cond.methodLink own index y).before a0 Z = true) (w5 : (Jvm.Cond.sameMethod y.cls y.cls y.name y.desc).before a0 Z = true) (w2 : (Jvm.Cond.instanceMethod y).before a0 Z = true) (w6 : (Jvm.Cond.superclass own y.cls).before a0 Z = true) (w3 : (Jvm.Cond.initialized y.cls).before a0 Z = true) (w4 : (Jvm.Cond.code y bytes maxL ret).before a0 Z = true) (eT : T.heap = h)
    (hM : Ctr l Z y bytes maxL ret rm as' h Q) (hn : y.name ≠ "<init>") (pd : parseMethodDescriptor y.desc = some sig) (hg : g.method = m) {b : Addr} (E : Exa Z h b K) (has : (Value.ref b :: argsL).toArray = as') (hlen : argsL.length = sig.parameters.length)
    (hst : g.stack = argsL.reverse ++ .ref b :: rest) (hd : decode c.code g.pc = .ok (.invokespecial index, 3)) (hW : 2 * g.monitorRoom + (rest.map fun v => v.category).sum = W0) (hf : rm.frames + 1 ≤ R.frames) (hl : W0 + (maxL + 11) + rm.locals ≤ R.locals) (hc : cells + rm.cells ≤ R.cells) (hs : slots + rm.slots ≤ R.slots)
    (k : ∀ v T' h' L, Stand p l e R s m args below meth c T' (locs ++ L) (cells + rm.cells) (slots + rm.slots) → T'.heap = h' → Q v h' L → W p e below F (T'.setTop { g with pc := g.pc + 3, stack := v.toList ++ rest })) : W p e below F (T.setTop g) := by
  obtain ⟨v, _, ⟨T', L', k', n'⟩, -, X', ⟨L, hQ, e1, e2, e3⟩, st⟩ := superBack X hx hZ hown w1 w5 w2 w6 hn (hM.back hZ w4 w3 hf hl) eT (Ins.self E) hg hml w4 (argsL := argsL) (rest := rest) (fun sg q => by cases pd.symm.trans q; exact hlen) hst (Nat.le_of_eq hW) hd (fun _ _ => ⟨has, eT, hc, hs⟩)
  dsimp only [Pt.U, Pt.locs, Pt.cells, Pt.slots] at X' e1 e2 e3 hQ st
  subst e1 e2 e3
  exact W.via st (k v T' _ L X' rfl hQ)
theorem nfOf {C : String} {x z : MethodName} (w6 : (Jvm.Cond.selects C x z).before args s = true) (hz : z.cls = y.cls) : NotFace s y := fun r0 h0 => by
  obtain ⟨c1, r1, m1, -, -, hm, -, kP, hkP, hni⟩ := Cond.selects_spec w6
  have hc := findClass_of_methodNamed h0
  have hc2 := findClass_of_methodNamed hm
  rw [hz] at hc2
  have q : r0.cls = m1.cls := Option.some.inj (hc.symm.trans hc2)
  exact ⟨kP, by rw [q]; exact hkP, hni⟩
/-- a class that declares a method finds it; that she is no interface is read off a 'selects' word that ends in her -/
theorem sameDecl {C : String} {x z : MethodName} (w5 : (Jvm.Cond.declares y).before a0 Z = true) (w6 : (Jvm.Cond.selects C x z).before a0 Z = true) (hz : z.cls = y.cls) (hy : y.cls ≠ "java/lang/invoke/MethodHandle" ∧ y.cls ≠ "java/lang/invoke/VarHandle") : (Jvm.Cond.sameMethod y.cls y.cls y.name y.desc).before a0 Z = true := by
  obtain ⟨r0, r, hn, hrm, -, -⟩ := Cond.declares_spec w5
  have hf : Z.methodFound? y.cls y.name y.desc = some r0 := State.methodFound?_of_named hn hy
  have hc := findClass_of_methodNamed hn
  obtain ⟨c1, r1, m1, -, -, hm, -, kP, hkP, hni⟩ := Cond.selects_spec w6
  have hc2 := findClass_of_methodNamed hm
  rw [hz] at hc2
  have q : r0.cls = m1.cls := Option.some.inj (hc.symm.trans hc2)
  have hn' : Z.methodNamed? ⟨y.cls, y.name, y.desc⟩ = some r0 := hn
  have hk : Z.vm.classes[r0.cls]? = some kP := by rw [q]; exact hkP
  simp [Jvm.Cond.before, Jvm.Cond.holds, Jvm.Cond.value, hc, hf, hn', hk, hni]
/-- a private method by its contract -/
theorem W.callP {cell : Cell} {n : Nat} (X : Stand p l e R s m args below meth c T locs cells slots) (hx : p.tables.exec = Jvm.exec) (hZ : Z.Warmed39 s.vm) (hown : s.vm.findClass own = some m.cls) (hml : g.locals.size = c.maxLocals)
    (w1 : (Jvm.Cond.methodLink own index y).before a0 Z = true) (w5 : (Jvm.Cond.privateMethod y).before a0 Z = true) (w6 : (Jvm.Cond.selects y.cls y y).before args s = true) (w2 : (Jvm.Cond.instanceMethod y).before a0 Z = true) (w3 : (Jvm.Cond.initialized y.cls).before a0 Z = true) (w4 : (Jvm.Cond.code y bytes maxL ret).before a0 Z = true) (eT : T.heap = h)
    (hM : Ctr l Z y bytes maxL ret rm as' h Q) (hy : y.cls ≠ "java/lang/invoke/MethodHandle" ∧ y.cls ≠ "java/lang/invoke/VarHandle") (pd : parseMethodDescriptor y.desc = some sig) (hg : g.method = m) {b : Addr} {C : String} (E : Exa Z h b C) (has : (Value.ref b :: argsL).toArray = as') (hlen : argsL.length = sig.parameters.length)
    (hst : g.stack = argsL.reverse ++ .ref b :: rest) (hd : decode c.code g.pc = .ok (.invokevirtual index, 3)) (hW : 2 * g.monitorRoom + (rest.map fun v => v.category).sum = W0) (hf : rm.frames + 1 ≤ R.frames) (hl : W0 + (maxL + 11) + rm.locals ≤ R.locals) (hc : cells + rm.cells ≤ R.cells) (hs : slots + rm.slots ≤ R.slots)
    (k : ∀ v T' h' L, Stand p l e R s m args below meth c T' (locs ++ L) (cells + rm.cells) (slots + rm.slots) → T'.heap = h' → Q v h' L → W p e below F (T'.setTop { g with pc := g.pc + 3, stack := v.toList ++ rest })) : W p e below F (T.setTop g) := by
  obtain ⟨cq, q1, q2⟩ := E.cell
  obtain ⟨v, _, ⟨T', L', k', n'⟩, -, X', ⟨L, hQ, e1, e2, e3⟩, st⟩ := X.privateBack hx hown (mvT hZ w1) (mvT hZ w2) w6 (Cond.privateMethod_at (mvP hZ w5 (args := #[]))) (mvT hZ w4) hy (hM.back hZ w4 w3 hf hl) hg hml (Steps.refl _) (a := b) (by rw [eT]; exact q1) q2 (argsL := argsL) (rest := rest) (fun sg q => by cases pd.symm.trans q; exact hlen) hst (Nat.le_of_eq hW) hd (fun _ _ => ⟨has, eT, hc, hs⟩)
  dsimp only [Pt.U, Pt.locs, Pt.cells, Pt.slots] at X' e1 e2 e3 hQ st
  subst e1 e2 e3
  exact W.via st (k v T' _ L X' rfl hQ)
/-- 'selects' of a private method -/
theorem selPriv {n : Nat} (hZ : Z.Warmed39 s.vm) (wi : (Jvm.Cond.instantiable y.cls n).before a0 Z = true) (w5 : (Jvm.Cond.privateMethod y).before a0 Z = true) (w2 : (Jvm.Cond.instanceMethod y).before a0 Z = true) (hy : y.cls ≠ "java/lang/invoke/MethodHandle" ∧ y.cls ≠ "java/lang/invoke/VarHandle") : (Jvm.Cond.selects y.cls y y).before args s = true := by
  obtain ⟨c2, k2, i1, i2, -, i4, -⟩ := Cond.instantiable_spec (mvT (args := args) hZ wi)
  exact selects_self_of_private i1 i2 (Bool.or_eq_false_iff.mp i4).1 (Cond.privateMethod_at (mvP hZ w5 (args := #[]))) (mvT hZ w2) hy
end Calls
theorem Sta.keep {h' : Heap} {C n d : String} {v : Value} {ws : List Addr} {n0 : Nat} (F : Sta Z h C n d v) (K : Keep h h' ws) (hw : ∀ x ∈ ws, ∀ cell : Cell, h[x]? = some cell → cell.vm.isStatics = false) : Sta Z h' C n d v := by
  obtain ⟨cf, i, k, f, st, cell, h1, h2, h3, h4, h5, h6, h7⟩ := F
  refine ⟨cf, i, k, f, st, cell, h1, h2, h3, h4, K.2.1 st cell h5 fun hm => ?_, h6, h7⟩
  rw [hw st hm cell h5] at h6; cases h6
theorem eqI_v {t : Term} {k : Int32} {first : State} {o : Option Outcome} {idx : List Nat} (hk : (Jvm.Cond.eq t (.int k)).value args first o s idx = some true) : t.eval args first o idx s = some (.int k) := by
  simp only [Jvm.Cond.value, Term.eval] at hk
  cases ht : t.eval args first o idx s with
  | none => simp [ht] at hk
  | some x => cases x <;> simp [ht] at hk ⊢; exact hk
theorem lenI_v {t : Term} {a : Addr} {cl : Cell} {ty : FieldType} {k : Int32} (A : Arr s s.heap a cl ty) (ev : t.eval args s none [] s = some (.ref a)) (hk : (Jvm.Cond.eq (.length t) (.int k)).value args s none s [] = some true) : cl.slots.size < 2 ^ 31 ∧ cl.slots.size.toInt32 = k := by
  have q := eqI_v hk
  have r : s.arrayAt? a = some cl := A.fin (Vm.Alike.refl _)
  simp only [Term.eval, ev, r, Option.bind_eq_bind, Option.bind_some] at q
  split at q
  · rename_i z; cases q; exact ⟨z, rfl⟩
  · cases q
theorem rngM (x n : Int32) (hn : 0 < n.toInt) : 0 ≤ ((x &&& 2147483647) % n).toInt ∧ ((x &&& 2147483647) % n).toInt < n.toInt := by
  have q := c_mask x 2147483647 31 (by decide) (by decide)
  have q0 : 0 ≤ (x &&& 2147483647).toInt := by rw [q]; exact Int.emod_nonneg _ (by decide)
  have r := (c_iremV (x &&& 2147483647) n).1 q0 hn
  exact ⟨r.1, r.2.1⟩
end Own
end Jvm.OwnKit
namespace Jvm.Pilot.@@N@@
open Jvm Jvm.ClassFile Sem Op Lib Jvm.Free Jvm.Stand Jvm.LawKit Jvm.RoadKit Bundle Jvm.OwnKit Jvm.Pilot.@@N@@.Jvm.D
theorem d3_0 : decode jdk_37_method_2_code 0 = .ok (.aload_n 0, 1) := by decide +kernel
theorem d3_1 : decode jdk_37_method_2_code 1 = .ok (.getfield 7, 3) := by decide +kernel
theorem d3_4 : decode jdk_37_method_2_code 4 = .ok (.ireturn, 1) := by decide +kernel
theorem pn_java_lang_Enum : plainName "java/lang/Enum" = true := by first | (simp [plainName, overriddenIn]; done) | decide +kernel
def Q_rm3 (Z : State) (r0 : Addr) (k : Int32) (h0 : Heap) (n0 : Nat) (v : Option Value) (h : Heap) (L : List Loc) : Prop := v = some (.int k) ∧ Fr n0 L ∧ h = h0
set_option maxRecDepth 65536 in
set_option maxHeartbeats 40000000 in
theorem rm3 (l : Launch) (Z : State) (a0 : Array Value) (hw : ∀ d ∈ tables_1, d.before a0 Z = true) (r0 : Addr) (k : Int32) (h0 : Heap) (n0 : Nat) (Z0 : n0 ≤ h0.size) (F_ordinal_r0 : Fld Z h0 r0 "java/lang/Enum" "ordinal" "I" (.int k)) :
    Ctr l Z (⟨"java/lang/Enum", "ordinal", "()I"⟩ : MethodName) jdk_37_method_2_code 1 (some .int) ({ frames := 0, cells := 0, slots := 0, locals := 0 } : Room) #[(.ref r0)] h0 (Q_rm3 Z r0 k h0 n0) := by
  refine Ctr.body (fr := fun m => mkF m 0 #[.val (.ref r0)] []) (plainFor_of_name pn_java_lang_Enum) (fun m => by first | (simp [entryFrame, mkF, argsToLocals, Value.category]; done) | rfl) fun p e s m below meth c s₁ hx hby hml hZ hown hnm hret hlk X0 e0 => ?_
  have N0 := Fr.nil n0
  have hown : s.vm.findClass "java/lang/Enum" = some m.cls := hown
  show W p e below _ (s₁.setTop (mkF m 0 #[.val (.ref r0)] []))
  refine W.go (fun _ hr => XS.aloadN X0.here hx rfl (hb hby d3_0) rfl rfl hr) ?_
  show W p e below _ (s₁.setTop (mkF m 1 #[.val (.ref r0)] [(.ref r0)]))
  obtain ⟨T1, X1, e1, st1⟩ := getF X0 hx hZ hown (host := "") (Or.inl (hw _ (List.mem_of_getElem? (i := 23) rfl))) Via.refl e0 F_ordinal_r0 (g := (mkF m 1 #[.val (.ref r0)] [(.ref r0)])) rfl rfl (hb hby d3_1)
  refine W.go st1 ?_
  show W p e below _ (T1.setTop (mkF m 4 #[.val (.ref r0)] [(.int k)]))
  exact W.retI X1 hx hlk hret (hb hby d3_4) (by decide) (by decide) e1 ⟨rfl, N0, rfl⟩
theorem d1_0 : decode prog_35_method_4_code 0 = .ok (.iload_n 0, 1) := by decide +kernel
theorem d1_1 : decode prog_35_method_4_code 1 = .ok (.ifCond .eq 9, 3) := by decide +kernel
theorem d1_10 : decode prog_35_method_4_code 10 = .ok (.getstatic 7, 3) := by decide +kernel
theorem d1_13 : decode prog_35_method_4_code 13 = .ok (.areturn, 1) := by decide +kernel
theorem d1_4 : decode prog_35_method_4_code 4 = .ok (.getstatic 3, 3) := by decide +kernel
theorem d1_7 : decode prog_35_method_4_code 7 = .ok (.goto 6, 3) := by decide +kernel
theorem pn_com_example_millrace_millrace_Truth : plainName "com/example/millrace/millrace/Truth" = true := by first | (simp [plainName, overriddenIn]; done) | decide +kernel
def Q_rm1 (Z : State) (p0 : Int32) (w_TRUE : Addr) (w_FALSE : Addr) (t : Addr) (h0 : Heap) (n0 : Nat) (v : Option Value) (h : Heap) (L : List Loc) : Prop := v = some (.ref t) ∧ Fr n0 L ∧ h = h0
set_option maxRecDepth 65536 in
set_option maxHeartbeats 40000000 in
theorem rm1 (l : Launch) (Z : State) (a0 : Array Value) (hw : ∀ d ∈ tables_1, d.before a0 Z = true) (p0 : Int32) (w_TRUE : Addr) (w_FALSE : Addr) (t : Addr) (h0 : Heap) (n0 : Nat) (Z0 : n0 ≤ h0.size) (S_TRUE : Sta Z h0 "com/example/millrace/millrace/Truth" "TRUE" "Lcom/example/millrace/millrace/Truth;" (.ref w_TRUE)) (S_FALSE : Sta Z h0 "com/example/millrace/millrace/Truth" "FALSE" "Lcom/example/millrace/millrace/Truth;" (.ref w_FALSE)) (ht : t = if p0 = 0 then w_FALSE else w_TRUE) :
    Ctr l Z (⟨"com/example/millrace/millrace/Truth", "of", "(Z)Lcom/example/millrace/millrace/Truth;"⟩ : MethodName) prog_35_method_4_code 1 (some (.object "com/example/millrace/millrace/Truth")) ({ frames := 0, cells := 0, slots := 0, locals := 0 } : Room) #[(.int p0)] h0 (Q_rm1 Z p0 w_TRUE w_FALSE t h0 n0) := by
  refine Ctr.body (fr := fun m => mkF m 0 #[.val (.int p0)] []) (plainFor_of_name pn_com_example_millrace_millrace_Truth) (fun m => by first | (simp [entryFrame, mkF, argsToLocals, Value.category]; done) | rfl) fun p e s m below meth c s₁ hx hby hml hZ hown hnm hret hlk X0 e0 => ?_
  have N0 := Fr.nil n0
  have hown : s.vm.findClass "com/example/millrace/millrace/Truth" = some m.cls := hown
  show W p e below _ (s₁.setTop (mkF m 0 #[.val (.int p0)] []))
  refine W.go (fun _ hr => XS.iloadN X0.here hx rfl (hb hby d1_0) rfl hr) ?_
  show W p e below _ (s₁.setTop (mkF m 1 #[.val (.int p0)] [(.int p0)]))
  by_cases hc1_1 : p0 = (0 : Int32)
  · refine W.go (fun _ hr => XS.ifYes X0.here hx rfl (pc0 := 1) (pc' := 10) rfl (hb hby d1_1) rfl ((if0 _ _).trans (teq hc1_1).1) (by decide) (by decide) hr) ?_
    show W p e below _ (s₁.setTop (mkF m 10 #[.val (.int p0)] []))
    obtain ⟨T2, X2, e2, st2⟩ := getS2 X0 hx hZ hown (host := "") (Or.inl (hw _ (List.mem_of_getElem? (i := 4) rfl))) Via.refl e0 S_FALSE (g := (mkF m 10 #[.val (.int p0)] [])) rfl (hb hby d1_10)
    refine W.go st2 ?_
    show W p e below _ (T2.setTop (mkF m 13 #[.val (.int p0)] [(.ref w_FALSE)]))
    exact W.retA X2 hx hlk hret rfl rfl (hb hby d1_13) (by decide) (by decide) e2 ⟨by simp [ht, *], N0, rfl⟩
  · refine W.go (fun _ hr => XS.ifNo X0.here hx rfl (hb hby d1_1) rfl ((if0 _ _).trans (feq hc1_1).1) hr) ?_
    show W p e below _ (s₁.setTop (mkF m 4 #[.val (.int p0)] []))
    obtain ⟨T3, X3, e3, st3⟩ := getS2 X0 hx hZ hown (host := "") (Or.inl (hw _ (List.mem_of_getElem? (i := 6) rfl))) Via.refl e0 S_TRUE (g := (mkF m 4 #[.val (.int p0)] [])) rfl (hb hby d1_4)
    refine W.go st3 ?_
    show W p e below _ (T3.setTop (mkF m 7 #[.val (.int p0)] [(.ref w_TRUE)]))
    refine W.go (fun _ hr => XS.goto X3.here hx rfl (pc0 := 7) (pc' := 13) rfl (hb hby d1_7) (by decide) (by decide) hr) ?_
    show W p e below _ (T3.setTop (mkF m 13 #[.val (.int p0)] [(.ref w_TRUE)]))
    exact W.retA X3 hx hlk hret rfl rfl (hb hby d1_13) (by decide) (by decide) e3 ⟨by simp [ht, *], N0, rfl⟩
theorem d2_0 : decode prog_35_method_5_code 0 = .ok (.aload_n 0, 1) := by decide +kernel
theorem d2_1 : decode prog_35_method_5_code 1 = .ok (.invokevirtual 32, 3) := by decide +kernel
theorem pd_13 : parseMethodDescriptor "()I" = some ⟨[], some .int⟩ := by decide +kernel
theorem d2_4 : decode prog_35_method_5_code 4 = .ok (.lookupswitch 36 #[(0, 28), (1, 32)], 28) := by decide +kernel
theorem d2_32 : decode prog_35_method_5_code 32 = .ok (.getstatic 7, 3) := by decide +kernel
theorem d2_35 : decode prog_35_method_5_code 35 = .ok (.areturn, 1) := by decide +kernel
theorem d2_36 : decode prog_35_method_5_code 36 = .ok (.getstatic 3, 3) := by decide +kernel
theorem d2_39 : decode prog_35_method_5_code 39 = .ok (.areturn, 1) := by decide +kernel
def Q_rm2 (Z : State) (r0 : Addr) (w_TRUE : Addr) (w_FALSE : Addr) (k : Int32) (t : Addr) (h0 : Heap) (n0 : Nat) (v : Option Value) (h : Heap) (L : List Loc) : Prop := v = some (.ref t) ∧ Fr n0 L ∧ h = h0
set_option maxRecDepth 65536 in
set_option maxHeartbeats 40000000 in
theorem rm2 (l : Launch) (Z : State) (a0 : Array Value) (hw : ∀ d ∈ tables_1, d.before a0 Z = true) (r0 : Addr) (w_TRUE : Addr) (w_FALSE : Addr) (k : Int32) (t : Addr) (h0 : Heap) (n0 : Nat) (Z0 : n0 ≤ h0.size) (S_TRUE : Sta Z h0 "com/example/millrace/millrace/Truth" "TRUE" "Lcom/example/millrace/millrace/Truth;" (.ref w_TRUE)) (S_FALSE : Sta Z h0 "com/example/millrace/millrace/Truth" "FALSE" "Lcom/example/millrace/millrace/Truth;" (.ref w_FALSE)) (E_r0 : Exa Z h0 r0 "com/example/millrace/millrace/Truth") (F_ordinal_r0 : Fld Z h0 r0 "java/lang/Enum" "ordinal" "I" (.int k)) (hk : k = 0 ∨ k = 1) (ht : t = if k = 0 then w_FALSE else w_TRUE) :
    Ctr l Z (⟨"com/example/millrace/millrace/Truth", "not", "()Lcom/example/millrace/millrace/Truth;"⟩ : MethodName) prog_35_method_5_code 1 (some (.object "com/example/millrace/millrace/Truth")) ({ frames := 1, cells := 0, slots := 0, locals := 12 } : Room) #[(.ref r0)] h0 (Q_rm2 Z r0 w_TRUE w_FALSE k t h0 n0) := by
  refine Ctr.body (fr := fun m => mkF m 0 #[.val (.ref r0)] []) (plainFor_of_name pn_com_example_millrace_millrace_Truth) (fun m => by first | (simp [entryFrame, mkF, argsToLocals, Value.category]; done) | rfl) fun p e s m below meth c s₁ hx hby hml hZ hown hnm hret hlk X0 e0 => ?_
  have N0 := Fr.nil n0
  have hown : s.vm.findClass "com/example/millrace/millrace/Truth" = some m.cls := hown
  show W p e below _ (s₁.setTop (mkF m 0 #[.val (.ref r0)] []))
  refine W.go (fun _ hr => XS.aloadN X0.here hx rfl (hb hby d2_0) rfl rfl hr) ?_
  show W p e below _ (s₁.setTop (mkF m 1 #[.val (.ref r0)] [(.ref r0)]))
  refine W.callU X0 hx hZ hown (g := (mkF m 1 #[.val (.ref r0)] [(.ref r0)])) (by rw [hml]; rfl) (hw _ (List.mem_of_getElem? (i := 16) rfl)) (hw _ (List.mem_of_getElem? (i := 17) rfl)) (hw _ (List.mem_of_getElem? (i := 18) rfl)) (hw _ (List.mem_of_getElem? (i := 20) rfl)) (hw _ (List.mem_of_getElem? (i := 19) rfl)) (hw _ (List.mem_of_getElem? (i := 21) rfl)) (hw _ (List.mem_of_getElem? (i := 22) rfl)) e0 (rm3 l Z a0 hw r0 k h0 n0 Z0 F_ordinal_r0) (by decide) pd_13 rfl E_r0 (argsL := []) (rest := []) rfl rfl rfl (hb hby d2_1) (W0 := 0) rfl (by decide) (by decide) (by decide) (by decide) (fun v1 T1 h1 L1 X1 e1 hQ1 => ?_)
  obtain ⟨rfl, N1q, hh1⟩ := hQ1
  obtain rfl := hh1.symm
  have N1 := Fr.app N0 N1q
  show W p e below _ (T1.setTop (mkF m 4 #[.val (.ref r0)] [(.int k)]))
  rcases hk with rfl | rfl
  · refine W.go (X1.lookupswitchHit hx (g := (mkF m 4 #[.val (.ref r0)] [(.int (0 : Int32))])) rfl (k := (0 : Int32)) (rest := []) rfl (hb hby d2_4) (by decide) (a := 0) (off := 28) (by decide) (by show (0 : Int) ≤ ((4 : Nat) : Int) + (28 : Int); decide)) ?_
    show W p e below _ (T1.setTop (mkF m 32 #[.val (.ref r0)] []))
    obtain ⟨T2, X2, e2, st2⟩ := getS2 X1 hx hZ hown (host := "") (Or.inl (hw _ (List.mem_of_getElem? (i := 4) rfl))) Via.refl e1 S_FALSE (g := (mkF m 32 #[.val (.ref r0)] [])) rfl (hb hby d2_32)
    refine W.go st2 ?_
    show W p e below _ (T2.setTop (mkF m 35 #[.val (.ref r0)] [(.ref w_FALSE)]))
    exact W.retA X2 hx hlk hret rfl rfl (hb hby d2_35) (by decide) (by decide) e2 ⟨by simp [ht], N1, rfl⟩
  · refine W.go (X1.lookupswitchHit hx (g := (mkF m 4 #[.val (.ref r0)] [(.int (1 : Int32))])) rfl (k := (1 : Int32)) (rest := []) rfl (hb hby d2_4) (by decide) (a := 1) (off := 32) (by decide) (by show (0 : Int) ≤ ((4 : Nat) : Int) + (32 : Int); decide)) ?_
    show W p e below _ (T1.setTop (mkF m 36 #[.val (.ref r0)] []))
    obtain ⟨T3, X3, e3, st3⟩ := getS2 X1 hx hZ hown (host := "") (Or.inl (hw _ (List.mem_of_getElem? (i := 6) rfl))) Via.refl e1 S_TRUE (g := (mkF m 36 #[.val (.ref r0)] [])) rfl (hb hby d2_36)
    refine W.go st3 ?_
    show W p e below _ (T3.setTop (mkF m 39 #[.val (.ref r0)] [(.ref w_TRUE)]))
    exact W.retA X3 hx hlk hret rfl rfl (hb hby d2_39) (by decide) (by decide) e3 ⟨by simp [ht], N1, rfl⟩
theorem pd_19 : parseMethodDescriptor "(Z)Lcom/example/millrace/millrace/Truth;" = some ⟨[.boolean], some (.object "com/example/millrace/millrace/Truth")⟩ := by decide +kernel
theorem pd_20 : parseMethodDescriptor "()Lcom/example/millrace/millrace/Truth;" = some ⟨[], some (.object "com/example/millrace/millrace/Truth")⟩ := by decide +kernel
theorem pn_com_example_millrace_millrace_TruthOfPinLaw : plainName "com/example/millrace/millrace/TruthOfPinLaw" = true := by first | (simp [plainName, overriddenIn]; done) | decide +kernel
def Q_rm0 (Z : State) (p0 : Int32) (w_TRUE : Addr) (w_FALSE : Addr) (w_UNKNOWN : Addr) (h0 : Heap) (n0 : Nat) (v : Option Value) (h : Heap) (L : List Loc) : Prop := v = some (.int (1 : Int32)) ∧ Fr n0 L
set_option maxRecDepth 65536 in
set_option maxHeartbeats 40000000 in
theorem rm0 (l : Launch) (Z : State) (a0 : Array Value) (hw : ∀ d ∈ tables_1, d.before a0 Z = true) (p0 : Int32) (w_TRUE : Addr) (w_FALSE : Addr) (w_UNKNOWN : Addr) (h0 : Heap) (n0 : Nat) (Z0 : n0 ≤ h0.size) (S_TRUE : Sta Z h0 "com/example/millrace/millrace/Truth" "TRUE" "Lcom/example/millrace/millrace/Truth;" (.ref w_TRUE)) (S_FALSE : Sta Z h0 "com/example/millrace/millrace/Truth" "FALSE" "Lcom/example/millrace/millrace/Truth;" (.ref w_FALSE)) (S_UNKNOWN : Sta Z h0 "com/example/millrace/millrace/Truth" "UNKNOWN" "Lcom/example/millrace/millrace/Truth;" (.ref w_UNKNOWN)) (E_w_TRUE : Exa Z h0 w_TRUE "com/example/millrace/millrace/Truth") (E_w_FALSE : Exa Z h0 w_FALSE "com/example/millrace/millrace/Truth") (E_w_UNKNOWN : Exa Z h0 w_UNKNOWN "com/example/millrace/millrace/Truth") (F_TRUE : Fld Z h0 w_TRUE "java/lang/Enum" "ordinal" "I" (.int 0)) (F_FALSE : Fld Z h0 w_FALSE "java/lang/Enum" "ordinal" "I" (.int 1)) (F_UNKNOWN : Fld Z h0 w_UNKNOWN "java/lang/Enum" "ordinal" "I" (.int 2)) (ne_TRUE_FALSE : w_TRUE ≠ w_FALSE) (ne_TRUE_UNKNOWN : w_TRUE ≠ w_UNKNOWN) (ne_FALSE_UNKNOWN : w_FALSE ≠ w_UNKNOWN) :
    Ctr l Z x code maxLocals ret room_1 #[(.int p0)] h0 (Q_rm0 Z p0 w_TRUE w_FALSE w_UNKNOWN h0 n0) := by
  refine Ctr.body (fr := fun m => mkF m 0 #[.val (.int p0), .unset, .unset, .unset, .unset, .unset, .unset] []) (plainFor_of_name pn_com_example_millrace_millrace_TruthOfPinLaw) (fun m => by first | (simp [entryFrame, mkF, argsToLocals, Value.category, maxLocals]; done) | rfl) fun p e s m below meth c s₁ hx hby hml hZ hown hnm hret hlk X0 e0 => ?_
  have N0 := Fr.nil n0
  have hown : s.vm.findClass "com/example/millrace/millrace/TruthOfPinLaw" = some m.cls := hown
  show W p e below _ (s₁.setTop (mkF m 0 #[.val (.int p0), .unset, .unset, .unset, .unset, .unset, .unset] []))
  refine W.go (fun _ hr => XS.iloadN X0.here hx rfl (hb hby at_0) rfl hr) ?_
  show W p e below _ (s₁.setTop (mkF m 1 #[.val (.int p0), .unset, .unset, .unset, .unset, .unset, .unset] [(.int p0)]))
  refine W.go (fun _ hr => XS.iconst X0.here hx rfl (hb hby at_1) hr) ?_
  show W p e below _ (s₁.setTop (mkF m 2 #[.val (.int p0), .unset, .unset, .unset, .unset, .unset, .unset] [(.int (1 : Int32)), (.int p0)]))
  refine W.go (fun _ hr => XS.iand X0.here hx rfl (hb hby at_2) rfl hr) ?_
  show W p e below _ (s₁.setTop (mkF m 3 #[.val (.int p0), .unset, .unset, .unset, .unset, .unset, .unset] [(.int (p0 &&& (1 : Int32)))]))
  by_cases hc3_1 : (p0 &&& (1 : Int32)) = (0 : Int32)
  · refine W.go (fun _ hr => XS.ifYes X0.here hx rfl (pc0 := 3) (pc' := 10) rfl (hb hby at_3) rfl ((if0 _ _).trans (teq hc3_1).1) (by decide) (by decide) hr) ?_
    show W p e below _ (s₁.setTop (mkF m 10 #[.val (.int p0), .unset, .unset, .unset, .unset, .unset, .unset] []))
    refine W.go (fun _ hr => XS.iconst X0.here hx rfl (hb hby at_10) hr) ?_
    show W p e below _ (s₁.setTop (mkF m 11 #[.val (.int p0), .unset, .unset, .unset, .unset, .unset, .unset] [(.int (0 : Int32))]))
    refine W.go (fun _ hr => XS.istoreN X0.here hx rfl (hb hby at_11) rfl (l' := #[.val (.int p0), .val (.int (0 : Int32)), .unset, .unset, .unset, .unset, .unset]) rfl hr) ?_
    show W p e below _ (s₁.setTop (mkF m 12 #[.val (.int p0), .val (.int (0 : Int32)), .unset, .unset, .unset, .unset, .unset] []))
    refine W.go (fun _ hr => XS.iloadN X0.here hx rfl (hb hby at_12) rfl hr) ?_
    show W p e below _ (s₁.setTop (mkF m 13 #[.val (.int p0), .val (.int (0 : Int32)), .unset, .unset, .unset, .unset, .unset] [(.int (0 : Int32))]))
    refine W.callS X0 hx hZ hown (g := (mkF m 13 #[.val (.int p0), .val (.int (0 : Int32)), .unset, .unset, .unset, .unset, .unset] [(.int (0 : Int32))])) (by rw [hml]; rfl) (hw _ (List.mem_of_getElem? (i := 0) rfl)) (hw _ (List.mem_of_getElem? (i := 1) rfl)) (hw _ (List.mem_of_getElem? (i := 2) rfl)) (hw _ (List.mem_of_getElem? (i := 3) rfl)) e0 (rm1 l Z a0 hw (0 : Int32) w_TRUE w_FALSE w_FALSE h0 n0 Z0 S_TRUE S_FALSE (by simp)) (by decide) pd_19 rfl (argsL := [(.int (0 : Int32))]) (rest := []) rfl rfl rfl (hb hby at_13) (W0 := 0) rfl (by decide) (by decide) (by decide) (by decide) (fun v2 T2 h2 L2 X2 e2 hQ2 => ?_)
    obtain ⟨rfl, N2q, hh2⟩ := hQ2
    obtain rfl := hh2.symm
    have N2 := Fr.app N0 N2q
    show W p e below _ (T2.setTop (mkF m 16 #[.val (.int p0), .val (.int (0 : Int32)), .unset, .unset, .unset, .unset, .unset] [(.ref w_FALSE)]))
    refine W.go (fun _ hr => XS.astoreN X2.here hx rfl (hb hby at_16) rfl rfl (l' := #[.val (.int p0), .val (.int (0 : Int32)), .val (.ref w_FALSE), .unset, .unset, .unset, .unset]) rfl hr) ?_
    show W p e below _ (T2.setTop (mkF m 17 #[.val (.int p0), .val (.int (0 : Int32)), .val (.ref w_FALSE), .unset, .unset, .unset, .unset] []))
    refine W.go (fun _ hr => XS.iloadN X2.here hx rfl (hb hby at_17) rfl hr) ?_
    show W p e below _ (T2.setTop (mkF m 18 #[.val (.int p0), .val (.int (0 : Int32)), .val (.ref w_FALSE), .unset, .unset, .unset, .unset] [(.int (0 : Int32))]))
    refine W.go (fun _ hr => XS.ifNo X2.here hx rfl (hb hby at_18) rfl ((if0 _ _).trans (teq (by decide : ((0 : Int32) = (0 : Int32)))).2) hr) ?_
    show W p e below _ (T2.setTop (mkF m 21 #[.val (.int p0), .val (.int (0 : Int32)), .val (.ref w_FALSE), .unset, .unset, .unset, .unset] []))
    refine W.go (fun _ hr => XS.iconst X2.here hx rfl (hb hby at_21) hr) ?_
    show W p e below _ (T2.setTop (mkF m 22 #[.val (.int p0), .val (.int (0 : Int32)), .val (.ref w_FALSE), .unset, .unset, .unset, .unset] [(.int (1 : Int32))]))
    refine W.go (fun _ hr => XS.goto X2.here hx rfl (pc0 := 22) (pc' := 26) rfl (hb hby at_22) (by decide) (by decide) hr) ?_
    show W p e below _ (T2.setTop (mkF m 26 #[.val (.int p0), .val (.int (0 : Int32)), .val (.ref w_FALSE), .unset, .unset, .unset, .unset] [(.int (1 : Int32))]))
    refine W.callS X2 hx hZ hown (g := (mkF m 26 #[.val (.int p0), .val (.int (0 : Int32)), .val (.ref w_FALSE), .unset, .unset, .unset, .unset] [(.int (1 : Int32))])) (by rw [hml]; rfl) (hw _ (List.mem_of_getElem? (i := 0) rfl)) (hw _ (List.mem_of_getElem? (i := 1) rfl)) (hw _ (List.mem_of_getElem? (i := 2) rfl)) (hw _ (List.mem_of_getElem? (i := 3) rfl)) e2 (rm1 l Z a0 hw (1 : Int32) w_TRUE w_FALSE w_TRUE h0 n0 Z0 S_TRUE S_FALSE (by simp)) (by decide) pd_19 rfl (argsL := [(.int (1 : Int32))]) (rest := []) rfl rfl rfl (hb hby at_26) (W0 := 0) rfl (by decide) (by decide) (by decide) (by decide) (fun v3 T3 h3 L3 X3 e3 hQ3 => ?_)
    obtain ⟨rfl, N3q, hh3⟩ := hQ3
    obtain rfl := hh3.symm
    have N3 := Fr.app N2 N3q
    show W p e below _ (T3.setTop (mkF m 29 #[.val (.int p0), .val (.int (0 : Int32)), .val (.ref w_FALSE), .unset, .unset, .unset, .unset] [(.ref w_TRUE)]))
    refine W.go (fun _ hr => XS.astoreN X3.here hx rfl (hb hby at_29) rfl rfl (l' := #[.val (.int p0), .val (.int (0 : Int32)), .val (.ref w_FALSE), .val (.ref w_TRUE), .unset, .unset, .unset]) rfl hr) ?_
    show W p e below _ (T3.setTop (mkF m 30 #[.val (.int p0), .val (.int (0 : Int32)), .val (.ref w_FALSE), .val (.ref w_TRUE), .unset, .unset, .unset] []))
    refine W.go (fun _ hr => XS.aloadN X3.here hx rfl (hb hby at_30) rfl rfl hr) ?_
    show W p e below _ (T3.setTop (mkF m 31 #[.val (.int p0), .val (.int (0 : Int32)), .val (.ref w_FALSE), .val (.ref w_TRUE), .unset, .unset, .unset] [(.ref w_FALSE)]))
    obtain ⟨T4, X4, e4, st4⟩ := getS2 X3 hx hZ hown (host := "") (Or.inl (hw _ (List.mem_of_getElem? (i := 8) rfl))) Via.refl e3 S_TRUE (g := (mkF m 31 #[.val (.int p0), .val (.int (0 : Int32)), .val (.ref w_FALSE), .val (.ref w_TRUE), .unset, .unset, .unset] [(.ref w_FALSE)])) rfl (hb hby at_31)
    refine W.go st4 ?_
    show W p e below _ (T4.setTop (mkF m 34 #[.val (.int p0), .val (.int (0 : Int32)), .val (.ref w_FALSE), .val (.ref w_TRUE), .unset, .unset, .unset] [(.ref w_TRUE), (.ref w_FALSE)]))
    refine W.go (fun _ hr => Jvm.RoadKit.acmp (g := (mkF m 34 #[.val (.int p0), .val (.int (0 : Int32)), .val (.ref w_FALSE), .val (.ref w_TRUE), .unset, .unset, .unset] [(.ref w_TRUE), (.ref w_FALSE)])) X4 hx rfl rfl rfl (pc0 := 34) (pc' := 41) (same := false) rfl (hb hby at_34) rfl (decide_eq_false fun q => ((Ne.symm ne_TRUE_FALSE) : ¬ (w_FALSE = w_TRUE)) (Value.ref.inj q)) (by decide) (by decide) hr) ?_
    show W p e below _ (T4.setTop (mkF m 41 #[.val (.int p0), .val (.int (0 : Int32)), .val (.ref w_FALSE), .val (.ref w_TRUE), .unset, .unset, .unset] []))
    refine W.go (fun _ hr => XS.iconst X4.here hx rfl (hb hby at_41) hr) ?_
    show W p e below _ (T4.setTop (mkF m 42 #[.val (.int p0), .val (.int (0 : Int32)), .val (.ref w_FALSE), .val (.ref w_TRUE), .unset, .unset, .unset] [(.int (0 : Int32))]))
    refine W.go (fun _ hr => XS.iloadN X4.here hx rfl (hb hby at_42) rfl hr) ?_
    show W p e below _ (T4.setTop (mkF m 43 #[.val (.int p0), .val (.int (0 : Int32)), .val (.ref w_FALSE), .val (.ref w_TRUE), .unset, .unset, .unset] [(.int (0 : Int32)), (.int (0 : Int32))]))
    refine W.go (fun _ hr => XS.icmpNo X4.here hx rfl (hb hby at_43) rfl (teq (by decide : ((0 : Int32) = (0 : Int32)))).2 hr) ?_
    show W p e below _ (T4.setTop (mkF m 46 #[.val (.int p0), .val (.int (0 : Int32)), .val (.ref w_FALSE), .val (.ref w_TRUE), .unset, .unset, .unset] []))
    refine W.go (fun _ hr => XS.iconst X4.here hx rfl (hb hby at_46) hr) ?_
    show W p e below _ (T4.setTop (mkF m 47 #[.val (.int p0), .val (.int (0 : Int32)), .val (.ref w_FALSE), .val (.ref w_TRUE), .unset, .unset, .unset] [(.int (1 : Int32))]))
    refine W.go (fun _ hr => XS.goto X4.here hx rfl (pc0 := 47) (pc' := 51) rfl (hb hby at_47) (by decide) (by decide) hr) ?_
    show W p e below _ (T4.setTop (mkF m 51 #[.val (.int p0), .val (.int (0 : Int32)), .val (.ref w_FALSE), .val (.ref w_TRUE), .unset, .unset, .unset] [(.int (1 : Int32))]))
    refine W.go (fun _ hr => XS.istore X4.here hx rfl (hb hby at_51) rfl (l' := #[.val (.int p0), .val (.int (0 : Int32)), .val (.ref w_FALSE), .val (.ref w_TRUE), .val (.int (1 : Int32)), .unset, .unset]) rfl hr) ?_
    show W p e below _ (T4.setTop (mkF m 53 #[.val (.int p0), .val (.int (0 : Int32)), .val (.ref w_FALSE), .val (.ref w_TRUE), .val (.int (1 : Int32)), .unset, .unset] []))
    refine W.go (fun _ hr => XS.aloadN X4.here hx rfl (hb hby at_53) rfl rfl hr) ?_
    show W p e below _ (T4.setTop (mkF m 54 #[.val (.int p0), .val (.int (0 : Int32)), .val (.ref w_FALSE), .val (.ref w_TRUE), .val (.int (1 : Int32)), .unset, .unset] [(.ref w_FALSE)]))
    obtain ⟨T5, X5, e5, st5⟩ := getS2 X4 hx hZ hown (host := "") (Or.inl (hw _ (List.mem_of_getElem? (i := 9) rfl))) Via.refl e4 S_UNKNOWN (g := (mkF m 54 #[.val (.int p0), .val (.int (0 : Int32)), .val (.ref w_FALSE), .val (.ref w_TRUE), .val (.int (1 : Int32)), .unset, .unset] [(.ref w_FALSE)])) rfl (hb hby at_54)
    refine W.go st5 ?_
    show W p e below _ (T5.setTop (mkF m 57 #[.val (.int p0), .val (.int (0 : Int32)), .val (.ref w_FALSE), .val (.ref w_TRUE), .val (.int (1 : Int32)), .unset, .unset] [(.ref w_UNKNOWN), (.ref w_FALSE)]))
    refine W.go (fun _ hr => Jvm.RoadKit.acmp (g := (mkF m 57 #[.val (.int p0), .val (.int (0 : Int32)), .val (.ref w_FALSE), .val (.ref w_TRUE), .val (.int (1 : Int32)), .unset, .unset] [(.ref w_UNKNOWN), (.ref w_FALSE)])) X5 hx rfl rfl rfl (pc0 := 57) (pc' := 60) (same := false) rfl (hb hby at_57) rfl (decide_eq_false fun q => (ne_FALSE_UNKNOWN : ¬ (w_FALSE = w_UNKNOWN)) (Value.ref.inj q)) (by decide) (by decide) hr) ?_
    show W p e below _ (T5.setTop (mkF m 60 #[.val (.int p0), .val (.int (0 : Int32)), .val (.ref w_FALSE), .val (.ref w_TRUE), .val (.int (1 : Int32)), .unset, .unset] []))
    refine W.go (fun _ hr => XS.aloadN X5.here hx rfl (hb hby at_60) rfl rfl hr) ?_
    show W p e below _ (T5.setTop (mkF m 61 #[.val (.int p0), .val (.int (0 : Int32)), .val (.ref w_FALSE), .val (.ref w_TRUE), .val (.int (1 : Int32)), .unset, .unset] [(.ref w_TRUE)]))
    obtain ⟨T6, X6, e6, st6⟩ := getS2 X5 hx hZ hown (host := "") (Or.inl (hw _ (List.mem_of_getElem? (i := 9) rfl))) Via.refl e5 S_UNKNOWN (g := (mkF m 61 #[.val (.int p0), .val (.int (0 : Int32)), .val (.ref w_FALSE), .val (.ref w_TRUE), .val (.int (1 : Int32)), .unset, .unset] [(.ref w_TRUE)])) rfl (hb hby at_61)
    refine W.go st6 ?_
    show W p e below _ (T6.setTop (mkF m 64 #[.val (.int p0), .val (.int (0 : Int32)), .val (.ref w_FALSE), .val (.ref w_TRUE), .val (.int (1 : Int32)), .unset, .unset] [(.ref w_UNKNOWN), (.ref w_TRUE)]))
    refine W.go (fun _ hr => Jvm.RoadKit.acmp (g := (mkF m 64 #[.val (.int p0), .val (.int (0 : Int32)), .val (.ref w_FALSE), .val (.ref w_TRUE), .val (.int (1 : Int32)), .unset, .unset] [(.ref w_UNKNOWN), (.ref w_TRUE)])) X6 hx rfl rfl rfl (pc0 := 64) (pc' := 67) (same := false) rfl (hb hby at_64) rfl (decide_eq_false fun q => (ne_TRUE_UNKNOWN : ¬ (w_TRUE = w_UNKNOWN)) (Value.ref.inj q)) (by decide) (by decide) hr) ?_
    show W p e below _ (T6.setTop (mkF m 67 #[.val (.int p0), .val (.int (0 : Int32)), .val (.ref w_FALSE), .val (.ref w_TRUE), .val (.int (1 : Int32)), .unset, .unset] []))
    refine W.go (fun _ hr => XS.iconst X6.here hx rfl (hb hby at_67) hr) ?_
    show W p e below _ (T6.setTop (mkF m 68 #[.val (.int p0), .val (.int (0 : Int32)), .val (.ref w_FALSE), .val (.ref w_TRUE), .val (.int (1 : Int32)), .unset, .unset] [(.int (1 : Int32))]))
    refine W.go (fun _ hr => XS.goto X6.here hx rfl (pc0 := 68) (pc' := 72) rfl (hb hby at_68) (by decide) (by decide) hr) ?_
    show W p e below _ (T6.setTop (mkF m 72 #[.val (.int p0), .val (.int (0 : Int32)), .val (.ref w_FALSE), .val (.ref w_TRUE), .val (.int (1 : Int32)), .unset, .unset] [(.int (1 : Int32))]))
    refine W.go (fun _ hr => XS.istore X6.here hx rfl (hb hby at_72) rfl (l' := #[.val (.int p0), .val (.int (0 : Int32)), .val (.ref w_FALSE), .val (.ref w_TRUE), .val (.int (1 : Int32)), .val (.int (1 : Int32)), .unset]) rfl hr) ?_
    show W p e below _ (T6.setTop (mkF m 74 #[.val (.int p0), .val (.int (0 : Int32)), .val (.ref w_FALSE), .val (.ref w_TRUE), .val (.int (1 : Int32)), .val (.int (1 : Int32)), .unset] []))
    refine W.go (fun _ hr => XS.aloadN X6.here hx rfl (hb hby at_74) rfl rfl hr) ?_
    show W p e below _ (T6.setTop (mkF m 75 #[.val (.int p0), .val (.int (0 : Int32)), .val (.ref w_FALSE), .val (.ref w_TRUE), .val (.int (1 : Int32)), .val (.int (1 : Int32)), .unset] [(.ref w_TRUE)]))
    refine W.go (fun _ hr => XS.aloadN X6.here hx rfl (hb hby at_75) rfl rfl hr) ?_
    show W p e below _ (T6.setTop (mkF m 76 #[.val (.int p0), .val (.int (0 : Int32)), .val (.ref w_FALSE), .val (.ref w_TRUE), .val (.int (1 : Int32)), .val (.int (1 : Int32)), .unset] [(.ref w_FALSE), (.ref w_TRUE)]))
    refine W.callV X6 hx hZ hown (g := (mkF m 76 #[.val (.int p0), .val (.int (0 : Int32)), .val (.ref w_FALSE), .val (.ref w_TRUE), .val (.int (1 : Int32)), .val (.int (1 : Int32)), .unset] [(.ref w_FALSE), (.ref w_TRUE)])) (by rw [hml]; rfl) (hw _ (List.mem_of_getElem? (i := 11) rfl)) (hw _ (List.mem_of_getElem? (i := 12) rfl)) (hw _ (List.mem_of_getElem? (i := 14) rfl)) (hw _ (List.mem_of_getElem? (i := 13) rfl)) (hw _ (List.mem_of_getElem? (i := 2) rfl)) (hw _ (List.mem_of_getElem? (i := 15) rfl)) e6 (rm2 l Z a0 hw w_FALSE w_TRUE w_FALSE (1 : Int32) w_TRUE h0 n0 Z0 S_TRUE S_FALSE E_w_FALSE F_FALSE (by decide) (by simp)) (notFace_of_selects (args := #[]) (mvT hZ (hw _ (List.mem_of_getElem? (i := 14) rfl)))) (by decide) pd_20 rfl E_w_FALSE (argsL := []) (rest := [(.ref w_TRUE)]) rfl rfl rfl (hb hby at_76) (W0 := 1) rfl (by decide) (by decide) (by decide) (by decide) (fun v7 T7 h7 L7 X7 e7 hQ7 => ?_)
    obtain ⟨rfl, N7q, hh7⟩ := hQ7
    obtain rfl := hh7.symm
    have N7 := Fr.app N3 N7q
    show W p e below _ (T7.setTop (mkF m 79 #[.val (.int p0), .val (.int (0 : Int32)), .val (.ref w_FALSE), .val (.ref w_TRUE), .val (.int (1 : Int32)), .val (.int (1 : Int32)), .unset] [(.ref w_TRUE), (.ref w_TRUE)]))
    refine W.go (fun _ hr => Jvm.RoadKit.acmp (g := (mkF m 79 #[.val (.int p0), .val (.int (0 : Int32)), .val (.ref w_FALSE), .val (.ref w_TRUE), .val (.int (1 : Int32)), .val (.int (1 : Int32)), .unset] [(.ref w_TRUE), (.ref w_TRUE)])) X7 hx rfl rfl rfl (pc0 := 79) (pc' := 82) (same := true) rfl (hb hby at_79) rfl (decide_eq_true rfl) (by decide) (by decide) hr) ?_
    show W p e below _ (T7.setTop (mkF m 82 #[.val (.int p0), .val (.int (0 : Int32)), .val (.ref w_FALSE), .val (.ref w_TRUE), .val (.int (1 : Int32)), .val (.int (1 : Int32)), .unset] []))
    refine W.go (fun _ hr => XS.iconst X7.here hx rfl (hb hby at_82) hr) ?_
    show W p e below _ (T7.setTop (mkF m 83 #[.val (.int p0), .val (.int (0 : Int32)), .val (.ref w_FALSE), .val (.ref w_TRUE), .val (.int (1 : Int32)), .val (.int (1 : Int32)), .unset] [(.int (1 : Int32))]))
    refine W.go (fun _ hr => XS.goto X7.here hx rfl (pc0 := 83) (pc' := 87) rfl (hb hby at_83) (by decide) (by decide) hr) ?_
    show W p e below _ (T7.setTop (mkF m 87 #[.val (.int p0), .val (.int (0 : Int32)), .val (.ref w_FALSE), .val (.ref w_TRUE), .val (.int (1 : Int32)), .val (.int (1 : Int32)), .unset] [(.int (1 : Int32))]))
    refine W.go (fun _ hr => XS.istore X7.here hx rfl (hb hby at_87) rfl (l' := #[.val (.int p0), .val (.int (0 : Int32)), .val (.ref w_FALSE), .val (.ref w_TRUE), .val (.int (1 : Int32)), .val (.int (1 : Int32)), .val (.int (1 : Int32))]) rfl hr) ?_
    show W p e below _ (T7.setTop (mkF m 89 #[.val (.int p0), .val (.int (0 : Int32)), .val (.ref w_FALSE), .val (.ref w_TRUE), .val (.int (1 : Int32)), .val (.int (1 : Int32)), .val (.int (1 : Int32))] []))
    refine W.go (fun _ hr => XS.iload X7.here hx rfl (hb hby at_89) rfl hr) ?_
    show W p e below _ (T7.setTop (mkF m 91 #[.val (.int p0), .val (.int (0 : Int32)), .val (.ref w_FALSE), .val (.ref w_TRUE), .val (.int (1 : Int32)), .val (.int (1 : Int32)), .val (.int (1 : Int32))] [(.int (1 : Int32))]))
    refine W.go (fun _ hr => XS.ifNo X7.here hx rfl (hb hby at_91) rfl ((if0 _ _).trans (feq (by decide : ¬ ((1 : Int32) = (0 : Int32)))).1) hr) ?_
    show W p e below _ (T7.setTop (mkF m 94 #[.val (.int p0), .val (.int (0 : Int32)), .val (.ref w_FALSE), .val (.ref w_TRUE), .val (.int (1 : Int32)), .val (.int (1 : Int32)), .val (.int (1 : Int32))] []))
    refine W.go (fun _ hr => XS.iload X7.here hx rfl (hb hby at_94) rfl hr) ?_
    show W p e below _ (T7.setTop (mkF m 96 #[.val (.int p0), .val (.int (0 : Int32)), .val (.ref w_FALSE), .val (.ref w_TRUE), .val (.int (1 : Int32)), .val (.int (1 : Int32)), .val (.int (1 : Int32))] [(.int (1 : Int32))]))
    refine W.go (fun _ hr => XS.ifNo X7.here hx rfl (hb hby at_96) rfl ((if0 _ _).trans (feq (by decide : ¬ ((1 : Int32) = (0 : Int32)))).1) hr) ?_
    show W p e below _ (T7.setTop (mkF m 99 #[.val (.int p0), .val (.int (0 : Int32)), .val (.ref w_FALSE), .val (.ref w_TRUE), .val (.int (1 : Int32)), .val (.int (1 : Int32)), .val (.int (1 : Int32))] []))
    refine W.go (fun _ hr => XS.iload X7.here hx rfl (hb hby at_99) rfl hr) ?_
    show W p e below _ (T7.setTop (mkF m 101 #[.val (.int p0), .val (.int (0 : Int32)), .val (.ref w_FALSE), .val (.ref w_TRUE), .val (.int (1 : Int32)), .val (.int (1 : Int32)), .val (.int (1 : Int32))] [(.int (1 : Int32))]))
    refine W.go (fun _ hr => XS.ifNo X7.here hx rfl (hb hby at_101) rfl ((if0 _ _).trans (feq (by decide : ¬ ((1 : Int32) = (0 : Int32)))).1) hr) ?_
    show W p e below _ (T7.setTop (mkF m 104 #[.val (.int p0), .val (.int (0 : Int32)), .val (.ref w_FALSE), .val (.ref w_TRUE), .val (.int (1 : Int32)), .val (.int (1 : Int32)), .val (.int (1 : Int32))] []))
    refine W.go (fun _ hr => XS.iconst X7.here hx rfl (hb hby at_104) hr) ?_
    show W p e below _ (T7.setTop (mkF m 105 #[.val (.int p0), .val (.int (0 : Int32)), .val (.ref w_FALSE), .val (.ref w_TRUE), .val (.int (1 : Int32)), .val (.int (1 : Int32)), .val (.int (1 : Int32))] [(.int (1 : Int32))]))
    refine W.go (fun _ hr => XS.goto X7.here hx rfl (pc0 := 105) (pc' := 109) rfl (hb hby at_105) (by decide) (by decide) hr) ?_
    show W p e below _ (T7.setTop (mkF m 109 #[.val (.int p0), .val (.int (0 : Int32)), .val (.ref w_FALSE), .val (.ref w_TRUE), .val (.int (1 : Int32)), .val (.int (1 : Int32)), .val (.int (1 : Int32))] [(.int (1 : Int32))]))
    exact W.retB X7 hx hlk (t := .boolean) hret (by simp) (hb hby at_109) (by decide) (by decide) e7 ⟨rfl, N7⟩
  · refine W.go (fun _ hr => XS.ifNo X0.here hx rfl (hb hby at_3) rfl ((if0 _ _).trans (feq hc3_1).1) hr) ?_
    show W p e below _ (s₁.setTop (mkF m 6 #[.val (.int p0), .unset, .unset, .unset, .unset, .unset, .unset] []))
    refine W.go (fun _ hr => XS.iconst X0.here hx rfl (hb hby at_6) hr) ?_
    show W p e below _ (s₁.setTop (mkF m 7 #[.val (.int p0), .unset, .unset, .unset, .unset, .unset, .unset] [(.int (1 : Int32))]))
    refine W.go (fun _ hr => XS.goto X0.here hx rfl (pc0 := 7) (pc' := 11) rfl (hb hby at_7) (by decide) (by decide) hr) ?_
    show W p e below _ (s₁.setTop (mkF m 11 #[.val (.int p0), .unset, .unset, .unset, .unset, .unset, .unset] [(.int (1 : Int32))]))
    refine W.go (fun _ hr => XS.istoreN X0.here hx rfl (hb hby at_11) rfl (l' := #[.val (.int p0), .val (.int (1 : Int32)), .unset, .unset, .unset, .unset, .unset]) rfl hr) ?_
    show W p e below _ (s₁.setTop (mkF m 12 #[.val (.int p0), .val (.int (1 : Int32)), .unset, .unset, .unset, .unset, .unset] []))
    refine W.go (fun _ hr => XS.iloadN X0.here hx rfl (hb hby at_12) rfl hr) ?_
    show W p e below _ (s₁.setTop (mkF m 13 #[.val (.int p0), .val (.int (1 : Int32)), .unset, .unset, .unset, .unset, .unset] [(.int (1 : Int32))]))
    refine W.callS X0 hx hZ hown (g := (mkF m 13 #[.val (.int p0), .val (.int (1 : Int32)), .unset, .unset, .unset, .unset, .unset] [(.int (1 : Int32))])) (by rw [hml]; rfl) (hw _ (List.mem_of_getElem? (i := 0) rfl)) (hw _ (List.mem_of_getElem? (i := 1) rfl)) (hw _ (List.mem_of_getElem? (i := 2) rfl)) (hw _ (List.mem_of_getElem? (i := 3) rfl)) e0 (rm1 l Z a0 hw (1 : Int32) w_TRUE w_FALSE w_TRUE h0 n0 Z0 S_TRUE S_FALSE (by simp)) (by decide) pd_19 rfl (argsL := [(.int (1 : Int32))]) (rest := []) rfl rfl rfl (hb hby at_13) (W0 := 0) rfl (by decide) (by decide) (by decide) (by decide) (fun v8 T8 h8 L8 X8 e8 hQ8 => ?_)
    obtain ⟨rfl, N8q, hh8⟩ := hQ8
    obtain rfl := hh8.symm
    have N8 := Fr.app N0 N8q
    show W p e below _ (T8.setTop (mkF m 16 #[.val (.int p0), .val (.int (1 : Int32)), .unset, .unset, .unset, .unset, .unset] [(.ref w_TRUE)]))
    refine W.go (fun _ hr => XS.astoreN X8.here hx rfl (hb hby at_16) rfl rfl (l' := #[.val (.int p0), .val (.int (1 : Int32)), .val (.ref w_TRUE), .unset, .unset, .unset, .unset]) rfl hr) ?_
    show W p e below _ (T8.setTop (mkF m 17 #[.val (.int p0), .val (.int (1 : Int32)), .val (.ref w_TRUE), .unset, .unset, .unset, .unset] []))
    refine W.go (fun _ hr => XS.iloadN X8.here hx rfl (hb hby at_17) rfl hr) ?_
    show W p e below _ (T8.setTop (mkF m 18 #[.val (.int p0), .val (.int (1 : Int32)), .val (.ref w_TRUE), .unset, .unset, .unset, .unset] [(.int (1 : Int32))]))
    refine W.go (fun _ hr => XS.ifYes X8.here hx rfl (pc0 := 18) (pc' := 25) rfl (hb hby at_18) rfl ((if0 _ _).trans (feq (by decide : ¬ ((1 : Int32) = (0 : Int32)))).2) (by decide) (by decide) hr) ?_
    show W p e below _ (T8.setTop (mkF m 25 #[.val (.int p0), .val (.int (1 : Int32)), .val (.ref w_TRUE), .unset, .unset, .unset, .unset] []))
    refine W.go (fun _ hr => XS.iconst X8.here hx rfl (hb hby at_25) hr) ?_
    show W p e below _ (T8.setTop (mkF m 26 #[.val (.int p0), .val (.int (1 : Int32)), .val (.ref w_TRUE), .unset, .unset, .unset, .unset] [(.int (0 : Int32))]))
    refine W.callS X8 hx hZ hown (g := (mkF m 26 #[.val (.int p0), .val (.int (1 : Int32)), .val (.ref w_TRUE), .unset, .unset, .unset, .unset] [(.int (0 : Int32))])) (by rw [hml]; rfl) (hw _ (List.mem_of_getElem? (i := 0) rfl)) (hw _ (List.mem_of_getElem? (i := 1) rfl)) (hw _ (List.mem_of_getElem? (i := 2) rfl)) (hw _ (List.mem_of_getElem? (i := 3) rfl)) e8 (rm1 l Z a0 hw (0 : Int32) w_TRUE w_FALSE w_FALSE h0 n0 Z0 S_TRUE S_FALSE (by simp)) (by decide) pd_19 rfl (argsL := [(.int (0 : Int32))]) (rest := []) rfl rfl rfl (hb hby at_26) (W0 := 0) rfl (by decide) (by decide) (by decide) (by decide) (fun v9 T9 h9 L9 X9 e9 hQ9 => ?_)
    obtain ⟨rfl, N9q, hh9⟩ := hQ9
    obtain rfl := hh9.symm
    have N9 := Fr.app N8 N9q
    show W p e below _ (T9.setTop (mkF m 29 #[.val (.int p0), .val (.int (1 : Int32)), .val (.ref w_TRUE), .unset, .unset, .unset, .unset] [(.ref w_FALSE)]))
    refine W.go (fun _ hr => XS.astoreN X9.here hx rfl (hb hby at_29) rfl rfl (l' := #[.val (.int p0), .val (.int (1 : Int32)), .val (.ref w_TRUE), .val (.ref w_FALSE), .unset, .unset, .unset]) rfl hr) ?_
    show W p e below _ (T9.setTop (mkF m 30 #[.val (.int p0), .val (.int (1 : Int32)), .val (.ref w_TRUE), .val (.ref w_FALSE), .unset, .unset, .unset] []))
    refine W.go (fun _ hr => XS.aloadN X9.here hx rfl (hb hby at_30) rfl rfl hr) ?_
    show W p e below _ (T9.setTop (mkF m 31 #[.val (.int p0), .val (.int (1 : Int32)), .val (.ref w_TRUE), .val (.ref w_FALSE), .unset, .unset, .unset] [(.ref w_TRUE)]))
    obtain ⟨T10, X10, e10, st10⟩ := getS2 X9 hx hZ hown (host := "") (Or.inl (hw _ (List.mem_of_getElem? (i := 8) rfl))) Via.refl e9 S_TRUE (g := (mkF m 31 #[.val (.int p0), .val (.int (1 : Int32)), .val (.ref w_TRUE), .val (.ref w_FALSE), .unset, .unset, .unset] [(.ref w_TRUE)])) rfl (hb hby at_31)
    refine W.go st10 ?_
    show W p e below _ (T10.setTop (mkF m 34 #[.val (.int p0), .val (.int (1 : Int32)), .val (.ref w_TRUE), .val (.ref w_FALSE), .unset, .unset, .unset] [(.ref w_TRUE), (.ref w_TRUE)]))
    refine W.go (fun _ hr => Jvm.RoadKit.acmp (g := (mkF m 34 #[.val (.int p0), .val (.int (1 : Int32)), .val (.ref w_TRUE), .val (.ref w_FALSE), .unset, .unset, .unset] [(.ref w_TRUE), (.ref w_TRUE)])) X10 hx rfl rfl rfl (pc0 := 34) (pc' := 37) (same := true) rfl (hb hby at_34) rfl (decide_eq_true rfl) (by decide) (by decide) hr) ?_
    show W p e below _ (T10.setTop (mkF m 37 #[.val (.int p0), .val (.int (1 : Int32)), .val (.ref w_TRUE), .val (.ref w_FALSE), .unset, .unset, .unset] []))
    refine W.go (fun _ hr => XS.iconst X10.here hx rfl (hb hby at_37) hr) ?_
    show W p e below _ (T10.setTop (mkF m 38 #[.val (.int p0), .val (.int (1 : Int32)), .val (.ref w_TRUE), .val (.ref w_FALSE), .unset, .unset, .unset] [(.int (1 : Int32))]))
    refine W.go (fun _ hr => XS.goto X10.here hx rfl (pc0 := 38) (pc' := 42) rfl (hb hby at_38) (by decide) (by decide) hr) ?_
    show W p e below _ (T10.setTop (mkF m 42 #[.val (.int p0), .val (.int (1 : Int32)), .val (.ref w_TRUE), .val (.ref w_FALSE), .unset, .unset, .unset] [(.int (1 : Int32))]))
    refine W.go (fun _ hr => XS.iloadN X10.here hx rfl (hb hby at_42) rfl hr) ?_
    show W p e below _ (T10.setTop (mkF m 43 #[.val (.int p0), .val (.int (1 : Int32)), .val (.ref w_TRUE), .val (.ref w_FALSE), .unset, .unset, .unset] [(.int (1 : Int32)), (.int (1 : Int32))]))
    refine W.go (fun _ hr => XS.icmpNo X10.here hx rfl (hb hby at_43) rfl (teq (by decide : ((1 : Int32) = (1 : Int32)))).2 hr) ?_
    show W p e below _ (T10.setTop (mkF m 46 #[.val (.int p0), .val (.int (1 : Int32)), .val (.ref w_TRUE), .val (.ref w_FALSE), .unset, .unset, .unset] []))
    refine W.go (fun _ hr => XS.iconst X10.here hx rfl (hb hby at_46) hr) ?_
    show W p e below _ (T10.setTop (mkF m 47 #[.val (.int p0), .val (.int (1 : Int32)), .val (.ref w_TRUE), .val (.ref w_FALSE), .unset, .unset, .unset] [(.int (1 : Int32))]))
    refine W.go (fun _ hr => XS.goto X10.here hx rfl (pc0 := 47) (pc' := 51) rfl (hb hby at_47) (by decide) (by decide) hr) ?_
    show W p e below _ (T10.setTop (mkF m 51 #[.val (.int p0), .val (.int (1 : Int32)), .val (.ref w_TRUE), .val (.ref w_FALSE), .unset, .unset, .unset] [(.int (1 : Int32))]))
    refine W.go (fun _ hr => XS.istore X10.here hx rfl (hb hby at_51) rfl (l' := #[.val (.int p0), .val (.int (1 : Int32)), .val (.ref w_TRUE), .val (.ref w_FALSE), .val (.int (1 : Int32)), .unset, .unset]) rfl hr) ?_
    show W p e below _ (T10.setTop (mkF m 53 #[.val (.int p0), .val (.int (1 : Int32)), .val (.ref w_TRUE), .val (.ref w_FALSE), .val (.int (1 : Int32)), .unset, .unset] []))
    refine W.go (fun _ hr => XS.aloadN X10.here hx rfl (hb hby at_53) rfl rfl hr) ?_
    show W p e below _ (T10.setTop (mkF m 54 #[.val (.int p0), .val (.int (1 : Int32)), .val (.ref w_TRUE), .val (.ref w_FALSE), .val (.int (1 : Int32)), .unset, .unset] [(.ref w_TRUE)]))
    obtain ⟨T11, X11, e11, st11⟩ := getS2 X10 hx hZ hown (host := "") (Or.inl (hw _ (List.mem_of_getElem? (i := 9) rfl))) Via.refl e10 S_UNKNOWN (g := (mkF m 54 #[.val (.int p0), .val (.int (1 : Int32)), .val (.ref w_TRUE), .val (.ref w_FALSE), .val (.int (1 : Int32)), .unset, .unset] [(.ref w_TRUE)])) rfl (hb hby at_54)
    refine W.go st11 ?_
    show W p e below _ (T11.setTop (mkF m 57 #[.val (.int p0), .val (.int (1 : Int32)), .val (.ref w_TRUE), .val (.ref w_FALSE), .val (.int (1 : Int32)), .unset, .unset] [(.ref w_UNKNOWN), (.ref w_TRUE)]))
    refine W.go (fun _ hr => Jvm.RoadKit.acmp (g := (mkF m 57 #[.val (.int p0), .val (.int (1 : Int32)), .val (.ref w_TRUE), .val (.ref w_FALSE), .val (.int (1 : Int32)), .unset, .unset] [(.ref w_UNKNOWN), (.ref w_TRUE)])) X11 hx rfl rfl rfl (pc0 := 57) (pc' := 60) (same := false) rfl (hb hby at_57) rfl (decide_eq_false fun q => (ne_TRUE_UNKNOWN : ¬ (w_TRUE = w_UNKNOWN)) (Value.ref.inj q)) (by decide) (by decide) hr) ?_
    show W p e below _ (T11.setTop (mkF m 60 #[.val (.int p0), .val (.int (1 : Int32)), .val (.ref w_TRUE), .val (.ref w_FALSE), .val (.int (1 : Int32)), .unset, .unset] []))
    refine W.go (fun _ hr => XS.aloadN X11.here hx rfl (hb hby at_60) rfl rfl hr) ?_
    show W p e below _ (T11.setTop (mkF m 61 #[.val (.int p0), .val (.int (1 : Int32)), .val (.ref w_TRUE), .val (.ref w_FALSE), .val (.int (1 : Int32)), .unset, .unset] [(.ref w_FALSE)]))
    obtain ⟨T12, X12, e12, st12⟩ := getS2 X11 hx hZ hown (host := "") (Or.inl (hw _ (List.mem_of_getElem? (i := 9) rfl))) Via.refl e11 S_UNKNOWN (g := (mkF m 61 #[.val (.int p0), .val (.int (1 : Int32)), .val (.ref w_TRUE), .val (.ref w_FALSE), .val (.int (1 : Int32)), .unset, .unset] [(.ref w_FALSE)])) rfl (hb hby at_61)
    refine W.go st12 ?_
    show W p e below _ (T12.setTop (mkF m 64 #[.val (.int p0), .val (.int (1 : Int32)), .val (.ref w_TRUE), .val (.ref w_FALSE), .val (.int (1 : Int32)), .unset, .unset] [(.ref w_UNKNOWN), (.ref w_FALSE)]))
    refine W.go (fun _ hr => Jvm.RoadKit.acmp (g := (mkF m 64 #[.val (.int p0), .val (.int (1 : Int32)), .val (.ref w_TRUE), .val (.ref w_FALSE), .val (.int (1 : Int32)), .unset, .unset] [(.ref w_UNKNOWN), (.ref w_FALSE)])) X12 hx rfl rfl rfl (pc0 := 64) (pc' := 67) (same := false) rfl (hb hby at_64) rfl (decide_eq_false fun q => (ne_FALSE_UNKNOWN : ¬ (w_FALSE = w_UNKNOWN)) (Value.ref.inj q)) (by decide) (by decide) hr) ?_
    show W p e below _ (T12.setTop (mkF m 67 #[.val (.int p0), .val (.int (1 : Int32)), .val (.ref w_TRUE), .val (.ref w_FALSE), .val (.int (1 : Int32)), .unset, .unset] []))
    refine W.go (fun _ hr => XS.iconst X12.here hx rfl (hb hby at_67) hr) ?_
    show W p e below _ (T12.setTop (mkF m 68 #[.val (.int p0), .val (.int (1 : Int32)), .val (.ref w_TRUE), .val (.ref w_FALSE), .val (.int (1 : Int32)), .unset, .unset] [(.int (1 : Int32))]))
    refine W.go (fun _ hr => XS.goto X12.here hx rfl (pc0 := 68) (pc' := 72) rfl (hb hby at_68) (by decide) (by decide) hr) ?_
    show W p e below _ (T12.setTop (mkF m 72 #[.val (.int p0), .val (.int (1 : Int32)), .val (.ref w_TRUE), .val (.ref w_FALSE), .val (.int (1 : Int32)), .unset, .unset] [(.int (1 : Int32))]))
    refine W.go (fun _ hr => XS.istore X12.here hx rfl (hb hby at_72) rfl (l' := #[.val (.int p0), .val (.int (1 : Int32)), .val (.ref w_TRUE), .val (.ref w_FALSE), .val (.int (1 : Int32)), .val (.int (1 : Int32)), .unset]) rfl hr) ?_
    show W p e below _ (T12.setTop (mkF m 74 #[.val (.int p0), .val (.int (1 : Int32)), .val (.ref w_TRUE), .val (.ref w_FALSE), .val (.int (1 : Int32)), .val (.int (1 : Int32)), .unset] []))
    refine W.go (fun _ hr => XS.aloadN X12.here hx rfl (hb hby at_74) rfl rfl hr) ?_
    show W p e below _ (T12.setTop (mkF m 75 #[.val (.int p0), .val (.int (1 : Int32)), .val (.ref w_TRUE), .val (.ref w_FALSE), .val (.int (1 : Int32)), .val (.int (1 : Int32)), .unset] [(.ref w_FALSE)]))
    refine W.go (fun _ hr => XS.aloadN X12.here hx rfl (hb hby at_75) rfl rfl hr) ?_
    show W p e below _ (T12.setTop (mkF m 76 #[.val (.int p0), .val (.int (1 : Int32)), .val (.ref w_TRUE), .val (.ref w_FALSE), .val (.int (1 : Int32)), .val (.int (1 : Int32)), .unset] [(.ref w_TRUE), (.ref w_FALSE)]))
    refine W.callV X12 hx hZ hown (g := (mkF m 76 #[.val (.int p0), .val (.int (1 : Int32)), .val (.ref w_TRUE), .val (.ref w_FALSE), .val (.int (1 : Int32)), .val (.int (1 : Int32)), .unset] [(.ref w_TRUE), (.ref w_FALSE)])) (by rw [hml]; rfl) (hw _ (List.mem_of_getElem? (i := 11) rfl)) (hw _ (List.mem_of_getElem? (i := 12) rfl)) (hw _ (List.mem_of_getElem? (i := 14) rfl)) (hw _ (List.mem_of_getElem? (i := 13) rfl)) (hw _ (List.mem_of_getElem? (i := 2) rfl)) (hw _ (List.mem_of_getElem? (i := 15) rfl)) e12 (rm2 l Z a0 hw w_TRUE w_TRUE w_FALSE (0 : Int32) w_FALSE h0 n0 Z0 S_TRUE S_FALSE E_w_TRUE F_TRUE (by decide) (by simp)) (notFace_of_selects (args := #[]) (mvT hZ (hw _ (List.mem_of_getElem? (i := 14) rfl)))) (by decide) pd_20 rfl E_w_TRUE (argsL := []) (rest := [(.ref w_FALSE)]) rfl rfl rfl (hb hby at_76) (W0 := 1) rfl (by decide) (by decide) (by decide) (by decide) (fun v13 T13 h13 L13 X13 e13 hQ13 => ?_)
    obtain ⟨rfl, N13q, hh13⟩ := hQ13
    obtain rfl := hh13.symm
    have N13 := Fr.app N9 N13q
    show W p e below _ (T13.setTop (mkF m 79 #[.val (.int p0), .val (.int (1 : Int32)), .val (.ref w_TRUE), .val (.ref w_FALSE), .val (.int (1 : Int32)), .val (.int (1 : Int32)), .unset] [(.ref w_FALSE), (.ref w_FALSE)]))
    refine W.go (fun _ hr => Jvm.RoadKit.acmp (g := (mkF m 79 #[.val (.int p0), .val (.int (1 : Int32)), .val (.ref w_TRUE), .val (.ref w_FALSE), .val (.int (1 : Int32)), .val (.int (1 : Int32)), .unset] [(.ref w_FALSE), (.ref w_FALSE)])) X13 hx rfl rfl rfl (pc0 := 79) (pc' := 82) (same := true) rfl (hb hby at_79) rfl (decide_eq_true rfl) (by decide) (by decide) hr) ?_
    show W p e below _ (T13.setTop (mkF m 82 #[.val (.int p0), .val (.int (1 : Int32)), .val (.ref w_TRUE), .val (.ref w_FALSE), .val (.int (1 : Int32)), .val (.int (1 : Int32)), .unset] []))
    refine W.go (fun _ hr => XS.iconst X13.here hx rfl (hb hby at_82) hr) ?_
    show W p e below _ (T13.setTop (mkF m 83 #[.val (.int p0), .val (.int (1 : Int32)), .val (.ref w_TRUE), .val (.ref w_FALSE), .val (.int (1 : Int32)), .val (.int (1 : Int32)), .unset] [(.int (1 : Int32))]))
    refine W.go (fun _ hr => XS.goto X13.here hx rfl (pc0 := 83) (pc' := 87) rfl (hb hby at_83) (by decide) (by decide) hr) ?_
    show W p e below _ (T13.setTop (mkF m 87 #[.val (.int p0), .val (.int (1 : Int32)), .val (.ref w_TRUE), .val (.ref w_FALSE), .val (.int (1 : Int32)), .val (.int (1 : Int32)), .unset] [(.int (1 : Int32))]))
    refine W.go (fun _ hr => XS.istore X13.here hx rfl (hb hby at_87) rfl (l' := #[.val (.int p0), .val (.int (1 : Int32)), .val (.ref w_TRUE), .val (.ref w_FALSE), .val (.int (1 : Int32)), .val (.int (1 : Int32)), .val (.int (1 : Int32))]) rfl hr) ?_
    show W p e below _ (T13.setTop (mkF m 89 #[.val (.int p0), .val (.int (1 : Int32)), .val (.ref w_TRUE), .val (.ref w_FALSE), .val (.int (1 : Int32)), .val (.int (1 : Int32)), .val (.int (1 : Int32))] []))
    refine W.go (fun _ hr => XS.iload X13.here hx rfl (hb hby at_89) rfl hr) ?_
    show W p e below _ (T13.setTop (mkF m 91 #[.val (.int p0), .val (.int (1 : Int32)), .val (.ref w_TRUE), .val (.ref w_FALSE), .val (.int (1 : Int32)), .val (.int (1 : Int32)), .val (.int (1 : Int32))] [(.int (1 : Int32))]))
    refine W.go (fun _ hr => XS.ifNo X13.here hx rfl (hb hby at_91) rfl ((if0 _ _).trans (feq (by decide : ¬ ((1 : Int32) = (0 : Int32)))).1) hr) ?_
    show W p e below _ (T13.setTop (mkF m 94 #[.val (.int p0), .val (.int (1 : Int32)), .val (.ref w_TRUE), .val (.ref w_FALSE), .val (.int (1 : Int32)), .val (.int (1 : Int32)), .val (.int (1 : Int32))] []))
    refine W.go (fun _ hr => XS.iload X13.here hx rfl (hb hby at_94) rfl hr) ?_
    show W p e below _ (T13.setTop (mkF m 96 #[.val (.int p0), .val (.int (1 : Int32)), .val (.ref w_TRUE), .val (.ref w_FALSE), .val (.int (1 : Int32)), .val (.int (1 : Int32)), .val (.int (1 : Int32))] [(.int (1 : Int32))]))
    refine W.go (fun _ hr => XS.ifNo X13.here hx rfl (hb hby at_96) rfl ((if0 _ _).trans (feq (by decide : ¬ ((1 : Int32) = (0 : Int32)))).1) hr) ?_
    show W p e below _ (T13.setTop (mkF m 99 #[.val (.int p0), .val (.int (1 : Int32)), .val (.ref w_TRUE), .val (.ref w_FALSE), .val (.int (1 : Int32)), .val (.int (1 : Int32)), .val (.int (1 : Int32))] []))
    refine W.go (fun _ hr => XS.iload X13.here hx rfl (hb hby at_99) rfl hr) ?_
    show W p e below _ (T13.setTop (mkF m 101 #[.val (.int p0), .val (.int (1 : Int32)), .val (.ref w_TRUE), .val (.ref w_FALSE), .val (.int (1 : Int32)), .val (.int (1 : Int32)), .val (.int (1 : Int32))] [(.int (1 : Int32))]))
    refine W.go (fun _ hr => XS.ifNo X13.here hx rfl (hb hby at_101) rfl ((if0 _ _).trans (feq (by decide : ¬ ((1 : Int32) = (0 : Int32)))).1) hr) ?_
    show W p e below _ (T13.setTop (mkF m 104 #[.val (.int p0), .val (.int (1 : Int32)), .val (.ref w_TRUE), .val (.ref w_FALSE), .val (.int (1 : Int32)), .val (.int (1 : Int32)), .val (.int (1 : Int32))] []))
    refine W.go (fun _ hr => XS.iconst X13.here hx rfl (hb hby at_104) hr) ?_
    show W p e below _ (T13.setTop (mkF m 105 #[.val (.int p0), .val (.int (1 : Int32)), .val (.ref w_TRUE), .val (.ref w_FALSE), .val (.int (1 : Int32)), .val (.int (1 : Int32)), .val (.int (1 : Int32))] [(.int (1 : Int32))]))
    refine W.go (fun _ hr => XS.goto X13.here hx rfl (pc0 := 105) (pc' := 109) rfl (hb hby at_105) (by decide) (by decide) hr) ?_
    show W p e below _ (T13.setTop (mkF m 109 #[.val (.int p0), .val (.int (1 : Int32)), .val (.ref w_TRUE), .val (.ref w_FALSE), .val (.int (1 : Int32)), .val (.int (1 : Int32)), .val (.int (1 : Int32))] [(.int (1 : Int32))]))
    exact W.retB X13 hx hlk (t := .boolean) hret (by simp) (hb hby at_109) (by decide) (by decide) e13 ⟨rfl, N13⟩
set_option maxRecDepth 65536 in
set_option maxHeartbeats 40000000 in
theorem comes_1 {Post : Tables → Env → Array Value → State → Outcome → State → Prop} (hpost : ∀ tb e args s v u, (limb_1_1.after args s (.returned v) u = true ∧ limb_1_2.after args s (.returned v) u = true ∧ True) → FrameEnd s (.returned v) u (Jvm.fieldLocs frame_1_writes args s ++ Jvm.arrayLocs frame_1_arrays args s ++ Jvm.staticLocs frame_1_statics s) 0 0 → Post tb e args s (.returned v) u) :
    ArmFor flags0 classFile x code maxLocals ret World_1 tables_1 room_1 Calls_1 rest_1 Pre_1 Post := by
  intro l hfl _ _ p e ha hc hk s m args below hf hA hF happ hP
  obtain ⟨hcalls, hrest, hpre⟩ := hP
  obtain ⟨-, -, -, hnamed, -, -, -, hat⟩ := (Spec.applies_iff hf).mp happ
  obtain ⟨hg, hn⟩ := and_e (Cond.before_iff.mp (show (Jvm.Cond.and given_1 narrow_1).before args s = true from hpre))
  obtain ⟨c1, c2⟩ := and_e hg
  obtain ⟨c3, c4⟩ := and_e hn
  obtain ⟨c5, c6⟩ := and_e c4
  obtain ⟨c7, c8⟩ := and_e c6
  obtain ⟨c9, c10⟩ := and_e c8
  obtain ⟨c11, c12⟩ := and_e c10
  obtain ⟨w0, rfl⟩ : ∃ w0 : Value, args = #[w0] := by
    have hs : args.size = 1 := by simpa [Cond.value, given_1] using c1
    obtain ⟨L⟩ := args
    match L, hs with
    | [w0], _ => exact ⟨w0, rfl⟩
  have hw := fun d (hd : d ∈ tables_1) => atoms_spec (ws := Jvm.Cond.code x code maxLocals ret :: tables_1) hat d (List.mem_cons_of_mem _ hd)
  have hfit : Fit s := fun {y c} hc i hi => by
    obtain ⟨ha, rfl⟩ := Array.getElem?_eq_some_iff.mp hc
    have q := List.all_eq_true.mp ((Array.all_eq_true_iff_forall_mem.mp hF) _ (Array.getElem_mem ha)) i (List.mem_range.mpr hi)
    simpa [Array.getElem?_eq_getElem hi] using q
  obtain ⟨i0, ei0⟩ := is_v c2
  obtain rfl : w0 = (.int i0) := Option.some.inj ei0
  obtain ⟨w_FALSE, ev_FALSE⟩ := exa_v c3
  have E_FALSE := Exa.start ev_FALSE c3
  have S_FALSE := Sta.start ev_FALSE (Or.inr ⟨(hw _ (List.mem_of_getElem? (i := 2) rfl)), (hw _ (List.mem_of_getElem? (i := 5) rfl))⟩)
  obtain ⟨w_TRUE, ev_TRUE⟩ := exa_v c5
  have E_TRUE := Exa.start ev_TRUE c5
  have S_TRUE := Sta.start ev_TRUE (Or.inr ⟨(hw _ (List.mem_of_getElem? (i := 2) rfl)), (hw _ (List.mem_of_getElem? (i := 7) rfl))⟩)
  have F_FALSE_ordinal := Fld.start ((fld_at ev_FALSE).symm.trans (eqI_v c7))
  have F_TRUE_ordinal := Fld.start ((fld_at ev_TRUE).symm.trans (eqI_v c9))
  obtain ⟨w_UNKNOWN, ev_UNKNOWN⟩ := exa_v c11
  have E_UNKNOWN := Exa.start ev_UNKNOWN c11
  have S_UNKNOWN := Sta.start ev_UNKNOWN (Or.inr ⟨(hw _ (List.mem_of_getElem? (i := 2) rfl)), (hw _ (List.mem_of_getElem? (i := 10) rfl))⟩)
  have F_UNKNOWN_ordinal := Fld.start ((fld_at ev_UNKNOWN).symm.trans (eqI_v c12))
  obtain ⟨n, o, h1, h2, h3, _, L, rfl, ⟨rfl, N⟩, hq⟩ := rm0 l s _ hw i0 w_TRUE w_FALSE w_UNKNOWN s.heap s.heap.size (Nat.le_refl _) S_TRUE S_FALSE S_UNKNOWN E_TRUE E_FALSE E_UNKNOWN F_TRUE_ordinal F_FALSE_ordinal F_UNKNOWN_ordinal (Fld.ne F_TRUE_ordinal F_FALSE_ordinal fun q => absurd (Value.int.inj q) (by decide)) (Fld.ne F_TRUE_ordinal F_UNKNOWN_ordinal fun q => absurd (Value.int.inj q) (by decide)) (Fld.ne F_FALSE_ordinal F_UNKNOWN_ordinal fun q => absurd (Value.int.inj q) (by decide)) tables_1 p e ha hc hk s m _ below hf ((Spec.applies_iff_loose hf).mp happ).1 ⟨rfl, State.Warmed39.refl s, rfl⟩ trivial
  refine ⟨n, _, h1, h2, h3, hpost _ _ _ _ _ _ ⟨Cond.after_iff.mpr rfl, Cond.after_iff.mpr (eq_i res_at (Term.int_eval (1)) rfl), trivial⟩ ⟨hq.1, hq.2.1, (hq.2.2.sift fun y hy => Or.inr (N y hy)).mono (by decide) (by decide)⟩⟩
theorem main_1_1 : Claimed_1_1 := comes_1 fun _ _ _ _ _ _ h hF => ⟨h.1, hF⟩
theorem main_1_2 : Claimed_1_2 := comes_1 fun _ _ _ _ _ _ h hF => ⟨h.2.1, hF⟩
end Jvm.Pilot.@@N@@
namespace Jvm.Pilot.@@N@@
open Jvm Jvm.ClassFile Sem Op Lib Jvm.Free Jvm.Stand Jvm.Pilot.@@N@@.Jvm.D
/-! MADE BY PROGRAM (witnessworld.py) out of the Statement's table words and the real class files: 12 classes; the members and pool entries that the words name. The judged class is class 1, her method 1. -/
namespace start1
open Jvm.ClassFile
def u (s : String) : CpInfo := .utf8 (stringToUtf16 s)
/-- a pool by its gaps: so many unusable entries, then the entry; so many at the end -/
def gap : Nat → List CpInfo → List CpInfo
  | 0, r => r
  | n + 1, r => .unusable :: gap n r
def poolList (es : List (Nat × CpInfo)) (last : Nat) : List CpInfo := es.foldr (fun e r => gap e.1 (e.2 :: r)) (gap last [])
def pool (es : List (Nat × CpInfo)) (last : Nat) : Array CpInfo := ⟨poolList es last⟩
def fileOf (pool : Array CpInfo) (this : Nat) (attrs : Array Attribute := #[]) (ms : Array MethodInfo := #[]) (fl : Nat := 33) (sup : Nat := 0) (ifs : Array Nat := #[]) (fds : Array FieldInfo := #[]) : ClassFile where
  minorVersion := 0
  majorVersion := 65
  constantPool := pool
  accessFlags := fl
  thisClass := this
  superClass := sup
  interfaces := ifs
  fields := fds
  methods := ms
  attributes := attrs
def plain (name : String) (sup : Option ClassId) : Class where
  name := name
  kind := .ordinary
  loader := none
  accessFlags := 33
  super := sup
  interfaces := #[]
  cf := none
  fields := #[]
  methods := #[]
  instanceTypes := #[]
  staticTypes := #[]
  resolved := #[]
  callSites := []
  init := .initialized
  statics := none
  mirror := none

def pool0 : Array CpInfo := pool [(5, u "<init>"), (0, u "()V"), (1, .class_ 10), (1, u "java/lang/Object")] 113

def k0m0 : Method := { name := "<init>", desc := "()V", sig := { parameters := [], returnType := none }, accessFlags := 1, code := none }
/-- java/lang/Object -/
def k0 : Class := { plain "java/lang/Object" none with
  accessFlags := 33
  interfaces := #[]
  cf := some (fileOf pool0 8 #[] #[{ accessFlags := 1, nameIndex := 5, descriptorIndex := 6, attributes := #[] }] 33 0 #[] #[])
  fields := #[]
  methods := #[k0m0]
  instanceTypes := #[]
  staticTypes := #[]
  resolved := Array.replicate 124 none
  statics := none }

def pool1 : Array CpInfo := pool [(2, .class_ 4), (1, u "java/lang/Object"), (0, u "<init>"), (0, u "()V"), (0, .methodref 8 9), (0, .class_ 10), (0, .nameAndType 11 12), (0, u "com/example/millrace/millrace/Truth"), (0, u "of"), (0, u "(Z)Lcom/example/millrace/millrace/Truth;"), (0, .fieldref 8 14), (0, .nameAndType 15 16), (0, u "TRUE"), (0, u "Lcom/example/millrace/millrace/Truth;"), (0, .fieldref 8 18), (0, .nameAndType 19 16), (0, u "UNKNOWN"), (0, .methodref 8 21), (0, .nameAndType 22 23), (0, u "not"), (0, u "()Lcom/example/millrace/millrace/Truth;"), (0, .class_ 25), (0, u "com/example/millrace/millrace/TruthOfPinLaw"), (2, u "law"), (0, u "(I)Z")] 3

def k1m0 : Method := { name := "<init>", desc := "()V", sig := { parameters := [], returnType := none }, accessFlags := 1, code := none }
def k1c1 : Code := { maxStack := 2, maxLocals := 7, code := code, exceptionTable := #[], attributes := #[] }
def k1m1 : Method := { name := "law", desc := "(I)Z", sig := { parameters := [.int], returnType := some .boolean }, accessFlags := 9, code := some k1c1 }
/-- com/example/millrace/millrace/TruthOfPinLaw -/
def k1 : Class := { plain "com/example/millrace/millrace/TruthOfPinLaw" (some 0) with
  accessFlags := 49
  interfaces := #[]
  cf := some (fileOf pool1 24 #[] #[{ accessFlags := 1, nameIndex := 5, descriptorIndex := 6, attributes := #[] }, { accessFlags := 9, nameIndex := 28, descriptorIndex := 29, attributes := #[] }] 49 2 #[] #[])
  fields := #[]
  methods := #[k1m0, k1m1]
  instanceTypes := #[]
  staticTypes := #[]
  resolved := Array.replicate 33 none
  statics := none }

def pool2 : Array CpInfo := pool [(1, .class_ 2), (0, u "java/lang/constant/Constable"), (0, .class_ 4), (0, u "java/lang/Object")] 6

/-- java/lang/constant/Constable -/
def k2 : Class := { plain "java/lang/constant/Constable" (some 0) with
  accessFlags := 1537
  interfaces := #[]
  cf := some (fileOf pool2 1 #[] #[] 1537 3 #[] #[])
  fields := #[]
  methods := #[]
  instanceTypes := #[]
  staticTypes := #[]
  resolved := Array.replicate 11 none
  statics := none }

def pool3 : Array CpInfo := pool [(1, .class_ 2), (0, u "java/lang/Comparable"), (0, .class_ 4), (0, u "java/lang/Object")] 7

/-- java/lang/Comparable -/
def k3 : Class := { plain "java/lang/Comparable" (some 0) with
  accessFlags := 1537
  interfaces := #[]
  cf := some (fileOf pool3 1 #[] #[] 1537 3 #[] #[])
  fields := #[]
  methods := #[]
  instanceTypes := #[]
  staticTypes := #[]
  resolved := Array.replicate 12 none
  statics := none }

def pool4 : Array CpInfo := pool [(1, .class_ 2), (0, u "java/io/Serializable"), (0, .class_ 4), (0, u "java/lang/Object")] 2

/-- java/io/Serializable -/
def k4 : Class := { plain "java/io/Serializable" (some 0) with
  accessFlags := 1537
  interfaces := #[]
  cf := some (fileOf pool4 1 #[] #[] 1537 3 #[] #[])
  fields := #[]
  methods := #[]
  instanceTypes := #[]
  staticTypes := #[]
  resolved := Array.replicate 7 none
  statics := none }

def pool5 : Array CpInfo := pool [(2, .class_ 4), (1, u "java/lang/Enum"), (0, u "name"), (0, u "Ljava/lang/String;"), (0, .fieldref 2 8), (0, .nameAndType 9 10), (0, u "ordinal"), (0, u "I"), (1, .class_ 14), (1, u "java/lang/Object"), (4, u "hash"), (86, .class_ 108), (1, u "java/lang/Enum$EnumDesc"), (2, .class_ 112), (0, u "java/lang/constant/Constable"), (0, .class_ 114), (0, u "java/lang/Comparable"), (0, .class_ 116), (0, u "java/io/Serializable"), (9, u "()I")] 77

def k5c0 : Code := { maxStack := 1, maxLocals := 1, code := jdk_37_method_2_code, exceptionTable := #[], attributes := #[] }
def k5m0 : Method := { name := "ordinal", desc := "()I", sig := { parameters := [], returnType := some .int }, accessFlags := 17, code := some k5c0 }
/-- java/lang/Enum -/
def k5 : Class := { plain "java/lang/Enum" (some 0) with
  accessFlags := 1057
  interfaces := #[2, 3, 4]
  cf := some (fileOf pool5 2 #[.nestMembers #[106]] #[{ accessFlags := 17, nameIndex := 9, descriptorIndex := 126, attributes := #[] }] 1057 12 #[111, 113, 115] #[{ accessFlags := 18, nameIndex := 5, descriptorIndex := 6, attributes := #[] }, { accessFlags := 18, nameIndex := 9, descriptorIndex := 10, attributes := #[] }, { accessFlags := 2, nameIndex := 19, descriptorIndex := 10, attributes := #[] }])
  fields := #[{ name := "name", type := (.object "java/lang/String"), accessFlags := 18, slot := 0, constantValue := 0 }, { name := "ordinal", type := .int, accessFlags := 18, slot := 1, constantValue := 0 }, { name := "hash", type := .int, accessFlags := 2, slot := 2, constantValue := 0 }]
  methods := #[k5m0]
  instanceTypes := #[(.object "java/lang/String"), .int, .int]
  staticTypes := #[]
  resolved := Array.replicate 204 none
  statics := none }

def pool6 : Array CpInfo := pool [(1, .class_ 2), (0, u "com/example/millrace/millrace/Truth"), (0, .fieldref 1 4), (0, .nameAndType 5 6), (0, u "TRUE"), (0, u "Lcom/example/millrace/millrace/Truth;"), (0, .fieldref 1 8), (0, .nameAndType 9 6), (0, u "FALSE"), (2, u "UNKNOWN"), (2, u "$VALUES"), (0, u "[Lcom/example/millrace/millrace/Truth;"), (6, .class_ 25), (1, u "java/lang/Enum"), (6, .methodref 1 33), (0, .nameAndType 34 35), (0, u "ordinal"), (0, u "()I"), (15, u "of"), (0, u "(Z)Lcom/example/millrace/millrace/Truth;"), (1, u "not"), (0, u "()Lcom/example/millrace/millrace/Truth;")] 4

def k6c0 : Code := { maxStack := 1, maxLocals := 1, code := prog_35_method_4_code, exceptionTable := #[], attributes := #[] }
def k6m0 : Method := { name := "of", desc := "(Z)Lcom/example/millrace/millrace/Truth;", sig := { parameters := [.boolean], returnType := some (.object "com/example/millrace/millrace/Truth") }, accessFlags := 8, code := some k6c0 }
def k6c1 : Code := { maxStack := 1, maxLocals := 1, code := prog_35_method_5_code, exceptionTable := #[], attributes := #[] }
def k6m1 : Method := { name := "not", desc := "()Lcom/example/millrace/millrace/Truth;", sig := { parameters := [], returnType := some (.object "com/example/millrace/millrace/Truth") }, accessFlags := 0, code := some k6c1 }
/-- com/example/millrace/millrace/Truth -/
def k6 : Class := { plain "com/example/millrace/millrace/Truth" (some 5) with
  accessFlags := 16432
  interfaces := #[]
  cf := some (fileOf pool6 1 #[] #[{ accessFlags := 8, nameIndex := 51, descriptorIndex := 52, attributes := #[] }, { accessFlags := 0, nameIndex := 54, descriptorIndex := 55, attributes := #[] }] 16432 23 #[] #[{ accessFlags := 16409, nameIndex := 5, descriptorIndex := 6, attributes := #[] }, { accessFlags := 16409, nameIndex := 9, descriptorIndex := 6, attributes := #[] }, { accessFlags := 16409, nameIndex := 12, descriptorIndex := 6, attributes := #[] }, { accessFlags := 4122, nameIndex := 15, descriptorIndex := 16, attributes := #[] }])
  fields := #[{ name := "TRUE", type := (.object "com/example/millrace/millrace/Truth"), accessFlags := 16409, slot := 0, constantValue := 0 }, { name := "FALSE", type := (.object "com/example/millrace/millrace/Truth"), accessFlags := 16409, slot := 1, constantValue := 0 }, { name := "UNKNOWN", type := (.object "com/example/millrace/millrace/Truth"), accessFlags := 16409, slot := 2, constantValue := 0 }, { name := "$VALUES", type := (.array (.object "com/example/millrace/millrace/Truth")), accessFlags := 4122, slot := 3, constantValue := 0 }]
  methods := #[k6m0, k6m1]
  instanceTypes := #[(.object "java/lang/String"), .int, .int]
  staticTypes := #[(.object "com/example/millrace/millrace/Truth"), (.object "com/example/millrace/millrace/Truth"), (.object "com/example/millrace/millrace/Truth"), (.array (.object "com/example/millrace/millrace/Truth"))]
  resolved := Array.replicate 60 none
  statics := some 0 }

def pool7 : Array CpInfo := pool [(1, u "java/lang/Cloneable"), (0, .class_ 1), (0, u "java/lang/Object"), (0, .class_ 3)] 3

/-- java/lang/Cloneable -/
def k7 : Class := { plain "java/lang/Cloneable" (some 0) with
  accessFlags := 1537
  interfaces := #[]
  cf := some (fileOf pool7 2 #[] #[] 1537 4 #[] #[])
  fields := #[]
  methods := #[]
  instanceTypes := #[]
  staticTypes := #[]
  resolved := Array.replicate 8 none
  statics := none }

/-- the primitive byte -/
def k8 : Class := { plain "byte" none with kind := .primitive 'B', accessFlags := 0x411 }
/-- [B -/
def k9 : Class := { plain "[B" (some 0) with kind := .array 8 .byte, interfaces := #[7, 4], accessFlags := 1041 }

/-- the primitive int -/
def k10 : Class := { plain "int" none with kind := .primitive 'I', accessFlags := 0x411 }
/-- [I -/
def k11 : Class := { plain "[I" (some 0) with kind := .array 10 .int, interfaces := #[7, 4], accessFlags := 1041 }

def heap : Heap := #[{ cls := 6, slots := #[.ref 1, .ref 2, .ref 3, .null], vm := .statics 6 },
  { cls := 6, slots := #[.null, .int 0, .int 0], vm := .none },
  { cls := 6, slots := #[.null, .int 1, .int 0], vm := .none },
  { cls := 6, slots := #[.null, .int 2, .int 0], vm := .none }]
def classes : Array Class := #[k0, k1, k2, k3, k4, k5, k6, k7, k8, k9, k10, k11]
def interned : List (Array UInt16 × Addr) := []
def slotsUsed : Nat := 13
def theMethod : MethodId := ⟨1, 1⟩
def args0 : Array Value := #[.int 5]
def aboutOver (below : List Frame) : State where
  vm := { classes := classes, interned := interned.toArray }
  heap := heap
  slotsUsed := slotsUsed
  threads := #[{ frames := .invoking theMethod args0 :: below }]
def below0 : List Frame := [.native { method := ⟨0, 0⟩, args := #[] }]
def about1 : State := aboutOver below0
def p0 : Program := .bare "" "" ""
def e0 : Env := launch0.env 0 0 0
theorem w_frames : about1.frames = Frame.invoking theMethod args0 :: below0 := rfl
set_option maxRecDepth 65536 in
theorem w_args : argsFit about1.vm theMethod args0 = true := by decide +kernel
set_option maxRecDepth 65536 in
theorem w_heap : heapFits about1 = true := by decide +kernel
set_option maxRecDepth 65536 in
theorem w_runnable : about1.curStatus? = some .runnable := by decide +kernel
set_option maxRecDepth 65536 in
theorem w_alone : about1.alone = true := by decide +kernel
set_option maxRecDepth 65536 in
theorem w_named : about1.methodNamed? x = some theMethod := by decide +kernel
set_option maxRecDepth 65536 in
theorem w_hears : about1.hears theMethod below0 = true := by decide +kernel
set_option maxRecDepth 65536 in
theorem w_ripe : about1.ripe theMethod args0 below0 = true := by decide +kernel
theorem w_running : about1.status = .running := rfl
set_option maxRecDepth 65536 in
theorem w_room : about1.hasRoom e0.platform room_1 = true :=
  launch0.hasRoom_least _ room_1 (by decide +kernel) (by decide +kernel) (by decide +kernel) (by decide +kernel) (by decide +kernel) (by decide +kernel)
theorem allAtoms_all (ts : List Jvm.Cond) (a : Array Jvm.Value) (st : Jvm.State) : (allAtoms ts).before a st = ts.all (fun c => c.before a st) := by
  induction ts with
  | nil => rfl
  | cons c t ih =>
    show (Jvm.Cond.and c (allAtoms t)).before a st = _
    rw [Jvm.Cond.before_and, ih, List.all_cons]
def words1 : List Jvm.Cond := Jvm.Cond.code x code maxLocals ret :: tables_1
/-- a 'code' word, met by the world's own term for the bytes: nothing is compared byte by byte -/
theorem code_word {y : MethodName} {bytes : ByteArray} {mx : Nat} {rt : Option FieldType} {a : Array Value} {s : State} {m : MethodId} {meth : Method} {c : Code} (h1 : s.methodNamed? y = some m) (h2 : s.vm.method? m = some meth) (h3 : meth.code = some c) (h4 : c.code = bytes)
    (h5 : (c.maxLocals == mx && c.exceptionTable.isEmpty && decide (c.maxStack ≤ mostOperands) && decide (meth.sig.returnType = rt) && !meth.locks && decide (parseMethodDescriptor y.desc = some meth.sig)) = true) : (Jvm.Cond.code y bytes mx rt).before a s = true := by
  simp only [Bool.and_eq_true, beq_iff_eq, Bool.not_eq_true', decide_eq_true_eq] at h5
  obtain ⟨⟨⟨⟨⟨g1, g2⟩, g3⟩, g4⟩, g5⟩, g6⟩ := h5
  simp [Cond.before, Cond.holds, Cond.value, h1, h2, h3, h4, g1, g2, g3, g4, g5, g6]
def isCode : Jvm.Cond → Bool
  | .code _ _ _ _ => true
  | _ => false
theorem all_split {L : List Jvm.Cond} {P : Jvm.Cond → Bool} (h1 : L.all (fun c => isCode c || P c) = true) (h2 : ∀ c ∈ L.filter isCode, P c = true) : L.all P = true := by
  refine List.all_eq_true.mpr fun c hc => ?_
  have h := List.all_eq_true.mp h1 c hc
  rcases Bool.eq_false_or_eq_true (isCode c) with hi | hi
  · exact h2 c (List.mem_filter.mpr ⟨hc, hi⟩)
  · simpa [hi] using h
set_option maxRecDepth 65536 in
theorem w_c0 : (Jvm.Cond.code x code maxLocals ret).before args0 about1 = true := code_word (m := ⟨1, 1⟩) (meth := k1m1) (c := k1c1) (by decide +kernel) rfl rfl rfl (by decide +kernel)
set_option maxRecDepth 65536 in
theorem w_c1 : (Jvm.Cond.code ({ cls := "com/example/millrace/millrace/Truth", name := "of", desc := "(Z)Lcom/example/millrace/millrace/Truth;" } : Jvm.MethodName) prog_35_method_4_code (1 : Nat) (Option.some (Jvm.ClassFile.FieldType.object "com/example/millrace/millrace/Truth"))).before args0 about1 = true := code_word (m := ⟨6, 0⟩) (meth := k6m0) (c := k6c0) (by decide +kernel) rfl rfl rfl (by decide +kernel)
set_option maxRecDepth 65536 in
theorem w_c2 : (Jvm.Cond.code ({ cls := "com/example/millrace/millrace/Truth", name := "not", desc := "()Lcom/example/millrace/millrace/Truth;" } : Jvm.MethodName) prog_35_method_5_code (1 : Nat) (Option.some (Jvm.ClassFile.FieldType.object "com/example/millrace/millrace/Truth"))).before args0 about1 = true := code_word (m := ⟨6, 1⟩) (meth := k6m1) (c := k6c1) (by decide +kernel) rfl rfl rfl (by decide +kernel)
set_option maxRecDepth 65536 in
theorem w_c3 : (Jvm.Cond.code ({ cls := "java/lang/Enum", name := "ordinal", desc := "()I" } : Jvm.MethodName) jdk_37_method_2_code (1 : Nat) (Option.some Jvm.ClassFile.FieldType.int)).before args0 about1 = true := code_word (m := ⟨5, 0⟩) (meth := k5m0) (c := k5c0) (by decide +kernel) rfl rfl rfl (by decide +kernel)
def codes1 : List Jvm.Cond := [Jvm.Cond.code x code maxLocals ret, Jvm.Cond.code ({ cls := "com/example/millrace/millrace/Truth", name := "of", desc := "(Z)Lcom/example/millrace/millrace/Truth;" } : Jvm.MethodName) prog_35_method_4_code (1 : Nat) (Option.some (Jvm.ClassFile.FieldType.object "com/example/millrace/millrace/Truth")), Jvm.Cond.code ({ cls := "com/example/millrace/millrace/Truth", name := "not", desc := "()Lcom/example/millrace/millrace/Truth;" } : Jvm.MethodName) prog_35_method_5_code (1 : Nat) (Option.some (Jvm.ClassFile.FieldType.object "com/example/millrace/millrace/Truth")), Jvm.Cond.code ({ cls := "java/lang/Enum", name := "ordinal", desc := "()I" } : Jvm.MethodName) jdk_37_method_2_code (1 : Nat) (Option.some Jvm.ClassFile.FieldType.int)]
set_option maxRecDepth 65536 in
theorem codes_eq : words1.filter isCode = codes1 := rfl
theorem w_codes : ∀ c ∈ words1.filter isCode, c.before args0 about1 = true := by
  rw [codes_eq]
  intro c hc
  simp only [codes1, List.mem_cons, List.not_mem_nil, or_false] at hc
  rcases hc with rfl | rfl | rfl | rfl
  · exact w_c0
  · exact w_c1
  · exact w_c2
  · exact w_c3
set_option maxRecDepth 65536 in
theorem w_t1 : (words1.take 24).all (fun c => isCode c || c.before args0 about1) = true := by decide +kernel
set_option maxRecDepth 65536 in
theorem w_t2 : (words1.drop 24).all (fun c => isCode c || c.before args0 about1) = true := by decide +kernel
theorem w_tables : (allAtoms (Jvm.Cond.code x code maxLocals ret :: tables_1)).before args0 about1 = true := by
  rw [allAtoms_all]
  show words1.all (fun c => c.before args0 about1) = true
  refine all_split ?_ w_codes
  rw [← List.take_append_drop 24 words1, List.all_append, w_t1, w_t2]
  rfl
set_option maxRecDepth 65536 in
theorem w_case : (Jvm.Cond.and given_1 narrow_1).before args0 about1 = true := by decide +kernel
theorem w_applies : (headSpec (Jvm.Cond.code x code maxLocals ret :: tables_1) room_1).applies x e0.platform about1 = true :=
  (Spec.applies_iff w_frames).mpr ⟨w_running, w_runnable, w_alone, w_named, w_hears, w_ripe, w_room, w_tables⟩
theorem atStart : AtStart classFile x code maxLocals ret World_1 tables_1 room_1 Calls_1 rest_1 Pre_1 launch0 p0 e0 about1 theMethod args0 below0 :=
  ⟨lists_1, trivial, launch0.admits_env _ _ _, launch0.least_env, fairChoices_fair.cas, fairChoices_fair.clock, w_frames, w_args, w_heap, w_applies, trivial, trivial, w_case⟩
end start1
theorem witness_1 : WitnessClaimed_1 := ⟨start1.p0, start1.e0, start1.about1, start1.theMethod, start1.args0, start1.below0, start1.atStart⟩
end Jvm.Pilot.@@N@@
