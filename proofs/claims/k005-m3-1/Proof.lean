import JvmDerived
import JvmDerived.Pilot.@@N@@Statement
import JvmDerived.Pilot.@@N@@Code
set_option linter.unusedVariables false
set_option linter.unusedSimpArgs false
namespace Jvm.OwnKit
open Sem ClassFile Op Lib Jvm.Stand Jvm.Free Jvm.LawKit Jvm.RoadKit
section Own
variable {p : Program} {l : Launch} {e : Env} {R : Room} {s : State} {m : MethodId} {args : Array Value} {below : List Frame} {meth : Method} {c : Code} {T : State} {locs : List Loc} {cells slots : Nat} {Z : State} {a0 : Array Value} {h : Heap}
/-- from S the run comes to an end that F admits -/
def W (p : Program) (e : Env) (below : List Frame) (F : Outcome → State → Prop) (S : State) : Prop := ∃ s₂ o, Steps p.tables e below S s₂ ∧ s₂.status = .running ∧ Ended s₂ below o ∧ F o s₂
def Fin (s : State) (Q : Option Value → Heap → List Loc → Prop) (rc rs : Nat) (o : Outcome) (U : State) : Prop := ∃ v L, o = .returned v ∧ Q v U.heap L ∧ FrameEnd s o U L rc rs
theorem W.go {F : Outcome → State → Prop} {S S' : State} (st : ∀ t, Steps p.tables e below S' t → Steps p.tables e below S t) (k : W p e below F S') : W p e below F S := by
  obtain ⟨s2, o, h1, h2⟩ := k; exact ⟨s2, o, st _ h1, h2⟩
theorem W.via {F : Outcome → State → Prop} {S S' : State} (st : Steps p.tables e below S S') (k : W p e below F S') : W p e below F S := by
  obtain ⟨s2, o, h1, h2⟩ := k; exact ⟨s2, o, st.trans h1, h2⟩
/-- a contract: called with these arguments, over this heap, the body returns and leaves what Q says -/
def Ctr (l : Launch) (Z : State) (y : MethodName) (bytes : ByteArray) (maxL : Nat) (ret : Option FieldType) (rm : Room) (as' : Array Value) (h0 : Heap) (Q : Option Value → Heap → List Loc → Prop) : Prop :=
  ∀ ws : List Jvm.Cond, MetFree l y (head1 (Jvm.Cond.code y bytes maxL ret :: ws) rm) (fun a U => a = as' ∧ Z.Warmed39 U.vm ∧ U.heap = h0) (fun _ _ _ _ _ => True) (fun _ U o U' => Fin U Q rm.cells rm.slots o U')
theorem Ctr.body {y : MethodName} {bytes : ByteArray} {maxL : Nat} {ret : Option FieldType} {rm : Room} {as' : Array Value} {h0 : Heap} {Q : Option Value → Heap → List Loc → Prop} {fr : MethodId → JFrame} (hpl : plainFor y = true) (hef : ∀ m, entryFrame m as' maxL = fr m)
    (body : ∀ (p : Program) (e : Env) (s : State) (m : MethodId) (below : List Frame) (meth : Method) (c : Code) (s₁ : State), p.tables.exec = Jvm.exec → c.code = bytes → c.maxLocals = maxL → Z.Warmed39 s.vm → s.vm.findClass y.cls = some m.cls → meth.name = y.name → meth.sig.returnType = ret → meth.locks = false →
      Stand p l e rm s m as' below meth c s₁ [] 0 0 → s₁.heap = h0 → W p e below (Fin s Q rm.cells rm.slots) (s₁.setTop (fr m))) : Ctr l Z y bytes maxL ret rm as' h0 Q := by
  intro ws
  refine MetFree.of_bodySF hpl hisR ?_
  intro p e s m args below meth c s₁ Bd hml0 hP hK
  obtain ⟨rfl, hZ, hh⟩ := hP
  have r := body p e s m below meth c s₁ Bd.exec Bd.bytes hml0 hZ (findClass_of_methodNamed Bd.named) (name_of_methodNamed Bd.named Bd.method).1 Bd.returns Bd.notSynchronized (Stand.of_body Bd) (by rw [← hh, Bd.state]; rfl)
  rw [← hef] at r
  exact r
theorem W.retB (X : Stand p l e R s m args below meth c T locs cells slots) (hx : p.tables.exec = Jvm.exec) (hlk : meth.locks = false) {t : FieldType} (hret : meth.sig.returnType = some t) (ht : t = .boolean ∨ t = .byte ∨ t = .char ∨ t = .short) {pc : Nat} {Ls : Array Slot} {z : Int32} {rest : List Value} (hd : decode c.code pc = .ok (.ireturn, 1))
    {Q : Option Value → Heap → List Loc → Prop} {rc rs : Nat} (hc : cells ≤ rc) (hs : slots ≤ rs) (eT : T.heap = h) (hQ : Q (some (.int (nar t z))) h locs) : W p e below (Fin s Q rc rs) (T.setTop (mkF m pc Ls (.int z :: rest))) := by
  obtain ⟨fs, hr, hrun, hended, hW, hsame⟩ := X.leave (v := some (.int (nar t z))) (fun h => by rw [hret] at h; cases h) hlk
  subst eT
  exact ⟨_, _, retN X hx hret ht hd hr, hrun, hended, _, _, rfl, hQ, ⟨_, rfl⟩, hW, hsame.mono hc hs⟩
theorem W.retI (X : Stand p l e R s m args below meth c T locs cells slots) (hx : p.tables.exec = Jvm.exec) (hlk : meth.locks = false) (hret : meth.sig.returnType = some .int) {pc : Nat} {Ls : Array Slot} {z : Int32} {rest : List Value} (hd : decode c.code pc = .ok (.ireturn, 1))
    {Q : Option Value → Heap → List Loc → Prop} {rc rs : Nat} (hc : cells ≤ rc) (hs : slots ≤ rs) (eT : T.heap = h) (hQ : Q (some (.int z)) h locs) : W p e below (Fin s Q rc rs) (T.setTop (mkF m pc Ls (.int z :: rest))) := by
  obtain ⟨fs, hr, hrun, hended, hW, hsame⟩ := X.leave (v := some (.int z)) (fun h => by rw [hret] at h; cases h) hlk
  subst eT
  refine ⟨_, _, ?_, hrun, hended, _, _, rfl, hQ, ⟨_, rfl⟩, hW, hsame.mono hc hs⟩
  have hm' : T.vm.method? m = some meth := X.method'
  have hn : narrow .int (.int z) = .int z := rfl
  show Steps p.tables e below (T.setTop { method := m, pc := pc, locals := Ls, stack := _ :: rest, locked := none }) _
  jvm_step X.here [X.here.top, hx, hd, hm', hret, hn]
  first | (intro acts; rw [hr _ acts rfl rfl rfl]) | rw [hr _ _ rfl rfl rfl]
  exact Steps.refl _
theorem W.retL (X : Stand p l e R s m args below meth c T locs cells slots) (hx : p.tables.exec = Jvm.exec) (hlk : meth.locks = false) (hret : meth.sig.returnType = some .long) {pc : Nat} {Ls : Array Slot} {z : Int64} {rest : List Value} (hd : decode c.code pc = .ok (.lreturn, 1))
    {Q : Option Value → Heap → List Loc → Prop} {rc rs : Nat} (hc : cells ≤ rc) (hs : slots ≤ rs) (eT : T.heap = h) (hQ : Q (some (.long z)) h locs) : W p e below (Fin s Q rc rs) (T.setTop (mkF m pc Ls (.long z :: rest))) := by
  obtain ⟨fs, hr, hrun, hended, hW, hsame⟩ := X.leave (v := some (.long z)) (fun h => by rw [hret] at h; cases h) hlk
  subst eT
  refine ⟨_, _, ?_, hrun, hended, _, _, rfl, hQ, ⟨_, rfl⟩, hW, hsame.mono hc hs⟩
  have hm' : T.vm.method? m = some meth := X.method'
  have hn : narrow .long (.long z) = .long z := rfl
  show Steps p.tables e below (T.setTop { method := m, pc := pc, locals := Ls, stack := _ :: rest, locked := none }) _
  jvm_step X.here [X.here.top, hx, hd, hm', hret, hn]
  first | (intro acts; rw [hr _ acts rfl rfl rfl]) | rw [hr _ _ rfl rfl rfl]
  exact Steps.refl _
theorem W.retA (X : Stand p l e R s m args below meth c T locs cells slots) (hx : p.tables.exec = Jvm.exec) (hlk : meth.locks = false) {t : FieldType} (hret : meth.sig.returnType = some t) (ht : t.isReference = true) {pc : Nat} {Ls : Array Slot} {w : Value} (hw : w.isRef = true) {rest : List Value} (hd : decode c.code pc = .ok (.areturn, 1))
    {Q : Option Value → Heap → List Loc → Prop} {rc rs : Nat} (hc : cells ≤ rc) (hs : slots ≤ rs) (eT : T.heap = h) (hQ : Q (some w) h locs) : W p e below (Fin s Q rc rs) (T.setTop (mkF m pc Ls (w :: rest))) := by
  obtain ⟨fs, hr, hrun, hended, hW, hsame⟩ := X.leave (v := some w) (fun h => by rw [hret] at h; cases h) hlk
  subst eT
  refine ⟨_, _, ?_, hrun, hended, _, _, rfl, hQ, ⟨_, rfl⟩, hW, hsame.mono hc hs⟩
  have hm' : T.vm.method? m = some meth := X.method'
  rcases ref_cases hw with rfl | ⟨z, rfl⟩
  all_goals
    show Steps p.tables e below (T.setTop { method := m, pc := pc, locals := Ls, stack := _ :: rest, locked := none }) _
    jvm_step X.here [X.here.top, hx, hd, hm', hret, ht, Value.isRef]
    first | (intro acts; rw [hr _ acts rfl rfl rfl]) | rw [hr _ _ rfl rfl rfl]
    exact Steps.refl _
theorem W.retV (X : Stand p l e R s m args below meth c T locs cells slots) (hx : p.tables.exec = Jvm.exec) (hlk : meth.locks = false) (hret : meth.sig.returnType = none) {pc : Nat} {Ls : Array Slot} (hd : decode c.code pc = .ok (.return_, 1))
    {Q : Option Value → Heap → List Loc → Prop} {rc rs : Nat} (hc : cells ≤ rc) (hs : slots ≤ rs) (eT : T.heap = h) (hQ : Q none h locs) : W p e below (Fin s Q rc rs) (T.setTop (mkF m pc Ls [])) := by
  obtain ⟨fs, hr, hrun, hended, hW, hsame⟩ := X.leave (v := none) (fun _ => rfl) hlk
  subst eT
  exact ⟨_, _, X.returnOut hx hret hd hr, hrun, hended, _, _, rfl, hQ, ⟨_, rfl⟩, hW, hsame.mono hc hs⟩
section Calls
variable {y y0 : MethodName} {bytes : ByteArray} {maxL W0 : Nat} {ret : Option FieldType} {rm : Room} {as' : Array Value} {Q : Option Value → Heap → List Loc → Prop} {own : String} {index : Nat} {sig : MethodDescriptor} {g : JFrame} {argsL rest : List Value} {F : Outcome → State → Prop}
theorem Ctr.back {len : Nat} (hM : Ctr l Z y bytes maxL ret rm as' h Q) (hZ : Z.Warmed39 s.vm) (wc : (Jvm.Cond.code y bytes maxL ret).before a0 Z = true) (wz : (Jvm.Cond.initialized y.cls).before a0 Z = true) (hf : rm.frames + 1 ≤ R.frames) (hl : W0 + (maxL + 11) + rm.locals ≤ R.locals) :
    Back l R p e below s args y len W0 (fun A a => a = as' ∧ A.U.heap = h ∧ A.cells + rm.cells ≤ R.cells ∧ A.slots + rm.slots ≤ R.slots)
      (fun A _ v B => ∃ L, Q v B.U.heap L ∧ B.locs = A.locs ++ L ∧ B.cells = A.cells + rm.cells ∧ B.slots = A.slots + rm.slots) := backOf (hM []) hZ wc wz hf hl
/-- a static call by its contract -/
theorem W.callS (X : Stand p l e R s m args below meth c T locs cells slots) (hx : p.tables.exec = Jvm.exec) (hZ : Z.Warmed39 s.vm) (hown : s.vm.findClass own = some m.cls) (hml : g.locals.size = c.maxLocals)
    (w1 : (Jvm.Cond.methodLink own index y).before a0 Z = true) (w2 : (Jvm.Cond.static y).before a0 Z = true) (w3 : (Jvm.Cond.initialized y.cls).before a0 Z = true) (w4 : (Jvm.Cond.code y bytes maxL ret).before a0 Z = true) (eT : T.heap = h)
    (hM : Ctr l Z y bytes maxL ret rm as' h Q) (hy : y.cls ≠ "java/lang/invoke/MethodHandle" ∧ y.cls ≠ "java/lang/invoke/VarHandle") (pd : parseMethodDescriptor y.desc = some sig) (hg : g.method = m) (has : argsL.toArray = as') (hlen : argsL.length = sig.parameters.length)
    (hst : g.stack = argsL.reverse ++ rest) (hd : decode c.code g.pc = .ok (.invokestatic index, 3)) (hW : 2 * g.monitorRoom + (rest.map fun v => v.category).sum = W0) (hf : rm.frames + 1 ≤ R.frames) (hl : W0 + (maxL + 11) + rm.locals ≤ R.locals) (hc : cells + rm.cells ≤ R.cells) (hs : slots + rm.slots ≤ R.slots)
    (k : ∀ v T' h' L, Stand p l e R s m args below meth c T' (locs ++ L) (cells + rm.cells) (slots + rm.slots) → T'.heap = h' → Q v h' L → W p e below F (T'.setTop { g with pc := g.pc + 3, stack := v.toList ++ rest })) : W p e below F (T.setTop g) := by
  obtain ⟨v, _, ⟨T', L', k', n'⟩, -, X', ⟨L, hQ, e1, e2, e3⟩, st⟩ := Jvm.LawKit.callS X hx hown (mvT hZ w1) (mvT hZ w2) (mvT hZ w3) (mvT hZ w4) hy (hM.back hZ w4 w3 hf hl) hg hml (argsL := argsL) (rest := rest) (fun sg q => by cases pd.symm.trans q; exact hlen) hst (Nat.le_of_eq hW) hd (fun _ _ => ⟨has, eT, hc, hs⟩)
  dsimp only [Pt.U, Pt.locs, Pt.cells, Pt.slots] at X' e1 e2 e3 hQ st
  subst e1 e2 e3
  exact W.go st (k v T' _ L X' rfl hQ)
/-- a constructor, whoever pays it -/
theorem W.callIK {kc ks : Nat} (X : Stand p l e R s m args below meth c T locs cells slots) (hx : p.tables.exec = Jvm.exec) (hZ : Z.Warmed39 s.vm) (hown : s.vm.findClass own = some m.cls) (hml : g.locals.size = c.maxLocals)
    (w1 : (Jvm.Cond.methodLink own index y).before a0 Z = true) (w2 : (Jvm.Cond.instanceMethod y).before a0 Z = true) (w4 : (Jvm.Cond.code y bytes maxL none).before a0 Z = true) (eT : T.heap = h)
    (hK : Back l R p e below s args y 3 W0 (fun A a => a = as' ∧ A.U.heap = h ∧ A.cells + kc ≤ R.cells ∧ A.slots + ks ≤ R.slots) (fun A _ v B => ∃ L, Q v B.U.heap L ∧ B.locs = A.locs ++ L ∧ B.cells = A.cells + kc ∧ B.slots = A.slots + ks)) (hn : y.name = "<init>") (hy : y.cls ≠ "java/lang/invoke/MethodHandle" ∧ y.cls ≠ "java/lang/invoke/VarHandle") (pd : parseMethodDescriptor y.desc = some sig) (hg : g.method = m) {b : Addr} (has : (Value.ref b :: argsL).toArray = as') (hlen : argsL.length = sig.parameters.length)
    (hst : g.stack = argsL.reverse ++ .ref b :: rest) (hd : decode c.code g.pc = .ok (.invokespecial index, 3)) (hW : 2 * g.monitorRoom + (rest.map fun v => v.category).sum = W0) (hc : cells + kc ≤ R.cells) (hs : slots + ks ≤ R.slots)
    (k : ∀ v T' h' L, Stand p l e R s m args below meth c T' (locs ++ L) (cells + kc) (slots + ks) → T'.heap = h' → Q v h' L → W p e below F (T'.setTop { g with pc := g.pc + 3, stack := v.toList ++ rest })) : W p e below F (T.setTop g) := by
  obtain ⟨v, _, ⟨T', L', k', n'⟩, -, X', ⟨L, hQ, e1, e2, e3⟩, st⟩ := X.specialBack hx hn hown (mvT hZ w1) (mvT hZ w2) (mvT hZ w4) hy hK hg hml (Steps.refl _) (a := b) (argsL := argsL) (rest := rest) (fun sg q => by cases pd.symm.trans q; exact hlen) hst (Nat.le_of_eq hW) hd (fun _ _ => ⟨has, eT, hc, hs⟩)
  dsimp only [Pt.U, Pt.locs, Pt.cells, Pt.slots] at X' e1 e2 e3 hQ st
  subst e1 e2 e3
  exact W.via st (k v T' _ L X' rfl hQ)
/-- a constructor by its contract -/
theorem W.callI (X : Stand p l e R s m args below meth c T locs cells slots) (hx : p.tables.exec = Jvm.exec) (hZ : Z.Warmed39 s.vm) (hown : s.vm.findClass own = some m.cls) (hml : g.locals.size = c.maxLocals)
    (w1 : (Jvm.Cond.methodLink own index y).before a0 Z = true) (w2 : (Jvm.Cond.instanceMethod y).before a0 Z = true) (w3 : (Jvm.Cond.initialized y.cls).before a0 Z = true) (w4 : (Jvm.Cond.code y bytes maxL none).before a0 Z = true) (eT : T.heap = h)
    (hM : Ctr l Z y bytes maxL none rm as' h Q) (hn : y.name = "<init>") (hy : y.cls ≠ "java/lang/invoke/MethodHandle" ∧ y.cls ≠ "java/lang/invoke/VarHandle") (pd : parseMethodDescriptor y.desc = some sig) (hg : g.method = m) {b : Addr} (has : (Value.ref b :: argsL).toArray = as') (hlen : argsL.length = sig.parameters.length)
    (hst : g.stack = argsL.reverse ++ .ref b :: rest) (hd : decode c.code g.pc = .ok (.invokespecial index, 3)) (hW : 2 * g.monitorRoom + (rest.map fun v => v.category).sum = W0) (hf : rm.frames + 1 ≤ R.frames) (hl : W0 + (maxL + 11) + rm.locals ≤ R.locals) (hc : cells + rm.cells ≤ R.cells) (hs : slots + rm.slots ≤ R.slots)
    (k : ∀ v T' h' L, Stand p l e R s m args below meth c T' (locs ++ L) (cells + rm.cells) (slots + rm.slots) → T'.heap = h' → Q v h' L → W p e below F (T'.setTop { g with pc := g.pc + 3, stack := v.toList ++ rest })) : W p e below F (T.setTop g) := by
  obtain ⟨v, _, ⟨T', L', k', n'⟩, -, X', ⟨L, hQ, e1, e2, e3⟩, st⟩ := X.specialBack hx hn hown (mvT hZ w1) (mvT hZ w2) (mvT hZ w4) hy (hM.back hZ w4 w3 hf hl) hg hml (Steps.refl _) (a := b) (argsL := argsL) (rest := rest) (fun sg q => by cases pd.symm.trans q; exact hlen) hst (Nat.le_of_eq hW) hd (fun _ _ => ⟨has, eT, hc, hs⟩)
  dsimp only [Pt.U, Pt.locs, Pt.cells, Pt.slots] at X' e1 e2 e3 hQ st
  subst e1 e2 e3
  exact W.via st (k v T' _ L X' rfl hQ)
/-- an instance method, whoever pays it -/
theorem W.callVK {kc ks : Nat} {C : String} (X : Stand p l e R s m args below meth c T locs cells slots) (hx : p.tables.exec = Jvm.exec) (hZ : Z.Warmed39 s.vm) (hown : s.vm.findClass own = some m.cls) (hml : g.locals.size = c.maxLocals)
    (w1 : (Jvm.Cond.methodLink own index y0).before a0 Z = true) (w5 : (Jvm.Cond.declares y0).before a0 Z = true) (w6 : (Jvm.Cond.selects C y0 y).before a0 Z = true) (w2 : (Jvm.Cond.instanceMethod y).before a0 Z = true) (eT : T.heap = h)
    (hK : Back l R p e below s args y 3 W0 (fun A a => a = as' ∧ A.U.heap = h ∧ A.cells + kc ≤ R.cells ∧ A.slots + ks ≤ R.slots) (fun A _ v B => ∃ L, Q v B.U.heap L ∧ B.locs = A.locs ++ L ∧ B.cells = A.cells + kc ∧ B.slots = A.slots + ks)) (hnf : NotFace s y0) (hy : y0.cls ≠ "java/lang/invoke/MethodHandle" ∧ y0.cls ≠ "java/lang/invoke/VarHandle") (pd : parseMethodDescriptor y0.desc = some sig) (hg : g.method = m) {b : Addr} (E : Exa Z h b C) (has : (Value.ref b :: argsL).toArray = as') (hlen : argsL.length = sig.parameters.length)
    (hst : g.stack = argsL.reverse ++ .ref b :: rest) (hd : decode c.code g.pc = .ok (.invokevirtual index, 3)) (hW : 2 * g.monitorRoom + (rest.map fun v => v.category).sum = W0) (hc : cells + kc ≤ R.cells) (hs : slots + ks ≤ R.slots)
    (k : ∀ v T' h' L, Stand p l e R s m args below meth c T' (locs ++ L) (cells + kc) (slots + ks) → T'.heap = h' → Q v h' L → W p e below F (T'.setTop { g with pc := g.pc + 3, stack := v.toList ++ rest })) : W p e below F (T.setTop g) := by
  obtain ⟨cq, kq, qa, qb, qc⟩ := isOf hZ eT E
  obtain ⟨v, _, ⟨T', L', k', n'⟩, -, X', ⟨L, hQ, e1, e2, e3⟩, st⟩ := X.virtualBack hx hown (mvT hZ w1) (mvT hZ w5) hnf (mvT hZ w6) (mvT hZ w2) hy hK qa qc hg hml (Steps.refl _) (argsL := argsL) (rest := rest) (fun sg q => by cases pd.symm.trans q; exact hlen) hst (Nat.le_of_eq hW) hd (fun _ _ => ⟨has, eT, hc, hs⟩)
  dsimp only [Pt.U, Pt.locs, Pt.cells, Pt.slots] at X' e1 e2 e3 hQ st
  subst e1 e2 e3
  exact W.via st (k v T' _ L X' rfl hQ)
/-- an instance method by its contract -/
theorem W.callV {C : String} (X : Stand p l e R s m args below meth c T locs cells slots) (hx : p.tables.exec = Jvm.exec) (hZ : Z.Warmed39 s.vm) (hown : s.vm.findClass own = some m.cls) (hml : g.locals.size = c.maxLocals)
    (w1 : (Jvm.Cond.methodLink own index y0).before a0 Z = true) (w5 : (Jvm.Cond.declares y0).before a0 Z = true) (w6 : (Jvm.Cond.selects C y0 y).before a0 Z = true) (w2 : (Jvm.Cond.instanceMethod y).before a0 Z = true) (w3 : (Jvm.Cond.initialized y.cls).before a0 Z = true) (w4 : (Jvm.Cond.code y bytes maxL ret).before a0 Z = true) (eT : T.heap = h)
    (hM : Ctr l Z y bytes maxL ret rm as' h Q) (hnf : NotFace s y0) (hy : y0.cls ≠ "java/lang/invoke/MethodHandle" ∧ y0.cls ≠ "java/lang/invoke/VarHandle") (pd : parseMethodDescriptor y0.desc = some sig) (hg : g.method = m) {b : Addr} (E : Exa Z h b C) (has : (Value.ref b :: argsL).toArray = as') (hlen : argsL.length = sig.parameters.length)
    (hst : g.stack = argsL.reverse ++ .ref b :: rest) (hd : decode c.code g.pc = .ok (.invokevirtual index, 3)) (hW : 2 * g.monitorRoom + (rest.map fun v => v.category).sum = W0) (hf : rm.frames + 1 ≤ R.frames) (hl : W0 + (maxL + 11) + rm.locals ≤ R.locals) (hc : cells + rm.cells ≤ R.cells) (hs : slots + rm.slots ≤ R.slots)
    (k : ∀ v T' h' L, Stand p l e R s m args below meth c T' (locs ++ L) (cells + rm.cells) (slots + rm.slots) → T'.heap = h' → Q v h' L → W p e below F (T'.setTop { g with pc := g.pc + 3, stack := v.toList ++ rest })) : W p e below F (T.setTop g) := by
  obtain ⟨cq, kq, qa, qb, qc⟩ := isOf hZ eT E
  obtain ⟨v, _, ⟨T', L', k', n'⟩, -, X', ⟨L, hQ, e1, e2, e3⟩, st⟩ := X.virtualBack hx hown (mvT hZ w1) (mvT hZ w5) hnf (mvT hZ w6) (mvT hZ w2) hy (hM.back hZ w4 w3 hf hl) qa qc hg hml (Steps.refl _) (argsL := argsL) (rest := rest) (fun sg q => by cases pd.symm.trans q; exact hlen) hst (Nat.le_of_eq hW) hd (fun _ _ => ⟨has, eT, hc, hs⟩)
  dsimp only [Pt.U, Pt.locs, Pt.cells, Pt.slots] at X' e1 e2 e3 hQ st
  subst e1 e2 e3
  exact W.via st (k v T' _ L X' rfl hQ)
/-- the same, the method declared further up -/
theorem W.callU {C owner : String} (X : Stand p l e R s m args below meth c T locs cells slots) (hx : p.tables.exec = Jvm.exec) (hZ : Z.Warmed39 s.vm) (hown : s.vm.findClass own = some m.cls) (hml : g.locals.size = c.maxLocals)
    (w1 : (Jvm.Cond.methodLink own index y0).before a0 Z = true) (w7 : (Jvm.Cond.sameMethod y0.cls owner y0.name y0.desc).before a0 Z = true) (w5 : (Jvm.Cond.declares ⟨owner, y0.name, y0.desc⟩).before a0 Z = true) (w6 : (Jvm.Cond.selects C y0 y).before a0 Z = true) (w2 : (Jvm.Cond.instanceMethod y).before a0 Z = true) (w3 : (Jvm.Cond.initialized y.cls).before a0 Z = true) (w4 : (Jvm.Cond.code y bytes maxL ret).before a0 Z = true) (eT : T.heap = h)
    (hM : Ctr l Z y bytes maxL ret rm as' h Q) (hy : owner ≠ "java/lang/invoke/MethodHandle" ∧ owner ≠ "java/lang/invoke/VarHandle") (pd : parseMethodDescriptor y0.desc = some sig) (hg : g.method = m) {b : Addr} (E : Exa Z h b C) (has : (Value.ref b :: argsL).toArray = as') (hlen : argsL.length = sig.parameters.length)
    (hst : g.stack = argsL.reverse ++ .ref b :: rest) (hd : decode c.code g.pc = .ok (.invokevirtual index, 3)) (hW : 2 * g.monitorRoom + (rest.map fun v => v.category).sum = W0) (hf : rm.frames + 1 ≤ R.frames) (hl : W0 + (maxL + 11) + rm.locals ≤ R.locals) (hc : cells + rm.cells ≤ R.cells) (hs : slots + rm.slots ≤ R.slots)
    (k : ∀ v T' h' L, Stand p l e R s m args below meth c T' (locs ++ L) (cells + rm.cells) (slots + rm.slots) → T'.heap = h' → Q v h' L → W p e below F (T'.setTop { g with pc := g.pc + 3, stack := v.toList ++ rest })) : W p e below F (T.setTop g) := by
  obtain ⟨cq, kq, qa, qb, qc⟩ := isOf hZ eT E
  obtain ⟨v, _, ⟨T', L', k', n'⟩, -, X', ⟨L, hQ, e1, e2, e3⟩, st⟩ := X.virtualBackUp hx hown (mvT hZ w1) (mvT hZ w7) (mvT hZ w5) hy (mvT hZ w6) (mvT hZ w2) (hM.back hZ w4 w3 hf hl) qa qc hg hml (Steps.refl _) (argsL := argsL) (rest := rest) (fun sg q => by cases pd.symm.trans q; exact hlen) hst (Nat.le_of_eq hW) hd (fun _ _ => ⟨has, eT, hc, hs⟩)
  dsimp only [Pt.U, Pt.locs, Pt.cells, Pt.slots] at X' e1 e2 e3 hQ st
  subst e1 e2 e3
  exact W.via st (k v T' _ L X' rfl hQ)
/-- a method that lands in a default of an interface -/
theorem W.callD {C owner : String} (X : Stand p l e R s m args below meth c T locs cells slots) (hx : p.tables.exec = Jvm.exec) (hZ : Z.Warmed39 s.vm) (hown : s.vm.findClass own = some m.cls) (hml : g.locals.size = c.maxLocals)
    (w1 : (Jvm.Cond.methodLink own index y0).before a0 Z = true) (w7 : (Jvm.Cond.sameMethod y0.cls owner y0.name y0.desc).before a0 Z = true) (w5 : (Jvm.Cond.declares ⟨owner, y0.name, y0.desc⟩).before a0 Z = true) (w6 : (Jvm.Cond.landsInDefault C y0 y).before a0 Z = true) (w2 : (Jvm.Cond.instanceMethod y).before a0 Z = true) (w3 : (Jvm.Cond.initialized y.cls).before a0 Z = true) (w4 : (Jvm.Cond.code y bytes maxL ret).before a0 Z = true) (eT : T.heap = h)
    (hM : Ctr l Z y bytes maxL ret rm as' h Q) (hy : owner ≠ "java/lang/invoke/MethodHandle" ∧ owner ≠ "java/lang/invoke/VarHandle") (pd : parseMethodDescriptor y0.desc = some sig) (hg : g.method = m) {b : Addr} (E : Exa Z h b C) (has : (Value.ref b :: argsL).toArray = as') (hlen : argsL.length = sig.parameters.length)
    (hst : g.stack = argsL.reverse ++ .ref b :: rest) (hd : decode c.code g.pc = .ok (.invokevirtual index, 3)) (hW : 2 * g.monitorRoom + (rest.map fun v => v.category).sum = W0) (hf : rm.frames + 1 ≤ R.frames) (hl : W0 + (maxL + 11) + rm.locals ≤ R.locals) (hc : cells + rm.cells ≤ R.cells) (hs : slots + rm.slots ≤ R.slots)
    (k : ∀ v T' h' L, Stand p l e R s m args below meth c T' (locs ++ L) (cells + rm.cells) (slots + rm.slots) → T'.heap = h' → Q v h' L → W p e below F (T'.setTop { g with pc := g.pc + 3, stack := v.toList ++ rest })) : W p e below F (T.setTop g) := by
  obtain ⟨cq, kq, qa, qb, qc⟩ := isOf hZ eT E
  obtain ⟨v, _, ⟨T', L', k', n'⟩, -, X', ⟨L, hQ, e1, e2, e3⟩, st⟩ := X.virtualBackUpD hx hown (mvT hZ w1) (mvT hZ w7) (mvT hZ w5) hy (mvD hZ w6) (mvT hZ w2) (hM.back hZ w4 w3 hf hl) qa qc hg hml (Steps.refl _) (argsL := argsL) (rest := rest) (fun sg q => by cases pd.symm.trans q; exact hlen) hst (Nat.le_of_eq hW) hd (fun _ _ => ⟨has, eT, hc, hs⟩)
  dsimp only [Pt.U, Pt.locs, Pt.cells, Pt.slots] at X' e1 e2 e3 hQ st
  subst e1 e2 e3
  exact W.via st (k v T' _ L X' rfl hQ)
/-- a call through an interface -/
theorem W.callF {C : String} {count : Nat} (X : Stand p l e R s m args below meth c T locs cells slots) (hx : p.tables.exec = Jvm.exec) (hZ : Z.Warmed39 s.vm) (hown : s.vm.findClass own = some m.cls) (hml : g.locals.size = c.maxLocals)
    (w1 : (Jvm.Cond.methodLink own index y0).before a0 Z = true) (w5 : (Jvm.Cond.declares y0).before a0 Z = true) (w7 : (Jvm.Cond.interfaceMethod y0.cls y0.cls y0.name y0.desc).before args s = true) (w6 : (Jvm.Cond.selects C y0 y).before a0 Z = true) (w2 : (Jvm.Cond.instanceMethod y).before a0 Z = true) (w8 : (Jvm.Cond.publicMethod y).before a0 Z = true) (w9 : (Jvm.Cond.unhidden C y0.name y0.desc).before a0 Z = true) (w10 : (Jvm.Cond.castable C y0.cls).before a0 Z = true) (w3 : (Jvm.Cond.initialized y.cls).before a0 Z = true) (w4 : (Jvm.Cond.code y bytes maxL ret).before a0 Z = true) (eT : T.heap = h)
    (hM : Ctr l Z y bytes maxL ret rm as' h Q) (hy : y0.cls ≠ "java/lang/invoke/MethodHandle" ∧ y0.cls ≠ "java/lang/invoke/VarHandle") (pd : parseMethodDescriptor y0.desc = some sig) (hg : g.method = m) {b : Addr} (E : Exa Z h b C) (has : (Value.ref b :: argsL).toArray = as') (hlen : argsL.length = sig.parameters.length)
    (hst : g.stack = argsL.reverse ++ .ref b :: rest) (hd : decode c.code g.pc = .ok (.invokeinterface index count, 5)) (hW : 2 * g.monitorRoom + (rest.map fun v => v.category).sum = W0) (hf : rm.frames + 1 ≤ R.frames) (hl : W0 + (maxL + 11) + rm.locals ≤ R.locals) (hc : cells + rm.cells ≤ R.cells) (hs : slots + rm.slots ≤ R.slots)
    (k : ∀ v T' h' L, Stand p l e R s m args below meth c T' (locs ++ L) (cells + rm.cells) (slots + rm.slots) → T'.heap = h' → Q v h' L → W p e below F (T'.setTop { g with pc := g.pc + 5, stack := v.toList ++ rest })) : W p e below F (T.setTop g) := by
  obtain ⟨cq, kq, qa, qb, qc⟩ := isOf hZ eT E
  obtain ⟨v, _, ⟨T', L', k', n'⟩, -, X', ⟨L, hQ, e1, e2, e3⟩, st⟩ := X.interfaceBack hx hown (mvT hZ w1) (mvT hZ w5) w7 (mvT hZ w6) (mvT hZ w2) (mvT hZ w8) (mvT hZ w9) (mvT hZ w10) hy (hM.back hZ w4 w3 hf hl) qa qb qc hg hml (Steps.refl _) (argsL := argsL) (rest := rest) (fun sg q => by cases pd.symm.trans q; exact hlen) hst (Nat.le_of_eq hW) hd (fun _ _ => ⟨has, eT, hc, hs⟩)
  dsimp only [Pt.U, Pt.locs, Pt.cells, Pt.slots] at X' e1 e2 e3 hQ st
  subst e1 e2 e3
  exact W.via st (k v T' _ L X' rfl hQ)
/-- super.m(..) -/
theorem W.callSup {K : String} (X : Stand p l e R s m args below meth c T locs cells slots) (hx : p.tables.exec = Jvm.exec) (hZ : Z.Warmed39 s.vm) (hown : s.vm.findClass own = some m.cls) (hml : g.locals.size = c.maxLocals)
    (w1 : (Jvm.Cond.methodLink own index y).before a0 Z = true) (w5 : (Jvm.Cond.sameMethod y.cls y.cls y.name y.desc).before a0 Z = true) (w2 : (Jvm.Cond.instanceMethod y).before a0 Z = true) (w6 : (Jvm.Cond.superclass own y.cls).before a0 Z = true) (w3 : (Jvm.Cond.initialized y.cls).before a0 Z = true) (w4 : (Jvm.Cond.code y bytes maxL ret).before a0 Z = true) (eT : T.heap = h)
    (hM : Ctr l Z y bytes maxL ret rm as' h Q) (hn : y.name ≠ "<init>") (pd : parseMethodDescriptor y.desc = some sig) (hg : g.method = m) {b : Addr} (E : Exa Z h b K) (has : (Value.ref b :: argsL).toArray = as') (hlen : argsL.length = sig.parameters.length)
    (hst : g.stack = argsL.reverse ++ .ref b :: rest) (hd : decode c.code g.pc = .ok (.invokespecial index, 3)) (hW : 2 * g.monitorRoom + (rest.map fun v => v.category).sum = W0) (hf : rm.frames + 1 ≤ R.frames) (hl : W0 + (maxL + 11) + rm.locals ≤ R.locals) (hc : cells + rm.cells ≤ R.cells) (hs : slots + rm.slots ≤ R.slots)
    (k : ∀ v T' h' L, Stand p l e R s m args below meth c T' (locs ++ L) (cells + rm.cells) (slots + rm.slots) → T'.heap = h' → Q v h' L → W p e below F (T'.setTop { g with pc := g.pc + 3, stack := v.toList ++ rest })) : W p e below F (T.setTop g) := by
  obtain ⟨v, _, ⟨T', L', k', n'⟩, -, X', ⟨L, hQ, e1, e2, e3⟩, st⟩ := superBack X hx hZ hown w1 w5 w2 w6 hn (hM.back hZ w4 w3 hf hl) eT (Ins.self E) hg hml w4 (argsL := argsL) (rest := rest) (fun sg q => by cases pd.symm.trans q; exact hlen) hst (Nat.le_of_eq hW) hd (fun _ _ => ⟨has, eT, hc, hs⟩)
  dsimp only [Pt.U, Pt.locs, Pt.cells, Pt.slots] at X' e1 e2 e3 hQ st
  subst e1 e2 e3
  exact W.via st (k v T' _ L X' rfl hQ)
theorem nfOf {C : String} {x z : MethodName} (w6 : (Jvm.Cond.selects C x z).before args s = true) (hz : z.cls = y.cls) : NotFace s y := fun r0 h0 => by
  obtain ⟨c1, r1, m1, -, -, hm, -, kP, hkP, hni⟩ := Cond.selects_spec w6
  have hc := findClass_of_methodNamed h0
  have hc2 := findClass_of_methodNamed hm
  rw [hz] at hc2
  have q : r0.cls = m1.cls := Option.some.inj (hc.symm.trans hc2)
  exact ⟨kP, by rw [q]; exact hkP, hni⟩
/-- a class that declares a method finds it; that she is no interface is read off a 'selects' word that ends in her -/
theorem sameDecl {C : String} {x z : MethodName} (w5 : (Jvm.Cond.declares y).before a0 Z = true) (w6 : (Jvm.Cond.selects C x z).before a0 Z = true) (hz : z.cls = y.cls) (hy : y.cls ≠ "java/lang/invoke/MethodHandle" ∧ y.cls ≠ "java/lang/invoke/VarHandle") : (Jvm.Cond.sameMethod y.cls y.cls y.name y.desc).before a0 Z = true := by
  obtain ⟨r0, r, hn, hrm, -, -⟩ := Cond.declares_spec w5
  have hf : Z.methodFound? y.cls y.name y.desc = some r0 := State.methodFound?_of_named hn hy
  have hc := findClass_of_methodNamed hn
  obtain ⟨c1, r1, m1, -, -, hm, -, kP, hkP, hni⟩ := Cond.selects_spec w6
  have hc2 := findClass_of_methodNamed hm
  rw [hz] at hc2
  have q : r0.cls = m1.cls := Option.some.inj (hc.symm.trans hc2)
  have hn' : Z.methodNamed? ⟨y.cls, y.name, y.desc⟩ = some r0 := hn
  have hk : Z.vm.classes[r0.cls]? = some kP := by rw [q]; exact hkP
  simp [Jvm.Cond.before, Jvm.Cond.holds, Jvm.Cond.value, hc, hf, hn', hk, hni]
/-- a private method by its contract -/
theorem W.callP {cell : Cell} {n : Nat} (X : Stand p l e R s m args below meth c T locs cells slots) (hx : p.tables.exec = Jvm.exec) (hZ : Z.Warmed39 s.vm) (hown : s.vm.findClass own = some m.cls) (hml : g.locals.size = c.maxLocals)
    (w1 : (Jvm.Cond.methodLink own index y).before a0 Z = true) (w5 : (Jvm.Cond.privateMethod y).before a0 Z = true) (w6 : (Jvm.Cond.selects y.cls y y).before args s = true) (w2 : (Jvm.Cond.instanceMethod y).before a0 Z = true) (w3 : (Jvm.Cond.initialized y.cls).before a0 Z = true) (w4 : (Jvm.Cond.code y bytes maxL ret).before a0 Z = true) (eT : T.heap = h)
    (hM : Ctr l Z y bytes maxL ret rm as' h Q) (hy : y.cls ≠ "java/lang/invoke/MethodHandle" ∧ y.cls ≠ "java/lang/invoke/VarHandle") (pd : parseMethodDescriptor y.desc = some sig) (hg : g.method = m) {b : Addr} {C : String} (E : Exa Z h b C) (has : (Value.ref b :: argsL).toArray = as') (hlen : argsL.length = sig.parameters.length)
    (hst : g.stack = argsL.reverse ++ .ref b :: rest) (hd : decode c.code g.pc = .ok (.invokevirtual index, 3)) (hW : 2 * g.monitorRoom + (rest.map fun v => v.category).sum = W0) (hf : rm.frames + 1 ≤ R.frames) (hl : W0 + (maxL + 11) + rm.locals ≤ R.locals) (hc : cells + rm.cells ≤ R.cells) (hs : slots + rm.slots ≤ R.slots)
    (k : ∀ v T' h' L, Stand p l e R s m args below meth c T' (locs ++ L) (cells + rm.cells) (slots + rm.slots) → T'.heap = h' → Q v h' L → W p e below F (T'.setTop { g with pc := g.pc + 3, stack := v.toList ++ rest })) : W p e below F (T.setTop g) := by
  obtain ⟨cq, q1, q2⟩ := E.cell
  obtain ⟨v, _, ⟨T', L', k', n'⟩, -, X', ⟨L, hQ, e1, e2, e3⟩, st⟩ := X.privateBack hx hown (mvT hZ w1) (mvT hZ w2) w6 (Cond.privateMethod_at (mvP hZ w5 (args := #[]))) (mvT hZ w4) hy (hM.back hZ w4 w3 hf hl) hg hml (Steps.refl _) (a := b) (by rw [eT]; exact q1) q2 (argsL := argsL) (rest := rest) (fun sg q => by cases pd.symm.trans q; exact hlen) hst (Nat.le_of_eq hW) hd (fun _ _ => ⟨has, eT, hc, hs⟩)
  dsimp only [Pt.U, Pt.locs, Pt.cells, Pt.slots] at X' e1 e2 e3 hQ st
  subst e1 e2 e3
  exact W.via st (k v T' _ L X' rfl hQ)
/-- 'selects' of a private method -/
theorem selPriv {n : Nat} (hZ : Z.Warmed39 s.vm) (wi : (Jvm.Cond.instantiable y.cls n).before a0 Z = true) (w5 : (Jvm.Cond.privateMethod y).before a0 Z = true) (w2 : (Jvm.Cond.instanceMethod y).before a0 Z = true) (hy : y.cls ≠ "java/lang/invoke/MethodHandle" ∧ y.cls ≠ "java/lang/invoke/VarHandle") : (Jvm.Cond.selects y.cls y y).before args s = true := by
  obtain ⟨c2, k2, i1, i2, -, i4, -⟩ := Cond.instantiable_spec (mvT (args := args) hZ wi)
  exact selects_self_of_private i1 i2 (Bool.or_eq_false_iff.mp i4).1 (Cond.privateMethod_at (mvP hZ w5 (args := #[]))) (mvT hZ w2) hy
end Calls
theorem Sta.keep {h' : Heap} {C n d : String} {v : Value} {ws : List Addr} (F : Sta Z h C n d v) (K : Keep h h' ws) (hw : ∀ x ∈ ws, ∀ cell : Cell, h[x]? = some cell → cell.vm.isStatics = false) : Sta Z h' C n d v := by
  obtain ⟨cf, i, k, f, st, cell, h1, h2, h3, h4, h5, h6, h7⟩ := F
  refine ⟨cf, i, k, f, st, cell, h1, h2, h3, h4, K.2.1 st cell h5 fun hm => ?_, h6, h7⟩
  rw [hw st hm cell h5] at h6; cases h6
theorem eqI_v {t : Term} {k : Int32} {first : State} {o : Option Outcome} {idx : List Nat} (hk : (Jvm.Cond.eq t (.int k)).value args first o s idx = some true) : t.eval args first o idx s = some (.int k) := by
  simp only [Jvm.Cond.value, Term.eval] at hk
  cases ht : t.eval args first o idx s with
  | none => simp [ht] at hk
  | some x => cases x <;> simp [ht] at hk ⊢; exact hk
theorem lenI_v {t : Term} {a : Addr} {cl : Cell} {ty : FieldType} {k : Int32} (A : Arr s s.heap a cl ty) (ev : t.eval args s none [] s = some (.ref a)) (hk : (Jvm.Cond.eq (.length t) (.int k)).value args s none s [] = some true) : cl.slots.size < 2 ^ 31 ∧ cl.slots.size.toInt32 = k := by
  have q := eqI_v hk
  have r : s.arrayAt? a = some cl := A.fin (Vm.Alike.refl _)
  simp only [Term.eval, ev, r, Option.bind_eq_bind, Option.bind_some] at q
  split at q
  · rename_i z; cases q; exact ⟨z, rfl⟩
  · cases q
theorem rngM (x n : Int32) (hn : 0 < n.toInt) : 0 ≤ ((x &&& 2147483647) % n).toInt ∧ ((x &&& 2147483647) % n).toInt < n.toInt := by
  have q := c_mask x 2147483647 31 (by decide) (by decide)
  have q0 : 0 ≤ (x &&& 2147483647).toInt := by rw [q]; exact Int.emod_nonneg _ (by decide)
  have r := (c_iremV (x &&& 2147483647) n).1 q0 hn
  exact ⟨r.1, r.2.1⟩
end Own
end Jvm.OwnKit
namespace Jvm.Pilot.@@N@@
open Jvm Jvm.ClassFile Sem Op Lib Jvm.Free Jvm.Stand Jvm.LawKit Jvm.RoadKit Bundle Jvm.OwnKit Jvm.Pilot.@@N@@.Jvm.D
theorem d2_0 : decode jdk_37_method_2_code 0 = .ok (.aload_n 0, 1) := by decide +kernel
theorem d2_1 : decode jdk_37_method_2_code 1 = .ok (.getfield 7, 3) := by decide +kernel
theorem d2_4 : decode jdk_37_method_2_code 4 = .ok (.ireturn, 1) := by decide +kernel
theorem pn_java_lang_Enum : plainName "java/lang/Enum" = true := by first | (simp [plainName, overriddenIn]; done) | decide +kernel
def Q_rm2 (Z : State) (r0 : Addr) (k : Int32) (h0 : Heap) (n0 : Nat) (v : Option Value) (h : Heap) (L : List Loc) : Prop := v = some (.int k) ∧ Fr n0 L ∧ h = h0
set_option maxRecDepth 65536 in
set_option maxHeartbeats 40000000 in
theorem rm2 (l : Launch) (Z : State) (a0 : Array Value) (hw : ∀ d ∈ tables_1, d.before a0 Z = true) (r0 : Addr) (k : Int32) (h0 : Heap) (n0 : Nat) (Z0 : n0 ≤ h0.size) (F_ordinal_r0 : Fld Z h0 r0 "java/lang/Enum" "ordinal" "I" (.int k)) :
    Ctr l Z (⟨"java/lang/Enum", "ordinal", "()I"⟩ : MethodName) jdk_37_method_2_code 1 (some .int) ({ frames := 0, cells := 0, slots := 0, locals := 0 } : Room) #[(.ref r0)] h0 (Q_rm2 Z r0 k h0 n0) := by
  refine Ctr.body (fr := fun m => mkF m 0 #[.val (.ref r0)] []) (plainFor_of_name pn_java_lang_Enum) (fun m => by first | (simp [entryFrame, mkF, argsToLocals, Value.category]; done) | rfl) fun p e s m below meth c s₁ hx hby hml hZ hown hnm hret hlk X0 e0 => ?_
  have N0 := Fr.nil n0
  have hown : s.vm.findClass "java/lang/Enum" = some m.cls := hown
  show W p e below _ (s₁.setTop (mkF m 0 #[.val (.ref r0)] []))
  refine W.go (fun _ hr => XS.aloadN X0.here hx rfl (hb hby d2_0) rfl rfl hr) ?_
  show W p e below _ (s₁.setTop (mkF m 1 #[.val (.ref r0)] [(.ref r0)]))
  obtain ⟨T1, X1, e1, st1⟩ := getF X0 hx hZ hown (host := "") (Or.inl (hw _ (List.mem_of_getElem? (i := 16) rfl))) Via.refl e0 F_ordinal_r0 (g := (mkF m 1 #[.val (.ref r0)] [(.ref r0)])) rfl rfl (hb hby d2_1)
  refine W.go st1 ?_
  show W p e below _ (T1.setTop (mkF m 4 #[.val (.ref r0)] [(.int k)]))
  exact W.retI X1 hx hlk hret (hb hby d2_4) (by decide) (by decide) e1 ⟨rfl, N0, rfl⟩
def own_holds (k p : Int32) : Int32 := if k = 0 then (if p = 0 then 1 else 0) else if k = 1 then (if p = 0 then 0 else 1) else if k = 2 then (if p < 0 then 1 else 0) else if k = 3 then (if 0 < p then 0 else 1) else if k = 4 then (if 0 < p then 1 else 0) else (if p < 0 then 0 else 1)
theorem d1_0 : decode prog_20_method_5_code 0 = .ok (.aload_n 0, 1) := by decide +kernel
theorem d1_1 : decode prog_20_method_5_code 1 = .ok (.invokevirtual 55, 3) := by decide +kernel
theorem pd_6 : parseMethodDescriptor "()I" = some ⟨[], some .int⟩ := by decide +kernel
theorem d1_4 : decode prog_20_method_5_code 4 = .ok (.tableswitch 100 0 5 #[40, 50, 60, 70, 80, 90], 40) := by decide +kernel
theorem d1_44 : decode prog_20_method_5_code 44 = .ok (.iload_n 1, 1) := by decide +kernel
theorem d1_45 : decode prog_20_method_5_code 45 = .ok (.ifCond .ne 7, 3) := by decide +kernel
theorem d1_48 : decode prog_20_method_5_code 48 = .ok (.iconst 1, 1) := by decide +kernel
theorem d1_49 : decode prog_20_method_5_code 49 = .ok (.goto 4, 3) := by decide +kernel
theorem d1_53 : decode prog_20_method_5_code 53 = .ok (.ireturn, 1) := by decide +kernel
theorem d1_52 : decode prog_20_method_5_code 52 = .ok (.iconst 0, 1) := by decide +kernel
theorem d1_54 : decode prog_20_method_5_code 54 = .ok (.iload_n 1, 1) := by decide +kernel
theorem d1_55 : decode prog_20_method_5_code 55 = .ok (.ifCond .eq 7, 3) := by decide +kernel
theorem d1_62 : decode prog_20_method_5_code 62 = .ok (.iconst 0, 1) := by decide +kernel
theorem d1_63 : decode prog_20_method_5_code 63 = .ok (.ireturn, 1) := by decide +kernel
theorem d1_58 : decode prog_20_method_5_code 58 = .ok (.iconst 1, 1) := by decide +kernel
theorem d1_59 : decode prog_20_method_5_code 59 = .ok (.goto 4, 3) := by decide +kernel
theorem d1_64 : decode prog_20_method_5_code 64 = .ok (.iload_n 1, 1) := by decide +kernel
theorem d1_65 : decode prog_20_method_5_code 65 = .ok (.ifCond .ge 7, 3) := by decide +kernel
theorem d1_68 : decode prog_20_method_5_code 68 = .ok (.iconst 1, 1) := by decide +kernel
theorem d1_69 : decode prog_20_method_5_code 69 = .ok (.goto 4, 3) := by decide +kernel
theorem d1_73 : decode prog_20_method_5_code 73 = .ok (.ireturn, 1) := by decide +kernel
theorem d1_72 : decode prog_20_method_5_code 72 = .ok (.iconst 0, 1) := by decide +kernel
theorem d1_74 : decode prog_20_method_5_code 74 = .ok (.iload_n 1, 1) := by decide +kernel
theorem d1_75 : decode prog_20_method_5_code 75 = .ok (.ifCond .gt 7, 3) := by decide +kernel
theorem d1_82 : decode prog_20_method_5_code 82 = .ok (.iconst 0, 1) := by decide +kernel
theorem d1_83 : decode prog_20_method_5_code 83 = .ok (.ireturn, 1) := by decide +kernel
theorem d1_78 : decode prog_20_method_5_code 78 = .ok (.iconst 1, 1) := by decide +kernel
theorem d1_79 : decode prog_20_method_5_code 79 = .ok (.goto 4, 3) := by decide +kernel
theorem d1_84 : decode prog_20_method_5_code 84 = .ok (.iload_n 1, 1) := by decide +kernel
theorem d1_85 : decode prog_20_method_5_code 85 = .ok (.ifCond .le 7, 3) := by decide +kernel
theorem d1_88 : decode prog_20_method_5_code 88 = .ok (.iconst 1, 1) := by decide +kernel
theorem d1_89 : decode prog_20_method_5_code 89 = .ok (.goto 4, 3) := by decide +kernel
theorem d1_93 : decode prog_20_method_5_code 93 = .ok (.ireturn, 1) := by decide +kernel
theorem d1_92 : decode prog_20_method_5_code 92 = .ok (.iconst 0, 1) := by decide +kernel
theorem d1_94 : decode prog_20_method_5_code 94 = .ok (.iload_n 1, 1) := by decide +kernel
theorem d1_95 : decode prog_20_method_5_code 95 = .ok (.ifCond .lt 7, 3) := by decide +kernel
theorem d1_102 : decode prog_20_method_5_code 102 = .ok (.iconst 0, 1) := by decide +kernel
theorem d1_103 : decode prog_20_method_5_code 103 = .ok (.ireturn, 1) := by decide +kernel
theorem d1_98 : decode prog_20_method_5_code 98 = .ok (.iconst 1, 1) := by decide +kernel
theorem d1_99 : decode prog_20_method_5_code 99 = .ok (.goto 4, 3) := by decide +kernel
theorem pn_com_example_millrace_millrace_Condition_Operator : plainName "com/example/millrace/millrace/Condition$Operator" = true := by first | (simp [plainName, overriddenIn]; done) | decide +kernel
def Q_rm1 (Z : State) (r0 : Addr) (p1 : Int32) (k : Int32) (z : Int32) (h0 : Heap) (n0 : Nat) (v : Option Value) (h : Heap) (L : List Loc) : Prop := v = some (.int z) ∧ Fr n0 L ∧ h = h0
set_option maxRecDepth 65536 in
set_option maxHeartbeats 40000000 in
theorem rm1 (l : Launch) (Z : State) (a0 : Array Value) (hw : ∀ d ∈ tables_1, d.before a0 Z = true) (r0 : Addr) (p1 : Int32) (k : Int32) (z : Int32) (h0 : Heap) (n0 : Nat) (Z0 : n0 ≤ h0.size) (E_r0 : Exa Z h0 r0 "com/example/millrace/millrace/Condition$Operator") (F_ordinal_r0 : Fld Z h0 r0 "java/lang/Enum" "ordinal" "I" (.int k)) (hk : k = 0 ∨ k = 1 ∨ k = 2 ∨ k = 3 ∨ k = 4 ∨ k = 5) (hz : z = own_holds k p1) :
    Ctr l Z (⟨"com/example/millrace/millrace/Condition$Operator", "holds", "(I)Z"⟩ : MethodName) prog_20_method_5_code 2 (some .boolean) ({ frames := 1, cells := 0, slots := 0, locals := 12 } : Room) #[(.ref r0), (.int p1)] h0 (Q_rm1 Z r0 p1 k z h0 n0) := by
  refine Ctr.body (fr := fun m => mkF m 0 #[.val (.ref r0), .val (.int p1)] []) (plainFor_of_name pn_com_example_millrace_millrace_Condition_Operator) (fun m => by first | (simp [entryFrame, mkF, argsToLocals, Value.category]; done) | rfl) fun p e s m below meth c s₁ hx hby hml hZ hown hnm hret hlk X0 e0 => ?_
  have N0 := Fr.nil n0
  have hown : s.vm.findClass "com/example/millrace/millrace/Condition$Operator" = some m.cls := hown
  show W p e below _ (s₁.setTop (mkF m 0 #[.val (.ref r0), .val (.int p1)] []))
  refine W.go (fun _ hr => XS.aloadN X0.here hx rfl (hb hby d1_0) rfl rfl hr) ?_
  show W p e below _ (s₁.setTop (mkF m 1 #[.val (.ref r0), .val (.int p1)] [(.ref r0)]))
  refine W.callU X0 hx hZ hown (g := (mkF m 1 #[.val (.ref r0), .val (.int p1)] [(.ref r0)])) (by rw [hml]; rfl) (hw _ (List.mem_of_getElem? (i := 9) rfl)) (hw _ (List.mem_of_getElem? (i := 10) rfl)) (hw _ (List.mem_of_getElem? (i := 11) rfl)) (hw _ (List.mem_of_getElem? (i := 13) rfl)) (hw _ (List.mem_of_getElem? (i := 12) rfl)) (hw _ (List.mem_of_getElem? (i := 14) rfl)) (hw _ (List.mem_of_getElem? (i := 15) rfl)) e0 (rm2 l Z a0 hw r0 k h0 n0 Z0 F_ordinal_r0) (by decide) pd_6 rfl E_r0 (argsL := []) (rest := []) rfl rfl rfl (hb hby d1_1) (W0 := 0) rfl (by decide) (by decide) (by decide) (by decide) (fun v1 T1 h1 L1 X1 e1 hQ1 => ?_)
  obtain ⟨rfl, N1q, hh1⟩ := hQ1
  obtain rfl := hh1.symm
  have N1 := Fr.app N0 N1q
  show W p e below _ (T1.setTop (mkF m 4 #[.val (.ref r0), .val (.int p1)] [(.int k)]))
  rcases hk with rfl | rfl | rfl | rfl | rfl | rfl
  · refine W.go (fun _ hr => XS.tswIn X1.here hx rfl (pc0 := 4) (pc' := 44) (o := 40) rfl (hb hby d1_4) rfl (by decide) (by decide) (by decide) (by decide) hr) ?_
    show W p e below _ (T1.setTop (mkF m 44 #[.val (.ref r0), .val (.int p1)] []))
    refine W.go (fun _ hr => XS.iloadN X1.here hx rfl (hb hby d1_44) rfl hr) ?_
    show W p e below _ (T1.setTop (mkF m 45 #[.val (.ref r0), .val (.int p1)] [(.int p1)]))
    by_cases hc45_2 : p1 = (0 : Int32)
    · refine W.go (fun _ hr => XS.ifNo X1.here hx rfl (hb hby d1_45) rfl ((if0 _ _).trans (teq hc45_2).2) hr) ?_
      show W p e below _ (T1.setTop (mkF m 48 #[.val (.ref r0), .val (.int p1)] []))
      refine W.go (fun _ hr => XS.iconst X1.here hx rfl (hb hby d1_48) hr) ?_
      show W p e below _ (T1.setTop (mkF m 49 #[.val (.ref r0), .val (.int p1)] [(.int (1 : Int32))]))
      refine W.go (fun _ hr => XS.goto X1.here hx rfl (pc0 := 49) (pc' := 53) rfl (hb hby d1_49) (by decide) (by decide) hr) ?_
      show W p e below _ (T1.setTop (mkF m 53 #[.val (.ref r0), .val (.int p1)] [(.int (1 : Int32))]))
      exact W.retB X1 hx hlk (t := .boolean) hret (by simp) (hb hby d1_53) (by decide) (by decide) e1 ⟨by simp [hz, own_holds, nar, *], N1, rfl⟩
    · refine W.go (fun _ hr => XS.ifYes X1.here hx rfl (pc0 := 45) (pc' := 52) rfl (hb hby d1_45) rfl ((if0 _ _).trans (feq hc45_2).2) (by decide) (by decide) hr) ?_
      show W p e below _ (T1.setTop (mkF m 52 #[.val (.ref r0), .val (.int p1)] []))
      refine W.go (fun _ hr => XS.iconst X1.here hx rfl (hb hby d1_52) hr) ?_
      show W p e below _ (T1.setTop (mkF m 53 #[.val (.ref r0), .val (.int p1)] [(.int (0 : Int32))]))
      exact W.retB X1 hx hlk (t := .boolean) hret (by simp) (hb hby d1_53) (by decide) (by decide) e1 ⟨by simp [hz, own_holds, nar, *], N1, rfl⟩
  · refine W.go (fun _ hr => XS.tswIn X1.here hx rfl (pc0 := 4) (pc' := 54) (o := 50) rfl (hb hby d1_4) rfl (by decide) (by decide) (by decide) (by decide) hr) ?_
    show W p e below _ (T1.setTop (mkF m 54 #[.val (.ref r0), .val (.int p1)] []))
    refine W.go (fun _ hr => XS.iloadN X1.here hx rfl (hb hby d1_54) rfl hr) ?_
    show W p e below _ (T1.setTop (mkF m 55 #[.val (.ref r0), .val (.int p1)] [(.int p1)]))
    by_cases hc55_3 : p1 = (0 : Int32)
    · refine W.go (fun _ hr => XS.ifYes X1.here hx rfl (pc0 := 55) (pc' := 62) rfl (hb hby d1_55) rfl ((if0 _ _).trans (teq hc55_3).1) (by decide) (by decide) hr) ?_
      show W p e below _ (T1.setTop (mkF m 62 #[.val (.ref r0), .val (.int p1)] []))
      refine W.go (fun _ hr => XS.iconst X1.here hx rfl (hb hby d1_62) hr) ?_
      show W p e below _ (T1.setTop (mkF m 63 #[.val (.ref r0), .val (.int p1)] [(.int (0 : Int32))]))
      exact W.retB X1 hx hlk (t := .boolean) hret (by simp) (hb hby d1_63) (by decide) (by decide) e1 ⟨by simp [hz, own_holds, nar, *], N1, rfl⟩
    · refine W.go (fun _ hr => XS.ifNo X1.here hx rfl (hb hby d1_55) rfl ((if0 _ _).trans (feq hc55_3).1) hr) ?_
      show W p e below _ (T1.setTop (mkF m 58 #[.val (.ref r0), .val (.int p1)] []))
      refine W.go (fun _ hr => XS.iconst X1.here hx rfl (hb hby d1_58) hr) ?_
      show W p e below _ (T1.setTop (mkF m 59 #[.val (.ref r0), .val (.int p1)] [(.int (1 : Int32))]))
      refine W.go (fun _ hr => XS.goto X1.here hx rfl (pc0 := 59) (pc' := 63) rfl (hb hby d1_59) (by decide) (by decide) hr) ?_
      show W p e below _ (T1.setTop (mkF m 63 #[.val (.ref r0), .val (.int p1)] [(.int (1 : Int32))]))
      exact W.retB X1 hx hlk (t := .boolean) hret (by simp) (hb hby d1_63) (by decide) (by decide) e1 ⟨by simp [hz, own_holds, nar, *], N1, rfl⟩
  · refine W.go (fun _ hr => XS.tswIn X1.here hx rfl (pc0 := 4) (pc' := 64) (o := 60) rfl (hb hby d1_4) rfl (by decide) (by decide) (by decide) (by decide) hr) ?_
    show W p e below _ (T1.setTop (mkF m 64 #[.val (.ref r0), .val (.int p1)] []))
    refine W.go (fun _ hr => XS.iloadN X1.here hx rfl (hb hby d1_64) rfl hr) ?_
    show W p e below _ (T1.setTop (mkF m 65 #[.val (.ref r0), .val (.int p1)] [(.int p1)]))
    by_cases hc65_4 : p1 < (0 : Int32)
    · refine W.go (fun _ hr => XS.ifNo X1.here hx rfl (hb hby d1_65) rfl ((if0 _ _).trans (tlt hc65_4).2.1) hr) ?_
      show W p e below _ (T1.setTop (mkF m 68 #[.val (.ref r0), .val (.int p1)] []))
      refine W.go (fun _ hr => XS.iconst X1.here hx rfl (hb hby d1_68) hr) ?_
      show W p e below _ (T1.setTop (mkF m 69 #[.val (.ref r0), .val (.int p1)] [(.int (1 : Int32))]))
      refine W.go (fun _ hr => XS.goto X1.here hx rfl (pc0 := 69) (pc' := 73) rfl (hb hby d1_69) (by decide) (by decide) hr) ?_
      show W p e below _ (T1.setTop (mkF m 73 #[.val (.ref r0), .val (.int p1)] [(.int (1 : Int32))]))
      exact W.retB X1 hx hlk (t := .boolean) hret (by simp) (hb hby d1_73) (by decide) (by decide) e1 ⟨by simp [hz, own_holds, nar, *], N1, rfl⟩
    · refine W.go (fun _ hr => XS.ifYes X1.here hx rfl (pc0 := 65) (pc' := 72) rfl (hb hby d1_65) rfl ((if0 _ _).trans (flt hc65_4).2.1) (by decide) (by decide) hr) ?_
      show W p e below _ (T1.setTop (mkF m 72 #[.val (.ref r0), .val (.int p1)] []))
      refine W.go (fun _ hr => XS.iconst X1.here hx rfl (hb hby d1_72) hr) ?_
      show W p e below _ (T1.setTop (mkF m 73 #[.val (.ref r0), .val (.int p1)] [(.int (0 : Int32))]))
      exact W.retB X1 hx hlk (t := .boolean) hret (by simp) (hb hby d1_73) (by decide) (by decide) e1 ⟨by simp [hz, own_holds, nar, *], N1, rfl⟩
  · refine W.go (fun _ hr => XS.tswIn X1.here hx rfl (pc0 := 4) (pc' := 74) (o := 70) rfl (hb hby d1_4) rfl (by decide) (by decide) (by decide) (by decide) hr) ?_
    show W p e below _ (T1.setTop (mkF m 74 #[.val (.ref r0), .val (.int p1)] []))
    refine W.go (fun _ hr => XS.iloadN X1.here hx rfl (hb hby d1_74) rfl hr) ?_
    show W p e below _ (T1.setTop (mkF m 75 #[.val (.ref r0), .val (.int p1)] [(.int p1)]))
    by_cases hc75_5 : (0 : Int32) < p1
    · refine W.go (fun _ hr => XS.ifYes X1.here hx rfl (pc0 := 75) (pc' := 82) rfl (hb hby d1_75) rfl ((if0 _ _).trans (tlt hc75_5).2.2.1) (by decide) (by decide) hr) ?_
      show W p e below _ (T1.setTop (mkF m 82 #[.val (.ref r0), .val (.int p1)] []))
      refine W.go (fun _ hr => XS.iconst X1.here hx rfl (hb hby d1_82) hr) ?_
      show W p e below _ (T1.setTop (mkF m 83 #[.val (.ref r0), .val (.int p1)] [(.int (0 : Int32))]))
      exact W.retB X1 hx hlk (t := .boolean) hret (by simp) (hb hby d1_83) (by decide) (by decide) e1 ⟨by simp [hz, own_holds, nar, *], N1, rfl⟩
    · refine W.go (fun _ hr => XS.ifNo X1.here hx rfl (hb hby d1_75) rfl ((if0 _ _).trans (flt hc75_5).2.2.1) hr) ?_
      show W p e below _ (T1.setTop (mkF m 78 #[.val (.ref r0), .val (.int p1)] []))
      refine W.go (fun _ hr => XS.iconst X1.here hx rfl (hb hby d1_78) hr) ?_
      show W p e below _ (T1.setTop (mkF m 79 #[.val (.ref r0), .val (.int p1)] [(.int (1 : Int32))]))
      refine W.go (fun _ hr => XS.goto X1.here hx rfl (pc0 := 79) (pc' := 83) rfl (hb hby d1_79) (by decide) (by decide) hr) ?_
      show W p e below _ (T1.setTop (mkF m 83 #[.val (.ref r0), .val (.int p1)] [(.int (1 : Int32))]))
      exact W.retB X1 hx hlk (t := .boolean) hret (by simp) (hb hby d1_83) (by decide) (by decide) e1 ⟨by simp [hz, own_holds, nar, *], N1, rfl⟩
  · refine W.go (fun _ hr => XS.tswIn X1.here hx rfl (pc0 := 4) (pc' := 84) (o := 80) rfl (hb hby d1_4) rfl (by decide) (by decide) (by decide) (by decide) hr) ?_
    show W p e below _ (T1.setTop (mkF m 84 #[.val (.ref r0), .val (.int p1)] []))
    refine W.go (fun _ hr => XS.iloadN X1.here hx rfl (hb hby d1_84) rfl hr) ?_
    show W p e below _ (T1.setTop (mkF m 85 #[.val (.ref r0), .val (.int p1)] [(.int p1)]))
    by_cases hc85_6 : (0 : Int32) < p1
    · refine W.go (fun _ hr => XS.ifNo X1.here hx rfl (hb hby d1_85) rfl ((if0 _ _).trans (tlt hc85_6).2.2.2) hr) ?_
      show W p e below _ (T1.setTop (mkF m 88 #[.val (.ref r0), .val (.int p1)] []))
      refine W.go (fun _ hr => XS.iconst X1.here hx rfl (hb hby d1_88) hr) ?_
      show W p e below _ (T1.setTop (mkF m 89 #[.val (.ref r0), .val (.int p1)] [(.int (1 : Int32))]))
      refine W.go (fun _ hr => XS.goto X1.here hx rfl (pc0 := 89) (pc' := 93) rfl (hb hby d1_89) (by decide) (by decide) hr) ?_
      show W p e below _ (T1.setTop (mkF m 93 #[.val (.ref r0), .val (.int p1)] [(.int (1 : Int32))]))
      exact W.retB X1 hx hlk (t := .boolean) hret (by simp) (hb hby d1_93) (by decide) (by decide) e1 ⟨by simp [hz, own_holds, nar, *], N1, rfl⟩
    · refine W.go (fun _ hr => XS.ifYes X1.here hx rfl (pc0 := 85) (pc' := 92) rfl (hb hby d1_85) rfl ((if0 _ _).trans (flt hc85_6).2.2.2) (by decide) (by decide) hr) ?_
      show W p e below _ (T1.setTop (mkF m 92 #[.val (.ref r0), .val (.int p1)] []))
      refine W.go (fun _ hr => XS.iconst X1.here hx rfl (hb hby d1_92) hr) ?_
      show W p e below _ (T1.setTop (mkF m 93 #[.val (.ref r0), .val (.int p1)] [(.int (0 : Int32))]))
      exact W.retB X1 hx hlk (t := .boolean) hret (by simp) (hb hby d1_93) (by decide) (by decide) e1 ⟨by simp [hz, own_holds, nar, *], N1, rfl⟩
  · refine W.go (fun _ hr => XS.tswIn X1.here hx rfl (pc0 := 4) (pc' := 94) (o := 90) rfl (hb hby d1_4) rfl (by decide) (by decide) (by decide) (by decide) hr) ?_
    show W p e below _ (T1.setTop (mkF m 94 #[.val (.ref r0), .val (.int p1)] []))
    refine W.go (fun _ hr => XS.iloadN X1.here hx rfl (hb hby d1_94) rfl hr) ?_
    show W p e below _ (T1.setTop (mkF m 95 #[.val (.ref r0), .val (.int p1)] [(.int p1)]))
    by_cases hc95_7 : p1 < (0 : Int32)
    · refine W.go (fun _ hr => XS.ifYes X1.here hx rfl (pc0 := 95) (pc' := 102) rfl (hb hby d1_95) rfl ((if0 _ _).trans (tlt hc95_7).1) (by decide) (by decide) hr) ?_
      show W p e below _ (T1.setTop (mkF m 102 #[.val (.ref r0), .val (.int p1)] []))
      refine W.go (fun _ hr => XS.iconst X1.here hx rfl (hb hby d1_102) hr) ?_
      show W p e below _ (T1.setTop (mkF m 103 #[.val (.ref r0), .val (.int p1)] [(.int (0 : Int32))]))
      exact W.retB X1 hx hlk (t := .boolean) hret (by simp) (hb hby d1_103) (by decide) (by decide) e1 ⟨by simp [hz, own_holds, nar, *], N1, rfl⟩
    · refine W.go (fun _ hr => XS.ifNo X1.here hx rfl (hb hby d1_95) rfl ((if0 _ _).trans (flt hc95_7).1) hr) ?_
      show W p e below _ (T1.setTop (mkF m 98 #[.val (.ref r0), .val (.int p1)] []))
      refine W.go (fun _ hr => XS.iconst X1.here hx rfl (hb hby d1_98) hr) ?_
      show W p e below _ (T1.setTop (mkF m 99 #[.val (.ref r0), .val (.int p1)] [(.int (1 : Int32))]))
      refine W.go (fun _ hr => XS.goto X1.here hx rfl (pc0 := 99) (pc' := 103) rfl (hb hby d1_99) (by decide) (by decide) hr) ?_
      show W p e below _ (T1.setTop (mkF m 103 #[.val (.ref r0), .val (.int p1)] [(.int (1 : Int32))]))
      exact W.retB X1 hx hlk (t := .boolean) hret (by simp) (hb hby d1_103) (by decide) (by decide) e1 ⟨by simp [hz, own_holds, nar, *], N1, rfl⟩
theorem own3 (p : Int32) : (p < 0 ∧ ¬ p = 0 ∧ ¬ 0 < p) ∨ p = 0 ∨ (¬ p < 0 ∧ ¬ p = 0 ∧ 0 < p) := by
  simp only [Int32.lt_iff_toInt_lt, ← Int32.toInt_inj, Int32.reduceToInt]
  omega
theorem pd_45 : parseMethodDescriptor "(I)Z" = some ⟨[.int], some .boolean⟩ := by decide +kernel
theorem pn_com_example_millrace_millrace_OperatorHoldsPinLaw : plainName "com/example/millrace/millrace/OperatorHoldsPinLaw" = true := by first | (simp [plainName, overriddenIn]; done) | decide +kernel
def Q_rm0 (Z : State) (p0 : Int32) (p1 : Int32) (w_EQUAL : Addr) (w_NOT_EQUAL : Addr) (w_LESS : Addr) (w_LESS_OR_EQUAL : Addr) (w_GREATER : Addr) (w_GREATER_OR_EQUAL : Addr) (h0 : Heap) (n0 : Nat) (v : Option Value) (h : Heap) (L : List Loc) : Prop := v = some (.int (1 : Int32)) ∧ Fr n0 L
set_option maxRecDepth 65536 in
set_option maxHeartbeats 40000000 in
theorem rm0 (l : Launch) (Z : State) (a0 : Array Value) (hw : ∀ d ∈ tables_1, d.before a0 Z = true) (p0 : Int32) (p1 : Int32) (w_EQUAL : Addr) (w_NOT_EQUAL : Addr) (w_LESS : Addr) (w_LESS_OR_EQUAL : Addr) (w_GREATER : Addr) (w_GREATER_OR_EQUAL : Addr) (h0 : Heap) (n0 : Nat) (Z0 : n0 ≤ h0.size) (S_EQUAL : Sta Z h0 "com/example/millrace/millrace/Condition$Operator" "EQUAL" "Lcom/example/millrace/millrace/Condition$Operator;" (.ref w_EQUAL)) (S_NOT_EQUAL : Sta Z h0 "com/example/millrace/millrace/Condition$Operator" "NOT_EQUAL" "Lcom/example/millrace/millrace/Condition$Operator;" (.ref w_NOT_EQUAL)) (S_LESS : Sta Z h0 "com/example/millrace/millrace/Condition$Operator" "LESS" "Lcom/example/millrace/millrace/Condition$Operator;" (.ref w_LESS)) (S_LESS_OR_EQUAL : Sta Z h0 "com/example/millrace/millrace/Condition$Operator" "LESS_OR_EQUAL" "Lcom/example/millrace/millrace/Condition$Operator;" (.ref w_LESS_OR_EQUAL)) (S_GREATER : Sta Z h0 "com/example/millrace/millrace/Condition$Operator" "GREATER" "Lcom/example/millrace/millrace/Condition$Operator;" (.ref w_GREATER)) (S_GREATER_OR_EQUAL : Sta Z h0 "com/example/millrace/millrace/Condition$Operator" "GREATER_OR_EQUAL" "Lcom/example/millrace/millrace/Condition$Operator;" (.ref w_GREATER_OR_EQUAL)) (E_w_EQUAL : Exa Z h0 w_EQUAL "com/example/millrace/millrace/Condition$Operator") (E_w_NOT_EQUAL : Exa Z h0 w_NOT_EQUAL "com/example/millrace/millrace/Condition$Operator") (E_w_LESS : Exa Z h0 w_LESS "com/example/millrace/millrace/Condition$Operator") (E_w_LESS_OR_EQUAL : Exa Z h0 w_LESS_OR_EQUAL "com/example/millrace/millrace/Condition$Operator") (E_w_GREATER : Exa Z h0 w_GREATER "com/example/millrace/millrace/Condition$Operator") (E_w_GREATER_OR_EQUAL : Exa Z h0 w_GREATER_OR_EQUAL "com/example/millrace/millrace/Condition$Operator") (F_EQUAL : Fld Z h0 w_EQUAL "java/lang/Enum" "ordinal" "I" (.int 0)) (F_NOT_EQUAL : Fld Z h0 w_NOT_EQUAL "java/lang/Enum" "ordinal" "I" (.int 1)) (F_LESS : Fld Z h0 w_LESS "java/lang/Enum" "ordinal" "I" (.int 2)) (F_LESS_OR_EQUAL : Fld Z h0 w_LESS_OR_EQUAL "java/lang/Enum" "ordinal" "I" (.int 3)) (F_GREATER : Fld Z h0 w_GREATER "java/lang/Enum" "ordinal" "I" (.int 4)) (F_GREATER_OR_EQUAL : Fld Z h0 w_GREATER_OR_EQUAL "java/lang/Enum" "ordinal" "I" (.int 5)) :
    Ctr l Z x code maxLocals ret room_1 #[(.int p0), (.int p1)] h0 (Q_rm0 Z p0 p1 w_EQUAL w_NOT_EQUAL w_LESS w_LESS_OR_EQUAL w_GREATER w_GREATER_OR_EQUAL h0 n0) := by
  refine Ctr.body (fr := fun m => mkF m 0 #[.val (.int p0), .val (.int p1), .unset, .unset, .unset, .unset, .unset] []) (plainFor_of_name pn_com_example_millrace_millrace_OperatorHoldsPinLaw) (fun m => by first | (simp [entryFrame, mkF, argsToLocals, Value.category, maxLocals]; done) | rfl) fun p e s m below meth c s₁ hx hby hml hZ hown hnm hret hlk X0 e0 => ?_
  have N0 := Fr.nil n0
  have hown : s.vm.findClass "com/example/millrace/millrace/OperatorHoldsPinLaw" = some m.cls := hown
  show W p e below _ (s₁.setTop (mkF m 0 #[.val (.int p0), .val (.int p1), .unset, .unset, .unset, .unset, .unset] []))
  refine W.go (fun _ hr => XS.iloadN X0.here hx rfl (hb hby at_0) rfl hr) ?_
  show W p e below _ (s₁.setTop (mkF m 1 #[.val (.int p0), .val (.int p1), .unset, .unset, .unset, .unset, .unset] [(.int p0)]))
  refine W.go (X0.ldcInt hx hown (mvT hZ (hw _ (List.mem_of_getElem? (i := 0) rfl))) (g := (mkF m 1 #[.val (.int p0), .val (.int p1), .unset, .unset, .unset, .unset, .unset] [(.int p0)])) rfl (hb hby at_1)) ?_
  show W p e below _ (s₁.setTop (mkF m 3 #[.val (.int p0), .val (.int p1), .unset, .unset, .unset, .unset, .unset] [(.int (2147483647 : Int32)), (.int p0)]))
  refine W.go (fun _ hr => XS.iand X0.here hx rfl (hb hby at_3) rfl hr) ?_
  show W p e below _ (s₁.setTop (mkF m 4 #[.val (.int p0), .val (.int p1), .unset, .unset, .unset, .unset, .unset] [(.int (p0 &&& (2147483647 : Int32)))]))
  refine W.go (fun _ hr => XS.bipush X0.here hx rfl (hb hby at_4) hr) ?_
  show W p e below _ (s₁.setTop (mkF m 6 #[.val (.int p0), .val (.int p1), .unset, .unset, .unset, .unset, .unset] [(.int (6 : Int32)), (.int (p0 &&& (2147483647 : Int32)))]))
  refine W.go (fun _ hr => iremM X0 hx rfl (hb hby at_6) rfl (by decide) hr) ?_
  show W p e below _ (s₁.setTop (mkF m 7 #[.val (.int p0), .val (.int p1), .unset, .unset, .unset, .unset, .unset] [(.int ((p0 &&& (2147483647 : Int32)) % (6 : Int32)))]))
  refine W.go (fun _ hr => XS.istoreN X0.here hx rfl (hb hby at_7) rfl (l' := #[.val (.int p0), .val (.int p1), .val (.int ((p0 &&& (2147483647 : Int32)) % (6 : Int32))), .unset, .unset, .unset, .unset]) rfl hr) ?_
  show W p e below _ (s₁.setTop (mkF m 8 #[.val (.int p0), .val (.int p1), .val (.int ((p0 &&& (2147483647 : Int32)) % (6 : Int32))), .unset, .unset, .unset, .unset] []))
  refine W.go (fun _ hr => XS.iloadN X0.here hx rfl (hb hby at_8) rfl hr) ?_
  show W p e below _ (s₁.setTop (mkF m 9 #[.val (.int p0), .val (.int p1), .val (.int ((p0 &&& (2147483647 : Int32)) % (6 : Int32))), .unset, .unset, .unset, .unset] [(.int ((p0 &&& (2147483647 : Int32)) % (6 : Int32)))]))
  generalize e_i : ((p0 &&& (2147483647 : Int32)) % (6 : Int32)) = i
  by_cases hc9_1 : i = (0 : Int32)
  · refine W.go (fun _ hr => XS.ifNo X0.here hx rfl (hb hby at_9) rfl ((if0 _ _).trans (teq hc9_1).2) hr) ?_
    show W p e below _ (s₁.setTop (mkF m 12 #[.val (.int p0), .val (.int p1), .val (.int i), .unset, .unset, .unset, .unset] []))
    obtain ⟨T2, X2, e2, st2⟩ := getS2 X0 hx hZ hown (host := "") (Or.inl (hw _ (List.mem_of_getElem? (i := 1) rfl))) Via.refl e0 S_EQUAL (g := (mkF m 12 #[.val (.int p0), .val (.int p1), .val (.int i), .unset, .unset, .unset, .unset] [])) rfl (hb hby at_12)
    refine W.go st2 ?_
    show W p e below _ (T2.setTop (mkF m 15 #[.val (.int p0), .val (.int p1), .val (.int i), .unset, .unset, .unset, .unset] [(.ref w_EQUAL)]))
    refine W.go (fun _ hr => XS.astoreN X2.here hx rfl (hb hby at_15) rfl rfl (l' := #[.val (.int p0), .val (.int p1), .val (.int i), .val (.ref w_EQUAL), .unset, .unset, .unset]) rfl hr) ?_
    show W p e below _ (T2.setTop (mkF m 16 #[.val (.int p0), .val (.int p1), .val (.int i), .val (.ref w_EQUAL), .unset, .unset, .unset] []))
    refine W.go (fun _ hr => XS.iconst X2.here hx rfl (hb hby at_16) hr) ?_
    show W p e below _ (T2.setTop (mkF m 17 #[.val (.int p0), .val (.int p1), .val (.int i), .val (.ref w_EQUAL), .unset, .unset, .unset] [(.int (2 : Int32))]))
    refine W.go (fun _ hr => XS.istore X2.here hx rfl (hb hby at_17) rfl (l' := #[.val (.int p0), .val (.int p1), .val (.int i), .val (.ref w_EQUAL), .val (.int (2 : Int32)), .unset, .unset]) rfl hr) ?_
    show W p e below _ (T2.setTop (mkF m 19 #[.val (.int p0), .val (.int p1), .val (.int i), .val (.ref w_EQUAL), .val (.int (2 : Int32)), .unset, .unset] []))
    refine W.go (fun _ hr => XS.goto X2.here hx rfl (pc0 := 19) (pc' := 90) rfl (hb hby at_19) (by decide) (by decide) hr) ?_
    show W p e below _ (T2.setTop (mkF m 90 #[.val (.int p0), .val (.int p1), .val (.int i), .val (.ref w_EQUAL), .val (.int (2 : Int32)), .unset, .unset] []))
    rcases own3 p1 with ⟨q0, q1, q2⟩ | rfl | ⟨q0, q1, q2⟩
    · refine W.go (fun _ hr => XS.iloadN X2.here hx rfl (hb hby at_90) rfl hr) ?_
      show W p e below _ (T2.setTop (mkF m 91 #[.val (.int p0), .val (.int p1), .val (.int i), .val (.ref w_EQUAL), .val (.int (2 : Int32)), .unset, .unset] [(.int p1)]))
      refine W.go (fun _ hr => XS.ifNo X2.here hx rfl (hb hby at_91) rfl ((if0 _ _).trans (tlt (q0 : (p1 < (0 : Int32)))).2.1) hr) ?_
      show W p e below _ (T2.setTop (mkF m 94 #[.val (.int p0), .val (.int p1), .val (.int i), .val (.ref w_EQUAL), .val (.int (2 : Int32)), .unset, .unset] []))
      refine W.go (fun _ hr => XS.iconst X2.here hx rfl (hb hby at_94) hr) ?_
      show W p e below _ (T2.setTop (mkF m 95 #[.val (.int p0), .val (.int p1), .val (.int i), .val (.ref w_EQUAL), .val (.int (2 : Int32)), .unset, .unset] [(.int (0 : Int32))]))
      refine W.go (fun _ hr => XS.goto X2.here hx rfl (pc0 := 95) (pc' := 107) rfl (hb hby at_95) (by decide) (by decide) hr) ?_
      show W p e below _ (T2.setTop (mkF m 107 #[.val (.int p0), .val (.int p1), .val (.int i), .val (.ref w_EQUAL), .val (.int (2 : Int32)), .unset, .unset] [(.int (0 : Int32))]))
      refine W.go (fun _ hr => XS.istore X2.here hx rfl (hb hby at_107) rfl (l' := #[.val (.int p0), .val (.int p1), .val (.int i), .val (.ref w_EQUAL), .val (.int (2 : Int32)), .val (.int (0 : Int32)), .unset]) rfl hr) ?_
      show W p e below _ (T2.setTop (mkF m 109 #[.val (.int p0), .val (.int p1), .val (.int i), .val (.ref w_EQUAL), .val (.int (2 : Int32)), .val (.int (0 : Int32)), .unset] []))
      refine W.go (fun _ hr => XS.iload X2.here hx rfl (hb hby at_109) rfl hr) ?_
      show W p e below _ (T2.setTop (mkF m 111 #[.val (.int p0), .val (.int p1), .val (.int i), .val (.ref w_EQUAL), .val (.int (2 : Int32)), .val (.int (0 : Int32)), .unset] [(.int (2 : Int32))]))
      refine W.go (fun _ hr => XS.iload X2.here hx rfl (hb hby at_111) rfl hr) ?_
      show W p e below _ (T2.setTop (mkF m 113 #[.val (.int p0), .val (.int p1), .val (.int i), .val (.ref w_EQUAL), .val (.int (2 : Int32)), .val (.int (0 : Int32)), .unset] [(.int (0 : Int32)), (.int (2 : Int32))]))
      refine W.go (fun _ hr => XS.ishr X2.here hx rfl (hb hby at_113) rfl hr) ?_
      show W p e below _ (T2.setTop (mkF m 114 #[.val (.int p0), .val (.int p1), .val (.int i), .val (.ref w_EQUAL), .val (.int (2 : Int32)), .val (.int (0 : Int32)), .unset] [(.int ((2 : Int32) >>> ((0 : Int32) &&& 31)))]))
      rw [show ((2 : Int32) >>> ((0 : Int32) &&& 31)) = (2 : Int32) from by decide]
      show W p e below _ (T2.setTop (mkF m 114 #[.val (.int p0), .val (.int p1), .val (.int i), .val (.ref w_EQUAL), .val (.int (2 : Int32)), .val (.int (0 : Int32)), .unset] [(.int (2 : Int32))]))
      refine W.go (fun _ hr => XS.iconst X2.here hx rfl (hb hby at_114) hr) ?_
      show W p e below _ (T2.setTop (mkF m 115 #[.val (.int p0), .val (.int p1), .val (.int i), .val (.ref w_EQUAL), .val (.int (2 : Int32)), .val (.int (0 : Int32)), .unset] [(.int (1 : Int32)), (.int (2 : Int32))]))
      refine W.go (fun _ hr => XS.iand X2.here hx rfl (hb hby at_115) rfl hr) ?_
      show W p e below _ (T2.setTop (mkF m 116 #[.val (.int p0), .val (.int p1), .val (.int i), .val (.ref w_EQUAL), .val (.int (2 : Int32)), .val (.int (0 : Int32)), .unset] [(.int ((2 : Int32) &&& (1 : Int32)))]))
      rw [show ((2 : Int32) &&& (1 : Int32)) = (0 : Int32) from by decide]
      show W p e below _ (T2.setTop (mkF m 116 #[.val (.int p0), .val (.int p1), .val (.int i), .val (.ref w_EQUAL), .val (.int (2 : Int32)), .val (.int (0 : Int32)), .unset] [(.int (0 : Int32))]))
      refine W.go (fun _ hr => XS.ifYes X2.here hx rfl (pc0 := 116) (pc' := 123) rfl (hb hby at_116) rfl ((if0 _ _).trans (teq (by decide : ((0 : Int32) = (0 : Int32)))).1) (by decide) (by decide) hr) ?_
      show W p e below _ (T2.setTop (mkF m 123 #[.val (.int p0), .val (.int p1), .val (.int i), .val (.ref w_EQUAL), .val (.int (2 : Int32)), .val (.int (0 : Int32)), .unset] []))
      refine W.go (fun _ hr => XS.iconst X2.here hx rfl (hb hby at_123) hr) ?_
      show W p e below _ (T2.setTop (mkF m 124 #[.val (.int p0), .val (.int p1), .val (.int i), .val (.ref w_EQUAL), .val (.int (2 : Int32)), .val (.int (0 : Int32)), .unset] [(.int (0 : Int32))]))
      refine W.go (fun _ hr => XS.istore X2.here hx rfl (hb hby at_124) rfl (l' := #[.val (.int p0), .val (.int p1), .val (.int i), .val (.ref w_EQUAL), .val (.int (2 : Int32)), .val (.int (0 : Int32)), .val (.int (0 : Int32))]) rfl hr) ?_
      show W p e below _ (T2.setTop (mkF m 126 #[.val (.int p0), .val (.int p1), .val (.int i), .val (.ref w_EQUAL), .val (.int (2 : Int32)), .val (.int (0 : Int32)), .val (.int (0 : Int32))] []))
      refine W.go (fun _ hr => XS.aloadN X2.here hx rfl (hb hby at_126) rfl rfl hr) ?_
      show W p e below _ (T2.setTop (mkF m 127 #[.val (.int p0), .val (.int p1), .val (.int i), .val (.ref w_EQUAL), .val (.int (2 : Int32)), .val (.int (0 : Int32)), .val (.int (0 : Int32))] [(.ref w_EQUAL)]))
      refine W.go (fun _ hr => XS.iloadN X2.here hx rfl (hb hby at_127) rfl hr) ?_
      show W p e below _ (T2.setTop (mkF m 128 #[.val (.int p0), .val (.int p1), .val (.int i), .val (.ref w_EQUAL), .val (.int (2 : Int32)), .val (.int (0 : Int32)), .val (.int (0 : Int32))] [(.int p1), (.ref w_EQUAL)]))
      refine W.callV X2 hx hZ hown (g := (mkF m 128 #[.val (.int p0), .val (.int p1), .val (.int i), .val (.ref w_EQUAL), .val (.int (2 : Int32)), .val (.int (0 : Int32)), .val (.int (0 : Int32))] [(.int p1), (.ref w_EQUAL)])) (by rw [hml]; rfl) (hw _ (List.mem_of_getElem? (i := 4) rfl)) (hw _ (List.mem_of_getElem? (i := 5) rfl)) (hw _ (List.mem_of_getElem? (i := 7) rfl)) (hw _ (List.mem_of_getElem? (i := 6) rfl)) (hw _ (List.mem_of_getElem? (i := 2) rfl)) (hw _ (List.mem_of_getElem? (i := 8) rfl)) e2 (rm1 l Z a0 hw w_EQUAL p1 (0 : Int32) (0 : Int32) h0 n0 Z0 E_w_EQUAL F_EQUAL (by decide) (by simp [own_holds, q0, q1, q2])) (notFace_of_selects (args := #[]) (mvT hZ (hw _ (List.mem_of_getElem? (i := 7) rfl)))) (by decide) pd_45 rfl E_w_EQUAL (argsL := [(.int p1)]) (rest := []) rfl rfl rfl (hb hby at_128) (W0 := 0) rfl (by decide) (by decide) (by decide) (by decide) (fun v3 T3 h3 L3 X3 e3 hQ3 => ?_)
      obtain ⟨rfl, N3q, hh3⟩ := hQ3
      obtain rfl := hh3.symm
      have N3 := Fr.app N0 N3q
      show W p e below _ (T3.setTop (mkF m 131 #[.val (.int p0), .val (.int p1), .val (.int i), .val (.ref w_EQUAL), .val (.int (2 : Int32)), .val (.int (0 : Int32)), .val (.int (0 : Int32))] [(.int (0 : Int32))]))
      refine W.go (fun _ hr => XS.iload X3.here hx rfl (hb hby at_131) rfl hr) ?_
      show W p e below _ (T3.setTop (mkF m 133 #[.val (.int p0), .val (.int p1), .val (.int i), .val (.ref w_EQUAL), .val (.int (2 : Int32)), .val (.int (0 : Int32)), .val (.int (0 : Int32))] [(.int (0 : Int32)), (.int (0 : Int32))]))
      refine W.go (fun _ hr => XS.icmpNo X3.here hx rfl (hb hby at_133) rfl (teq (by decide : ((0 : Int32) = (0 : Int32)))).2 hr) ?_
      show W p e below _ (T3.setTop (mkF m 136 #[.val (.int p0), .val (.int p1), .val (.int i), .val (.ref w_EQUAL), .val (.int (2 : Int32)), .val (.int (0 : Int32)), .val (.int (0 : Int32))] []))
      refine W.go (fun _ hr => XS.iconst X3.here hx rfl (hb hby at_136) hr) ?_
      show W p e below _ (T3.setTop (mkF m 137 #[.val (.int p0), .val (.int p1), .val (.int i), .val (.ref w_EQUAL), .val (.int (2 : Int32)), .val (.int (0 : Int32)), .val (.int (0 : Int32))] [(.int (1 : Int32))]))
      refine W.go (fun _ hr => XS.goto X3.here hx rfl (pc0 := 137) (pc' := 141) rfl (hb hby at_137) (by decide) (by decide) hr) ?_
      show W p e below _ (T3.setTop (mkF m 141 #[.val (.int p0), .val (.int p1), .val (.int i), .val (.ref w_EQUAL), .val (.int (2 : Int32)), .val (.int (0 : Int32)), .val (.int (0 : Int32))] [(.int (1 : Int32))]))
      exact W.retB X3 hx hlk (t := .boolean) hret (by simp) (hb hby at_141) (by decide) (by decide) e3 ⟨rfl, N3⟩
    · refine W.go (fun _ hr => XS.iloadN X2.here hx rfl (hb hby at_90) rfl hr) ?_
      show W p e below _ (T2.setTop (mkF m 91 #[.val (.int p0), .val (.int (0 : Int32)), .val (.int i), .val (.ref w_EQUAL), .val (.int (2 : Int32)), .unset, .unset] [(.int (0 : Int32))]))
      refine W.go (fun _ hr => XS.ifYes X2.here hx rfl (pc0 := 91) (pc' := 98) rfl (hb hby at_91) rfl ((if0 _ _).trans (flt (by decide : ¬ ((0 : Int32) < (0 : Int32)))).2.1) (by decide) (by decide) hr) ?_
      show W p e below _ (T2.setTop (mkF m 98 #[.val (.int p0), .val (.int (0 : Int32)), .val (.int i), .val (.ref w_EQUAL), .val (.int (2 : Int32)), .unset, .unset] []))
      refine W.go (fun _ hr => XS.iloadN X2.here hx rfl (hb hby at_98) rfl hr) ?_
      show W p e below _ (T2.setTop (mkF m 99 #[.val (.int p0), .val (.int (0 : Int32)), .val (.int i), .val (.ref w_EQUAL), .val (.int (2 : Int32)), .unset, .unset] [(.int (0 : Int32))]))
      refine W.go (fun _ hr => XS.ifNo X2.here hx rfl (hb hby at_99) rfl ((if0 _ _).trans (teq (by decide : ((0 : Int32) = (0 : Int32)))).2) hr) ?_
      show W p e below _ (T2.setTop (mkF m 102 #[.val (.int p0), .val (.int (0 : Int32)), .val (.int i), .val (.ref w_EQUAL), .val (.int (2 : Int32)), .unset, .unset] []))
      refine W.go (fun _ hr => XS.iconst X2.here hx rfl (hb hby at_102) hr) ?_
      show W p e below _ (T2.setTop (mkF m 103 #[.val (.int p0), .val (.int (0 : Int32)), .val (.int i), .val (.ref w_EQUAL), .val (.int (2 : Int32)), .unset, .unset] [(.int (1 : Int32))]))
      refine W.go (fun _ hr => XS.goto X2.here hx rfl (pc0 := 103) (pc' := 107) rfl (hb hby at_103) (by decide) (by decide) hr) ?_
      show W p e below _ (T2.setTop (mkF m 107 #[.val (.int p0), .val (.int (0 : Int32)), .val (.int i), .val (.ref w_EQUAL), .val (.int (2 : Int32)), .unset, .unset] [(.int (1 : Int32))]))
      refine W.go (fun _ hr => XS.istore X2.here hx rfl (hb hby at_107) rfl (l' := #[.val (.int p0), .val (.int (0 : Int32)), .val (.int i), .val (.ref w_EQUAL), .val (.int (2 : Int32)), .val (.int (1 : Int32)), .unset]) rfl hr) ?_
      show W p e below _ (T2.setTop (mkF m 109 #[.val (.int p0), .val (.int (0 : Int32)), .val (.int i), .val (.ref w_EQUAL), .val (.int (2 : Int32)), .val (.int (1 : Int32)), .unset] []))
      refine W.go (fun _ hr => XS.iload X2.here hx rfl (hb hby at_109) rfl hr) ?_
      show W p e below _ (T2.setTop (mkF m 111 #[.val (.int p0), .val (.int (0 : Int32)), .val (.int i), .val (.ref w_EQUAL), .val (.int (2 : Int32)), .val (.int (1 : Int32)), .unset] [(.int (2 : Int32))]))
      refine W.go (fun _ hr => XS.iload X2.here hx rfl (hb hby at_111) rfl hr) ?_
      show W p e below _ (T2.setTop (mkF m 113 #[.val (.int p0), .val (.int (0 : Int32)), .val (.int i), .val (.ref w_EQUAL), .val (.int (2 : Int32)), .val (.int (1 : Int32)), .unset] [(.int (1 : Int32)), (.int (2 : Int32))]))
      refine W.go (fun _ hr => XS.ishr X2.here hx rfl (hb hby at_113) rfl hr) ?_
      show W p e below _ (T2.setTop (mkF m 114 #[.val (.int p0), .val (.int (0 : Int32)), .val (.int i), .val (.ref w_EQUAL), .val (.int (2 : Int32)), .val (.int (1 : Int32)), .unset] [(.int ((2 : Int32) >>> ((1 : Int32) &&& 31)))]))
      rw [show ((2 : Int32) >>> ((1 : Int32) &&& 31)) = (1 : Int32) from by decide]
      show W p e below _ (T2.setTop (mkF m 114 #[.val (.int p0), .val (.int (0 : Int32)), .val (.int i), .val (.ref w_EQUAL), .val (.int (2 : Int32)), .val (.int (1 : Int32)), .unset] [(.int (1 : Int32))]))
      refine W.go (fun _ hr => XS.iconst X2.here hx rfl (hb hby at_114) hr) ?_
      show W p e below _ (T2.setTop (mkF m 115 #[.val (.int p0), .val (.int (0 : Int32)), .val (.int i), .val (.ref w_EQUAL), .val (.int (2 : Int32)), .val (.int (1 : Int32)), .unset] [(.int (1 : Int32)), (.int (1 : Int32))]))
      refine W.go (fun _ hr => XS.iand X2.here hx rfl (hb hby at_115) rfl hr) ?_
      show W p e below _ (T2.setTop (mkF m 116 #[.val (.int p0), .val (.int (0 : Int32)), .val (.int i), .val (.ref w_EQUAL), .val (.int (2 : Int32)), .val (.int (1 : Int32)), .unset] [(.int ((1 : Int32) &&& (1 : Int32)))]))
      rw [show ((1 : Int32) &&& (1 : Int32)) = (1 : Int32) from by decide]
      show W p e below _ (T2.setTop (mkF m 116 #[.val (.int p0), .val (.int (0 : Int32)), .val (.int i), .val (.ref w_EQUAL), .val (.int (2 : Int32)), .val (.int (1 : Int32)), .unset] [(.int (1 : Int32))]))
      refine W.go (fun _ hr => XS.ifNo X2.here hx rfl (hb hby at_116) rfl ((if0 _ _).trans (feq (by decide : ¬ ((1 : Int32) = (0 : Int32)))).1) hr) ?_
      show W p e below _ (T2.setTop (mkF m 119 #[.val (.int p0), .val (.int (0 : Int32)), .val (.int i), .val (.ref w_EQUAL), .val (.int (2 : Int32)), .val (.int (1 : Int32)), .unset] []))
      refine W.go (fun _ hr => XS.iconst X2.here hx rfl (hb hby at_119) hr) ?_
      show W p e below _ (T2.setTop (mkF m 120 #[.val (.int p0), .val (.int (0 : Int32)), .val (.int i), .val (.ref w_EQUAL), .val (.int (2 : Int32)), .val (.int (1 : Int32)), .unset] [(.int (1 : Int32))]))
      refine W.go (fun _ hr => XS.goto X2.here hx rfl (pc0 := 120) (pc' := 124) rfl (hb hby at_120) (by decide) (by decide) hr) ?_
      show W p e below _ (T2.setTop (mkF m 124 #[.val (.int p0), .val (.int (0 : Int32)), .val (.int i), .val (.ref w_EQUAL), .val (.int (2 : Int32)), .val (.int (1 : Int32)), .unset] [(.int (1 : Int32))]))
      refine W.go (fun _ hr => XS.istore X2.here hx rfl (hb hby at_124) rfl (l' := #[.val (.int p0), .val (.int (0 : Int32)), .val (.int i), .val (.ref w_EQUAL), .val (.int (2 : Int32)), .val (.int (1 : Int32)), .val (.int (1 : Int32))]) rfl hr) ?_
      show W p e below _ (T2.setTop (mkF m 126 #[.val (.int p0), .val (.int (0 : Int32)), .val (.int i), .val (.ref w_EQUAL), .val (.int (2 : Int32)), .val (.int (1 : Int32)), .val (.int (1 : Int32))] []))
      refine W.go (fun _ hr => XS.aloadN X2.here hx rfl (hb hby at_126) rfl rfl hr) ?_
      show W p e below _ (T2.setTop (mkF m 127 #[.val (.int p0), .val (.int (0 : Int32)), .val (.int i), .val (.ref w_EQUAL), .val (.int (2 : Int32)), .val (.int (1 : Int32)), .val (.int (1 : Int32))] [(.ref w_EQUAL)]))
      refine W.go (fun _ hr => XS.iloadN X2.here hx rfl (hb hby at_127) rfl hr) ?_
      show W p e below _ (T2.setTop (mkF m 128 #[.val (.int p0), .val (.int (0 : Int32)), .val (.int i), .val (.ref w_EQUAL), .val (.int (2 : Int32)), .val (.int (1 : Int32)), .val (.int (1 : Int32))] [(.int (0 : Int32)), (.ref w_EQUAL)]))
      refine W.callV X2 hx hZ hown (g := (mkF m 128 #[.val (.int p0), .val (.int (0 : Int32)), .val (.int i), .val (.ref w_EQUAL), .val (.int (2 : Int32)), .val (.int (1 : Int32)), .val (.int (1 : Int32))] [(.int (0 : Int32)), (.ref w_EQUAL)])) (by rw [hml]; rfl) (hw _ (List.mem_of_getElem? (i := 4) rfl)) (hw _ (List.mem_of_getElem? (i := 5) rfl)) (hw _ (List.mem_of_getElem? (i := 7) rfl)) (hw _ (List.mem_of_getElem? (i := 6) rfl)) (hw _ (List.mem_of_getElem? (i := 2) rfl)) (hw _ (List.mem_of_getElem? (i := 8) rfl)) e2 (rm1 l Z a0 hw w_EQUAL (0 : Int32) (0 : Int32) (1 : Int32) h0 n0 Z0 E_w_EQUAL F_EQUAL (by decide) (by decide)) (notFace_of_selects (args := #[]) (mvT hZ (hw _ (List.mem_of_getElem? (i := 7) rfl)))) (by decide) pd_45 rfl E_w_EQUAL (argsL := [(.int (0 : Int32))]) (rest := []) rfl rfl rfl (hb hby at_128) (W0 := 0) rfl (by decide) (by decide) (by decide) (by decide) (fun v4 T4 h4 L4 X4 e4 hQ4 => ?_)
      obtain ⟨rfl, N4q, hh4⟩ := hQ4
      obtain rfl := hh4.symm
      have N4 := Fr.app N0 N4q
      show W p e below _ (T4.setTop (mkF m 131 #[.val (.int p0), .val (.int (0 : Int32)), .val (.int i), .val (.ref w_EQUAL), .val (.int (2 : Int32)), .val (.int (1 : Int32)), .val (.int (1 : Int32))] [(.int (1 : Int32))]))
      refine W.go (fun _ hr => XS.iload X4.here hx rfl (hb hby at_131) rfl hr) ?_
      show W p e below _ (T4.setTop (mkF m 133 #[.val (.int p0), .val (.int (0 : Int32)), .val (.int i), .val (.ref w_EQUAL), .val (.int (2 : Int32)), .val (.int (1 : Int32)), .val (.int (1 : Int32))] [(.int (1 : Int32)), (.int (1 : Int32))]))
      refine W.go (fun _ hr => XS.icmpNo X4.here hx rfl (hb hby at_133) rfl (teq (by decide : ((1 : Int32) = (1 : Int32)))).2 hr) ?_
      show W p e below _ (T4.setTop (mkF m 136 #[.val (.int p0), .val (.int (0 : Int32)), .val (.int i), .val (.ref w_EQUAL), .val (.int (2 : Int32)), .val (.int (1 : Int32)), .val (.int (1 : Int32))] []))
      refine W.go (fun _ hr => XS.iconst X4.here hx rfl (hb hby at_136) hr) ?_
      show W p e below _ (T4.setTop (mkF m 137 #[.val (.int p0), .val (.int (0 : Int32)), .val (.int i), .val (.ref w_EQUAL), .val (.int (2 : Int32)), .val (.int (1 : Int32)), .val (.int (1 : Int32))] [(.int (1 : Int32))]))
      refine W.go (fun _ hr => XS.goto X4.here hx rfl (pc0 := 137) (pc' := 141) rfl (hb hby at_137) (by decide) (by decide) hr) ?_
      show W p e below _ (T4.setTop (mkF m 141 #[.val (.int p0), .val (.int (0 : Int32)), .val (.int i), .val (.ref w_EQUAL), .val (.int (2 : Int32)), .val (.int (1 : Int32)), .val (.int (1 : Int32))] [(.int (1 : Int32))]))
      exact W.retB X4 hx hlk (t := .boolean) hret (by simp) (hb hby at_141) (by decide) (by decide) e4 ⟨rfl, N4⟩
    · refine W.go (fun _ hr => XS.iloadN X2.here hx rfl (hb hby at_90) rfl hr) ?_
      show W p e below _ (T2.setTop (mkF m 91 #[.val (.int p0), .val (.int p1), .val (.int i), .val (.ref w_EQUAL), .val (.int (2 : Int32)), .unset, .unset] [(.int p1)]))
      refine W.go (fun _ hr => XS.ifYes X2.here hx rfl (pc0 := 91) (pc' := 98) rfl (hb hby at_91) rfl ((if0 _ _).trans (flt (q0 : ¬ (p1 < (0 : Int32)))).2.1) (by decide) (by decide) hr) ?_
      show W p e below _ (T2.setTop (mkF m 98 #[.val (.int p0), .val (.int p1), .val (.int i), .val (.ref w_EQUAL), .val (.int (2 : Int32)), .unset, .unset] []))
      refine W.go (fun _ hr => XS.iloadN X2.here hx rfl (hb hby at_98) rfl hr) ?_
      show W p e below _ (T2.setTop (mkF m 99 #[.val (.int p0), .val (.int p1), .val (.int i), .val (.ref w_EQUAL), .val (.int (2 : Int32)), .unset, .unset] [(.int p1)]))
      refine W.go (fun _ hr => XS.ifYes X2.here hx rfl (pc0 := 99) (pc' := 106) rfl (hb hby at_99) rfl ((if0 _ _).trans (feq (q1 : ¬ (p1 = (0 : Int32)))).2) (by decide) (by decide) hr) ?_
      show W p e below _ (T2.setTop (mkF m 106 #[.val (.int p0), .val (.int p1), .val (.int i), .val (.ref w_EQUAL), .val (.int (2 : Int32)), .unset, .unset] []))
      refine W.go (fun _ hr => XS.iconst X2.here hx rfl (hb hby at_106) hr) ?_
      show W p e below _ (T2.setTop (mkF m 107 #[.val (.int p0), .val (.int p1), .val (.int i), .val (.ref w_EQUAL), .val (.int (2 : Int32)), .unset, .unset] [(.int (2 : Int32))]))
      refine W.go (fun _ hr => XS.istore X2.here hx rfl (hb hby at_107) rfl (l' := #[.val (.int p0), .val (.int p1), .val (.int i), .val (.ref w_EQUAL), .val (.int (2 : Int32)), .val (.int (2 : Int32)), .unset]) rfl hr) ?_
      show W p e below _ (T2.setTop (mkF m 109 #[.val (.int p0), .val (.int p1), .val (.int i), .val (.ref w_EQUAL), .val (.int (2 : Int32)), .val (.int (2 : Int32)), .unset] []))
      refine W.go (fun _ hr => XS.iload X2.here hx rfl (hb hby at_109) rfl hr) ?_
      show W p e below _ (T2.setTop (mkF m 111 #[.val (.int p0), .val (.int p1), .val (.int i), .val (.ref w_EQUAL), .val (.int (2 : Int32)), .val (.int (2 : Int32)), .unset] [(.int (2 : Int32))]))
      refine W.go (fun _ hr => XS.iload X2.here hx rfl (hb hby at_111) rfl hr) ?_
      show W p e below _ (T2.setTop (mkF m 113 #[.val (.int p0), .val (.int p1), .val (.int i), .val (.ref w_EQUAL), .val (.int (2 : Int32)), .val (.int (2 : Int32)), .unset] [(.int (2 : Int32)), (.int (2 : Int32))]))
      refine W.go (fun _ hr => XS.ishr X2.here hx rfl (hb hby at_113) rfl hr) ?_
      show W p e below _ (T2.setTop (mkF m 114 #[.val (.int p0), .val (.int p1), .val (.int i), .val (.ref w_EQUAL), .val (.int (2 : Int32)), .val (.int (2 : Int32)), .unset] [(.int ((2 : Int32) >>> ((2 : Int32) &&& 31)))]))
      rw [show ((2 : Int32) >>> ((2 : Int32) &&& 31)) = (0 : Int32) from by decide]
      show W p e below _ (T2.setTop (mkF m 114 #[.val (.int p0), .val (.int p1), .val (.int i), .val (.ref w_EQUAL), .val (.int (2 : Int32)), .val (.int (2 : Int32)), .unset] [(.int (0 : Int32))]))
      refine W.go (fun _ hr => XS.iconst X2.here hx rfl (hb hby at_114) hr) ?_
      show W p e below _ (T2.setTop (mkF m 115 #[.val (.int p0), .val (.int p1), .val (.int i), .val (.ref w_EQUAL), .val (.int (2 : Int32)), .val (.int (2 : Int32)), .unset] [(.int (1 : Int32)), (.int (0 : Int32))]))
      refine W.go (fun _ hr => XS.iand X2.here hx rfl (hb hby at_115) rfl hr) ?_
      show W p e below _ (T2.setTop (mkF m 116 #[.val (.int p0), .val (.int p1), .val (.int i), .val (.ref w_EQUAL), .val (.int (2 : Int32)), .val (.int (2 : Int32)), .unset] [(.int ((0 : Int32) &&& (1 : Int32)))]))
      rw [show ((0 : Int32) &&& (1 : Int32)) = (0 : Int32) from by decide]
      show W p e below _ (T2.setTop (mkF m 116 #[.val (.int p0), .val (.int p1), .val (.int i), .val (.ref w_EQUAL), .val (.int (2 : Int32)), .val (.int (2 : Int32)), .unset] [(.int (0 : Int32))]))
      refine W.go (fun _ hr => XS.ifYes X2.here hx rfl (pc0 := 116) (pc' := 123) rfl (hb hby at_116) rfl ((if0 _ _).trans (teq (by decide : ((0 : Int32) = (0 : Int32)))).1) (by decide) (by decide) hr) ?_
      show W p e below _ (T2.setTop (mkF m 123 #[.val (.int p0), .val (.int p1), .val (.int i), .val (.ref w_EQUAL), .val (.int (2 : Int32)), .val (.int (2 : Int32)), .unset] []))
      refine W.go (fun _ hr => XS.iconst X2.here hx rfl (hb hby at_123) hr) ?_
      show W p e below _ (T2.setTop (mkF m 124 #[.val (.int p0), .val (.int p1), .val (.int i), .val (.ref w_EQUAL), .val (.int (2 : Int32)), .val (.int (2 : Int32)), .unset] [(.int (0 : Int32))]))
      refine W.go (fun _ hr => XS.istore X2.here hx rfl (hb hby at_124) rfl (l' := #[.val (.int p0), .val (.int p1), .val (.int i), .val (.ref w_EQUAL), .val (.int (2 : Int32)), .val (.int (2 : Int32)), .val (.int (0 : Int32))]) rfl hr) ?_
      show W p e below _ (T2.setTop (mkF m 126 #[.val (.int p0), .val (.int p1), .val (.int i), .val (.ref w_EQUAL), .val (.int (2 : Int32)), .val (.int (2 : Int32)), .val (.int (0 : Int32))] []))
      refine W.go (fun _ hr => XS.aloadN X2.here hx rfl (hb hby at_126) rfl rfl hr) ?_
      show W p e below _ (T2.setTop (mkF m 127 #[.val (.int p0), .val (.int p1), .val (.int i), .val (.ref w_EQUAL), .val (.int (2 : Int32)), .val (.int (2 : Int32)), .val (.int (0 : Int32))] [(.ref w_EQUAL)]))
      refine W.go (fun _ hr => XS.iloadN X2.here hx rfl (hb hby at_127) rfl hr) ?_
      show W p e below _ (T2.setTop (mkF m 128 #[.val (.int p0), .val (.int p1), .val (.int i), .val (.ref w_EQUAL), .val (.int (2 : Int32)), .val (.int (2 : Int32)), .val (.int (0 : Int32))] [(.int p1), (.ref w_EQUAL)]))
      refine W.callV X2 hx hZ hown (g := (mkF m 128 #[.val (.int p0), .val (.int p1), .val (.int i), .val (.ref w_EQUAL), .val (.int (2 : Int32)), .val (.int (2 : Int32)), .val (.int (0 : Int32))] [(.int p1), (.ref w_EQUAL)])) (by rw [hml]; rfl) (hw _ (List.mem_of_getElem? (i := 4) rfl)) (hw _ (List.mem_of_getElem? (i := 5) rfl)) (hw _ (List.mem_of_getElem? (i := 7) rfl)) (hw _ (List.mem_of_getElem? (i := 6) rfl)) (hw _ (List.mem_of_getElem? (i := 2) rfl)) (hw _ (List.mem_of_getElem? (i := 8) rfl)) e2 (rm1 l Z a0 hw w_EQUAL p1 (0 : Int32) (0 : Int32) h0 n0 Z0 E_w_EQUAL F_EQUAL (by decide) (by simp [own_holds, q0, q1, q2])) (notFace_of_selects (args := #[]) (mvT hZ (hw _ (List.mem_of_getElem? (i := 7) rfl)))) (by decide) pd_45 rfl E_w_EQUAL (argsL := [(.int p1)]) (rest := []) rfl rfl rfl (hb hby at_128) (W0 := 0) rfl (by decide) (by decide) (by decide) (by decide) (fun v5 T5 h5 L5 X5 e5 hQ5 => ?_)
      obtain ⟨rfl, N5q, hh5⟩ := hQ5
      obtain rfl := hh5.symm
      have N5 := Fr.app N0 N5q
      show W p e below _ (T5.setTop (mkF m 131 #[.val (.int p0), .val (.int p1), .val (.int i), .val (.ref w_EQUAL), .val (.int (2 : Int32)), .val (.int (2 : Int32)), .val (.int (0 : Int32))] [(.int (0 : Int32))]))
      refine W.go (fun _ hr => XS.iload X5.here hx rfl (hb hby at_131) rfl hr) ?_
      show W p e below _ (T5.setTop (mkF m 133 #[.val (.int p0), .val (.int p1), .val (.int i), .val (.ref w_EQUAL), .val (.int (2 : Int32)), .val (.int (2 : Int32)), .val (.int (0 : Int32))] [(.int (0 : Int32)), (.int (0 : Int32))]))
      refine W.go (fun _ hr => XS.icmpNo X5.here hx rfl (hb hby at_133) rfl (teq (by decide : ((0 : Int32) = (0 : Int32)))).2 hr) ?_
      show W p e below _ (T5.setTop (mkF m 136 #[.val (.int p0), .val (.int p1), .val (.int i), .val (.ref w_EQUAL), .val (.int (2 : Int32)), .val (.int (2 : Int32)), .val (.int (0 : Int32))] []))
      refine W.go (fun _ hr => XS.iconst X5.here hx rfl (hb hby at_136) hr) ?_
      show W p e below _ (T5.setTop (mkF m 137 #[.val (.int p0), .val (.int p1), .val (.int i), .val (.ref w_EQUAL), .val (.int (2 : Int32)), .val (.int (2 : Int32)), .val (.int (0 : Int32))] [(.int (1 : Int32))]))
      refine W.go (fun _ hr => XS.goto X5.here hx rfl (pc0 := 137) (pc' := 141) rfl (hb hby at_137) (by decide) (by decide) hr) ?_
      show W p e below _ (T5.setTop (mkF m 141 #[.val (.int p0), .val (.int p1), .val (.int i), .val (.ref w_EQUAL), .val (.int (2 : Int32)), .val (.int (2 : Int32)), .val (.int (0 : Int32))] [(.int (1 : Int32))]))
      exact W.retB X5 hx hlk (t := .boolean) hret (by simp) (hb hby at_141) (by decide) (by decide) e5 ⟨rfl, N5⟩
  · refine W.go (fun _ hr => XS.ifYes X0.here hx rfl (pc0 := 9) (pc' := 22) rfl (hb hby at_9) rfl ((if0 _ _).trans (feq hc9_1).2) (by decide) (by decide) hr) ?_
    show W p e below _ (s₁.setTop (mkF m 22 #[.val (.int p0), .val (.int p1), .val (.int i), .unset, .unset, .unset, .unset] []))
    refine W.go (fun _ hr => XS.iloadN X0.here hx rfl (hb hby at_22) rfl hr) ?_
    show W p e below _ (s₁.setTop (mkF m 23 #[.val (.int p0), .val (.int p1), .val (.int i), .unset, .unset, .unset, .unset] [(.int i)]))
    refine W.go (fun _ hr => XS.iconst X0.here hx rfl (hb hby at_23) hr) ?_
    show W p e below _ (s₁.setTop (mkF m 24 #[.val (.int p0), .val (.int p1), .val (.int i), .unset, .unset, .unset, .unset] [(.int (1 : Int32)), (.int i)]))
    by_cases hc24_6 : i = (1 : Int32)
    · refine W.go (fun _ hr => XS.icmpNo X0.here hx rfl (hb hby at_24) rfl (teq hc24_6).2 hr) ?_
      show W p e below _ (s₁.setTop (mkF m 27 #[.val (.int p0), .val (.int p1), .val (.int i), .unset, .unset, .unset, .unset] []))
      obtain ⟨T7, X7, e7, st7⟩ := getS2 X0 hx hZ hown (host := "") (Or.inl (hw _ (List.mem_of_getElem? (i := 22) rfl))) Via.refl e0 S_NOT_EQUAL (g := (mkF m 27 #[.val (.int p0), .val (.int p1), .val (.int i), .unset, .unset, .unset, .unset] [])) rfl (hb hby at_27)
      refine W.go st7 ?_
      show W p e below _ (T7.setTop (mkF m 30 #[.val (.int p0), .val (.int p1), .val (.int i), .unset, .unset, .unset, .unset] [(.ref w_NOT_EQUAL)]))
      refine W.go (fun _ hr => XS.astoreN X7.here hx rfl (hb hby at_30) rfl rfl (l' := #[.val (.int p0), .val (.int p1), .val (.int i), .val (.ref w_NOT_EQUAL), .unset, .unset, .unset]) rfl hr) ?_
      show W p e below _ (T7.setTop (mkF m 31 #[.val (.int p0), .val (.int p1), .val (.int i), .val (.ref w_NOT_EQUAL), .unset, .unset, .unset] []))
      refine W.go (fun _ hr => XS.iconst X7.here hx rfl (hb hby at_31) hr) ?_
      show W p e below _ (T7.setTop (mkF m 32 #[.val (.int p0), .val (.int p1), .val (.int i), .val (.ref w_NOT_EQUAL), .unset, .unset, .unset] [(.int (5 : Int32))]))
      refine W.go (fun _ hr => XS.istore X7.here hx rfl (hb hby at_32) rfl (l' := #[.val (.int p0), .val (.int p1), .val (.int i), .val (.ref w_NOT_EQUAL), .val (.int (5 : Int32)), .unset, .unset]) rfl hr) ?_
      show W p e below _ (T7.setTop (mkF m 34 #[.val (.int p0), .val (.int p1), .val (.int i), .val (.ref w_NOT_EQUAL), .val (.int (5 : Int32)), .unset, .unset] []))
      refine W.go (fun _ hr => XS.goto X7.here hx rfl (pc0 := 34) (pc' := 90) rfl (hb hby at_34) (by decide) (by decide) hr) ?_
      show W p e below _ (T7.setTop (mkF m 90 #[.val (.int p0), .val (.int p1), .val (.int i), .val (.ref w_NOT_EQUAL), .val (.int (5 : Int32)), .unset, .unset] []))
      rcases own3 p1 with ⟨q0, q1, q2⟩ | rfl | ⟨q0, q1, q2⟩
      · refine W.go (fun _ hr => XS.iloadN X7.here hx rfl (hb hby at_90) rfl hr) ?_
        show W p e below _ (T7.setTop (mkF m 91 #[.val (.int p0), .val (.int p1), .val (.int i), .val (.ref w_NOT_EQUAL), .val (.int (5 : Int32)), .unset, .unset] [(.int p1)]))
        refine W.go (fun _ hr => XS.ifNo X7.here hx rfl (hb hby at_91) rfl ((if0 _ _).trans (tlt (q0 : (p1 < (0 : Int32)))).2.1) hr) ?_
        show W p e below _ (T7.setTop (mkF m 94 #[.val (.int p0), .val (.int p1), .val (.int i), .val (.ref w_NOT_EQUAL), .val (.int (5 : Int32)), .unset, .unset] []))
        refine W.go (fun _ hr => XS.iconst X7.here hx rfl (hb hby at_94) hr) ?_
        show W p e below _ (T7.setTop (mkF m 95 #[.val (.int p0), .val (.int p1), .val (.int i), .val (.ref w_NOT_EQUAL), .val (.int (5 : Int32)), .unset, .unset] [(.int (0 : Int32))]))
        refine W.go (fun _ hr => XS.goto X7.here hx rfl (pc0 := 95) (pc' := 107) rfl (hb hby at_95) (by decide) (by decide) hr) ?_
        show W p e below _ (T7.setTop (mkF m 107 #[.val (.int p0), .val (.int p1), .val (.int i), .val (.ref w_NOT_EQUAL), .val (.int (5 : Int32)), .unset, .unset] [(.int (0 : Int32))]))
        refine W.go (fun _ hr => XS.istore X7.here hx rfl (hb hby at_107) rfl (l' := #[.val (.int p0), .val (.int p1), .val (.int i), .val (.ref w_NOT_EQUAL), .val (.int (5 : Int32)), .val (.int (0 : Int32)), .unset]) rfl hr) ?_
        show W p e below _ (T7.setTop (mkF m 109 #[.val (.int p0), .val (.int p1), .val (.int i), .val (.ref w_NOT_EQUAL), .val (.int (5 : Int32)), .val (.int (0 : Int32)), .unset] []))
        refine W.go (fun _ hr => XS.iload X7.here hx rfl (hb hby at_109) rfl hr) ?_
        show W p e below _ (T7.setTop (mkF m 111 #[.val (.int p0), .val (.int p1), .val (.int i), .val (.ref w_NOT_EQUAL), .val (.int (5 : Int32)), .val (.int (0 : Int32)), .unset] [(.int (5 : Int32))]))
        refine W.go (fun _ hr => XS.iload X7.here hx rfl (hb hby at_111) rfl hr) ?_
        show W p e below _ (T7.setTop (mkF m 113 #[.val (.int p0), .val (.int p1), .val (.int i), .val (.ref w_NOT_EQUAL), .val (.int (5 : Int32)), .val (.int (0 : Int32)), .unset] [(.int (0 : Int32)), (.int (5 : Int32))]))
        refine W.go (fun _ hr => XS.ishr X7.here hx rfl (hb hby at_113) rfl hr) ?_
        show W p e below _ (T7.setTop (mkF m 114 #[.val (.int p0), .val (.int p1), .val (.int i), .val (.ref w_NOT_EQUAL), .val (.int (5 : Int32)), .val (.int (0 : Int32)), .unset] [(.int ((5 : Int32) >>> ((0 : Int32) &&& 31)))]))
        rw [show ((5 : Int32) >>> ((0 : Int32) &&& 31)) = (5 : Int32) from by decide]
        show W p e below _ (T7.setTop (mkF m 114 #[.val (.int p0), .val (.int p1), .val (.int i), .val (.ref w_NOT_EQUAL), .val (.int (5 : Int32)), .val (.int (0 : Int32)), .unset] [(.int (5 : Int32))]))
        refine W.go (fun _ hr => XS.iconst X7.here hx rfl (hb hby at_114) hr) ?_
        show W p e below _ (T7.setTop (mkF m 115 #[.val (.int p0), .val (.int p1), .val (.int i), .val (.ref w_NOT_EQUAL), .val (.int (5 : Int32)), .val (.int (0 : Int32)), .unset] [(.int (1 : Int32)), (.int (5 : Int32))]))
        refine W.go (fun _ hr => XS.iand X7.here hx rfl (hb hby at_115) rfl hr) ?_
        show W p e below _ (T7.setTop (mkF m 116 #[.val (.int p0), .val (.int p1), .val (.int i), .val (.ref w_NOT_EQUAL), .val (.int (5 : Int32)), .val (.int (0 : Int32)), .unset] [(.int ((5 : Int32) &&& (1 : Int32)))]))
        rw [show ((5 : Int32) &&& (1 : Int32)) = (1 : Int32) from by decide]
        show W p e below _ (T7.setTop (mkF m 116 #[.val (.int p0), .val (.int p1), .val (.int i), .val (.ref w_NOT_EQUAL), .val (.int (5 : Int32)), .val (.int (0 : Int32)), .unset] [(.int (1 : Int32))]))
        refine W.go (fun _ hr => XS.ifNo X7.here hx rfl (hb hby at_116) rfl ((if0 _ _).trans (feq (by decide : ¬ ((1 : Int32) = (0 : Int32)))).1) hr) ?_
        show W p e below _ (T7.setTop (mkF m 119 #[.val (.int p0), .val (.int p1), .val (.int i), .val (.ref w_NOT_EQUAL), .val (.int (5 : Int32)), .val (.int (0 : Int32)), .unset] []))
        refine W.go (fun _ hr => XS.iconst X7.here hx rfl (hb hby at_119) hr) ?_
        show W p e below _ (T7.setTop (mkF m 120 #[.val (.int p0), .val (.int p1), .val (.int i), .val (.ref w_NOT_EQUAL), .val (.int (5 : Int32)), .val (.int (0 : Int32)), .unset] [(.int (1 : Int32))]))
        refine W.go (fun _ hr => XS.goto X7.here hx rfl (pc0 := 120) (pc' := 124) rfl (hb hby at_120) (by decide) (by decide) hr) ?_
        show W p e below _ (T7.setTop (mkF m 124 #[.val (.int p0), .val (.int p1), .val (.int i), .val (.ref w_NOT_EQUAL), .val (.int (5 : Int32)), .val (.int (0 : Int32)), .unset] [(.int (1 : Int32))]))
        refine W.go (fun _ hr => XS.istore X7.here hx rfl (hb hby at_124) rfl (l' := #[.val (.int p0), .val (.int p1), .val (.int i), .val (.ref w_NOT_EQUAL), .val (.int (5 : Int32)), .val (.int (0 : Int32)), .val (.int (1 : Int32))]) rfl hr) ?_
        show W p e below _ (T7.setTop (mkF m 126 #[.val (.int p0), .val (.int p1), .val (.int i), .val (.ref w_NOT_EQUAL), .val (.int (5 : Int32)), .val (.int (0 : Int32)), .val (.int (1 : Int32))] []))
        refine W.go (fun _ hr => XS.aloadN X7.here hx rfl (hb hby at_126) rfl rfl hr) ?_
        show W p e below _ (T7.setTop (mkF m 127 #[.val (.int p0), .val (.int p1), .val (.int i), .val (.ref w_NOT_EQUAL), .val (.int (5 : Int32)), .val (.int (0 : Int32)), .val (.int (1 : Int32))] [(.ref w_NOT_EQUAL)]))
        refine W.go (fun _ hr => XS.iloadN X7.here hx rfl (hb hby at_127) rfl hr) ?_
        show W p e below _ (T7.setTop (mkF m 128 #[.val (.int p0), .val (.int p1), .val (.int i), .val (.ref w_NOT_EQUAL), .val (.int (5 : Int32)), .val (.int (0 : Int32)), .val (.int (1 : Int32))] [(.int p1), (.ref w_NOT_EQUAL)]))
        refine W.callV X7 hx hZ hown (g := (mkF m 128 #[.val (.int p0), .val (.int p1), .val (.int i), .val (.ref w_NOT_EQUAL), .val (.int (5 : Int32)), .val (.int (0 : Int32)), .val (.int (1 : Int32))] [(.int p1), (.ref w_NOT_EQUAL)])) (by rw [hml]; rfl) (hw _ (List.mem_of_getElem? (i := 4) rfl)) (hw _ (List.mem_of_getElem? (i := 5) rfl)) (hw _ (List.mem_of_getElem? (i := 7) rfl)) (hw _ (List.mem_of_getElem? (i := 6) rfl)) (hw _ (List.mem_of_getElem? (i := 2) rfl)) (hw _ (List.mem_of_getElem? (i := 8) rfl)) e7 (rm1 l Z a0 hw w_NOT_EQUAL p1 (1 : Int32) (1 : Int32) h0 n0 Z0 E_w_NOT_EQUAL F_NOT_EQUAL (by decide) (by simp [own_holds, q0, q1, q2])) (notFace_of_selects (args := #[]) (mvT hZ (hw _ (List.mem_of_getElem? (i := 7) rfl)))) (by decide) pd_45 rfl E_w_NOT_EQUAL (argsL := [(.int p1)]) (rest := []) rfl rfl rfl (hb hby at_128) (W0 := 0) rfl (by decide) (by decide) (by decide) (by decide) (fun v8 T8 h8 L8 X8 e8 hQ8 => ?_)
        obtain ⟨rfl, N8q, hh8⟩ := hQ8
        obtain rfl := hh8.symm
        have N8 := Fr.app N0 N8q
        show W p e below _ (T8.setTop (mkF m 131 #[.val (.int p0), .val (.int p1), .val (.int i), .val (.ref w_NOT_EQUAL), .val (.int (5 : Int32)), .val (.int (0 : Int32)), .val (.int (1 : Int32))] [(.int (1 : Int32))]))
        refine W.go (fun _ hr => XS.iload X8.here hx rfl (hb hby at_131) rfl hr) ?_
        show W p e below _ (T8.setTop (mkF m 133 #[.val (.int p0), .val (.int p1), .val (.int i), .val (.ref w_NOT_EQUAL), .val (.int (5 : Int32)), .val (.int (0 : Int32)), .val (.int (1 : Int32))] [(.int (1 : Int32)), (.int (1 : Int32))]))
        refine W.go (fun _ hr => XS.icmpNo X8.here hx rfl (hb hby at_133) rfl (teq (by decide : ((1 : Int32) = (1 : Int32)))).2 hr) ?_
        show W p e below _ (T8.setTop (mkF m 136 #[.val (.int p0), .val (.int p1), .val (.int i), .val (.ref w_NOT_EQUAL), .val (.int (5 : Int32)), .val (.int (0 : Int32)), .val (.int (1 : Int32))] []))
        refine W.go (fun _ hr => XS.iconst X8.here hx rfl (hb hby at_136) hr) ?_
        show W p e below _ (T8.setTop (mkF m 137 #[.val (.int p0), .val (.int p1), .val (.int i), .val (.ref w_NOT_EQUAL), .val (.int (5 : Int32)), .val (.int (0 : Int32)), .val (.int (1 : Int32))] [(.int (1 : Int32))]))
        refine W.go (fun _ hr => XS.goto X8.here hx rfl (pc0 := 137) (pc' := 141) rfl (hb hby at_137) (by decide) (by decide) hr) ?_
        show W p e below _ (T8.setTop (mkF m 141 #[.val (.int p0), .val (.int p1), .val (.int i), .val (.ref w_NOT_EQUAL), .val (.int (5 : Int32)), .val (.int (0 : Int32)), .val (.int (1 : Int32))] [(.int (1 : Int32))]))
        exact W.retB X8 hx hlk (t := .boolean) hret (by simp) (hb hby at_141) (by decide) (by decide) e8 ⟨rfl, N8⟩
      · refine W.go (fun _ hr => XS.iloadN X7.here hx rfl (hb hby at_90) rfl hr) ?_
        show W p e below _ (T7.setTop (mkF m 91 #[.val (.int p0), .val (.int (0 : Int32)), .val (.int i), .val (.ref w_NOT_EQUAL), .val (.int (5 : Int32)), .unset, .unset] [(.int (0 : Int32))]))
        refine W.go (fun _ hr => XS.ifYes X7.here hx rfl (pc0 := 91) (pc' := 98) rfl (hb hby at_91) rfl ((if0 _ _).trans (flt (by decide : ¬ ((0 : Int32) < (0 : Int32)))).2.1) (by decide) (by decide) hr) ?_
        show W p e below _ (T7.setTop (mkF m 98 #[.val (.int p0), .val (.int (0 : Int32)), .val (.int i), .val (.ref w_NOT_EQUAL), .val (.int (5 : Int32)), .unset, .unset] []))
        refine W.go (fun _ hr => XS.iloadN X7.here hx rfl (hb hby at_98) rfl hr) ?_
        show W p e below _ (T7.setTop (mkF m 99 #[.val (.int p0), .val (.int (0 : Int32)), .val (.int i), .val (.ref w_NOT_EQUAL), .val (.int (5 : Int32)), .unset, .unset] [(.int (0 : Int32))]))
        refine W.go (fun _ hr => XS.ifNo X7.here hx rfl (hb hby at_99) rfl ((if0 _ _).trans (teq (by decide : ((0 : Int32) = (0 : Int32)))).2) hr) ?_
        show W p e below _ (T7.setTop (mkF m 102 #[.val (.int p0), .val (.int (0 : Int32)), .val (.int i), .val (.ref w_NOT_EQUAL), .val (.int (5 : Int32)), .unset, .unset] []))
        refine W.go (fun _ hr => XS.iconst X7.here hx rfl (hb hby at_102) hr) ?_
        show W p e below _ (T7.setTop (mkF m 103 #[.val (.int p0), .val (.int (0 : Int32)), .val (.int i), .val (.ref w_NOT_EQUAL), .val (.int (5 : Int32)), .unset, .unset] [(.int (1 : Int32))]))
        refine W.go (fun _ hr => XS.goto X7.here hx rfl (pc0 := 103) (pc' := 107) rfl (hb hby at_103) (by decide) (by decide) hr) ?_
        show W p e below _ (T7.setTop (mkF m 107 #[.val (.int p0), .val (.int (0 : Int32)), .val (.int i), .val (.ref w_NOT_EQUAL), .val (.int (5 : Int32)), .unset, .unset] [(.int (1 : Int32))]))
        refine W.go (fun _ hr => XS.istore X7.here hx rfl (hb hby at_107) rfl (l' := #[.val (.int p0), .val (.int (0 : Int32)), .val (.int i), .val (.ref w_NOT_EQUAL), .val (.int (5 : Int32)), .val (.int (1 : Int32)), .unset]) rfl hr) ?_
        show W p e below _ (T7.setTop (mkF m 109 #[.val (.int p0), .val (.int (0 : Int32)), .val (.int i), .val (.ref w_NOT_EQUAL), .val (.int (5 : Int32)), .val (.int (1 : Int32)), .unset] []))
        refine W.go (fun _ hr => XS.iload X7.here hx rfl (hb hby at_109) rfl hr) ?_
        show W p e below _ (T7.setTop (mkF m 111 #[.val (.int p0), .val (.int (0 : Int32)), .val (.int i), .val (.ref w_NOT_EQUAL), .val (.int (5 : Int32)), .val (.int (1 : Int32)), .unset] [(.int (5 : Int32))]))
        refine W.go (fun _ hr => XS.iload X7.here hx rfl (hb hby at_111) rfl hr) ?_
        show W p e below _ (T7.setTop (mkF m 113 #[.val (.int p0), .val (.int (0 : Int32)), .val (.int i), .val (.ref w_NOT_EQUAL), .val (.int (5 : Int32)), .val (.int (1 : Int32)), .unset] [(.int (1 : Int32)), (.int (5 : Int32))]))
        refine W.go (fun _ hr => XS.ishr X7.here hx rfl (hb hby at_113) rfl hr) ?_
        show W p e below _ (T7.setTop (mkF m 114 #[.val (.int p0), .val (.int (0 : Int32)), .val (.int i), .val (.ref w_NOT_EQUAL), .val (.int (5 : Int32)), .val (.int (1 : Int32)), .unset] [(.int ((5 : Int32) >>> ((1 : Int32) &&& 31)))]))
        rw [show ((5 : Int32) >>> ((1 : Int32) &&& 31)) = (2 : Int32) from by decide]
        show W p e below _ (T7.setTop (mkF m 114 #[.val (.int p0), .val (.int (0 : Int32)), .val (.int i), .val (.ref w_NOT_EQUAL), .val (.int (5 : Int32)), .val (.int (1 : Int32)), .unset] [(.int (2 : Int32))]))
        refine W.go (fun _ hr => XS.iconst X7.here hx rfl (hb hby at_114) hr) ?_
        show W p e below _ (T7.setTop (mkF m 115 #[.val (.int p0), .val (.int (0 : Int32)), .val (.int i), .val (.ref w_NOT_EQUAL), .val (.int (5 : Int32)), .val (.int (1 : Int32)), .unset] [(.int (1 : Int32)), (.int (2 : Int32))]))
        refine W.go (fun _ hr => XS.iand X7.here hx rfl (hb hby at_115) rfl hr) ?_
        show W p e below _ (T7.setTop (mkF m 116 #[.val (.int p0), .val (.int (0 : Int32)), .val (.int i), .val (.ref w_NOT_EQUAL), .val (.int (5 : Int32)), .val (.int (1 : Int32)), .unset] [(.int ((2 : Int32) &&& (1 : Int32)))]))
        rw [show ((2 : Int32) &&& (1 : Int32)) = (0 : Int32) from by decide]
        show W p e below _ (T7.setTop (mkF m 116 #[.val (.int p0), .val (.int (0 : Int32)), .val (.int i), .val (.ref w_NOT_EQUAL), .val (.int (5 : Int32)), .val (.int (1 : Int32)), .unset] [(.int (0 : Int32))]))
        refine W.go (fun _ hr => XS.ifYes X7.here hx rfl (pc0 := 116) (pc' := 123) rfl (hb hby at_116) rfl ((if0 _ _).trans (teq (by decide : ((0 : Int32) = (0 : Int32)))).1) (by decide) (by decide) hr) ?_
        show W p e below _ (T7.setTop (mkF m 123 #[.val (.int p0), .val (.int (0 : Int32)), .val (.int i), .val (.ref w_NOT_EQUAL), .val (.int (5 : Int32)), .val (.int (1 : Int32)), .unset] []))
        refine W.go (fun _ hr => XS.iconst X7.here hx rfl (hb hby at_123) hr) ?_
        show W p e below _ (T7.setTop (mkF m 124 #[.val (.int p0), .val (.int (0 : Int32)), .val (.int i), .val (.ref w_NOT_EQUAL), .val (.int (5 : Int32)), .val (.int (1 : Int32)), .unset] [(.int (0 : Int32))]))
        refine W.go (fun _ hr => XS.istore X7.here hx rfl (hb hby at_124) rfl (l' := #[.val (.int p0), .val (.int (0 : Int32)), .val (.int i), .val (.ref w_NOT_EQUAL), .val (.int (5 : Int32)), .val (.int (1 : Int32)), .val (.int (0 : Int32))]) rfl hr) ?_
        show W p e below _ (T7.setTop (mkF m 126 #[.val (.int p0), .val (.int (0 : Int32)), .val (.int i), .val (.ref w_NOT_EQUAL), .val (.int (5 : Int32)), .val (.int (1 : Int32)), .val (.int (0 : Int32))] []))
        refine W.go (fun _ hr => XS.aloadN X7.here hx rfl (hb hby at_126) rfl rfl hr) ?_
        show W p e below _ (T7.setTop (mkF m 127 #[.val (.int p0), .val (.int (0 : Int32)), .val (.int i), .val (.ref w_NOT_EQUAL), .val (.int (5 : Int32)), .val (.int (1 : Int32)), .val (.int (0 : Int32))] [(.ref w_NOT_EQUAL)]))
        refine W.go (fun _ hr => XS.iloadN X7.here hx rfl (hb hby at_127) rfl hr) ?_
        show W p e below _ (T7.setTop (mkF m 128 #[.val (.int p0), .val (.int (0 : Int32)), .val (.int i), .val (.ref w_NOT_EQUAL), .val (.int (5 : Int32)), .val (.int (1 : Int32)), .val (.int (0 : Int32))] [(.int (0 : Int32)), (.ref w_NOT_EQUAL)]))
        refine W.callV X7 hx hZ hown (g := (mkF m 128 #[.val (.int p0), .val (.int (0 : Int32)), .val (.int i), .val (.ref w_NOT_EQUAL), .val (.int (5 : Int32)), .val (.int (1 : Int32)), .val (.int (0 : Int32))] [(.int (0 : Int32)), (.ref w_NOT_EQUAL)])) (by rw [hml]; rfl) (hw _ (List.mem_of_getElem? (i := 4) rfl)) (hw _ (List.mem_of_getElem? (i := 5) rfl)) (hw _ (List.mem_of_getElem? (i := 7) rfl)) (hw _ (List.mem_of_getElem? (i := 6) rfl)) (hw _ (List.mem_of_getElem? (i := 2) rfl)) (hw _ (List.mem_of_getElem? (i := 8) rfl)) e7 (rm1 l Z a0 hw w_NOT_EQUAL (0 : Int32) (1 : Int32) (0 : Int32) h0 n0 Z0 E_w_NOT_EQUAL F_NOT_EQUAL (by decide) (by decide)) (notFace_of_selects (args := #[]) (mvT hZ (hw _ (List.mem_of_getElem? (i := 7) rfl)))) (by decide) pd_45 rfl E_w_NOT_EQUAL (argsL := [(.int (0 : Int32))]) (rest := []) rfl rfl rfl (hb hby at_128) (W0 := 0) rfl (by decide) (by decide) (by decide) (by decide) (fun v9 T9 h9 L9 X9 e9 hQ9 => ?_)
        obtain ⟨rfl, N9q, hh9⟩ := hQ9
        obtain rfl := hh9.symm
        have N9 := Fr.app N0 N9q
        show W p e below _ (T9.setTop (mkF m 131 #[.val (.int p0), .val (.int (0 : Int32)), .val (.int i), .val (.ref w_NOT_EQUAL), .val (.int (5 : Int32)), .val (.int (1 : Int32)), .val (.int (0 : Int32))] [(.int (0 : Int32))]))
        refine W.go (fun _ hr => XS.iload X9.here hx rfl (hb hby at_131) rfl hr) ?_
        show W p e below _ (T9.setTop (mkF m 133 #[.val (.int p0), .val (.int (0 : Int32)), .val (.int i), .val (.ref w_NOT_EQUAL), .val (.int (5 : Int32)), .val (.int (1 : Int32)), .val (.int (0 : Int32))] [(.int (0 : Int32)), (.int (0 : Int32))]))
        refine W.go (fun _ hr => XS.icmpNo X9.here hx rfl (hb hby at_133) rfl (teq (by decide : ((0 : Int32) = (0 : Int32)))).2 hr) ?_
        show W p e below _ (T9.setTop (mkF m 136 #[.val (.int p0), .val (.int (0 : Int32)), .val (.int i), .val (.ref w_NOT_EQUAL), .val (.int (5 : Int32)), .val (.int (1 : Int32)), .val (.int (0 : Int32))] []))
        refine W.go (fun _ hr => XS.iconst X9.here hx rfl (hb hby at_136) hr) ?_
        show W p e below _ (T9.setTop (mkF m 137 #[.val (.int p0), .val (.int (0 : Int32)), .val (.int i), .val (.ref w_NOT_EQUAL), .val (.int (5 : Int32)), .val (.int (1 : Int32)), .val (.int (0 : Int32))] [(.int (1 : Int32))]))
        refine W.go (fun _ hr => XS.goto X9.here hx rfl (pc0 := 137) (pc' := 141) rfl (hb hby at_137) (by decide) (by decide) hr) ?_
        show W p e below _ (T9.setTop (mkF m 141 #[.val (.int p0), .val (.int (0 : Int32)), .val (.int i), .val (.ref w_NOT_EQUAL), .val (.int (5 : Int32)), .val (.int (1 : Int32)), .val (.int (0 : Int32))] [(.int (1 : Int32))]))
        exact W.retB X9 hx hlk (t := .boolean) hret (by simp) (hb hby at_141) (by decide) (by decide) e9 ⟨rfl, N9⟩
      · refine W.go (fun _ hr => XS.iloadN X7.here hx rfl (hb hby at_90) rfl hr) ?_
        show W p e below _ (T7.setTop (mkF m 91 #[.val (.int p0), .val (.int p1), .val (.int i), .val (.ref w_NOT_EQUAL), .val (.int (5 : Int32)), .unset, .unset] [(.int p1)]))
        refine W.go (fun _ hr => XS.ifYes X7.here hx rfl (pc0 := 91) (pc' := 98) rfl (hb hby at_91) rfl ((if0 _ _).trans (flt (q0 : ¬ (p1 < (0 : Int32)))).2.1) (by decide) (by decide) hr) ?_
        show W p e below _ (T7.setTop (mkF m 98 #[.val (.int p0), .val (.int p1), .val (.int i), .val (.ref w_NOT_EQUAL), .val (.int (5 : Int32)), .unset, .unset] []))
        refine W.go (fun _ hr => XS.iloadN X7.here hx rfl (hb hby at_98) rfl hr) ?_
        show W p e below _ (T7.setTop (mkF m 99 #[.val (.int p0), .val (.int p1), .val (.int i), .val (.ref w_NOT_EQUAL), .val (.int (5 : Int32)), .unset, .unset] [(.int p1)]))
        refine W.go (fun _ hr => XS.ifYes X7.here hx rfl (pc0 := 99) (pc' := 106) rfl (hb hby at_99) rfl ((if0 _ _).trans (feq (q1 : ¬ (p1 = (0 : Int32)))).2) (by decide) (by decide) hr) ?_
        show W p e below _ (T7.setTop (mkF m 106 #[.val (.int p0), .val (.int p1), .val (.int i), .val (.ref w_NOT_EQUAL), .val (.int (5 : Int32)), .unset, .unset] []))
        refine W.go (fun _ hr => XS.iconst X7.here hx rfl (hb hby at_106) hr) ?_
        show W p e below _ (T7.setTop (mkF m 107 #[.val (.int p0), .val (.int p1), .val (.int i), .val (.ref w_NOT_EQUAL), .val (.int (5 : Int32)), .unset, .unset] [(.int (2 : Int32))]))
        refine W.go (fun _ hr => XS.istore X7.here hx rfl (hb hby at_107) rfl (l' := #[.val (.int p0), .val (.int p1), .val (.int i), .val (.ref w_NOT_EQUAL), .val (.int (5 : Int32)), .val (.int (2 : Int32)), .unset]) rfl hr) ?_
        show W p e below _ (T7.setTop (mkF m 109 #[.val (.int p0), .val (.int p1), .val (.int i), .val (.ref w_NOT_EQUAL), .val (.int (5 : Int32)), .val (.int (2 : Int32)), .unset] []))
        refine W.go (fun _ hr => XS.iload X7.here hx rfl (hb hby at_109) rfl hr) ?_
        show W p e below _ (T7.setTop (mkF m 111 #[.val (.int p0), .val (.int p1), .val (.int i), .val (.ref w_NOT_EQUAL), .val (.int (5 : Int32)), .val (.int (2 : Int32)), .unset] [(.int (5 : Int32))]))
        refine W.go (fun _ hr => XS.iload X7.here hx rfl (hb hby at_111) rfl hr) ?_
        show W p e below _ (T7.setTop (mkF m 113 #[.val (.int p0), .val (.int p1), .val (.int i), .val (.ref w_NOT_EQUAL), .val (.int (5 : Int32)), .val (.int (2 : Int32)), .unset] [(.int (2 : Int32)), (.int (5 : Int32))]))
        refine W.go (fun _ hr => XS.ishr X7.here hx rfl (hb hby at_113) rfl hr) ?_
        show W p e below _ (T7.setTop (mkF m 114 #[.val (.int p0), .val (.int p1), .val (.int i), .val (.ref w_NOT_EQUAL), .val (.int (5 : Int32)), .val (.int (2 : Int32)), .unset] [(.int ((5 : Int32) >>> ((2 : Int32) &&& 31)))]))
        rw [show ((5 : Int32) >>> ((2 : Int32) &&& 31)) = (1 : Int32) from by decide]
        show W p e below _ (T7.setTop (mkF m 114 #[.val (.int p0), .val (.int p1), .val (.int i), .val (.ref w_NOT_EQUAL), .val (.int (5 : Int32)), .val (.int (2 : Int32)), .unset] [(.int (1 : Int32))]))
        refine W.go (fun _ hr => XS.iconst X7.here hx rfl (hb hby at_114) hr) ?_
        show W p e below _ (T7.setTop (mkF m 115 #[.val (.int p0), .val (.int p1), .val (.int i), .val (.ref w_NOT_EQUAL), .val (.int (5 : Int32)), .val (.int (2 : Int32)), .unset] [(.int (1 : Int32)), (.int (1 : Int32))]))
        refine W.go (fun _ hr => XS.iand X7.here hx rfl (hb hby at_115) rfl hr) ?_
        show W p e below _ (T7.setTop (mkF m 116 #[.val (.int p0), .val (.int p1), .val (.int i), .val (.ref w_NOT_EQUAL), .val (.int (5 : Int32)), .val (.int (2 : Int32)), .unset] [(.int ((1 : Int32) &&& (1 : Int32)))]))
        rw [show ((1 : Int32) &&& (1 : Int32)) = (1 : Int32) from by decide]
        show W p e below _ (T7.setTop (mkF m 116 #[.val (.int p0), .val (.int p1), .val (.int i), .val (.ref w_NOT_EQUAL), .val (.int (5 : Int32)), .val (.int (2 : Int32)), .unset] [(.int (1 : Int32))]))
        refine W.go (fun _ hr => XS.ifNo X7.here hx rfl (hb hby at_116) rfl ((if0 _ _).trans (feq (by decide : ¬ ((1 : Int32) = (0 : Int32)))).1) hr) ?_
        show W p e below _ (T7.setTop (mkF m 119 #[.val (.int p0), .val (.int p1), .val (.int i), .val (.ref w_NOT_EQUAL), .val (.int (5 : Int32)), .val (.int (2 : Int32)), .unset] []))
        refine W.go (fun _ hr => XS.iconst X7.here hx rfl (hb hby at_119) hr) ?_
        show W p e below _ (T7.setTop (mkF m 120 #[.val (.int p0), .val (.int p1), .val (.int i), .val (.ref w_NOT_EQUAL), .val (.int (5 : Int32)), .val (.int (2 : Int32)), .unset] [(.int (1 : Int32))]))
        refine W.go (fun _ hr => XS.goto X7.here hx rfl (pc0 := 120) (pc' := 124) rfl (hb hby at_120) (by decide) (by decide) hr) ?_
        show W p e below _ (T7.setTop (mkF m 124 #[.val (.int p0), .val (.int p1), .val (.int i), .val (.ref w_NOT_EQUAL), .val (.int (5 : Int32)), .val (.int (2 : Int32)), .unset] [(.int (1 : Int32))]))
        refine W.go (fun _ hr => XS.istore X7.here hx rfl (hb hby at_124) rfl (l' := #[.val (.int p0), .val (.int p1), .val (.int i), .val (.ref w_NOT_EQUAL), .val (.int (5 : Int32)), .val (.int (2 : Int32)), .val (.int (1 : Int32))]) rfl hr) ?_
        show W p e below _ (T7.setTop (mkF m 126 #[.val (.int p0), .val (.int p1), .val (.int i), .val (.ref w_NOT_EQUAL), .val (.int (5 : Int32)), .val (.int (2 : Int32)), .val (.int (1 : Int32))] []))
        refine W.go (fun _ hr => XS.aloadN X7.here hx rfl (hb hby at_126) rfl rfl hr) ?_
        show W p e below _ (T7.setTop (mkF m 127 #[.val (.int p0), .val (.int p1), .val (.int i), .val (.ref w_NOT_EQUAL), .val (.int (5 : Int32)), .val (.int (2 : Int32)), .val (.int (1 : Int32))] [(.ref w_NOT_EQUAL)]))
        refine W.go (fun _ hr => XS.iloadN X7.here hx rfl (hb hby at_127) rfl hr) ?_
        show W p e below _ (T7.setTop (mkF m 128 #[.val (.int p0), .val (.int p1), .val (.int i), .val (.ref w_NOT_EQUAL), .val (.int (5 : Int32)), .val (.int (2 : Int32)), .val (.int (1 : Int32))] [(.int p1), (.ref w_NOT_EQUAL)]))
        refine W.callV X7 hx hZ hown (g := (mkF m 128 #[.val (.int p0), .val (.int p1), .val (.int i), .val (.ref w_NOT_EQUAL), .val (.int (5 : Int32)), .val (.int (2 : Int32)), .val (.int (1 : Int32))] [(.int p1), (.ref w_NOT_EQUAL)])) (by rw [hml]; rfl) (hw _ (List.mem_of_getElem? (i := 4) rfl)) (hw _ (List.mem_of_getElem? (i := 5) rfl)) (hw _ (List.mem_of_getElem? (i := 7) rfl)) (hw _ (List.mem_of_getElem? (i := 6) rfl)) (hw _ (List.mem_of_getElem? (i := 2) rfl)) (hw _ (List.mem_of_getElem? (i := 8) rfl)) e7 (rm1 l Z a0 hw w_NOT_EQUAL p1 (1 : Int32) (1 : Int32) h0 n0 Z0 E_w_NOT_EQUAL F_NOT_EQUAL (by decide) (by simp [own_holds, q0, q1, q2])) (notFace_of_selects (args := #[]) (mvT hZ (hw _ (List.mem_of_getElem? (i := 7) rfl)))) (by decide) pd_45 rfl E_w_NOT_EQUAL (argsL := [(.int p1)]) (rest := []) rfl rfl rfl (hb hby at_128) (W0 := 0) rfl (by decide) (by decide) (by decide) (by decide) (fun v10 T10 h10 L10 X10 e10 hQ10 => ?_)
        obtain ⟨rfl, N10q, hh10⟩ := hQ10
        obtain rfl := hh10.symm
        have N10 := Fr.app N0 N10q
        show W p e below _ (T10.setTop (mkF m 131 #[.val (.int p0), .val (.int p1), .val (.int i), .val (.ref w_NOT_EQUAL), .val (.int (5 : Int32)), .val (.int (2 : Int32)), .val (.int (1 : Int32))] [(.int (1 : Int32))]))
        refine W.go (fun _ hr => XS.iload X10.here hx rfl (hb hby at_131) rfl hr) ?_
        show W p e below _ (T10.setTop (mkF m 133 #[.val (.int p0), .val (.int p1), .val (.int i), .val (.ref w_NOT_EQUAL), .val (.int (5 : Int32)), .val (.int (2 : Int32)), .val (.int (1 : Int32))] [(.int (1 : Int32)), (.int (1 : Int32))]))
        refine W.go (fun _ hr => XS.icmpNo X10.here hx rfl (hb hby at_133) rfl (teq (by decide : ((1 : Int32) = (1 : Int32)))).2 hr) ?_
        show W p e below _ (T10.setTop (mkF m 136 #[.val (.int p0), .val (.int p1), .val (.int i), .val (.ref w_NOT_EQUAL), .val (.int (5 : Int32)), .val (.int (2 : Int32)), .val (.int (1 : Int32))] []))
        refine W.go (fun _ hr => XS.iconst X10.here hx rfl (hb hby at_136) hr) ?_
        show W p e below _ (T10.setTop (mkF m 137 #[.val (.int p0), .val (.int p1), .val (.int i), .val (.ref w_NOT_EQUAL), .val (.int (5 : Int32)), .val (.int (2 : Int32)), .val (.int (1 : Int32))] [(.int (1 : Int32))]))
        refine W.go (fun _ hr => XS.goto X10.here hx rfl (pc0 := 137) (pc' := 141) rfl (hb hby at_137) (by decide) (by decide) hr) ?_
        show W p e below _ (T10.setTop (mkF m 141 #[.val (.int p0), .val (.int p1), .val (.int i), .val (.ref w_NOT_EQUAL), .val (.int (5 : Int32)), .val (.int (2 : Int32)), .val (.int (1 : Int32))] [(.int (1 : Int32))]))
        exact W.retB X10 hx hlk (t := .boolean) hret (by simp) (hb hby at_141) (by decide) (by decide) e10 ⟨rfl, N10⟩
    · refine W.go (fun _ hr => XS.icmpYes X0.here hx rfl (pc0 := 24) (pc' := 37) rfl (hb hby at_24) rfl (feq hc24_6).2 (by decide) (by decide) hr) ?_
      show W p e below _ (s₁.setTop (mkF m 37 #[.val (.int p0), .val (.int p1), .val (.int i), .unset, .unset, .unset, .unset] []))
      refine W.go (fun _ hr => XS.iloadN X0.here hx rfl (hb hby at_37) rfl hr) ?_
      show W p e below _ (s₁.setTop (mkF m 38 #[.val (.int p0), .val (.int p1), .val (.int i), .unset, .unset, .unset, .unset] [(.int i)]))
      refine W.go (fun _ hr => XS.iconst X0.here hx rfl (hb hby at_38) hr) ?_
      show W p e below _ (s₁.setTop (mkF m 39 #[.val (.int p0), .val (.int p1), .val (.int i), .unset, .unset, .unset, .unset] [(.int (2 : Int32)), (.int i)]))
      by_cases hc39_11 : i = (2 : Int32)
      · refine W.go (fun _ hr => XS.icmpNo X0.here hx rfl (hb hby at_39) rfl (teq hc39_11).2 hr) ?_
        show W p e below _ (s₁.setTop (mkF m 42 #[.val (.int p0), .val (.int p1), .val (.int i), .unset, .unset, .unset, .unset] []))
        obtain ⟨T12, X12, e12, st12⟩ := getS2 X0 hx hZ hown (host := "") (Or.inl (hw _ (List.mem_of_getElem? (i := 18) rfl))) Via.refl e0 S_LESS (g := (mkF m 42 #[.val (.int p0), .val (.int p1), .val (.int i), .unset, .unset, .unset, .unset] [])) rfl (hb hby at_42)
        refine W.go st12 ?_
        show W p e below _ (T12.setTop (mkF m 45 #[.val (.int p0), .val (.int p1), .val (.int i), .unset, .unset, .unset, .unset] [(.ref w_LESS)]))
        refine W.go (fun _ hr => XS.astoreN X12.here hx rfl (hb hby at_45) rfl rfl (l' := #[.val (.int p0), .val (.int p1), .val (.int i), .val (.ref w_LESS), .unset, .unset, .unset]) rfl hr) ?_
        show W p e below _ (T12.setTop (mkF m 46 #[.val (.int p0), .val (.int p1), .val (.int i), .val (.ref w_LESS), .unset, .unset, .unset] []))
        refine W.go (fun _ hr => XS.iconst X12.here hx rfl (hb hby at_46) hr) ?_
        show W p e below _ (T12.setTop (mkF m 47 #[.val (.int p0), .val (.int p1), .val (.int i), .val (.ref w_LESS), .unset, .unset, .unset] [(.int (1 : Int32))]))
        refine W.go (fun _ hr => XS.istore X12.here hx rfl (hb hby at_47) rfl (l' := #[.val (.int p0), .val (.int p1), .val (.int i), .val (.ref w_LESS), .val (.int (1 : Int32)), .unset, .unset]) rfl hr) ?_
        show W p e below _ (T12.setTop (mkF m 49 #[.val (.int p0), .val (.int p1), .val (.int i), .val (.ref w_LESS), .val (.int (1 : Int32)), .unset, .unset] []))
        refine W.go (fun _ hr => XS.goto X12.here hx rfl (pc0 := 49) (pc' := 90) rfl (hb hby at_49) (by decide) (by decide) hr) ?_
        show W p e below _ (T12.setTop (mkF m 90 #[.val (.int p0), .val (.int p1), .val (.int i), .val (.ref w_LESS), .val (.int (1 : Int32)), .unset, .unset] []))
        rcases own3 p1 with ⟨q0, q1, q2⟩ | rfl | ⟨q0, q1, q2⟩
        · refine W.go (fun _ hr => XS.iloadN X12.here hx rfl (hb hby at_90) rfl hr) ?_
          show W p e below _ (T12.setTop (mkF m 91 #[.val (.int p0), .val (.int p1), .val (.int i), .val (.ref w_LESS), .val (.int (1 : Int32)), .unset, .unset] [(.int p1)]))
          refine W.go (fun _ hr => XS.ifNo X12.here hx rfl (hb hby at_91) rfl ((if0 _ _).trans (tlt (q0 : (p1 < (0 : Int32)))).2.1) hr) ?_
          show W p e below _ (T12.setTop (mkF m 94 #[.val (.int p0), .val (.int p1), .val (.int i), .val (.ref w_LESS), .val (.int (1 : Int32)), .unset, .unset] []))
          refine W.go (fun _ hr => XS.iconst X12.here hx rfl (hb hby at_94) hr) ?_
          show W p e below _ (T12.setTop (mkF m 95 #[.val (.int p0), .val (.int p1), .val (.int i), .val (.ref w_LESS), .val (.int (1 : Int32)), .unset, .unset] [(.int (0 : Int32))]))
          refine W.go (fun _ hr => XS.goto X12.here hx rfl (pc0 := 95) (pc' := 107) rfl (hb hby at_95) (by decide) (by decide) hr) ?_
          show W p e below _ (T12.setTop (mkF m 107 #[.val (.int p0), .val (.int p1), .val (.int i), .val (.ref w_LESS), .val (.int (1 : Int32)), .unset, .unset] [(.int (0 : Int32))]))
          refine W.go (fun _ hr => XS.istore X12.here hx rfl (hb hby at_107) rfl (l' := #[.val (.int p0), .val (.int p1), .val (.int i), .val (.ref w_LESS), .val (.int (1 : Int32)), .val (.int (0 : Int32)), .unset]) rfl hr) ?_
          show W p e below _ (T12.setTop (mkF m 109 #[.val (.int p0), .val (.int p1), .val (.int i), .val (.ref w_LESS), .val (.int (1 : Int32)), .val (.int (0 : Int32)), .unset] []))
          refine W.go (fun _ hr => XS.iload X12.here hx rfl (hb hby at_109) rfl hr) ?_
          show W p e below _ (T12.setTop (mkF m 111 #[.val (.int p0), .val (.int p1), .val (.int i), .val (.ref w_LESS), .val (.int (1 : Int32)), .val (.int (0 : Int32)), .unset] [(.int (1 : Int32))]))
          refine W.go (fun _ hr => XS.iload X12.here hx rfl (hb hby at_111) rfl hr) ?_
          show W p e below _ (T12.setTop (mkF m 113 #[.val (.int p0), .val (.int p1), .val (.int i), .val (.ref w_LESS), .val (.int (1 : Int32)), .val (.int (0 : Int32)), .unset] [(.int (0 : Int32)), (.int (1 : Int32))]))
          refine W.go (fun _ hr => XS.ishr X12.here hx rfl (hb hby at_113) rfl hr) ?_
          show W p e below _ (T12.setTop (mkF m 114 #[.val (.int p0), .val (.int p1), .val (.int i), .val (.ref w_LESS), .val (.int (1 : Int32)), .val (.int (0 : Int32)), .unset] [(.int ((1 : Int32) >>> ((0 : Int32) &&& 31)))]))
          rw [show ((1 : Int32) >>> ((0 : Int32) &&& 31)) = (1 : Int32) from by decide]
          show W p e below _ (T12.setTop (mkF m 114 #[.val (.int p0), .val (.int p1), .val (.int i), .val (.ref w_LESS), .val (.int (1 : Int32)), .val (.int (0 : Int32)), .unset] [(.int (1 : Int32))]))
          refine W.go (fun _ hr => XS.iconst X12.here hx rfl (hb hby at_114) hr) ?_
          show W p e below _ (T12.setTop (mkF m 115 #[.val (.int p0), .val (.int p1), .val (.int i), .val (.ref w_LESS), .val (.int (1 : Int32)), .val (.int (0 : Int32)), .unset] [(.int (1 : Int32)), (.int (1 : Int32))]))
          refine W.go (fun _ hr => XS.iand X12.here hx rfl (hb hby at_115) rfl hr) ?_
          show W p e below _ (T12.setTop (mkF m 116 #[.val (.int p0), .val (.int p1), .val (.int i), .val (.ref w_LESS), .val (.int (1 : Int32)), .val (.int (0 : Int32)), .unset] [(.int ((1 : Int32) &&& (1 : Int32)))]))
          rw [show ((1 : Int32) &&& (1 : Int32)) = (1 : Int32) from by decide]
          show W p e below _ (T12.setTop (mkF m 116 #[.val (.int p0), .val (.int p1), .val (.int i), .val (.ref w_LESS), .val (.int (1 : Int32)), .val (.int (0 : Int32)), .unset] [(.int (1 : Int32))]))
          refine W.go (fun _ hr => XS.ifNo X12.here hx rfl (hb hby at_116) rfl ((if0 _ _).trans (feq (by decide : ¬ ((1 : Int32) = (0 : Int32)))).1) hr) ?_
          show W p e below _ (T12.setTop (mkF m 119 #[.val (.int p0), .val (.int p1), .val (.int i), .val (.ref w_LESS), .val (.int (1 : Int32)), .val (.int (0 : Int32)), .unset] []))
          refine W.go (fun _ hr => XS.iconst X12.here hx rfl (hb hby at_119) hr) ?_
          show W p e below _ (T12.setTop (mkF m 120 #[.val (.int p0), .val (.int p1), .val (.int i), .val (.ref w_LESS), .val (.int (1 : Int32)), .val (.int (0 : Int32)), .unset] [(.int (1 : Int32))]))
          refine W.go (fun _ hr => XS.goto X12.here hx rfl (pc0 := 120) (pc' := 124) rfl (hb hby at_120) (by decide) (by decide) hr) ?_
          show W p e below _ (T12.setTop (mkF m 124 #[.val (.int p0), .val (.int p1), .val (.int i), .val (.ref w_LESS), .val (.int (1 : Int32)), .val (.int (0 : Int32)), .unset] [(.int (1 : Int32))]))
          refine W.go (fun _ hr => XS.istore X12.here hx rfl (hb hby at_124) rfl (l' := #[.val (.int p0), .val (.int p1), .val (.int i), .val (.ref w_LESS), .val (.int (1 : Int32)), .val (.int (0 : Int32)), .val (.int (1 : Int32))]) rfl hr) ?_
          show W p e below _ (T12.setTop (mkF m 126 #[.val (.int p0), .val (.int p1), .val (.int i), .val (.ref w_LESS), .val (.int (1 : Int32)), .val (.int (0 : Int32)), .val (.int (1 : Int32))] []))
          refine W.go (fun _ hr => XS.aloadN X12.here hx rfl (hb hby at_126) rfl rfl hr) ?_
          show W p e below _ (T12.setTop (mkF m 127 #[.val (.int p0), .val (.int p1), .val (.int i), .val (.ref w_LESS), .val (.int (1 : Int32)), .val (.int (0 : Int32)), .val (.int (1 : Int32))] [(.ref w_LESS)]))
          refine W.go (fun _ hr => XS.iloadN X12.here hx rfl (hb hby at_127) rfl hr) ?_
          show W p e below _ (T12.setTop (mkF m 128 #[.val (.int p0), .val (.int p1), .val (.int i), .val (.ref w_LESS), .val (.int (1 : Int32)), .val (.int (0 : Int32)), .val (.int (1 : Int32))] [(.int p1), (.ref w_LESS)]))
          refine W.callV X12 hx hZ hown (g := (mkF m 128 #[.val (.int p0), .val (.int p1), .val (.int i), .val (.ref w_LESS), .val (.int (1 : Int32)), .val (.int (0 : Int32)), .val (.int (1 : Int32))] [(.int p1), (.ref w_LESS)])) (by rw [hml]; rfl) (hw _ (List.mem_of_getElem? (i := 4) rfl)) (hw _ (List.mem_of_getElem? (i := 5) rfl)) (hw _ (List.mem_of_getElem? (i := 7) rfl)) (hw _ (List.mem_of_getElem? (i := 6) rfl)) (hw _ (List.mem_of_getElem? (i := 2) rfl)) (hw _ (List.mem_of_getElem? (i := 8) rfl)) e12 (rm1 l Z a0 hw w_LESS p1 (2 : Int32) (1 : Int32) h0 n0 Z0 E_w_LESS F_LESS (by decide) (by simp [own_holds, q0, q1, q2])) (notFace_of_selects (args := #[]) (mvT hZ (hw _ (List.mem_of_getElem? (i := 7) rfl)))) (by decide) pd_45 rfl E_w_LESS (argsL := [(.int p1)]) (rest := []) rfl rfl rfl (hb hby at_128) (W0 := 0) rfl (by decide) (by decide) (by decide) (by decide) (fun v13 T13 h13 L13 X13 e13 hQ13 => ?_)
          obtain ⟨rfl, N13q, hh13⟩ := hQ13
          obtain rfl := hh13.symm
          have N13 := Fr.app N0 N13q
          show W p e below _ (T13.setTop (mkF m 131 #[.val (.int p0), .val (.int p1), .val (.int i), .val (.ref w_LESS), .val (.int (1 : Int32)), .val (.int (0 : Int32)), .val (.int (1 : Int32))] [(.int (1 : Int32))]))
          refine W.go (fun _ hr => XS.iload X13.here hx rfl (hb hby at_131) rfl hr) ?_
          show W p e below _ (T13.setTop (mkF m 133 #[.val (.int p0), .val (.int p1), .val (.int i), .val (.ref w_LESS), .val (.int (1 : Int32)), .val (.int (0 : Int32)), .val (.int (1 : Int32))] [(.int (1 : Int32)), (.int (1 : Int32))]))
          refine W.go (fun _ hr => XS.icmpNo X13.here hx rfl (hb hby at_133) rfl (teq (by decide : ((1 : Int32) = (1 : Int32)))).2 hr) ?_
          show W p e below _ (T13.setTop (mkF m 136 #[.val (.int p0), .val (.int p1), .val (.int i), .val (.ref w_LESS), .val (.int (1 : Int32)), .val (.int (0 : Int32)), .val (.int (1 : Int32))] []))
          refine W.go (fun _ hr => XS.iconst X13.here hx rfl (hb hby at_136) hr) ?_
          show W p e below _ (T13.setTop (mkF m 137 #[.val (.int p0), .val (.int p1), .val (.int i), .val (.ref w_LESS), .val (.int (1 : Int32)), .val (.int (0 : Int32)), .val (.int (1 : Int32))] [(.int (1 : Int32))]))
          refine W.go (fun _ hr => XS.goto X13.here hx rfl (pc0 := 137) (pc' := 141) rfl (hb hby at_137) (by decide) (by decide) hr) ?_
          show W p e below _ (T13.setTop (mkF m 141 #[.val (.int p0), .val (.int p1), .val (.int i), .val (.ref w_LESS), .val (.int (1 : Int32)), .val (.int (0 : Int32)), .val (.int (1 : Int32))] [(.int (1 : Int32))]))
          exact W.retB X13 hx hlk (t := .boolean) hret (by simp) (hb hby at_141) (by decide) (by decide) e13 ⟨rfl, N13⟩
        · refine W.go (fun _ hr => XS.iloadN X12.here hx rfl (hb hby at_90) rfl hr) ?_
          show W p e below _ (T12.setTop (mkF m 91 #[.val (.int p0), .val (.int (0 : Int32)), .val (.int i), .val (.ref w_LESS), .val (.int (1 : Int32)), .unset, .unset] [(.int (0 : Int32))]))
          refine W.go (fun _ hr => XS.ifYes X12.here hx rfl (pc0 := 91) (pc' := 98) rfl (hb hby at_91) rfl ((if0 _ _).trans (flt (by decide : ¬ ((0 : Int32) < (0 : Int32)))).2.1) (by decide) (by decide) hr) ?_
          show W p e below _ (T12.setTop (mkF m 98 #[.val (.int p0), .val (.int (0 : Int32)), .val (.int i), .val (.ref w_LESS), .val (.int (1 : Int32)), .unset, .unset] []))
          refine W.go (fun _ hr => XS.iloadN X12.here hx rfl (hb hby at_98) rfl hr) ?_
          show W p e below _ (T12.setTop (mkF m 99 #[.val (.int p0), .val (.int (0 : Int32)), .val (.int i), .val (.ref w_LESS), .val (.int (1 : Int32)), .unset, .unset] [(.int (0 : Int32))]))
          refine W.go (fun _ hr => XS.ifNo X12.here hx rfl (hb hby at_99) rfl ((if0 _ _).trans (teq (by decide : ((0 : Int32) = (0 : Int32)))).2) hr) ?_
          show W p e below _ (T12.setTop (mkF m 102 #[.val (.int p0), .val (.int (0 : Int32)), .val (.int i), .val (.ref w_LESS), .val (.int (1 : Int32)), .unset, .unset] []))
          refine W.go (fun _ hr => XS.iconst X12.here hx rfl (hb hby at_102) hr) ?_
          show W p e below _ (T12.setTop (mkF m 103 #[.val (.int p0), .val (.int (0 : Int32)), .val (.int i), .val (.ref w_LESS), .val (.int (1 : Int32)), .unset, .unset] [(.int (1 : Int32))]))
          refine W.go (fun _ hr => XS.goto X12.here hx rfl (pc0 := 103) (pc' := 107) rfl (hb hby at_103) (by decide) (by decide) hr) ?_
          show W p e below _ (T12.setTop (mkF m 107 #[.val (.int p0), .val (.int (0 : Int32)), .val (.int i), .val (.ref w_LESS), .val (.int (1 : Int32)), .unset, .unset] [(.int (1 : Int32))]))
          refine W.go (fun _ hr => XS.istore X12.here hx rfl (hb hby at_107) rfl (l' := #[.val (.int p0), .val (.int (0 : Int32)), .val (.int i), .val (.ref w_LESS), .val (.int (1 : Int32)), .val (.int (1 : Int32)), .unset]) rfl hr) ?_
          show W p e below _ (T12.setTop (mkF m 109 #[.val (.int p0), .val (.int (0 : Int32)), .val (.int i), .val (.ref w_LESS), .val (.int (1 : Int32)), .val (.int (1 : Int32)), .unset] []))
          refine W.go (fun _ hr => XS.iload X12.here hx rfl (hb hby at_109) rfl hr) ?_
          show W p e below _ (T12.setTop (mkF m 111 #[.val (.int p0), .val (.int (0 : Int32)), .val (.int i), .val (.ref w_LESS), .val (.int (1 : Int32)), .val (.int (1 : Int32)), .unset] [(.int (1 : Int32))]))
          refine W.go (fun _ hr => XS.iload X12.here hx rfl (hb hby at_111) rfl hr) ?_
          show W p e below _ (T12.setTop (mkF m 113 #[.val (.int p0), .val (.int (0 : Int32)), .val (.int i), .val (.ref w_LESS), .val (.int (1 : Int32)), .val (.int (1 : Int32)), .unset] [(.int (1 : Int32)), (.int (1 : Int32))]))
          refine W.go (fun _ hr => XS.ishr X12.here hx rfl (hb hby at_113) rfl hr) ?_
          show W p e below _ (T12.setTop (mkF m 114 #[.val (.int p0), .val (.int (0 : Int32)), .val (.int i), .val (.ref w_LESS), .val (.int (1 : Int32)), .val (.int (1 : Int32)), .unset] [(.int ((1 : Int32) >>> ((1 : Int32) &&& 31)))]))
          rw [show ((1 : Int32) >>> ((1 : Int32) &&& 31)) = (0 : Int32) from by decide]
          show W p e below _ (T12.setTop (mkF m 114 #[.val (.int p0), .val (.int (0 : Int32)), .val (.int i), .val (.ref w_LESS), .val (.int (1 : Int32)), .val (.int (1 : Int32)), .unset] [(.int (0 : Int32))]))
          refine W.go (fun _ hr => XS.iconst X12.here hx rfl (hb hby at_114) hr) ?_
          show W p e below _ (T12.setTop (mkF m 115 #[.val (.int p0), .val (.int (0 : Int32)), .val (.int i), .val (.ref w_LESS), .val (.int (1 : Int32)), .val (.int (1 : Int32)), .unset] [(.int (1 : Int32)), (.int (0 : Int32))]))
          refine W.go (fun _ hr => XS.iand X12.here hx rfl (hb hby at_115) rfl hr) ?_
          show W p e below _ (T12.setTop (mkF m 116 #[.val (.int p0), .val (.int (0 : Int32)), .val (.int i), .val (.ref w_LESS), .val (.int (1 : Int32)), .val (.int (1 : Int32)), .unset] [(.int ((0 : Int32) &&& (1 : Int32)))]))
          rw [show ((0 : Int32) &&& (1 : Int32)) = (0 : Int32) from by decide]
          show W p e below _ (T12.setTop (mkF m 116 #[.val (.int p0), .val (.int (0 : Int32)), .val (.int i), .val (.ref w_LESS), .val (.int (1 : Int32)), .val (.int (1 : Int32)), .unset] [(.int (0 : Int32))]))
          refine W.go (fun _ hr => XS.ifYes X12.here hx rfl (pc0 := 116) (pc' := 123) rfl (hb hby at_116) rfl ((if0 _ _).trans (teq (by decide : ((0 : Int32) = (0 : Int32)))).1) (by decide) (by decide) hr) ?_
          show W p e below _ (T12.setTop (mkF m 123 #[.val (.int p0), .val (.int (0 : Int32)), .val (.int i), .val (.ref w_LESS), .val (.int (1 : Int32)), .val (.int (1 : Int32)), .unset] []))
          refine W.go (fun _ hr => XS.iconst X12.here hx rfl (hb hby at_123) hr) ?_
          show W p e below _ (T12.setTop (mkF m 124 #[.val (.int p0), .val (.int (0 : Int32)), .val (.int i), .val (.ref w_LESS), .val (.int (1 : Int32)), .val (.int (1 : Int32)), .unset] [(.int (0 : Int32))]))
          refine W.go (fun _ hr => XS.istore X12.here hx rfl (hb hby at_124) rfl (l' := #[.val (.int p0), .val (.int (0 : Int32)), .val (.int i), .val (.ref w_LESS), .val (.int (1 : Int32)), .val (.int (1 : Int32)), .val (.int (0 : Int32))]) rfl hr) ?_
          show W p e below _ (T12.setTop (mkF m 126 #[.val (.int p0), .val (.int (0 : Int32)), .val (.int i), .val (.ref w_LESS), .val (.int (1 : Int32)), .val (.int (1 : Int32)), .val (.int (0 : Int32))] []))
          refine W.go (fun _ hr => XS.aloadN X12.here hx rfl (hb hby at_126) rfl rfl hr) ?_
          show W p e below _ (T12.setTop (mkF m 127 #[.val (.int p0), .val (.int (0 : Int32)), .val (.int i), .val (.ref w_LESS), .val (.int (1 : Int32)), .val (.int (1 : Int32)), .val (.int (0 : Int32))] [(.ref w_LESS)]))
          refine W.go (fun _ hr => XS.iloadN X12.here hx rfl (hb hby at_127) rfl hr) ?_
          show W p e below _ (T12.setTop (mkF m 128 #[.val (.int p0), .val (.int (0 : Int32)), .val (.int i), .val (.ref w_LESS), .val (.int (1 : Int32)), .val (.int (1 : Int32)), .val (.int (0 : Int32))] [(.int (0 : Int32)), (.ref w_LESS)]))
          refine W.callV X12 hx hZ hown (g := (mkF m 128 #[.val (.int p0), .val (.int (0 : Int32)), .val (.int i), .val (.ref w_LESS), .val (.int (1 : Int32)), .val (.int (1 : Int32)), .val (.int (0 : Int32))] [(.int (0 : Int32)), (.ref w_LESS)])) (by rw [hml]; rfl) (hw _ (List.mem_of_getElem? (i := 4) rfl)) (hw _ (List.mem_of_getElem? (i := 5) rfl)) (hw _ (List.mem_of_getElem? (i := 7) rfl)) (hw _ (List.mem_of_getElem? (i := 6) rfl)) (hw _ (List.mem_of_getElem? (i := 2) rfl)) (hw _ (List.mem_of_getElem? (i := 8) rfl)) e12 (rm1 l Z a0 hw w_LESS (0 : Int32) (2 : Int32) (0 : Int32) h0 n0 Z0 E_w_LESS F_LESS (by decide) (by decide)) (notFace_of_selects (args := #[]) (mvT hZ (hw _ (List.mem_of_getElem? (i := 7) rfl)))) (by decide) pd_45 rfl E_w_LESS (argsL := [(.int (0 : Int32))]) (rest := []) rfl rfl rfl (hb hby at_128) (W0 := 0) rfl (by decide) (by decide) (by decide) (by decide) (fun v14 T14 h14 L14 X14 e14 hQ14 => ?_)
          obtain ⟨rfl, N14q, hh14⟩ := hQ14
          obtain rfl := hh14.symm
          have N14 := Fr.app N0 N14q
          show W p e below _ (T14.setTop (mkF m 131 #[.val (.int p0), .val (.int (0 : Int32)), .val (.int i), .val (.ref w_LESS), .val (.int (1 : Int32)), .val (.int (1 : Int32)), .val (.int (0 : Int32))] [(.int (0 : Int32))]))
          refine W.go (fun _ hr => XS.iload X14.here hx rfl (hb hby at_131) rfl hr) ?_
          show W p e below _ (T14.setTop (mkF m 133 #[.val (.int p0), .val (.int (0 : Int32)), .val (.int i), .val (.ref w_LESS), .val (.int (1 : Int32)), .val (.int (1 : Int32)), .val (.int (0 : Int32))] [(.int (0 : Int32)), (.int (0 : Int32))]))
          refine W.go (fun _ hr => XS.icmpNo X14.here hx rfl (hb hby at_133) rfl (teq (by decide : ((0 : Int32) = (0 : Int32)))).2 hr) ?_
          show W p e below _ (T14.setTop (mkF m 136 #[.val (.int p0), .val (.int (0 : Int32)), .val (.int i), .val (.ref w_LESS), .val (.int (1 : Int32)), .val (.int (1 : Int32)), .val (.int (0 : Int32))] []))
          refine W.go (fun _ hr => XS.iconst X14.here hx rfl (hb hby at_136) hr) ?_
          show W p e below _ (T14.setTop (mkF m 137 #[.val (.int p0), .val (.int (0 : Int32)), .val (.int i), .val (.ref w_LESS), .val (.int (1 : Int32)), .val (.int (1 : Int32)), .val (.int (0 : Int32))] [(.int (1 : Int32))]))
          refine W.go (fun _ hr => XS.goto X14.here hx rfl (pc0 := 137) (pc' := 141) rfl (hb hby at_137) (by decide) (by decide) hr) ?_
          show W p e below _ (T14.setTop (mkF m 141 #[.val (.int p0), .val (.int (0 : Int32)), .val (.int i), .val (.ref w_LESS), .val (.int (1 : Int32)), .val (.int (1 : Int32)), .val (.int (0 : Int32))] [(.int (1 : Int32))]))
          exact W.retB X14 hx hlk (t := .boolean) hret (by simp) (hb hby at_141) (by decide) (by decide) e14 ⟨rfl, N14⟩
        · refine W.go (fun _ hr => XS.iloadN X12.here hx rfl (hb hby at_90) rfl hr) ?_
          show W p e below _ (T12.setTop (mkF m 91 #[.val (.int p0), .val (.int p1), .val (.int i), .val (.ref w_LESS), .val (.int (1 : Int32)), .unset, .unset] [(.int p1)]))
          refine W.go (fun _ hr => XS.ifYes X12.here hx rfl (pc0 := 91) (pc' := 98) rfl (hb hby at_91) rfl ((if0 _ _).trans (flt (q0 : ¬ (p1 < (0 : Int32)))).2.1) (by decide) (by decide) hr) ?_
          show W p e below _ (T12.setTop (mkF m 98 #[.val (.int p0), .val (.int p1), .val (.int i), .val (.ref w_LESS), .val (.int (1 : Int32)), .unset, .unset] []))
          refine W.go (fun _ hr => XS.iloadN X12.here hx rfl (hb hby at_98) rfl hr) ?_
          show W p e below _ (T12.setTop (mkF m 99 #[.val (.int p0), .val (.int p1), .val (.int i), .val (.ref w_LESS), .val (.int (1 : Int32)), .unset, .unset] [(.int p1)]))
          refine W.go (fun _ hr => XS.ifYes X12.here hx rfl (pc0 := 99) (pc' := 106) rfl (hb hby at_99) rfl ((if0 _ _).trans (feq (q1 : ¬ (p1 = (0 : Int32)))).2) (by decide) (by decide) hr) ?_
          show W p e below _ (T12.setTop (mkF m 106 #[.val (.int p0), .val (.int p1), .val (.int i), .val (.ref w_LESS), .val (.int (1 : Int32)), .unset, .unset] []))
          refine W.go (fun _ hr => XS.iconst X12.here hx rfl (hb hby at_106) hr) ?_
          show W p e below _ (T12.setTop (mkF m 107 #[.val (.int p0), .val (.int p1), .val (.int i), .val (.ref w_LESS), .val (.int (1 : Int32)), .unset, .unset] [(.int (2 : Int32))]))
          refine W.go (fun _ hr => XS.istore X12.here hx rfl (hb hby at_107) rfl (l' := #[.val (.int p0), .val (.int p1), .val (.int i), .val (.ref w_LESS), .val (.int (1 : Int32)), .val (.int (2 : Int32)), .unset]) rfl hr) ?_
          show W p e below _ (T12.setTop (mkF m 109 #[.val (.int p0), .val (.int p1), .val (.int i), .val (.ref w_LESS), .val (.int (1 : Int32)), .val (.int (2 : Int32)), .unset] []))
          refine W.go (fun _ hr => XS.iload X12.here hx rfl (hb hby at_109) rfl hr) ?_
          show W p e below _ (T12.setTop (mkF m 111 #[.val (.int p0), .val (.int p1), .val (.int i), .val (.ref w_LESS), .val (.int (1 : Int32)), .val (.int (2 : Int32)), .unset] [(.int (1 : Int32))]))
          refine W.go (fun _ hr => XS.iload X12.here hx rfl (hb hby at_111) rfl hr) ?_
          show W p e below _ (T12.setTop (mkF m 113 #[.val (.int p0), .val (.int p1), .val (.int i), .val (.ref w_LESS), .val (.int (1 : Int32)), .val (.int (2 : Int32)), .unset] [(.int (2 : Int32)), (.int (1 : Int32))]))
          refine W.go (fun _ hr => XS.ishr X12.here hx rfl (hb hby at_113) rfl hr) ?_
          show W p e below _ (T12.setTop (mkF m 114 #[.val (.int p0), .val (.int p1), .val (.int i), .val (.ref w_LESS), .val (.int (1 : Int32)), .val (.int (2 : Int32)), .unset] [(.int ((1 : Int32) >>> ((2 : Int32) &&& 31)))]))
          rw [show ((1 : Int32) >>> ((2 : Int32) &&& 31)) = (0 : Int32) from by decide]
          show W p e below _ (T12.setTop (mkF m 114 #[.val (.int p0), .val (.int p1), .val (.int i), .val (.ref w_LESS), .val (.int (1 : Int32)), .val (.int (2 : Int32)), .unset] [(.int (0 : Int32))]))
          refine W.go (fun _ hr => XS.iconst X12.here hx rfl (hb hby at_114) hr) ?_
          show W p e below _ (T12.setTop (mkF m 115 #[.val (.int p0), .val (.int p1), .val (.int i), .val (.ref w_LESS), .val (.int (1 : Int32)), .val (.int (2 : Int32)), .unset] [(.int (1 : Int32)), (.int (0 : Int32))]))
          refine W.go (fun _ hr => XS.iand X12.here hx rfl (hb hby at_115) rfl hr) ?_
          show W p e below _ (T12.setTop (mkF m 116 #[.val (.int p0), .val (.int p1), .val (.int i), .val (.ref w_LESS), .val (.int (1 : Int32)), .val (.int (2 : Int32)), .unset] [(.int ((0 : Int32) &&& (1 : Int32)))]))
          rw [show ((0 : Int32) &&& (1 : Int32)) = (0 : Int32) from by decide]
          show W p e below _ (T12.setTop (mkF m 116 #[.val (.int p0), .val (.int p1), .val (.int i), .val (.ref w_LESS), .val (.int (1 : Int32)), .val (.int (2 : Int32)), .unset] [(.int (0 : Int32))]))
          refine W.go (fun _ hr => XS.ifYes X12.here hx rfl (pc0 := 116) (pc' := 123) rfl (hb hby at_116) rfl ((if0 _ _).trans (teq (by decide : ((0 : Int32) = (0 : Int32)))).1) (by decide) (by decide) hr) ?_
          show W p e below _ (T12.setTop (mkF m 123 #[.val (.int p0), .val (.int p1), .val (.int i), .val (.ref w_LESS), .val (.int (1 : Int32)), .val (.int (2 : Int32)), .unset] []))
          refine W.go (fun _ hr => XS.iconst X12.here hx rfl (hb hby at_123) hr) ?_
          show W p e below _ (T12.setTop (mkF m 124 #[.val (.int p0), .val (.int p1), .val (.int i), .val (.ref w_LESS), .val (.int (1 : Int32)), .val (.int (2 : Int32)), .unset] [(.int (0 : Int32))]))
          refine W.go (fun _ hr => XS.istore X12.here hx rfl (hb hby at_124) rfl (l' := #[.val (.int p0), .val (.int p1), .val (.int i), .val (.ref w_LESS), .val (.int (1 : Int32)), .val (.int (2 : Int32)), .val (.int (0 : Int32))]) rfl hr) ?_
          show W p e below _ (T12.setTop (mkF m 126 #[.val (.int p0), .val (.int p1), .val (.int i), .val (.ref w_LESS), .val (.int (1 : Int32)), .val (.int (2 : Int32)), .val (.int (0 : Int32))] []))
          refine W.go (fun _ hr => XS.aloadN X12.here hx rfl (hb hby at_126) rfl rfl hr) ?_
          show W p e below _ (T12.setTop (mkF m 127 #[.val (.int p0), .val (.int p1), .val (.int i), .val (.ref w_LESS), .val (.int (1 : Int32)), .val (.int (2 : Int32)), .val (.int (0 : Int32))] [(.ref w_LESS)]))
          refine W.go (fun _ hr => XS.iloadN X12.here hx rfl (hb hby at_127) rfl hr) ?_
          show W p e below _ (T12.setTop (mkF m 128 #[.val (.int p0), .val (.int p1), .val (.int i), .val (.ref w_LESS), .val (.int (1 : Int32)), .val (.int (2 : Int32)), .val (.int (0 : Int32))] [(.int p1), (.ref w_LESS)]))
          refine W.callV X12 hx hZ hown (g := (mkF m 128 #[.val (.int p0), .val (.int p1), .val (.int i), .val (.ref w_LESS), .val (.int (1 : Int32)), .val (.int (2 : Int32)), .val (.int (0 : Int32))] [(.int p1), (.ref w_LESS)])) (by rw [hml]; rfl) (hw _ (List.mem_of_getElem? (i := 4) rfl)) (hw _ (List.mem_of_getElem? (i := 5) rfl)) (hw _ (List.mem_of_getElem? (i := 7) rfl)) (hw _ (List.mem_of_getElem? (i := 6) rfl)) (hw _ (List.mem_of_getElem? (i := 2) rfl)) (hw _ (List.mem_of_getElem? (i := 8) rfl)) e12 (rm1 l Z a0 hw w_LESS p1 (2 : Int32) (0 : Int32) h0 n0 Z0 E_w_LESS F_LESS (by decide) (by simp [own_holds, q0, q1, q2])) (notFace_of_selects (args := #[]) (mvT hZ (hw _ (List.mem_of_getElem? (i := 7) rfl)))) (by decide) pd_45 rfl E_w_LESS (argsL := [(.int p1)]) (rest := []) rfl rfl rfl (hb hby at_128) (W0 := 0) rfl (by decide) (by decide) (by decide) (by decide) (fun v15 T15 h15 L15 X15 e15 hQ15 => ?_)
          obtain ⟨rfl, N15q, hh15⟩ := hQ15
          obtain rfl := hh15.symm
          have N15 := Fr.app N0 N15q
          show W p e below _ (T15.setTop (mkF m 131 #[.val (.int p0), .val (.int p1), .val (.int i), .val (.ref w_LESS), .val (.int (1 : Int32)), .val (.int (2 : Int32)), .val (.int (0 : Int32))] [(.int (0 : Int32))]))
          refine W.go (fun _ hr => XS.iload X15.here hx rfl (hb hby at_131) rfl hr) ?_
          show W p e below _ (T15.setTop (mkF m 133 #[.val (.int p0), .val (.int p1), .val (.int i), .val (.ref w_LESS), .val (.int (1 : Int32)), .val (.int (2 : Int32)), .val (.int (0 : Int32))] [(.int (0 : Int32)), (.int (0 : Int32))]))
          refine W.go (fun _ hr => XS.icmpNo X15.here hx rfl (hb hby at_133) rfl (teq (by decide : ((0 : Int32) = (0 : Int32)))).2 hr) ?_
          show W p e below _ (T15.setTop (mkF m 136 #[.val (.int p0), .val (.int p1), .val (.int i), .val (.ref w_LESS), .val (.int (1 : Int32)), .val (.int (2 : Int32)), .val (.int (0 : Int32))] []))
          refine W.go (fun _ hr => XS.iconst X15.here hx rfl (hb hby at_136) hr) ?_
          show W p e below _ (T15.setTop (mkF m 137 #[.val (.int p0), .val (.int p1), .val (.int i), .val (.ref w_LESS), .val (.int (1 : Int32)), .val (.int (2 : Int32)), .val (.int (0 : Int32))] [(.int (1 : Int32))]))
          refine W.go (fun _ hr => XS.goto X15.here hx rfl (pc0 := 137) (pc' := 141) rfl (hb hby at_137) (by decide) (by decide) hr) ?_
          show W p e below _ (T15.setTop (mkF m 141 #[.val (.int p0), .val (.int p1), .val (.int i), .val (.ref w_LESS), .val (.int (1 : Int32)), .val (.int (2 : Int32)), .val (.int (0 : Int32))] [(.int (1 : Int32))]))
          exact W.retB X15 hx hlk (t := .boolean) hret (by simp) (hb hby at_141) (by decide) (by decide) e15 ⟨rfl, N15⟩
      · refine W.go (fun _ hr => XS.icmpYes X0.here hx rfl (pc0 := 39) (pc' := 52) rfl (hb hby at_39) rfl (feq hc39_11).2 (by decide) (by decide) hr) ?_
        show W p e below _ (s₁.setTop (mkF m 52 #[.val (.int p0), .val (.int p1), .val (.int i), .unset, .unset, .unset, .unset] []))
        refine W.go (fun _ hr => XS.iloadN X0.here hx rfl (hb hby at_52) rfl hr) ?_
        show W p e below _ (s₁.setTop (mkF m 53 #[.val (.int p0), .val (.int p1), .val (.int i), .unset, .unset, .unset, .unset] [(.int i)]))
        refine W.go (fun _ hr => XS.iconst X0.here hx rfl (hb hby at_53) hr) ?_
        show W p e below _ (s₁.setTop (mkF m 54 #[.val (.int p0), .val (.int p1), .val (.int i), .unset, .unset, .unset, .unset] [(.int (3 : Int32)), (.int i)]))
        by_cases hc54_16 : i = (3 : Int32)
        · refine W.go (fun _ hr => XS.icmpNo X0.here hx rfl (hb hby at_54) rfl (teq hc54_16).2 hr) ?_
          show W p e below _ (s₁.setTop (mkF m 57 #[.val (.int p0), .val (.int p1), .val (.int i), .unset, .unset, .unset, .unset] []))
          obtain ⟨T17, X17, e17, st17⟩ := getS2 X0 hx hZ hown (host := "") (Or.inl (hw _ (List.mem_of_getElem? (i := 26) rfl))) Via.refl e0 S_LESS_OR_EQUAL (g := (mkF m 57 #[.val (.int p0), .val (.int p1), .val (.int i), .unset, .unset, .unset, .unset] [])) rfl (hb hby at_57)
          refine W.go st17 ?_
          show W p e below _ (T17.setTop (mkF m 60 #[.val (.int p0), .val (.int p1), .val (.int i), .unset, .unset, .unset, .unset] [(.ref w_LESS_OR_EQUAL)]))
          refine W.go (fun _ hr => XS.astoreN X17.here hx rfl (hb hby at_60) rfl rfl (l' := #[.val (.int p0), .val (.int p1), .val (.int i), .val (.ref w_LESS_OR_EQUAL), .unset, .unset, .unset]) rfl hr) ?_
          show W p e below _ (T17.setTop (mkF m 61 #[.val (.int p0), .val (.int p1), .val (.int i), .val (.ref w_LESS_OR_EQUAL), .unset, .unset, .unset] []))
          refine W.go (fun _ hr => XS.iconst X17.here hx rfl (hb hby at_61) hr) ?_
          show W p e below _ (T17.setTop (mkF m 62 #[.val (.int p0), .val (.int p1), .val (.int i), .val (.ref w_LESS_OR_EQUAL), .unset, .unset, .unset] [(.int (3 : Int32))]))
          refine W.go (fun _ hr => XS.istore X17.here hx rfl (hb hby at_62) rfl (l' := #[.val (.int p0), .val (.int p1), .val (.int i), .val (.ref w_LESS_OR_EQUAL), .val (.int (3 : Int32)), .unset, .unset]) rfl hr) ?_
          show W p e below _ (T17.setTop (mkF m 64 #[.val (.int p0), .val (.int p1), .val (.int i), .val (.ref w_LESS_OR_EQUAL), .val (.int (3 : Int32)), .unset, .unset] []))
          refine W.go (fun _ hr => XS.goto X17.here hx rfl (pc0 := 64) (pc' := 90) rfl (hb hby at_64) (by decide) (by decide) hr) ?_
          show W p e below _ (T17.setTop (mkF m 90 #[.val (.int p0), .val (.int p1), .val (.int i), .val (.ref w_LESS_OR_EQUAL), .val (.int (3 : Int32)), .unset, .unset] []))
          rcases own3 p1 with ⟨q0, q1, q2⟩ | rfl | ⟨q0, q1, q2⟩
          · refine W.go (fun _ hr => XS.iloadN X17.here hx rfl (hb hby at_90) rfl hr) ?_
            show W p e below _ (T17.setTop (mkF m 91 #[.val (.int p0), .val (.int p1), .val (.int i), .val (.ref w_LESS_OR_EQUAL), .val (.int (3 : Int32)), .unset, .unset] [(.int p1)]))
            refine W.go (fun _ hr => XS.ifNo X17.here hx rfl (hb hby at_91) rfl ((if0 _ _).trans (tlt (q0 : (p1 < (0 : Int32)))).2.1) hr) ?_
            show W p e below _ (T17.setTop (mkF m 94 #[.val (.int p0), .val (.int p1), .val (.int i), .val (.ref w_LESS_OR_EQUAL), .val (.int (3 : Int32)), .unset, .unset] []))
            refine W.go (fun _ hr => XS.iconst X17.here hx rfl (hb hby at_94) hr) ?_
            show W p e below _ (T17.setTop (mkF m 95 #[.val (.int p0), .val (.int p1), .val (.int i), .val (.ref w_LESS_OR_EQUAL), .val (.int (3 : Int32)), .unset, .unset] [(.int (0 : Int32))]))
            refine W.go (fun _ hr => XS.goto X17.here hx rfl (pc0 := 95) (pc' := 107) rfl (hb hby at_95) (by decide) (by decide) hr) ?_
            show W p e below _ (T17.setTop (mkF m 107 #[.val (.int p0), .val (.int p1), .val (.int i), .val (.ref w_LESS_OR_EQUAL), .val (.int (3 : Int32)), .unset, .unset] [(.int (0 : Int32))]))
            refine W.go (fun _ hr => XS.istore X17.here hx rfl (hb hby at_107) rfl (l' := #[.val (.int p0), .val (.int p1), .val (.int i), .val (.ref w_LESS_OR_EQUAL), .val (.int (3 : Int32)), .val (.int (0 : Int32)), .unset]) rfl hr) ?_
            show W p e below _ (T17.setTop (mkF m 109 #[.val (.int p0), .val (.int p1), .val (.int i), .val (.ref w_LESS_OR_EQUAL), .val (.int (3 : Int32)), .val (.int (0 : Int32)), .unset] []))
            refine W.go (fun _ hr => XS.iload X17.here hx rfl (hb hby at_109) rfl hr) ?_
            show W p e below _ (T17.setTop (mkF m 111 #[.val (.int p0), .val (.int p1), .val (.int i), .val (.ref w_LESS_OR_EQUAL), .val (.int (3 : Int32)), .val (.int (0 : Int32)), .unset] [(.int (3 : Int32))]))
            refine W.go (fun _ hr => XS.iload X17.here hx rfl (hb hby at_111) rfl hr) ?_
            show W p e below _ (T17.setTop (mkF m 113 #[.val (.int p0), .val (.int p1), .val (.int i), .val (.ref w_LESS_OR_EQUAL), .val (.int (3 : Int32)), .val (.int (0 : Int32)), .unset] [(.int (0 : Int32)), (.int (3 : Int32))]))
            refine W.go (fun _ hr => XS.ishr X17.here hx rfl (hb hby at_113) rfl hr) ?_
            show W p e below _ (T17.setTop (mkF m 114 #[.val (.int p0), .val (.int p1), .val (.int i), .val (.ref w_LESS_OR_EQUAL), .val (.int (3 : Int32)), .val (.int (0 : Int32)), .unset] [(.int ((3 : Int32) >>> ((0 : Int32) &&& 31)))]))
            rw [show ((3 : Int32) >>> ((0 : Int32) &&& 31)) = (3 : Int32) from by decide]
            show W p e below _ (T17.setTop (mkF m 114 #[.val (.int p0), .val (.int p1), .val (.int i), .val (.ref w_LESS_OR_EQUAL), .val (.int (3 : Int32)), .val (.int (0 : Int32)), .unset] [(.int (3 : Int32))]))
            refine W.go (fun _ hr => XS.iconst X17.here hx rfl (hb hby at_114) hr) ?_
            show W p e below _ (T17.setTop (mkF m 115 #[.val (.int p0), .val (.int p1), .val (.int i), .val (.ref w_LESS_OR_EQUAL), .val (.int (3 : Int32)), .val (.int (0 : Int32)), .unset] [(.int (1 : Int32)), (.int (3 : Int32))]))
            refine W.go (fun _ hr => XS.iand X17.here hx rfl (hb hby at_115) rfl hr) ?_
            show W p e below _ (T17.setTop (mkF m 116 #[.val (.int p0), .val (.int p1), .val (.int i), .val (.ref w_LESS_OR_EQUAL), .val (.int (3 : Int32)), .val (.int (0 : Int32)), .unset] [(.int ((3 : Int32) &&& (1 : Int32)))]))
            rw [show ((3 : Int32) &&& (1 : Int32)) = (1 : Int32) from by decide]
            show W p e below _ (T17.setTop (mkF m 116 #[.val (.int p0), .val (.int p1), .val (.int i), .val (.ref w_LESS_OR_EQUAL), .val (.int (3 : Int32)), .val (.int (0 : Int32)), .unset] [(.int (1 : Int32))]))
            refine W.go (fun _ hr => XS.ifNo X17.here hx rfl (hb hby at_116) rfl ((if0 _ _).trans (feq (by decide : ¬ ((1 : Int32) = (0 : Int32)))).1) hr) ?_
            show W p e below _ (T17.setTop (mkF m 119 #[.val (.int p0), .val (.int p1), .val (.int i), .val (.ref w_LESS_OR_EQUAL), .val (.int (3 : Int32)), .val (.int (0 : Int32)), .unset] []))
            refine W.go (fun _ hr => XS.iconst X17.here hx rfl (hb hby at_119) hr) ?_
            show W p e below _ (T17.setTop (mkF m 120 #[.val (.int p0), .val (.int p1), .val (.int i), .val (.ref w_LESS_OR_EQUAL), .val (.int (3 : Int32)), .val (.int (0 : Int32)), .unset] [(.int (1 : Int32))]))
            refine W.go (fun _ hr => XS.goto X17.here hx rfl (pc0 := 120) (pc' := 124) rfl (hb hby at_120) (by decide) (by decide) hr) ?_
            show W p e below _ (T17.setTop (mkF m 124 #[.val (.int p0), .val (.int p1), .val (.int i), .val (.ref w_LESS_OR_EQUAL), .val (.int (3 : Int32)), .val (.int (0 : Int32)), .unset] [(.int (1 : Int32))]))
            refine W.go (fun _ hr => XS.istore X17.here hx rfl (hb hby at_124) rfl (l' := #[.val (.int p0), .val (.int p1), .val (.int i), .val (.ref w_LESS_OR_EQUAL), .val (.int (3 : Int32)), .val (.int (0 : Int32)), .val (.int (1 : Int32))]) rfl hr) ?_
            show W p e below _ (T17.setTop (mkF m 126 #[.val (.int p0), .val (.int p1), .val (.int i), .val (.ref w_LESS_OR_EQUAL), .val (.int (3 : Int32)), .val (.int (0 : Int32)), .val (.int (1 : Int32))] []))
            refine W.go (fun _ hr => XS.aloadN X17.here hx rfl (hb hby at_126) rfl rfl hr) ?_
            show W p e below _ (T17.setTop (mkF m 127 #[.val (.int p0), .val (.int p1), .val (.int i), .val (.ref w_LESS_OR_EQUAL), .val (.int (3 : Int32)), .val (.int (0 : Int32)), .val (.int (1 : Int32))] [(.ref w_LESS_OR_EQUAL)]))
            refine W.go (fun _ hr => XS.iloadN X17.here hx rfl (hb hby at_127) rfl hr) ?_
            show W p e below _ (T17.setTop (mkF m 128 #[.val (.int p0), .val (.int p1), .val (.int i), .val (.ref w_LESS_OR_EQUAL), .val (.int (3 : Int32)), .val (.int (0 : Int32)), .val (.int (1 : Int32))] [(.int p1), (.ref w_LESS_OR_EQUAL)]))
            refine W.callV X17 hx hZ hown (g := (mkF m 128 #[.val (.int p0), .val (.int p1), .val (.int i), .val (.ref w_LESS_OR_EQUAL), .val (.int (3 : Int32)), .val (.int (0 : Int32)), .val (.int (1 : Int32))] [(.int p1), (.ref w_LESS_OR_EQUAL)])) (by rw [hml]; rfl) (hw _ (List.mem_of_getElem? (i := 4) rfl)) (hw _ (List.mem_of_getElem? (i := 5) rfl)) (hw _ (List.mem_of_getElem? (i := 7) rfl)) (hw _ (List.mem_of_getElem? (i := 6) rfl)) (hw _ (List.mem_of_getElem? (i := 2) rfl)) (hw _ (List.mem_of_getElem? (i := 8) rfl)) e17 (rm1 l Z a0 hw w_LESS_OR_EQUAL p1 (3 : Int32) (1 : Int32) h0 n0 Z0 E_w_LESS_OR_EQUAL F_LESS_OR_EQUAL (by decide) (by simp [own_holds, q0, q1, q2])) (notFace_of_selects (args := #[]) (mvT hZ (hw _ (List.mem_of_getElem? (i := 7) rfl)))) (by decide) pd_45 rfl E_w_LESS_OR_EQUAL (argsL := [(.int p1)]) (rest := []) rfl rfl rfl (hb hby at_128) (W0 := 0) rfl (by decide) (by decide) (by decide) (by decide) (fun v18 T18 h18 L18 X18 e18 hQ18 => ?_)
            obtain ⟨rfl, N18q, hh18⟩ := hQ18
            obtain rfl := hh18.symm
            have N18 := Fr.app N0 N18q
            show W p e below _ (T18.setTop (mkF m 131 #[.val (.int p0), .val (.int p1), .val (.int i), .val (.ref w_LESS_OR_EQUAL), .val (.int (3 : Int32)), .val (.int (0 : Int32)), .val (.int (1 : Int32))] [(.int (1 : Int32))]))
            refine W.go (fun _ hr => XS.iload X18.here hx rfl (hb hby at_131) rfl hr) ?_
            show W p e below _ (T18.setTop (mkF m 133 #[.val (.int p0), .val (.int p1), .val (.int i), .val (.ref w_LESS_OR_EQUAL), .val (.int (3 : Int32)), .val (.int (0 : Int32)), .val (.int (1 : Int32))] [(.int (1 : Int32)), (.int (1 : Int32))]))
            refine W.go (fun _ hr => XS.icmpNo X18.here hx rfl (hb hby at_133) rfl (teq (by decide : ((1 : Int32) = (1 : Int32)))).2 hr) ?_
            show W p e below _ (T18.setTop (mkF m 136 #[.val (.int p0), .val (.int p1), .val (.int i), .val (.ref w_LESS_OR_EQUAL), .val (.int (3 : Int32)), .val (.int (0 : Int32)), .val (.int (1 : Int32))] []))
            refine W.go (fun _ hr => XS.iconst X18.here hx rfl (hb hby at_136) hr) ?_
            show W p e below _ (T18.setTop (mkF m 137 #[.val (.int p0), .val (.int p1), .val (.int i), .val (.ref w_LESS_OR_EQUAL), .val (.int (3 : Int32)), .val (.int (0 : Int32)), .val (.int (1 : Int32))] [(.int (1 : Int32))]))
            refine W.go (fun _ hr => XS.goto X18.here hx rfl (pc0 := 137) (pc' := 141) rfl (hb hby at_137) (by decide) (by decide) hr) ?_
            show W p e below _ (T18.setTop (mkF m 141 #[.val (.int p0), .val (.int p1), .val (.int i), .val (.ref w_LESS_OR_EQUAL), .val (.int (3 : Int32)), .val (.int (0 : Int32)), .val (.int (1 : Int32))] [(.int (1 : Int32))]))
            exact W.retB X18 hx hlk (t := .boolean) hret (by simp) (hb hby at_141) (by decide) (by decide) e18 ⟨rfl, N18⟩
          · refine W.go (fun _ hr => XS.iloadN X17.here hx rfl (hb hby at_90) rfl hr) ?_
            show W p e below _ (T17.setTop (mkF m 91 #[.val (.int p0), .val (.int (0 : Int32)), .val (.int i), .val (.ref w_LESS_OR_EQUAL), .val (.int (3 : Int32)), .unset, .unset] [(.int (0 : Int32))]))
            refine W.go (fun _ hr => XS.ifYes X17.here hx rfl (pc0 := 91) (pc' := 98) rfl (hb hby at_91) rfl ((if0 _ _).trans (flt (by decide : ¬ ((0 : Int32) < (0 : Int32)))).2.1) (by decide) (by decide) hr) ?_
            show W p e below _ (T17.setTop (mkF m 98 #[.val (.int p0), .val (.int (0 : Int32)), .val (.int i), .val (.ref w_LESS_OR_EQUAL), .val (.int (3 : Int32)), .unset, .unset] []))
            refine W.go (fun _ hr => XS.iloadN X17.here hx rfl (hb hby at_98) rfl hr) ?_
            show W p e below _ (T17.setTop (mkF m 99 #[.val (.int p0), .val (.int (0 : Int32)), .val (.int i), .val (.ref w_LESS_OR_EQUAL), .val (.int (3 : Int32)), .unset, .unset] [(.int (0 : Int32))]))
            refine W.go (fun _ hr => XS.ifNo X17.here hx rfl (hb hby at_99) rfl ((if0 _ _).trans (teq (by decide : ((0 : Int32) = (0 : Int32)))).2) hr) ?_
            show W p e below _ (T17.setTop (mkF m 102 #[.val (.int p0), .val (.int (0 : Int32)), .val (.int i), .val (.ref w_LESS_OR_EQUAL), .val (.int (3 : Int32)), .unset, .unset] []))
            refine W.go (fun _ hr => XS.iconst X17.here hx rfl (hb hby at_102) hr) ?_
            show W p e below _ (T17.setTop (mkF m 103 #[.val (.int p0), .val (.int (0 : Int32)), .val (.int i), .val (.ref w_LESS_OR_EQUAL), .val (.int (3 : Int32)), .unset, .unset] [(.int (1 : Int32))]))
            refine W.go (fun _ hr => XS.goto X17.here hx rfl (pc0 := 103) (pc' := 107) rfl (hb hby at_103) (by decide) (by decide) hr) ?_
            show W p e below _ (T17.setTop (mkF m 107 #[.val (.int p0), .val (.int (0 : Int32)), .val (.int i), .val (.ref w_LESS_OR_EQUAL), .val (.int (3 : Int32)), .unset, .unset] [(.int (1 : Int32))]))
            refine W.go (fun _ hr => XS.istore X17.here hx rfl (hb hby at_107) rfl (l' := #[.val (.int p0), .val (.int (0 : Int32)), .val (.int i), .val (.ref w_LESS_OR_EQUAL), .val (.int (3 : Int32)), .val (.int (1 : Int32)), .unset]) rfl hr) ?_
            show W p e below _ (T17.setTop (mkF m 109 #[.val (.int p0), .val (.int (0 : Int32)), .val (.int i), .val (.ref w_LESS_OR_EQUAL), .val (.int (3 : Int32)), .val (.int (1 : Int32)), .unset] []))
            refine W.go (fun _ hr => XS.iload X17.here hx rfl (hb hby at_109) rfl hr) ?_
            show W p e below _ (T17.setTop (mkF m 111 #[.val (.int p0), .val (.int (0 : Int32)), .val (.int i), .val (.ref w_LESS_OR_EQUAL), .val (.int (3 : Int32)), .val (.int (1 : Int32)), .unset] [(.int (3 : Int32))]))
            refine W.go (fun _ hr => XS.iload X17.here hx rfl (hb hby at_111) rfl hr) ?_
            show W p e below _ (T17.setTop (mkF m 113 #[.val (.int p0), .val (.int (0 : Int32)), .val (.int i), .val (.ref w_LESS_OR_EQUAL), .val (.int (3 : Int32)), .val (.int (1 : Int32)), .unset] [(.int (1 : Int32)), (.int (3 : Int32))]))
            refine W.go (fun _ hr => XS.ishr X17.here hx rfl (hb hby at_113) rfl hr) ?_
            show W p e below _ (T17.setTop (mkF m 114 #[.val (.int p0), .val (.int (0 : Int32)), .val (.int i), .val (.ref w_LESS_OR_EQUAL), .val (.int (3 : Int32)), .val (.int (1 : Int32)), .unset] [(.int ((3 : Int32) >>> ((1 : Int32) &&& 31)))]))
            rw [show ((3 : Int32) >>> ((1 : Int32) &&& 31)) = (1 : Int32) from by decide]
            show W p e below _ (T17.setTop (mkF m 114 #[.val (.int p0), .val (.int (0 : Int32)), .val (.int i), .val (.ref w_LESS_OR_EQUAL), .val (.int (3 : Int32)), .val (.int (1 : Int32)), .unset] [(.int (1 : Int32))]))
            refine W.go (fun _ hr => XS.iconst X17.here hx rfl (hb hby at_114) hr) ?_
            show W p e below _ (T17.setTop (mkF m 115 #[.val (.int p0), .val (.int (0 : Int32)), .val (.int i), .val (.ref w_LESS_OR_EQUAL), .val (.int (3 : Int32)), .val (.int (1 : Int32)), .unset] [(.int (1 : Int32)), (.int (1 : Int32))]))
            refine W.go (fun _ hr => XS.iand X17.here hx rfl (hb hby at_115) rfl hr) ?_
            show W p e below _ (T17.setTop (mkF m 116 #[.val (.int p0), .val (.int (0 : Int32)), .val (.int i), .val (.ref w_LESS_OR_EQUAL), .val (.int (3 : Int32)), .val (.int (1 : Int32)), .unset] [(.int ((1 : Int32) &&& (1 : Int32)))]))
            rw [show ((1 : Int32) &&& (1 : Int32)) = (1 : Int32) from by decide]
            show W p e below _ (T17.setTop (mkF m 116 #[.val (.int p0), .val (.int (0 : Int32)), .val (.int i), .val (.ref w_LESS_OR_EQUAL), .val (.int (3 : Int32)), .val (.int (1 : Int32)), .unset] [(.int (1 : Int32))]))
            refine W.go (fun _ hr => XS.ifNo X17.here hx rfl (hb hby at_116) rfl ((if0 _ _).trans (feq (by decide : ¬ ((1 : Int32) = (0 : Int32)))).1) hr) ?_
            show W p e below _ (T17.setTop (mkF m 119 #[.val (.int p0), .val (.int (0 : Int32)), .val (.int i), .val (.ref w_LESS_OR_EQUAL), .val (.int (3 : Int32)), .val (.int (1 : Int32)), .unset] []))
            refine W.go (fun _ hr => XS.iconst X17.here hx rfl (hb hby at_119) hr) ?_
            show W p e below _ (T17.setTop (mkF m 120 #[.val (.int p0), .val (.int (0 : Int32)), .val (.int i), .val (.ref w_LESS_OR_EQUAL), .val (.int (3 : Int32)), .val (.int (1 : Int32)), .unset] [(.int (1 : Int32))]))
            refine W.go (fun _ hr => XS.goto X17.here hx rfl (pc0 := 120) (pc' := 124) rfl (hb hby at_120) (by decide) (by decide) hr) ?_
            show W p e below _ (T17.setTop (mkF m 124 #[.val (.int p0), .val (.int (0 : Int32)), .val (.int i), .val (.ref w_LESS_OR_EQUAL), .val (.int (3 : Int32)), .val (.int (1 : Int32)), .unset] [(.int (1 : Int32))]))
            refine W.go (fun _ hr => XS.istore X17.here hx rfl (hb hby at_124) rfl (l' := #[.val (.int p0), .val (.int (0 : Int32)), .val (.int i), .val (.ref w_LESS_OR_EQUAL), .val (.int (3 : Int32)), .val (.int (1 : Int32)), .val (.int (1 : Int32))]) rfl hr) ?_
            show W p e below _ (T17.setTop (mkF m 126 #[.val (.int p0), .val (.int (0 : Int32)), .val (.int i), .val (.ref w_LESS_OR_EQUAL), .val (.int (3 : Int32)), .val (.int (1 : Int32)), .val (.int (1 : Int32))] []))
            refine W.go (fun _ hr => XS.aloadN X17.here hx rfl (hb hby at_126) rfl rfl hr) ?_
            show W p e below _ (T17.setTop (mkF m 127 #[.val (.int p0), .val (.int (0 : Int32)), .val (.int i), .val (.ref w_LESS_OR_EQUAL), .val (.int (3 : Int32)), .val (.int (1 : Int32)), .val (.int (1 : Int32))] [(.ref w_LESS_OR_EQUAL)]))
            refine W.go (fun _ hr => XS.iloadN X17.here hx rfl (hb hby at_127) rfl hr) ?_
            show W p e below _ (T17.setTop (mkF m 128 #[.val (.int p0), .val (.int (0 : Int32)), .val (.int i), .val (.ref w_LESS_OR_EQUAL), .val (.int (3 : Int32)), .val (.int (1 : Int32)), .val (.int (1 : Int32))] [(.int (0 : Int32)), (.ref w_LESS_OR_EQUAL)]))
            refine W.callV X17 hx hZ hown (g := (mkF m 128 #[.val (.int p0), .val (.int (0 : Int32)), .val (.int i), .val (.ref w_LESS_OR_EQUAL), .val (.int (3 : Int32)), .val (.int (1 : Int32)), .val (.int (1 : Int32))] [(.int (0 : Int32)), (.ref w_LESS_OR_EQUAL)])) (by rw [hml]; rfl) (hw _ (List.mem_of_getElem? (i := 4) rfl)) (hw _ (List.mem_of_getElem? (i := 5) rfl)) (hw _ (List.mem_of_getElem? (i := 7) rfl)) (hw _ (List.mem_of_getElem? (i := 6) rfl)) (hw _ (List.mem_of_getElem? (i := 2) rfl)) (hw _ (List.mem_of_getElem? (i := 8) rfl)) e17 (rm1 l Z a0 hw w_LESS_OR_EQUAL (0 : Int32) (3 : Int32) (1 : Int32) h0 n0 Z0 E_w_LESS_OR_EQUAL F_LESS_OR_EQUAL (by decide) (by decide)) (notFace_of_selects (args := #[]) (mvT hZ (hw _ (List.mem_of_getElem? (i := 7) rfl)))) (by decide) pd_45 rfl E_w_LESS_OR_EQUAL (argsL := [(.int (0 : Int32))]) (rest := []) rfl rfl rfl (hb hby at_128) (W0 := 0) rfl (by decide) (by decide) (by decide) (by decide) (fun v19 T19 h19 L19 X19 e19 hQ19 => ?_)
            obtain ⟨rfl, N19q, hh19⟩ := hQ19
            obtain rfl := hh19.symm
            have N19 := Fr.app N0 N19q
            show W p e below _ (T19.setTop (mkF m 131 #[.val (.int p0), .val (.int (0 : Int32)), .val (.int i), .val (.ref w_LESS_OR_EQUAL), .val (.int (3 : Int32)), .val (.int (1 : Int32)), .val (.int (1 : Int32))] [(.int (1 : Int32))]))
            refine W.go (fun _ hr => XS.iload X19.here hx rfl (hb hby at_131) rfl hr) ?_
            show W p e below _ (T19.setTop (mkF m 133 #[.val (.int p0), .val (.int (0 : Int32)), .val (.int i), .val (.ref w_LESS_OR_EQUAL), .val (.int (3 : Int32)), .val (.int (1 : Int32)), .val (.int (1 : Int32))] [(.int (1 : Int32)), (.int (1 : Int32))]))
            refine W.go (fun _ hr => XS.icmpNo X19.here hx rfl (hb hby at_133) rfl (teq (by decide : ((1 : Int32) = (1 : Int32)))).2 hr) ?_
            show W p e below _ (T19.setTop (mkF m 136 #[.val (.int p0), .val (.int (0 : Int32)), .val (.int i), .val (.ref w_LESS_OR_EQUAL), .val (.int (3 : Int32)), .val (.int (1 : Int32)), .val (.int (1 : Int32))] []))
            refine W.go (fun _ hr => XS.iconst X19.here hx rfl (hb hby at_136) hr) ?_
            show W p e below _ (T19.setTop (mkF m 137 #[.val (.int p0), .val (.int (0 : Int32)), .val (.int i), .val (.ref w_LESS_OR_EQUAL), .val (.int (3 : Int32)), .val (.int (1 : Int32)), .val (.int (1 : Int32))] [(.int (1 : Int32))]))
            refine W.go (fun _ hr => XS.goto X19.here hx rfl (pc0 := 137) (pc' := 141) rfl (hb hby at_137) (by decide) (by decide) hr) ?_
            show W p e below _ (T19.setTop (mkF m 141 #[.val (.int p0), .val (.int (0 : Int32)), .val (.int i), .val (.ref w_LESS_OR_EQUAL), .val (.int (3 : Int32)), .val (.int (1 : Int32)), .val (.int (1 : Int32))] [(.int (1 : Int32))]))
            exact W.retB X19 hx hlk (t := .boolean) hret (by simp) (hb hby at_141) (by decide) (by decide) e19 ⟨rfl, N19⟩
          · refine W.go (fun _ hr => XS.iloadN X17.here hx rfl (hb hby at_90) rfl hr) ?_
            show W p e below _ (T17.setTop (mkF m 91 #[.val (.int p0), .val (.int p1), .val (.int i), .val (.ref w_LESS_OR_EQUAL), .val (.int (3 : Int32)), .unset, .unset] [(.int p1)]))
            refine W.go (fun _ hr => XS.ifYes X17.here hx rfl (pc0 := 91) (pc' := 98) rfl (hb hby at_91) rfl ((if0 _ _).trans (flt (q0 : ¬ (p1 < (0 : Int32)))).2.1) (by decide) (by decide) hr) ?_
            show W p e below _ (T17.setTop (mkF m 98 #[.val (.int p0), .val (.int p1), .val (.int i), .val (.ref w_LESS_OR_EQUAL), .val (.int (3 : Int32)), .unset, .unset] []))
            refine W.go (fun _ hr => XS.iloadN X17.here hx rfl (hb hby at_98) rfl hr) ?_
            show W p e below _ (T17.setTop (mkF m 99 #[.val (.int p0), .val (.int p1), .val (.int i), .val (.ref w_LESS_OR_EQUAL), .val (.int (3 : Int32)), .unset, .unset] [(.int p1)]))
            refine W.go (fun _ hr => XS.ifYes X17.here hx rfl (pc0 := 99) (pc' := 106) rfl (hb hby at_99) rfl ((if0 _ _).trans (feq (q1 : ¬ (p1 = (0 : Int32)))).2) (by decide) (by decide) hr) ?_
            show W p e below _ (T17.setTop (mkF m 106 #[.val (.int p0), .val (.int p1), .val (.int i), .val (.ref w_LESS_OR_EQUAL), .val (.int (3 : Int32)), .unset, .unset] []))
            refine W.go (fun _ hr => XS.iconst X17.here hx rfl (hb hby at_106) hr) ?_
            show W p e below _ (T17.setTop (mkF m 107 #[.val (.int p0), .val (.int p1), .val (.int i), .val (.ref w_LESS_OR_EQUAL), .val (.int (3 : Int32)), .unset, .unset] [(.int (2 : Int32))]))
            refine W.go (fun _ hr => XS.istore X17.here hx rfl (hb hby at_107) rfl (l' := #[.val (.int p0), .val (.int p1), .val (.int i), .val (.ref w_LESS_OR_EQUAL), .val (.int (3 : Int32)), .val (.int (2 : Int32)), .unset]) rfl hr) ?_
            show W p e below _ (T17.setTop (mkF m 109 #[.val (.int p0), .val (.int p1), .val (.int i), .val (.ref w_LESS_OR_EQUAL), .val (.int (3 : Int32)), .val (.int (2 : Int32)), .unset] []))
            refine W.go (fun _ hr => XS.iload X17.here hx rfl (hb hby at_109) rfl hr) ?_
            show W p e below _ (T17.setTop (mkF m 111 #[.val (.int p0), .val (.int p1), .val (.int i), .val (.ref w_LESS_OR_EQUAL), .val (.int (3 : Int32)), .val (.int (2 : Int32)), .unset] [(.int (3 : Int32))]))
            refine W.go (fun _ hr => XS.iload X17.here hx rfl (hb hby at_111) rfl hr) ?_
            show W p e below _ (T17.setTop (mkF m 113 #[.val (.int p0), .val (.int p1), .val (.int i), .val (.ref w_LESS_OR_EQUAL), .val (.int (3 : Int32)), .val (.int (2 : Int32)), .unset] [(.int (2 : Int32)), (.int (3 : Int32))]))
            refine W.go (fun _ hr => XS.ishr X17.here hx rfl (hb hby at_113) rfl hr) ?_
            show W p e below _ (T17.setTop (mkF m 114 #[.val (.int p0), .val (.int p1), .val (.int i), .val (.ref w_LESS_OR_EQUAL), .val (.int (3 : Int32)), .val (.int (2 : Int32)), .unset] [(.int ((3 : Int32) >>> ((2 : Int32) &&& 31)))]))
            rw [show ((3 : Int32) >>> ((2 : Int32) &&& 31)) = (0 : Int32) from by decide]
            show W p e below _ (T17.setTop (mkF m 114 #[.val (.int p0), .val (.int p1), .val (.int i), .val (.ref w_LESS_OR_EQUAL), .val (.int (3 : Int32)), .val (.int (2 : Int32)), .unset] [(.int (0 : Int32))]))
            refine W.go (fun _ hr => XS.iconst X17.here hx rfl (hb hby at_114) hr) ?_
            show W p e below _ (T17.setTop (mkF m 115 #[.val (.int p0), .val (.int p1), .val (.int i), .val (.ref w_LESS_OR_EQUAL), .val (.int (3 : Int32)), .val (.int (2 : Int32)), .unset] [(.int (1 : Int32)), (.int (0 : Int32))]))
            refine W.go (fun _ hr => XS.iand X17.here hx rfl (hb hby at_115) rfl hr) ?_
            show W p e below _ (T17.setTop (mkF m 116 #[.val (.int p0), .val (.int p1), .val (.int i), .val (.ref w_LESS_OR_EQUAL), .val (.int (3 : Int32)), .val (.int (2 : Int32)), .unset] [(.int ((0 : Int32) &&& (1 : Int32)))]))
            rw [show ((0 : Int32) &&& (1 : Int32)) = (0 : Int32) from by decide]
            show W p e below _ (T17.setTop (mkF m 116 #[.val (.int p0), .val (.int p1), .val (.int i), .val (.ref w_LESS_OR_EQUAL), .val (.int (3 : Int32)), .val (.int (2 : Int32)), .unset] [(.int (0 : Int32))]))
            refine W.go (fun _ hr => XS.ifYes X17.here hx rfl (pc0 := 116) (pc' := 123) rfl (hb hby at_116) rfl ((if0 _ _).trans (teq (by decide : ((0 : Int32) = (0 : Int32)))).1) (by decide) (by decide) hr) ?_
            show W p e below _ (T17.setTop (mkF m 123 #[.val (.int p0), .val (.int p1), .val (.int i), .val (.ref w_LESS_OR_EQUAL), .val (.int (3 : Int32)), .val (.int (2 : Int32)), .unset] []))
            refine W.go (fun _ hr => XS.iconst X17.here hx rfl (hb hby at_123) hr) ?_
            show W p e below _ (T17.setTop (mkF m 124 #[.val (.int p0), .val (.int p1), .val (.int i), .val (.ref w_LESS_OR_EQUAL), .val (.int (3 : Int32)), .val (.int (2 : Int32)), .unset] [(.int (0 : Int32))]))
            refine W.go (fun _ hr => XS.istore X17.here hx rfl (hb hby at_124) rfl (l' := #[.val (.int p0), .val (.int p1), .val (.int i), .val (.ref w_LESS_OR_EQUAL), .val (.int (3 : Int32)), .val (.int (2 : Int32)), .val (.int (0 : Int32))]) rfl hr) ?_
            show W p e below _ (T17.setTop (mkF m 126 #[.val (.int p0), .val (.int p1), .val (.int i), .val (.ref w_LESS_OR_EQUAL), .val (.int (3 : Int32)), .val (.int (2 : Int32)), .val (.int (0 : Int32))] []))
            refine W.go (fun _ hr => XS.aloadN X17.here hx rfl (hb hby at_126) rfl rfl hr) ?_
            show W p e below _ (T17.setTop (mkF m 127 #[.val (.int p0), .val (.int p1), .val (.int i), .val (.ref w_LESS_OR_EQUAL), .val (.int (3 : Int32)), .val (.int (2 : Int32)), .val (.int (0 : Int32))] [(.ref w_LESS_OR_EQUAL)]))
            refine W.go (fun _ hr => XS.iloadN X17.here hx rfl (hb hby at_127) rfl hr) ?_
            show W p e below _ (T17.setTop (mkF m 128 #[.val (.int p0), .val (.int p1), .val (.int i), .val (.ref w_LESS_OR_EQUAL), .val (.int (3 : Int32)), .val (.int (2 : Int32)), .val (.int (0 : Int32))] [(.int p1), (.ref w_LESS_OR_EQUAL)]))
            refine W.callV X17 hx hZ hown (g := (mkF m 128 #[.val (.int p0), .val (.int p1), .val (.int i), .val (.ref w_LESS_OR_EQUAL), .val (.int (3 : Int32)), .val (.int (2 : Int32)), .val (.int (0 : Int32))] [(.int p1), (.ref w_LESS_OR_EQUAL)])) (by rw [hml]; rfl) (hw _ (List.mem_of_getElem? (i := 4) rfl)) (hw _ (List.mem_of_getElem? (i := 5) rfl)) (hw _ (List.mem_of_getElem? (i := 7) rfl)) (hw _ (List.mem_of_getElem? (i := 6) rfl)) (hw _ (List.mem_of_getElem? (i := 2) rfl)) (hw _ (List.mem_of_getElem? (i := 8) rfl)) e17 (rm1 l Z a0 hw w_LESS_OR_EQUAL p1 (3 : Int32) (0 : Int32) h0 n0 Z0 E_w_LESS_OR_EQUAL F_LESS_OR_EQUAL (by decide) (by simp [own_holds, q0, q1, q2])) (notFace_of_selects (args := #[]) (mvT hZ (hw _ (List.mem_of_getElem? (i := 7) rfl)))) (by decide) pd_45 rfl E_w_LESS_OR_EQUAL (argsL := [(.int p1)]) (rest := []) rfl rfl rfl (hb hby at_128) (W0 := 0) rfl (by decide) (by decide) (by decide) (by decide) (fun v20 T20 h20 L20 X20 e20 hQ20 => ?_)
            obtain ⟨rfl, N20q, hh20⟩ := hQ20
            obtain rfl := hh20.symm
            have N20 := Fr.app N0 N20q
            show W p e below _ (T20.setTop (mkF m 131 #[.val (.int p0), .val (.int p1), .val (.int i), .val (.ref w_LESS_OR_EQUAL), .val (.int (3 : Int32)), .val (.int (2 : Int32)), .val (.int (0 : Int32))] [(.int (0 : Int32))]))
            refine W.go (fun _ hr => XS.iload X20.here hx rfl (hb hby at_131) rfl hr) ?_
            show W p e below _ (T20.setTop (mkF m 133 #[.val (.int p0), .val (.int p1), .val (.int i), .val (.ref w_LESS_OR_EQUAL), .val (.int (3 : Int32)), .val (.int (2 : Int32)), .val (.int (0 : Int32))] [(.int (0 : Int32)), (.int (0 : Int32))]))
            refine W.go (fun _ hr => XS.icmpNo X20.here hx rfl (hb hby at_133) rfl (teq (by decide : ((0 : Int32) = (0 : Int32)))).2 hr) ?_
            show W p e below _ (T20.setTop (mkF m 136 #[.val (.int p0), .val (.int p1), .val (.int i), .val (.ref w_LESS_OR_EQUAL), .val (.int (3 : Int32)), .val (.int (2 : Int32)), .val (.int (0 : Int32))] []))
            refine W.go (fun _ hr => XS.iconst X20.here hx rfl (hb hby at_136) hr) ?_
            show W p e below _ (T20.setTop (mkF m 137 #[.val (.int p0), .val (.int p1), .val (.int i), .val (.ref w_LESS_OR_EQUAL), .val (.int (3 : Int32)), .val (.int (2 : Int32)), .val (.int (0 : Int32))] [(.int (1 : Int32))]))
            refine W.go (fun _ hr => XS.goto X20.here hx rfl (pc0 := 137) (pc' := 141) rfl (hb hby at_137) (by decide) (by decide) hr) ?_
            show W p e below _ (T20.setTop (mkF m 141 #[.val (.int p0), .val (.int p1), .val (.int i), .val (.ref w_LESS_OR_EQUAL), .val (.int (3 : Int32)), .val (.int (2 : Int32)), .val (.int (0 : Int32))] [(.int (1 : Int32))]))
            exact W.retB X20 hx hlk (t := .boolean) hret (by simp) (hb hby at_141) (by decide) (by decide) e20 ⟨rfl, N20⟩
        · refine W.go (fun _ hr => XS.icmpYes X0.here hx rfl (pc0 := 54) (pc' := 67) rfl (hb hby at_54) rfl (feq hc54_16).2 (by decide) (by decide) hr) ?_
          show W p e below _ (s₁.setTop (mkF m 67 #[.val (.int p0), .val (.int p1), .val (.int i), .unset, .unset, .unset, .unset] []))
          refine W.go (fun _ hr => XS.iloadN X0.here hx rfl (hb hby at_67) rfl hr) ?_
          show W p e below _ (s₁.setTop (mkF m 68 #[.val (.int p0), .val (.int p1), .val (.int i), .unset, .unset, .unset, .unset] [(.int i)]))
          refine W.go (fun _ hr => XS.iconst X0.here hx rfl (hb hby at_68) hr) ?_
          show W p e below _ (s₁.setTop (mkF m 69 #[.val (.int p0), .val (.int p1), .val (.int i), .unset, .unset, .unset, .unset] [(.int (4 : Int32)), (.int i)]))
          by_cases hc69_21 : i = (4 : Int32)
          · refine W.go (fun _ hr => XS.icmpNo X0.here hx rfl (hb hby at_69) rfl (teq hc69_21).2 hr) ?_
            show W p e below _ (s₁.setTop (mkF m 72 #[.val (.int p0), .val (.int p1), .val (.int i), .unset, .unset, .unset, .unset] []))
            obtain ⟨T22, X22, e22, st22⟩ := getS2 X0 hx hZ hown (host := "") (Or.inl (hw _ (List.mem_of_getElem? (i := 20) rfl))) Via.refl e0 S_GREATER (g := (mkF m 72 #[.val (.int p0), .val (.int p1), .val (.int i), .unset, .unset, .unset, .unset] [])) rfl (hb hby at_72)
            refine W.go st22 ?_
            show W p e below _ (T22.setTop (mkF m 75 #[.val (.int p0), .val (.int p1), .val (.int i), .unset, .unset, .unset, .unset] [(.ref w_GREATER)]))
            refine W.go (fun _ hr => XS.astoreN X22.here hx rfl (hb hby at_75) rfl rfl (l' := #[.val (.int p0), .val (.int p1), .val (.int i), .val (.ref w_GREATER), .unset, .unset, .unset]) rfl hr) ?_
            show W p e below _ (T22.setTop (mkF m 76 #[.val (.int p0), .val (.int p1), .val (.int i), .val (.ref w_GREATER), .unset, .unset, .unset] []))
            refine W.go (fun _ hr => XS.iconst X22.here hx rfl (hb hby at_76) hr) ?_
            show W p e below _ (T22.setTop (mkF m 77 #[.val (.int p0), .val (.int p1), .val (.int i), .val (.ref w_GREATER), .unset, .unset, .unset] [(.int (4 : Int32))]))
            refine W.go (fun _ hr => XS.istore X22.here hx rfl (hb hby at_77) rfl (l' := #[.val (.int p0), .val (.int p1), .val (.int i), .val (.ref w_GREATER), .val (.int (4 : Int32)), .unset, .unset]) rfl hr) ?_
            show W p e below _ (T22.setTop (mkF m 79 #[.val (.int p0), .val (.int p1), .val (.int i), .val (.ref w_GREATER), .val (.int (4 : Int32)), .unset, .unset] []))
            refine W.go (fun _ hr => XS.goto X22.here hx rfl (pc0 := 79) (pc' := 90) rfl (hb hby at_79) (by decide) (by decide) hr) ?_
            show W p e below _ (T22.setTop (mkF m 90 #[.val (.int p0), .val (.int p1), .val (.int i), .val (.ref w_GREATER), .val (.int (4 : Int32)), .unset, .unset] []))
            rcases own3 p1 with ⟨q0, q1, q2⟩ | rfl | ⟨q0, q1, q2⟩
            · refine W.go (fun _ hr => XS.iloadN X22.here hx rfl (hb hby at_90) rfl hr) ?_
              show W p e below _ (T22.setTop (mkF m 91 #[.val (.int p0), .val (.int p1), .val (.int i), .val (.ref w_GREATER), .val (.int (4 : Int32)), .unset, .unset] [(.int p1)]))
              refine W.go (fun _ hr => XS.ifNo X22.here hx rfl (hb hby at_91) rfl ((if0 _ _).trans (tlt (q0 : (p1 < (0 : Int32)))).2.1) hr) ?_
              show W p e below _ (T22.setTop (mkF m 94 #[.val (.int p0), .val (.int p1), .val (.int i), .val (.ref w_GREATER), .val (.int (4 : Int32)), .unset, .unset] []))
              refine W.go (fun _ hr => XS.iconst X22.here hx rfl (hb hby at_94) hr) ?_
              show W p e below _ (T22.setTop (mkF m 95 #[.val (.int p0), .val (.int p1), .val (.int i), .val (.ref w_GREATER), .val (.int (4 : Int32)), .unset, .unset] [(.int (0 : Int32))]))
              refine W.go (fun _ hr => XS.goto X22.here hx rfl (pc0 := 95) (pc' := 107) rfl (hb hby at_95) (by decide) (by decide) hr) ?_
              show W p e below _ (T22.setTop (mkF m 107 #[.val (.int p0), .val (.int p1), .val (.int i), .val (.ref w_GREATER), .val (.int (4 : Int32)), .unset, .unset] [(.int (0 : Int32))]))
              refine W.go (fun _ hr => XS.istore X22.here hx rfl (hb hby at_107) rfl (l' := #[.val (.int p0), .val (.int p1), .val (.int i), .val (.ref w_GREATER), .val (.int (4 : Int32)), .val (.int (0 : Int32)), .unset]) rfl hr) ?_
              show W p e below _ (T22.setTop (mkF m 109 #[.val (.int p0), .val (.int p1), .val (.int i), .val (.ref w_GREATER), .val (.int (4 : Int32)), .val (.int (0 : Int32)), .unset] []))
              refine W.go (fun _ hr => XS.iload X22.here hx rfl (hb hby at_109) rfl hr) ?_
              show W p e below _ (T22.setTop (mkF m 111 #[.val (.int p0), .val (.int p1), .val (.int i), .val (.ref w_GREATER), .val (.int (4 : Int32)), .val (.int (0 : Int32)), .unset] [(.int (4 : Int32))]))
              refine W.go (fun _ hr => XS.iload X22.here hx rfl (hb hby at_111) rfl hr) ?_
              show W p e below _ (T22.setTop (mkF m 113 #[.val (.int p0), .val (.int p1), .val (.int i), .val (.ref w_GREATER), .val (.int (4 : Int32)), .val (.int (0 : Int32)), .unset] [(.int (0 : Int32)), (.int (4 : Int32))]))
              refine W.go (fun _ hr => XS.ishr X22.here hx rfl (hb hby at_113) rfl hr) ?_
              show W p e below _ (T22.setTop (mkF m 114 #[.val (.int p0), .val (.int p1), .val (.int i), .val (.ref w_GREATER), .val (.int (4 : Int32)), .val (.int (0 : Int32)), .unset] [(.int ((4 : Int32) >>> ((0 : Int32) &&& 31)))]))
              rw [show ((4 : Int32) >>> ((0 : Int32) &&& 31)) = (4 : Int32) from by decide]
              show W p e below _ (T22.setTop (mkF m 114 #[.val (.int p0), .val (.int p1), .val (.int i), .val (.ref w_GREATER), .val (.int (4 : Int32)), .val (.int (0 : Int32)), .unset] [(.int (4 : Int32))]))
              refine W.go (fun _ hr => XS.iconst X22.here hx rfl (hb hby at_114) hr) ?_
              show W p e below _ (T22.setTop (mkF m 115 #[.val (.int p0), .val (.int p1), .val (.int i), .val (.ref w_GREATER), .val (.int (4 : Int32)), .val (.int (0 : Int32)), .unset] [(.int (1 : Int32)), (.int (4 : Int32))]))
              refine W.go (fun _ hr => XS.iand X22.here hx rfl (hb hby at_115) rfl hr) ?_
              show W p e below _ (T22.setTop (mkF m 116 #[.val (.int p0), .val (.int p1), .val (.int i), .val (.ref w_GREATER), .val (.int (4 : Int32)), .val (.int (0 : Int32)), .unset] [(.int ((4 : Int32) &&& (1 : Int32)))]))
              rw [show ((4 : Int32) &&& (1 : Int32)) = (0 : Int32) from by decide]
              show W p e below _ (T22.setTop (mkF m 116 #[.val (.int p0), .val (.int p1), .val (.int i), .val (.ref w_GREATER), .val (.int (4 : Int32)), .val (.int (0 : Int32)), .unset] [(.int (0 : Int32))]))
              refine W.go (fun _ hr => XS.ifYes X22.here hx rfl (pc0 := 116) (pc' := 123) rfl (hb hby at_116) rfl ((if0 _ _).trans (teq (by decide : ((0 : Int32) = (0 : Int32)))).1) (by decide) (by decide) hr) ?_
              show W p e below _ (T22.setTop (mkF m 123 #[.val (.int p0), .val (.int p1), .val (.int i), .val (.ref w_GREATER), .val (.int (4 : Int32)), .val (.int (0 : Int32)), .unset] []))
              refine W.go (fun _ hr => XS.iconst X22.here hx rfl (hb hby at_123) hr) ?_
              show W p e below _ (T22.setTop (mkF m 124 #[.val (.int p0), .val (.int p1), .val (.int i), .val (.ref w_GREATER), .val (.int (4 : Int32)), .val (.int (0 : Int32)), .unset] [(.int (0 : Int32))]))
              refine W.go (fun _ hr => XS.istore X22.here hx rfl (hb hby at_124) rfl (l' := #[.val (.int p0), .val (.int p1), .val (.int i), .val (.ref w_GREATER), .val (.int (4 : Int32)), .val (.int (0 : Int32)), .val (.int (0 : Int32))]) rfl hr) ?_
              show W p e below _ (T22.setTop (mkF m 126 #[.val (.int p0), .val (.int p1), .val (.int i), .val (.ref w_GREATER), .val (.int (4 : Int32)), .val (.int (0 : Int32)), .val (.int (0 : Int32))] []))
              refine W.go (fun _ hr => XS.aloadN X22.here hx rfl (hb hby at_126) rfl rfl hr) ?_
              show W p e below _ (T22.setTop (mkF m 127 #[.val (.int p0), .val (.int p1), .val (.int i), .val (.ref w_GREATER), .val (.int (4 : Int32)), .val (.int (0 : Int32)), .val (.int (0 : Int32))] [(.ref w_GREATER)]))
              refine W.go (fun _ hr => XS.iloadN X22.here hx rfl (hb hby at_127) rfl hr) ?_
              show W p e below _ (T22.setTop (mkF m 128 #[.val (.int p0), .val (.int p1), .val (.int i), .val (.ref w_GREATER), .val (.int (4 : Int32)), .val (.int (0 : Int32)), .val (.int (0 : Int32))] [(.int p1), (.ref w_GREATER)]))
              refine W.callV X22 hx hZ hown (g := (mkF m 128 #[.val (.int p0), .val (.int p1), .val (.int i), .val (.ref w_GREATER), .val (.int (4 : Int32)), .val (.int (0 : Int32)), .val (.int (0 : Int32))] [(.int p1), (.ref w_GREATER)])) (by rw [hml]; rfl) (hw _ (List.mem_of_getElem? (i := 4) rfl)) (hw _ (List.mem_of_getElem? (i := 5) rfl)) (hw _ (List.mem_of_getElem? (i := 7) rfl)) (hw _ (List.mem_of_getElem? (i := 6) rfl)) (hw _ (List.mem_of_getElem? (i := 2) rfl)) (hw _ (List.mem_of_getElem? (i := 8) rfl)) e22 (rm1 l Z a0 hw w_GREATER p1 (4 : Int32) (0 : Int32) h0 n0 Z0 E_w_GREATER F_GREATER (by decide) (by simp [own_holds, q0, q1, q2])) (notFace_of_selects (args := #[]) (mvT hZ (hw _ (List.mem_of_getElem? (i := 7) rfl)))) (by decide) pd_45 rfl E_w_GREATER (argsL := [(.int p1)]) (rest := []) rfl rfl rfl (hb hby at_128) (W0 := 0) rfl (by decide) (by decide) (by decide) (by decide) (fun v23 T23 h23 L23 X23 e23 hQ23 => ?_)
              obtain ⟨rfl, N23q, hh23⟩ := hQ23
              obtain rfl := hh23.symm
              have N23 := Fr.app N0 N23q
              show W p e below _ (T23.setTop (mkF m 131 #[.val (.int p0), .val (.int p1), .val (.int i), .val (.ref w_GREATER), .val (.int (4 : Int32)), .val (.int (0 : Int32)), .val (.int (0 : Int32))] [(.int (0 : Int32))]))
              refine W.go (fun _ hr => XS.iload X23.here hx rfl (hb hby at_131) rfl hr) ?_
              show W p e below _ (T23.setTop (mkF m 133 #[.val (.int p0), .val (.int p1), .val (.int i), .val (.ref w_GREATER), .val (.int (4 : Int32)), .val (.int (0 : Int32)), .val (.int (0 : Int32))] [(.int (0 : Int32)), (.int (0 : Int32))]))
              refine W.go (fun _ hr => XS.icmpNo X23.here hx rfl (hb hby at_133) rfl (teq (by decide : ((0 : Int32) = (0 : Int32)))).2 hr) ?_
              show W p e below _ (T23.setTop (mkF m 136 #[.val (.int p0), .val (.int p1), .val (.int i), .val (.ref w_GREATER), .val (.int (4 : Int32)), .val (.int (0 : Int32)), .val (.int (0 : Int32))] []))
              refine W.go (fun _ hr => XS.iconst X23.here hx rfl (hb hby at_136) hr) ?_
              show W p e below _ (T23.setTop (mkF m 137 #[.val (.int p0), .val (.int p1), .val (.int i), .val (.ref w_GREATER), .val (.int (4 : Int32)), .val (.int (0 : Int32)), .val (.int (0 : Int32))] [(.int (1 : Int32))]))
              refine W.go (fun _ hr => XS.goto X23.here hx rfl (pc0 := 137) (pc' := 141) rfl (hb hby at_137) (by decide) (by decide) hr) ?_
              show W p e below _ (T23.setTop (mkF m 141 #[.val (.int p0), .val (.int p1), .val (.int i), .val (.ref w_GREATER), .val (.int (4 : Int32)), .val (.int (0 : Int32)), .val (.int (0 : Int32))] [(.int (1 : Int32))]))
              exact W.retB X23 hx hlk (t := .boolean) hret (by simp) (hb hby at_141) (by decide) (by decide) e23 ⟨rfl, N23⟩
            · refine W.go (fun _ hr => XS.iloadN X22.here hx rfl (hb hby at_90) rfl hr) ?_
              show W p e below _ (T22.setTop (mkF m 91 #[.val (.int p0), .val (.int (0 : Int32)), .val (.int i), .val (.ref w_GREATER), .val (.int (4 : Int32)), .unset, .unset] [(.int (0 : Int32))]))
              refine W.go (fun _ hr => XS.ifYes X22.here hx rfl (pc0 := 91) (pc' := 98) rfl (hb hby at_91) rfl ((if0 _ _).trans (flt (by decide : ¬ ((0 : Int32) < (0 : Int32)))).2.1) (by decide) (by decide) hr) ?_
              show W p e below _ (T22.setTop (mkF m 98 #[.val (.int p0), .val (.int (0 : Int32)), .val (.int i), .val (.ref w_GREATER), .val (.int (4 : Int32)), .unset, .unset] []))
              refine W.go (fun _ hr => XS.iloadN X22.here hx rfl (hb hby at_98) rfl hr) ?_
              show W p e below _ (T22.setTop (mkF m 99 #[.val (.int p0), .val (.int (0 : Int32)), .val (.int i), .val (.ref w_GREATER), .val (.int (4 : Int32)), .unset, .unset] [(.int (0 : Int32))]))
              refine W.go (fun _ hr => XS.ifNo X22.here hx rfl (hb hby at_99) rfl ((if0 _ _).trans (teq (by decide : ((0 : Int32) = (0 : Int32)))).2) hr) ?_
              show W p e below _ (T22.setTop (mkF m 102 #[.val (.int p0), .val (.int (0 : Int32)), .val (.int i), .val (.ref w_GREATER), .val (.int (4 : Int32)), .unset, .unset] []))
              refine W.go (fun _ hr => XS.iconst X22.here hx rfl (hb hby at_102) hr) ?_
              show W p e below _ (T22.setTop (mkF m 103 #[.val (.int p0), .val (.int (0 : Int32)), .val (.int i), .val (.ref w_GREATER), .val (.int (4 : Int32)), .unset, .unset] [(.int (1 : Int32))]))
              refine W.go (fun _ hr => XS.goto X22.here hx rfl (pc0 := 103) (pc' := 107) rfl (hb hby at_103) (by decide) (by decide) hr) ?_
              show W p e below _ (T22.setTop (mkF m 107 #[.val (.int p0), .val (.int (0 : Int32)), .val (.int i), .val (.ref w_GREATER), .val (.int (4 : Int32)), .unset, .unset] [(.int (1 : Int32))]))
              refine W.go (fun _ hr => XS.istore X22.here hx rfl (hb hby at_107) rfl (l' := #[.val (.int p0), .val (.int (0 : Int32)), .val (.int i), .val (.ref w_GREATER), .val (.int (4 : Int32)), .val (.int (1 : Int32)), .unset]) rfl hr) ?_
              show W p e below _ (T22.setTop (mkF m 109 #[.val (.int p0), .val (.int (0 : Int32)), .val (.int i), .val (.ref w_GREATER), .val (.int (4 : Int32)), .val (.int (1 : Int32)), .unset] []))
              refine W.go (fun _ hr => XS.iload X22.here hx rfl (hb hby at_109) rfl hr) ?_
              show W p e below _ (T22.setTop (mkF m 111 #[.val (.int p0), .val (.int (0 : Int32)), .val (.int i), .val (.ref w_GREATER), .val (.int (4 : Int32)), .val (.int (1 : Int32)), .unset] [(.int (4 : Int32))]))
              refine W.go (fun _ hr => XS.iload X22.here hx rfl (hb hby at_111) rfl hr) ?_
              show W p e below _ (T22.setTop (mkF m 113 #[.val (.int p0), .val (.int (0 : Int32)), .val (.int i), .val (.ref w_GREATER), .val (.int (4 : Int32)), .val (.int (1 : Int32)), .unset] [(.int (1 : Int32)), (.int (4 : Int32))]))
              refine W.go (fun _ hr => XS.ishr X22.here hx rfl (hb hby at_113) rfl hr) ?_
              show W p e below _ (T22.setTop (mkF m 114 #[.val (.int p0), .val (.int (0 : Int32)), .val (.int i), .val (.ref w_GREATER), .val (.int (4 : Int32)), .val (.int (1 : Int32)), .unset] [(.int ((4 : Int32) >>> ((1 : Int32) &&& 31)))]))
              rw [show ((4 : Int32) >>> ((1 : Int32) &&& 31)) = (2 : Int32) from by decide]
              show W p e below _ (T22.setTop (mkF m 114 #[.val (.int p0), .val (.int (0 : Int32)), .val (.int i), .val (.ref w_GREATER), .val (.int (4 : Int32)), .val (.int (1 : Int32)), .unset] [(.int (2 : Int32))]))
              refine W.go (fun _ hr => XS.iconst X22.here hx rfl (hb hby at_114) hr) ?_
              show W p e below _ (T22.setTop (mkF m 115 #[.val (.int p0), .val (.int (0 : Int32)), .val (.int i), .val (.ref w_GREATER), .val (.int (4 : Int32)), .val (.int (1 : Int32)), .unset] [(.int (1 : Int32)), (.int (2 : Int32))]))
              refine W.go (fun _ hr => XS.iand X22.here hx rfl (hb hby at_115) rfl hr) ?_
              show W p e below _ (T22.setTop (mkF m 116 #[.val (.int p0), .val (.int (0 : Int32)), .val (.int i), .val (.ref w_GREATER), .val (.int (4 : Int32)), .val (.int (1 : Int32)), .unset] [(.int ((2 : Int32) &&& (1 : Int32)))]))
              rw [show ((2 : Int32) &&& (1 : Int32)) = (0 : Int32) from by decide]
              show W p e below _ (T22.setTop (mkF m 116 #[.val (.int p0), .val (.int (0 : Int32)), .val (.int i), .val (.ref w_GREATER), .val (.int (4 : Int32)), .val (.int (1 : Int32)), .unset] [(.int (0 : Int32))]))
              refine W.go (fun _ hr => XS.ifYes X22.here hx rfl (pc0 := 116) (pc' := 123) rfl (hb hby at_116) rfl ((if0 _ _).trans (teq (by decide : ((0 : Int32) = (0 : Int32)))).1) (by decide) (by decide) hr) ?_
              show W p e below _ (T22.setTop (mkF m 123 #[.val (.int p0), .val (.int (0 : Int32)), .val (.int i), .val (.ref w_GREATER), .val (.int (4 : Int32)), .val (.int (1 : Int32)), .unset] []))
              refine W.go (fun _ hr => XS.iconst X22.here hx rfl (hb hby at_123) hr) ?_
              show W p e below _ (T22.setTop (mkF m 124 #[.val (.int p0), .val (.int (0 : Int32)), .val (.int i), .val (.ref w_GREATER), .val (.int (4 : Int32)), .val (.int (1 : Int32)), .unset] [(.int (0 : Int32))]))
              refine W.go (fun _ hr => XS.istore X22.here hx rfl (hb hby at_124) rfl (l' := #[.val (.int p0), .val (.int (0 : Int32)), .val (.int i), .val (.ref w_GREATER), .val (.int (4 : Int32)), .val (.int (1 : Int32)), .val (.int (0 : Int32))]) rfl hr) ?_
              show W p e below _ (T22.setTop (mkF m 126 #[.val (.int p0), .val (.int (0 : Int32)), .val (.int i), .val (.ref w_GREATER), .val (.int (4 : Int32)), .val (.int (1 : Int32)), .val (.int (0 : Int32))] []))
              refine W.go (fun _ hr => XS.aloadN X22.here hx rfl (hb hby at_126) rfl rfl hr) ?_
              show W p e below _ (T22.setTop (mkF m 127 #[.val (.int p0), .val (.int (0 : Int32)), .val (.int i), .val (.ref w_GREATER), .val (.int (4 : Int32)), .val (.int (1 : Int32)), .val (.int (0 : Int32))] [(.ref w_GREATER)]))
              refine W.go (fun _ hr => XS.iloadN X22.here hx rfl (hb hby at_127) rfl hr) ?_
              show W p e below _ (T22.setTop (mkF m 128 #[.val (.int p0), .val (.int (0 : Int32)), .val (.int i), .val (.ref w_GREATER), .val (.int (4 : Int32)), .val (.int (1 : Int32)), .val (.int (0 : Int32))] [(.int (0 : Int32)), (.ref w_GREATER)]))
              refine W.callV X22 hx hZ hown (g := (mkF m 128 #[.val (.int p0), .val (.int (0 : Int32)), .val (.int i), .val (.ref w_GREATER), .val (.int (4 : Int32)), .val (.int (1 : Int32)), .val (.int (0 : Int32))] [(.int (0 : Int32)), (.ref w_GREATER)])) (by rw [hml]; rfl) (hw _ (List.mem_of_getElem? (i := 4) rfl)) (hw _ (List.mem_of_getElem? (i := 5) rfl)) (hw _ (List.mem_of_getElem? (i := 7) rfl)) (hw _ (List.mem_of_getElem? (i := 6) rfl)) (hw _ (List.mem_of_getElem? (i := 2) rfl)) (hw _ (List.mem_of_getElem? (i := 8) rfl)) e22 (rm1 l Z a0 hw w_GREATER (0 : Int32) (4 : Int32) (0 : Int32) h0 n0 Z0 E_w_GREATER F_GREATER (by decide) (by decide)) (notFace_of_selects (args := #[]) (mvT hZ (hw _ (List.mem_of_getElem? (i := 7) rfl)))) (by decide) pd_45 rfl E_w_GREATER (argsL := [(.int (0 : Int32))]) (rest := []) rfl rfl rfl (hb hby at_128) (W0 := 0) rfl (by decide) (by decide) (by decide) (by decide) (fun v24 T24 h24 L24 X24 e24 hQ24 => ?_)
              obtain ⟨rfl, N24q, hh24⟩ := hQ24
              obtain rfl := hh24.symm
              have N24 := Fr.app N0 N24q
              show W p e below _ (T24.setTop (mkF m 131 #[.val (.int p0), .val (.int (0 : Int32)), .val (.int i), .val (.ref w_GREATER), .val (.int (4 : Int32)), .val (.int (1 : Int32)), .val (.int (0 : Int32))] [(.int (0 : Int32))]))
              refine W.go (fun _ hr => XS.iload X24.here hx rfl (hb hby at_131) rfl hr) ?_
              show W p e below _ (T24.setTop (mkF m 133 #[.val (.int p0), .val (.int (0 : Int32)), .val (.int i), .val (.ref w_GREATER), .val (.int (4 : Int32)), .val (.int (1 : Int32)), .val (.int (0 : Int32))] [(.int (0 : Int32)), (.int (0 : Int32))]))
              refine W.go (fun _ hr => XS.icmpNo X24.here hx rfl (hb hby at_133) rfl (teq (by decide : ((0 : Int32) = (0 : Int32)))).2 hr) ?_
              show W p e below _ (T24.setTop (mkF m 136 #[.val (.int p0), .val (.int (0 : Int32)), .val (.int i), .val (.ref w_GREATER), .val (.int (4 : Int32)), .val (.int (1 : Int32)), .val (.int (0 : Int32))] []))
              refine W.go (fun _ hr => XS.iconst X24.here hx rfl (hb hby at_136) hr) ?_
              show W p e below _ (T24.setTop (mkF m 137 #[.val (.int p0), .val (.int (0 : Int32)), .val (.int i), .val (.ref w_GREATER), .val (.int (4 : Int32)), .val (.int (1 : Int32)), .val (.int (0 : Int32))] [(.int (1 : Int32))]))
              refine W.go (fun _ hr => XS.goto X24.here hx rfl (pc0 := 137) (pc' := 141) rfl (hb hby at_137) (by decide) (by decide) hr) ?_
              show W p e below _ (T24.setTop (mkF m 141 #[.val (.int p0), .val (.int (0 : Int32)), .val (.int i), .val (.ref w_GREATER), .val (.int (4 : Int32)), .val (.int (1 : Int32)), .val (.int (0 : Int32))] [(.int (1 : Int32))]))
              exact W.retB X24 hx hlk (t := .boolean) hret (by simp) (hb hby at_141) (by decide) (by decide) e24 ⟨rfl, N24⟩
            · refine W.go (fun _ hr => XS.iloadN X22.here hx rfl (hb hby at_90) rfl hr) ?_
              show W p e below _ (T22.setTop (mkF m 91 #[.val (.int p0), .val (.int p1), .val (.int i), .val (.ref w_GREATER), .val (.int (4 : Int32)), .unset, .unset] [(.int p1)]))
              refine W.go (fun _ hr => XS.ifYes X22.here hx rfl (pc0 := 91) (pc' := 98) rfl (hb hby at_91) rfl ((if0 _ _).trans (flt (q0 : ¬ (p1 < (0 : Int32)))).2.1) (by decide) (by decide) hr) ?_
              show W p e below _ (T22.setTop (mkF m 98 #[.val (.int p0), .val (.int p1), .val (.int i), .val (.ref w_GREATER), .val (.int (4 : Int32)), .unset, .unset] []))
              refine W.go (fun _ hr => XS.iloadN X22.here hx rfl (hb hby at_98) rfl hr) ?_
              show W p e below _ (T22.setTop (mkF m 99 #[.val (.int p0), .val (.int p1), .val (.int i), .val (.ref w_GREATER), .val (.int (4 : Int32)), .unset, .unset] [(.int p1)]))
              refine W.go (fun _ hr => XS.ifYes X22.here hx rfl (pc0 := 99) (pc' := 106) rfl (hb hby at_99) rfl ((if0 _ _).trans (feq (q1 : ¬ (p1 = (0 : Int32)))).2) (by decide) (by decide) hr) ?_
              show W p e below _ (T22.setTop (mkF m 106 #[.val (.int p0), .val (.int p1), .val (.int i), .val (.ref w_GREATER), .val (.int (4 : Int32)), .unset, .unset] []))
              refine W.go (fun _ hr => XS.iconst X22.here hx rfl (hb hby at_106) hr) ?_
              show W p e below _ (T22.setTop (mkF m 107 #[.val (.int p0), .val (.int p1), .val (.int i), .val (.ref w_GREATER), .val (.int (4 : Int32)), .unset, .unset] [(.int (2 : Int32))]))
              refine W.go (fun _ hr => XS.istore X22.here hx rfl (hb hby at_107) rfl (l' := #[.val (.int p0), .val (.int p1), .val (.int i), .val (.ref w_GREATER), .val (.int (4 : Int32)), .val (.int (2 : Int32)), .unset]) rfl hr) ?_
              show W p e below _ (T22.setTop (mkF m 109 #[.val (.int p0), .val (.int p1), .val (.int i), .val (.ref w_GREATER), .val (.int (4 : Int32)), .val (.int (2 : Int32)), .unset] []))
              refine W.go (fun _ hr => XS.iload X22.here hx rfl (hb hby at_109) rfl hr) ?_
              show W p e below _ (T22.setTop (mkF m 111 #[.val (.int p0), .val (.int p1), .val (.int i), .val (.ref w_GREATER), .val (.int (4 : Int32)), .val (.int (2 : Int32)), .unset] [(.int (4 : Int32))]))
              refine W.go (fun _ hr => XS.iload X22.here hx rfl (hb hby at_111) rfl hr) ?_
              show W p e below _ (T22.setTop (mkF m 113 #[.val (.int p0), .val (.int p1), .val (.int i), .val (.ref w_GREATER), .val (.int (4 : Int32)), .val (.int (2 : Int32)), .unset] [(.int (2 : Int32)), (.int (4 : Int32))]))
              refine W.go (fun _ hr => XS.ishr X22.here hx rfl (hb hby at_113) rfl hr) ?_
              show W p e below _ (T22.setTop (mkF m 114 #[.val (.int p0), .val (.int p1), .val (.int i), .val (.ref w_GREATER), .val (.int (4 : Int32)), .val (.int (2 : Int32)), .unset] [(.int ((4 : Int32) >>> ((2 : Int32) &&& 31)))]))
              rw [show ((4 : Int32) >>> ((2 : Int32) &&& 31)) = (1 : Int32) from by decide]
              show W p e below _ (T22.setTop (mkF m 114 #[.val (.int p0), .val (.int p1), .val (.int i), .val (.ref w_GREATER), .val (.int (4 : Int32)), .val (.int (2 : Int32)), .unset] [(.int (1 : Int32))]))
              refine W.go (fun _ hr => XS.iconst X22.here hx rfl (hb hby at_114) hr) ?_
              show W p e below _ (T22.setTop (mkF m 115 #[.val (.int p0), .val (.int p1), .val (.int i), .val (.ref w_GREATER), .val (.int (4 : Int32)), .val (.int (2 : Int32)), .unset] [(.int (1 : Int32)), (.int (1 : Int32))]))
              refine W.go (fun _ hr => XS.iand X22.here hx rfl (hb hby at_115) rfl hr) ?_
              show W p e below _ (T22.setTop (mkF m 116 #[.val (.int p0), .val (.int p1), .val (.int i), .val (.ref w_GREATER), .val (.int (4 : Int32)), .val (.int (2 : Int32)), .unset] [(.int ((1 : Int32) &&& (1 : Int32)))]))
              rw [show ((1 : Int32) &&& (1 : Int32)) = (1 : Int32) from by decide]
              show W p e below _ (T22.setTop (mkF m 116 #[.val (.int p0), .val (.int p1), .val (.int i), .val (.ref w_GREATER), .val (.int (4 : Int32)), .val (.int (2 : Int32)), .unset] [(.int (1 : Int32))]))
              refine W.go (fun _ hr => XS.ifNo X22.here hx rfl (hb hby at_116) rfl ((if0 _ _).trans (feq (by decide : ¬ ((1 : Int32) = (0 : Int32)))).1) hr) ?_
              show W p e below _ (T22.setTop (mkF m 119 #[.val (.int p0), .val (.int p1), .val (.int i), .val (.ref w_GREATER), .val (.int (4 : Int32)), .val (.int (2 : Int32)), .unset] []))
              refine W.go (fun _ hr => XS.iconst X22.here hx rfl (hb hby at_119) hr) ?_
              show W p e below _ (T22.setTop (mkF m 120 #[.val (.int p0), .val (.int p1), .val (.int i), .val (.ref w_GREATER), .val (.int (4 : Int32)), .val (.int (2 : Int32)), .unset] [(.int (1 : Int32))]))
              refine W.go (fun _ hr => XS.goto X22.here hx rfl (pc0 := 120) (pc' := 124) rfl (hb hby at_120) (by decide) (by decide) hr) ?_
              show W p e below _ (T22.setTop (mkF m 124 #[.val (.int p0), .val (.int p1), .val (.int i), .val (.ref w_GREATER), .val (.int (4 : Int32)), .val (.int (2 : Int32)), .unset] [(.int (1 : Int32))]))
              refine W.go (fun _ hr => XS.istore X22.here hx rfl (hb hby at_124) rfl (l' := #[.val (.int p0), .val (.int p1), .val (.int i), .val (.ref w_GREATER), .val (.int (4 : Int32)), .val (.int (2 : Int32)), .val (.int (1 : Int32))]) rfl hr) ?_
              show W p e below _ (T22.setTop (mkF m 126 #[.val (.int p0), .val (.int p1), .val (.int i), .val (.ref w_GREATER), .val (.int (4 : Int32)), .val (.int (2 : Int32)), .val (.int (1 : Int32))] []))
              refine W.go (fun _ hr => XS.aloadN X22.here hx rfl (hb hby at_126) rfl rfl hr) ?_
              show W p e below _ (T22.setTop (mkF m 127 #[.val (.int p0), .val (.int p1), .val (.int i), .val (.ref w_GREATER), .val (.int (4 : Int32)), .val (.int (2 : Int32)), .val (.int (1 : Int32))] [(.ref w_GREATER)]))
              refine W.go (fun _ hr => XS.iloadN X22.here hx rfl (hb hby at_127) rfl hr) ?_
              show W p e below _ (T22.setTop (mkF m 128 #[.val (.int p0), .val (.int p1), .val (.int i), .val (.ref w_GREATER), .val (.int (4 : Int32)), .val (.int (2 : Int32)), .val (.int (1 : Int32))] [(.int p1), (.ref w_GREATER)]))
              refine W.callV X22 hx hZ hown (g := (mkF m 128 #[.val (.int p0), .val (.int p1), .val (.int i), .val (.ref w_GREATER), .val (.int (4 : Int32)), .val (.int (2 : Int32)), .val (.int (1 : Int32))] [(.int p1), (.ref w_GREATER)])) (by rw [hml]; rfl) (hw _ (List.mem_of_getElem? (i := 4) rfl)) (hw _ (List.mem_of_getElem? (i := 5) rfl)) (hw _ (List.mem_of_getElem? (i := 7) rfl)) (hw _ (List.mem_of_getElem? (i := 6) rfl)) (hw _ (List.mem_of_getElem? (i := 2) rfl)) (hw _ (List.mem_of_getElem? (i := 8) rfl)) e22 (rm1 l Z a0 hw w_GREATER p1 (4 : Int32) (1 : Int32) h0 n0 Z0 E_w_GREATER F_GREATER (by decide) (by simp [own_holds, q0, q1, q2])) (notFace_of_selects (args := #[]) (mvT hZ (hw _ (List.mem_of_getElem? (i := 7) rfl)))) (by decide) pd_45 rfl E_w_GREATER (argsL := [(.int p1)]) (rest := []) rfl rfl rfl (hb hby at_128) (W0 := 0) rfl (by decide) (by decide) (by decide) (by decide) (fun v25 T25 h25 L25 X25 e25 hQ25 => ?_)
              obtain ⟨rfl, N25q, hh25⟩ := hQ25
              obtain rfl := hh25.symm
              have N25 := Fr.app N0 N25q
              show W p e below _ (T25.setTop (mkF m 131 #[.val (.int p0), .val (.int p1), .val (.int i), .val (.ref w_GREATER), .val (.int (4 : Int32)), .val (.int (2 : Int32)), .val (.int (1 : Int32))] [(.int (1 : Int32))]))
              refine W.go (fun _ hr => XS.iload X25.here hx rfl (hb hby at_131) rfl hr) ?_
              show W p e below _ (T25.setTop (mkF m 133 #[.val (.int p0), .val (.int p1), .val (.int i), .val (.ref w_GREATER), .val (.int (4 : Int32)), .val (.int (2 : Int32)), .val (.int (1 : Int32))] [(.int (1 : Int32)), (.int (1 : Int32))]))
              refine W.go (fun _ hr => XS.icmpNo X25.here hx rfl (hb hby at_133) rfl (teq (by decide : ((1 : Int32) = (1 : Int32)))).2 hr) ?_
              show W p e below _ (T25.setTop (mkF m 136 #[.val (.int p0), .val (.int p1), .val (.int i), .val (.ref w_GREATER), .val (.int (4 : Int32)), .val (.int (2 : Int32)), .val (.int (1 : Int32))] []))
              refine W.go (fun _ hr => XS.iconst X25.here hx rfl (hb hby at_136) hr) ?_
              show W p e below _ (T25.setTop (mkF m 137 #[.val (.int p0), .val (.int p1), .val (.int i), .val (.ref w_GREATER), .val (.int (4 : Int32)), .val (.int (2 : Int32)), .val (.int (1 : Int32))] [(.int (1 : Int32))]))
              refine W.go (fun _ hr => XS.goto X25.here hx rfl (pc0 := 137) (pc' := 141) rfl (hb hby at_137) (by decide) (by decide) hr) ?_
              show W p e below _ (T25.setTop (mkF m 141 #[.val (.int p0), .val (.int p1), .val (.int i), .val (.ref w_GREATER), .val (.int (4 : Int32)), .val (.int (2 : Int32)), .val (.int (1 : Int32))] [(.int (1 : Int32))]))
              exact W.retB X25 hx hlk (t := .boolean) hret (by simp) (hb hby at_141) (by decide) (by decide) e25 ⟨rfl, N25⟩
          · refine W.go (fun _ hr => XS.icmpYes X0.here hx rfl (pc0 := 69) (pc' := 82) rfl (hb hby at_69) rfl (feq hc69_21).2 (by decide) (by decide) hr) ?_
            show W p e below _ (s₁.setTop (mkF m 82 #[.val (.int p0), .val (.int p1), .val (.int i), .unset, .unset, .unset, .unset] []))
            obtain ⟨T26, X26, e26, st26⟩ := getS2 X0 hx hZ hown (host := "") (Or.inl (hw _ (List.mem_of_getElem? (i := 24) rfl))) Via.refl e0 S_GREATER_OR_EQUAL (g := (mkF m 82 #[.val (.int p0), .val (.int p1), .val (.int i), .unset, .unset, .unset, .unset] [])) rfl (hb hby at_82)
            refine W.go st26 ?_
            show W p e below _ (T26.setTop (mkF m 85 #[.val (.int p0), .val (.int p1), .val (.int i), .unset, .unset, .unset, .unset] [(.ref w_GREATER_OR_EQUAL)]))
            refine W.go (fun _ hr => XS.astoreN X26.here hx rfl (hb hby at_85) rfl rfl (l' := #[.val (.int p0), .val (.int p1), .val (.int i), .val (.ref w_GREATER_OR_EQUAL), .unset, .unset, .unset]) rfl hr) ?_
            show W p e below _ (T26.setTop (mkF m 86 #[.val (.int p0), .val (.int p1), .val (.int i), .val (.ref w_GREATER_OR_EQUAL), .unset, .unset, .unset] []))
            refine W.go (fun _ hr => XS.bipush X26.here hx rfl (hb hby at_86) hr) ?_
            show W p e below _ (T26.setTop (mkF m 88 #[.val (.int p0), .val (.int p1), .val (.int i), .val (.ref w_GREATER_OR_EQUAL), .unset, .unset, .unset] [(.int (6 : Int32))]))
            refine W.go (fun _ hr => XS.istore X26.here hx rfl (hb hby at_88) rfl (l' := #[.val (.int p0), .val (.int p1), .val (.int i), .val (.ref w_GREATER_OR_EQUAL), .val (.int (6 : Int32)), .unset, .unset]) rfl hr) ?_
            show W p e below _ (T26.setTop (mkF m 90 #[.val (.int p0), .val (.int p1), .val (.int i), .val (.ref w_GREATER_OR_EQUAL), .val (.int (6 : Int32)), .unset, .unset] []))
            rcases own3 p1 with ⟨q0, q1, q2⟩ | rfl | ⟨q0, q1, q2⟩
            · refine W.go (fun _ hr => XS.iloadN X26.here hx rfl (hb hby at_90) rfl hr) ?_
              show W p e below _ (T26.setTop (mkF m 91 #[.val (.int p0), .val (.int p1), .val (.int i), .val (.ref w_GREATER_OR_EQUAL), .val (.int (6 : Int32)), .unset, .unset] [(.int p1)]))
              refine W.go (fun _ hr => XS.ifNo X26.here hx rfl (hb hby at_91) rfl ((if0 _ _).trans (tlt (q0 : (p1 < (0 : Int32)))).2.1) hr) ?_
              show W p e below _ (T26.setTop (mkF m 94 #[.val (.int p0), .val (.int p1), .val (.int i), .val (.ref w_GREATER_OR_EQUAL), .val (.int (6 : Int32)), .unset, .unset] []))
              refine W.go (fun _ hr => XS.iconst X26.here hx rfl (hb hby at_94) hr) ?_
              show W p e below _ (T26.setTop (mkF m 95 #[.val (.int p0), .val (.int p1), .val (.int i), .val (.ref w_GREATER_OR_EQUAL), .val (.int (6 : Int32)), .unset, .unset] [(.int (0 : Int32))]))
              refine W.go (fun _ hr => XS.goto X26.here hx rfl (pc0 := 95) (pc' := 107) rfl (hb hby at_95) (by decide) (by decide) hr) ?_
              show W p e below _ (T26.setTop (mkF m 107 #[.val (.int p0), .val (.int p1), .val (.int i), .val (.ref w_GREATER_OR_EQUAL), .val (.int (6 : Int32)), .unset, .unset] [(.int (0 : Int32))]))
              refine W.go (fun _ hr => XS.istore X26.here hx rfl (hb hby at_107) rfl (l' := #[.val (.int p0), .val (.int p1), .val (.int i), .val (.ref w_GREATER_OR_EQUAL), .val (.int (6 : Int32)), .val (.int (0 : Int32)), .unset]) rfl hr) ?_
              show W p e below _ (T26.setTop (mkF m 109 #[.val (.int p0), .val (.int p1), .val (.int i), .val (.ref w_GREATER_OR_EQUAL), .val (.int (6 : Int32)), .val (.int (0 : Int32)), .unset] []))
              refine W.go (fun _ hr => XS.iload X26.here hx rfl (hb hby at_109) rfl hr) ?_
              show W p e below _ (T26.setTop (mkF m 111 #[.val (.int p0), .val (.int p1), .val (.int i), .val (.ref w_GREATER_OR_EQUAL), .val (.int (6 : Int32)), .val (.int (0 : Int32)), .unset] [(.int (6 : Int32))]))
              refine W.go (fun _ hr => XS.iload X26.here hx rfl (hb hby at_111) rfl hr) ?_
              show W p e below _ (T26.setTop (mkF m 113 #[.val (.int p0), .val (.int p1), .val (.int i), .val (.ref w_GREATER_OR_EQUAL), .val (.int (6 : Int32)), .val (.int (0 : Int32)), .unset] [(.int (0 : Int32)), (.int (6 : Int32))]))
              refine W.go (fun _ hr => XS.ishr X26.here hx rfl (hb hby at_113) rfl hr) ?_
              show W p e below _ (T26.setTop (mkF m 114 #[.val (.int p0), .val (.int p1), .val (.int i), .val (.ref w_GREATER_OR_EQUAL), .val (.int (6 : Int32)), .val (.int (0 : Int32)), .unset] [(.int ((6 : Int32) >>> ((0 : Int32) &&& 31)))]))
              rw [show ((6 : Int32) >>> ((0 : Int32) &&& 31)) = (6 : Int32) from by decide]
              show W p e below _ (T26.setTop (mkF m 114 #[.val (.int p0), .val (.int p1), .val (.int i), .val (.ref w_GREATER_OR_EQUAL), .val (.int (6 : Int32)), .val (.int (0 : Int32)), .unset] [(.int (6 : Int32))]))
              refine W.go (fun _ hr => XS.iconst X26.here hx rfl (hb hby at_114) hr) ?_
              show W p e below _ (T26.setTop (mkF m 115 #[.val (.int p0), .val (.int p1), .val (.int i), .val (.ref w_GREATER_OR_EQUAL), .val (.int (6 : Int32)), .val (.int (0 : Int32)), .unset] [(.int (1 : Int32)), (.int (6 : Int32))]))
              refine W.go (fun _ hr => XS.iand X26.here hx rfl (hb hby at_115) rfl hr) ?_
              show W p e below _ (T26.setTop (mkF m 116 #[.val (.int p0), .val (.int p1), .val (.int i), .val (.ref w_GREATER_OR_EQUAL), .val (.int (6 : Int32)), .val (.int (0 : Int32)), .unset] [(.int ((6 : Int32) &&& (1 : Int32)))]))
              rw [show ((6 : Int32) &&& (1 : Int32)) = (0 : Int32) from by decide]
              show W p e below _ (T26.setTop (mkF m 116 #[.val (.int p0), .val (.int p1), .val (.int i), .val (.ref w_GREATER_OR_EQUAL), .val (.int (6 : Int32)), .val (.int (0 : Int32)), .unset] [(.int (0 : Int32))]))
              refine W.go (fun _ hr => XS.ifYes X26.here hx rfl (pc0 := 116) (pc' := 123) rfl (hb hby at_116) rfl ((if0 _ _).trans (teq (by decide : ((0 : Int32) = (0 : Int32)))).1) (by decide) (by decide) hr) ?_
              show W p e below _ (T26.setTop (mkF m 123 #[.val (.int p0), .val (.int p1), .val (.int i), .val (.ref w_GREATER_OR_EQUAL), .val (.int (6 : Int32)), .val (.int (0 : Int32)), .unset] []))
              refine W.go (fun _ hr => XS.iconst X26.here hx rfl (hb hby at_123) hr) ?_
              show W p e below _ (T26.setTop (mkF m 124 #[.val (.int p0), .val (.int p1), .val (.int i), .val (.ref w_GREATER_OR_EQUAL), .val (.int (6 : Int32)), .val (.int (0 : Int32)), .unset] [(.int (0 : Int32))]))
              refine W.go (fun _ hr => XS.istore X26.here hx rfl (hb hby at_124) rfl (l' := #[.val (.int p0), .val (.int p1), .val (.int i), .val (.ref w_GREATER_OR_EQUAL), .val (.int (6 : Int32)), .val (.int (0 : Int32)), .val (.int (0 : Int32))]) rfl hr) ?_
              show W p e below _ (T26.setTop (mkF m 126 #[.val (.int p0), .val (.int p1), .val (.int i), .val (.ref w_GREATER_OR_EQUAL), .val (.int (6 : Int32)), .val (.int (0 : Int32)), .val (.int (0 : Int32))] []))
              refine W.go (fun _ hr => XS.aloadN X26.here hx rfl (hb hby at_126) rfl rfl hr) ?_
              show W p e below _ (T26.setTop (mkF m 127 #[.val (.int p0), .val (.int p1), .val (.int i), .val (.ref w_GREATER_OR_EQUAL), .val (.int (6 : Int32)), .val (.int (0 : Int32)), .val (.int (0 : Int32))] [(.ref w_GREATER_OR_EQUAL)]))
              refine W.go (fun _ hr => XS.iloadN X26.here hx rfl (hb hby at_127) rfl hr) ?_
              show W p e below _ (T26.setTop (mkF m 128 #[.val (.int p0), .val (.int p1), .val (.int i), .val (.ref w_GREATER_OR_EQUAL), .val (.int (6 : Int32)), .val (.int (0 : Int32)), .val (.int (0 : Int32))] [(.int p1), (.ref w_GREATER_OR_EQUAL)]))
              refine W.callV X26 hx hZ hown (g := (mkF m 128 #[.val (.int p0), .val (.int p1), .val (.int i), .val (.ref w_GREATER_OR_EQUAL), .val (.int (6 : Int32)), .val (.int (0 : Int32)), .val (.int (0 : Int32))] [(.int p1), (.ref w_GREATER_OR_EQUAL)])) (by rw [hml]; rfl) (hw _ (List.mem_of_getElem? (i := 4) rfl)) (hw _ (List.mem_of_getElem? (i := 5) rfl)) (hw _ (List.mem_of_getElem? (i := 7) rfl)) (hw _ (List.mem_of_getElem? (i := 6) rfl)) (hw _ (List.mem_of_getElem? (i := 2) rfl)) (hw _ (List.mem_of_getElem? (i := 8) rfl)) e26 (rm1 l Z a0 hw w_GREATER_OR_EQUAL p1 (5 : Int32) (0 : Int32) h0 n0 Z0 E_w_GREATER_OR_EQUAL F_GREATER_OR_EQUAL (by decide) (by simp [own_holds, q0, q1, q2])) (notFace_of_selects (args := #[]) (mvT hZ (hw _ (List.mem_of_getElem? (i := 7) rfl)))) (by decide) pd_45 rfl E_w_GREATER_OR_EQUAL (argsL := [(.int p1)]) (rest := []) rfl rfl rfl (hb hby at_128) (W0 := 0) rfl (by decide) (by decide) (by decide) (by decide) (fun v27 T27 h27 L27 X27 e27 hQ27 => ?_)
              obtain ⟨rfl, N27q, hh27⟩ := hQ27
              obtain rfl := hh27.symm
              have N27 := Fr.app N0 N27q
              show W p e below _ (T27.setTop (mkF m 131 #[.val (.int p0), .val (.int p1), .val (.int i), .val (.ref w_GREATER_OR_EQUAL), .val (.int (6 : Int32)), .val (.int (0 : Int32)), .val (.int (0 : Int32))] [(.int (0 : Int32))]))
              refine W.go (fun _ hr => XS.iload X27.here hx rfl (hb hby at_131) rfl hr) ?_
              show W p e below _ (T27.setTop (mkF m 133 #[.val (.int p0), .val (.int p1), .val (.int i), .val (.ref w_GREATER_OR_EQUAL), .val (.int (6 : Int32)), .val (.int (0 : Int32)), .val (.int (0 : Int32))] [(.int (0 : Int32)), (.int (0 : Int32))]))
              refine W.go (fun _ hr => XS.icmpNo X27.here hx rfl (hb hby at_133) rfl (teq (by decide : ((0 : Int32) = (0 : Int32)))).2 hr) ?_
              show W p e below _ (T27.setTop (mkF m 136 #[.val (.int p0), .val (.int p1), .val (.int i), .val (.ref w_GREATER_OR_EQUAL), .val (.int (6 : Int32)), .val (.int (0 : Int32)), .val (.int (0 : Int32))] []))
              refine W.go (fun _ hr => XS.iconst X27.here hx rfl (hb hby at_136) hr) ?_
              show W p e below _ (T27.setTop (mkF m 137 #[.val (.int p0), .val (.int p1), .val (.int i), .val (.ref w_GREATER_OR_EQUAL), .val (.int (6 : Int32)), .val (.int (0 : Int32)), .val (.int (0 : Int32))] [(.int (1 : Int32))]))
              refine W.go (fun _ hr => XS.goto X27.here hx rfl (pc0 := 137) (pc' := 141) rfl (hb hby at_137) (by decide) (by decide) hr) ?_
              show W p e below _ (T27.setTop (mkF m 141 #[.val (.int p0), .val (.int p1), .val (.int i), .val (.ref w_GREATER_OR_EQUAL), .val (.int (6 : Int32)), .val (.int (0 : Int32)), .val (.int (0 : Int32))] [(.int (1 : Int32))]))
              exact W.retB X27 hx hlk (t := .boolean) hret (by simp) (hb hby at_141) (by decide) (by decide) e27 ⟨rfl, N27⟩
            · refine W.go (fun _ hr => XS.iloadN X26.here hx rfl (hb hby at_90) rfl hr) ?_
              show W p e below _ (T26.setTop (mkF m 91 #[.val (.int p0), .val (.int (0 : Int32)), .val (.int i), .val (.ref w_GREATER_OR_EQUAL), .val (.int (6 : Int32)), .unset, .unset] [(.int (0 : Int32))]))
              refine W.go (fun _ hr => XS.ifYes X26.here hx rfl (pc0 := 91) (pc' := 98) rfl (hb hby at_91) rfl ((if0 _ _).trans (flt (by decide : ¬ ((0 : Int32) < (0 : Int32)))).2.1) (by decide) (by decide) hr) ?_
              show W p e below _ (T26.setTop (mkF m 98 #[.val (.int p0), .val (.int (0 : Int32)), .val (.int i), .val (.ref w_GREATER_OR_EQUAL), .val (.int (6 : Int32)), .unset, .unset] []))
              refine W.go (fun _ hr => XS.iloadN X26.here hx rfl (hb hby at_98) rfl hr) ?_
              show W p e below _ (T26.setTop (mkF m 99 #[.val (.int p0), .val (.int (0 : Int32)), .val (.int i), .val (.ref w_GREATER_OR_EQUAL), .val (.int (6 : Int32)), .unset, .unset] [(.int (0 : Int32))]))
              refine W.go (fun _ hr => XS.ifNo X26.here hx rfl (hb hby at_99) rfl ((if0 _ _).trans (teq (by decide : ((0 : Int32) = (0 : Int32)))).2) hr) ?_
              show W p e below _ (T26.setTop (mkF m 102 #[.val (.int p0), .val (.int (0 : Int32)), .val (.int i), .val (.ref w_GREATER_OR_EQUAL), .val (.int (6 : Int32)), .unset, .unset] []))
              refine W.go (fun _ hr => XS.iconst X26.here hx rfl (hb hby at_102) hr) ?_
              show W p e below _ (T26.setTop (mkF m 103 #[.val (.int p0), .val (.int (0 : Int32)), .val (.int i), .val (.ref w_GREATER_OR_EQUAL), .val (.int (6 : Int32)), .unset, .unset] [(.int (1 : Int32))]))
              refine W.go (fun _ hr => XS.goto X26.here hx rfl (pc0 := 103) (pc' := 107) rfl (hb hby at_103) (by decide) (by decide) hr) ?_
              show W p e below _ (T26.setTop (mkF m 107 #[.val (.int p0), .val (.int (0 : Int32)), .val (.int i), .val (.ref w_GREATER_OR_EQUAL), .val (.int (6 : Int32)), .unset, .unset] [(.int (1 : Int32))]))
              refine W.go (fun _ hr => XS.istore X26.here hx rfl (hb hby at_107) rfl (l' := #[.val (.int p0), .val (.int (0 : Int32)), .val (.int i), .val (.ref w_GREATER_OR_EQUAL), .val (.int (6 : Int32)), .val (.int (1 : Int32)), .unset]) rfl hr) ?_
              show W p e below _ (T26.setTop (mkF m 109 #[.val (.int p0), .val (.int (0 : Int32)), .val (.int i), .val (.ref w_GREATER_OR_EQUAL), .val (.int (6 : Int32)), .val (.int (1 : Int32)), .unset] []))
              refine W.go (fun _ hr => XS.iload X26.here hx rfl (hb hby at_109) rfl hr) ?_
              show W p e below _ (T26.setTop (mkF m 111 #[.val (.int p0), .val (.int (0 : Int32)), .val (.int i), .val (.ref w_GREATER_OR_EQUAL), .val (.int (6 : Int32)), .val (.int (1 : Int32)), .unset] [(.int (6 : Int32))]))
              refine W.go (fun _ hr => XS.iload X26.here hx rfl (hb hby at_111) rfl hr) ?_
              show W p e below _ (T26.setTop (mkF m 113 #[.val (.int p0), .val (.int (0 : Int32)), .val (.int i), .val (.ref w_GREATER_OR_EQUAL), .val (.int (6 : Int32)), .val (.int (1 : Int32)), .unset] [(.int (1 : Int32)), (.int (6 : Int32))]))
              refine W.go (fun _ hr => XS.ishr X26.here hx rfl (hb hby at_113) rfl hr) ?_
              show W p e below _ (T26.setTop (mkF m 114 #[.val (.int p0), .val (.int (0 : Int32)), .val (.int i), .val (.ref w_GREATER_OR_EQUAL), .val (.int (6 : Int32)), .val (.int (1 : Int32)), .unset] [(.int ((6 : Int32) >>> ((1 : Int32) &&& 31)))]))
              rw [show ((6 : Int32) >>> ((1 : Int32) &&& 31)) = (3 : Int32) from by decide]
              show W p e below _ (T26.setTop (mkF m 114 #[.val (.int p0), .val (.int (0 : Int32)), .val (.int i), .val (.ref w_GREATER_OR_EQUAL), .val (.int (6 : Int32)), .val (.int (1 : Int32)), .unset] [(.int (3 : Int32))]))
              refine W.go (fun _ hr => XS.iconst X26.here hx rfl (hb hby at_114) hr) ?_
              show W p e below _ (T26.setTop (mkF m 115 #[.val (.int p0), .val (.int (0 : Int32)), .val (.int i), .val (.ref w_GREATER_OR_EQUAL), .val (.int (6 : Int32)), .val (.int (1 : Int32)), .unset] [(.int (1 : Int32)), (.int (3 : Int32))]))
              refine W.go (fun _ hr => XS.iand X26.here hx rfl (hb hby at_115) rfl hr) ?_
              show W p e below _ (T26.setTop (mkF m 116 #[.val (.int p0), .val (.int (0 : Int32)), .val (.int i), .val (.ref w_GREATER_OR_EQUAL), .val (.int (6 : Int32)), .val (.int (1 : Int32)), .unset] [(.int ((3 : Int32) &&& (1 : Int32)))]))
              rw [show ((3 : Int32) &&& (1 : Int32)) = (1 : Int32) from by decide]
              show W p e below _ (T26.setTop (mkF m 116 #[.val (.int p0), .val (.int (0 : Int32)), .val (.int i), .val (.ref w_GREATER_OR_EQUAL), .val (.int (6 : Int32)), .val (.int (1 : Int32)), .unset] [(.int (1 : Int32))]))
              refine W.go (fun _ hr => XS.ifNo X26.here hx rfl (hb hby at_116) rfl ((if0 _ _).trans (feq (by decide : ¬ ((1 : Int32) = (0 : Int32)))).1) hr) ?_
              show W p e below _ (T26.setTop (mkF m 119 #[.val (.int p0), .val (.int (0 : Int32)), .val (.int i), .val (.ref w_GREATER_OR_EQUAL), .val (.int (6 : Int32)), .val (.int (1 : Int32)), .unset] []))
              refine W.go (fun _ hr => XS.iconst X26.here hx rfl (hb hby at_119) hr) ?_
              show W p e below _ (T26.setTop (mkF m 120 #[.val (.int p0), .val (.int (0 : Int32)), .val (.int i), .val (.ref w_GREATER_OR_EQUAL), .val (.int (6 : Int32)), .val (.int (1 : Int32)), .unset] [(.int (1 : Int32))]))
              refine W.go (fun _ hr => XS.goto X26.here hx rfl (pc0 := 120) (pc' := 124) rfl (hb hby at_120) (by decide) (by decide) hr) ?_
              show W p e below _ (T26.setTop (mkF m 124 #[.val (.int p0), .val (.int (0 : Int32)), .val (.int i), .val (.ref w_GREATER_OR_EQUAL), .val (.int (6 : Int32)), .val (.int (1 : Int32)), .unset] [(.int (1 : Int32))]))
              refine W.go (fun _ hr => XS.istore X26.here hx rfl (hb hby at_124) rfl (l' := #[.val (.int p0), .val (.int (0 : Int32)), .val (.int i), .val (.ref w_GREATER_OR_EQUAL), .val (.int (6 : Int32)), .val (.int (1 : Int32)), .val (.int (1 : Int32))]) rfl hr) ?_
              show W p e below _ (T26.setTop (mkF m 126 #[.val (.int p0), .val (.int (0 : Int32)), .val (.int i), .val (.ref w_GREATER_OR_EQUAL), .val (.int (6 : Int32)), .val (.int (1 : Int32)), .val (.int (1 : Int32))] []))
              refine W.go (fun _ hr => XS.aloadN X26.here hx rfl (hb hby at_126) rfl rfl hr) ?_
              show W p e below _ (T26.setTop (mkF m 127 #[.val (.int p0), .val (.int (0 : Int32)), .val (.int i), .val (.ref w_GREATER_OR_EQUAL), .val (.int (6 : Int32)), .val (.int (1 : Int32)), .val (.int (1 : Int32))] [(.ref w_GREATER_OR_EQUAL)]))
              refine W.go (fun _ hr => XS.iloadN X26.here hx rfl (hb hby at_127) rfl hr) ?_
              show W p e below _ (T26.setTop (mkF m 128 #[.val (.int p0), .val (.int (0 : Int32)), .val (.int i), .val (.ref w_GREATER_OR_EQUAL), .val (.int (6 : Int32)), .val (.int (1 : Int32)), .val (.int (1 : Int32))] [(.int (0 : Int32)), (.ref w_GREATER_OR_EQUAL)]))
              refine W.callV X26 hx hZ hown (g := (mkF m 128 #[.val (.int p0), .val (.int (0 : Int32)), .val (.int i), .val (.ref w_GREATER_OR_EQUAL), .val (.int (6 : Int32)), .val (.int (1 : Int32)), .val (.int (1 : Int32))] [(.int (0 : Int32)), (.ref w_GREATER_OR_EQUAL)])) (by rw [hml]; rfl) (hw _ (List.mem_of_getElem? (i := 4) rfl)) (hw _ (List.mem_of_getElem? (i := 5) rfl)) (hw _ (List.mem_of_getElem? (i := 7) rfl)) (hw _ (List.mem_of_getElem? (i := 6) rfl)) (hw _ (List.mem_of_getElem? (i := 2) rfl)) (hw _ (List.mem_of_getElem? (i := 8) rfl)) e26 (rm1 l Z a0 hw w_GREATER_OR_EQUAL (0 : Int32) (5 : Int32) (1 : Int32) h0 n0 Z0 E_w_GREATER_OR_EQUAL F_GREATER_OR_EQUAL (by decide) (by decide)) (notFace_of_selects (args := #[]) (mvT hZ (hw _ (List.mem_of_getElem? (i := 7) rfl)))) (by decide) pd_45 rfl E_w_GREATER_OR_EQUAL (argsL := [(.int (0 : Int32))]) (rest := []) rfl rfl rfl (hb hby at_128) (W0 := 0) rfl (by decide) (by decide) (by decide) (by decide) (fun v28 T28 h28 L28 X28 e28 hQ28 => ?_)
              obtain ⟨rfl, N28q, hh28⟩ := hQ28
              obtain rfl := hh28.symm
              have N28 := Fr.app N0 N28q
              show W p e below _ (T28.setTop (mkF m 131 #[.val (.int p0), .val (.int (0 : Int32)), .val (.int i), .val (.ref w_GREATER_OR_EQUAL), .val (.int (6 : Int32)), .val (.int (1 : Int32)), .val (.int (1 : Int32))] [(.int (1 : Int32))]))
              refine W.go (fun _ hr => XS.iload X28.here hx rfl (hb hby at_131) rfl hr) ?_
              show W p e below _ (T28.setTop (mkF m 133 #[.val (.int p0), .val (.int (0 : Int32)), .val (.int i), .val (.ref w_GREATER_OR_EQUAL), .val (.int (6 : Int32)), .val (.int (1 : Int32)), .val (.int (1 : Int32))] [(.int (1 : Int32)), (.int (1 : Int32))]))
              refine W.go (fun _ hr => XS.icmpNo X28.here hx rfl (hb hby at_133) rfl (teq (by decide : ((1 : Int32) = (1 : Int32)))).2 hr) ?_
              show W p e below _ (T28.setTop (mkF m 136 #[.val (.int p0), .val (.int (0 : Int32)), .val (.int i), .val (.ref w_GREATER_OR_EQUAL), .val (.int (6 : Int32)), .val (.int (1 : Int32)), .val (.int (1 : Int32))] []))
              refine W.go (fun _ hr => XS.iconst X28.here hx rfl (hb hby at_136) hr) ?_
              show W p e below _ (T28.setTop (mkF m 137 #[.val (.int p0), .val (.int (0 : Int32)), .val (.int i), .val (.ref w_GREATER_OR_EQUAL), .val (.int (6 : Int32)), .val (.int (1 : Int32)), .val (.int (1 : Int32))] [(.int (1 : Int32))]))
              refine W.go (fun _ hr => XS.goto X28.here hx rfl (pc0 := 137) (pc' := 141) rfl (hb hby at_137) (by decide) (by decide) hr) ?_
              show W p e below _ (T28.setTop (mkF m 141 #[.val (.int p0), .val (.int (0 : Int32)), .val (.int i), .val (.ref w_GREATER_OR_EQUAL), .val (.int (6 : Int32)), .val (.int (1 : Int32)), .val (.int (1 : Int32))] [(.int (1 : Int32))]))
              exact W.retB X28 hx hlk (t := .boolean) hret (by simp) (hb hby at_141) (by decide) (by decide) e28 ⟨rfl, N28⟩
            · refine W.go (fun _ hr => XS.iloadN X26.here hx rfl (hb hby at_90) rfl hr) ?_
              show W p e below _ (T26.setTop (mkF m 91 #[.val (.int p0), .val (.int p1), .val (.int i), .val (.ref w_GREATER_OR_EQUAL), .val (.int (6 : Int32)), .unset, .unset] [(.int p1)]))
              refine W.go (fun _ hr => XS.ifYes X26.here hx rfl (pc0 := 91) (pc' := 98) rfl (hb hby at_91) rfl ((if0 _ _).trans (flt (q0 : ¬ (p1 < (0 : Int32)))).2.1) (by decide) (by decide) hr) ?_
              show W p e below _ (T26.setTop (mkF m 98 #[.val (.int p0), .val (.int p1), .val (.int i), .val (.ref w_GREATER_OR_EQUAL), .val (.int (6 : Int32)), .unset, .unset] []))
              refine W.go (fun _ hr => XS.iloadN X26.here hx rfl (hb hby at_98) rfl hr) ?_
              show W p e below _ (T26.setTop (mkF m 99 #[.val (.int p0), .val (.int p1), .val (.int i), .val (.ref w_GREATER_OR_EQUAL), .val (.int (6 : Int32)), .unset, .unset] [(.int p1)]))
              refine W.go (fun _ hr => XS.ifYes X26.here hx rfl (pc0 := 99) (pc' := 106) rfl (hb hby at_99) rfl ((if0 _ _).trans (feq (q1 : ¬ (p1 = (0 : Int32)))).2) (by decide) (by decide) hr) ?_
              show W p e below _ (T26.setTop (mkF m 106 #[.val (.int p0), .val (.int p1), .val (.int i), .val (.ref w_GREATER_OR_EQUAL), .val (.int (6 : Int32)), .unset, .unset] []))
              refine W.go (fun _ hr => XS.iconst X26.here hx rfl (hb hby at_106) hr) ?_
              show W p e below _ (T26.setTop (mkF m 107 #[.val (.int p0), .val (.int p1), .val (.int i), .val (.ref w_GREATER_OR_EQUAL), .val (.int (6 : Int32)), .unset, .unset] [(.int (2 : Int32))]))
              refine W.go (fun _ hr => XS.istore X26.here hx rfl (hb hby at_107) rfl (l' := #[.val (.int p0), .val (.int p1), .val (.int i), .val (.ref w_GREATER_OR_EQUAL), .val (.int (6 : Int32)), .val (.int (2 : Int32)), .unset]) rfl hr) ?_
              show W p e below _ (T26.setTop (mkF m 109 #[.val (.int p0), .val (.int p1), .val (.int i), .val (.ref w_GREATER_OR_EQUAL), .val (.int (6 : Int32)), .val (.int (2 : Int32)), .unset] []))
              refine W.go (fun _ hr => XS.iload X26.here hx rfl (hb hby at_109) rfl hr) ?_
              show W p e below _ (T26.setTop (mkF m 111 #[.val (.int p0), .val (.int p1), .val (.int i), .val (.ref w_GREATER_OR_EQUAL), .val (.int (6 : Int32)), .val (.int (2 : Int32)), .unset] [(.int (6 : Int32))]))
              refine W.go (fun _ hr => XS.iload X26.here hx rfl (hb hby at_111) rfl hr) ?_
              show W p e below _ (T26.setTop (mkF m 113 #[.val (.int p0), .val (.int p1), .val (.int i), .val (.ref w_GREATER_OR_EQUAL), .val (.int (6 : Int32)), .val (.int (2 : Int32)), .unset] [(.int (2 : Int32)), (.int (6 : Int32))]))
              refine W.go (fun _ hr => XS.ishr X26.here hx rfl (hb hby at_113) rfl hr) ?_
              show W p e below _ (T26.setTop (mkF m 114 #[.val (.int p0), .val (.int p1), .val (.int i), .val (.ref w_GREATER_OR_EQUAL), .val (.int (6 : Int32)), .val (.int (2 : Int32)), .unset] [(.int ((6 : Int32) >>> ((2 : Int32) &&& 31)))]))
              rw [show ((6 : Int32) >>> ((2 : Int32) &&& 31)) = (1 : Int32) from by decide]
              show W p e below _ (T26.setTop (mkF m 114 #[.val (.int p0), .val (.int p1), .val (.int i), .val (.ref w_GREATER_OR_EQUAL), .val (.int (6 : Int32)), .val (.int (2 : Int32)), .unset] [(.int (1 : Int32))]))
              refine W.go (fun _ hr => XS.iconst X26.here hx rfl (hb hby at_114) hr) ?_
              show W p e below _ (T26.setTop (mkF m 115 #[.val (.int p0), .val (.int p1), .val (.int i), .val (.ref w_GREATER_OR_EQUAL), .val (.int (6 : Int32)), .val (.int (2 : Int32)), .unset] [(.int (1 : Int32)), (.int (1 : Int32))]))
              refine W.go (fun _ hr => XS.iand X26.here hx rfl (hb hby at_115) rfl hr) ?_
              show W p e below _ (T26.setTop (mkF m 116 #[.val (.int p0), .val (.int p1), .val (.int i), .val (.ref w_GREATER_OR_EQUAL), .val (.int (6 : Int32)), .val (.int (2 : Int32)), .unset] [(.int ((1 : Int32) &&& (1 : Int32)))]))
              rw [show ((1 : Int32) &&& (1 : Int32)) = (1 : Int32) from by decide]
              show W p e below _ (T26.setTop (mkF m 116 #[.val (.int p0), .val (.int p1), .val (.int i), .val (.ref w_GREATER_OR_EQUAL), .val (.int (6 : Int32)), .val (.int (2 : Int32)), .unset] [(.int (1 : Int32))]))
              refine W.go (fun _ hr => XS.ifNo X26.here hx rfl (hb hby at_116) rfl ((if0 _ _).trans (feq (by decide : ¬ ((1 : Int32) = (0 : Int32)))).1) hr) ?_
              show W p e below _ (T26.setTop (mkF m 119 #[.val (.int p0), .val (.int p1), .val (.int i), .val (.ref w_GREATER_OR_EQUAL), .val (.int (6 : Int32)), .val (.int (2 : Int32)), .unset] []))
              refine W.go (fun _ hr => XS.iconst X26.here hx rfl (hb hby at_119) hr) ?_
              show W p e below _ (T26.setTop (mkF m 120 #[.val (.int p0), .val (.int p1), .val (.int i), .val (.ref w_GREATER_OR_EQUAL), .val (.int (6 : Int32)), .val (.int (2 : Int32)), .unset] [(.int (1 : Int32))]))
              refine W.go (fun _ hr => XS.goto X26.here hx rfl (pc0 := 120) (pc' := 124) rfl (hb hby at_120) (by decide) (by decide) hr) ?_
              show W p e below _ (T26.setTop (mkF m 124 #[.val (.int p0), .val (.int p1), .val (.int i), .val (.ref w_GREATER_OR_EQUAL), .val (.int (6 : Int32)), .val (.int (2 : Int32)), .unset] [(.int (1 : Int32))]))
              refine W.go (fun _ hr => XS.istore X26.here hx rfl (hb hby at_124) rfl (l' := #[.val (.int p0), .val (.int p1), .val (.int i), .val (.ref w_GREATER_OR_EQUAL), .val (.int (6 : Int32)), .val (.int (2 : Int32)), .val (.int (1 : Int32))]) rfl hr) ?_
              show W p e below _ (T26.setTop (mkF m 126 #[.val (.int p0), .val (.int p1), .val (.int i), .val (.ref w_GREATER_OR_EQUAL), .val (.int (6 : Int32)), .val (.int (2 : Int32)), .val (.int (1 : Int32))] []))
              refine W.go (fun _ hr => XS.aloadN X26.here hx rfl (hb hby at_126) rfl rfl hr) ?_
              show W p e below _ (T26.setTop (mkF m 127 #[.val (.int p0), .val (.int p1), .val (.int i), .val (.ref w_GREATER_OR_EQUAL), .val (.int (6 : Int32)), .val (.int (2 : Int32)), .val (.int (1 : Int32))] [(.ref w_GREATER_OR_EQUAL)]))
              refine W.go (fun _ hr => XS.iloadN X26.here hx rfl (hb hby at_127) rfl hr) ?_
              show W p e below _ (T26.setTop (mkF m 128 #[.val (.int p0), .val (.int p1), .val (.int i), .val (.ref w_GREATER_OR_EQUAL), .val (.int (6 : Int32)), .val (.int (2 : Int32)), .val (.int (1 : Int32))] [(.int p1), (.ref w_GREATER_OR_EQUAL)]))
              refine W.callV X26 hx hZ hown (g := (mkF m 128 #[.val (.int p0), .val (.int p1), .val (.int i), .val (.ref w_GREATER_OR_EQUAL), .val (.int (6 : Int32)), .val (.int (2 : Int32)), .val (.int (1 : Int32))] [(.int p1), (.ref w_GREATER_OR_EQUAL)])) (by rw [hml]; rfl) (hw _ (List.mem_of_getElem? (i := 4) rfl)) (hw _ (List.mem_of_getElem? (i := 5) rfl)) (hw _ (List.mem_of_getElem? (i := 7) rfl)) (hw _ (List.mem_of_getElem? (i := 6) rfl)) (hw _ (List.mem_of_getElem? (i := 2) rfl)) (hw _ (List.mem_of_getElem? (i := 8) rfl)) e26 (rm1 l Z a0 hw w_GREATER_OR_EQUAL p1 (5 : Int32) (1 : Int32) h0 n0 Z0 E_w_GREATER_OR_EQUAL F_GREATER_OR_EQUAL (by decide) (by simp [own_holds, q0, q1, q2])) (notFace_of_selects (args := #[]) (mvT hZ (hw _ (List.mem_of_getElem? (i := 7) rfl)))) (by decide) pd_45 rfl E_w_GREATER_OR_EQUAL (argsL := [(.int p1)]) (rest := []) rfl rfl rfl (hb hby at_128) (W0 := 0) rfl (by decide) (by decide) (by decide) (by decide) (fun v29 T29 h29 L29 X29 e29 hQ29 => ?_)
              obtain ⟨rfl, N29q, hh29⟩ := hQ29
              obtain rfl := hh29.symm
              have N29 := Fr.app N0 N29q
              show W p e below _ (T29.setTop (mkF m 131 #[.val (.int p0), .val (.int p1), .val (.int i), .val (.ref w_GREATER_OR_EQUAL), .val (.int (6 : Int32)), .val (.int (2 : Int32)), .val (.int (1 : Int32))] [(.int (1 : Int32))]))
              refine W.go (fun _ hr => XS.iload X29.here hx rfl (hb hby at_131) rfl hr) ?_
              show W p e below _ (T29.setTop (mkF m 133 #[.val (.int p0), .val (.int p1), .val (.int i), .val (.ref w_GREATER_OR_EQUAL), .val (.int (6 : Int32)), .val (.int (2 : Int32)), .val (.int (1 : Int32))] [(.int (1 : Int32)), (.int (1 : Int32))]))
              refine W.go (fun _ hr => XS.icmpNo X29.here hx rfl (hb hby at_133) rfl (teq (by decide : ((1 : Int32) = (1 : Int32)))).2 hr) ?_
              show W p e below _ (T29.setTop (mkF m 136 #[.val (.int p0), .val (.int p1), .val (.int i), .val (.ref w_GREATER_OR_EQUAL), .val (.int (6 : Int32)), .val (.int (2 : Int32)), .val (.int (1 : Int32))] []))
              refine W.go (fun _ hr => XS.iconst X29.here hx rfl (hb hby at_136) hr) ?_
              show W p e below _ (T29.setTop (mkF m 137 #[.val (.int p0), .val (.int p1), .val (.int i), .val (.ref w_GREATER_OR_EQUAL), .val (.int (6 : Int32)), .val (.int (2 : Int32)), .val (.int (1 : Int32))] [(.int (1 : Int32))]))
              refine W.go (fun _ hr => XS.goto X29.here hx rfl (pc0 := 137) (pc' := 141) rfl (hb hby at_137) (by decide) (by decide) hr) ?_
              show W p e below _ (T29.setTop (mkF m 141 #[.val (.int p0), .val (.int p1), .val (.int i), .val (.ref w_GREATER_OR_EQUAL), .val (.int (6 : Int32)), .val (.int (2 : Int32)), .val (.int (1 : Int32))] [(.int (1 : Int32))]))
              exact W.retB X29 hx hlk (t := .boolean) hret (by simp) (hb hby at_141) (by decide) (by decide) e29 ⟨rfl, N29⟩
set_option maxRecDepth 65536 in
set_option maxHeartbeats 40000000 in
theorem comes_1 {Post : Tables → Env → Array Value → State → Outcome → State → Prop} (hpost : ∀ tb e args s v u, (limb_1_1.after args s (.returned v) u = true ∧ limb_1_2.after args s (.returned v) u = true ∧ True) → FrameEnd s (.returned v) u (Jvm.fieldLocs frame_1_writes args s ++ Jvm.arrayLocs frame_1_arrays args s ++ Jvm.staticLocs frame_1_statics s) 0 0 → Post tb e args s (.returned v) u) :
    ArmFor flags0 classFile x code maxLocals ret World_1 tables_1 room_1 Calls_1 rest_1 Pre_1 Post := by
  intro l hfl _ _ p e ha hc hk s m args below hf hA hF happ hP
  obtain ⟨hcalls, hrest, hpre⟩ := hP
  obtain ⟨-, -, -, hnamed, -, -, -, hat⟩ := (Spec.applies_iff hf).mp happ
  obtain ⟨hg, hn⟩ := and_e (Cond.before_iff.mp (show (Jvm.Cond.and given_1 narrow_1).before args s = true from hpre))
  obtain ⟨c1, c2⟩ := and_e hg
  obtain ⟨c3, c4⟩ := and_e c2
  obtain ⟨c5, c6⟩ := and_e hn
  obtain ⟨c7, c8⟩ := and_e c6
  obtain ⟨c9, c10⟩ := and_e c8
  obtain ⟨c11, c12⟩ := and_e c10
  obtain ⟨c13, c14⟩ := and_e c12
  obtain ⟨c15, c16⟩ := and_e c14
  obtain ⟨c17, c18⟩ := and_e c16
  obtain ⟨c19, c20⟩ := and_e c18
  obtain ⟨c21, c22⟩ := and_e c20
  obtain ⟨c23, c24⟩ := and_e c22
  obtain ⟨c25, c26⟩ := and_e c24
  obtain ⟨w0, w1, rfl⟩ : ∃ w0 w1 : Value, args = #[w0, w1] := by
    have hs : args.size = 2 := by simpa [Cond.value, given_1] using c1
    obtain ⟨L⟩ := args
    match L, hs with
    | [w0, w1], _ => exact ⟨w0, w1, rfl⟩
  have hw := fun d (hd : d ∈ tables_1) => atoms_spec (ws := Jvm.Cond.code x code maxLocals ret :: tables_1) hat d (List.mem_cons_of_mem _ hd)
  have hfit : Fit s := fun {y c} hc i hi => by
    obtain ⟨ha, rfl⟩ := Array.getElem?_eq_some_iff.mp hc
    have q := List.all_eq_true.mp ((Array.all_eq_true_iff_forall_mem.mp hF) _ (Array.getElem_mem ha)) i (List.mem_range.mpr hi)
    simpa [Array.getElem?_eq_getElem hi] using q
  obtain ⟨i0, ei0⟩ := is_v c3
  obtain rfl : w0 = (.int i0) := Option.some.inj ei0
  obtain ⟨i1, ei1⟩ := is_v c4
  obtain rfl : w1 = (.int i1) := Option.some.inj ei1
  obtain ⟨w_EQUAL, ev_EQUAL⟩ := exa_v c5
  have E_EQUAL := Exa.start ev_EQUAL c5
  have S_EQUAL := Sta.start ev_EQUAL (Or.inr ⟨(hw _ (List.mem_of_getElem? (i := 2) rfl)), (hw _ (List.mem_of_getElem? (i := 3) rfl))⟩)
  have F_EQUAL_ordinal := Fld.start ((fld_at ev_EQUAL).symm.trans (eqI_v c7))
  obtain ⟨w_LESS, ev_LESS⟩ := exa_v c9
  have E_LESS := Exa.start ev_LESS c9
  have S_LESS := Sta.start ev_LESS (Or.inr ⟨(hw _ (List.mem_of_getElem? (i := 2) rfl)), (hw _ (List.mem_of_getElem? (i := 19) rfl))⟩)
  have F_LESS_ordinal := Fld.start ((fld_at ev_LESS).symm.trans (eqI_v c11))
  obtain ⟨w_GREATER, ev_GREATER⟩ := exa_v c13
  have E_GREATER := Exa.start ev_GREATER c13
  have S_GREATER := Sta.start ev_GREATER (Or.inr ⟨(hw _ (List.mem_of_getElem? (i := 2) rfl)), (hw _ (List.mem_of_getElem? (i := 21) rfl))⟩)
  have F_GREATER_ordinal := Fld.start ((fld_at ev_GREATER).symm.trans (eqI_v c15))
  obtain ⟨w_NOT_EQUAL, ev_NOT_EQUAL⟩ := exa_v c17
  have E_NOT_EQUAL := Exa.start ev_NOT_EQUAL c17
  have S_NOT_EQUAL := Sta.start ev_NOT_EQUAL (Or.inr ⟨(hw _ (List.mem_of_getElem? (i := 2) rfl)), (hw _ (List.mem_of_getElem? (i := 23) rfl))⟩)
  have F_NOT_EQUAL_ordinal := Fld.start ((fld_at ev_NOT_EQUAL).symm.trans (eqI_v c19))
  obtain ⟨w_GREATER_OR_EQUAL, ev_GREATER_OR_EQUAL⟩ := exa_v c21
  have E_GREATER_OR_EQUAL := Exa.start ev_GREATER_OR_EQUAL c21
  have S_GREATER_OR_EQUAL := Sta.start ev_GREATER_OR_EQUAL (Or.inr ⟨(hw _ (List.mem_of_getElem? (i := 2) rfl)), (hw _ (List.mem_of_getElem? (i := 25) rfl))⟩)
  have F_GREATER_OR_EQUAL_ordinal := Fld.start ((fld_at ev_GREATER_OR_EQUAL).symm.trans (eqI_v c23))
  obtain ⟨w_LESS_OR_EQUAL, ev_LESS_OR_EQUAL⟩ := exa_v c25
  have E_LESS_OR_EQUAL := Exa.start ev_LESS_OR_EQUAL c25
  have S_LESS_OR_EQUAL := Sta.start ev_LESS_OR_EQUAL (Or.inr ⟨(hw _ (List.mem_of_getElem? (i := 2) rfl)), (hw _ (List.mem_of_getElem? (i := 27) rfl))⟩)
  have F_LESS_OR_EQUAL_ordinal := Fld.start ((fld_at ev_LESS_OR_EQUAL).symm.trans (eqI_v c26))
  obtain ⟨n, o, h1, h2, h3, _, L, rfl, ⟨rfl, N⟩, hq⟩ := rm0 l s _ hw i0 i1 w_EQUAL w_NOT_EQUAL w_LESS w_LESS_OR_EQUAL w_GREATER w_GREATER_OR_EQUAL s.heap s.heap.size (Nat.le_refl _) S_EQUAL S_NOT_EQUAL S_LESS S_LESS_OR_EQUAL S_GREATER S_GREATER_OR_EQUAL E_EQUAL E_NOT_EQUAL E_LESS E_LESS_OR_EQUAL E_GREATER E_GREATER_OR_EQUAL F_EQUAL_ordinal F_NOT_EQUAL_ordinal F_LESS_ordinal F_LESS_OR_EQUAL_ordinal F_GREATER_ordinal F_GREATER_OR_EQUAL_ordinal tables_1 p e ha hc hk s m _ below hf ((Spec.applies_iff_loose hf).mp happ).1 ⟨rfl, State.Warmed39.refl s, rfl⟩ trivial
  refine ⟨n, _, h1, h2, h3, hpost _ _ _ _ _ _ ⟨Cond.after_iff.mpr rfl, Cond.after_iff.mpr (eq_i res_at (Term.int_eval (1)) rfl), trivial⟩ ⟨hq.1, hq.2.1, (hq.2.2.sift fun y hy => Or.inr (N y hy)).mono (by decide) (by decide)⟩⟩
theorem main_1_1 : Claimed_1_1 := comes_1 fun _ _ _ _ _ _ h hF => ⟨h.1, hF⟩
theorem main_1_2 : Claimed_1_2 := comes_1 fun _ _ _ _ _ _ h hF => ⟨h.2.1, hF⟩
end Jvm.Pilot.@@N@@
namespace Jvm.Pilot.@@N@@
open Jvm Jvm.ClassFile Sem Op Lib Jvm.Free Jvm.Stand Jvm.Pilot.@@N@@.Jvm.D
/-! MADE BY PROGRAM (witnessworld.py) out of the Statement's table words and the real class files: 12 classes; the members and pool entries that the words name. The judged class is class 1, her method 1. -/
namespace start1
open Jvm.ClassFile
def u (s : String) : CpInfo := .utf8 (stringToUtf16 s)
/-- a pool by its gaps: so many unusable entries, then the entry; so many at the end -/
def gap : Nat → List CpInfo → List CpInfo
  | 0, r => r
  | n + 1, r => .unusable :: gap n r
def poolList (es : List (Nat × CpInfo)) (last : Nat) : List CpInfo := es.foldr (fun e r => gap e.1 (e.2 :: r)) (gap last [])
def pool (es : List (Nat × CpInfo)) (last : Nat) : Array CpInfo := ⟨poolList es last⟩
def fileOf (pool : Array CpInfo) (this : Nat) (attrs : Array Attribute := #[]) (ms : Array MethodInfo := #[]) (fl : Nat := 33) (sup : Nat := 0) (ifs : Array Nat := #[]) (fds : Array FieldInfo := #[]) : ClassFile where
  minorVersion := 0
  majorVersion := 65
  constantPool := pool
  accessFlags := fl
  thisClass := this
  superClass := sup
  interfaces := ifs
  fields := fds
  methods := ms
  attributes := attrs
def plain (name : String) (sup : Option ClassId) : Class where
  name := name
  kind := .ordinary
  loader := none
  accessFlags := 33
  super := sup
  interfaces := #[]
  cf := none
  fields := #[]
  methods := #[]
  instanceTypes := #[]
  staticTypes := #[]
  resolved := #[]
  callSites := []
  init := .initialized
  statics := none
  mirror := none

def pool0 : Array CpInfo := pool [(5, u "<init>"), (0, u "()V"), (1, .class_ 10), (1, u "java/lang/Object")] 113

def k0m0 : Method := { name := "<init>", desc := "()V", sig := { parameters := [], returnType := none }, accessFlags := 1, code := none }
/-- java/lang/Object -/
def k0 : Class := { plain "java/lang/Object" none with
  accessFlags := 33
  interfaces := #[]
  cf := some (fileOf pool0 8 #[] #[{ accessFlags := 1, nameIndex := 5, descriptorIndex := 6, attributes := #[] }] 33 0 #[] #[])
  fields := #[]
  methods := #[k0m0]
  instanceTypes := #[]
  staticTypes := #[]
  resolved := Array.replicate 124 none
  statics := none }

def pool1 : Array CpInfo := pool [(2, .class_ 4), (1, u "java/lang/Object"), (0, u "<init>"), (0, u "()V"), (0, .integer 2147483647), (0, .fieldref 9 10), (0, .class_ 11), (0, .nameAndType 12 13), (0, u "com/example/millrace/millrace/Condition$Operator"), (0, u "EQUAL"), (0, u "Lcom/example/millrace/millrace/Condition$Operator;"), (0, .fieldref 9 15), (0, .nameAndType 16 13), (0, u "NOT_EQUAL"), (0, .fieldref 9 18), (0, .nameAndType 19 13), (0, u "LESS"), (0, .fieldref 9 21), (0, .nameAndType 22 13), (0, u "LESS_OR_EQUAL"), (0, .fieldref 9 24), (0, .nameAndType 25 13), (0, u "GREATER"), (0, .fieldref 9 27), (0, .nameAndType 28 13), (0, u "GREATER_OR_EQUAL"), (0, .methodref 9 30), (0, .nameAndType 31 32), (0, u "holds"), (0, u "(I)Z"), (0, .class_ 34), (0, u "com/example/millrace/millrace/OperatorHoldsPinLaw"), (2, u "law"), (0, u "(II)Z")] 7

def k1m0 : Method := { name := "<init>", desc := "()V", sig := { parameters := [], returnType := none }, accessFlags := 1, code := none }
def k1c1 : Code := { maxStack := 2, maxLocals := 7, code := code, exceptionTable := #[], attributes := #[] }
def k1m1 : Method := { name := "law", desc := "(II)Z", sig := { parameters := [.int, .int], returnType := some .boolean }, accessFlags := 9, code := some k1c1 }
/-- com/example/millrace/millrace/OperatorHoldsPinLaw -/
def k1 : Class := { plain "com/example/millrace/millrace/OperatorHoldsPinLaw" (some 0) with
  accessFlags := 49
  interfaces := #[]
  cf := some (fileOf pool1 33 #[] #[{ accessFlags := 1, nameIndex := 5, descriptorIndex := 6, attributes := #[] }, { accessFlags := 9, nameIndex := 37, descriptorIndex := 38, attributes := #[] }] 49 2 #[] #[])
  fields := #[]
  methods := #[k1m0, k1m1]
  instanceTypes := #[]
  staticTypes := #[]
  resolved := Array.replicate 46 none
  statics := none }

def pool2 : Array CpInfo := pool [(1, .class_ 2), (0, u "java/lang/constant/Constable"), (0, .class_ 4), (0, u "java/lang/Object")] 6

/-- java/lang/constant/Constable -/
def k2 : Class := { plain "java/lang/constant/Constable" (some 0) with
  accessFlags := 1537
  interfaces := #[]
  cf := some (fileOf pool2 1 #[] #[] 1537 3 #[] #[])
  fields := #[]
  methods := #[]
  instanceTypes := #[]
  staticTypes := #[]
  resolved := Array.replicate 11 none
  statics := none }

def pool3 : Array CpInfo := pool [(1, .class_ 2), (0, u "java/lang/Comparable"), (0, .class_ 4), (0, u "java/lang/Object")] 7

/-- java/lang/Comparable -/
def k3 : Class := { plain "java/lang/Comparable" (some 0) with
  accessFlags := 1537
  interfaces := #[]
  cf := some (fileOf pool3 1 #[] #[] 1537 3 #[] #[])
  fields := #[]
  methods := #[]
  instanceTypes := #[]
  staticTypes := #[]
  resolved := Array.replicate 12 none
  statics := none }

def pool4 : Array CpInfo := pool [(1, .class_ 2), (0, u "java/io/Serializable"), (0, .class_ 4), (0, u "java/lang/Object")] 2

/-- java/io/Serializable -/
def k4 : Class := { plain "java/io/Serializable" (some 0) with
  accessFlags := 1537
  interfaces := #[]
  cf := some (fileOf pool4 1 #[] #[] 1537 3 #[] #[])
  fields := #[]
  methods := #[]
  instanceTypes := #[]
  staticTypes := #[]
  resolved := Array.replicate 7 none
  statics := none }

def pool5 : Array CpInfo := pool [(2, .class_ 4), (1, u "java/lang/Enum"), (0, u "name"), (0, u "Ljava/lang/String;"), (0, .fieldref 2 8), (0, .nameAndType 9 10), (0, u "ordinal"), (0, u "I"), (1, .class_ 14), (1, u "java/lang/Object"), (4, u "hash"), (86, .class_ 108), (1, u "java/lang/Enum$EnumDesc"), (2, .class_ 112), (0, u "java/lang/constant/Constable"), (0, .class_ 114), (0, u "java/lang/Comparable"), (0, .class_ 116), (0, u "java/io/Serializable"), (9, u "()I")] 77

def k5c0 : Code := { maxStack := 1, maxLocals := 1, code := jdk_37_method_2_code, exceptionTable := #[], attributes := #[] }
def k5m0 : Method := { name := "ordinal", desc := "()I", sig := { parameters := [], returnType := some .int }, accessFlags := 17, code := some k5c0 }
/-- java/lang/Enum -/
def k5 : Class := { plain "java/lang/Enum" (some 0) with
  accessFlags := 1057
  interfaces := #[2, 3, 4]
  cf := some (fileOf pool5 2 #[.nestMembers #[106]] #[{ accessFlags := 17, nameIndex := 9, descriptorIndex := 126, attributes := #[] }] 1057 12 #[111, 113, 115] #[{ accessFlags := 18, nameIndex := 5, descriptorIndex := 6, attributes := #[] }, { accessFlags := 18, nameIndex := 9, descriptorIndex := 10, attributes := #[] }, { accessFlags := 2, nameIndex := 19, descriptorIndex := 10, attributes := #[] }])
  fields := #[{ name := "name", type := (.object "java/lang/String"), accessFlags := 18, slot := 0, constantValue := 0 }, { name := "ordinal", type := .int, accessFlags := 18, slot := 1, constantValue := 0 }, { name := "hash", type := .int, accessFlags := 2, slot := 2, constantValue := 0 }]
  methods := #[k5m0]
  instanceTypes := #[(.object "java/lang/String"), .int, .int]
  staticTypes := #[]
  resolved := Array.replicate 204 none
  statics := none }

def pool6 : Array CpInfo := pool [(1, .class_ 2), (0, u "com/example/millrace/millrace/Condition$Operator"), (2, u "EQUAL"), (0, u "Lcom/example/millrace/millrace/Condition$Operator;"), (2, u "NOT_EQUAL"), (2, u "LESS"), (2, u "LESS_OR_EQUAL"), (2, u "GREATER"), (2, u "GREATER_OR_EQUAL"), (2, u "$VALUES"), (0, u "[Lcom/example/millrace/millrace/Condition$Operator;"), (6, .class_ 34), (1, u "java/lang/Enum"), (8, u "symbol"), (0, u "Ljava/lang/String;"), (10, .methodref 1 56), (0, .nameAndType 57 58), (0, u "ordinal"), (0, u "()I"), (37, u "holds"), (0, u "(I)Z"), (8, .class_ 107), (0, u "com/example/millrace/millrace/Condition")] 2

def k6c0 : Code := { maxStack := 3, maxLocals := 2, code := prog_20_method_5_code, exceptionTable := #[], attributes := #[] }
def k6m0 : Method := { name := "holds", desc := "(I)Z", sig := { parameters := [.int], returnType := some .boolean }, accessFlags := 0, code := some k6c0 }
/-- com/example/millrace/millrace/Condition$Operator -/
def k6 : Class := { plain "com/example/millrace/millrace/Condition$Operator" (some 5) with
  accessFlags := 16433
  interfaces := #[]
  cf := some (fileOf pool6 1 #[.nestHost 106] #[{ accessFlags := 0, nameIndex := 96, descriptorIndex := 97, attributes := #[] }] 16433 32 #[] #[{ accessFlags := 16409, nameIndex := 5, descriptorIndex := 6, attributes := #[] }, { accessFlags := 16409, nameIndex := 9, descriptorIndex := 6, attributes := #[] }, { accessFlags := 16409, nameIndex := 12, descriptorIndex := 6, attributes := #[] }, { accessFlags := 16409, nameIndex := 15, descriptorIndex := 6, attributes := #[] }, { accessFlags := 16409, nameIndex := 18, descriptorIndex := 6, attributes := #[] }, { accessFlags := 16409, nameIndex := 21, descriptorIndex := 6, attributes := #[] }, { accessFlags := 18, nameIndex := 43, descriptorIndex := 44, attributes := #[] }, { accessFlags := 4122, nameIndex := 24, descriptorIndex := 25, attributes := #[] }])
  fields := #[{ name := "EQUAL", type := (.object "com/example/millrace/millrace/Condition$Operator"), accessFlags := 16409, slot := 0, constantValue := 0 }, { name := "NOT_EQUAL", type := (.object "com/example/millrace/millrace/Condition$Operator"), accessFlags := 16409, slot := 1, constantValue := 0 }, { name := "LESS", type := (.object "com/example/millrace/millrace/Condition$Operator"), accessFlags := 16409, slot := 2, constantValue := 0 }, { name := "LESS_OR_EQUAL", type := (.object "com/example/millrace/millrace/Condition$Operator"), accessFlags := 16409, slot := 3, constantValue := 0 }, { name := "GREATER", type := (.object "com/example/millrace/millrace/Condition$Operator"), accessFlags := 16409, slot := 4, constantValue := 0 }, { name := "GREATER_OR_EQUAL", type := (.object "com/example/millrace/millrace/Condition$Operator"), accessFlags := 16409, slot := 5, constantValue := 0 }, { name := "symbol", type := (.object "java/lang/String"), accessFlags := 18, slot := 3, constantValue := 0 }, { name := "$VALUES", type := (.array (.object "com/example/millrace/millrace/Condition$Operator")), accessFlags := 4122, slot := 6, constantValue := 0 }]
  methods := #[k6m0]
  instanceTypes := #[(.object "java/lang/String"), .int, .int, (.object "java/lang/String")]
  staticTypes := #[(.object "com/example/millrace/millrace/Condition$Operator"), (.object "com/example/millrace/millrace/Condition$Operator"), (.object "com/example/millrace/millrace/Condition$Operator"), (.object "com/example/millrace/millrace/Condition$Operator"), (.object "com/example/millrace/millrace/Condition$Operator"), (.object "com/example/millrace/millrace/Condition$Operator"), (.array (.object "com/example/millrace/millrace/Condition$Operator"))]
  resolved := Array.replicate 110 none
  statics := some 0 }

def pool7 : Array CpInfo := pool [(1, u "java/lang/Cloneable"), (0, .class_ 1), (0, u "java/lang/Object"), (0, .class_ 3)] 3

/-- java/lang/Cloneable -/
def k7 : Class := { plain "java/lang/Cloneable" (some 0) with
  accessFlags := 1537
  interfaces := #[]
  cf := some (fileOf pool7 2 #[] #[] 1537 4 #[] #[])
  fields := #[]
  methods := #[]
  instanceTypes := #[]
  staticTypes := #[]
  resolved := Array.replicate 8 none
  statics := none }

/-- the primitive byte -/
def k8 : Class := { plain "byte" none with kind := .primitive 'B', accessFlags := 0x411 }
/-- [B -/
def k9 : Class := { plain "[B" (some 0) with kind := .array 8 .byte, interfaces := #[7, 4], accessFlags := 1041 }

/-- the primitive int -/
def k10 : Class := { plain "int" none with kind := .primitive 'I', accessFlags := 0x411 }
/-- [I -/
def k11 : Class := { plain "[I" (some 0) with kind := .array 10 .int, interfaces := #[7, 4], accessFlags := 1041 }

def heap : Heap := #[{ cls := 6, slots := #[.ref 1, .ref 2, .ref 3, .ref 4, .ref 5, .ref 6, .null], vm := .statics 6 },
  { cls := 6, slots := #[.null, .int 0, .int 0, .null], vm := .none },
  { cls := 6, slots := #[.null, .int 1, .int 0, .null], vm := .none },
  { cls := 6, slots := #[.null, .int 2, .int 0, .null], vm := .none },
  { cls := 6, slots := #[.null, .int 3, .int 0, .null], vm := .none },
  { cls := 6, slots := #[.null, .int 4, .int 0, .null], vm := .none },
  { cls := 6, slots := #[.null, .int 5, .int 0, .null], vm := .none }]
def classes : Array Class := #[k0, k1, k2, k3, k4, k5, k6, k7, k8, k9, k10, k11]
def interned : List (Array UInt16 × Addr) := []
def slotsUsed : Nat := 31
def theMethod : MethodId := ⟨1, 1⟩
def args0 : Array Value := #[.int 5, .int 3]
def aboutOver (below : List Frame) : State where
  vm := { classes := classes, interned := interned.toArray }
  heap := heap
  slotsUsed := slotsUsed
  threads := #[{ frames := .invoking theMethod args0 :: below }]
def below0 : List Frame := [.native { method := ⟨0, 0⟩, args := #[] }]
def about1 : State := aboutOver below0
def p0 : Program := .bare "" "" ""
def e0 : Env := launch0.env 0 0 0
theorem w_frames : about1.frames = Frame.invoking theMethod args0 :: below0 := rfl
set_option maxRecDepth 65536 in
theorem w_args : argsFit about1.vm theMethod args0 = true := by decide +kernel
set_option maxRecDepth 65536 in
theorem w_heap : heapFits about1 = true := by decide +kernel
set_option maxRecDepth 65536 in
theorem w_runnable : about1.curStatus? = some .runnable := by decide +kernel
set_option maxRecDepth 65536 in
theorem w_alone : about1.alone = true := by decide +kernel
set_option maxRecDepth 65536 in
theorem w_named : about1.methodNamed? x = some theMethod := by decide +kernel
set_option maxRecDepth 65536 in
theorem w_hears : about1.hears theMethod below0 = true := by decide +kernel
set_option maxRecDepth 65536 in
theorem w_ripe : about1.ripe theMethod args0 below0 = true := by decide +kernel
theorem w_running : about1.status = .running := rfl
set_option maxRecDepth 65536 in
theorem w_room : about1.hasRoom e0.platform room_1 = true :=
  launch0.hasRoom_least _ room_1 (by decide +kernel) (by decide +kernel) (by decide +kernel) (by decide +kernel) (by decide +kernel) (by decide +kernel)
theorem allAtoms_all (ts : List Jvm.Cond) (a : Array Jvm.Value) (st : Jvm.State) : (allAtoms ts).before a st = ts.all (fun c => c.before a st) := by
  induction ts with
  | nil => rfl
  | cons c t ih =>
    show (Jvm.Cond.and c (allAtoms t)).before a st = _
    rw [Jvm.Cond.before_and, ih, List.all_cons]
def words1 : List Jvm.Cond := Jvm.Cond.code x code maxLocals ret :: tables_1
/-- a 'code' word, met by the world's own term for the bytes: nothing is compared byte by byte -/
theorem code_word {y : MethodName} {bytes : ByteArray} {mx : Nat} {rt : Option FieldType} {a : Array Value} {s : State} {m : MethodId} {meth : Method} {c : Code} (h1 : s.methodNamed? y = some m) (h2 : s.vm.method? m = some meth) (h3 : meth.code = some c) (h4 : c.code = bytes)
    (h5 : (c.maxLocals == mx && c.exceptionTable.isEmpty && decide (c.maxStack ≤ mostOperands) && decide (meth.sig.returnType = rt) && !meth.locks && decide (parseMethodDescriptor y.desc = some meth.sig)) = true) : (Jvm.Cond.code y bytes mx rt).before a s = true := by
  simp only [Bool.and_eq_true, beq_iff_eq, Bool.not_eq_true', decide_eq_true_eq] at h5
  obtain ⟨⟨⟨⟨⟨g1, g2⟩, g3⟩, g4⟩, g5⟩, g6⟩ := h5
  simp [Cond.before, Cond.holds, Cond.value, h1, h2, h3, h4, g1, g2, g3, g4, g5, g6]
def isCode : Jvm.Cond → Bool
  | .code _ _ _ _ => true
  | _ => false
theorem all_split {L : List Jvm.Cond} {P : Jvm.Cond → Bool} (h1 : L.all (fun c => isCode c || P c) = true) (h2 : ∀ c ∈ L.filter isCode, P c = true) : L.all P = true := by
  refine List.all_eq_true.mpr fun c hc => ?_
  have h := List.all_eq_true.mp h1 c hc
  rcases Bool.eq_false_or_eq_true (isCode c) with hi | hi
  · exact h2 c (List.mem_filter.mpr ⟨hc, hi⟩)
  · simpa [hi] using h
set_option maxRecDepth 65536 in
theorem w_c0 : (Jvm.Cond.code x code maxLocals ret).before args0 about1 = true := code_word (m := ⟨1, 1⟩) (meth := k1m1) (c := k1c1) (by decide +kernel) rfl rfl rfl (by decide +kernel)
set_option maxRecDepth 65536 in
theorem w_c1 : (Jvm.Cond.code ({ cls := "com/example/millrace/millrace/Condition$Operator", name := "holds", desc := "(I)Z" } : Jvm.MethodName) prog_20_method_5_code (2 : Nat) (Option.some Jvm.ClassFile.FieldType.boolean)).before args0 about1 = true := code_word (m := ⟨6, 0⟩) (meth := k6m0) (c := k6c0) (by decide +kernel) rfl rfl rfl (by decide +kernel)
set_option maxRecDepth 65536 in
theorem w_c2 : (Jvm.Cond.code ({ cls := "java/lang/Enum", name := "ordinal", desc := "()I" } : Jvm.MethodName) jdk_37_method_2_code (1 : Nat) (Option.some Jvm.ClassFile.FieldType.int)).before args0 about1 = true := code_word (m := ⟨5, 0⟩) (meth := k5m0) (c := k5c0) (by decide +kernel) rfl rfl rfl (by decide +kernel)
def codes1 : List Jvm.Cond := [Jvm.Cond.code x code maxLocals ret, Jvm.Cond.code ({ cls := "com/example/millrace/millrace/Condition$Operator", name := "holds", desc := "(I)Z" } : Jvm.MethodName) prog_20_method_5_code (2 : Nat) (Option.some Jvm.ClassFile.FieldType.boolean), Jvm.Cond.code ({ cls := "java/lang/Enum", name := "ordinal", desc := "()I" } : Jvm.MethodName) jdk_37_method_2_code (1 : Nat) (Option.some Jvm.ClassFile.FieldType.int)]
set_option maxRecDepth 65536 in
theorem codes_eq : words1.filter isCode = codes1 := rfl
theorem w_codes : ∀ c ∈ words1.filter isCode, c.before args0 about1 = true := by
  rw [codes_eq]
  intro c hc
  simp only [codes1, List.mem_cons, List.not_mem_nil, or_false] at hc
  rcases hc with rfl | rfl | rfl
  · exact w_c0
  · exact w_c1
  · exact w_c2
set_option maxRecDepth 65536 in
theorem w_t1 : (words1.take 24).all (fun c => isCode c || c.before args0 about1) = true := by decide +kernel
set_option maxRecDepth 65536 in
theorem w_t2 : (words1.drop 24).all (fun c => isCode c || c.before args0 about1) = true := by decide +kernel
theorem w_tables : (allAtoms (Jvm.Cond.code x code maxLocals ret :: tables_1)).before args0 about1 = true := by
  rw [allAtoms_all]
  show words1.all (fun c => c.before args0 about1) = true
  refine all_split ?_ w_codes
  rw [← List.take_append_drop 24 words1, List.all_append, w_t1, w_t2]
  rfl
set_option maxRecDepth 65536 in
theorem w_case : (Jvm.Cond.and given_1 narrow_1).before args0 about1 = true := by decide +kernel
theorem w_applies : (headSpec (Jvm.Cond.code x code maxLocals ret :: tables_1) room_1).applies x e0.platform about1 = true :=
  (Spec.applies_iff w_frames).mpr ⟨w_running, w_runnable, w_alone, w_named, w_hears, w_ripe, w_room, w_tables⟩
theorem atStart : AtStart classFile x code maxLocals ret World_1 tables_1 room_1 Calls_1 rest_1 Pre_1 launch0 p0 e0 about1 theMethod args0 below0 :=
  ⟨lists_1, trivial, launch0.admits_env _ _ _, launch0.least_env, fairChoices_fair.cas, fairChoices_fair.clock, w_frames, w_args, w_heap, w_applies, trivial, trivial, w_case⟩
end start1
theorem witness_1 : WitnessClaimed_1 := ⟨start1.p0, start1.e0, start1.about1, start1.theMethod, start1.args0, start1.below0, start1.atStart⟩
end Jvm.Pilot.@@N@@
