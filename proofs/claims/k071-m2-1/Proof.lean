import JvmDerived
import JvmDerived.Pilot.@@N@@Statement
import JvmDerived.Pilot.@@N@@Code
set_option linter.unusedVariables false
set_option linter.unusedSimpArgs false
namespace Jvm.OwnKit
open Sem ClassFile Op Lib Jvm.Stand Jvm.Free Jvm.LawKit Jvm.RoadKit
section Own
variable {p : Program} {l : Launch} {e : Env} {R : Room} {s : State} {m : MethodId} {args : Array Value} {below : List Frame} {meth : Method} {c : Code} {T : State} {locs : List Loc} {cells slots : Nat} {Z : State} {a0 : Array Value} {h : Heap}
/-- from S the run comes to an end that F admits -/
def W (p : Program) (e : Env) (below : List Frame) (F : Outcome → State → Prop) (S : State) : Prop := ∃ s₂ o, Steps p.tables e below S s₂ ∧ s₂.status = .running ∧ Ended s₂ below o ∧ F o s₂
def Fin (s : State) (Q : Option Value → Heap → List Loc → Prop) (rc rs : Nat) (o : Outcome) (U : State) : Prop := ∃ v L, o = .returned v ∧ Q v U.heap L ∧ FrameEnd s o U L rc rs
theorem W.go {F : Outcome → State → Prop} {S S' : State} (st : ∀ t, Steps p.tables e below S' t → Steps p.tables e below S t) (k : W p e below F S') : W p e below F S := by
  obtain ⟨s2, o, h1, h2⟩ := k; exact ⟨s2, o, st _ h1, h2⟩
theorem W.via {F : Outcome → State → Prop} {S S' : State} (st : Steps p.tables e below S S') (k : W p e below F S') : W p e below F S := by
  obtain ⟨s2, o, h1, h2⟩ := k; exact ⟨s2, o, st.trans h1, h2⟩
/-- a contract: called with these arguments, over this heap, the body returns and leaves what Q says -/
def Ctr (l : Launch) (Z : State) (y : MethodName) (bytes : ByteArray) (maxL : Nat) (ret : Option FieldType) (rm : Room) (as' : Array Value) (h0 : Heap) (Q : Option Value → Heap → List Loc → Prop) : Prop :=
  ∀ ws : List Jvm.Cond, MetFree l y (head1 (Jvm.Cond.code y bytes maxL ret :: ws) rm) (fun a U => a = as' ∧ Z.Warmed39 U.vm ∧ U.heap = h0) (fun _ _ _ _ _ => True) (fun _ U o U' => Fin U Q rm.cells rm.slots o U')
theorem Ctr.body {y : MethodName} {bytes : ByteArray} {maxL : Nat} {ret : Option FieldType} {rm : Room} {as' : Array Value} {h0 : Heap} {Q : Option Value → Heap → List Loc → Prop} {fr : MethodId → JFrame} (hpl : plainFor y = true) (hef : ∀ m, entryFrame m as' maxL = fr m)
    (body : ∀ (p : Program) (e : Env) (s : State) (m : MethodId) (below : List Frame) (meth : Method) (c : Code) (s₁ : State), p.tables.exec = Jvm.exec → c.code = bytes → c.maxLocals = maxL → Z.Warmed39 s.vm → s.vm.findClass y.cls = some m.cls → meth.name = y.name → meth.sig.returnType = ret → meth.locks = false →
      Stand p l e rm s m as' below meth c s₁ [] 0 0 → s₁.heap = h0 → W p e below (Fin s Q rm.cells rm.slots) (s₁.setTop (fr m))) : Ctr l Z y bytes maxL ret rm as' h0 Q := by
  intro ws
  refine MetFree.of_bodySF hpl hisR ?_
  intro p e s m args below meth c s₁ Bd hml0 hP hK
  obtain ⟨rfl, hZ, hh⟩ := hP
  have r := body p e s m below meth c s₁ Bd.exec Bd.bytes hml0 hZ (findClass_of_methodNamed Bd.named) (name_of_methodNamed Bd.named Bd.method).1 Bd.returns Bd.notSynchronized (Stand.of_body Bd) (by rw [← hh, Bd.state]; rfl)
  rw [← hef] at r
  exact r
theorem W.retB (X : Stand p l e R s m args below meth c T locs cells slots) (hx : p.tables.exec = Jvm.exec) (hlk : meth.locks = false) {t : FieldType} (hret : meth.sig.returnType = some t) (ht : t = .boolean ∨ t = .byte ∨ t = .char ∨ t = .short) {pc : Nat} {Ls : Array Slot} {z : Int32} {rest : List Value} (hd : decode c.code pc = .ok (.ireturn, 1))
    {Q : Option Value → Heap → List Loc → Prop} {rc rs : Nat} (hc : cells ≤ rc) (hs : slots ≤ rs) (eT : T.heap = h) (hQ : Q (some (.int (nar t z))) h locs) : W p e below (Fin s Q rc rs) (T.setTop (mkF m pc Ls (.int z :: rest))) := by
  obtain ⟨fs, hr, hrun, hended, hW, hsame⟩ := X.leave (v := some (.int (nar t z))) (fun h => by rw [hret] at h; cases h) hlk
  subst eT
  exact ⟨_, _, retN X hx hret ht hd hr, hrun, hended, _, _, rfl, hQ, ⟨_, rfl⟩, hW, hsame.mono hc hs⟩
theorem W.retI (X : Stand p l e R s m args below meth c T locs cells slots) (hx : p.tables.exec = Jvm.exec) (hlk : meth.locks = false) (hret : meth.sig.returnType = some .int) {pc : Nat} {Ls : Array Slot} {z : Int32} {rest : List Value} (hd : decode c.code pc = .ok (.ireturn, 1))
    {Q : Option Value → Heap → List Loc → Prop} {rc rs : Nat} (hc : cells ≤ rc) (hs : slots ≤ rs) (eT : T.heap = h) (hQ : Q (some (.int z)) h locs) : W p e below (Fin s Q rc rs) (T.setTop (mkF m pc Ls (.int z :: rest))) := by
  obtain ⟨fs, hr, hrun, hended, hW, hsame⟩ := X.leave (v := some (.int z)) (fun h => by rw [hret] at h; cases h) hlk
  subst eT
  refine ⟨_, _, ?_, hrun, hended, _, _, rfl, hQ, ⟨_, rfl⟩, hW, hsame.mono hc hs⟩
  have hm' : T.vm.method? m = some meth := X.method'
  have hn : narrow .int (.int z) = .int z := rfl
  show Steps p.tables e below (T.setTop { method := m, pc := pc, locals := Ls, stack := _ :: rest, locked := none }) _
  jvm_step X.here [X.here.top, hx, hd, hm', hret, hn]
  first | (intro acts; rw [hr _ acts rfl rfl rfl]) | rw [hr _ _ rfl rfl rfl]
  exact Steps.refl _
theorem W.retL (X : Stand p l e R s m args below meth c T locs cells slots) (hx : p.tables.exec = Jvm.exec) (hlk : meth.locks = false) (hret : meth.sig.returnType = some .long) {pc : Nat} {Ls : Array Slot} {z : Int64} {rest : List Value} (hd : decode c.code pc = .ok (.lreturn, 1))
    {Q : Option Value → Heap → List Loc → Prop} {rc rs : Nat} (hc : cells ≤ rc) (hs : slots ≤ rs) (eT : T.heap = h) (hQ : Q (some (.long z)) h locs) : W p e below (Fin s Q rc rs) (T.setTop (mkF m pc Ls (.long z :: rest))) := by
  obtain ⟨fs, hr, hrun, hended, hW, hsame⟩ := X.leave (v := some (.long z)) (fun h => by rw [hret] at h; cases h) hlk
  subst eT
  refine ⟨_, _, ?_, hrun, hended, _, _, rfl, hQ, ⟨_, rfl⟩, hW, hsame.mono hc hs⟩
  have hm' : T.vm.method? m = some meth := X.method'
  have hn : narrow .long (.long z) = .long z := rfl
  show Steps p.tables e below (T.setTop { method := m, pc := pc, locals := Ls, stack := _ :: rest, locked := none }) _
  jvm_step X.here [X.here.top, hx, hd, hm', hret, hn]
  first | (intro acts; rw [hr _ acts rfl rfl rfl]) | rw [hr _ _ rfl rfl rfl]
  exact Steps.refl _
theorem W.retA (X : Stand p l e R s m args below meth c T locs cells slots) (hx : p.tables.exec = Jvm.exec) (hlk : meth.locks = false) {t : FieldType} (hret : meth.sig.returnType = some t) (ht : t.isReference = true) {pc : Nat} {Ls : Array Slot} {w : Value} (hw : w.isRef = true) {rest : List Value} (hd : decode c.code pc = .ok (.areturn, 1))
    {Q : Option Value → Heap → List Loc → Prop} {rc rs : Nat} (hc : cells ≤ rc) (hs : slots ≤ rs) (eT : T.heap = h) (hQ : Q (some w) h locs) : W p e below (Fin s Q rc rs) (T.setTop (mkF m pc Ls (w :: rest))) := by
  obtain ⟨fs, hr, hrun, hended, hW, hsame⟩ := X.leave (v := some w) (fun h => by rw [hret] at h; cases h) hlk
  subst eT
  refine ⟨_, _, ?_, hrun, hended, _, _, rfl, hQ, ⟨_, rfl⟩, hW, hsame.mono hc hs⟩
  have hm' : T.vm.method? m = some meth := X.method'
  rcases ref_cases hw with rfl | ⟨z, rfl⟩
  all_goals
    show Steps p.tables e below (T.setTop { method := m, pc := pc, locals := Ls, stack := _ :: rest, locked := none }) _
    jvm_step X.here [X.here.top, hx, hd, hm', hret, ht, Value.isRef]
    first | (intro acts; rw [hr _ acts rfl rfl rfl]) | rw [hr _ _ rfl rfl rfl]
    exact Steps.refl _
theorem W.retV (X : Stand p l e R s m args below meth c T locs cells slots) (hx : p.tables.exec = Jvm.exec) (hlk : meth.locks = false) (hret : meth.sig.returnType = none) {pc : Nat} {Ls : Array Slot} (hd : decode c.code pc = .ok (.return_, 1))
    {Q : Option Value → Heap → List Loc → Prop} {rc rs : Nat} (hc : cells ≤ rc) (hs : slots ≤ rs) (eT : T.heap = h) (hQ : Q none h locs) : W p e below (Fin s Q rc rs) (T.setTop (mkF m pc Ls [])) := by
  obtain ⟨fs, hr, hrun, hended, hW, hsame⟩ := X.leave (v := none) (fun _ => rfl) hlk
  subst eT
  exact ⟨_, _, X.returnOut hx hret hd hr, hrun, hended, _, _, rfl, hQ, ⟨_, rfl⟩, hW, hsame.mono hc hs⟩
section Calls
variable {y y0 : MethodName} {bytes : ByteArray} {maxL W0 : Nat} {ret : Option FieldType} {rm : Room} {as' : Array Value} {Q : Option Value → Heap → List Loc → Prop} {own : String} {index : Nat} {sig : MethodDescriptor} {g : JFrame} {argsL rest : List Value} {F : Outcome → State → Prop}
theorem Ctr.back {len : Nat} (hM : Ctr l Z y bytes maxL ret rm as' h Q) (hZ : Z.Warmed39 s.vm) (wc : (Jvm.Cond.code y bytes maxL ret).before a0 Z = true) (wz : (Jvm.Cond.initialized y.cls).before a0 Z = true) (hf : rm.frames + 1 ≤ R.frames) (hl : W0 + (maxL + 11) + rm.locals ≤ R.locals) :
    Back l R p e below s args y len W0 (fun A a => a = as' ∧ A.U.heap = h ∧ A.cells + rm.cells ≤ R.cells ∧ A.slots + rm.slots ≤ R.slots)
      (fun A _ v B => ∃ L, Q v B.U.heap L ∧ B.locs = A.locs ++ L ∧ B.cells = A.cells + rm.cells ∧ B.slots = A.slots + rm.slots) := backOf (hM []) hZ wc wz hf hl
/-- a static call by its contract -/
theorem W.callS (X : Stand p l e R s m args below meth c T locs cells slots) (hx : p.tables.exec = Jvm.exec) (hZ : Z.Warmed39 s.vm) (hown : s.vm.findClass own = some m.cls) (hml : g.locals.size = c.maxLocals)
    (w1 : (Jvm.Cond.methodLink own index y).before a0 Z = true) (w2 : (Jvm.Cond.static y).before a0 Z = true) (w3 : (Jvm.Cond.initialized y.cls).before a0 Z = true) (w4 : (Jvm.Cond.code y bytes maxL ret).before a0 Z = true) (eT : T.heap = h)
    (hM : Ctr l Z y bytes maxL ret rm as' h Q) (hy : y.cls ≠ "java/lang/invoke/MethodHandle" ∧ y.cls ≠ "java/lang/invoke/VarHandle") (pd : parseMethodDescriptor y.desc = some sig) (hg : g.method = m) (has : argsL.toArray = as') (hlen : argsL.length = sig.parameters.length)
    (hst : g.stack = argsL.reverse ++ rest) (hd : decode c.code g.pc = .ok (.invokestatic index, 3)) (hW : 2 * g.monitorRoom + (rest.map fun v => v.category).sum = W0) (hf : rm.frames + 1 ≤ R.frames) (hl : W0 + (maxL + 11) + rm.locals ≤ R.locals) (hc : cells + rm.cells ≤ R.cells) (hs : slots + rm.slots ≤ R.slots)
    (k : ∀ v T' h' L, Stand p l e R s m args below meth c T' (locs ++ L) (cells + rm.cells) (slots + rm.slots) → T'.heap = h' → Q v h' L → W p e below F (T'.setTop { g with pc := g.pc + 3, stack := v.toList ++ rest })) : W p e below F (T.setTop g) := by
  obtain ⟨v, _, ⟨T', L', k', n'⟩, -, X', ⟨L, hQ, e1, e2, e3⟩, st⟩ := Jvm.LawKit.callS X hx hown (mvT hZ w1) (mvT hZ w2) (mvT hZ w3) (mvT hZ w4) hy (hM.back hZ w4 w3 hf hl) hg hml (argsL := argsL) (rest := rest) (fun sg q => by cases pd.symm.trans q; exact hlen) hst (Nat.le_of_eq hW) hd (fun _ _ => ⟨has, eT, hc, hs⟩)
  dsimp only [Pt.U, Pt.locs, Pt.cells, Pt.slots] at X' e1 e2 e3 hQ st
  subst e1 e2 e3
  exact W.go st (k v T' _ L X' rfl hQ)
/-- a constructor, whoever pays it -/
theorem W.callIK {kc ks : Nat} (X : Stand p l e R s m args below meth c T locs cells slots) (hx : p.tables.exec = Jvm.exec) (hZ : Z.Warmed39 s.vm) (hown : s.vm.findClass own = some m.cls) (hml : g.locals.size = c.maxLocals)
    (w1 : (Jvm.Cond.methodLink own index y).before a0 Z = true) (w2 : (Jvm.Cond.instanceMethod y).before a0 Z = true) (w4 : (Jvm.Cond.code y bytes maxL none).before a0 Z = true) (eT : T.heap = h)
    (hK : Back l R p e below s args y 3 W0 (fun A a => a = as' ∧ A.U.heap = h ∧ A.cells + kc ≤ R.cells ∧ A.slots + ks ≤ R.slots) (fun A _ v B => ∃ L, Q v B.U.heap L ∧ B.locs = A.locs ++ L ∧ B.cells = A.cells + kc ∧ B.slots = A.slots + ks)) (hn : y.name = "<init>") (hy : y.cls ≠ "java/lang/invoke/MethodHandle" ∧ y.cls ≠ "java/lang/invoke/VarHandle") (pd : parseMethodDescriptor y.desc = some sig) (hg : g.method = m) {b : Addr} (has : (Value.ref b :: argsL).toArray = as') (hlen : argsL.length = sig.parameters.length)
    (hst : g.stack = argsL.reverse ++ .ref b :: rest) (hd : decode c.code g.pc = .ok (.invokespecial index, 3)) (hW : 2 * g.monitorRoom + (rest.map fun v => v.category).sum = W0) (hc : cells + kc ≤ R.cells) (hs : slots + ks ≤ R.slots)
    (k : ∀ v T' h' L, Stand p l e R s m args below meth c T' (locs ++ L) (cells + kc) (slots + ks) → T'.heap = h' → Q v h' L → W p e below F (T'.setTop { g with pc := g.pc + 3, stack := v.toList ++ rest })) : W p e below F (T.setTop g) := by
  obtain ⟨v, _, ⟨T', L', k', n'⟩, -, X', ⟨L, hQ, e1, e2, e3⟩, st⟩ := X.specialBack hx hn hown (mvT hZ w1) (mvT hZ w2) (mvT hZ w4) hy hK hg hml (Steps.refl _) (a := b) (argsL := argsL) (rest := rest) (fun sg q => by cases pd.symm.trans q; exact hlen) hst (Nat.le_of_eq hW) hd (fun _ _ => ⟨has, eT, hc, hs⟩)
  dsimp only [Pt.U, Pt.locs, Pt.cells, Pt.slots] at X' e1 e2 e3 hQ st
  subst e1 e2 e3
  exact W.via st (k v T' _ L X' rfl hQ)
/-- a constructor by its contract -/
theorem W.callI (X : Stand p l e R s m args below meth c T locs cells slots) (hx : p.tables.exec = Jvm.exec) (hZ : Z.Warmed39 s.vm) (hown : s.vm.findClass own = some m.cls) (hml : g.locals.size = c.maxLocals)
    (w1 : (Jvm.Cond.methodLink own index y).before a0 Z = true) (w2 : (Jvm.Cond.instanceMethod y).before a0 Z = true) (w3 : (Jvm.Cond.initialized y.cls).before a0 Z = true) (w4 : (Jvm.Cond.code y bytes maxL none).before a0 Z = true) (eT : T.heap = h)
    (hM : Ctr l Z y bytes maxL none rm as' h Q) (hn : y.name = "<init>") (hy : y.cls ≠ "java/lang/invoke/MethodHandle" ∧ y.cls ≠ "java/lang/invoke/VarHandle") (pd : parseMethodDescriptor y.desc = some sig) (hg : g.method = m) {b : Addr} (has : (Value.ref b :: argsL).toArray = as') (hlen : argsL.length = sig.parameters.length)
    (hst : g.stack = argsL.reverse ++ .ref b :: rest) (hd : decode c.code g.pc = .ok (.invokespecial index, 3)) (hW : 2 * g.monitorRoom + (rest.map fun v => v.category).sum = W0) (hf : rm.frames + 1 ≤ R.frames) (hl : W0 + (maxL + 11) + rm.locals ≤ R.locals) (hc : cells + rm.cells ≤ R.cells) (hs : slots + rm.slots ≤ R.slots)
    (k : ∀ v T' h' L, Stand p l e R s m args below meth c T' (locs ++ L) (cells + rm.cells) (slots + rm.slots) → T'.heap = h' → Q v h' L → W p e below F (T'.setTop { g with pc := g.pc + 3, stack := v.toList ++ rest })) : W p e below F (T.setTop g) := by
  obtain ⟨v, _, ⟨T', L', k', n'⟩, -, X', ⟨L, hQ, e1, e2, e3⟩, st⟩ := X.specialBack hx hn hown (mvT hZ w1) (mvT hZ w2) (mvT hZ w4) hy (hM.back hZ w4 w3 hf hl) hg hml (Steps.refl _) (a := b) (argsL := argsL) (rest := rest) (fun sg q => by cases pd.symm.trans q; exact hlen) hst (Nat.le_of_eq hW) hd (fun _ _ => ⟨has, eT, hc, hs⟩)
  dsimp only [Pt.U, Pt.locs, Pt.cells, Pt.slots] at X' e1 e2 e3 hQ st
  subst e1 e2 e3
  exact W.via st (k v T' _ L X' rfl hQ)
/-- an instance method, whoever pays it -/
theorem W.callVK {kc ks : Nat} {C : String} (X : Stand p l e R s m args below meth c T locs cells slots) (hx : p.tables.exec = Jvm.exec) (hZ : Z.Warmed39 s.vm) (hown : s.vm.findClass own = some m.cls) (hml : g.locals.size = c.maxLocals)
    (w1 : (Jvm.Cond.methodLink own index y0).before a0 Z = true) (w5 : (Jvm.Cond.declares y0).before a0 Z = true) (w6 : (Jvm.Cond.selects C y0 y).before a0 Z = true) (w2 : (Jvm.Cond.instanceMethod y).before a0 Z = true) (eT : T.heap = h)
    (hK : Back l R p e below s args y 3 W0 (fun A a => a = as' ∧ A.U.heap = h ∧ A.cells + kc ≤ R.cells ∧ A.slots + ks ≤ R.slots) (fun A _ v B => ∃ L, Q v B.U.heap L ∧ B.locs = A.locs ++ L ∧ B.cells = A.cells + kc ∧ B.slots = A.slots + ks)) (hnf : NotFace s y0) (hy : y0.cls ≠ "java/lang/invoke/MethodHandle" ∧ y0.cls ≠ "java/lang/invoke/VarHandle") (pd : parseMethodDescriptor y0.desc = some sig) (hg : g.method = m) {b : Addr} (E : Exa Z h b C) (has : (Value.ref b :: argsL).toArray = as') (hlen : argsL.length = sig.parameters.length)
    (hst : g.stack = argsL.reverse ++ .ref b :: rest) (hd : decode c.code g.pc = .ok (.invokevirtual index, 3)) (hW : 2 * g.monitorRoom + (rest.map fun v => v.category).sum = W0) (hc : cells + kc ≤ R.cells) (hs : slots + ks ≤ R.slots)
    (k : ∀ v T' h' L, Stand p l e R s m args below meth c T' (locs ++ L) (cells + kc) (slots + ks) → T'.heap = h' → Q v h' L → W p e below F (T'.setTop { g with pc := g.pc + 3, stack := v.toList ++ rest })) : W p e below F (T.setTop g) := by
  obtain ⟨cq, kq, qa, qb, qc⟩ := isOf hZ eT E
  obtain ⟨v, _, ⟨T', L', k', n'⟩, -, X', ⟨L, hQ, e1, e2, e3⟩, st⟩ := X.virtualBack hx hown (mvT hZ w1) (mvT hZ w5) hnf (mvT hZ w6) (mvT hZ w2) hy hK qa qc hg hml (Steps.refl _) (argsL := argsL) (rest := rest) (fun sg q => by cases pd.symm.trans q; exact hlen) hst (Nat.le_of_eq hW) hd (fun _ _ => ⟨has, eT, hc, hs⟩)
  dsimp only [Pt.U, Pt.locs, Pt.cells, Pt.slots] at X' e1 e2 e3 hQ st
  subst e1 e2 e3
  exact W.via st (k v T' _ L X' rfl hQ)
/-- an instance method by its contract -/
theorem W.callV {C : String} (X : Stand p l e R s m args below meth c T locs cells slots) (hx : p.tables.exec = Jvm.exec) (hZ : Z.Warmed39 s.vm) (hown : s.vm.findClass own = some m.cls) (hml : g.locals.size = c.maxLocals)
    (w1 : (Jvm.Cond.methodLink own index y0).before a0 Z = true) (w5 : (Jvm.Cond.declares y0).before a0 Z = true) (w6 : (Jvm.Cond.selects C y0 y).before a0 Z = true) (w2 : (Jvm.Cond.instanceMethod y).before a0 Z = true) (w3 : (Jvm.Cond.initialized y.cls).before a0 Z = true) (w4 : (Jvm.Cond.code y bytes maxL ret).before a0 Z = true) (eT : T.heap = h)
    (hM : Ctr l Z y bytes maxL ret rm as' h Q) (hnf : NotFace s y0) (hy : y0.cls ≠ "java/lang/invoke/MethodHandle" ∧ y0.cls ≠ "java/lang/invoke/VarHandle") (pd : parseMethodDescriptor y0.desc = some sig) (hg : g.method = m) {b : Addr} (E : Exa Z h b C) (has : (Value.ref b :: argsL).toArray = as') (hlen : argsL.length = sig.parameters.length)
    (hst : g.stack = argsL.reverse ++ .ref b :: rest) (hd : decode c.code g.pc = .ok (.invokevirtual index, 3)) (hW : 2 * g.monitorRoom + (rest.map fun v => v.category).sum = W0) (hf : rm.frames + 1 ≤ R.frames) (hl : W0 + (maxL + 11) + rm.locals ≤ R.locals) (hc : cells + rm.cells ≤ R.cells) (hs : slots + rm.slots ≤ R.slots)
    (k : ∀ v T' h' L, Stand p l e R s m args below meth c T' (locs ++ L) (cells + rm.cells) (slots + rm.slots) → T'.heap = h' → Q v h' L → W p e below F (T'.setTop { g with pc := g.pc + 3, stack := v.toList ++ rest })) : W p e below F (T.setTop g) := by
  obtain ⟨cq, kq, qa, qb, qc⟩ := isOf hZ eT E
  obtain ⟨v, _, ⟨T', L', k', n'⟩, -, X', ⟨L, hQ, e1, e2, e3⟩, st⟩ := X.virtualBack hx hown (mvT hZ w1) (mvT hZ w5) hnf (mvT hZ w6) (mvT hZ w2) hy (hM.back hZ w4 w3 hf hl) qa qc hg hml (Steps.refl _) (argsL := argsL) (rest := rest) (fun sg q => by cases pd.symm.trans q; exact hlen) hst (Nat.le_of_eq hW) hd (fun _ _ => ⟨has, eT, hc, hs⟩)
  dsimp only [Pt.U, Pt.locs, Pt.cells, Pt.slots] at X' e1 e2 e3 hQ st
  subst e1 e2 e3
  exact W.via st (k v T' _ L X' rfl hQ)
/-- the same, the method declared further up -/
theorem W.callU {C owner : String} (X : Stand p l e R s m args below meth c T locs cells slots) (hx : p.tables.exec = Jvm.exec) (hZ : Z.Warmed39 s.vm) (hown : s.vm.findClass own = some m.cls) (hml : g.locals.size = c.maxLocals)
    (w1 : (Jvm.Cond.methodLink own index y0).before a0 Z = true) (w7 : (Jvm.Cond.sameMethod y0.cls owner y0.name y0.desc).before a0 Z = true) (w5 : (Jvm.Cond.declares ⟨owner, y0.name, y0.desc⟩).before a0 Z = true) (w6 : (Jvm.Cond.selects C y0 y).before a0 Z = true) (w2 : (Jvm.Cond.instanceMethod y).before a0 Z = true) (w3 : (Jvm.Cond.initialized y.cls).before a0 Z = true) (w4 : (Jvm.Cond.code y bytes maxL ret).before a0 Z = true) (eT : T.heap = h)
    (hM : Ctr l Z y bytes maxL ret rm as' h Q) (hy : owner ≠ "java/lang/invoke/MethodHandle" ∧ owner ≠ "java/lang/invoke/VarHandle") (pd : parseMethodDescriptor y0.desc = some sig) (hg : g.method = m) {b : Addr} (E : Exa Z h b C) (has : (Value.ref b :: argsL).toArray = as') (hlen : argsL.length = sig.parameters.length)
    (hst : g.stack = argsL.reverse ++ .ref b :: rest) (hd : decode c.code g.pc = .ok (.invokevirtual index, 3)) (hW : 2 * g.monitorRoom + (rest.map fun v => v.category).sum = W0) (hf : rm.frames + 1 ≤ R.frames) (hl : W0 + (maxL + 11) + rm.locals ≤ R.locals) (hc : cells + rm.cells ≤ R.cells) (hs : slots + rm.slots ≤ R.slots)
    (k : ∀ v T' h' L, Stand p l e R s m args below meth c T' (locs ++ L) (cells + rm.cells) (slots + rm.slots) → T'.heap = h' → Q v h' L → W p e below F (T'.setTop { g with pc := g.pc + 3, stack := v.toList ++ rest })) : W p e below F (T.setTop g) := by
  obtain ⟨cq, kq, qa, qb, qc⟩ := isOf hZ eT E
  obtain ⟨v, _, ⟨T', L', k', n'⟩, -, X', ⟨L, hQ, e1, e2, e3⟩, st⟩ := X.virtualBackUp hx hown (mvT hZ w1) (mvT hZ w7) (mvT hZ w5) hy (mvT hZ w6) (mvT hZ w2) (hM.back hZ w4 w3 hf hl) qa qc hg hml (Steps.refl _) (argsL := argsL) (rest := rest) (fun sg q => by cases pd.symm.trans q; exact hlen) hst (Nat.le_of_eq hW) hd (fun _ _ => ⟨has, eT, hc, hs⟩)
  dsimp only [Pt.U, Pt.locs, Pt.cells, Pt.slots] at X' e1 e2 e3 hQ st
  subst e1 e2 e3
  exact W.via st (k v T' _ L X' rfl hQ)
/-- a method that lands in a default of an interface -/
theorem W.callD {C owner : String} (X : Stand p l e R s m args below meth c T locs cells slots) (hx : p.tables.exec = Jvm.exec) (hZ : Z.Warmed39 s.vm) (hown : s.vm.findClass own = some m.cls) (hml : g.locals.size = c.maxLocals)
    (w1 : (Jvm.Cond.methodLink own index y0).before a0 Z = true) (w7 : (Jvm.Cond.sameMethod y0.cls owner y0.name y0.desc).before a0 Z = true) (w5 : (Jvm.Cond.declares ⟨owner, y0.name, y0.desc⟩).before a0 Z = true) (w6 : (Jvm.Cond.landsInDefault C y0 y).before a0 Z = true) (w2 : (Jvm.Cond.instanceMethod y).before a0 Z = true) (w3 : (Jvm.Cond.initialized y.cls).before a0 Z = true) (w4 : (Jvm.Cond.code y bytes maxL ret).before a0 Z = true) (eT : T.heap = h)
    (hM : Ctr l Z y bytes maxL ret rm as' h Q) (hy : owner ≠ "java/lang/invoke/MethodHandle" ∧ owner ≠ "java/lang/invoke/VarHandle") (pd : parseMethodDescriptor y0.desc = some sig) (hg : g.method = m) {b : Addr} (E : Exa Z h b C) (has : (Value.ref b :: argsL).toArray = as') (hlen : argsL.length = sig.parameters.length)
    (hst : g.stack = argsL.reverse ++ .ref b :: rest) (hd : decode c.code g.pc = .ok (.invokevirtual index, 3)) (hW : 2 * g.monitorRoom + (rest.map fun v => v.category).sum = W0) (hf : rm.frames + 1 ≤ R.frames) (hl : W0 + (maxL + 11) + rm.locals ≤ R.locals) (hc : cells + rm.cells ≤ R.cells) (hs : slots + rm.slots ≤ R.slots)
    (k : ∀ v T' h' L, Stand p l e R s m args below meth c T' (locs ++ L) (cells + rm.cells) (slots + rm.slots) → T'.heap = h' → Q v h' L → W p e below F (T'.setTop { g with pc := g.pc + 3, stack := v.toList ++ rest })) : W p e below F (T.setTop g) := by
  obtain ⟨cq, kq, qa, qb, qc⟩ := isOf hZ eT E
  obtain ⟨v, _, ⟨T', L', k', n'⟩, -, X', ⟨L, hQ, e1, e2, e3⟩, st⟩ := X.virtualBackUpD hx hown (mvT hZ w1) (mvT hZ w7) (mvT hZ w5) hy (mvD hZ w6) (mvT hZ w2) (hM.back hZ w4 w3 hf hl) qa qc hg hml (Steps.refl _) (argsL := argsL) (rest := rest) (fun sg q => by cases pd.symm.trans q; exact hlen) hst (Nat.le_of_eq hW) hd (fun _ _ => ⟨has, eT, hc, hs⟩)
  dsimp only [Pt.U, Pt.locs, Pt.cells, Pt.slots] at X' e1 e2 e3 hQ st
  subst e1 e2 e3
  exact W.via st (k v T' _ L X' rfl hQ)
/-- a call through an interface -/
theorem W.callF {C : String} {count : Nat} (X : Stand p l e R s m args below meth c T locs cells slots) (hx : p.tables.exec = Jvm.exec) (hZ : Z.Warmed39 s.vm) (hown : s.vm.findClass own = some m.cls) (hml : g.locals.size = c.maxLocals)
    (w1 : (Jvm.Cond.methodLink own index y0).before a0 Z = true) (w5 : (Jvm.Cond.declares y0).before a0 Z = true) (w7 : (Jvm.Cond.interfaceMethod y0.cls y0.cls y0.name y0.desc).before args s = true) (w6 : (Jvm.Cond.selects C y0 y).before a0 Z = true) (w2 : (Jvm.Cond.instanceMethod y).before a0 Z = true) (w8 : (Jvm.Cond.publicMethod y).before a0 Z = true) (w9 : (Jvm.Cond.unhidden C y0.name y0.desc).before a0 Z = true) (w10 : (Jvm.Cond.castable C y0.cls).before a0 Z = true) (w3 : (Jvm.Cond.initialized y.cls).before a0 Z = true) (w4 : (Jvm.Cond.code y bytes maxL ret).before a0 Z = true) (eT : T.heap = h)
    (hM : Ctr l Z y bytes maxL ret rm as' h Q) (hy : y0.cls ≠ "java/lang/invoke/MethodHandle" ∧ y0.cls ≠ "java/lang/invoke/VarHandle") (pd : parseMethodDescriptor y0.desc = some sig) (hg : g.method = m) {b : Addr} (E : Exa Z h b C) (has : (Value.ref b :: argsL).toArray = as') (hlen : argsL.length = sig.parameters.length)
    (hst : g.stack = argsL.reverse ++ .ref b :: rest) (hd : decode c.code g.pc = .ok (.invokeinterface index count, 5)) (hW : 2 * g.monitorRoom + (rest.map fun v => v.category).sum = W0) (hf : rm.frames + 1 ≤ R.frames) (hl : W0 + (maxL + 11) + rm.locals ≤ R.locals) (hc : cells + rm.cells ≤ R.cells) (hs : slots + rm.slots ≤ R.slots)
    (k : ∀ v T' h' L, Stand p l e R s m args below meth c T' (locs ++ L) (cells + rm.cells) (slots + rm.slots) → T'.heap = h' → Q v h' L → W p e below F (T'.setTop { g with pc := g.pc + 5, stack := v.toList ++ rest })) : W p e below F (T.setTop g) := by
  obtain ⟨cq, kq, qa, qb, qc⟩ := isOf hZ eT E
  obtain ⟨v, _, ⟨T', L', k', n'⟩, -, X', ⟨L, hQ, e1, e2, e3⟩, st⟩ := X.interfaceBack hx hown (mvT hZ w1) (mvT hZ w5) w7 (mvT hZ w6) (mvT hZ w2) (mvT hZ w8) (mvT hZ w9) (mvT hZ w10) hy (hM.back hZ w4 w3 hf hl) qa qb qc hg hml (Steps.refl _) (argsL := argsL) (rest := rest) (fun sg q => by cases pd.symm.trans q; exact hlen) hst (Nat.le_of_eq hW) hd (fun _ _ => ⟨has, eT, hc, hs⟩)
  dsimp only [Pt.U, Pt.locs, Pt.cells, Pt.slots] at X' e1 e2 e3 hQ st
  subst e1 e2 e3
  exact W.via st (k v T' _ L X' rfl hQ)
/-- super.m(..) -/
theorem W.callSup {K : String} (X : Stand p l e R s m args below meth c T locs cells slots) (hx : p.tables.exec = Jvm.exec) (hZ : Z.Warmed39 s.vm) (hown : s.vm.findClass own = some m.cls) (hml : g.locals.size = c.maxLocals)
    (w1 : (Jvm.Cond.methodLink own index y).before a0 Z = true) (w5 : (Jvm.Cond.sameMethod y.cls y.cls y.name y.desc).before a0 Z = true) (w2 : (Jvm.Cond.instanceMethod y).before a0 Z = true) (w6 : (Jvm.Cond.superclass own y.cls).before a0 Z = true) (w3 : (Jvm.Cond.initialized y.cls).before a0 Z = true) (w4 : (Jvm.Cond.code y bytes maxL ret).before a0 Z = true) (eT : T.heap = h)
    (hM : Ctr l Z y bytes maxL ret rm as' h Q) (hn : y.name ≠ "<init>") (pd : parseMethodDescriptor y.desc = some sig) (hg : g.method = m) {b : Addr} (E : Exa Z h b K) (has : (Value.ref b :: argsL).toArray = as') (hlen : argsL.length = sig.parameters.length)
    (hst : g.stack = argsL.reverse ++ .ref b :: rest) (hd : decode c.code g.pc = .ok (.invokespecial index, 3)) (hW : 2 * g.monitorRoom + (rest.map fun v => v.category).sum = W0) (hf : rm.frames + 1 ≤ R.frames) (hl : W0 + (maxL + 11) + rm.locals ≤ R.locals) (hc : cells + rm.cells ≤ R.cells) (hs : slots + rm.slots ≤ R.slots)
    (k : ∀ v T' h' L, Stand p l e R s m args below meth c T' (locs ++ L) (cells + rm.cells) (slots + rm.slots) → T'.heap = h' → Q v h' L → W p e below F (T'.setTop { g with pc := g.pc + 3, stack := v.toList ++ rest })) : W p e below F (T.setTop g) := by
  obtain ⟨v, _, ⟨T', L', k', n'⟩, -, X', ⟨L, hQ, e1, e2, e3⟩, st⟩ := superBack X hx hZ hown w1 w5 w2 w6 hn (hM.back hZ w4 w3 hf hl) eT (Ins.self E) hg hml w4 (argsL := argsL) (rest := rest) (fun sg q => by cases pd.symm.trans q; exact hlen) hst (Nat.le_of_eq hW) hd (fun _ _ => ⟨has, eT, hc, hs⟩)
  dsimp only [Pt.U, Pt.locs, Pt.cells, Pt.slots] at X' e1 e2 e3 hQ st
  subst e1 e2 e3
  exact W.via st (k v T' _ L X' rfl hQ)
theorem nfOf {C : String} {x z : MethodName} (w6 : (Jvm.Cond.selects C x z).before args s = true) (hz : z.cls = y.cls) : NotFace s y := fun r0 h0 => by
  obtain ⟨c1, r1, m1, -, -, hm, -, kP, hkP, hni⟩ := Cond.selects_spec w6
  have hc := findClass_of_methodNamed h0
  have hc2 := findClass_of_methodNamed hm
  rw [hz] at hc2
  have q : r0.cls = m1.cls := Option.some.inj (hc.symm.trans hc2)
  exact ⟨kP, by rw [q]; exact hkP, hni⟩
/-- a class that declares a method finds it; that she is no interface is read off a 'selects' word that ends in her -/
theorem sameDecl {C : String} {x z : MethodName} (w5 : (Jvm.Cond.declares y).before a0 Z = true) (w6 : (Jvm.Cond.selects C x z).before a0 Z = true) (hz : z.cls = y.cls) (hy : y.cls ≠ "java/lang/invoke/MethodHandle" ∧ y.cls ≠ "java/lang/invoke/VarHandle") : (Jvm.Cond.sameMethod y.cls y.cls y.name y.desc).before a0 Z = true := by
  obtain ⟨r0, r, hn, hrm, -, -⟩ := Cond.declares_spec w5
  have hf : Z.methodFound? y.cls y.name y.desc = some r0 := State.methodFound?_of_named hn hy
  have hc := findClass_of_methodNamed hn
  obtain ⟨c1, r1, m1, -, -, hm, -, kP, hkP, hni⟩ := Cond.selects_spec w6
  have hc2 := findClass_of_methodNamed hm
  rw [hz] at hc2
  have q : r0.cls = m1.cls := Option.some.inj (hc.symm.trans hc2)
  have hn' : Z.methodNamed? ⟨y.cls, y.name, y.desc⟩ = some r0 := hn
  have hk : Z.vm.classes[r0.cls]? = some kP := by rw [q]; exact hkP
  simp [Jvm.Cond.before, Jvm.Cond.holds, Jvm.Cond.value, hc, hf, hn', hk, hni]
/-- a private method by its contract -/
theorem W.callP (X : Stand p l e R s m args below meth c T locs cells slots) (hx : p.tables.exec = Jvm.exec) (hZ : Z.Warmed39 s.vm) (hown : s.vm.findClass own = some m.cls) (hml : g.locals.size = c.maxLocals)
    (w1 : (Jvm.Cond.methodLink own index y).before a0 Z = true) (w5 : (Jvm.Cond.privateMethod y).before a0 Z = true) (w6 : (Jvm.Cond.selects y.cls y y).before args s = true) (w2 : (Jvm.Cond.instanceMethod y).before a0 Z = true) (w3 : (Jvm.Cond.initialized y.cls).before a0 Z = true) (w4 : (Jvm.Cond.code y bytes maxL ret).before a0 Z = true) (eT : T.heap = h)
    (hM : Ctr l Z y bytes maxL ret rm as' h Q) (hy : y.cls ≠ "java/lang/invoke/MethodHandle" ∧ y.cls ≠ "java/lang/invoke/VarHandle") (pd : parseMethodDescriptor y.desc = some sig) (hg : g.method = m) {b : Addr} {C : String} (E : Exa Z h b C) (has : (Value.ref b :: argsL).toArray = as') (hlen : argsL.length = sig.parameters.length)
    (hst : g.stack = argsL.reverse ++ .ref b :: rest) (hd : decode c.code g.pc = .ok (.invokevirtual index, 3)) (hW : 2 * g.monitorRoom + (rest.map fun v => v.category).sum = W0) (hf : rm.frames + 1 ≤ R.frames) (hl : W0 + (maxL + 11) + rm.locals ≤ R.locals) (hc : cells + rm.cells ≤ R.cells) (hs : slots + rm.slots ≤ R.slots)
    (k : ∀ v T' h' L, Stand p l e R s m args below meth c T' (locs ++ L) (cells + rm.cells) (slots + rm.slots) → T'.heap = h' → Q v h' L → W p e below F (T'.setTop { g with pc := g.pc + 3, stack := v.toList ++ rest })) : W p e below F (T.setTop g) := by
  obtain ⟨cq, q1, q2⟩ := E.cell
  obtain ⟨v, _, ⟨T', L', k', n'⟩, -, X', ⟨L, hQ, e1, e2, e3⟩, st⟩ := X.privateBack hx hown (mvT hZ w1) (mvT hZ w2) w6 (Cond.privateMethod_at (mvP hZ w5 (args := #[]))) (mvT hZ w4) hy (hM.back hZ w4 w3 hf hl) hg hml (Steps.refl _) (a := b) (by rw [eT]; exact q1) q2 (argsL := argsL) (rest := rest) (fun sg q => by cases pd.symm.trans q; exact hlen) hst (Nat.le_of_eq hW) hd (fun _ _ => ⟨has, eT, hc, hs⟩)
  dsimp only [Pt.U, Pt.locs, Pt.cells, Pt.slots] at X' e1 e2 e3 hQ st
  subst e1 e2 e3
  exact W.via st (k v T' _ L X' rfl hQ)
/-- 'selects' of a private method -/
theorem selPriv {n : Nat} (hZ : Z.Warmed39 s.vm) (wi : (Jvm.Cond.instantiable y.cls n).before a0 Z = true) (w5 : (Jvm.Cond.privateMethod y).before a0 Z = true) (w2 : (Jvm.Cond.instanceMethod y).before a0 Z = true) (hy : y.cls ≠ "java/lang/invoke/MethodHandle" ∧ y.cls ≠ "java/lang/invoke/VarHandle") : (Jvm.Cond.selects y.cls y y).before args s = true := by
  obtain ⟨c2, k2, i1, i2, -, i4, -⟩ := Cond.instantiable_spec (mvT (args := args) hZ wi)
  exact selects_self_of_private i1 i2 (Bool.or_eq_false_iff.mp i4).1 (Cond.privateMethod_at (mvP hZ w5 (args := #[]))) (mvT hZ w2) hy
end Calls
theorem Sta.keep {h' : Heap} {C n d : String} {v : Value} {ws : List Addr} (F : Sta Z h C n d v) (K : Keep h h' ws) (hw : ∀ x ∈ ws, ∀ cell : Cell, h[x]? = some cell → cell.vm.isStatics = false) : Sta Z h' C n d v := by
  obtain ⟨cf, i, k, f, st, cell, h1, h2, h3, h4, h5, h6, h7⟩ := F
  refine ⟨cf, i, k, f, st, cell, h1, h2, h3, h4, K.2.1 st cell h5 fun hm => ?_, h6, h7⟩
  rw [hw st hm cell h5] at h6; cases h6
theorem eqI_v {t : Term} {k : Int32} {first : State} {o : Option Outcome} {idx : List Nat} (hk : (Jvm.Cond.eq t (.int k)).value args first o s idx = some true) : t.eval args first o idx s = some (.int k) := by
  simp only [Jvm.Cond.value, Term.eval] at hk
  cases ht : t.eval args first o idx s with
  | none => simp [ht] at hk
  | some x => cases x <;> simp [ht] at hk ⊢; exact hk
theorem lenI_v {t : Term} {a : Addr} {cl : Cell} {ty : FieldType} {k : Int32} (A : Arr s s.heap a cl ty) (ev : t.eval args s none [] s = some (.ref a)) (hk : (Jvm.Cond.eq (.length t) (.int k)).value args s none s [] = some true) : cl.slots.size < 2 ^ 31 ∧ cl.slots.size.toInt32 = k := by
  have q := eqI_v hk
  have r : s.arrayAt? a = some cl := A.fin (Vm.Alike.refl _)
  simp only [Term.eval, ev, r, Option.bind_eq_bind, Option.bind_some] at q
  split at q
  · rename_i z; cases q; exact ⟨z, rfl⟩
  · cases q
theorem rngM (x n : Int32) (hn : 0 < n.toInt) : 0 ≤ ((x &&& 2147483647) % n).toInt ∧ ((x &&& 2147483647) % n).toInt < n.toInt := by
  have q := c_mask x 2147483647 31 (by decide) (by decide)
  have q0 : 0 ≤ (x &&& 2147483647).toInt := by rw [q]; exact Int.emod_nonneg _ (by decide)
  have r := (c_iremV (x &&& 2147483647) n).1 q0 hn
  exact ⟨r.1, r.2.1⟩
end Own
end Jvm.OwnKit
namespace Jvm.Pilot.@@N@@
open Jvm Jvm.ClassFile Sem Op Lib Jvm.Free Jvm.Stand Jvm.LawKit Jvm.RoadKit Bundle Jvm.OwnKit Jvm.Pilot.@@N@@.Jvm.D
theorem d3_0 : decode prog_13_method_1_code 0 = .ok (.aload_n 0, 1) := by decide +kernel
theorem d3_1 : decode prog_13_method_1_code 1 = .ok (.invokespecial 1, 3) := by decide +kernel
theorem d3_4 : decode prog_13_method_1_code 4 = .ok (.aload_n 0, 1) := by decide +kernel
theorem d3_5 : decode prog_13_method_1_code 5 = .ok (.aload_n 1, 1) := by decide +kernel
theorem d3_6 : decode prog_13_method_1_code 6 = .ok (.putfield 7, 3) := by decide +kernel
theorem d3_9 : decode prog_13_method_1_code 9 = .ok (.aload_n 0, 1) := by decide +kernel
theorem d3_10 : decode prog_13_method_1_code 10 = .ok (.aload_n 2, 1) := by decide +kernel
theorem d3_11 : decode prog_13_method_1_code 11 = .ok (.putfield 13, 3) := by decide +kernel
theorem d3_14 : decode prog_13_method_1_code 14 = .ok (.aload_n 0, 1) := by decide +kernel
theorem d3_15 : decode prog_13_method_1_code 15 = .ok (.aload_n 3, 1) := by decide +kernel
theorem d3_16 : decode prog_13_method_1_code 16 = .ok (.putfield 17, 3) := by decide +kernel
theorem d3_19 : decode prog_13_method_1_code 19 = .ok (.aload_n 0, 1) := by decide +kernel
theorem d3_20 : decode prog_13_method_1_code 20 = .ok (.aload 4, 2) := by decide +kernel
theorem d3_22 : decode prog_13_method_1_code 22 = .ok (.putfield 21, 3) := by decide +kernel
theorem d3_25 : decode prog_13_method_1_code 25 = .ok (.aload_n 0, 1) := by decide +kernel
theorem d3_26 : decode prog_13_method_1_code 26 = .ok (.aload 5, 2) := by decide +kernel
theorem d3_28 : decode prog_13_method_1_code 28 = .ok (.putfield 25, 3) := by decide +kernel
theorem d3_31 : decode prog_13_method_1_code 31 = .ok (.return_, 1) := by decide +kernel
theorem pn_com_example_wireknit_wireknit_Item : plainName "com/example/wireknit/wireknit/Item" = true := by first | (simp [plainName, overriddenIn]; done) | decide +kernel
def Q_rm3 (Z : State) (r0 : Addr) (r1 : Addr) (r2 : Addr) (r3 : Addr) (r4 : Addr) (r5 : Addr) (h0 : Heap) (n0 : Nat) (v : Option Value) (h : Heap) (L : List Loc) : Prop := v = none ∧ Fr n0 L ∧ Keep h0 h [r0] ∧ Exa Z h r0 "com/example/wireknit/wireknit/Item" ∧ Fld Z h r0 "com/example/wireknit/wireknit/Item" "type" "Lcom/example/wireknit/wireknit/Item$Type;" (.ref r1) ∧ Fld Z h r0 "com/example/wireknit/wireknit/Item" "data" "[B" (.ref r2)
set_option maxRecDepth 65536 in
set_option maxHeartbeats 40000000 in
theorem rm3 (l : Launch) (Z : State) (a0 : Array Value) (hw : ∀ d ∈ tables_1, d.before a0 Z = true) (r0 : Addr) (r1 : Addr) (r2 : Addr) (r3 : Addr) (r4 : Addr) (r5 : Addr) (h0 : Heap) (n0 : Nat) (Z0 : n0 ≤ h0.size) (E_r0 : Exa Z h0 r0 "com/example/wireknit/wireknit/Item") (F_type_r0 : Fld Z h0 r0 "com/example/wireknit/wireknit/Item" "type" "Lcom/example/wireknit/wireknit/Item$Type;" .null) (F_data_r0 : Fld Z h0 r0 "com/example/wireknit/wireknit/Item" "data" "[B" .null) (F_tags_r0 : Fld Z h0 r0 "com/example/wireknit/wireknit/Item" "tags" "[Lcom/example/wireknit/wireknit/Item$Tag;" .null) (F_items_r0 : Fld Z h0 r0 "com/example/wireknit/wireknit/Item" "items" "[Lcom/example/wireknit/wireknit/Item;" .null) (F_byTag_r0 : Fld Z h0 r0 "com/example/wireknit/wireknit/Item" "byTag" "[I" .null) (g_r0 : n0 ≤ r0) :
    Ctr l Z (⟨"com/example/wireknit/wireknit/Item", "<init>", "(Lcom/example/wireknit/wireknit/Item$Type;[B[Lcom/example/wireknit/wireknit/Item$Tag;[Lcom/example/wireknit/wireknit/Item;[I)V"⟩ : MethodName) prog_13_method_1_code 6 none ({ frames := 1, cells := 0, slots := 0, locals := 12 } : Room) #[(.ref r0), (.ref r1), (.ref r2), (.ref r3), (.ref r4), (.ref r5)] h0 (Q_rm3 Z r0 r1 r2 r3 r4 r5 h0 n0) := by
  refine Ctr.body (fr := fun m => mkF m 0 #[.val (.ref r0), .val (.ref r1), .val (.ref r2), .val (.ref r3), .val (.ref r4), .val (.ref r5)] []) (plainFor_of_name pn_com_example_wireknit_wireknit_Item) (fun m => by first | (simp [entryFrame, mkF, argsToLocals, Value.category]; done) | rfl) fun p e s m below meth c s₁ hx hby hml hZ hown hnm hret hlk X0 e0 => ?_
  have N0 := Fr.nil n0
  have hown : s.vm.findClass "com/example/wireknit/wireknit/Item" = some m.cls := hown
  have KC : Keep h0 h0 [r0] := Keep.refl _ _
  show W p e below _ (s₁.setTop (mkF m 0 #[.val (.ref r0), .val (.ref r1), .val (.ref r2), .val (.ref r3), .val (.ref r4), .val (.ref r5)] []))
  refine W.go (fun _ hr => XS.aloadN X0.here hx rfl (hb hby d3_0) rfl rfl hr) ?_
  show W p e below _ (s₁.setTop (mkF m 1 #[.val (.ref r0), .val (.ref r1), .val (.ref r2), .val (.ref r3), .val (.ref r4), .val (.ref r5)] [(.ref r0)]))
  obtain ⟨T1, X1, e1, st1⟩ := initO X0 hx hZ hown (hw _ (List.mem_of_getElem? (i := 31) rfl)) (hw _ (List.mem_of_getElem? (i := 32) rfl)) (hw _ (List.mem_of_getElem? (i := 33) rfl)) e0 (g := (mkF m 1 #[.val (.ref r0), .val (.ref r1), .val (.ref r2), .val (.ref r3), .val (.ref r4), .val (.ref r5)] [(.ref r0)])) rfl (by rw [hml]; rfl) rfl (hb hby d3_1) (by decide) (W := 0) (by show 2 * 0 + _ ≤ _; exact Nat.le_of_eq rfl) (by decide)
  refine W.go st1 ?_
  show W p e below _ (T1.setTop (mkF m 4 #[.val (.ref r0), .val (.ref r1), .val (.ref r2), .val (.ref r3), .val (.ref r4), .val (.ref r5)] []))
  refine W.go (fun _ hr => XS.aloadN X1.here hx rfl (hb hby d3_4) rfl rfl hr) ?_
  show W p e below _ (T1.setTop (mkF m 5 #[.val (.ref r0), .val (.ref r1), .val (.ref r2), .val (.ref r3), .val (.ref r4), .val (.ref r5)] [(.ref r0)]))
  refine W.go (fun _ hr => XS.aloadN X1.here hx rfl (hb hby d3_5) rfl rfl hr) ?_
  show W p e below _ (T1.setTop (mkF m 6 #[.val (.ref r0), .val (.ref r1), .val (.ref r2), .val (.ref r3), .val (.ref r4), .val (.ref r5)] [(.ref r1), (.ref r0)]))
  obtain ⟨T2, h2, X2, e2, W2, st2⟩ := putF X1 hx hZ hown (host := "") (Or.inl (hw _ (List.mem_of_getElem? (i := 34) rfl))) Via.refl e1 F_type_r0 E_r0 (Or.inr ⟨(hw _ (List.mem_of_getElem? (i := 35) rfl)), rfl, hnm⟩) (hw _ (List.mem_of_getElem? (i := 6) rfl)) (ty := (.object "com/example/wireknit/wireknit/Item$Type")) (by decide) rfl rfl (g := (mkF m 6 #[.val (.ref r0), .val (.ref r1), .val (.ref r2), .val (.ref r3), .val (.ref r4), .val (.ref r5)] [(.ref r1), (.ref r0)])) rfl rfl (hb hby d3_6)
  refine W.go st2 ?_
  replace E_r0 := E_r0.wr W2
  replace F_type_r0 := F_type_r0.same W2
  replace F_data_r0 := F_data_r0.other W2 (Or.inr (slot_ne (Or.inr (hw _ (List.mem_of_getElem? (i := 37) rfl))) (Or.inr (hw _ (List.mem_of_getElem? (i := 35) rfl))) (by decide) (t := (.array .byte)) (t' := (.object "com/example/wireknit/wireknit/Item$Type")) (by decide) (by decide)))
  replace F_tags_r0 := F_tags_r0.other W2 (Or.inr (slot_ne (Or.inr (hw _ (List.mem_of_getElem? (i := 39) rfl))) (Or.inr (hw _ (List.mem_of_getElem? (i := 35) rfl))) (by decide) (t := (.array (.object "com/example/wireknit/wireknit/Item$Tag"))) (t' := (.object "com/example/wireknit/wireknit/Item$Type")) (by decide) (by decide)))
  replace F_items_r0 := F_items_r0.other W2 (Or.inr (slot_ne (Or.inr (hw _ (List.mem_of_getElem? (i := 41) rfl))) (Or.inr (hw _ (List.mem_of_getElem? (i := 35) rfl))) (by decide) (t := (.array (.object "com/example/wireknit/wireknit/Item"))) (t' := (.object "com/example/wireknit/wireknit/Item$Type")) (by decide) (by decide)))
  replace F_byTag_r0 := F_byTag_r0.other W2 (Or.inr (slot_ne (Or.inr (hw _ (List.mem_of_getElem? (i := 43) rfl))) (Or.inr (hw _ (List.mem_of_getElem? (i := 35) rfl))) (by decide) (t := (.array .int)) (t' := (.object "com/example/wireknit/wireknit/Item$Type")) (by decide) (by decide)))
  have Z3 : n0 ≤ h2.size := Nat.le_trans Z0 (Keep.of_wr W2).1
  replace KC := KC.wr W2 (Or.inl (List.mem_of_getElem? (i := 0) rfl))
  have N2 := Fr.snoc X2 N0 g_r0
  show W p e below _ (T2.setTop (mkF m 9 #[.val (.ref r0), .val (.ref r1), .val (.ref r2), .val (.ref r3), .val (.ref r4), .val (.ref r5)] []))
  refine W.go (fun _ hr => XS.aloadN X2.here hx rfl (hb hby d3_9) rfl rfl hr) ?_
  show W p e below _ (T2.setTop (mkF m 10 #[.val (.ref r0), .val (.ref r1), .val (.ref r2), .val (.ref r3), .val (.ref r4), .val (.ref r5)] [(.ref r0)]))
  refine W.go (fun _ hr => XS.aloadN X2.here hx rfl (hb hby d3_10) rfl rfl hr) ?_
  show W p e below _ (T2.setTop (mkF m 11 #[.val (.ref r0), .val (.ref r1), .val (.ref r2), .val (.ref r3), .val (.ref r4), .val (.ref r5)] [(.ref r2), (.ref r0)]))
  obtain ⟨T4, h4, X4, e4, W4, st4⟩ := putF X2 hx hZ hown (host := "") (Or.inl (hw _ (List.mem_of_getElem? (i := 36) rfl))) Via.refl e2 F_data_r0 E_r0 (Or.inr ⟨(hw _ (List.mem_of_getElem? (i := 37) rfl)), rfl, hnm⟩) (hw _ (List.mem_of_getElem? (i := 6) rfl)) (ty := (.array .byte)) (by decide) rfl rfl (g := (mkF m 11 #[.val (.ref r0), .val (.ref r1), .val (.ref r2), .val (.ref r3), .val (.ref r4), .val (.ref r5)] [(.ref r2), (.ref r0)])) rfl rfl (hb hby d3_11)
  refine W.go st4 ?_
  replace E_r0 := E_r0.wr W4
  replace F_type_r0 := F_type_r0.other W4 (Or.inr (slot_ne (Or.inr (hw _ (List.mem_of_getElem? (i := 35) rfl))) (Or.inr (hw _ (List.mem_of_getElem? (i := 37) rfl))) (by decide) (t := (.object "com/example/wireknit/wireknit/Item$Type")) (t' := (.array .byte)) (by decide) (by decide)))
  replace F_data_r0 := F_data_r0.same W4
  replace F_tags_r0 := F_tags_r0.other W4 (Or.inr (slot_ne (Or.inr (hw _ (List.mem_of_getElem? (i := 39) rfl))) (Or.inr (hw _ (List.mem_of_getElem? (i := 37) rfl))) (by decide) (t := (.array (.object "com/example/wireknit/wireknit/Item$Tag"))) (t' := (.array .byte)) (by decide) (by decide)))
  replace F_items_r0 := F_items_r0.other W4 (Or.inr (slot_ne (Or.inr (hw _ (List.mem_of_getElem? (i := 41) rfl))) (Or.inr (hw _ (List.mem_of_getElem? (i := 37) rfl))) (by decide) (t := (.array (.object "com/example/wireknit/wireknit/Item"))) (t' := (.array .byte)) (by decide) (by decide)))
  replace F_byTag_r0 := F_byTag_r0.other W4 (Or.inr (slot_ne (Or.inr (hw _ (List.mem_of_getElem? (i := 43) rfl))) (Or.inr (hw _ (List.mem_of_getElem? (i := 37) rfl))) (by decide) (t := (.array .int)) (t' := (.array .byte)) (by decide) (by decide)))
  have Z5 : n0 ≤ h4.size := Nat.le_trans Z3 (Keep.of_wr W4).1
  replace KC := KC.wr W4 (Or.inl (List.mem_of_getElem? (i := 0) rfl))
  have N4 := Fr.snoc X4 N2 g_r0
  show W p e below _ (T4.setTop (mkF m 14 #[.val (.ref r0), .val (.ref r1), .val (.ref r2), .val (.ref r3), .val (.ref r4), .val (.ref r5)] []))
  refine W.go (fun _ hr => XS.aloadN X4.here hx rfl (hb hby d3_14) rfl rfl hr) ?_
  show W p e below _ (T4.setTop (mkF m 15 #[.val (.ref r0), .val (.ref r1), .val (.ref r2), .val (.ref r3), .val (.ref r4), .val (.ref r5)] [(.ref r0)]))
  refine W.go (fun _ hr => XS.aloadN X4.here hx rfl (hb hby d3_15) rfl rfl hr) ?_
  show W p e below _ (T4.setTop (mkF m 16 #[.val (.ref r0), .val (.ref r1), .val (.ref r2), .val (.ref r3), .val (.ref r4), .val (.ref r5)] [(.ref r3), (.ref r0)]))
  obtain ⟨T6, h6, X6, e6, W6, st6⟩ := putF X4 hx hZ hown (host := "") (Or.inl (hw _ (List.mem_of_getElem? (i := 38) rfl))) Via.refl e4 F_tags_r0 E_r0 (Or.inr ⟨(hw _ (List.mem_of_getElem? (i := 39) rfl)), rfl, hnm⟩) (hw _ (List.mem_of_getElem? (i := 6) rfl)) (ty := (.array (.object "com/example/wireknit/wireknit/Item$Tag"))) (by decide) rfl rfl (g := (mkF m 16 #[.val (.ref r0), .val (.ref r1), .val (.ref r2), .val (.ref r3), .val (.ref r4), .val (.ref r5)] [(.ref r3), (.ref r0)])) rfl rfl (hb hby d3_16)
  refine W.go st6 ?_
  replace E_r0 := E_r0.wr W6
  replace F_type_r0 := F_type_r0.other W6 (Or.inr (slot_ne (Or.inr (hw _ (List.mem_of_getElem? (i := 35) rfl))) (Or.inr (hw _ (List.mem_of_getElem? (i := 39) rfl))) (by decide) (t := (.object "com/example/wireknit/wireknit/Item$Type")) (t' := (.array (.object "com/example/wireknit/wireknit/Item$Tag"))) (by decide) (by decide)))
  replace F_data_r0 := F_data_r0.other W6 (Or.inr (slot_ne (Or.inr (hw _ (List.mem_of_getElem? (i := 37) rfl))) (Or.inr (hw _ (List.mem_of_getElem? (i := 39) rfl))) (by decide) (t := (.array .byte)) (t' := (.array (.object "com/example/wireknit/wireknit/Item$Tag"))) (by decide) (by decide)))
  replace F_tags_r0 := F_tags_r0.same W6
  replace F_items_r0 := F_items_r0.other W6 (Or.inr (slot_ne (Or.inr (hw _ (List.mem_of_getElem? (i := 41) rfl))) (Or.inr (hw _ (List.mem_of_getElem? (i := 39) rfl))) (by decide) (t := (.array (.object "com/example/wireknit/wireknit/Item"))) (t' := (.array (.object "com/example/wireknit/wireknit/Item$Tag"))) (by decide) (by decide)))
  replace F_byTag_r0 := F_byTag_r0.other W6 (Or.inr (slot_ne (Or.inr (hw _ (List.mem_of_getElem? (i := 43) rfl))) (Or.inr (hw _ (List.mem_of_getElem? (i := 39) rfl))) (by decide) (t := (.array .int)) (t' := (.array (.object "com/example/wireknit/wireknit/Item$Tag"))) (by decide) (by decide)))
  have Z7 : n0 ≤ h6.size := Nat.le_trans Z5 (Keep.of_wr W6).1
  replace KC := KC.wr W6 (Or.inl (List.mem_of_getElem? (i := 0) rfl))
  have N6 := Fr.snoc X6 N4 g_r0
  show W p e below _ (T6.setTop (mkF m 19 #[.val (.ref r0), .val (.ref r1), .val (.ref r2), .val (.ref r3), .val (.ref r4), .val (.ref r5)] []))
  refine W.go (fun _ hr => XS.aloadN X6.here hx rfl (hb hby d3_19) rfl rfl hr) ?_
  show W p e below _ (T6.setTop (mkF m 20 #[.val (.ref r0), .val (.ref r1), .val (.ref r2), .val (.ref r3), .val (.ref r4), .val (.ref r5)] [(.ref r0)]))
  refine W.go (fun _ hr => XS.aload X6.here hx rfl (hb hby d3_20) rfl rfl hr) ?_
  show W p e below _ (T6.setTop (mkF m 22 #[.val (.ref r0), .val (.ref r1), .val (.ref r2), .val (.ref r3), .val (.ref r4), .val (.ref r5)] [(.ref r4), (.ref r0)]))
  obtain ⟨T8, h8, X8, e8, W8, st8⟩ := putF X6 hx hZ hown (host := "") (Or.inl (hw _ (List.mem_of_getElem? (i := 40) rfl))) Via.refl e6 F_items_r0 E_r0 (Or.inr ⟨(hw _ (List.mem_of_getElem? (i := 41) rfl)), rfl, hnm⟩) (hw _ (List.mem_of_getElem? (i := 6) rfl)) (ty := (.array (.object "com/example/wireknit/wireknit/Item"))) (by decide) rfl rfl (g := (mkF m 22 #[.val (.ref r0), .val (.ref r1), .val (.ref r2), .val (.ref r3), .val (.ref r4), .val (.ref r5)] [(.ref r4), (.ref r0)])) rfl rfl (hb hby d3_22)
  refine W.go st8 ?_
  replace E_r0 := E_r0.wr W8
  replace F_type_r0 := F_type_r0.other W8 (Or.inr (slot_ne (Or.inr (hw _ (List.mem_of_getElem? (i := 35) rfl))) (Or.inr (hw _ (List.mem_of_getElem? (i := 41) rfl))) (by decide) (t := (.object "com/example/wireknit/wireknit/Item$Type")) (t' := (.array (.object "com/example/wireknit/wireknit/Item"))) (by decide) (by decide)))
  replace F_data_r0 := F_data_r0.other W8 (Or.inr (slot_ne (Or.inr (hw _ (List.mem_of_getElem? (i := 37) rfl))) (Or.inr (hw _ (List.mem_of_getElem? (i := 41) rfl))) (by decide) (t := (.array .byte)) (t' := (.array (.object "com/example/wireknit/wireknit/Item"))) (by decide) (by decide)))
  replace F_tags_r0 := F_tags_r0.other W8 (Or.inr (slot_ne (Or.inr (hw _ (List.mem_of_getElem? (i := 39) rfl))) (Or.inr (hw _ (List.mem_of_getElem? (i := 41) rfl))) (by decide) (t := (.array (.object "com/example/wireknit/wireknit/Item$Tag"))) (t' := (.array (.object "com/example/wireknit/wireknit/Item"))) (by decide) (by decide)))
  replace F_items_r0 := F_items_r0.same W8
  replace F_byTag_r0 := F_byTag_r0.other W8 (Or.inr (slot_ne (Or.inr (hw _ (List.mem_of_getElem? (i := 43) rfl))) (Or.inr (hw _ (List.mem_of_getElem? (i := 41) rfl))) (by decide) (t := (.array .int)) (t' := (.array (.object "com/example/wireknit/wireknit/Item"))) (by decide) (by decide)))
  have Z9 : n0 ≤ h8.size := Nat.le_trans Z7 (Keep.of_wr W8).1
  replace KC := KC.wr W8 (Or.inl (List.mem_of_getElem? (i := 0) rfl))
  have N8 := Fr.snoc X8 N6 g_r0
  show W p e below _ (T8.setTop (mkF m 25 #[.val (.ref r0), .val (.ref r1), .val (.ref r2), .val (.ref r3), .val (.ref r4), .val (.ref r5)] []))
  refine W.go (fun _ hr => XS.aloadN X8.here hx rfl (hb hby d3_25) rfl rfl hr) ?_
  show W p e below _ (T8.setTop (mkF m 26 #[.val (.ref r0), .val (.ref r1), .val (.ref r2), .val (.ref r3), .val (.ref r4), .val (.ref r5)] [(.ref r0)]))
  refine W.go (fun _ hr => XS.aload X8.here hx rfl (hb hby d3_26) rfl rfl hr) ?_
  show W p e below _ (T8.setTop (mkF m 28 #[.val (.ref r0), .val (.ref r1), .val (.ref r2), .val (.ref r3), .val (.ref r4), .val (.ref r5)] [(.ref r5), (.ref r0)]))
  obtain ⟨T10, h10, X10, e10, W10, st10⟩ := putF X8 hx hZ hown (host := "") (Or.inl (hw _ (List.mem_of_getElem? (i := 42) rfl))) Via.refl e8 F_byTag_r0 E_r0 (Or.inr ⟨(hw _ (List.mem_of_getElem? (i := 43) rfl)), rfl, hnm⟩) (hw _ (List.mem_of_getElem? (i := 6) rfl)) (ty := (.array .int)) (by decide) rfl rfl (g := (mkF m 28 #[.val (.ref r0), .val (.ref r1), .val (.ref r2), .val (.ref r3), .val (.ref r4), .val (.ref r5)] [(.ref r5), (.ref r0)])) rfl rfl (hb hby d3_28)
  refine W.go st10 ?_
  replace E_r0 := E_r0.wr W10
  replace F_type_r0 := F_type_r0.other W10 (Or.inr (slot_ne (Or.inr (hw _ (List.mem_of_getElem? (i := 35) rfl))) (Or.inr (hw _ (List.mem_of_getElem? (i := 43) rfl))) (by decide) (t := (.object "com/example/wireknit/wireknit/Item$Type")) (t' := (.array .int)) (by decide) (by decide)))
  replace F_data_r0 := F_data_r0.other W10 (Or.inr (slot_ne (Or.inr (hw _ (List.mem_of_getElem? (i := 37) rfl))) (Or.inr (hw _ (List.mem_of_getElem? (i := 43) rfl))) (by decide) (t := (.array .byte)) (t' := (.array .int)) (by decide) (by decide)))
  replace F_tags_r0 := F_tags_r0.other W10 (Or.inr (slot_ne (Or.inr (hw _ (List.mem_of_getElem? (i := 39) rfl))) (Or.inr (hw _ (List.mem_of_getElem? (i := 43) rfl))) (by decide) (t := (.array (.object "com/example/wireknit/wireknit/Item$Tag"))) (t' := (.array .int)) (by decide) (by decide)))
  replace F_items_r0 := F_items_r0.other W10 (Or.inr (slot_ne (Or.inr (hw _ (List.mem_of_getElem? (i := 41) rfl))) (Or.inr (hw _ (List.mem_of_getElem? (i := 43) rfl))) (by decide) (t := (.array (.object "com/example/wireknit/wireknit/Item"))) (t' := (.array .int)) (by decide) (by decide)))
  replace F_byTag_r0 := F_byTag_r0.same W10
  have Z11 : n0 ≤ h10.size := Nat.le_trans Z9 (Keep.of_wr W10).1
  replace KC := KC.wr W10 (Or.inl (List.mem_of_getElem? (i := 0) rfl))
  have N10 := Fr.snoc X10 N8 g_r0
  show W p e below _ (T10.setTop (mkF m 31 #[.val (.ref r0), .val (.ref r1), .val (.ref r2), .val (.ref r3), .val (.ref r4), .val (.ref r5)] []))
  exact W.retV X10 hx hlk hret (hb hby d3_31) (by decide) (by decide) e10 ⟨rfl, N10, KC, E_r0, F_type_r0, F_data_r0⟩
theorem d2_0 : decode prog_13_method_2_code 0 = .ok (.aload_n 0, 1) := by decide +kernel
theorem d2_1 : decode prog_13_method_2_code 1 = .ok (.aload_n 1, 1) := by decide +kernel
theorem d2_2 : decode prog_13_method_2_code 2 = .ok (.aload_n 2, 1) := by decide +kernel
theorem d2_3 : decode prog_13_method_2_code 3 = .ok (.getstatic 29, 3) := by decide +kernel
theorem d2_6 : decode prog_13_method_2_code 6 = .ok (.aload_n 3, 1) := by decide +kernel
theorem d2_7 : decode prog_13_method_2_code 7 = .ok (.getstatic 32, 3) := by decide +kernel
theorem d2_10 : decode prog_13_method_2_code 10 = .ok (.invokespecial 35, 3) := by decide +kernel
theorem pd_26 : parseMethodDescriptor "(Lcom/example/wireknit/wireknit/Item$Type;[B[Lcom/example/wireknit/wireknit/Item$Tag;[Lcom/example/wireknit/wireknit/Item;[I)V" = some ⟨[(.object "com/example/wireknit/wireknit/Item$Type"), (.array .byte), (.array (.object "com/example/wireknit/wireknit/Item$Tag")), (.array (.object "com/example/wireknit/wireknit/Item")), (.array .int)], none⟩ := by decide +kernel
theorem d2_13 : decode prog_13_method_2_code 13 = .ok (.return_, 1) := by decide +kernel
def Q_rm2 (Z : State) (r0 : Addr) (r1 : Addr) (r2 : Addr) (r3 : Addr) (w_NO_TAGS : Addr) (w_NO_POSITIONS : Addr) (h0 : Heap) (n0 : Nat) (v : Option Value) (h : Heap) (L : List Loc) : Prop := v = none ∧ Fr n0 L ∧ Keep h0 h [r0] ∧ Exa Z h r0 "com/example/wireknit/wireknit/Item" ∧ Fld Z h r0 "com/example/wireknit/wireknit/Item" "type" "Lcom/example/wireknit/wireknit/Item$Type;" (.ref r1) ∧ Fld Z h r0 "com/example/wireknit/wireknit/Item" "data" "[B" (.ref r2)
set_option maxRecDepth 65536 in
set_option maxHeartbeats 40000000 in
theorem rm2 (l : Launch) (Z : State) (a0 : Array Value) (hw : ∀ d ∈ tables_1, d.before a0 Z = true) (r0 : Addr) (r1 : Addr) (r2 : Addr) (r3 : Addr) (w_NO_TAGS : Addr) (w_NO_POSITIONS : Addr) (h0 : Heap) (n0 : Nat) (Z0 : n0 ≤ h0.size) (E_r0 : Exa Z h0 r0 "com/example/wireknit/wireknit/Item") (F_type_r0 : Fld Z h0 r0 "com/example/wireknit/wireknit/Item" "type" "Lcom/example/wireknit/wireknit/Item$Type;" .null) (F_data_r0 : Fld Z h0 r0 "com/example/wireknit/wireknit/Item" "data" "[B" .null) (F_tags_r0 : Fld Z h0 r0 "com/example/wireknit/wireknit/Item" "tags" "[Lcom/example/wireknit/wireknit/Item$Tag;" .null) (F_items_r0 : Fld Z h0 r0 "com/example/wireknit/wireknit/Item" "items" "[Lcom/example/wireknit/wireknit/Item;" .null) (F_byTag_r0 : Fld Z h0 r0 "com/example/wireknit/wireknit/Item" "byTag" "[I" .null) (g_r0 : n0 ≤ r0) (S_NO_TAGS : Sta Z h0 "com/example/wireknit/wireknit/Item" "NO_TAGS" "[Lcom/example/wireknit/wireknit/Item$Tag;" (.ref w_NO_TAGS)) (S_NO_POSITIONS : Sta Z h0 "com/example/wireknit/wireknit/Item" "NO_POSITIONS" "[I" (.ref w_NO_POSITIONS)) :
    Ctr l Z (⟨"com/example/wireknit/wireknit/Item", "<init>", "(Lcom/example/wireknit/wireknit/Item$Type;[B[Lcom/example/wireknit/wireknit/Item;)V"⟩ : MethodName) prog_13_method_2_code 4 none ({ frames := 2, cells := 0, slots := 0, locals := 29 } : Room) #[(.ref r0), (.ref r1), (.ref r2), (.ref r3)] h0 (Q_rm2 Z r0 r1 r2 r3 w_NO_TAGS w_NO_POSITIONS h0 n0) := by
  refine Ctr.body (fr := fun m => mkF m 0 #[.val (.ref r0), .val (.ref r1), .val (.ref r2), .val (.ref r3)] []) (plainFor_of_name pn_com_example_wireknit_wireknit_Item) (fun m => by first | (simp [entryFrame, mkF, argsToLocals, Value.category]; done) | rfl) fun p e s m below meth c s₁ hx hby hml hZ hown hnm hret hlk X0 e0 => ?_
  have N0 := Fr.nil n0
  have hown : s.vm.findClass "com/example/wireknit/wireknit/Item" = some m.cls := hown
  have KC : Keep h0 h0 [r0] := Keep.refl _ _
  show W p e below _ (s₁.setTop (mkF m 0 #[.val (.ref r0), .val (.ref r1), .val (.ref r2), .val (.ref r3)] []))
  refine W.go (fun _ hr => XS.aloadN X0.here hx rfl (hb hby d2_0) rfl rfl hr) ?_
  show W p e below _ (s₁.setTop (mkF m 1 #[.val (.ref r0), .val (.ref r1), .val (.ref r2), .val (.ref r3)] [(.ref r0)]))
  refine W.go (fun _ hr => XS.aloadN X0.here hx rfl (hb hby d2_1) rfl rfl hr) ?_
  show W p e below _ (s₁.setTop (mkF m 2 #[.val (.ref r0), .val (.ref r1), .val (.ref r2), .val (.ref r3)] [(.ref r1), (.ref r0)]))
  refine W.go (fun _ hr => XS.aloadN X0.here hx rfl (hb hby d2_2) rfl rfl hr) ?_
  show W p e below _ (s₁.setTop (mkF m 3 #[.val (.ref r0), .val (.ref r1), .val (.ref r2), .val (.ref r3)] [(.ref r2), (.ref r1), (.ref r0)]))
  obtain ⟨T1, X1, e1, st1⟩ := getS2 X0 hx hZ hown (host := "") (Or.inl (hw _ (List.mem_of_getElem? (i := 24) rfl))) Via.refl e0 S_NO_TAGS (g := (mkF m 3 #[.val (.ref r0), .val (.ref r1), .val (.ref r2), .val (.ref r3)] [(.ref r2), (.ref r1), (.ref r0)])) rfl (hb hby d2_3)
  refine W.go st1 ?_
  show W p e below _ (T1.setTop (mkF m 6 #[.val (.ref r0), .val (.ref r1), .val (.ref r2), .val (.ref r3)] [(.ref w_NO_TAGS), (.ref r2), (.ref r1), (.ref r0)]))
  refine W.go (fun _ hr => XS.aloadN X1.here hx rfl (hb hby d2_6) rfl rfl hr) ?_
  show W p e below _ (T1.setTop (mkF m 7 #[.val (.ref r0), .val (.ref r1), .val (.ref r2), .val (.ref r3)] [(.ref r3), (.ref w_NO_TAGS), (.ref r2), (.ref r1), (.ref r0)]))
  obtain ⟨T2, X2, e2, st2⟩ := getS2 X1 hx hZ hown (host := "") (Or.inl (hw _ (List.mem_of_getElem? (i := 26) rfl))) Via.refl e1 S_NO_POSITIONS (g := (mkF m 7 #[.val (.ref r0), .val (.ref r1), .val (.ref r2), .val (.ref r3)] [(.ref r3), (.ref w_NO_TAGS), (.ref r2), (.ref r1), (.ref r0)])) rfl (hb hby d2_7)
  refine W.go st2 ?_
  show W p e below _ (T2.setTop (mkF m 10 #[.val (.ref r0), .val (.ref r1), .val (.ref r2), .val (.ref r3)] [(.ref w_NO_POSITIONS), (.ref r3), (.ref w_NO_TAGS), (.ref r2), (.ref r1), (.ref r0)]))
  refine W.callI X2 hx hZ hown (g := (mkF m 10 #[.val (.ref r0), .val (.ref r1), .val (.ref r2), .val (.ref r3)] [(.ref w_NO_POSITIONS), (.ref r3), (.ref w_NO_TAGS), (.ref r2), (.ref r1), (.ref r0)])) (by rw [hml]; rfl) (hw _ (List.mem_of_getElem? (i := 28) rfl)) (hw _ (List.mem_of_getElem? (i := 29) rfl)) (hw _ (List.mem_of_getElem? (i := 3) rfl)) (hw _ (List.mem_of_getElem? (i := 30) rfl)) e2 (rm3 l Z a0 hw r0 r1 r2 w_NO_TAGS r3 w_NO_POSITIONS h0 n0 Z0 E_r0 F_type_r0 F_data_r0 F_tags_r0 F_items_r0 F_byTag_r0 g_r0) rfl (by decide) pd_26 rfl (b := r0) (argsL := [(.ref r1), (.ref r2), (.ref w_NO_TAGS), (.ref r3), (.ref w_NO_POSITIONS)]) (rest := []) rfl rfl rfl (hb hby d2_10) (W0 := 0) rfl (by decide) (by decide) (by decide) (by decide) (fun v3 T3 h3 L3 X3 e3 hQ3 => ?_)
  obtain ⟨rfl, N3q, K3, Ee3, Ft3, Fd3⟩ := hQ3
  have N3 := Fr.app N0 N3q
  have nsK3 := (nsS E_r0.nostat ns0)
  replace E_r0 := E_r0.keep K3
  replace S_NO_TAGS := Sta.keep S_NO_TAGS K3 nsK3
  replace S_NO_POSITIONS := Sta.keep S_NO_POSITIONS K3 nsK3
  have Z4 : n0 ≤ h3.size := Nat.le_trans Z0 K3.1
  replace KC := KC.trans K3 (allS (Or.inl (List.mem_of_getElem? (i := 0) rfl)) all0)
  show W p e below _ (T3.setTop (mkF m 13 #[.val (.ref r0), .val (.ref r1), .val (.ref r2), .val (.ref r3)] []))
  exact W.retV X3 hx hlk hret (hb hby d2_13) (by decide) (by decide) e3 ⟨rfl, N3, KC, E_r0, Ft3, Fd3⟩
theorem d5_0 : decode prog_13_method_8_code 0 = .ok (.aload_n 0, 1) := by decide +kernel
theorem d5_1 : decode prog_13_method_8_code 1 = .ok (.getfield 7, 3) := by decide +kernel
theorem d5_4 : decode prog_13_method_8_code 4 = .ok (.areturn, 1) := by decide +kernel
def Q_rm5 (Z : State) (r0 : Addr) (t : Addr) (h0 : Heap) (n0 : Nat) (v : Option Value) (h : Heap) (L : List Loc) : Prop := v = some (.ref t) ∧ Fr n0 L ∧ h = h0
set_option maxRecDepth 65536 in
set_option maxHeartbeats 40000000 in
theorem rm5 (l : Launch) (Z : State) (a0 : Array Value) (hw : ∀ d ∈ tables_1, d.before a0 Z = true) (r0 : Addr) (t : Addr) (h0 : Heap) (n0 : Nat) (Z0 : n0 ≤ h0.size) (F_type_r0 : Fld Z h0 r0 "com/example/wireknit/wireknit/Item" "type" "Lcom/example/wireknit/wireknit/Item$Type;" (.ref t)) :
    Ctr l Z (⟨"com/example/wireknit/wireknit/Item", "type", "()Lcom/example/wireknit/wireknit/Item$Type;"⟩ : MethodName) prog_13_method_8_code 1 (some (.object "com/example/wireknit/wireknit/Item$Type")) ({ frames := 0, cells := 0, slots := 0, locals := 0 } : Room) #[(.ref r0)] h0 (Q_rm5 Z r0 t h0 n0) := by
  refine Ctr.body (fr := fun m => mkF m 0 #[.val (.ref r0)] []) (plainFor_of_name pn_com_example_wireknit_wireknit_Item) (fun m => by first | (simp [entryFrame, mkF, argsToLocals, Value.category]; done) | rfl) fun p e s m below meth c s₁ hx hby hml hZ hown hnm hret hlk X0 e0 => ?_
  have N0 := Fr.nil n0
  have hown : s.vm.findClass "com/example/wireknit/wireknit/Item" = some m.cls := hown
  show W p e below _ (s₁.setTop (mkF m 0 #[.val (.ref r0)] []))
  refine W.go (fun _ hr => XS.aloadN X0.here hx rfl (hb hby d5_0) rfl rfl hr) ?_
  show W p e below _ (s₁.setTop (mkF m 1 #[.val (.ref r0)] [(.ref r0)]))
  obtain ⟨T1, X1, e1, st1⟩ := getF X0 hx hZ hown (host := "") (Or.inl (hw _ (List.mem_of_getElem? (i := 34) rfl))) Via.refl e0 F_type_r0 (g := (mkF m 1 #[.val (.ref r0)] [(.ref r0)])) rfl rfl (hb hby d5_1)
  refine W.go st1 ?_
  show W p e below _ (T1.setTop (mkF m 4 #[.val (.ref r0)] [(.ref t)]))
  exact W.retA X1 hx hlk hret rfl rfl (hb hby d5_4) (by decide) (by decide) e1 ⟨rfl, N0, rfl⟩
theorem d8_0 : decode prog_13_method_20_code 0 = .ok (.aload_n 0, 1) := by decide +kernel
theorem d8_1 : decode prog_13_method_20_code 1 = .ok (.getfield 7, 3) := by decide +kernel
theorem d8_4 : decode prog_13_method_20_code 4 = .ok (.aload_n 1, 1) := by decide +kernel
theorem d8_5 : decode prog_13_method_20_code 5 = .ok (.if_acmp .eq 27, 3) := by decide +kernel
theorem d8_32 : decode prog_13_method_20_code 32 = .ok (.return_, 1) := by decide +kernel
def Q_rm8 (Z : State) (r0 : Addr) (r1 : Addr) (h0 : Heap) (n0 : Nat) (v : Option Value) (h : Heap) (L : List Loc) : Prop := v = none ∧ Fr n0 L ∧ h = h0
set_option maxRecDepth 65536 in
set_option maxHeartbeats 40000000 in
theorem rm8 (l : Launch) (Z : State) (a0 : Array Value) (hw : ∀ d ∈ tables_1, d.before a0 Z = true) (r0 : Addr) (r1 : Addr) (h0 : Heap) (n0 : Nat) (Z0 : n0 ≤ h0.size) (F_type_r0 : Fld Z h0 r0 "com/example/wireknit/wireknit/Item" "type" "Lcom/example/wireknit/wireknit/Item$Type;" (.ref r1)) :
    Ctr l Z (⟨"com/example/wireknit/wireknit/Item", "requireType", "(Lcom/example/wireknit/wireknit/Item$Type;)V"⟩ : MethodName) prog_13_method_20_code 2 none ({ frames := 0, cells := 0, slots := 0, locals := 0 } : Room) #[(.ref r0), (.ref r1)] h0 (Q_rm8 Z r0 r1 h0 n0) := by
  refine Ctr.body (fr := fun m => mkF m 0 #[.val (.ref r0), .val (.ref r1)] []) (plainFor_of_name pn_com_example_wireknit_wireknit_Item) (fun m => by first | (simp [entryFrame, mkF, argsToLocals, Value.category]; done) | rfl) fun p e s m below meth c s₁ hx hby hml hZ hown hnm hret hlk X0 e0 => ?_
  have N0 := Fr.nil n0
  have hown : s.vm.findClass "com/example/wireknit/wireknit/Item" = some m.cls := hown
  show W p e below _ (s₁.setTop (mkF m 0 #[.val (.ref r0), .val (.ref r1)] []))
  refine W.go (fun _ hr => XS.aloadN X0.here hx rfl (hb hby d8_0) rfl rfl hr) ?_
  show W p e below _ (s₁.setTop (mkF m 1 #[.val (.ref r0), .val (.ref r1)] [(.ref r0)]))
  obtain ⟨T1, X1, e1, st1⟩ := getF X0 hx hZ hown (host := "") (Or.inl (hw _ (List.mem_of_getElem? (i := 34) rfl))) Via.refl e0 F_type_r0 (g := (mkF m 1 #[.val (.ref r0), .val (.ref r1)] [(.ref r0)])) rfl rfl (hb hby d8_1)
  refine W.go st1 ?_
  show W p e below _ (T1.setTop (mkF m 4 #[.val (.ref r0), .val (.ref r1)] [(.ref r1)]))
  refine W.go (fun _ hr => XS.aloadN X1.here hx rfl (hb hby d8_4) rfl rfl hr) ?_
  show W p e below _ (T1.setTop (mkF m 5 #[.val (.ref r0), .val (.ref r1)] [(.ref r1), (.ref r1)]))
  refine W.go (fun _ hr => Jvm.RoadKit.acmp (g := (mkF m 5 #[.val (.ref r0), .val (.ref r1)] [(.ref r1), (.ref r1)])) X1 hx rfl rfl rfl (pc0 := 5) (pc' := 32) (same := true) rfl (hb hby d8_5) rfl (decide_eq_true rfl) (by decide) (by decide) hr) ?_
  show W p e below _ (T1.setTop (mkF m 32 #[.val (.ref r0), .val (.ref r1)] []))
  exact W.retV X1 hx hlk hret (hb hby d8_32) (by decide) (by decide) e1 ⟨rfl, N0, rfl⟩
theorem d1_0 : decode prog_13_method_3_code 0 = .ok (.new 8, 3) := by decide +kernel
theorem d1_3 : decode prog_13_method_3_code 3 = .ok (.dup, 1) := by decide +kernel
theorem d1_4 : decode prog_13_method_3_code 4 = .ok (.getstatic 38, 3) := by decide +kernel
theorem d1_7 : decode prog_13_method_3_code 7 = .ok (.aload_n 0, 1) := by decide +kernel
theorem d1_8 : decode prog_13_method_3_code 8 = .ok (.invokevirtual 43, 3) := by decide +kernel
theorem d1_11 : decode prog_13_method_3_code 11 = .ok (.checkcast 44, 3) := by decide +kernel
theorem d1_14 : decode prog_13_method_3_code 14 = .ok (.getstatic 48, 3) := by decide +kernel
theorem d1_17 : decode prog_13_method_3_code 17 = .ok (.invokespecial 51, 3) := by decide +kernel
theorem pd_44 : parseMethodDescriptor "(Lcom/example/wireknit/wireknit/Item$Type;[B[Lcom/example/wireknit/wireknit/Item;)V" = some ⟨[(.object "com/example/wireknit/wireknit/Item$Type"), (.array .byte), (.array (.object "com/example/wireknit/wireknit/Item"))], none⟩ := by decide +kernel
theorem d1_20 : decode prog_13_method_3_code 20 = .ok (.areturn, 1) := by decide +kernel
def Q_rm1_0 (Z : State) (r0 : Addr) (k0 : ClassId) (w_DATA : Addr) (w_NO_ITEMS : Addr) (w_NO_TAGS : Addr) (w_NO_POSITIONS : Addr) (h0 : Heap) (n0 : Nat) (v : Option Value) (h : Heap) (L : List Loc) : Prop := ∃ o b : Addr, v = some (.ref o) ∧ Fr n0 L ∧ Keep h0 h [] ∧ h0.size ≤ o ∧ h0.size ≤ b ∧ o ≠ b ∧ Exa Z h o "com/example/wireknit/wireknit/Item" ∧ Exa Z h b "[B" ∧ Fld Z h o "com/example/wireknit/wireknit/Item" "type" "Lcom/example/wireknit/wireknit/Item$Type;" (.ref w_DATA) ∧ Fld Z h o "com/example/wireknit/wireknit/Item" "data" "[B" (.ref b) ∧ Arv Z h b k0 .byte (0 : Int32) [] (.int (0 : Int32))
set_option maxRecDepth 65536 in
set_option maxHeartbeats 40000000 in
theorem rm1_0 (l : Launch) (Z : State) (a0 : Array Value) (hw : ∀ d ∈ tables_1, d.before a0 Z = true) (r0 : Addr) (k0 : ClassId) (w_DATA : Addr) (w_NO_ITEMS : Addr) (w_NO_TAGS : Addr) (w_NO_POSITIONS : Addr) (h0 : Heap) (n0 : Nat) (Z0 : n0 ≤ h0.size) (E_r0 : Exa Z h0 r0 "[B") (V_r0 : Arv Z h0 r0 k0 .byte (0 : Int32) [] (.int (0 : Int32))) (S_DATA : Sta Z h0 "com/example/wireknit/wireknit/Item$Type" "DATA" "Lcom/example/wireknit/wireknit/Item$Type;" (.ref w_DATA)) (S_NO_ITEMS : Sta Z h0 "com/example/wireknit/wireknit/Item" "NO_ITEMS" "[Lcom/example/wireknit/wireknit/Item;" (.ref w_NO_ITEMS)) (S_NO_TAGS : Sta Z h0 "com/example/wireknit/wireknit/Item" "NO_TAGS" "[Lcom/example/wireknit/wireknit/Item$Tag;" (.ref w_NO_TAGS)) (S_NO_POSITIONS : Sta Z h0 "com/example/wireknit/wireknit/Item" "NO_POSITIONS" "[I" (.ref w_NO_POSITIONS)) :
    Ctr l Z (⟨"com/example/wireknit/wireknit/Item", "data", "([B)Lcom/example/wireknit/wireknit/Item;"⟩ : MethodName) prog_13_method_3_code 1 (some (.object "com/example/wireknit/wireknit/Item")) ({ frames := 3, cells := 2, slots := 6, locals := 45 } : Room) #[(.ref r0)] h0 (Q_rm1_0 Z r0 k0 w_DATA w_NO_ITEMS w_NO_TAGS w_NO_POSITIONS h0 n0) := by
  refine Ctr.body (fr := fun m => mkF m 0 #[.val (.ref r0)] []) (plainFor_of_name pn_com_example_wireknit_wireknit_Item) (fun m => by first | (simp [entryFrame, mkF, argsToLocals, Value.category]; done) | rfl) fun p e s m below meth c s₁ hx hby hml hZ hown hnm hret hlk X0 e0 => ?_
  have N0 := Fr.nil n0
  have hown : s.vm.findClass "com/example/wireknit/wireknit/Item" = some m.cls := hown
  have KC : Keep h0 h0 [] := Keep.refl _ _
  show W p e below _ (s₁.setTop (mkF m 0 #[.val (.ref r0)] []))
  obtain ⟨T1, h1, X1, e1, E1, E_b1, D1, U1, st1⟩ := newO X0 hx hZ hown (hw _ (List.mem_of_getElem? (i := 5) rfl)) (hw _ (List.mem_of_getElem? (i := 6) rfl)) (hw _ (List.mem_of_getElem? (i := 3) rfl)) e0 (g := (mkF m 0 #[.val (.ref r0)] [])) rfl (hb hby d1_0) (by decide) (by decide)
  obtain ⟨b1, g1⟩ : ∃ z, z = h0.size := ⟨_, rfl⟩
  rw [← g1] at E_b1 D1 U1 st1
  have ne_r0_b1 : r0 ≠ b1 := Nat.ne_of_lt (Nat.lt_of_lt_of_le E_r0.lt (Nat.le_of_eq g1.symm))
  have g_b1 : n0 ≤ b1 := Nat.le_trans Z0 (Nat.le_of_eq g1.symm)
  have sz_b1 : h0.size ≤ b1 := Nat.le_trans KC.1 (Nat.le_of_eq g1.symm)
  replace E_r0 := E_r0.ext E1
  replace V_r0 := V_r0.ext E1
  replace S_DATA := Sta.ext E1 S_DATA
  replace S_NO_ITEMS := Sta.ext E1 S_NO_ITEMS
  replace S_NO_TAGS := Sta.ext E1 S_NO_TAGS
  replace S_NO_POSITIONS := Sta.ext E1 S_NO_POSITIONS
  have Z2 : n0 ≤ h1.size := Nat.le_trans Z0 E1.1
  replace KC := KC.ext E1
  have F_type_b1 : Fld Z h1 b1 "com/example/wireknit/wireknit/Item" "type" "Lcom/example/wireknit/wireknit/Item$Type;" .null := D1 (Or.inr (hw _ (List.mem_of_getElem? (i := 35) rfl))) (ty := (.object "com/example/wireknit/wireknit/Item$Type")) (by decide)
  have F_data_b1 : Fld Z h1 b1 "com/example/wireknit/wireknit/Item" "data" "[B" .null := D1 (Or.inr (hw _ (List.mem_of_getElem? (i := 37) rfl))) (ty := (.array .byte)) (by decide)
  have F_tags_b1 : Fld Z h1 b1 "com/example/wireknit/wireknit/Item" "tags" "[Lcom/example/wireknit/wireknit/Item$Tag;" .null := D1 (Or.inr (hw _ (List.mem_of_getElem? (i := 39) rfl))) (ty := (.array (.object "com/example/wireknit/wireknit/Item$Tag"))) (by decide)
  have F_items_b1 : Fld Z h1 b1 "com/example/wireknit/wireknit/Item" "items" "[Lcom/example/wireknit/wireknit/Item;" .null := D1 (Or.inr (hw _ (List.mem_of_getElem? (i := 41) rfl))) (ty := (.array (.object "com/example/wireknit/wireknit/Item"))) (by decide)
  have F_byTag_b1 : Fld Z h1 b1 "com/example/wireknit/wireknit/Item" "byTag" "[I" .null := D1 (Or.inr (hw _ (List.mem_of_getElem? (i := 43) rfl))) (ty := (.array .int)) (by decide)
  refine W.go st1 ?_
  show W p e below _ (T1.setTop (mkF m 3 #[.val (.ref r0)] [(.ref b1)]))
  refine W.go (fun _ hr => XS.dup X1.here hx rfl (hb hby d1_3) rfl rfl hr) ?_
  show W p e below _ (T1.setTop (mkF m 4 #[.val (.ref r0)] [(.ref b1), (.ref b1)]))
  obtain ⟨T3, X3, e3, st3⟩ := getS2 X1 hx hZ hown (host := "") (Or.inl (hw _ (List.mem_of_getElem? (i := 7) rfl))) Via.refl e1 S_DATA (g := (mkF m 4 #[.val (.ref r0)] [(.ref b1), (.ref b1)])) rfl (hb hby d1_4)
  refine W.go st3 ?_
  show W p e below _ (T3.setTop (mkF m 7 #[.val (.ref r0)] [(.ref w_DATA), (.ref b1), (.ref b1)]))
  refine W.go (fun _ hr => XS.aloadN X3.here hx rfl (hb hby d1_7) rfl rfl hr) ?_
  show W p e below _ (T3.setTop (mkF m 8 #[.val (.ref r0)] [(.ref r0), (.ref w_DATA), (.ref b1), (.ref b1)]))
  obtain ⟨T4, h4, X4, e4, E4, V_b4, E_b4, st4⟩ := cloneH X3 hx hZ hown (hw _ (List.mem_of_getElem? (i := 10) rfl)) (hw _ (List.mem_of_getElem? (i := 11) rfl)) (hw _ (List.mem_of_getElem? (i := 15) rfl)) (hw _ (List.mem_of_getElem? (i := 13) rfl)) (hw _ (List.mem_of_getElem? (i := 14) rfl)) (hw _ (List.mem_of_getElem? (i := 16) rfl)) e3 V_r0.arh E_r0 (g := (mkF m 8 #[.val (.ref r0)] [(.ref r0), (.ref w_DATA), (.ref b1), (.ref b1)])) rfl (by rw [hml]; rfl) rfl (hb hby d1_8) (by decide) (W := 3) (cap := 0) (by show 2 * 0 + _ ≤ _; exact Nat.le_of_eq rfl) (by decide) (by decide) (by decide) (by decide)
  obtain ⟨b4, g4⟩ : ∃ z, z = h1.size := ⟨_, rfl⟩
  rw [← g4] at V_b4 E_b4 st4
  have ne_r0_b4 : r0 ≠ b4 := Nat.ne_of_lt (Nat.lt_of_lt_of_le E_r0.lt (Nat.le_of_eq g4.symm))
  have ne_b1_b4 : b1 ≠ b4 := Nat.ne_of_lt (Nat.lt_of_lt_of_le E_b1.lt (Nat.le_of_eq g4.symm))
  have g_b4 : n0 ≤ b4 := Nat.le_trans Z2 (Nat.le_of_eq g4.symm)
  have sz_b4 : h0.size ≤ b4 := Nat.le_trans KC.1 (Nat.le_of_eq g4.symm)
  replace E_r0 := E_r0.ext E4
  replace V_r0 := V_r0.ext E4
  replace S_DATA := Sta.ext E4 S_DATA
  replace S_NO_ITEMS := Sta.ext E4 S_NO_ITEMS
  replace S_NO_TAGS := Sta.ext E4 S_NO_TAGS
  replace S_NO_POSITIONS := Sta.ext E4 S_NO_POSITIONS
  replace E_b1 := E_b1.ext E4
  replace F_type_b1 := F_type_b1.ext E4
  replace F_data_b1 := F_data_b1.ext E4
  replace F_tags_b1 := F_tags_b1.ext E4
  replace F_items_b1 := F_items_b1.ext E4
  replace F_byTag_b1 := F_byTag_b1.ext E4
  have Z5 : n0 ≤ h4.size := Nat.le_trans Z2 E4.1
  replace KC := KC.ext E4
  replace V_b4 : Arv Z h4 b4 k0 .byte (0 : Int32) [] (.int (0 : Int32)) := V_b4
  refine W.go st4 ?_
  show W p e below _ (T4.setTop (mkF m 11 #[.val (.ref r0)] [(.ref b4), (.ref w_DATA), (.ref b1), (.ref b1)]))
  obtain ⟨T6, X6, e6, st6⟩ := castY X4 hx hZ hown (hw _ (List.mem_of_getElem? (i := 17) rfl)) e4 (Ins.self E_b4) (g := (mkF m 11 #[.val (.ref r0)] [(.ref b4), (.ref w_DATA), (.ref b1), (.ref b1)])) rfl rfl (hb hby d1_11)
  refine W.go st6 ?_
  show W p e below _ (T6.setTop (mkF m 14 #[.val (.ref r0)] [(.ref b4), (.ref w_DATA), (.ref b1), (.ref b1)]))
  obtain ⟨T7, X7, e7, st7⟩ := getS2 X6 hx hZ hown (host := "") (Or.inl (hw _ (List.mem_of_getElem? (i := 19) rfl))) Via.refl e6 S_NO_ITEMS (g := (mkF m 14 #[.val (.ref r0)] [(.ref b4), (.ref w_DATA), (.ref b1), (.ref b1)])) rfl (hb hby d1_14)
  refine W.go st7 ?_
  show W p e below _ (T7.setTop (mkF m 17 #[.val (.ref r0)] [(.ref w_NO_ITEMS), (.ref b4), (.ref w_DATA), (.ref b1), (.ref b1)]))
  refine W.callI X7 hx hZ hown (g := (mkF m 17 #[.val (.ref r0)] [(.ref w_NO_ITEMS), (.ref b4), (.ref w_DATA), (.ref b1), (.ref b1)])) (by rw [hml]; rfl) (hw _ (List.mem_of_getElem? (i := 21) rfl)) (hw _ (List.mem_of_getElem? (i := 22) rfl)) (hw _ (List.mem_of_getElem? (i := 3) rfl)) (hw _ (List.mem_of_getElem? (i := 23) rfl)) e7 (rm2 l Z a0 hw b1 w_DATA b4 w_NO_ITEMS w_NO_TAGS w_NO_POSITIONS h4 n0 Z5 E_b1 F_type_b1 F_data_b1 F_tags_b1 F_items_b1 F_byTag_b1 g_b1 S_NO_TAGS S_NO_POSITIONS) rfl (by decide) pd_44 rfl (b := b1) (argsL := [(.ref w_DATA), (.ref b4), (.ref w_NO_ITEMS)]) (rest := [(.ref b1)]) rfl rfl rfl (hb hby d1_17) (W0 := 1) rfl (by decide) (by decide) (by decide) (by decide) (fun v8 T8 h8 L8 X8 e8 hQ8 => ?_)
  obtain ⟨rfl, N8q, K8, Ee8, Ft8, Fd8⟩ := hQ8
  have N8 := Fr.app N0 N8q
  have nsK8 := (nsS E_b1.nostat ns0)
  replace E_r0 := E_r0.keep K8
  replace V_r0 := V_r0.keep K8 (ninS ne_r0_b1 nin0)
  replace S_DATA := Sta.keep S_DATA K8 nsK8
  replace S_NO_ITEMS := Sta.keep S_NO_ITEMS K8 nsK8
  replace S_NO_TAGS := Sta.keep S_NO_TAGS K8 nsK8
  replace S_NO_POSITIONS := Sta.keep S_NO_POSITIONS K8 nsK8
  replace E_b1 := E_b1.keep K8
  replace E_b4 := E_b4.keep K8
  replace V_b4 := V_b4.keep K8 (ninS (Ne.symm ne_b1_b4) nin0)
  have Z9 : n0 ≤ h8.size := Nat.le_trans Z5 K8.1
  replace KC := KC.trans K8 (allS (Or.inr sz_b1) all0)
  show W p e below _ (T8.setTop (mkF m 20 #[.val (.ref r0)] [(.ref b1)]))
  exact W.retA X8 hx hlk hret rfl rfl (hb hby d1_20) (by decide) (by decide) e8 ⟨_, _, rfl, N8, KC, sz_b1, sz_b4, ne_b1_b4, E_b1, E_b4, Ft8, Fd8, V_b4⟩
theorem d6_0 : decode method_3_code 0 = .ok (.iload_n 1, 1) := by decide +kernel
theorem d6_1 : decode method_3_code 1 = .ok (.ifCond .le 10, 3) := by decide +kernel
theorem d6_11 : decode method_3_code 11 = .ok (.iload_n 1, 1) := by decide +kernel
theorem d6_12 : decode method_3_code 12 = .ok (.iconst 1, 1) := by decide +kernel
theorem d6_13 : decode method_3_code 13 = .ok (.if_icmp .le 10, 3) := by decide +kernel
theorem d6_23 : decode method_3_code 23 = .ok (.iload_n 1, 1) := by decide +kernel
theorem d6_24 : decode method_3_code 24 = .ok (.iconst 2, 1) := by decide +kernel
theorem d6_25 : decode method_3_code 25 = .ok (.if_icmp .le 11, 3) := by decide +kernel
theorem d6_36 : decode method_3_code 36 = .ok (.return_, 1) := by decide +kernel
theorem pn_com_example_wireknit_wireknit_ItemDataPinLaw : plainName "com/example/wireknit/wireknit/ItemDataPinLaw" = true := by first | (simp [plainName, overriddenIn]; done) | decide +kernel
def Q_rm6_0 (Z : State) (r0 : Addr) (p2 : Int32) (p3 : Int32) (p4 : Int32) (k0 : ClassId) (h0 : Heap) (n0 : Nat) (v : Option Value) (h : Heap) (L : List Loc) : Prop := v = none ∧ Fr n0 L ∧ Keep h0 h [r0] ∧ Exa Z h r0 "[B" ∧ ∃ vs, Arv Z h r0 k0 .byte (0 : Int32) vs (.int (0 : Int32))
set_option maxRecDepth 65536 in
set_option maxHeartbeats 40000000 in
theorem rm6_0 (l : Launch) (Z : State) (a0 : Array Value) (hw : ∀ d ∈ tables_1, d.before a0 Z = true) (r0 : Addr) (p2 : Int32) (p3 : Int32) (p4 : Int32) (k0 : ClassId) (h0 : Heap) (n0 : Nat) (Z0 : n0 ≤ h0.size) (E_r0 : Exa Z h0 r0 "[B") (V_r0 : Arv Z h0 r0 k0 .byte (0 : Int32) [] (.int (0 : Int32))) (g_r0 : n0 ≤ r0) :
    Ctr l Z (⟨"com/example/wireknit/wireknit/ItemDataPinLaw", "scramble", "([BIIII)V"⟩ : MethodName) method_3_code 5 none ({ frames := 0, cells := 0, slots := 0, locals := 0 } : Room) #[(.ref r0), (.int (0 : Int32)), (.int p2), (.int p3), (.int p4)] h0 (Q_rm6_0 Z r0 p2 p3 p4 k0 h0 n0) := by
  refine Ctr.body (fr := fun m => mkF m 0 #[.val (.ref r0), .val (.int (0 : Int32)), .val (.int p2), .val (.int p3), .val (.int p4)] []) (plainFor_of_name pn_com_example_wireknit_wireknit_ItemDataPinLaw) (fun m => by first | (simp [entryFrame, mkF, argsToLocals, Value.category]; done) | rfl) fun p e s m below meth c s₁ hx hby hml hZ hown hnm hret hlk X0 e0 => ?_
  have N0 := Fr.nil n0
  have hown : s.vm.findClass "com/example/wireknit/wireknit/ItemDataPinLaw" = some m.cls := hown
  have KC : Keep h0 h0 [r0] := Keep.refl _ _
  show W p e below _ (s₁.setTop (mkF m 0 #[.val (.ref r0), .val (.int (0 : Int32)), .val (.int p2), .val (.int p3), .val (.int p4)] []))
  refine W.go (fun _ hr => XS.iloadN X0.here hx rfl (hb hby d6_0) rfl hr) ?_
  show W p e below _ (s₁.setTop (mkF m 1 #[.val (.ref r0), .val (.int (0 : Int32)), .val (.int p2), .val (.int p3), .val (.int p4)] [(.int (0 : Int32))]))
  refine W.go (fun _ hr => XS.ifYes X0.here hx rfl (pc0 := 1) (pc' := 11) rfl (hb hby d6_1) rfl ((if0 _ _).trans (flt (by decide : ¬ ((0 : Int32) < (0 : Int32)))).2.2.2) (by decide) (by decide) hr) ?_
  show W p e below _ (s₁.setTop (mkF m 11 #[.val (.ref r0), .val (.int (0 : Int32)), .val (.int p2), .val (.int p3), .val (.int p4)] []))
  refine W.go (fun _ hr => XS.iloadN X0.here hx rfl (hb hby d6_11) rfl hr) ?_
  show W p e below _ (s₁.setTop (mkF m 12 #[.val (.ref r0), .val (.int (0 : Int32)), .val (.int p2), .val (.int p3), .val (.int p4)] [(.int (0 : Int32))]))
  refine W.go (fun _ hr => XS.iconst X0.here hx rfl (hb hby d6_12) hr) ?_
  show W p e below _ (s₁.setTop (mkF m 13 #[.val (.ref r0), .val (.int (0 : Int32)), .val (.int p2), .val (.int p3), .val (.int p4)] [(.int (1 : Int32)), (.int (0 : Int32))]))
  refine W.go (fun _ hr => XS.icmpYes X0.here hx rfl (pc0 := 13) (pc' := 23) rfl (hb hby d6_13) rfl (flt (by decide : ¬ ((1 : Int32) < (0 : Int32)))).2.2.2 (by decide) (by decide) hr) ?_
  show W p e below _ (s₁.setTop (mkF m 23 #[.val (.ref r0), .val (.int (0 : Int32)), .val (.int p2), .val (.int p3), .val (.int p4)] []))
  refine W.go (fun _ hr => XS.iloadN X0.here hx rfl (hb hby d6_23) rfl hr) ?_
  show W p e below _ (s₁.setTop (mkF m 24 #[.val (.ref r0), .val (.int (0 : Int32)), .val (.int p2), .val (.int p3), .val (.int p4)] [(.int (0 : Int32))]))
  refine W.go (fun _ hr => XS.iconst X0.here hx rfl (hb hby d6_24) hr) ?_
  show W p e below _ (s₁.setTop (mkF m 25 #[.val (.ref r0), .val (.int (0 : Int32)), .val (.int p2), .val (.int p3), .val (.int p4)] [(.int (2 : Int32)), (.int (0 : Int32))]))
  refine W.go (fun _ hr => XS.icmpYes X0.here hx rfl (pc0 := 25) (pc' := 36) rfl (hb hby d6_25) rfl (flt (by decide : ¬ ((2 : Int32) < (0 : Int32)))).2.2.2 (by decide) (by decide) hr) ?_
  show W p e below _ (s₁.setTop (mkF m 36 #[.val (.ref r0), .val (.int (0 : Int32)), .val (.int p2), .val (.int p3), .val (.int p4)] []))
  exact W.retV X0 hx hlk hret (hb hby d6_36) (by decide) (by decide) e0 ⟨rfl, N0, KC, E_r0, _, V_r0⟩
theorem d7_0 : decode prog_13_method_9_code 0 = .ok (.aload_n 0, 1) := by decide +kernel
theorem d7_1 : decode prog_13_method_9_code 1 = .ok (.getstatic 38, 3) := by decide +kernel
theorem d7_4 : decode prog_13_method_9_code 4 = .ok (.invokevirtual 81, 3) := by decide +kernel
theorem pd_59 : parseMethodDescriptor "(Lcom/example/wireknit/wireknit/Item$Type;)V" = some ⟨[(.object "com/example/wireknit/wireknit/Item$Type")], none⟩ := by decide +kernel
theorem d7_7 : decode prog_13_method_9_code 7 = .ok (.aload_n 0, 1) := by decide +kernel
theorem d7_8 : decode prog_13_method_9_code 8 = .ok (.getfield 13, 3) := by decide +kernel
theorem d7_11 : decode prog_13_method_9_code 11 = .ok (.invokevirtual 43, 3) := by decide +kernel
theorem d7_14 : decode prog_13_method_9_code 14 = .ok (.checkcast 44, 3) := by decide +kernel
theorem d7_17 : decode prog_13_method_9_code 17 = .ok (.areturn, 1) := by decide +kernel
def Q_rm7_0 (Z : State) (r0 : Addr) (k0 : ClassId) (w_DATA : Addr) (d : Addr) (h0 : Heap) (n0 : Nat) (v : Option Value) (h : Heap) (L : List Loc) : Prop := ∃ b : Addr, v = some (.ref b) ∧ Fr n0 L ∧ Keep h0 h [] ∧ h0.size ≤ b ∧ Exa Z h b "[B" ∧ Arv Z h b k0 .byte (0 : Int32) [] (.int (0 : Int32))
set_option maxRecDepth 65536 in
set_option maxHeartbeats 40000000 in
theorem rm7_0 (l : Launch) (Z : State) (a0 : Array Value) (hw : ∀ d ∈ tables_1, d.before a0 Z = true) (r0 : Addr) (k0 : ClassId) (w_DATA : Addr) (d : Addr) (h0 : Heap) (n0 : Nat) (Z0 : n0 ≤ h0.size) (E_r0 : Exa Z h0 r0 "com/example/wireknit/wireknit/Item") (F_type_r0 : Fld Z h0 r0 "com/example/wireknit/wireknit/Item" "type" "Lcom/example/wireknit/wireknit/Item$Type;" (.ref w_DATA)) (F_data_r0 : Fld Z h0 r0 "com/example/wireknit/wireknit/Item" "data" "[B" (.ref d)) (E_d : Exa Z h0 d "[B") (V_d : Arv Z h0 d k0 .byte (0 : Int32) [] (.int (0 : Int32))) (S_DATA : Sta Z h0 "com/example/wireknit/wireknit/Item$Type" "DATA" "Lcom/example/wireknit/wireknit/Item$Type;" (.ref w_DATA)) :
    Ctr l Z (⟨"com/example/wireknit/wireknit/Item", "bytes", "()[B"⟩ : MethodName) prog_13_method_9_code 1 (some (.array .byte)) ({ frames := 1, cells := 1, slots := 0, locals := 14 } : Room) #[(.ref r0)] h0 (Q_rm7_0 Z r0 k0 w_DATA d h0 n0) := by
  refine Ctr.body (fr := fun m => mkF m 0 #[.val (.ref r0)] []) (plainFor_of_name pn_com_example_wireknit_wireknit_Item) (fun m => by first | (simp [entryFrame, mkF, argsToLocals, Value.category]; done) | rfl) fun p e s m below meth c s₁ hx hby hml hZ hown hnm hret hlk X0 e0 => ?_
  have N0 := Fr.nil n0
  have hown : s.vm.findClass "com/example/wireknit/wireknit/Item" = some m.cls := hown
  have KC : Keep h0 h0 [] := Keep.refl _ _
  show W p e below _ (s₁.setTop (mkF m 0 #[.val (.ref r0)] []))
  refine W.go (fun _ hr => XS.aloadN X0.here hx rfl (hb hby d7_0) rfl rfl hr) ?_
  show W p e below _ (s₁.setTop (mkF m 1 #[.val (.ref r0)] [(.ref r0)]))
  obtain ⟨T1, X1, e1, st1⟩ := getS2 X0 hx hZ hown (host := "") (Or.inl (hw _ (List.mem_of_getElem? (i := 7) rfl))) Via.refl e0 S_DATA (g := (mkF m 1 #[.val (.ref r0)] [(.ref r0)])) rfl (hb hby d7_1)
  refine W.go st1 ?_
  show W p e below _ (T1.setTop (mkF m 4 #[.val (.ref r0)] [(.ref w_DATA), (.ref r0)]))
  refine W.callP X1 hx hZ hown (g := (mkF m 4 #[.val (.ref r0)] [(.ref w_DATA), (.ref r0)])) (by rw [hml]; rfl) (hw _ (List.mem_of_getElem? (i := 59) rfl)) (hw _ (List.mem_of_getElem? (i := 61) rfl)) (selPriv hZ (hw _ (List.mem_of_getElem? (i := 6) rfl)) (hw _ (List.mem_of_getElem? (i := 61) rfl)) (hw _ (List.mem_of_getElem? (i := 60) rfl)) (by decide)) (hw _ (List.mem_of_getElem? (i := 60) rfl)) (hw _ (List.mem_of_getElem? (i := 3) rfl)) (hw _ (List.mem_of_getElem? (i := 62) rfl)) e1 (rm8 l Z a0 hw r0 w_DATA h0 n0 Z0 F_type_r0) (by decide) pd_59 rfl E_r0 (argsL := [(.ref w_DATA)]) (rest := []) rfl rfl rfl (hb hby d7_4) (W0 := 0) rfl (by decide) (by decide) (by decide) (by decide) (fun v2 T2 h2 L2 X2 e2 hQ2 => ?_)
  obtain ⟨rfl, N2q, hh2⟩ := hQ2
  obtain rfl := hh2.symm
  have N2 := Fr.app N0 N2q
  show W p e below _ (T2.setTop (mkF m 7 #[.val (.ref r0)] []))
  refine W.go (fun _ hr => XS.aloadN X2.here hx rfl (hb hby d7_7) rfl rfl hr) ?_
  show W p e below _ (T2.setTop (mkF m 8 #[.val (.ref r0)] [(.ref r0)]))
  obtain ⟨T3, X3, e3, st3⟩ := getF X2 hx hZ hown (host := "") (Or.inl (hw _ (List.mem_of_getElem? (i := 36) rfl))) Via.refl e2 F_data_r0 (g := (mkF m 8 #[.val (.ref r0)] [(.ref r0)])) rfl rfl (hb hby d7_8)
  refine W.go st3 ?_
  show W p e below _ (T3.setTop (mkF m 11 #[.val (.ref r0)] [(.ref d)]))
  obtain ⟨T4, h4, X4, e4, E4, V_b4, E_b4, st4⟩ := cloneH X3 hx hZ hown (hw _ (List.mem_of_getElem? (i := 10) rfl)) (hw _ (List.mem_of_getElem? (i := 11) rfl)) (hw _ (List.mem_of_getElem? (i := 15) rfl)) (hw _ (List.mem_of_getElem? (i := 13) rfl)) (hw _ (List.mem_of_getElem? (i := 14) rfl)) (hw _ (List.mem_of_getElem? (i := 16) rfl)) e3 V_d.arh E_d (g := (mkF m 11 #[.val (.ref r0)] [(.ref d)])) rfl (by rw [hml]; rfl) rfl (hb hby d7_11) (by decide) (W := 0) (cap := 0) (by show 2 * 0 + _ ≤ _; exact Nat.le_of_eq rfl) (by decide) (by decide) (by decide) (by decide)
  obtain ⟨b4, g4⟩ : ∃ z, z = h0.size := ⟨_, rfl⟩
  rw [← g4] at V_b4 E_b4 st4
  have ne_r0_b4 : r0 ≠ b4 := Nat.ne_of_lt (Nat.lt_of_lt_of_le E_r0.lt (Nat.le_of_eq g4.symm))
  have ne_d_b4 : d ≠ b4 := Nat.ne_of_lt (Nat.lt_of_lt_of_le E_d.lt (Nat.le_of_eq g4.symm))
  have g_b4 : n0 ≤ b4 := Nat.le_trans Z0 (Nat.le_of_eq g4.symm)
  have sz_b4 : h0.size ≤ b4 := Nat.le_trans KC.1 (Nat.le_of_eq g4.symm)
  replace E_r0 := E_r0.ext E4
  replace F_type_r0 := F_type_r0.ext E4
  replace F_data_r0 := F_data_r0.ext E4
  replace E_d := E_d.ext E4
  replace V_d := V_d.ext E4
  replace S_DATA := Sta.ext E4 S_DATA
  have Z5 : n0 ≤ h4.size := Nat.le_trans Z0 E4.1
  replace KC := KC.ext E4
  replace V_b4 : Arv Z h4 b4 k0 .byte (0 : Int32) [] (.int (0 : Int32)) := V_b4
  refine W.go st4 ?_
  show W p e below _ (T4.setTop (mkF m 14 #[.val (.ref r0)] [(.ref b4)]))
  obtain ⟨T6, X6, e6, st6⟩ := castY X4 hx hZ hown (hw _ (List.mem_of_getElem? (i := 17) rfl)) e4 (Ins.self E_b4) (g := (mkF m 14 #[.val (.ref r0)] [(.ref b4)])) rfl rfl (hb hby d7_14)
  refine W.go st6 ?_
  show W p e below _ (T6.setTop (mkF m 17 #[.val (.ref r0)] [(.ref b4)]))
  exact W.retA X6 hx hlk hret rfl rfl (hb hby d7_17) (by decide) (by decide) e6 ⟨_, rfl, N2, KC, sz_b4, E_b4, V_b4⟩
theorem d9_0 : decode method_2_code 0 = .ok (.aload_n 0, 1) := by decide +kernel
theorem d9_1 : decode method_2_code 1 = .ok (.ifnull 9, 3) := by decide +kernel
theorem d9_4 : decode method_2_code 4 = .ok (.aload_n 0, 1) := by decide +kernel
theorem d9_5 : decode method_2_code 5 = .ok (.arraylength, 1) := by decide +kernel
theorem d9_6 : decode method_2_code 6 = .ok (.iload_n 1, 1) := by decide +kernel
theorem d9_7 : decode method_2_code 7 = .ok (.if_icmp .eq 5, 3) := by decide +kernel
theorem d9_12 : decode method_2_code 12 = .ok (.iload_n 1, 1) := by decide +kernel
theorem d9_13 : decode method_2_code 13 = .ok (.ifCond .le 13, 3) := by decide +kernel
theorem d9_26 : decode method_2_code 26 = .ok (.iload_n 1, 1) := by decide +kernel
theorem d9_27 : decode method_2_code 27 = .ok (.iconst 1, 1) := by decide +kernel
theorem d9_28 : decode method_2_code 28 = .ok (.if_icmp .le 13, 3) := by decide +kernel
theorem d9_41 : decode method_2_code 41 = .ok (.iload_n 1, 1) := by decide +kernel
theorem d9_42 : decode method_2_code 42 = .ok (.iconst 2, 1) := by decide +kernel
theorem d9_43 : decode method_2_code 43 = .ok (.if_icmp .le 14, 3) := by decide +kernel
theorem d9_57 : decode method_2_code 57 = .ok (.iconst 1, 1) := by decide +kernel
theorem d9_58 : decode method_2_code 58 = .ok (.ireturn, 1) := by decide +kernel
def Q_rm9_0 (Z : State) (r0 : Addr) (p2 : Int32) (p3 : Int32) (p4 : Int32) (k0 : ClassId) (h0 : Heap) (n0 : Nat) (v : Option Value) (h : Heap) (L : List Loc) : Prop := v = some (.int (1 : Int32)) ∧ Fr n0 L ∧ h = h0
set_option maxRecDepth 65536 in
set_option maxHeartbeats 40000000 in
theorem rm9_0 (l : Launch) (Z : State) (a0 : Array Value) (hw : ∀ d ∈ tables_1, d.before a0 Z = true) (r0 : Addr) (p2 : Int32) (p3 : Int32) (p4 : Int32) (k0 : ClassId) (h0 : Heap) (n0 : Nat) (Z0 : n0 ≤ h0.size) (V_r0 : Arv Z h0 r0 k0 .byte (0 : Int32) [] (.int (0 : Int32))) :
    Ctr l Z (⟨"com/example/wireknit/wireknit/ItemDataPinLaw", "holds", "([BIIII)Z"⟩ : MethodName) method_2_code 5 (some .boolean) ({ frames := 0, cells := 0, slots := 0, locals := 0 } : Room) #[(.ref r0), (.int (0 : Int32)), (.int p2), (.int p3), (.int p4)] h0 (Q_rm9_0 Z r0 p2 p3 p4 k0 h0 n0) := by
  refine Ctr.body (fr := fun m => mkF m 0 #[.val (.ref r0), .val (.int (0 : Int32)), .val (.int p2), .val (.int p3), .val (.int p4)] []) (plainFor_of_name pn_com_example_wireknit_wireknit_ItemDataPinLaw) (fun m => by first | (simp [entryFrame, mkF, argsToLocals, Value.category]; done) | rfl) fun p e s m below meth c s₁ hx hby hml hZ hown hnm hret hlk X0 e0 => ?_
  have N0 := Fr.nil n0
  have hown : s.vm.findClass "com/example/wireknit/wireknit/ItemDataPinLaw" = some m.cls := hown
  show W p e below _ (s₁.setTop (mkF m 0 #[.val (.ref r0), .val (.int (0 : Int32)), .val (.int p2), .val (.int p3), .val (.int p4)] []))
  refine W.go (fun _ hr => XS.aloadN X0.here hx rfl (hb hby d9_0) rfl rfl hr) ?_
  show W p e below _ (s₁.setTop (mkF m 1 #[.val (.ref r0), .val (.int (0 : Int32)), .val (.int p2), .val (.int p3), .val (.int p4)] [(.ref r0)]))
  refine W.go (fun _ hr => XS.ifnullNo X0.here hx rfl (hb hby d9_1) rfl hr) ?_
  show W p e below _ (s₁.setTop (mkF m 4 #[.val (.ref r0), .val (.int (0 : Int32)), .val (.int p2), .val (.int p3), .val (.int p4)] []))
  refine W.go (fun _ hr => XS.aloadN X0.here hx rfl (hb hby d9_4) rfl rfl hr) ?_
  show W p e below _ (s₁.setTop (mkF m 5 #[.val (.ref r0), .val (.int (0 : Int32)), .val (.int p2), .val (.int p3), .val (.int p4)] [(.ref r0)]))
  obtain ⟨cl1, Ar1, q1, S1, Nn1, H1, G1⟩ := id V_r0
  refine W.go (X0.arraylength hx (by rw [e0]; exact Ar1.1) (State.isArrayOf_alike hZ.alike Ar1.2.1) (g := (mkF m 5 #[.val (.ref r0), .val (.int (0 : Int32)), .val (.int p2), .val (.int p3), .val (.int p4)] [(.ref r0)])) rfl rfl (hb hby d9_5)) ?_
  rw [len_of S1 Nn1]
  show W p e below _ (s₁.setTop (mkF m 6 #[.val (.ref r0), .val (.int (0 : Int32)), .val (.int p2), .val (.int p3), .val (.int p4)] [(.int (0 : Int32))]))
  refine W.go (fun _ hr => XS.iloadN X0.here hx rfl (hb hby d9_6) rfl hr) ?_
  show W p e below _ (s₁.setTop (mkF m 7 #[.val (.ref r0), .val (.int (0 : Int32)), .val (.int p2), .val (.int p3), .val (.int p4)] [(.int (0 : Int32)), (.int (0 : Int32))]))
  refine W.go (fun _ hr => XS.icmpYes X0.here hx rfl (pc0 := 7) (pc' := 12) rfl (hb hby d9_7) rfl (teq (by decide : ((0 : Int32) = (0 : Int32)))).1 (by decide) (by decide) hr) ?_
  show W p e below _ (s₁.setTop (mkF m 12 #[.val (.ref r0), .val (.int (0 : Int32)), .val (.int p2), .val (.int p3), .val (.int p4)] []))
  refine W.go (fun _ hr => XS.iloadN X0.here hx rfl (hb hby d9_12) rfl hr) ?_
  show W p e below _ (s₁.setTop (mkF m 13 #[.val (.ref r0), .val (.int (0 : Int32)), .val (.int p2), .val (.int p3), .val (.int p4)] [(.int (0 : Int32))]))
  refine W.go (fun _ hr => XS.ifYes X0.here hx rfl (pc0 := 13) (pc' := 26) rfl (hb hby d9_13) rfl ((if0 _ _).trans (flt (by decide : ¬ ((0 : Int32) < (0 : Int32)))).2.2.2) (by decide) (by decide) hr) ?_
  show W p e below _ (s₁.setTop (mkF m 26 #[.val (.ref r0), .val (.int (0 : Int32)), .val (.int p2), .val (.int p3), .val (.int p4)] []))
  refine W.go (fun _ hr => XS.iloadN X0.here hx rfl (hb hby d9_26) rfl hr) ?_
  show W p e below _ (s₁.setTop (mkF m 27 #[.val (.ref r0), .val (.int (0 : Int32)), .val (.int p2), .val (.int p3), .val (.int p4)] [(.int (0 : Int32))]))
  refine W.go (fun _ hr => XS.iconst X0.here hx rfl (hb hby d9_27) hr) ?_
  show W p e below _ (s₁.setTop (mkF m 28 #[.val (.ref r0), .val (.int (0 : Int32)), .val (.int p2), .val (.int p3), .val (.int p4)] [(.int (1 : Int32)), (.int (0 : Int32))]))
  refine W.go (fun _ hr => XS.icmpYes X0.here hx rfl (pc0 := 28) (pc' := 41) rfl (hb hby d9_28) rfl (flt (by decide : ¬ ((1 : Int32) < (0 : Int32)))).2.2.2 (by decide) (by decide) hr) ?_
  show W p e below _ (s₁.setTop (mkF m 41 #[.val (.ref r0), .val (.int (0 : Int32)), .val (.int p2), .val (.int p3), .val (.int p4)] []))
  refine W.go (fun _ hr => XS.iloadN X0.here hx rfl (hb hby d9_41) rfl hr) ?_
  show W p e below _ (s₁.setTop (mkF m 42 #[.val (.ref r0), .val (.int (0 : Int32)), .val (.int p2), .val (.int p3), .val (.int p4)] [(.int (0 : Int32))]))
  refine W.go (fun _ hr => XS.iconst X0.here hx rfl (hb hby d9_42) hr) ?_
  show W p e below _ (s₁.setTop (mkF m 43 #[.val (.ref r0), .val (.int (0 : Int32)), .val (.int p2), .val (.int p3), .val (.int p4)] [(.int (2 : Int32)), (.int (0 : Int32))]))
  refine W.go (fun _ hr => XS.icmpYes X0.here hx rfl (pc0 := 43) (pc' := 57) rfl (hb hby d9_43) rfl (flt (by decide : ¬ ((2 : Int32) < (0 : Int32)))).2.2.2 (by decide) (by decide) hr) ?_
  show W p e below _ (s₁.setTop (mkF m 57 #[.val (.ref r0), .val (.int (0 : Int32)), .val (.int p2), .val (.int p3), .val (.int p4)] []))
  refine W.go (fun _ hr => XS.iconst X0.here hx rfl (hb hby d9_57) hr) ?_
  show W p e below _ (s₁.setTop (mkF m 58 #[.val (.ref r0), .val (.int (0 : Int32)), .val (.int p2), .val (.int p3), .val (.int p4)] [(.int (1 : Int32))]))
  exact W.retB X0 hx hlk (t := .boolean) hret (by simp) (hb hby d9_58) (by decide) (by decide) e0 ⟨rfl, N0, rfl⟩
def Q_rm1_1 (Z : State) (r0 : Addr) (z0 : Int32) (k0 : ClassId) (w_DATA : Addr) (w_NO_ITEMS : Addr) (w_NO_TAGS : Addr) (w_NO_POSITIONS : Addr) (h0 : Heap) (n0 : Nat) (v : Option Value) (h : Heap) (L : List Loc) : Prop := ∃ o b : Addr, v = some (.ref o) ∧ Fr n0 L ∧ Keep h0 h [] ∧ h0.size ≤ o ∧ h0.size ≤ b ∧ o ≠ b ∧ Exa Z h o "com/example/wireknit/wireknit/Item" ∧ Exa Z h b "[B" ∧ Fld Z h o "com/example/wireknit/wireknit/Item" "type" "Lcom/example/wireknit/wireknit/Item$Type;" (.ref w_DATA) ∧ Fld Z h o "com/example/wireknit/wireknit/Item" "data" "[B" (.ref b) ∧ Arv Z h b k0 .byte (1 : Int32) [(.int z0)] (.int (0 : Int32))
set_option maxRecDepth 65536 in
set_option maxHeartbeats 40000000 in
theorem rm1_1 (l : Launch) (Z : State) (a0 : Array Value) (hw : ∀ d ∈ tables_1, d.before a0 Z = true) (r0 : Addr) (z0 : Int32) (k0 : ClassId) (w_DATA : Addr) (w_NO_ITEMS : Addr) (w_NO_TAGS : Addr) (w_NO_POSITIONS : Addr) (h0 : Heap) (n0 : Nat) (Z0 : n0 ≤ h0.size) (E_r0 : Exa Z h0 r0 "[B") (V_r0 : Arv Z h0 r0 k0 .byte (1 : Int32) [(.int z0)] (.int (0 : Int32))) (S_DATA : Sta Z h0 "com/example/wireknit/wireknit/Item$Type" "DATA" "Lcom/example/wireknit/wireknit/Item$Type;" (.ref w_DATA)) (S_NO_ITEMS : Sta Z h0 "com/example/wireknit/wireknit/Item" "NO_ITEMS" "[Lcom/example/wireknit/wireknit/Item;" (.ref w_NO_ITEMS)) (S_NO_TAGS : Sta Z h0 "com/example/wireknit/wireknit/Item" "NO_TAGS" "[Lcom/example/wireknit/wireknit/Item$Tag;" (.ref w_NO_TAGS)) (S_NO_POSITIONS : Sta Z h0 "com/example/wireknit/wireknit/Item" "NO_POSITIONS" "[I" (.ref w_NO_POSITIONS)) :
    Ctr l Z (⟨"com/example/wireknit/wireknit/Item", "data", "([B)Lcom/example/wireknit/wireknit/Item;"⟩ : MethodName) prog_13_method_3_code 1 (some (.object "com/example/wireknit/wireknit/Item")) ({ frames := 3, cells := 2, slots := 7, locals := 45 } : Room) #[(.ref r0)] h0 (Q_rm1_1 Z r0 z0 k0 w_DATA w_NO_ITEMS w_NO_TAGS w_NO_POSITIONS h0 n0) := by
  refine Ctr.body (fr := fun m => mkF m 0 #[.val (.ref r0)] []) (plainFor_of_name pn_com_example_wireknit_wireknit_Item) (fun m => by first | (simp [entryFrame, mkF, argsToLocals, Value.category]; done) | rfl) fun p e s m below meth c s₁ hx hby hml hZ hown hnm hret hlk X0 e0 => ?_
  have N0 := Fr.nil n0
  have hown : s.vm.findClass "com/example/wireknit/wireknit/Item" = some m.cls := hown
  have KC : Keep h0 h0 [] := Keep.refl _ _
  show W p e below _ (s₁.setTop (mkF m 0 #[.val (.ref r0)] []))
  obtain ⟨T1, h1, X1, e1, E1, E_b1, D1, U1, st1⟩ := newO X0 hx hZ hown (hw _ (List.mem_of_getElem? (i := 5) rfl)) (hw _ (List.mem_of_getElem? (i := 6) rfl)) (hw _ (List.mem_of_getElem? (i := 3) rfl)) e0 (g := (mkF m 0 #[.val (.ref r0)] [])) rfl (hb hby d1_0) (by decide) (by decide)
  obtain ⟨b1, g1⟩ : ∃ z, z = h0.size := ⟨_, rfl⟩
  rw [← g1] at E_b1 D1 U1 st1
  have ne_r0_b1 : r0 ≠ b1 := Nat.ne_of_lt (Nat.lt_of_lt_of_le E_r0.lt (Nat.le_of_eq g1.symm))
  have g_b1 : n0 ≤ b1 := Nat.le_trans Z0 (Nat.le_of_eq g1.symm)
  have sz_b1 : h0.size ≤ b1 := Nat.le_trans KC.1 (Nat.le_of_eq g1.symm)
  replace E_r0 := E_r0.ext E1
  replace V_r0 := V_r0.ext E1
  replace S_DATA := Sta.ext E1 S_DATA
  replace S_NO_ITEMS := Sta.ext E1 S_NO_ITEMS
  replace S_NO_TAGS := Sta.ext E1 S_NO_TAGS
  replace S_NO_POSITIONS := Sta.ext E1 S_NO_POSITIONS
  have Z2 : n0 ≤ h1.size := Nat.le_trans Z0 E1.1
  replace KC := KC.ext E1
  have F_type_b1 : Fld Z h1 b1 "com/example/wireknit/wireknit/Item" "type" "Lcom/example/wireknit/wireknit/Item$Type;" .null := D1 (Or.inr (hw _ (List.mem_of_getElem? (i := 35) rfl))) (ty := (.object "com/example/wireknit/wireknit/Item$Type")) (by decide)
  have F_data_b1 : Fld Z h1 b1 "com/example/wireknit/wireknit/Item" "data" "[B" .null := D1 (Or.inr (hw _ (List.mem_of_getElem? (i := 37) rfl))) (ty := (.array .byte)) (by decide)
  have F_tags_b1 : Fld Z h1 b1 "com/example/wireknit/wireknit/Item" "tags" "[Lcom/example/wireknit/wireknit/Item$Tag;" .null := D1 (Or.inr (hw _ (List.mem_of_getElem? (i := 39) rfl))) (ty := (.array (.object "com/example/wireknit/wireknit/Item$Tag"))) (by decide)
  have F_items_b1 : Fld Z h1 b1 "com/example/wireknit/wireknit/Item" "items" "[Lcom/example/wireknit/wireknit/Item;" .null := D1 (Or.inr (hw _ (List.mem_of_getElem? (i := 41) rfl))) (ty := (.array (.object "com/example/wireknit/wireknit/Item"))) (by decide)
  have F_byTag_b1 : Fld Z h1 b1 "com/example/wireknit/wireknit/Item" "byTag" "[I" .null := D1 (Or.inr (hw _ (List.mem_of_getElem? (i := 43) rfl))) (ty := (.array .int)) (by decide)
  refine W.go st1 ?_
  show W p e below _ (T1.setTop (mkF m 3 #[.val (.ref r0)] [(.ref b1)]))
  refine W.go (fun _ hr => XS.dup X1.here hx rfl (hb hby d1_3) rfl rfl hr) ?_
  show W p e below _ (T1.setTop (mkF m 4 #[.val (.ref r0)] [(.ref b1), (.ref b1)]))
  obtain ⟨T3, X3, e3, st3⟩ := getS2 X1 hx hZ hown (host := "") (Or.inl (hw _ (List.mem_of_getElem? (i := 7) rfl))) Via.refl e1 S_DATA (g := (mkF m 4 #[.val (.ref r0)] [(.ref b1), (.ref b1)])) rfl (hb hby d1_4)
  refine W.go st3 ?_
  show W p e below _ (T3.setTop (mkF m 7 #[.val (.ref r0)] [(.ref w_DATA), (.ref b1), (.ref b1)]))
  refine W.go (fun _ hr => XS.aloadN X3.here hx rfl (hb hby d1_7) rfl rfl hr) ?_
  show W p e below _ (T3.setTop (mkF m 8 #[.val (.ref r0)] [(.ref r0), (.ref w_DATA), (.ref b1), (.ref b1)]))
  obtain ⟨T4, h4, X4, e4, E4, V_b4, E_b4, st4⟩ := cloneH X3 hx hZ hown (hw _ (List.mem_of_getElem? (i := 10) rfl)) (hw _ (List.mem_of_getElem? (i := 11) rfl)) (hw _ (List.mem_of_getElem? (i := 15) rfl)) (hw _ (List.mem_of_getElem? (i := 13) rfl)) (hw _ (List.mem_of_getElem? (i := 14) rfl)) (hw _ (List.mem_of_getElem? (i := 16) rfl)) e3 V_r0.arh E_r0 (g := (mkF m 8 #[.val (.ref r0)] [(.ref r0), (.ref w_DATA), (.ref b1), (.ref b1)])) rfl (by rw [hml]; rfl) rfl (hb hby d1_8) (by decide) (W := 3) (cap := 1) (by show 2 * 0 + _ ≤ _; exact Nat.le_of_eq rfl) (by decide) (by decide) (by decide) (by decide)
  obtain ⟨b4, g4⟩ : ∃ z, z = h1.size := ⟨_, rfl⟩
  rw [← g4] at V_b4 E_b4 st4
  have ne_r0_b4 : r0 ≠ b4 := Nat.ne_of_lt (Nat.lt_of_lt_of_le E_r0.lt (Nat.le_of_eq g4.symm))
  have ne_b1_b4 : b1 ≠ b4 := Nat.ne_of_lt (Nat.lt_of_lt_of_le E_b1.lt (Nat.le_of_eq g4.symm))
  have g_b4 : n0 ≤ b4 := Nat.le_trans Z2 (Nat.le_of_eq g4.symm)
  have sz_b4 : h0.size ≤ b4 := Nat.le_trans KC.1 (Nat.le_of_eq g4.symm)
  replace E_r0 := E_r0.ext E4
  replace V_r0 := V_r0.ext E4
  replace S_DATA := Sta.ext E4 S_DATA
  replace S_NO_ITEMS := Sta.ext E4 S_NO_ITEMS
  replace S_NO_TAGS := Sta.ext E4 S_NO_TAGS
  replace S_NO_POSITIONS := Sta.ext E4 S_NO_POSITIONS
  replace E_b1 := E_b1.ext E4
  replace F_type_b1 := F_type_b1.ext E4
  replace F_data_b1 := F_data_b1.ext E4
  replace F_tags_b1 := F_tags_b1.ext E4
  replace F_items_b1 := F_items_b1.ext E4
  replace F_byTag_b1 := F_byTag_b1.ext E4
  have Z5 : n0 ≤ h4.size := Nat.le_trans Z2 E4.1
  replace KC := KC.ext E4
  replace V_b4 : Arv Z h4 b4 k0 .byte (1 : Int32) [(.int z0)] (.int (0 : Int32)) := V_b4
  refine W.go st4 ?_
  show W p e below _ (T4.setTop (mkF m 11 #[.val (.ref r0)] [(.ref b4), (.ref w_DATA), (.ref b1), (.ref b1)]))
  obtain ⟨T6, X6, e6, st6⟩ := castY X4 hx hZ hown (hw _ (List.mem_of_getElem? (i := 17) rfl)) e4 (Ins.self E_b4) (g := (mkF m 11 #[.val (.ref r0)] [(.ref b4), (.ref w_DATA), (.ref b1), (.ref b1)])) rfl rfl (hb hby d1_11)
  refine W.go st6 ?_
  show W p e below _ (T6.setTop (mkF m 14 #[.val (.ref r0)] [(.ref b4), (.ref w_DATA), (.ref b1), (.ref b1)]))
  obtain ⟨T7, X7, e7, st7⟩ := getS2 X6 hx hZ hown (host := "") (Or.inl (hw _ (List.mem_of_getElem? (i := 19) rfl))) Via.refl e6 S_NO_ITEMS (g := (mkF m 14 #[.val (.ref r0)] [(.ref b4), (.ref w_DATA), (.ref b1), (.ref b1)])) rfl (hb hby d1_14)
  refine W.go st7 ?_
  show W p e below _ (T7.setTop (mkF m 17 #[.val (.ref r0)] [(.ref w_NO_ITEMS), (.ref b4), (.ref w_DATA), (.ref b1), (.ref b1)]))
  refine W.callI X7 hx hZ hown (g := (mkF m 17 #[.val (.ref r0)] [(.ref w_NO_ITEMS), (.ref b4), (.ref w_DATA), (.ref b1), (.ref b1)])) (by rw [hml]; rfl) (hw _ (List.mem_of_getElem? (i := 21) rfl)) (hw _ (List.mem_of_getElem? (i := 22) rfl)) (hw _ (List.mem_of_getElem? (i := 3) rfl)) (hw _ (List.mem_of_getElem? (i := 23) rfl)) e7 (rm2 l Z a0 hw b1 w_DATA b4 w_NO_ITEMS w_NO_TAGS w_NO_POSITIONS h4 n0 Z5 E_b1 F_type_b1 F_data_b1 F_tags_b1 F_items_b1 F_byTag_b1 g_b1 S_NO_TAGS S_NO_POSITIONS) rfl (by decide) pd_44 rfl (b := b1) (argsL := [(.ref w_DATA), (.ref b4), (.ref w_NO_ITEMS)]) (rest := [(.ref b1)]) rfl rfl rfl (hb hby d1_17) (W0 := 1) rfl (by decide) (by decide) (by decide) (by decide) (fun v8 T8 h8 L8 X8 e8 hQ8 => ?_)
  obtain ⟨rfl, N8q, K8, Ee8, Ft8, Fd8⟩ := hQ8
  have N8 := Fr.app N0 N8q
  have nsK8 := (nsS E_b1.nostat ns0)
  replace E_r0 := E_r0.keep K8
  replace V_r0 := V_r0.keep K8 (ninS ne_r0_b1 nin0)
  replace S_DATA := Sta.keep S_DATA K8 nsK8
  replace S_NO_ITEMS := Sta.keep S_NO_ITEMS K8 nsK8
  replace S_NO_TAGS := Sta.keep S_NO_TAGS K8 nsK8
  replace S_NO_POSITIONS := Sta.keep S_NO_POSITIONS K8 nsK8
  replace E_b1 := E_b1.keep K8
  replace E_b4 := E_b4.keep K8
  replace V_b4 := V_b4.keep K8 (ninS (Ne.symm ne_b1_b4) nin0)
  have Z9 : n0 ≤ h8.size := Nat.le_trans Z5 K8.1
  replace KC := KC.trans K8 (allS (Or.inr sz_b1) all0)
  show W p e below _ (T8.setTop (mkF m 20 #[.val (.ref r0)] [(.ref b1)]))
  exact W.retA X8 hx hlk hret rfl rfl (hb hby d1_20) (by decide) (by decide) e8 ⟨_, _, rfl, N8, KC, sz_b1, sz_b4, ne_b1_b4, E_b1, E_b4, Ft8, Fd8, V_b4⟩
theorem d6_4 : decode method_3_code 4 = .ok (.aload_n 0, 1) := by decide +kernel
theorem d6_5 : decode method_3_code 5 = .ok (.iconst 0, 1) := by decide +kernel
theorem d6_6 : decode method_3_code 6 = .ok (.iload_n 2, 1) := by decide +kernel
theorem d6_7 : decode method_3_code 7 = .ok (.iconst (-1), 1) := by decide +kernel
theorem d6_8 : decode method_3_code 8 = .ok (.ixor, 1) := by decide +kernel
theorem d6_9 : decode method_3_code 9 = .ok (.i2b, 1) := by decide +kernel
theorem d6_10 : decode method_3_code 10 = .ok (.bastore, 1) := by decide +kernel
def Q_rm6_1 (Z : State) (r0 : Addr) (p2 : Int32) (p3 : Int32) (p4 : Int32) (z0 : Int32) (k0 : ClassId) (h0 : Heap) (n0 : Nat) (v : Option Value) (h : Heap) (L : List Loc) : Prop := v = none ∧ Fr n0 L ∧ Keep h0 h [r0] ∧ Exa Z h r0 "[B" ∧ ∃ vs, Arv Z h r0 k0 .byte (1 : Int32) vs (.int (0 : Int32))
set_option maxRecDepth 65536 in
set_option maxHeartbeats 40000000 in
theorem rm6_1 (l : Launch) (Z : State) (a0 : Array Value) (hw : ∀ d ∈ tables_1, d.before a0 Z = true) (r0 : Addr) (p2 : Int32) (p3 : Int32) (p4 : Int32) (z0 : Int32) (k0 : ClassId) (h0 : Heap) (n0 : Nat) (Z0 : n0 ≤ h0.size) (E_r0 : Exa Z h0 r0 "[B") (V_r0 : Arv Z h0 r0 k0 .byte (1 : Int32) [(.int z0)] (.int (0 : Int32))) (g_r0 : n0 ≤ r0) :
    Ctr l Z (⟨"com/example/wireknit/wireknit/ItemDataPinLaw", "scramble", "([BIIII)V"⟩ : MethodName) method_3_code 5 none ({ frames := 0, cells := 0, slots := 0, locals := 0 } : Room) #[(.ref r0), (.int (1 : Int32)), (.int p2), (.int p3), (.int p4)] h0 (Q_rm6_1 Z r0 p2 p3 p4 z0 k0 h0 n0) := by
  refine Ctr.body (fr := fun m => mkF m 0 #[.val (.ref r0), .val (.int (1 : Int32)), .val (.int p2), .val (.int p3), .val (.int p4)] []) (plainFor_of_name pn_com_example_wireknit_wireknit_ItemDataPinLaw) (fun m => by first | (simp [entryFrame, mkF, argsToLocals, Value.category]; done) | rfl) fun p e s m below meth c s₁ hx hby hml hZ hown hnm hret hlk X0 e0 => ?_
  have N0 := Fr.nil n0
  have hown : s.vm.findClass "com/example/wireknit/wireknit/ItemDataPinLaw" = some m.cls := hown
  have KC : Keep h0 h0 [r0] := Keep.refl _ _
  show W p e below _ (s₁.setTop (mkF m 0 #[.val (.ref r0), .val (.int (1 : Int32)), .val (.int p2), .val (.int p3), .val (.int p4)] []))
  refine W.go (fun _ hr => XS.iloadN X0.here hx rfl (hb hby d6_0) rfl hr) ?_
  show W p e below _ (s₁.setTop (mkF m 1 #[.val (.ref r0), .val (.int (1 : Int32)), .val (.int p2), .val (.int p3), .val (.int p4)] [(.int (1 : Int32))]))
  refine W.go (fun _ hr => XS.ifNo X0.here hx rfl (hb hby d6_1) rfl ((if0 _ _).trans (tlt (by decide : ((0 : Int32) < (1 : Int32)))).2.2.2) hr) ?_
  show W p e below _ (s₁.setTop (mkF m 4 #[.val (.ref r0), .val (.int (1 : Int32)), .val (.int p2), .val (.int p3), .val (.int p4)] []))
  refine W.go (fun _ hr => XS.aloadN X0.here hx rfl (hb hby d6_4) rfl rfl hr) ?_
  show W p e below _ (s₁.setTop (mkF m 5 #[.val (.ref r0), .val (.int (1 : Int32)), .val (.int p2), .val (.int p3), .val (.int p4)] [(.ref r0)]))
  refine W.go (fun _ hr => XS.iconst X0.here hx rfl (hb hby d6_5) hr) ?_
  show W p e below _ (s₁.setTop (mkF m 6 #[.val (.ref r0), .val (.int (1 : Int32)), .val (.int p2), .val (.int p3), .val (.int p4)] [(.int (0 : Int32)), (.ref r0)]))
  refine W.go (fun _ hr => XS.iloadN X0.here hx rfl (hb hby d6_6) rfl hr) ?_
  show W p e below _ (s₁.setTop (mkF m 7 #[.val (.ref r0), .val (.int (1 : Int32)), .val (.int p2), .val (.int p3), .val (.int p4)] [(.int p2), (.int (0 : Int32)), (.ref r0)]))
  refine W.go (fun _ hr => XS.iconst X0.here hx rfl (hb hby d6_7) hr) ?_
  show W p e below _ (s₁.setTop (mkF m 8 #[.val (.ref r0), .val (.int (1 : Int32)), .val (.int p2), .val (.int p3), .val (.int p4)] [(.int (-1 : Int32)), (.int p2), (.int (0 : Int32)), (.ref r0)]))
  refine W.go (fun _ hr => XS.ixor X0.here hx rfl (hb hby d6_8) rfl hr) ?_
  show W p e below _ (s₁.setTop (mkF m 9 #[.val (.ref r0), .val (.int (1 : Int32)), .val (.int p2), .val (.int p3), .val (.int p4)] [(.int (p2 ^^^ (-1 : Int32))), (.int (0 : Int32)), (.ref r0)]))
  refine W.go (fun _ hr => XS.i2b X0.here hx rfl (hb hby d6_9) rfl hr) ?_
  show W p e below _ (s₁.setTop (mkF m 10 #[.val (.ref r0), .val (.int (1 : Int32)), .val (.int p2), .val (.int p3), .val (.int p4)] [(.int ((p2 ^^^ (-1 : Int32)).toInt8.toInt32)), (.int (0 : Int32)), (.ref r0)]))
  obtain ⟨cl1, Ar1, q1, S1, Nn1, H1, G1⟩ := V_r0
  have hin1 : ¬ ((0 : Int32) < 0 ∨ cl1.slots.size ≤ ((0 : Int32)).toNatClampNeg) := inb_of S1 ⟨by decide, by decide⟩
  obtain ⟨T1, h1, X1, e1, W1, st1⟩ := stB X0 hx hZ e0 Ar1 (j := (0 : Int32)) hin1 (g := (mkF m 10 #[.val (.ref r0), .val (.int (1 : Int32)), .val (.int p2), .val (.int p3), .val (.int p4)] [(.int ((p2 ^^^ (-1 : Int32)).toInt8.toInt32)), (.int (0 : Int32)), (.ref r0)])) rfl rfl (hb hby d6_10)
  replace V_r0 : Arv Z h1 r0 k0 .byte (1 : Int32) [(.int ((p2 ^^^ (-1 : Int32)).toInt8.toInt32).toInt8.toInt32)] (.int (0 : Int32)) := Arv.set Ar1 q1 S1 Nn1 H1 G1 (fits_nar_byte _) W1 0 rfl (Nat.le_of_ble_eq_true rfl)
  replace E_r0 := E_r0.wr W1
  have Z2 : n0 ≤ h1.size := Nat.le_trans Z0 (Keep.of_wr W1).1
  replace KC := KC.wr W1 (Or.inl (List.mem_of_getElem? (i := 0) rfl))
  refine W.go st1 ?_
  have N1 := Fr.snoc X1 N0 g_r0
  show W p e below _ (T1.setTop (mkF m 11 #[.val (.ref r0), .val (.int (1 : Int32)), .val (.int p2), .val (.int p3), .val (.int p4)] []))
  refine W.go (fun _ hr => XS.iloadN X1.here hx rfl (hb hby d6_11) rfl hr) ?_
  show W p e below _ (T1.setTop (mkF m 12 #[.val (.ref r0), .val (.int (1 : Int32)), .val (.int p2), .val (.int p3), .val (.int p4)] [(.int (1 : Int32))]))
  refine W.go (fun _ hr => XS.iconst X1.here hx rfl (hb hby d6_12) hr) ?_
  show W p e below _ (T1.setTop (mkF m 13 #[.val (.ref r0), .val (.int (1 : Int32)), .val (.int p2), .val (.int p3), .val (.int p4)] [(.int (1 : Int32)), (.int (1 : Int32))]))
  refine W.go (fun _ hr => XS.icmpYes X1.here hx rfl (pc0 := 13) (pc' := 23) rfl (hb hby d6_13) rfl (flt (by decide : ¬ ((1 : Int32) < (1 : Int32)))).2.2.2 (by decide) (by decide) hr) ?_
  show W p e below _ (T1.setTop (mkF m 23 #[.val (.ref r0), .val (.int (1 : Int32)), .val (.int p2), .val (.int p3), .val (.int p4)] []))
  refine W.go (fun _ hr => XS.iloadN X1.here hx rfl (hb hby d6_23) rfl hr) ?_
  show W p e below _ (T1.setTop (mkF m 24 #[.val (.ref r0), .val (.int (1 : Int32)), .val (.int p2), .val (.int p3), .val (.int p4)] [(.int (1 : Int32))]))
  refine W.go (fun _ hr => XS.iconst X1.here hx rfl (hb hby d6_24) hr) ?_
  show W p e below _ (T1.setTop (mkF m 25 #[.val (.ref r0), .val (.int (1 : Int32)), .val (.int p2), .val (.int p3), .val (.int p4)] [(.int (2 : Int32)), (.int (1 : Int32))]))
  refine W.go (fun _ hr => XS.icmpYes X1.here hx rfl (pc0 := 25) (pc' := 36) rfl (hb hby d6_25) rfl (flt (by decide : ¬ ((2 : Int32) < (1 : Int32)))).2.2.2 (by decide) (by decide) hr) ?_
  show W p e below _ (T1.setTop (mkF m 36 #[.val (.ref r0), .val (.int (1 : Int32)), .val (.int p2), .val (.int p3), .val (.int p4)] []))
  exact W.retV X1 hx hlk hret (hb hby d6_36) (by decide) (by decide) e1 ⟨rfl, N1, KC, E_r0, _, V_r0⟩
def Q_rm7_1 (Z : State) (r0 : Addr) (z0 : Int32) (k0 : ClassId) (w_DATA : Addr) (d : Addr) (h0 : Heap) (n0 : Nat) (v : Option Value) (h : Heap) (L : List Loc) : Prop := ∃ b : Addr, v = some (.ref b) ∧ Fr n0 L ∧ Keep h0 h [] ∧ h0.size ≤ b ∧ Exa Z h b "[B" ∧ Arv Z h b k0 .byte (1 : Int32) [(.int z0)] (.int (0 : Int32))
set_option maxRecDepth 65536 in
set_option maxHeartbeats 40000000 in
theorem rm7_1 (l : Launch) (Z : State) (a0 : Array Value) (hw : ∀ d ∈ tables_1, d.before a0 Z = true) (r0 : Addr) (z0 : Int32) (k0 : ClassId) (w_DATA : Addr) (d : Addr) (h0 : Heap) (n0 : Nat) (Z0 : n0 ≤ h0.size) (E_r0 : Exa Z h0 r0 "com/example/wireknit/wireknit/Item") (F_type_r0 : Fld Z h0 r0 "com/example/wireknit/wireknit/Item" "type" "Lcom/example/wireknit/wireknit/Item$Type;" (.ref w_DATA)) (F_data_r0 : Fld Z h0 r0 "com/example/wireknit/wireknit/Item" "data" "[B" (.ref d)) (E_d : Exa Z h0 d "[B") (V_d : Arv Z h0 d k0 .byte (1 : Int32) [(.int z0)] (.int (0 : Int32))) (S_DATA : Sta Z h0 "com/example/wireknit/wireknit/Item$Type" "DATA" "Lcom/example/wireknit/wireknit/Item$Type;" (.ref w_DATA)) :
    Ctr l Z (⟨"com/example/wireknit/wireknit/Item", "bytes", "()[B"⟩ : MethodName) prog_13_method_9_code 1 (some (.array .byte)) ({ frames := 1, cells := 1, slots := 1, locals := 14 } : Room) #[(.ref r0)] h0 (Q_rm7_1 Z r0 z0 k0 w_DATA d h0 n0) := by
  refine Ctr.body (fr := fun m => mkF m 0 #[.val (.ref r0)] []) (plainFor_of_name pn_com_example_wireknit_wireknit_Item) (fun m => by first | (simp [entryFrame, mkF, argsToLocals, Value.category]; done) | rfl) fun p e s m below meth c s₁ hx hby hml hZ hown hnm hret hlk X0 e0 => ?_
  have N0 := Fr.nil n0
  have hown : s.vm.findClass "com/example/wireknit/wireknit/Item" = some m.cls := hown
  have KC : Keep h0 h0 [] := Keep.refl _ _
  show W p e below _ (s₁.setTop (mkF m 0 #[.val (.ref r0)] []))
  refine W.go (fun _ hr => XS.aloadN X0.here hx rfl (hb hby d7_0) rfl rfl hr) ?_
  show W p e below _ (s₁.setTop (mkF m 1 #[.val (.ref r0)] [(.ref r0)]))
  obtain ⟨T1, X1, e1, st1⟩ := getS2 X0 hx hZ hown (host := "") (Or.inl (hw _ (List.mem_of_getElem? (i := 7) rfl))) Via.refl e0 S_DATA (g := (mkF m 1 #[.val (.ref r0)] [(.ref r0)])) rfl (hb hby d7_1)
  refine W.go st1 ?_
  show W p e below _ (T1.setTop (mkF m 4 #[.val (.ref r0)] [(.ref w_DATA), (.ref r0)]))
  refine W.callP X1 hx hZ hown (g := (mkF m 4 #[.val (.ref r0)] [(.ref w_DATA), (.ref r0)])) (by rw [hml]; rfl) (hw _ (List.mem_of_getElem? (i := 59) rfl)) (hw _ (List.mem_of_getElem? (i := 61) rfl)) (selPriv hZ (hw _ (List.mem_of_getElem? (i := 6) rfl)) (hw _ (List.mem_of_getElem? (i := 61) rfl)) (hw _ (List.mem_of_getElem? (i := 60) rfl)) (by decide)) (hw _ (List.mem_of_getElem? (i := 60) rfl)) (hw _ (List.mem_of_getElem? (i := 3) rfl)) (hw _ (List.mem_of_getElem? (i := 62) rfl)) e1 (rm8 l Z a0 hw r0 w_DATA h0 n0 Z0 F_type_r0) (by decide) pd_59 rfl E_r0 (argsL := [(.ref w_DATA)]) (rest := []) rfl rfl rfl (hb hby d7_4) (W0 := 0) rfl (by decide) (by decide) (by decide) (by decide) (fun v2 T2 h2 L2 X2 e2 hQ2 => ?_)
  obtain ⟨rfl, N2q, hh2⟩ := hQ2
  obtain rfl := hh2.symm
  have N2 := Fr.app N0 N2q
  show W p e below _ (T2.setTop (mkF m 7 #[.val (.ref r0)] []))
  refine W.go (fun _ hr => XS.aloadN X2.here hx rfl (hb hby d7_7) rfl rfl hr) ?_
  show W p e below _ (T2.setTop (mkF m 8 #[.val (.ref r0)] [(.ref r0)]))
  obtain ⟨T3, X3, e3, st3⟩ := getF X2 hx hZ hown (host := "") (Or.inl (hw _ (List.mem_of_getElem? (i := 36) rfl))) Via.refl e2 F_data_r0 (g := (mkF m 8 #[.val (.ref r0)] [(.ref r0)])) rfl rfl (hb hby d7_8)
  refine W.go st3 ?_
  show W p e below _ (T3.setTop (mkF m 11 #[.val (.ref r0)] [(.ref d)]))
  obtain ⟨T4, h4, X4, e4, E4, V_b4, E_b4, st4⟩ := cloneH X3 hx hZ hown (hw _ (List.mem_of_getElem? (i := 10) rfl)) (hw _ (List.mem_of_getElem? (i := 11) rfl)) (hw _ (List.mem_of_getElem? (i := 15) rfl)) (hw _ (List.mem_of_getElem? (i := 13) rfl)) (hw _ (List.mem_of_getElem? (i := 14) rfl)) (hw _ (List.mem_of_getElem? (i := 16) rfl)) e3 V_d.arh E_d (g := (mkF m 11 #[.val (.ref r0)] [(.ref d)])) rfl (by rw [hml]; rfl) rfl (hb hby d7_11) (by decide) (W := 0) (cap := 1) (by show 2 * 0 + _ ≤ _; exact Nat.le_of_eq rfl) (by decide) (by decide) (by decide) (by decide)
  obtain ⟨b4, g4⟩ : ∃ z, z = h0.size := ⟨_, rfl⟩
  rw [← g4] at V_b4 E_b4 st4
  have ne_r0_b4 : r0 ≠ b4 := Nat.ne_of_lt (Nat.lt_of_lt_of_le E_r0.lt (Nat.le_of_eq g4.symm))
  have ne_d_b4 : d ≠ b4 := Nat.ne_of_lt (Nat.lt_of_lt_of_le E_d.lt (Nat.le_of_eq g4.symm))
  have g_b4 : n0 ≤ b4 := Nat.le_trans Z0 (Nat.le_of_eq g4.symm)
  have sz_b4 : h0.size ≤ b4 := Nat.le_trans KC.1 (Nat.le_of_eq g4.symm)
  replace E_r0 := E_r0.ext E4
  replace F_type_r0 := F_type_r0.ext E4
  replace F_data_r0 := F_data_r0.ext E4
  replace E_d := E_d.ext E4
  replace V_d := V_d.ext E4
  replace S_DATA := Sta.ext E4 S_DATA
  have Z5 : n0 ≤ h4.size := Nat.le_trans Z0 E4.1
  replace KC := KC.ext E4
  replace V_b4 : Arv Z h4 b4 k0 .byte (1 : Int32) [(.int z0)] (.int (0 : Int32)) := V_b4
  refine W.go st4 ?_
  show W p e below _ (T4.setTop (mkF m 14 #[.val (.ref r0)] [(.ref b4)]))
  obtain ⟨T6, X6, e6, st6⟩ := castY X4 hx hZ hown (hw _ (List.mem_of_getElem? (i := 17) rfl)) e4 (Ins.self E_b4) (g := (mkF m 14 #[.val (.ref r0)] [(.ref b4)])) rfl rfl (hb hby d7_14)
  refine W.go st6 ?_
  show W p e below _ (T6.setTop (mkF m 17 #[.val (.ref r0)] [(.ref b4)]))
  exact W.retA X6 hx hlk hret rfl rfl (hb hby d7_17) (by decide) (by decide) e6 ⟨_, rfl, N2, KC, sz_b4, E_b4, V_b4⟩
theorem d9_16 : decode method_2_code 16 = .ok (.aload_n 0, 1) := by decide +kernel
theorem d9_17 : decode method_2_code 17 = .ok (.iconst 0, 1) := by decide +kernel
theorem d9_18 : decode method_2_code 18 = .ok (.baload, 1) := by decide +kernel
theorem d9_19 : decode method_2_code 19 = .ok (.iload_n 2, 1) := by decide +kernel
theorem d9_20 : decode method_2_code 20 = .ok (.i2b, 1) := by decide +kernel
theorem d9_21 : decode method_2_code 21 = .ok (.if_icmp .eq 5, 3) := by decide +kernel
def Q_rm9_1 (Z : State) (r0 : Addr) (p2 : Int32) (p3 : Int32) (p4 : Int32) (z0 : Int32) (k0 : ClassId) (h0 : Heap) (n0 : Nat) (v : Option Value) (h : Heap) (L : List Loc) : Prop := v = some (.int (1 : Int32)) ∧ Fr n0 L ∧ h = h0
set_option maxRecDepth 65536 in
set_option maxHeartbeats 40000000 in
theorem rm9_1 (l : Launch) (Z : State) (a0 : Array Value) (hw : ∀ d ∈ tables_1, d.before a0 Z = true) (r0 : Addr) (p2 : Int32) (p3 : Int32) (p4 : Int32) (z0 : Int32) (k0 : ClassId) (h0 : Heap) (n0 : Nat) (Z0 : n0 ≤ h0.size) (V_r0 : Arv Z h0 r0 k0 .byte (1 : Int32) [(.int z0)] (.int (0 : Int32))) (hz0 : z0 = (p2.toInt8.toInt32)) :
    Ctr l Z (⟨"com/example/wireknit/wireknit/ItemDataPinLaw", "holds", "([BIIII)Z"⟩ : MethodName) method_2_code 5 (some .boolean) ({ frames := 0, cells := 0, slots := 0, locals := 0 } : Room) #[(.ref r0), (.int (1 : Int32)), (.int p2), (.int p3), (.int p4)] h0 (Q_rm9_1 Z r0 p2 p3 p4 z0 k0 h0 n0) := by
  refine Ctr.body (fr := fun m => mkF m 0 #[.val (.ref r0), .val (.int (1 : Int32)), .val (.int p2), .val (.int p3), .val (.int p4)] []) (plainFor_of_name pn_com_example_wireknit_wireknit_ItemDataPinLaw) (fun m => by first | (simp [entryFrame, mkF, argsToLocals, Value.category]; done) | rfl) fun p e s m below meth c s₁ hx hby hml hZ hown hnm hret hlk X0 e0 => ?_
  have N0 := Fr.nil n0
  have hown : s.vm.findClass "com/example/wireknit/wireknit/ItemDataPinLaw" = some m.cls := hown
  show W p e below _ (s₁.setTop (mkF m 0 #[.val (.ref r0), .val (.int (1 : Int32)), .val (.int p2), .val (.int p3), .val (.int p4)] []))
  refine W.go (fun _ hr => XS.aloadN X0.here hx rfl (hb hby d9_0) rfl rfl hr) ?_
  show W p e below _ (s₁.setTop (mkF m 1 #[.val (.ref r0), .val (.int (1 : Int32)), .val (.int p2), .val (.int p3), .val (.int p4)] [(.ref r0)]))
  refine W.go (fun _ hr => XS.ifnullNo X0.here hx rfl (hb hby d9_1) rfl hr) ?_
  show W p e below _ (s₁.setTop (mkF m 4 #[.val (.ref r0), .val (.int (1 : Int32)), .val (.int p2), .val (.int p3), .val (.int p4)] []))
  refine W.go (fun _ hr => XS.aloadN X0.here hx rfl (hb hby d9_4) rfl rfl hr) ?_
  show W p e below _ (s₁.setTop (mkF m 5 #[.val (.ref r0), .val (.int (1 : Int32)), .val (.int p2), .val (.int p3), .val (.int p4)] [(.ref r0)]))
  obtain ⟨cl1, Ar1, q1, S1, Nn1, H1, G1⟩ := id V_r0
  refine W.go (X0.arraylength hx (by rw [e0]; exact Ar1.1) (State.isArrayOf_alike hZ.alike Ar1.2.1) (g := (mkF m 5 #[.val (.ref r0), .val (.int (1 : Int32)), .val (.int p2), .val (.int p3), .val (.int p4)] [(.ref r0)])) rfl rfl (hb hby d9_5)) ?_
  rw [len_of S1 Nn1]
  show W p e below _ (s₁.setTop (mkF m 6 #[.val (.ref r0), .val (.int (1 : Int32)), .val (.int p2), .val (.int p3), .val (.int p4)] [(.int (1 : Int32))]))
  refine W.go (fun _ hr => XS.iloadN X0.here hx rfl (hb hby d9_6) rfl hr) ?_
  show W p e below _ (s₁.setTop (mkF m 7 #[.val (.ref r0), .val (.int (1 : Int32)), .val (.int p2), .val (.int p3), .val (.int p4)] [(.int (1 : Int32)), (.int (1 : Int32))]))
  refine W.go (fun _ hr => XS.icmpYes X0.here hx rfl (pc0 := 7) (pc' := 12) rfl (hb hby d9_7) rfl (teq (by decide : ((1 : Int32) = (1 : Int32)))).1 (by decide) (by decide) hr) ?_
  show W p e below _ (s₁.setTop (mkF m 12 #[.val (.ref r0), .val (.int (1 : Int32)), .val (.int p2), .val (.int p3), .val (.int p4)] []))
  refine W.go (fun _ hr => XS.iloadN X0.here hx rfl (hb hby d9_12) rfl hr) ?_
  show W p e below _ (s₁.setTop (mkF m 13 #[.val (.ref r0), .val (.int (1 : Int32)), .val (.int p2), .val (.int p3), .val (.int p4)] [(.int (1 : Int32))]))
  refine W.go (fun _ hr => XS.ifNo X0.here hx rfl (hb hby d9_13) rfl ((if0 _ _).trans (tlt (by decide : ((0 : Int32) < (1 : Int32)))).2.2.2) hr) ?_
  show W p e below _ (s₁.setTop (mkF m 16 #[.val (.ref r0), .val (.int (1 : Int32)), .val (.int p2), .val (.int p3), .val (.int p4)] []))
  refine W.go (fun _ hr => XS.aloadN X0.here hx rfl (hb hby d9_16) rfl rfl hr) ?_
  show W p e below _ (s₁.setTop (mkF m 17 #[.val (.ref r0), .val (.int (1 : Int32)), .val (.int p2), .val (.int p3), .val (.int p4)] [(.ref r0)]))
  refine W.go (fun _ hr => XS.iconst X0.here hx rfl (hb hby d9_17) hr) ?_
  show W p e below _ (s₁.setTop (mkF m 18 #[.val (.ref r0), .val (.int (1 : Int32)), .val (.int p2), .val (.int p3), .val (.int p4)] [(.int (0 : Int32)), (.ref r0)]))
  obtain ⟨cl2, Ar2, q2, S2, Nn2, H2, G2⟩ := id V_r0
  have hin2 : ¬ ((0 : Int32) < 0 ∨ cl2.slots.size ≤ ((0 : Int32)).toNatClampNeg) := inb_of S2 ⟨by decide, by decide⟩
  have hat2 : cl2.slots[((0 : Int32)).toNatClampNeg]? = some (.int z0) := H2.at hin2 rfl
  refine W.go (X0.baloadBytes hx (j := (0 : Int32)) (v := (.int z0)) (by rw [e0]; exact Ar2.1) (State.isArrayOf_alike hZ.alike Ar2.2.1) Ar2.2.2 hin2 hat2 (g := (mkF m 18 #[.val (.ref r0), .val (.int (1 : Int32)), .val (.int p2), .val (.int p3), .val (.int p4)] [(.int (0 : Int32)), (.ref r0)])) rfl rfl (hb hby d9_18)) ?_
  show W p e below _ (s₁.setTop (mkF m 19 #[.val (.ref r0), .val (.int (1 : Int32)), .val (.int p2), .val (.int p3), .val (.int p4)] [(.int z0)]))
  refine W.go (fun _ hr => XS.iloadN X0.here hx rfl (hb hby d9_19) rfl hr) ?_
  show W p e below _ (s₁.setTop (mkF m 20 #[.val (.ref r0), .val (.int (1 : Int32)), .val (.int p2), .val (.int p3), .val (.int p4)] [(.int p2), (.int z0)]))
  refine W.go (fun _ hr => XS.i2b X0.here hx rfl (hb hby d9_20) rfl hr) ?_
  show W p e below _ (s₁.setTop (mkF m 21 #[.val (.ref r0), .val (.int (1 : Int32)), .val (.int p2), .val (.int p3), .val (.int p4)] [(.int (p2.toInt8.toInt32)), (.int z0)]))
  refine W.go (fun _ hr => XS.icmpYes X0.here hx rfl (pc0 := 21) (pc' := 26) rfl (hb hby d9_21) rfl (teq (hz0 : (z0 = (p2.toInt8.toInt32)))).1 (by decide) (by decide) hr) ?_
  show W p e below _ (s₁.setTop (mkF m 26 #[.val (.ref r0), .val (.int (1 : Int32)), .val (.int p2), .val (.int p3), .val (.int p4)] []))
  refine W.go (fun _ hr => XS.iloadN X0.here hx rfl (hb hby d9_26) rfl hr) ?_
  show W p e below _ (s₁.setTop (mkF m 27 #[.val (.ref r0), .val (.int (1 : Int32)), .val (.int p2), .val (.int p3), .val (.int p4)] [(.int (1 : Int32))]))
  refine W.go (fun _ hr => XS.iconst X0.here hx rfl (hb hby d9_27) hr) ?_
  show W p e below _ (s₁.setTop (mkF m 28 #[.val (.ref r0), .val (.int (1 : Int32)), .val (.int p2), .val (.int p3), .val (.int p4)] [(.int (1 : Int32)), (.int (1 : Int32))]))
  refine W.go (fun _ hr => XS.icmpYes X0.here hx rfl (pc0 := 28) (pc' := 41) rfl (hb hby d9_28) rfl (flt (by decide : ¬ ((1 : Int32) < (1 : Int32)))).2.2.2 (by decide) (by decide) hr) ?_
  show W p e below _ (s₁.setTop (mkF m 41 #[.val (.ref r0), .val (.int (1 : Int32)), .val (.int p2), .val (.int p3), .val (.int p4)] []))
  refine W.go (fun _ hr => XS.iloadN X0.here hx rfl (hb hby d9_41) rfl hr) ?_
  show W p e below _ (s₁.setTop (mkF m 42 #[.val (.ref r0), .val (.int (1 : Int32)), .val (.int p2), .val (.int p3), .val (.int p4)] [(.int (1 : Int32))]))
  refine W.go (fun _ hr => XS.iconst X0.here hx rfl (hb hby d9_42) hr) ?_
  show W p e below _ (s₁.setTop (mkF m 43 #[.val (.ref r0), .val (.int (1 : Int32)), .val (.int p2), .val (.int p3), .val (.int p4)] [(.int (2 : Int32)), (.int (1 : Int32))]))
  refine W.go (fun _ hr => XS.icmpYes X0.here hx rfl (pc0 := 43) (pc' := 57) rfl (hb hby d9_43) rfl (flt (by decide : ¬ ((2 : Int32) < (1 : Int32)))).2.2.2 (by decide) (by decide) hr) ?_
  show W p e below _ (s₁.setTop (mkF m 57 #[.val (.ref r0), .val (.int (1 : Int32)), .val (.int p2), .val (.int p3), .val (.int p4)] []))
  refine W.go (fun _ hr => XS.iconst X0.here hx rfl (hb hby d9_57) hr) ?_
  show W p e below _ (s₁.setTop (mkF m 58 #[.val (.ref r0), .val (.int (1 : Int32)), .val (.int p2), .val (.int p3), .val (.int p4)] [(.int (1 : Int32))]))
  exact W.retB X0 hx hlk (t := .boolean) hret (by simp) (hb hby d9_58) (by decide) (by decide) e0 ⟨rfl, N0, rfl⟩
def Q_rm1_2 (Z : State) (r0 : Addr) (z0 : Int32) (z1 : Int32) (k0 : ClassId) (w_DATA : Addr) (w_NO_ITEMS : Addr) (w_NO_TAGS : Addr) (w_NO_POSITIONS : Addr) (h0 : Heap) (n0 : Nat) (v : Option Value) (h : Heap) (L : List Loc) : Prop := ∃ o b : Addr, v = some (.ref o) ∧ Fr n0 L ∧ Keep h0 h [] ∧ h0.size ≤ o ∧ h0.size ≤ b ∧ o ≠ b ∧ Exa Z h o "com/example/wireknit/wireknit/Item" ∧ Exa Z h b "[B" ∧ Fld Z h o "com/example/wireknit/wireknit/Item" "type" "Lcom/example/wireknit/wireknit/Item$Type;" (.ref w_DATA) ∧ Fld Z h o "com/example/wireknit/wireknit/Item" "data" "[B" (.ref b) ∧ Arv Z h b k0 .byte (2 : Int32) [(.int z0), (.int z1)] (.int (0 : Int32))
set_option maxRecDepth 65536 in
set_option maxHeartbeats 40000000 in
theorem rm1_2 (l : Launch) (Z : State) (a0 : Array Value) (hw : ∀ d ∈ tables_1, d.before a0 Z = true) (r0 : Addr) (z0 : Int32) (z1 : Int32) (k0 : ClassId) (w_DATA : Addr) (w_NO_ITEMS : Addr) (w_NO_TAGS : Addr) (w_NO_POSITIONS : Addr) (h0 : Heap) (n0 : Nat) (Z0 : n0 ≤ h0.size) (E_r0 : Exa Z h0 r0 "[B") (V_r0 : Arv Z h0 r0 k0 .byte (2 : Int32) [(.int z0), (.int z1)] (.int (0 : Int32))) (S_DATA : Sta Z h0 "com/example/wireknit/wireknit/Item$Type" "DATA" "Lcom/example/wireknit/wireknit/Item$Type;" (.ref w_DATA)) (S_NO_ITEMS : Sta Z h0 "com/example/wireknit/wireknit/Item" "NO_ITEMS" "[Lcom/example/wireknit/wireknit/Item;" (.ref w_NO_ITEMS)) (S_NO_TAGS : Sta Z h0 "com/example/wireknit/wireknit/Item" "NO_TAGS" "[Lcom/example/wireknit/wireknit/Item$Tag;" (.ref w_NO_TAGS)) (S_NO_POSITIONS : Sta Z h0 "com/example/wireknit/wireknit/Item" "NO_POSITIONS" "[I" (.ref w_NO_POSITIONS)) :
    Ctr l Z (⟨"com/example/wireknit/wireknit/Item", "data", "([B)Lcom/example/wireknit/wireknit/Item;"⟩ : MethodName) prog_13_method_3_code 1 (some (.object "com/example/wireknit/wireknit/Item")) ({ frames := 3, cells := 2, slots := 8, locals := 45 } : Room) #[(.ref r0)] h0 (Q_rm1_2 Z r0 z0 z1 k0 w_DATA w_NO_ITEMS w_NO_TAGS w_NO_POSITIONS h0 n0) := by
  refine Ctr.body (fr := fun m => mkF m 0 #[.val (.ref r0)] []) (plainFor_of_name pn_com_example_wireknit_wireknit_Item) (fun m => by first | (simp [entryFrame, mkF, argsToLocals, Value.category]; done) | rfl) fun p e s m below meth c s₁ hx hby hml hZ hown hnm hret hlk X0 e0 => ?_
  have N0 := Fr.nil n0
  have hown : s.vm.findClass "com/example/wireknit/wireknit/Item" = some m.cls := hown
  have KC : Keep h0 h0 [] := Keep.refl _ _
  show W p e below _ (s₁.setTop (mkF m 0 #[.val (.ref r0)] []))
  obtain ⟨T1, h1, X1, e1, E1, E_b1, D1, U1, st1⟩ := newO X0 hx hZ hown (hw _ (List.mem_of_getElem? (i := 5) rfl)) (hw _ (List.mem_of_getElem? (i := 6) rfl)) (hw _ (List.mem_of_getElem? (i := 3) rfl)) e0 (g := (mkF m 0 #[.val (.ref r0)] [])) rfl (hb hby d1_0) (by decide) (by decide)
  obtain ⟨b1, g1⟩ : ∃ z, z = h0.size := ⟨_, rfl⟩
  rw [← g1] at E_b1 D1 U1 st1
  have ne_r0_b1 : r0 ≠ b1 := Nat.ne_of_lt (Nat.lt_of_lt_of_le E_r0.lt (Nat.le_of_eq g1.symm))
  have g_b1 : n0 ≤ b1 := Nat.le_trans Z0 (Nat.le_of_eq g1.symm)
  have sz_b1 : h0.size ≤ b1 := Nat.le_trans KC.1 (Nat.le_of_eq g1.symm)
  replace E_r0 := E_r0.ext E1
  replace V_r0 := V_r0.ext E1
  replace S_DATA := Sta.ext E1 S_DATA
  replace S_NO_ITEMS := Sta.ext E1 S_NO_ITEMS
  replace S_NO_TAGS := Sta.ext E1 S_NO_TAGS
  replace S_NO_POSITIONS := Sta.ext E1 S_NO_POSITIONS
  have Z2 : n0 ≤ h1.size := Nat.le_trans Z0 E1.1
  replace KC := KC.ext E1
  have F_type_b1 : Fld Z h1 b1 "com/example/wireknit/wireknit/Item" "type" "Lcom/example/wireknit/wireknit/Item$Type;" .null := D1 (Or.inr (hw _ (List.mem_of_getElem? (i := 35) rfl))) (ty := (.object "com/example/wireknit/wireknit/Item$Type")) (by decide)
  have F_data_b1 : Fld Z h1 b1 "com/example/wireknit/wireknit/Item" "data" "[B" .null := D1 (Or.inr (hw _ (List.mem_of_getElem? (i := 37) rfl))) (ty := (.array .byte)) (by decide)
  have F_tags_b1 : Fld Z h1 b1 "com/example/wireknit/wireknit/Item" "tags" "[Lcom/example/wireknit/wireknit/Item$Tag;" .null := D1 (Or.inr (hw _ (List.mem_of_getElem? (i := 39) rfl))) (ty := (.array (.object "com/example/wireknit/wireknit/Item$Tag"))) (by decide)
  have F_items_b1 : Fld Z h1 b1 "com/example/wireknit/wireknit/Item" "items" "[Lcom/example/wireknit/wireknit/Item;" .null := D1 (Or.inr (hw _ (List.mem_of_getElem? (i := 41) rfl))) (ty := (.array (.object "com/example/wireknit/wireknit/Item"))) (by decide)
  have F_byTag_b1 : Fld Z h1 b1 "com/example/wireknit/wireknit/Item" "byTag" "[I" .null := D1 (Or.inr (hw _ (List.mem_of_getElem? (i := 43) rfl))) (ty := (.array .int)) (by decide)
  refine W.go st1 ?_
  show W p e below _ (T1.setTop (mkF m 3 #[.val (.ref r0)] [(.ref b1)]))
  refine W.go (fun _ hr => XS.dup X1.here hx rfl (hb hby d1_3) rfl rfl hr) ?_
  show W p e below _ (T1.setTop (mkF m 4 #[.val (.ref r0)] [(.ref b1), (.ref b1)]))
  obtain ⟨T3, X3, e3, st3⟩ := getS2 X1 hx hZ hown (host := "") (Or.inl (hw _ (List.mem_of_getElem? (i := 7) rfl))) Via.refl e1 S_DATA (g := (mkF m 4 #[.val (.ref r0)] [(.ref b1), (.ref b1)])) rfl (hb hby d1_4)
  refine W.go st3 ?_
  show W p e below _ (T3.setTop (mkF m 7 #[.val (.ref r0)] [(.ref w_DATA), (.ref b1), (.ref b1)]))
  refine W.go (fun _ hr => XS.aloadN X3.here hx rfl (hb hby d1_7) rfl rfl hr) ?_
  show W p e below _ (T3.setTop (mkF m 8 #[.val (.ref r0)] [(.ref r0), (.ref w_DATA), (.ref b1), (.ref b1)]))
  obtain ⟨T4, h4, X4, e4, E4, V_b4, E_b4, st4⟩ := cloneH X3 hx hZ hown (hw _ (List.mem_of_getElem? (i := 10) rfl)) (hw _ (List.mem_of_getElem? (i := 11) rfl)) (hw _ (List.mem_of_getElem? (i := 15) rfl)) (hw _ (List.mem_of_getElem? (i := 13) rfl)) (hw _ (List.mem_of_getElem? (i := 14) rfl)) (hw _ (List.mem_of_getElem? (i := 16) rfl)) e3 V_r0.arh E_r0 (g := (mkF m 8 #[.val (.ref r0)] [(.ref r0), (.ref w_DATA), (.ref b1), (.ref b1)])) rfl (by rw [hml]; rfl) rfl (hb hby d1_8) (by decide) (W := 3) (cap := 2) (by show 2 * 0 + _ ≤ _; exact Nat.le_of_eq rfl) (by decide) (by decide) (by decide) (by decide)
  obtain ⟨b4, g4⟩ : ∃ z, z = h1.size := ⟨_, rfl⟩
  rw [← g4] at V_b4 E_b4 st4
  have ne_r0_b4 : r0 ≠ b4 := Nat.ne_of_lt (Nat.lt_of_lt_of_le E_r0.lt (Nat.le_of_eq g4.symm))
  have ne_b1_b4 : b1 ≠ b4 := Nat.ne_of_lt (Nat.lt_of_lt_of_le E_b1.lt (Nat.le_of_eq g4.symm))
  have g_b4 : n0 ≤ b4 := Nat.le_trans Z2 (Nat.le_of_eq g4.symm)
  have sz_b4 : h0.size ≤ b4 := Nat.le_trans KC.1 (Nat.le_of_eq g4.symm)
  replace E_r0 := E_r0.ext E4
  replace V_r0 := V_r0.ext E4
  replace S_DATA := Sta.ext E4 S_DATA
  replace S_NO_ITEMS := Sta.ext E4 S_NO_ITEMS
  replace S_NO_TAGS := Sta.ext E4 S_NO_TAGS
  replace S_NO_POSITIONS := Sta.ext E4 S_NO_POSITIONS
  replace E_b1 := E_b1.ext E4
  replace F_type_b1 := F_type_b1.ext E4
  replace F_data_b1 := F_data_b1.ext E4
  replace F_tags_b1 := F_tags_b1.ext E4
  replace F_items_b1 := F_items_b1.ext E4
  replace F_byTag_b1 := F_byTag_b1.ext E4
  have Z5 : n0 ≤ h4.size := Nat.le_trans Z2 E4.1
  replace KC := KC.ext E4
  replace V_b4 : Arv Z h4 b4 k0 .byte (2 : Int32) [(.int z0), (.int z1)] (.int (0 : Int32)) := V_b4
  refine W.go st4 ?_
  show W p e below _ (T4.setTop (mkF m 11 #[.val (.ref r0)] [(.ref b4), (.ref w_DATA), (.ref b1), (.ref b1)]))
  obtain ⟨T6, X6, e6, st6⟩ := castY X4 hx hZ hown (hw _ (List.mem_of_getElem? (i := 17) rfl)) e4 (Ins.self E_b4) (g := (mkF m 11 #[.val (.ref r0)] [(.ref b4), (.ref w_DATA), (.ref b1), (.ref b1)])) rfl rfl (hb hby d1_11)
  refine W.go st6 ?_
  show W p e below _ (T6.setTop (mkF m 14 #[.val (.ref r0)] [(.ref b4), (.ref w_DATA), (.ref b1), (.ref b1)]))
  obtain ⟨T7, X7, e7, st7⟩ := getS2 X6 hx hZ hown (host := "") (Or.inl (hw _ (List.mem_of_getElem? (i := 19) rfl))) Via.refl e6 S_NO_ITEMS (g := (mkF m 14 #[.val (.ref r0)] [(.ref b4), (.ref w_DATA), (.ref b1), (.ref b1)])) rfl (hb hby d1_14)
  refine W.go st7 ?_
  show W p e below _ (T7.setTop (mkF m 17 #[.val (.ref r0)] [(.ref w_NO_ITEMS), (.ref b4), (.ref w_DATA), (.ref b1), (.ref b1)]))
  refine W.callI X7 hx hZ hown (g := (mkF m 17 #[.val (.ref r0)] [(.ref w_NO_ITEMS), (.ref b4), (.ref w_DATA), (.ref b1), (.ref b1)])) (by rw [hml]; rfl) (hw _ (List.mem_of_getElem? (i := 21) rfl)) (hw _ (List.mem_of_getElem? (i := 22) rfl)) (hw _ (List.mem_of_getElem? (i := 3) rfl)) (hw _ (List.mem_of_getElem? (i := 23) rfl)) e7 (rm2 l Z a0 hw b1 w_DATA b4 w_NO_ITEMS w_NO_TAGS w_NO_POSITIONS h4 n0 Z5 E_b1 F_type_b1 F_data_b1 F_tags_b1 F_items_b1 F_byTag_b1 g_b1 S_NO_TAGS S_NO_POSITIONS) rfl (by decide) pd_44 rfl (b := b1) (argsL := [(.ref w_DATA), (.ref b4), (.ref w_NO_ITEMS)]) (rest := [(.ref b1)]) rfl rfl rfl (hb hby d1_17) (W0 := 1) rfl (by decide) (by decide) (by decide) (by decide) (fun v8 T8 h8 L8 X8 e8 hQ8 => ?_)
  obtain ⟨rfl, N8q, K8, Ee8, Ft8, Fd8⟩ := hQ8
  have N8 := Fr.app N0 N8q
  have nsK8 := (nsS E_b1.nostat ns0)
  replace E_r0 := E_r0.keep K8
  replace V_r0 := V_r0.keep K8 (ninS ne_r0_b1 nin0)
  replace S_DATA := Sta.keep S_DATA K8 nsK8
  replace S_NO_ITEMS := Sta.keep S_NO_ITEMS K8 nsK8
  replace S_NO_TAGS := Sta.keep S_NO_TAGS K8 nsK8
  replace S_NO_POSITIONS := Sta.keep S_NO_POSITIONS K8 nsK8
  replace E_b1 := E_b1.keep K8
  replace E_b4 := E_b4.keep K8
  replace V_b4 := V_b4.keep K8 (ninS (Ne.symm ne_b1_b4) nin0)
  have Z9 : n0 ≤ h8.size := Nat.le_trans Z5 K8.1
  replace KC := KC.trans K8 (allS (Or.inr sz_b1) all0)
  show W p e below _ (T8.setTop (mkF m 20 #[.val (.ref r0)] [(.ref b1)]))
  exact W.retA X8 hx hlk hret rfl rfl (hb hby d1_20) (by decide) (by decide) e8 ⟨_, _, rfl, N8, KC, sz_b1, sz_b4, ne_b1_b4, E_b1, E_b4, Ft8, Fd8, V_b4⟩
theorem d6_16 : decode method_3_code 16 = .ok (.aload_n 0, 1) := by decide +kernel
theorem d6_17 : decode method_3_code 17 = .ok (.iconst 1, 1) := by decide +kernel
theorem d6_18 : decode method_3_code 18 = .ok (.iload_n 3, 1) := by decide +kernel
theorem d6_19 : decode method_3_code 19 = .ok (.iconst (-1), 1) := by decide +kernel
theorem d6_20 : decode method_3_code 20 = .ok (.ixor, 1) := by decide +kernel
theorem d6_21 : decode method_3_code 21 = .ok (.i2b, 1) := by decide +kernel
theorem d6_22 : decode method_3_code 22 = .ok (.bastore, 1) := by decide +kernel
def Q_rm6_2 (Z : State) (r0 : Addr) (p2 : Int32) (p3 : Int32) (p4 : Int32) (z0 : Int32) (z1 : Int32) (k0 : ClassId) (h0 : Heap) (n0 : Nat) (v : Option Value) (h : Heap) (L : List Loc) : Prop := v = none ∧ Fr n0 L ∧ Keep h0 h [r0] ∧ Exa Z h r0 "[B" ∧ ∃ vs, Arv Z h r0 k0 .byte (2 : Int32) vs (.int (0 : Int32))
set_option maxRecDepth 65536 in
set_option maxHeartbeats 40000000 in
theorem rm6_2 (l : Launch) (Z : State) (a0 : Array Value) (hw : ∀ d ∈ tables_1, d.before a0 Z = true) (r0 : Addr) (p2 : Int32) (p3 : Int32) (p4 : Int32) (z0 : Int32) (z1 : Int32) (k0 : ClassId) (h0 : Heap) (n0 : Nat) (Z0 : n0 ≤ h0.size) (E_r0 : Exa Z h0 r0 "[B") (V_r0 : Arv Z h0 r0 k0 .byte (2 : Int32) [(.int z0), (.int z1)] (.int (0 : Int32))) (g_r0 : n0 ≤ r0) :
    Ctr l Z (⟨"com/example/wireknit/wireknit/ItemDataPinLaw", "scramble", "([BIIII)V"⟩ : MethodName) method_3_code 5 none ({ frames := 0, cells := 0, slots := 0, locals := 0 } : Room) #[(.ref r0), (.int (2 : Int32)), (.int p2), (.int p3), (.int p4)] h0 (Q_rm6_2 Z r0 p2 p3 p4 z0 z1 k0 h0 n0) := by
  refine Ctr.body (fr := fun m => mkF m 0 #[.val (.ref r0), .val (.int (2 : Int32)), .val (.int p2), .val (.int p3), .val (.int p4)] []) (plainFor_of_name pn_com_example_wireknit_wireknit_ItemDataPinLaw) (fun m => by first | (simp [entryFrame, mkF, argsToLocals, Value.category]; done) | rfl) fun p e s m below meth c s₁ hx hby hml hZ hown hnm hret hlk X0 e0 => ?_
  have N0 := Fr.nil n0
  have hown : s.vm.findClass "com/example/wireknit/wireknit/ItemDataPinLaw" = some m.cls := hown
  have KC : Keep h0 h0 [r0] := Keep.refl _ _
  show W p e below _ (s₁.setTop (mkF m 0 #[.val (.ref r0), .val (.int (2 : Int32)), .val (.int p2), .val (.int p3), .val (.int p4)] []))
  refine W.go (fun _ hr => XS.iloadN X0.here hx rfl (hb hby d6_0) rfl hr) ?_
  show W p e below _ (s₁.setTop (mkF m 1 #[.val (.ref r0), .val (.int (2 : Int32)), .val (.int p2), .val (.int p3), .val (.int p4)] [(.int (2 : Int32))]))
  refine W.go (fun _ hr => XS.ifNo X0.here hx rfl (hb hby d6_1) rfl ((if0 _ _).trans (tlt (by decide : ((0 : Int32) < (2 : Int32)))).2.2.2) hr) ?_
  show W p e below _ (s₁.setTop (mkF m 4 #[.val (.ref r0), .val (.int (2 : Int32)), .val (.int p2), .val (.int p3), .val (.int p4)] []))
  refine W.go (fun _ hr => XS.aloadN X0.here hx rfl (hb hby d6_4) rfl rfl hr) ?_
  show W p e below _ (s₁.setTop (mkF m 5 #[.val (.ref r0), .val (.int (2 : Int32)), .val (.int p2), .val (.int p3), .val (.int p4)] [(.ref r0)]))
  refine W.go (fun _ hr => XS.iconst X0.here hx rfl (hb hby d6_5) hr) ?_
  show W p e below _ (s₁.setTop (mkF m 6 #[.val (.ref r0), .val (.int (2 : Int32)), .val (.int p2), .val (.int p3), .val (.int p4)] [(.int (0 : Int32)), (.ref r0)]))
  refine W.go (fun _ hr => XS.iloadN X0.here hx rfl (hb hby d6_6) rfl hr) ?_
  show W p e below _ (s₁.setTop (mkF m 7 #[.val (.ref r0), .val (.int (2 : Int32)), .val (.int p2), .val (.int p3), .val (.int p4)] [(.int p2), (.int (0 : Int32)), (.ref r0)]))
  refine W.go (fun _ hr => XS.iconst X0.here hx rfl (hb hby d6_7) hr) ?_
  show W p e below _ (s₁.setTop (mkF m 8 #[.val (.ref r0), .val (.int (2 : Int32)), .val (.int p2), .val (.int p3), .val (.int p4)] [(.int (-1 : Int32)), (.int p2), (.int (0 : Int32)), (.ref r0)]))
  refine W.go (fun _ hr => XS.ixor X0.here hx rfl (hb hby d6_8) rfl hr) ?_
  show W p e below _ (s₁.setTop (mkF m 9 #[.val (.ref r0), .val (.int (2 : Int32)), .val (.int p2), .val (.int p3), .val (.int p4)] [(.int (p2 ^^^ (-1 : Int32))), (.int (0 : Int32)), (.ref r0)]))
  refine W.go (fun _ hr => XS.i2b X0.here hx rfl (hb hby d6_9) rfl hr) ?_
  show W p e below _ (s₁.setTop (mkF m 10 #[.val (.ref r0), .val (.int (2 : Int32)), .val (.int p2), .val (.int p3), .val (.int p4)] [(.int ((p2 ^^^ (-1 : Int32)).toInt8.toInt32)), (.int (0 : Int32)), (.ref r0)]))
  obtain ⟨cl1, Ar1, q1, S1, Nn1, H1, G1⟩ := V_r0
  have hin1 : ¬ ((0 : Int32) < 0 ∨ cl1.slots.size ≤ ((0 : Int32)).toNatClampNeg) := inb_of S1 ⟨by decide, by decide⟩
  obtain ⟨T1, h1, X1, e1, W1, st1⟩ := stB X0 hx hZ e0 Ar1 (j := (0 : Int32)) hin1 (g := (mkF m 10 #[.val (.ref r0), .val (.int (2 : Int32)), .val (.int p2), .val (.int p3), .val (.int p4)] [(.int ((p2 ^^^ (-1 : Int32)).toInt8.toInt32)), (.int (0 : Int32)), (.ref r0)])) rfl rfl (hb hby d6_10)
  replace V_r0 : Arv Z h1 r0 k0 .byte (2 : Int32) [(.int ((p2 ^^^ (-1 : Int32)).toInt8.toInt32).toInt8.toInt32), (.int z1)] (.int (0 : Int32)) := Arv.set Ar1 q1 S1 Nn1 H1 G1 (fits_nar_byte _) W1 0 rfl (Nat.le_of_ble_eq_true rfl)
  replace E_r0 := E_r0.wr W1
  have Z2 : n0 ≤ h1.size := Nat.le_trans Z0 (Keep.of_wr W1).1
  replace KC := KC.wr W1 (Or.inl (List.mem_of_getElem? (i := 0) rfl))
  refine W.go st1 ?_
  have N1 := Fr.snoc X1 N0 g_r0
  show W p e below _ (T1.setTop (mkF m 11 #[.val (.ref r0), .val (.int (2 : Int32)), .val (.int p2), .val (.int p3), .val (.int p4)] []))
  refine W.go (fun _ hr => XS.iloadN X1.here hx rfl (hb hby d6_11) rfl hr) ?_
  show W p e below _ (T1.setTop (mkF m 12 #[.val (.ref r0), .val (.int (2 : Int32)), .val (.int p2), .val (.int p3), .val (.int p4)] [(.int (2 : Int32))]))
  refine W.go (fun _ hr => XS.iconst X1.here hx rfl (hb hby d6_12) hr) ?_
  show W p e below _ (T1.setTop (mkF m 13 #[.val (.ref r0), .val (.int (2 : Int32)), .val (.int p2), .val (.int p3), .val (.int p4)] [(.int (1 : Int32)), (.int (2 : Int32))]))
  refine W.go (fun _ hr => XS.icmpNo X1.here hx rfl (hb hby d6_13) rfl (tlt (by decide : ((1 : Int32) < (2 : Int32)))).2.2.2 hr) ?_
  show W p e below _ (T1.setTop (mkF m 16 #[.val (.ref r0), .val (.int (2 : Int32)), .val (.int p2), .val (.int p3), .val (.int p4)] []))
  refine W.go (fun _ hr => XS.aloadN X1.here hx rfl (hb hby d6_16) rfl rfl hr) ?_
  show W p e below _ (T1.setTop (mkF m 17 #[.val (.ref r0), .val (.int (2 : Int32)), .val (.int p2), .val (.int p3), .val (.int p4)] [(.ref r0)]))
  refine W.go (fun _ hr => XS.iconst X1.here hx rfl (hb hby d6_17) hr) ?_
  show W p e below _ (T1.setTop (mkF m 18 #[.val (.ref r0), .val (.int (2 : Int32)), .val (.int p2), .val (.int p3), .val (.int p4)] [(.int (1 : Int32)), (.ref r0)]))
  refine W.go (fun _ hr => XS.iloadN X1.here hx rfl (hb hby d6_18) rfl hr) ?_
  show W p e below _ (T1.setTop (mkF m 19 #[.val (.ref r0), .val (.int (2 : Int32)), .val (.int p2), .val (.int p3), .val (.int p4)] [(.int p3), (.int (1 : Int32)), (.ref r0)]))
  refine W.go (fun _ hr => XS.iconst X1.here hx rfl (hb hby d6_19) hr) ?_
  show W p e below _ (T1.setTop (mkF m 20 #[.val (.ref r0), .val (.int (2 : Int32)), .val (.int p2), .val (.int p3), .val (.int p4)] [(.int (-1 : Int32)), (.int p3), (.int (1 : Int32)), (.ref r0)]))
  refine W.go (fun _ hr => XS.ixor X1.here hx rfl (hb hby d6_20) rfl hr) ?_
  show W p e below _ (T1.setTop (mkF m 21 #[.val (.ref r0), .val (.int (2 : Int32)), .val (.int p2), .val (.int p3), .val (.int p4)] [(.int (p3 ^^^ (-1 : Int32))), (.int (1 : Int32)), (.ref r0)]))
  refine W.go (fun _ hr => XS.i2b X1.here hx rfl (hb hby d6_21) rfl hr) ?_
  show W p e below _ (T1.setTop (mkF m 22 #[.val (.ref r0), .val (.int (2 : Int32)), .val (.int p2), .val (.int p3), .val (.int p4)] [(.int ((p3 ^^^ (-1 : Int32)).toInt8.toInt32)), (.int (1 : Int32)), (.ref r0)]))
  obtain ⟨cl3, Ar3, q3, S3, Nn3, H3, G3⟩ := V_r0
  have hin3 : ¬ ((1 : Int32) < 0 ∨ cl3.slots.size ≤ ((1 : Int32)).toNatClampNeg) := inb_of S3 ⟨by decide, by decide⟩
  obtain ⟨T3, h3, X3, e3, W3, st3⟩ := stB X1 hx hZ e1 Ar3 (j := (1 : Int32)) hin3 (g := (mkF m 22 #[.val (.ref r0), .val (.int (2 : Int32)), .val (.int p2), .val (.int p3), .val (.int p4)] [(.int ((p3 ^^^ (-1 : Int32)).toInt8.toInt32)), (.int (1 : Int32)), (.ref r0)])) rfl rfl (hb hby d6_22)
  replace V_r0 : Arv Z h3 r0 k0 .byte (2 : Int32) [(.int ((p2 ^^^ (-1 : Int32)).toInt8.toInt32).toInt8.toInt32), (.int ((p3 ^^^ (-1 : Int32)).toInt8.toInt32).toInt8.toInt32)] (.int (0 : Int32)) := Arv.set Ar3 q3 S3 Nn3 H3 G3 (fits_nar_byte _) W3 1 rfl (Nat.le_of_ble_eq_true rfl)
  replace E_r0 := E_r0.wr W3
  have Z4 : n0 ≤ h3.size := Nat.le_trans Z2 (Keep.of_wr W3).1
  replace KC := KC.wr W3 (Or.inl (List.mem_of_getElem? (i := 0) rfl))
  refine W.go st3 ?_
  have N3 := Fr.snoc X3 N1 g_r0
  show W p e below _ (T3.setTop (mkF m 23 #[.val (.ref r0), .val (.int (2 : Int32)), .val (.int p2), .val (.int p3), .val (.int p4)] []))
  refine W.go (fun _ hr => XS.iloadN X3.here hx rfl (hb hby d6_23) rfl hr) ?_
  show W p e below _ (T3.setTop (mkF m 24 #[.val (.ref r0), .val (.int (2 : Int32)), .val (.int p2), .val (.int p3), .val (.int p4)] [(.int (2 : Int32))]))
  refine W.go (fun _ hr => XS.iconst X3.here hx rfl (hb hby d6_24) hr) ?_
  show W p e below _ (T3.setTop (mkF m 25 #[.val (.ref r0), .val (.int (2 : Int32)), .val (.int p2), .val (.int p3), .val (.int p4)] [(.int (2 : Int32)), (.int (2 : Int32))]))
  refine W.go (fun _ hr => XS.icmpYes X3.here hx rfl (pc0 := 25) (pc' := 36) rfl (hb hby d6_25) rfl (flt (by decide : ¬ ((2 : Int32) < (2 : Int32)))).2.2.2 (by decide) (by decide) hr) ?_
  show W p e below _ (T3.setTop (mkF m 36 #[.val (.ref r0), .val (.int (2 : Int32)), .val (.int p2), .val (.int p3), .val (.int p4)] []))
  exact W.retV X3 hx hlk hret (hb hby d6_36) (by decide) (by decide) e3 ⟨rfl, N3, KC, E_r0, _, V_r0⟩
def Q_rm7_2 (Z : State) (r0 : Addr) (z0 : Int32) (z1 : Int32) (k0 : ClassId) (w_DATA : Addr) (d : Addr) (h0 : Heap) (n0 : Nat) (v : Option Value) (h : Heap) (L : List Loc) : Prop := ∃ b : Addr, v = some (.ref b) ∧ Fr n0 L ∧ Keep h0 h [] ∧ h0.size ≤ b ∧ Exa Z h b "[B" ∧ Arv Z h b k0 .byte (2 : Int32) [(.int z0), (.int z1)] (.int (0 : Int32))
set_option maxRecDepth 65536 in
set_option maxHeartbeats 40000000 in
theorem rm7_2 (l : Launch) (Z : State) (a0 : Array Value) (hw : ∀ d ∈ tables_1, d.before a0 Z = true) (r0 : Addr) (z0 : Int32) (z1 : Int32) (k0 : ClassId) (w_DATA : Addr) (d : Addr) (h0 : Heap) (n0 : Nat) (Z0 : n0 ≤ h0.size) (E_r0 : Exa Z h0 r0 "com/example/wireknit/wireknit/Item") (F_type_r0 : Fld Z h0 r0 "com/example/wireknit/wireknit/Item" "type" "Lcom/example/wireknit/wireknit/Item$Type;" (.ref w_DATA)) (F_data_r0 : Fld Z h0 r0 "com/example/wireknit/wireknit/Item" "data" "[B" (.ref d)) (E_d : Exa Z h0 d "[B") (V_d : Arv Z h0 d k0 .byte (2 : Int32) [(.int z0), (.int z1)] (.int (0 : Int32))) (S_DATA : Sta Z h0 "com/example/wireknit/wireknit/Item$Type" "DATA" "Lcom/example/wireknit/wireknit/Item$Type;" (.ref w_DATA)) :
    Ctr l Z (⟨"com/example/wireknit/wireknit/Item", "bytes", "()[B"⟩ : MethodName) prog_13_method_9_code 1 (some (.array .byte)) ({ frames := 1, cells := 1, slots := 2, locals := 14 } : Room) #[(.ref r0)] h0 (Q_rm7_2 Z r0 z0 z1 k0 w_DATA d h0 n0) := by
  refine Ctr.body (fr := fun m => mkF m 0 #[.val (.ref r0)] []) (plainFor_of_name pn_com_example_wireknit_wireknit_Item) (fun m => by first | (simp [entryFrame, mkF, argsToLocals, Value.category]; done) | rfl) fun p e s m below meth c s₁ hx hby hml hZ hown hnm hret hlk X0 e0 => ?_
  have N0 := Fr.nil n0
  have hown : s.vm.findClass "com/example/wireknit/wireknit/Item" = some m.cls := hown
  have KC : Keep h0 h0 [] := Keep.refl _ _
  show W p e below _ (s₁.setTop (mkF m 0 #[.val (.ref r0)] []))
  refine W.go (fun _ hr => XS.aloadN X0.here hx rfl (hb hby d7_0) rfl rfl hr) ?_
  show W p e below _ (s₁.setTop (mkF m 1 #[.val (.ref r0)] [(.ref r0)]))
  obtain ⟨T1, X1, e1, st1⟩ := getS2 X0 hx hZ hown (host := "") (Or.inl (hw _ (List.mem_of_getElem? (i := 7) rfl))) Via.refl e0 S_DATA (g := (mkF m 1 #[.val (.ref r0)] [(.ref r0)])) rfl (hb hby d7_1)
  refine W.go st1 ?_
  show W p e below _ (T1.setTop (mkF m 4 #[.val (.ref r0)] [(.ref w_DATA), (.ref r0)]))
  refine W.callP X1 hx hZ hown (g := (mkF m 4 #[.val (.ref r0)] [(.ref w_DATA), (.ref r0)])) (by rw [hml]; rfl) (hw _ (List.mem_of_getElem? (i := 59) rfl)) (hw _ (List.mem_of_getElem? (i := 61) rfl)) (selPriv hZ (hw _ (List.mem_of_getElem? (i := 6) rfl)) (hw _ (List.mem_of_getElem? (i := 61) rfl)) (hw _ (List.mem_of_getElem? (i := 60) rfl)) (by decide)) (hw _ (List.mem_of_getElem? (i := 60) rfl)) (hw _ (List.mem_of_getElem? (i := 3) rfl)) (hw _ (List.mem_of_getElem? (i := 62) rfl)) e1 (rm8 l Z a0 hw r0 w_DATA h0 n0 Z0 F_type_r0) (by decide) pd_59 rfl E_r0 (argsL := [(.ref w_DATA)]) (rest := []) rfl rfl rfl (hb hby d7_4) (W0 := 0) rfl (by decide) (by decide) (by decide) (by decide) (fun v2 T2 h2 L2 X2 e2 hQ2 => ?_)
  obtain ⟨rfl, N2q, hh2⟩ := hQ2
  obtain rfl := hh2.symm
  have N2 := Fr.app N0 N2q
  show W p e below _ (T2.setTop (mkF m 7 #[.val (.ref r0)] []))
  refine W.go (fun _ hr => XS.aloadN X2.here hx rfl (hb hby d7_7) rfl rfl hr) ?_
  show W p e below _ (T2.setTop (mkF m 8 #[.val (.ref r0)] [(.ref r0)]))
  obtain ⟨T3, X3, e3, st3⟩ := getF X2 hx hZ hown (host := "") (Or.inl (hw _ (List.mem_of_getElem? (i := 36) rfl))) Via.refl e2 F_data_r0 (g := (mkF m 8 #[.val (.ref r0)] [(.ref r0)])) rfl rfl (hb hby d7_8)
  refine W.go st3 ?_
  show W p e below _ (T3.setTop (mkF m 11 #[.val (.ref r0)] [(.ref d)]))
  obtain ⟨T4, h4, X4, e4, E4, V_b4, E_b4, st4⟩ := cloneH X3 hx hZ hown (hw _ (List.mem_of_getElem? (i := 10) rfl)) (hw _ (List.mem_of_getElem? (i := 11) rfl)) (hw _ (List.mem_of_getElem? (i := 15) rfl)) (hw _ (List.mem_of_getElem? (i := 13) rfl)) (hw _ (List.mem_of_getElem? (i := 14) rfl)) (hw _ (List.mem_of_getElem? (i := 16) rfl)) e3 V_d.arh E_d (g := (mkF m 11 #[.val (.ref r0)] [(.ref d)])) rfl (by rw [hml]; rfl) rfl (hb hby d7_11) (by decide) (W := 0) (cap := 2) (by show 2 * 0 + _ ≤ _; exact Nat.le_of_eq rfl) (by decide) (by decide) (by decide) (by decide)
  obtain ⟨b4, g4⟩ : ∃ z, z = h0.size := ⟨_, rfl⟩
  rw [← g4] at V_b4 E_b4 st4
  have ne_r0_b4 : r0 ≠ b4 := Nat.ne_of_lt (Nat.lt_of_lt_of_le E_r0.lt (Nat.le_of_eq g4.symm))
  have ne_d_b4 : d ≠ b4 := Nat.ne_of_lt (Nat.lt_of_lt_of_le E_d.lt (Nat.le_of_eq g4.symm))
  have g_b4 : n0 ≤ b4 := Nat.le_trans Z0 (Nat.le_of_eq g4.symm)
  have sz_b4 : h0.size ≤ b4 := Nat.le_trans KC.1 (Nat.le_of_eq g4.symm)
  replace E_r0 := E_r0.ext E4
  replace F_type_r0 := F_type_r0.ext E4
  replace F_data_r0 := F_data_r0.ext E4
  replace E_d := E_d.ext E4
  replace V_d := V_d.ext E4
  replace S_DATA := Sta.ext E4 S_DATA
  have Z5 : n0 ≤ h4.size := Nat.le_trans Z0 E4.1
  replace KC := KC.ext E4
  replace V_b4 : Arv Z h4 b4 k0 .byte (2 : Int32) [(.int z0), (.int z1)] (.int (0 : Int32)) := V_b4
  refine W.go st4 ?_
  show W p e below _ (T4.setTop (mkF m 14 #[.val (.ref r0)] [(.ref b4)]))
  obtain ⟨T6, X6, e6, st6⟩ := castY X4 hx hZ hown (hw _ (List.mem_of_getElem? (i := 17) rfl)) e4 (Ins.self E_b4) (g := (mkF m 14 #[.val (.ref r0)] [(.ref b4)])) rfl rfl (hb hby d7_14)
  refine W.go st6 ?_
  show W p e below _ (T6.setTop (mkF m 17 #[.val (.ref r0)] [(.ref b4)]))
  exact W.retA X6 hx hlk hret rfl rfl (hb hby d7_17) (by decide) (by decide) e6 ⟨_, rfl, N2, KC, sz_b4, E_b4, V_b4⟩
theorem d9_31 : decode method_2_code 31 = .ok (.aload_n 0, 1) := by decide +kernel
theorem d9_32 : decode method_2_code 32 = .ok (.iconst 1, 1) := by decide +kernel
theorem d9_33 : decode method_2_code 33 = .ok (.baload, 1) := by decide +kernel
theorem d9_34 : decode method_2_code 34 = .ok (.iload_n 3, 1) := by decide +kernel
theorem d9_35 : decode method_2_code 35 = .ok (.i2b, 1) := by decide +kernel
theorem d9_36 : decode method_2_code 36 = .ok (.if_icmp .eq 5, 3) := by decide +kernel
def Q_rm9_2 (Z : State) (r0 : Addr) (p2 : Int32) (p3 : Int32) (p4 : Int32) (z0 : Int32) (z1 : Int32) (k0 : ClassId) (h0 : Heap) (n0 : Nat) (v : Option Value) (h : Heap) (L : List Loc) : Prop := v = some (.int (1 : Int32)) ∧ Fr n0 L ∧ h = h0
set_option maxRecDepth 65536 in
set_option maxHeartbeats 40000000 in
theorem rm9_2 (l : Launch) (Z : State) (a0 : Array Value) (hw : ∀ d ∈ tables_1, d.before a0 Z = true) (r0 : Addr) (p2 : Int32) (p3 : Int32) (p4 : Int32) (z0 : Int32) (z1 : Int32) (k0 : ClassId) (h0 : Heap) (n0 : Nat) (Z0 : n0 ≤ h0.size) (V_r0 : Arv Z h0 r0 k0 .byte (2 : Int32) [(.int z0), (.int z1)] (.int (0 : Int32))) (hz0 : z0 = (p2.toInt8.toInt32)) (hz1 : z1 = (p3.toInt8.toInt32)) :
    Ctr l Z (⟨"com/example/wireknit/wireknit/ItemDataPinLaw", "holds", "([BIIII)Z"⟩ : MethodName) method_2_code 5 (some .boolean) ({ frames := 0, cells := 0, slots := 0, locals := 0 } : Room) #[(.ref r0), (.int (2 : Int32)), (.int p2), (.int p3), (.int p4)] h0 (Q_rm9_2 Z r0 p2 p3 p4 z0 z1 k0 h0 n0) := by
  refine Ctr.body (fr := fun m => mkF m 0 #[.val (.ref r0), .val (.int (2 : Int32)), .val (.int p2), .val (.int p3), .val (.int p4)] []) (plainFor_of_name pn_com_example_wireknit_wireknit_ItemDataPinLaw) (fun m => by first | (simp [entryFrame, mkF, argsToLocals, Value.category]; done) | rfl) fun p e s m below meth c s₁ hx hby hml hZ hown hnm hret hlk X0 e0 => ?_
  have N0 := Fr.nil n0
  have hown : s.vm.findClass "com/example/wireknit/wireknit/ItemDataPinLaw" = some m.cls := hown
  show W p e below _ (s₁.setTop (mkF m 0 #[.val (.ref r0), .val (.int (2 : Int32)), .val (.int p2), .val (.int p3), .val (.int p4)] []))
  refine W.go (fun _ hr => XS.aloadN X0.here hx rfl (hb hby d9_0) rfl rfl hr) ?_
  show W p e below _ (s₁.setTop (mkF m 1 #[.val (.ref r0), .val (.int (2 : Int32)), .val (.int p2), .val (.int p3), .val (.int p4)] [(.ref r0)]))
  refine W.go (fun _ hr => XS.ifnullNo X0.here hx rfl (hb hby d9_1) rfl hr) ?_
  show W p e below _ (s₁.setTop (mkF m 4 #[.val (.ref r0), .val (.int (2 : Int32)), .val (.int p2), .val (.int p3), .val (.int p4)] []))
  refine W.go (fun _ hr => XS.aloadN X0.here hx rfl (hb hby d9_4) rfl rfl hr) ?_
  show W p e below _ (s₁.setTop (mkF m 5 #[.val (.ref r0), .val (.int (2 : Int32)), .val (.int p2), .val (.int p3), .val (.int p4)] [(.ref r0)]))
  obtain ⟨cl1, Ar1, q1, S1, Nn1, H1, G1⟩ := id V_r0
  refine W.go (X0.arraylength hx (by rw [e0]; exact Ar1.1) (State.isArrayOf_alike hZ.alike Ar1.2.1) (g := (mkF m 5 #[.val (.ref r0), .val (.int (2 : Int32)), .val (.int p2), .val (.int p3), .val (.int p4)] [(.ref r0)])) rfl rfl (hb hby d9_5)) ?_
  rw [len_of S1 Nn1]
  show W p e below _ (s₁.setTop (mkF m 6 #[.val (.ref r0), .val (.int (2 : Int32)), .val (.int p2), .val (.int p3), .val (.int p4)] [(.int (2 : Int32))]))
  refine W.go (fun _ hr => XS.iloadN X0.here hx rfl (hb hby d9_6) rfl hr) ?_
  show W p e below _ (s₁.setTop (mkF m 7 #[.val (.ref r0), .val (.int (2 : Int32)), .val (.int p2), .val (.int p3), .val (.int p4)] [(.int (2 : Int32)), (.int (2 : Int32))]))
  refine W.go (fun _ hr => XS.icmpYes X0.here hx rfl (pc0 := 7) (pc' := 12) rfl (hb hby d9_7) rfl (teq (by decide : ((2 : Int32) = (2 : Int32)))).1 (by decide) (by decide) hr) ?_
  show W p e below _ (s₁.setTop (mkF m 12 #[.val (.ref r0), .val (.int (2 : Int32)), .val (.int p2), .val (.int p3), .val (.int p4)] []))
  refine W.go (fun _ hr => XS.iloadN X0.here hx rfl (hb hby d9_12) rfl hr) ?_
  show W p e below _ (s₁.setTop (mkF m 13 #[.val (.ref r0), .val (.int (2 : Int32)), .val (.int p2), .val (.int p3), .val (.int p4)] [(.int (2 : Int32))]))
  refine W.go (fun _ hr => XS.ifNo X0.here hx rfl (hb hby d9_13) rfl ((if0 _ _).trans (tlt (by decide : ((0 : Int32) < (2 : Int32)))).2.2.2) hr) ?_
  show W p e below _ (s₁.setTop (mkF m 16 #[.val (.ref r0), .val (.int (2 : Int32)), .val (.int p2), .val (.int p3), .val (.int p4)] []))
  refine W.go (fun _ hr => XS.aloadN X0.here hx rfl (hb hby d9_16) rfl rfl hr) ?_
  show W p e below _ (s₁.setTop (mkF m 17 #[.val (.ref r0), .val (.int (2 : Int32)), .val (.int p2), .val (.int p3), .val (.int p4)] [(.ref r0)]))
  refine W.go (fun _ hr => XS.iconst X0.here hx rfl (hb hby d9_17) hr) ?_
  show W p e below _ (s₁.setTop (mkF m 18 #[.val (.ref r0), .val (.int (2 : Int32)), .val (.int p2), .val (.int p3), .val (.int p4)] [(.int (0 : Int32)), (.ref r0)]))
  obtain ⟨cl2, Ar2, q2, S2, Nn2, H2, G2⟩ := id V_r0
  have hin2 : ¬ ((0 : Int32) < 0 ∨ cl2.slots.size ≤ ((0 : Int32)).toNatClampNeg) := inb_of S2 ⟨by decide, by decide⟩
  have hat2 : cl2.slots[((0 : Int32)).toNatClampNeg]? = some (.int z0) := H2.at hin2 rfl
  refine W.go (X0.baloadBytes hx (j := (0 : Int32)) (v := (.int z0)) (by rw [e0]; exact Ar2.1) (State.isArrayOf_alike hZ.alike Ar2.2.1) Ar2.2.2 hin2 hat2 (g := (mkF m 18 #[.val (.ref r0), .val (.int (2 : Int32)), .val (.int p2), .val (.int p3), .val (.int p4)] [(.int (0 : Int32)), (.ref r0)])) rfl rfl (hb hby d9_18)) ?_
  show W p e below _ (s₁.setTop (mkF m 19 #[.val (.ref r0), .val (.int (2 : Int32)), .val (.int p2), .val (.int p3), .val (.int p4)] [(.int z0)]))
  refine W.go (fun _ hr => XS.iloadN X0.here hx rfl (hb hby d9_19) rfl hr) ?_
  show W p e below _ (s₁.setTop (mkF m 20 #[.val (.ref r0), .val (.int (2 : Int32)), .val (.int p2), .val (.int p3), .val (.int p4)] [(.int p2), (.int z0)]))
  refine W.go (fun _ hr => XS.i2b X0.here hx rfl (hb hby d9_20) rfl hr) ?_
  show W p e below _ (s₁.setTop (mkF m 21 #[.val (.ref r0), .val (.int (2 : Int32)), .val (.int p2), .val (.int p3), .val (.int p4)] [(.int (p2.toInt8.toInt32)), (.int z0)]))
  refine W.go (fun _ hr => XS.icmpYes X0.here hx rfl (pc0 := 21) (pc' := 26) rfl (hb hby d9_21) rfl (teq (hz0 : (z0 = (p2.toInt8.toInt32)))).1 (by decide) (by decide) hr) ?_
  show W p e below _ (s₁.setTop (mkF m 26 #[.val (.ref r0), .val (.int (2 : Int32)), .val (.int p2), .val (.int p3), .val (.int p4)] []))
  refine W.go (fun _ hr => XS.iloadN X0.here hx rfl (hb hby d9_26) rfl hr) ?_
  show W p e below _ (s₁.setTop (mkF m 27 #[.val (.ref r0), .val (.int (2 : Int32)), .val (.int p2), .val (.int p3), .val (.int p4)] [(.int (2 : Int32))]))
  refine W.go (fun _ hr => XS.iconst X0.here hx rfl (hb hby d9_27) hr) ?_
  show W p e below _ (s₁.setTop (mkF m 28 #[.val (.ref r0), .val (.int (2 : Int32)), .val (.int p2), .val (.int p3), .val (.int p4)] [(.int (1 : Int32)), (.int (2 : Int32))]))
  refine W.go (fun _ hr => XS.icmpNo X0.here hx rfl (hb hby d9_28) rfl (tlt (by decide : ((1 : Int32) < (2 : Int32)))).2.2.2 hr) ?_
  show W p e below _ (s₁.setTop (mkF m 31 #[.val (.ref r0), .val (.int (2 : Int32)), .val (.int p2), .val (.int p3), .val (.int p4)] []))
  refine W.go (fun _ hr => XS.aloadN X0.here hx rfl (hb hby d9_31) rfl rfl hr) ?_
  show W p e below _ (s₁.setTop (mkF m 32 #[.val (.ref r0), .val (.int (2 : Int32)), .val (.int p2), .val (.int p3), .val (.int p4)] [(.ref r0)]))
  refine W.go (fun _ hr => XS.iconst X0.here hx rfl (hb hby d9_32) hr) ?_
  show W p e below _ (s₁.setTop (mkF m 33 #[.val (.ref r0), .val (.int (2 : Int32)), .val (.int p2), .val (.int p3), .val (.int p4)] [(.int (1 : Int32)), (.ref r0)]))
  obtain ⟨cl3, Ar3, q3, S3, Nn3, H3, G3⟩ := id V_r0
  have hin3 : ¬ ((1 : Int32) < 0 ∨ cl3.slots.size ≤ ((1 : Int32)).toNatClampNeg) := inb_of S3 ⟨by decide, by decide⟩
  have hat3 : cl3.slots[((1 : Int32)).toNatClampNeg]? = some (.int z1) := H3.at hin3 rfl
  refine W.go (X0.baloadBytes hx (j := (1 : Int32)) (v := (.int z1)) (by rw [e0]; exact Ar3.1) (State.isArrayOf_alike hZ.alike Ar3.2.1) Ar3.2.2 hin3 hat3 (g := (mkF m 33 #[.val (.ref r0), .val (.int (2 : Int32)), .val (.int p2), .val (.int p3), .val (.int p4)] [(.int (1 : Int32)), (.ref r0)])) rfl rfl (hb hby d9_33)) ?_
  show W p e below _ (s₁.setTop (mkF m 34 #[.val (.ref r0), .val (.int (2 : Int32)), .val (.int p2), .val (.int p3), .val (.int p4)] [(.int z1)]))
  refine W.go (fun _ hr => XS.iloadN X0.here hx rfl (hb hby d9_34) rfl hr) ?_
  show W p e below _ (s₁.setTop (mkF m 35 #[.val (.ref r0), .val (.int (2 : Int32)), .val (.int p2), .val (.int p3), .val (.int p4)] [(.int p3), (.int z1)]))
  refine W.go (fun _ hr => XS.i2b X0.here hx rfl (hb hby d9_35) rfl hr) ?_
  show W p e below _ (s₁.setTop (mkF m 36 #[.val (.ref r0), .val (.int (2 : Int32)), .val (.int p2), .val (.int p3), .val (.int p4)] [(.int (p3.toInt8.toInt32)), (.int z1)]))
  refine W.go (fun _ hr => XS.icmpYes X0.here hx rfl (pc0 := 36) (pc' := 41) rfl (hb hby d9_36) rfl (teq (hz1 : (z1 = (p3.toInt8.toInt32)))).1 (by decide) (by decide) hr) ?_
  show W p e below _ (s₁.setTop (mkF m 41 #[.val (.ref r0), .val (.int (2 : Int32)), .val (.int p2), .val (.int p3), .val (.int p4)] []))
  refine W.go (fun _ hr => XS.iloadN X0.here hx rfl (hb hby d9_41) rfl hr) ?_
  show W p e below _ (s₁.setTop (mkF m 42 #[.val (.ref r0), .val (.int (2 : Int32)), .val (.int p2), .val (.int p3), .val (.int p4)] [(.int (2 : Int32))]))
  refine W.go (fun _ hr => XS.iconst X0.here hx rfl (hb hby d9_42) hr) ?_
  show W p e below _ (s₁.setTop (mkF m 43 #[.val (.ref r0), .val (.int (2 : Int32)), .val (.int p2), .val (.int p3), .val (.int p4)] [(.int (2 : Int32)), (.int (2 : Int32))]))
  refine W.go (fun _ hr => XS.icmpYes X0.here hx rfl (pc0 := 43) (pc' := 57) rfl (hb hby d9_43) rfl (flt (by decide : ¬ ((2 : Int32) < (2 : Int32)))).2.2.2 (by decide) (by decide) hr) ?_
  show W p e below _ (s₁.setTop (mkF m 57 #[.val (.ref r0), .val (.int (2 : Int32)), .val (.int p2), .val (.int p3), .val (.int p4)] []))
  refine W.go (fun _ hr => XS.iconst X0.here hx rfl (hb hby d9_57) hr) ?_
  show W p e below _ (s₁.setTop (mkF m 58 #[.val (.ref r0), .val (.int (2 : Int32)), .val (.int p2), .val (.int p3), .val (.int p4)] [(.int (1 : Int32))]))
  exact W.retB X0 hx hlk (t := .boolean) hret (by simp) (hb hby d9_58) (by decide) (by decide) e0 ⟨rfl, N0, rfl⟩
def Q_rm1_3 (Z : State) (r0 : Addr) (z0 : Int32) (z1 : Int32) (z2 : Int32) (k0 : ClassId) (w_DATA : Addr) (w_NO_ITEMS : Addr) (w_NO_TAGS : Addr) (w_NO_POSITIONS : Addr) (h0 : Heap) (n0 : Nat) (v : Option Value) (h : Heap) (L : List Loc) : Prop := ∃ o b : Addr, v = some (.ref o) ∧ Fr n0 L ∧ Keep h0 h [] ∧ h0.size ≤ o ∧ h0.size ≤ b ∧ o ≠ b ∧ Exa Z h o "com/example/wireknit/wireknit/Item" ∧ Exa Z h b "[B" ∧ Fld Z h o "com/example/wireknit/wireknit/Item" "type" "Lcom/example/wireknit/wireknit/Item$Type;" (.ref w_DATA) ∧ Fld Z h o "com/example/wireknit/wireknit/Item" "data" "[B" (.ref b) ∧ Arv Z h b k0 .byte (3 : Int32) [(.int z0), (.int z1), (.int z2)] (.int (0 : Int32))
set_option maxRecDepth 65536 in
set_option maxHeartbeats 40000000 in
theorem rm1_3 (l : Launch) (Z : State) (a0 : Array Value) (hw : ∀ d ∈ tables_1, d.before a0 Z = true) (r0 : Addr) (z0 : Int32) (z1 : Int32) (z2 : Int32) (k0 : ClassId) (w_DATA : Addr) (w_NO_ITEMS : Addr) (w_NO_TAGS : Addr) (w_NO_POSITIONS : Addr) (h0 : Heap) (n0 : Nat) (Z0 : n0 ≤ h0.size) (E_r0 : Exa Z h0 r0 "[B") (V_r0 : Arv Z h0 r0 k0 .byte (3 : Int32) [(.int z0), (.int z1), (.int z2)] (.int (0 : Int32))) (S_DATA : Sta Z h0 "com/example/wireknit/wireknit/Item$Type" "DATA" "Lcom/example/wireknit/wireknit/Item$Type;" (.ref w_DATA)) (S_NO_ITEMS : Sta Z h0 "com/example/wireknit/wireknit/Item" "NO_ITEMS" "[Lcom/example/wireknit/wireknit/Item;" (.ref w_NO_ITEMS)) (S_NO_TAGS : Sta Z h0 "com/example/wireknit/wireknit/Item" "NO_TAGS" "[Lcom/example/wireknit/wireknit/Item$Tag;" (.ref w_NO_TAGS)) (S_NO_POSITIONS : Sta Z h0 "com/example/wireknit/wireknit/Item" "NO_POSITIONS" "[I" (.ref w_NO_POSITIONS)) :
    Ctr l Z (⟨"com/example/wireknit/wireknit/Item", "data", "([B)Lcom/example/wireknit/wireknit/Item;"⟩ : MethodName) prog_13_method_3_code 1 (some (.object "com/example/wireknit/wireknit/Item")) ({ frames := 3, cells := 2, slots := 9, locals := 45 } : Room) #[(.ref r0)] h0 (Q_rm1_3 Z r0 z0 z1 z2 k0 w_DATA w_NO_ITEMS w_NO_TAGS w_NO_POSITIONS h0 n0) := by
  refine Ctr.body (fr := fun m => mkF m 0 #[.val (.ref r0)] []) (plainFor_of_name pn_com_example_wireknit_wireknit_Item) (fun m => by first | (simp [entryFrame, mkF, argsToLocals, Value.category]; done) | rfl) fun p e s m below meth c s₁ hx hby hml hZ hown hnm hret hlk X0 e0 => ?_
  have N0 := Fr.nil n0
  have hown : s.vm.findClass "com/example/wireknit/wireknit/Item" = some m.cls := hown
  have KC : Keep h0 h0 [] := Keep.refl _ _
  show W p e below _ (s₁.setTop (mkF m 0 #[.val (.ref r0)] []))
  obtain ⟨T1, h1, X1, e1, E1, E_b1, D1, U1, st1⟩ := newO X0 hx hZ hown (hw _ (List.mem_of_getElem? (i := 5) rfl)) (hw _ (List.mem_of_getElem? (i := 6) rfl)) (hw _ (List.mem_of_getElem? (i := 3) rfl)) e0 (g := (mkF m 0 #[.val (.ref r0)] [])) rfl (hb hby d1_0) (by decide) (by decide)
  obtain ⟨b1, g1⟩ : ∃ z, z = h0.size := ⟨_, rfl⟩
  rw [← g1] at E_b1 D1 U1 st1
  have ne_r0_b1 : r0 ≠ b1 := Nat.ne_of_lt (Nat.lt_of_lt_of_le E_r0.lt (Nat.le_of_eq g1.symm))
  have g_b1 : n0 ≤ b1 := Nat.le_trans Z0 (Nat.le_of_eq g1.symm)
  have sz_b1 : h0.size ≤ b1 := Nat.le_trans KC.1 (Nat.le_of_eq g1.symm)
  replace E_r0 := E_r0.ext E1
  replace V_r0 := V_r0.ext E1
  replace S_DATA := Sta.ext E1 S_DATA
  replace S_NO_ITEMS := Sta.ext E1 S_NO_ITEMS
  replace S_NO_TAGS := Sta.ext E1 S_NO_TAGS
  replace S_NO_POSITIONS := Sta.ext E1 S_NO_POSITIONS
  have Z2 : n0 ≤ h1.size := Nat.le_trans Z0 E1.1
  replace KC := KC.ext E1
  have F_type_b1 : Fld Z h1 b1 "com/example/wireknit/wireknit/Item" "type" "Lcom/example/wireknit/wireknit/Item$Type;" .null := D1 (Or.inr (hw _ (List.mem_of_getElem? (i := 35) rfl))) (ty := (.object "com/example/wireknit/wireknit/Item$Type")) (by decide)
  have F_data_b1 : Fld Z h1 b1 "com/example/wireknit/wireknit/Item" "data" "[B" .null := D1 (Or.inr (hw _ (List.mem_of_getElem? (i := 37) rfl))) (ty := (.array .byte)) (by decide)
  have F_tags_b1 : Fld Z h1 b1 "com/example/wireknit/wireknit/Item" "tags" "[Lcom/example/wireknit/wireknit/Item$Tag;" .null := D1 (Or.inr (hw _ (List.mem_of_getElem? (i := 39) rfl))) (ty := (.array (.object "com/example/wireknit/wireknit/Item$Tag"))) (by decide)
  have F_items_b1 : Fld Z h1 b1 "com/example/wireknit/wireknit/Item" "items" "[Lcom/example/wireknit/wireknit/Item;" .null := D1 (Or.inr (hw _ (List.mem_of_getElem? (i := 41) rfl))) (ty := (.array (.object "com/example/wireknit/wireknit/Item"))) (by decide)
  have F_byTag_b1 : Fld Z h1 b1 "com/example/wireknit/wireknit/Item" "byTag" "[I" .null := D1 (Or.inr (hw _ (List.mem_of_getElem? (i := 43) rfl))) (ty := (.array .int)) (by decide)
  refine W.go st1 ?_
  show W p e below _ (T1.setTop (mkF m 3 #[.val (.ref r0)] [(.ref b1)]))
  refine W.go (fun _ hr => XS.dup X1.here hx rfl (hb hby d1_3) rfl rfl hr) ?_
  show W p e below _ (T1.setTop (mkF m 4 #[.val (.ref r0)] [(.ref b1), (.ref b1)]))
  obtain ⟨T3, X3, e3, st3⟩ := getS2 X1 hx hZ hown (host := "") (Or.inl (hw _ (List.mem_of_getElem? (i := 7) rfl))) Via.refl e1 S_DATA (g := (mkF m 4 #[.val (.ref r0)] [(.ref b1), (.ref b1)])) rfl (hb hby d1_4)
  refine W.go st3 ?_
  show W p e below _ (T3.setTop (mkF m 7 #[.val (.ref r0)] [(.ref w_DATA), (.ref b1), (.ref b1)]))
  refine W.go (fun _ hr => XS.aloadN X3.here hx rfl (hb hby d1_7) rfl rfl hr) ?_
  show W p e below _ (T3.setTop (mkF m 8 #[.val (.ref r0)] [(.ref r0), (.ref w_DATA), (.ref b1), (.ref b1)]))
  obtain ⟨T4, h4, X4, e4, E4, V_b4, E_b4, st4⟩ := cloneH X3 hx hZ hown (hw _ (List.mem_of_getElem? (i := 10) rfl)) (hw _ (List.mem_of_getElem? (i := 11) rfl)) (hw _ (List.mem_of_getElem? (i := 15) rfl)) (hw _ (List.mem_of_getElem? (i := 13) rfl)) (hw _ (List.mem_of_getElem? (i := 14) rfl)) (hw _ (List.mem_of_getElem? (i := 16) rfl)) e3 V_r0.arh E_r0 (g := (mkF m 8 #[.val (.ref r0)] [(.ref r0), (.ref w_DATA), (.ref b1), (.ref b1)])) rfl (by rw [hml]; rfl) rfl (hb hby d1_8) (by decide) (W := 3) (cap := 3) (by show 2 * 0 + _ ≤ _; exact Nat.le_of_eq rfl) (by decide) (by decide) (by decide) (by decide)
  obtain ⟨b4, g4⟩ : ∃ z, z = h1.size := ⟨_, rfl⟩
  rw [← g4] at V_b4 E_b4 st4
  have ne_r0_b4 : r0 ≠ b4 := Nat.ne_of_lt (Nat.lt_of_lt_of_le E_r0.lt (Nat.le_of_eq g4.symm))
  have ne_b1_b4 : b1 ≠ b4 := Nat.ne_of_lt (Nat.lt_of_lt_of_le E_b1.lt (Nat.le_of_eq g4.symm))
  have g_b4 : n0 ≤ b4 := Nat.le_trans Z2 (Nat.le_of_eq g4.symm)
  have sz_b4 : h0.size ≤ b4 := Nat.le_trans KC.1 (Nat.le_of_eq g4.symm)
  replace E_r0 := E_r0.ext E4
  replace V_r0 := V_r0.ext E4
  replace S_DATA := Sta.ext E4 S_DATA
  replace S_NO_ITEMS := Sta.ext E4 S_NO_ITEMS
  replace S_NO_TAGS := Sta.ext E4 S_NO_TAGS
  replace S_NO_POSITIONS := Sta.ext E4 S_NO_POSITIONS
  replace E_b1 := E_b1.ext E4
  replace F_type_b1 := F_type_b1.ext E4
  replace F_data_b1 := F_data_b1.ext E4
  replace F_tags_b1 := F_tags_b1.ext E4
  replace F_items_b1 := F_items_b1.ext E4
  replace F_byTag_b1 := F_byTag_b1.ext E4
  have Z5 : n0 ≤ h4.size := Nat.le_trans Z2 E4.1
  replace KC := KC.ext E4
  replace V_b4 : Arv Z h4 b4 k0 .byte (3 : Int32) [(.int z0), (.int z1), (.int z2)] (.int (0 : Int32)) := V_b4
  refine W.go st4 ?_
  show W p e below _ (T4.setTop (mkF m 11 #[.val (.ref r0)] [(.ref b4), (.ref w_DATA), (.ref b1), (.ref b1)]))
  obtain ⟨T6, X6, e6, st6⟩ := castY X4 hx hZ hown (hw _ (List.mem_of_getElem? (i := 17) rfl)) e4 (Ins.self E_b4) (g := (mkF m 11 #[.val (.ref r0)] [(.ref b4), (.ref w_DATA), (.ref b1), (.ref b1)])) rfl rfl (hb hby d1_11)
  refine W.go st6 ?_
  show W p e below _ (T6.setTop (mkF m 14 #[.val (.ref r0)] [(.ref b4), (.ref w_DATA), (.ref b1), (.ref b1)]))
  obtain ⟨T7, X7, e7, st7⟩ := getS2 X6 hx hZ hown (host := "") (Or.inl (hw _ (List.mem_of_getElem? (i := 19) rfl))) Via.refl e6 S_NO_ITEMS (g := (mkF m 14 #[.val (.ref r0)] [(.ref b4), (.ref w_DATA), (.ref b1), (.ref b1)])) rfl (hb hby d1_14)
  refine W.go st7 ?_
  show W p e below _ (T7.setTop (mkF m 17 #[.val (.ref r0)] [(.ref w_NO_ITEMS), (.ref b4), (.ref w_DATA), (.ref b1), (.ref b1)]))
  refine W.callI X7 hx hZ hown (g := (mkF m 17 #[.val (.ref r0)] [(.ref w_NO_ITEMS), (.ref b4), (.ref w_DATA), (.ref b1), (.ref b1)])) (by rw [hml]; rfl) (hw _ (List.mem_of_getElem? (i := 21) rfl)) (hw _ (List.mem_of_getElem? (i := 22) rfl)) (hw _ (List.mem_of_getElem? (i := 3) rfl)) (hw _ (List.mem_of_getElem? (i := 23) rfl)) e7 (rm2 l Z a0 hw b1 w_DATA b4 w_NO_ITEMS w_NO_TAGS w_NO_POSITIONS h4 n0 Z5 E_b1 F_type_b1 F_data_b1 F_tags_b1 F_items_b1 F_byTag_b1 g_b1 S_NO_TAGS S_NO_POSITIONS) rfl (by decide) pd_44 rfl (b := b1) (argsL := [(.ref w_DATA), (.ref b4), (.ref w_NO_ITEMS)]) (rest := [(.ref b1)]) rfl rfl rfl (hb hby d1_17) (W0 := 1) rfl (by decide) (by decide) (by decide) (by decide) (fun v8 T8 h8 L8 X8 e8 hQ8 => ?_)
  obtain ⟨rfl, N8q, K8, Ee8, Ft8, Fd8⟩ := hQ8
  have N8 := Fr.app N0 N8q
  have nsK8 := (nsS E_b1.nostat ns0)
  replace E_r0 := E_r0.keep K8
  replace V_r0 := V_r0.keep K8 (ninS ne_r0_b1 nin0)
  replace S_DATA := Sta.keep S_DATA K8 nsK8
  replace S_NO_ITEMS := Sta.keep S_NO_ITEMS K8 nsK8
  replace S_NO_TAGS := Sta.keep S_NO_TAGS K8 nsK8
  replace S_NO_POSITIONS := Sta.keep S_NO_POSITIONS K8 nsK8
  replace E_b1 := E_b1.keep K8
  replace E_b4 := E_b4.keep K8
  replace V_b4 := V_b4.keep K8 (ninS (Ne.symm ne_b1_b4) nin0)
  have Z9 : n0 ≤ h8.size := Nat.le_trans Z5 K8.1
  replace KC := KC.trans K8 (allS (Or.inr sz_b1) all0)
  show W p e below _ (T8.setTop (mkF m 20 #[.val (.ref r0)] [(.ref b1)]))
  exact W.retA X8 hx hlk hret rfl rfl (hb hby d1_20) (by decide) (by decide) e8 ⟨_, _, rfl, N8, KC, sz_b1, sz_b4, ne_b1_b4, E_b1, E_b4, Ft8, Fd8, V_b4⟩
theorem d6_28 : decode method_3_code 28 = .ok (.aload_n 0, 1) := by decide +kernel
theorem d6_29 : decode method_3_code 29 = .ok (.iconst 2, 1) := by decide +kernel
theorem d6_30 : decode method_3_code 30 = .ok (.iload 4, 2) := by decide +kernel
theorem d6_32 : decode method_3_code 32 = .ok (.iconst (-1), 1) := by decide +kernel
theorem d6_33 : decode method_3_code 33 = .ok (.ixor, 1) := by decide +kernel
theorem d6_34 : decode method_3_code 34 = .ok (.i2b, 1) := by decide +kernel
theorem d6_35 : decode method_3_code 35 = .ok (.bastore, 1) := by decide +kernel
def Q_rm6_3 (Z : State) (r0 : Addr) (p2 : Int32) (p3 : Int32) (p4 : Int32) (z0 : Int32) (z1 : Int32) (z2 : Int32) (k0 : ClassId) (h0 : Heap) (n0 : Nat) (v : Option Value) (h : Heap) (L : List Loc) : Prop := v = none ∧ Fr n0 L ∧ Keep h0 h [r0] ∧ Exa Z h r0 "[B" ∧ ∃ vs, Arv Z h r0 k0 .byte (3 : Int32) vs (.int (0 : Int32))
set_option maxRecDepth 65536 in
set_option maxHeartbeats 40000000 in
theorem rm6_3 (l : Launch) (Z : State) (a0 : Array Value) (hw : ∀ d ∈ tables_1, d.before a0 Z = true) (r0 : Addr) (p2 : Int32) (p3 : Int32) (p4 : Int32) (z0 : Int32) (z1 : Int32) (z2 : Int32) (k0 : ClassId) (h0 : Heap) (n0 : Nat) (Z0 : n0 ≤ h0.size) (E_r0 : Exa Z h0 r0 "[B") (V_r0 : Arv Z h0 r0 k0 .byte (3 : Int32) [(.int z0), (.int z1), (.int z2)] (.int (0 : Int32))) (g_r0 : n0 ≤ r0) :
    Ctr l Z (⟨"com/example/wireknit/wireknit/ItemDataPinLaw", "scramble", "([BIIII)V"⟩ : MethodName) method_3_code 5 none ({ frames := 0, cells := 0, slots := 0, locals := 0 } : Room) #[(.ref r0), (.int (3 : Int32)), (.int p2), (.int p3), (.int p4)] h0 (Q_rm6_3 Z r0 p2 p3 p4 z0 z1 z2 k0 h0 n0) := by
  refine Ctr.body (fr := fun m => mkF m 0 #[.val (.ref r0), .val (.int (3 : Int32)), .val (.int p2), .val (.int p3), .val (.int p4)] []) (plainFor_of_name pn_com_example_wireknit_wireknit_ItemDataPinLaw) (fun m => by first | (simp [entryFrame, mkF, argsToLocals, Value.category]; done) | rfl) fun p e s m below meth c s₁ hx hby hml hZ hown hnm hret hlk X0 e0 => ?_
  have N0 := Fr.nil n0
  have hown : s.vm.findClass "com/example/wireknit/wireknit/ItemDataPinLaw" = some m.cls := hown
  have KC : Keep h0 h0 [r0] := Keep.refl _ _
  show W p e below _ (s₁.setTop (mkF m 0 #[.val (.ref r0), .val (.int (3 : Int32)), .val (.int p2), .val (.int p3), .val (.int p4)] []))
  refine W.go (fun _ hr => XS.iloadN X0.here hx rfl (hb hby d6_0) rfl hr) ?_
  show W p e below _ (s₁.setTop (mkF m 1 #[.val (.ref r0), .val (.int (3 : Int32)), .val (.int p2), .val (.int p3), .val (.int p4)] [(.int (3 : Int32))]))
  refine W.go (fun _ hr => XS.ifNo X0.here hx rfl (hb hby d6_1) rfl ((if0 _ _).trans (tlt (by decide : ((0 : Int32) < (3 : Int32)))).2.2.2) hr) ?_
  show W p e below _ (s₁.setTop (mkF m 4 #[.val (.ref r0), .val (.int (3 : Int32)), .val (.int p2), .val (.int p3), .val (.int p4)] []))
  refine W.go (fun _ hr => XS.aloadN X0.here hx rfl (hb hby d6_4) rfl rfl hr) ?_
  show W p e below _ (s₁.setTop (mkF m 5 #[.val (.ref r0), .val (.int (3 : Int32)), .val (.int p2), .val (.int p3), .val (.int p4)] [(.ref r0)]))
  refine W.go (fun _ hr => XS.iconst X0.here hx rfl (hb hby d6_5) hr) ?_
  show W p e below _ (s₁.setTop (mkF m 6 #[.val (.ref r0), .val (.int (3 : Int32)), .val (.int p2), .val (.int p3), .val (.int p4)] [(.int (0 : Int32)), (.ref r0)]))
  refine W.go (fun _ hr => XS.iloadN X0.here hx rfl (hb hby d6_6) rfl hr) ?_
  show W p e below _ (s₁.setTop (mkF m 7 #[.val (.ref r0), .val (.int (3 : Int32)), .val (.int p2), .val (.int p3), .val (.int p4)] [(.int p2), (.int (0 : Int32)), (.ref r0)]))
  refine W.go (fun _ hr => XS.iconst X0.here hx rfl (hb hby d6_7) hr) ?_
  show W p e below _ (s₁.setTop (mkF m 8 #[.val (.ref r0), .val (.int (3 : Int32)), .val (.int p2), .val (.int p3), .val (.int p4)] [(.int (-1 : Int32)), (.int p2), (.int (0 : Int32)), (.ref r0)]))
  refine W.go (fun _ hr => XS.ixor X0.here hx rfl (hb hby d6_8) rfl hr) ?_
  show W p e below _ (s₁.setTop (mkF m 9 #[.val (.ref r0), .val (.int (3 : Int32)), .val (.int p2), .val (.int p3), .val (.int p4)] [(.int (p2 ^^^ (-1 : Int32))), (.int (0 : Int32)), (.ref r0)]))
  refine W.go (fun _ hr => XS.i2b X0.here hx rfl (hb hby d6_9) rfl hr) ?_
  show W p e below _ (s₁.setTop (mkF m 10 #[.val (.ref r0), .val (.int (3 : Int32)), .val (.int p2), .val (.int p3), .val (.int p4)] [(.int ((p2 ^^^ (-1 : Int32)).toInt8.toInt32)), (.int (0 : Int32)), (.ref r0)]))
  obtain ⟨cl1, Ar1, q1, S1, Nn1, H1, G1⟩ := V_r0
  have hin1 : ¬ ((0 : Int32) < 0 ∨ cl1.slots.size ≤ ((0 : Int32)).toNatClampNeg) := inb_of S1 ⟨by decide, by decide⟩
  obtain ⟨T1, h1, X1, e1, W1, st1⟩ := stB X0 hx hZ e0 Ar1 (j := (0 : Int32)) hin1 (g := (mkF m 10 #[.val (.ref r0), .val (.int (3 : Int32)), .val (.int p2), .val (.int p3), .val (.int p4)] [(.int ((p2 ^^^ (-1 : Int32)).toInt8.toInt32)), (.int (0 : Int32)), (.ref r0)])) rfl rfl (hb hby d6_10)
  replace V_r0 : Arv Z h1 r0 k0 .byte (3 : Int32) [(.int ((p2 ^^^ (-1 : Int32)).toInt8.toInt32).toInt8.toInt32), (.int z1), (.int z2)] (.int (0 : Int32)) := Arv.set Ar1 q1 S1 Nn1 H1 G1 (fits_nar_byte _) W1 0 rfl (Nat.le_of_ble_eq_true rfl)
  replace E_r0 := E_r0.wr W1
  have Z2 : n0 ≤ h1.size := Nat.le_trans Z0 (Keep.of_wr W1).1
  replace KC := KC.wr W1 (Or.inl (List.mem_of_getElem? (i := 0) rfl))
  refine W.go st1 ?_
  have N1 := Fr.snoc X1 N0 g_r0
  show W p e below _ (T1.setTop (mkF m 11 #[.val (.ref r0), .val (.int (3 : Int32)), .val (.int p2), .val (.int p3), .val (.int p4)] []))
  refine W.go (fun _ hr => XS.iloadN X1.here hx rfl (hb hby d6_11) rfl hr) ?_
  show W p e below _ (T1.setTop (mkF m 12 #[.val (.ref r0), .val (.int (3 : Int32)), .val (.int p2), .val (.int p3), .val (.int p4)] [(.int (3 : Int32))]))
  refine W.go (fun _ hr => XS.iconst X1.here hx rfl (hb hby d6_12) hr) ?_
  show W p e below _ (T1.setTop (mkF m 13 #[.val (.ref r0), .val (.int (3 : Int32)), .val (.int p2), .val (.int p3), .val (.int p4)] [(.int (1 : Int32)), (.int (3 : Int32))]))
  refine W.go (fun _ hr => XS.icmpNo X1.here hx rfl (hb hby d6_13) rfl (tlt (by decide : ((1 : Int32) < (3 : Int32)))).2.2.2 hr) ?_
  show W p e below _ (T1.setTop (mkF m 16 #[.val (.ref r0), .val (.int (3 : Int32)), .val (.int p2), .val (.int p3), .val (.int p4)] []))
  refine W.go (fun _ hr => XS.aloadN X1.here hx rfl (hb hby d6_16) rfl rfl hr) ?_
  show W p e below _ (T1.setTop (mkF m 17 #[.val (.ref r0), .val (.int (3 : Int32)), .val (.int p2), .val (.int p3), .val (.int p4)] [(.ref r0)]))
  refine W.go (fun _ hr => XS.iconst X1.here hx rfl (hb hby d6_17) hr) ?_
  show W p e below _ (T1.setTop (mkF m 18 #[.val (.ref r0), .val (.int (3 : Int32)), .val (.int p2), .val (.int p3), .val (.int p4)] [(.int (1 : Int32)), (.ref r0)]))
  refine W.go (fun _ hr => XS.iloadN X1.here hx rfl (hb hby d6_18) rfl hr) ?_
  show W p e below _ (T1.setTop (mkF m 19 #[.val (.ref r0), .val (.int (3 : Int32)), .val (.int p2), .val (.int p3), .val (.int p4)] [(.int p3), (.int (1 : Int32)), (.ref r0)]))
  refine W.go (fun _ hr => XS.iconst X1.here hx rfl (hb hby d6_19) hr) ?_
  show W p e below _ (T1.setTop (mkF m 20 #[.val (.ref r0), .val (.int (3 : Int32)), .val (.int p2), .val (.int p3), .val (.int p4)] [(.int (-1 : Int32)), (.int p3), (.int (1 : Int32)), (.ref r0)]))
  refine W.go (fun _ hr => XS.ixor X1.here hx rfl (hb hby d6_20) rfl hr) ?_
  show W p e below _ (T1.setTop (mkF m 21 #[.val (.ref r0), .val (.int (3 : Int32)), .val (.int p2), .val (.int p3), .val (.int p4)] [(.int (p3 ^^^ (-1 : Int32))), (.int (1 : Int32)), (.ref r0)]))
  refine W.go (fun _ hr => XS.i2b X1.here hx rfl (hb hby d6_21) rfl hr) ?_
  show W p e below _ (T1.setTop (mkF m 22 #[.val (.ref r0), .val (.int (3 : Int32)), .val (.int p2), .val (.int p3), .val (.int p4)] [(.int ((p3 ^^^ (-1 : Int32)).toInt8.toInt32)), (.int (1 : Int32)), (.ref r0)]))
  obtain ⟨cl3, Ar3, q3, S3, Nn3, H3, G3⟩ := V_r0
  have hin3 : ¬ ((1 : Int32) < 0 ∨ cl3.slots.size ≤ ((1 : Int32)).toNatClampNeg) := inb_of S3 ⟨by decide, by decide⟩
  obtain ⟨T3, h3, X3, e3, W3, st3⟩ := stB X1 hx hZ e1 Ar3 (j := (1 : Int32)) hin3 (g := (mkF m 22 #[.val (.ref r0), .val (.int (3 : Int32)), .val (.int p2), .val (.int p3), .val (.int p4)] [(.int ((p3 ^^^ (-1 : Int32)).toInt8.toInt32)), (.int (1 : Int32)), (.ref r0)])) rfl rfl (hb hby d6_22)
  replace V_r0 : Arv Z h3 r0 k0 .byte (3 : Int32) [(.int ((p2 ^^^ (-1 : Int32)).toInt8.toInt32).toInt8.toInt32), (.int ((p3 ^^^ (-1 : Int32)).toInt8.toInt32).toInt8.toInt32), (.int z2)] (.int (0 : Int32)) := Arv.set Ar3 q3 S3 Nn3 H3 G3 (fits_nar_byte _) W3 1 rfl (Nat.le_of_ble_eq_true rfl)
  replace E_r0 := E_r0.wr W3
  have Z4 : n0 ≤ h3.size := Nat.le_trans Z2 (Keep.of_wr W3).1
  replace KC := KC.wr W3 (Or.inl (List.mem_of_getElem? (i := 0) rfl))
  refine W.go st3 ?_
  have N3 := Fr.snoc X3 N1 g_r0
  show W p e below _ (T3.setTop (mkF m 23 #[.val (.ref r0), .val (.int (3 : Int32)), .val (.int p2), .val (.int p3), .val (.int p4)] []))
  refine W.go (fun _ hr => XS.iloadN X3.here hx rfl (hb hby d6_23) rfl hr) ?_
  show W p e below _ (T3.setTop (mkF m 24 #[.val (.ref r0), .val (.int (3 : Int32)), .val (.int p2), .val (.int p3), .val (.int p4)] [(.int (3 : Int32))]))
  refine W.go (fun _ hr => XS.iconst X3.here hx rfl (hb hby d6_24) hr) ?_
  show W p e below _ (T3.setTop (mkF m 25 #[.val (.ref r0), .val (.int (3 : Int32)), .val (.int p2), .val (.int p3), .val (.int p4)] [(.int (2 : Int32)), (.int (3 : Int32))]))
  refine W.go (fun _ hr => XS.icmpNo X3.here hx rfl (hb hby d6_25) rfl (tlt (by decide : ((2 : Int32) < (3 : Int32)))).2.2.2 hr) ?_
  show W p e below _ (T3.setTop (mkF m 28 #[.val (.ref r0), .val (.int (3 : Int32)), .val (.int p2), .val (.int p3), .val (.int p4)] []))
  refine W.go (fun _ hr => XS.aloadN X3.here hx rfl (hb hby d6_28) rfl rfl hr) ?_
  show W p e below _ (T3.setTop (mkF m 29 #[.val (.ref r0), .val (.int (3 : Int32)), .val (.int p2), .val (.int p3), .val (.int p4)] [(.ref r0)]))
  refine W.go (fun _ hr => XS.iconst X3.here hx rfl (hb hby d6_29) hr) ?_
  show W p e below _ (T3.setTop (mkF m 30 #[.val (.ref r0), .val (.int (3 : Int32)), .val (.int p2), .val (.int p3), .val (.int p4)] [(.int (2 : Int32)), (.ref r0)]))
  refine W.go (fun _ hr => XS.iload X3.here hx rfl (hb hby d6_30) rfl hr) ?_
  show W p e below _ (T3.setTop (mkF m 32 #[.val (.ref r0), .val (.int (3 : Int32)), .val (.int p2), .val (.int p3), .val (.int p4)] [(.int p4), (.int (2 : Int32)), (.ref r0)]))
  refine W.go (fun _ hr => XS.iconst X3.here hx rfl (hb hby d6_32) hr) ?_
  show W p e below _ (T3.setTop (mkF m 33 #[.val (.ref r0), .val (.int (3 : Int32)), .val (.int p2), .val (.int p3), .val (.int p4)] [(.int (-1 : Int32)), (.int p4), (.int (2 : Int32)), (.ref r0)]))
  refine W.go (fun _ hr => XS.ixor X3.here hx rfl (hb hby d6_33) rfl hr) ?_
  show W p e below _ (T3.setTop (mkF m 34 #[.val (.ref r0), .val (.int (3 : Int32)), .val (.int p2), .val (.int p3), .val (.int p4)] [(.int (p4 ^^^ (-1 : Int32))), (.int (2 : Int32)), (.ref r0)]))
  refine W.go (fun _ hr => XS.i2b X3.here hx rfl (hb hby d6_34) rfl hr) ?_
  show W p e below _ (T3.setTop (mkF m 35 #[.val (.ref r0), .val (.int (3 : Int32)), .val (.int p2), .val (.int p3), .val (.int p4)] [(.int ((p4 ^^^ (-1 : Int32)).toInt8.toInt32)), (.int (2 : Int32)), (.ref r0)]))
  obtain ⟨cl5, Ar5, q5, S5, Nn5, H5, G5⟩ := V_r0
  have hin5 : ¬ ((2 : Int32) < 0 ∨ cl5.slots.size ≤ ((2 : Int32)).toNatClampNeg) := inb_of S5 ⟨by decide, by decide⟩
  obtain ⟨T5, h5, X5, e5, W5, st5⟩ := stB X3 hx hZ e3 Ar5 (j := (2 : Int32)) hin5 (g := (mkF m 35 #[.val (.ref r0), .val (.int (3 : Int32)), .val (.int p2), .val (.int p3), .val (.int p4)] [(.int ((p4 ^^^ (-1 : Int32)).toInt8.toInt32)), (.int (2 : Int32)), (.ref r0)])) rfl rfl (hb hby d6_35)
  replace V_r0 : Arv Z h5 r0 k0 .byte (3 : Int32) [(.int ((p2 ^^^ (-1 : Int32)).toInt8.toInt32).toInt8.toInt32), (.int ((p3 ^^^ (-1 : Int32)).toInt8.toInt32).toInt8.toInt32), (.int ((p4 ^^^ (-1 : Int32)).toInt8.toInt32).toInt8.toInt32)] (.int (0 : Int32)) := Arv.set Ar5 q5 S5 Nn5 H5 G5 (fits_nar_byte _) W5 2 rfl (Nat.le_of_ble_eq_true rfl)
  replace E_r0 := E_r0.wr W5
  have Z6 : n0 ≤ h5.size := Nat.le_trans Z4 (Keep.of_wr W5).1
  replace KC := KC.wr W5 (Or.inl (List.mem_of_getElem? (i := 0) rfl))
  refine W.go st5 ?_
  have N5 := Fr.snoc X5 N3 g_r0
  show W p e below _ (T5.setTop (mkF m 36 #[.val (.ref r0), .val (.int (3 : Int32)), .val (.int p2), .val (.int p3), .val (.int p4)] []))
  exact W.retV X5 hx hlk hret (hb hby d6_36) (by decide) (by decide) e5 ⟨rfl, N5, KC, E_r0, _, V_r0⟩
def Q_rm7_3 (Z : State) (r0 : Addr) (z0 : Int32) (z1 : Int32) (z2 : Int32) (k0 : ClassId) (w_DATA : Addr) (d : Addr) (h0 : Heap) (n0 : Nat) (v : Option Value) (h : Heap) (L : List Loc) : Prop := ∃ b : Addr, v = some (.ref b) ∧ Fr n0 L ∧ Keep h0 h [] ∧ h0.size ≤ b ∧ Exa Z h b "[B" ∧ Arv Z h b k0 .byte (3 : Int32) [(.int z0), (.int z1), (.int z2)] (.int (0 : Int32))
set_option maxRecDepth 65536 in
set_option maxHeartbeats 40000000 in
theorem rm7_3 (l : Launch) (Z : State) (a0 : Array Value) (hw : ∀ d ∈ tables_1, d.before a0 Z = true) (r0 : Addr) (z0 : Int32) (z1 : Int32) (z2 : Int32) (k0 : ClassId) (w_DATA : Addr) (d : Addr) (h0 : Heap) (n0 : Nat) (Z0 : n0 ≤ h0.size) (E_r0 : Exa Z h0 r0 "com/example/wireknit/wireknit/Item") (F_type_r0 : Fld Z h0 r0 "com/example/wireknit/wireknit/Item" "type" "Lcom/example/wireknit/wireknit/Item$Type;" (.ref w_DATA)) (F_data_r0 : Fld Z h0 r0 "com/example/wireknit/wireknit/Item" "data" "[B" (.ref d)) (E_d : Exa Z h0 d "[B") (V_d : Arv Z h0 d k0 .byte (3 : Int32) [(.int z0), (.int z1), (.int z2)] (.int (0 : Int32))) (S_DATA : Sta Z h0 "com/example/wireknit/wireknit/Item$Type" "DATA" "Lcom/example/wireknit/wireknit/Item$Type;" (.ref w_DATA)) :
    Ctr l Z (⟨"com/example/wireknit/wireknit/Item", "bytes", "()[B"⟩ : MethodName) prog_13_method_9_code 1 (some (.array .byte)) ({ frames := 1, cells := 1, slots := 3, locals := 14 } : Room) #[(.ref r0)] h0 (Q_rm7_3 Z r0 z0 z1 z2 k0 w_DATA d h0 n0) := by
  refine Ctr.body (fr := fun m => mkF m 0 #[.val (.ref r0)] []) (plainFor_of_name pn_com_example_wireknit_wireknit_Item) (fun m => by first | (simp [entryFrame, mkF, argsToLocals, Value.category]; done) | rfl) fun p e s m below meth c s₁ hx hby hml hZ hown hnm hret hlk X0 e0 => ?_
  have N0 := Fr.nil n0
  have hown : s.vm.findClass "com/example/wireknit/wireknit/Item" = some m.cls := hown
  have KC : Keep h0 h0 [] := Keep.refl _ _
  show W p e below _ (s₁.setTop (mkF m 0 #[.val (.ref r0)] []))
  refine W.go (fun _ hr => XS.aloadN X0.here hx rfl (hb hby d7_0) rfl rfl hr) ?_
  show W p e below _ (s₁.setTop (mkF m 1 #[.val (.ref r0)] [(.ref r0)]))
  obtain ⟨T1, X1, e1, st1⟩ := getS2 X0 hx hZ hown (host := "") (Or.inl (hw _ (List.mem_of_getElem? (i := 7) rfl))) Via.refl e0 S_DATA (g := (mkF m 1 #[.val (.ref r0)] [(.ref r0)])) rfl (hb hby d7_1)
  refine W.go st1 ?_
  show W p e below _ (T1.setTop (mkF m 4 #[.val (.ref r0)] [(.ref w_DATA), (.ref r0)]))
  refine W.callP X1 hx hZ hown (g := (mkF m 4 #[.val (.ref r0)] [(.ref w_DATA), (.ref r0)])) (by rw [hml]; rfl) (hw _ (List.mem_of_getElem? (i := 59) rfl)) (hw _ (List.mem_of_getElem? (i := 61) rfl)) (selPriv hZ (hw _ (List.mem_of_getElem? (i := 6) rfl)) (hw _ (List.mem_of_getElem? (i := 61) rfl)) (hw _ (List.mem_of_getElem? (i := 60) rfl)) (by decide)) (hw _ (List.mem_of_getElem? (i := 60) rfl)) (hw _ (List.mem_of_getElem? (i := 3) rfl)) (hw _ (List.mem_of_getElem? (i := 62) rfl)) e1 (rm8 l Z a0 hw r0 w_DATA h0 n0 Z0 F_type_r0) (by decide) pd_59 rfl E_r0 (argsL := [(.ref w_DATA)]) (rest := []) rfl rfl rfl (hb hby d7_4) (W0 := 0) rfl (by decide) (by decide) (by decide) (by decide) (fun v2 T2 h2 L2 X2 e2 hQ2 => ?_)
  obtain ⟨rfl, N2q, hh2⟩ := hQ2
  obtain rfl := hh2.symm
  have N2 := Fr.app N0 N2q
  show W p e below _ (T2.setTop (mkF m 7 #[.val (.ref r0)] []))
  refine W.go (fun _ hr => XS.aloadN X2.here hx rfl (hb hby d7_7) rfl rfl hr) ?_
  show W p e below _ (T2.setTop (mkF m 8 #[.val (.ref r0)] [(.ref r0)]))
  obtain ⟨T3, X3, e3, st3⟩ := getF X2 hx hZ hown (host := "") (Or.inl (hw _ (List.mem_of_getElem? (i := 36) rfl))) Via.refl e2 F_data_r0 (g := (mkF m 8 #[.val (.ref r0)] [(.ref r0)])) rfl rfl (hb hby d7_8)
  refine W.go st3 ?_
  show W p e below _ (T3.setTop (mkF m 11 #[.val (.ref r0)] [(.ref d)]))
  obtain ⟨T4, h4, X4, e4, E4, V_b4, E_b4, st4⟩ := cloneH X3 hx hZ hown (hw _ (List.mem_of_getElem? (i := 10) rfl)) (hw _ (List.mem_of_getElem? (i := 11) rfl)) (hw _ (List.mem_of_getElem? (i := 15) rfl)) (hw _ (List.mem_of_getElem? (i := 13) rfl)) (hw _ (List.mem_of_getElem? (i := 14) rfl)) (hw _ (List.mem_of_getElem? (i := 16) rfl)) e3 V_d.arh E_d (g := (mkF m 11 #[.val (.ref r0)] [(.ref d)])) rfl (by rw [hml]; rfl) rfl (hb hby d7_11) (by decide) (W := 0) (cap := 3) (by show 2 * 0 + _ ≤ _; exact Nat.le_of_eq rfl) (by decide) (by decide) (by decide) (by decide)
  obtain ⟨b4, g4⟩ : ∃ z, z = h0.size := ⟨_, rfl⟩
  rw [← g4] at V_b4 E_b4 st4
  have ne_r0_b4 : r0 ≠ b4 := Nat.ne_of_lt (Nat.lt_of_lt_of_le E_r0.lt (Nat.le_of_eq g4.symm))
  have ne_d_b4 : d ≠ b4 := Nat.ne_of_lt (Nat.lt_of_lt_of_le E_d.lt (Nat.le_of_eq g4.symm))
  have g_b4 : n0 ≤ b4 := Nat.le_trans Z0 (Nat.le_of_eq g4.symm)
  have sz_b4 : h0.size ≤ b4 := Nat.le_trans KC.1 (Nat.le_of_eq g4.symm)
  replace E_r0 := E_r0.ext E4
  replace F_type_r0 := F_type_r0.ext E4
  replace F_data_r0 := F_data_r0.ext E4
  replace E_d := E_d.ext E4
  replace V_d := V_d.ext E4
  replace S_DATA := Sta.ext E4 S_DATA
  have Z5 : n0 ≤ h4.size := Nat.le_trans Z0 E4.1
  replace KC := KC.ext E4
  replace V_b4 : Arv Z h4 b4 k0 .byte (3 : Int32) [(.int z0), (.int z1), (.int z2)] (.int (0 : Int32)) := V_b4
  refine W.go st4 ?_
  show W p e below _ (T4.setTop (mkF m 14 #[.val (.ref r0)] [(.ref b4)]))
  obtain ⟨T6, X6, e6, st6⟩ := castY X4 hx hZ hown (hw _ (List.mem_of_getElem? (i := 17) rfl)) e4 (Ins.self E_b4) (g := (mkF m 14 #[.val (.ref r0)] [(.ref b4)])) rfl rfl (hb hby d7_14)
  refine W.go st6 ?_
  show W p e below _ (T6.setTop (mkF m 17 #[.val (.ref r0)] [(.ref b4)]))
  exact W.retA X6 hx hlk hret rfl rfl (hb hby d7_17) (by decide) (by decide) e6 ⟨_, rfl, N2, KC, sz_b4, E_b4, V_b4⟩
theorem d9_46 : decode method_2_code 46 = .ok (.aload_n 0, 1) := by decide +kernel
theorem d9_47 : decode method_2_code 47 = .ok (.iconst 2, 1) := by decide +kernel
theorem d9_48 : decode method_2_code 48 = .ok (.baload, 1) := by decide +kernel
theorem d9_49 : decode method_2_code 49 = .ok (.iload 4, 2) := by decide +kernel
theorem d9_51 : decode method_2_code 51 = .ok (.i2b, 1) := by decide +kernel
theorem d9_52 : decode method_2_code 52 = .ok (.if_icmp .eq 5, 3) := by decide +kernel
def Q_rm9_3 (Z : State) (r0 : Addr) (p2 : Int32) (p3 : Int32) (p4 : Int32) (z0 : Int32) (z1 : Int32) (z2 : Int32) (k0 : ClassId) (h0 : Heap) (n0 : Nat) (v : Option Value) (h : Heap) (L : List Loc) : Prop := v = some (.int (1 : Int32)) ∧ Fr n0 L ∧ h = h0
set_option maxRecDepth 65536 in
set_option maxHeartbeats 40000000 in
theorem rm9_3 (l : Launch) (Z : State) (a0 : Array Value) (hw : ∀ d ∈ tables_1, d.before a0 Z = true) (r0 : Addr) (p2 : Int32) (p3 : Int32) (p4 : Int32) (z0 : Int32) (z1 : Int32) (z2 : Int32) (k0 : ClassId) (h0 : Heap) (n0 : Nat) (Z0 : n0 ≤ h0.size) (V_r0 : Arv Z h0 r0 k0 .byte (3 : Int32) [(.int z0), (.int z1), (.int z2)] (.int (0 : Int32))) (hz0 : z0 = (p2.toInt8.toInt32)) (hz1 : z1 = (p3.toInt8.toInt32)) (hz2 : z2 = (p4.toInt8.toInt32)) :
    Ctr l Z (⟨"com/example/wireknit/wireknit/ItemDataPinLaw", "holds", "([BIIII)Z"⟩ : MethodName) method_2_code 5 (some .boolean) ({ frames := 0, cells := 0, slots := 0, locals := 0 } : Room) #[(.ref r0), (.int (3 : Int32)), (.int p2), (.int p3), (.int p4)] h0 (Q_rm9_3 Z r0 p2 p3 p4 z0 z1 z2 k0 h0 n0) := by
  refine Ctr.body (fr := fun m => mkF m 0 #[.val (.ref r0), .val (.int (3 : Int32)), .val (.int p2), .val (.int p3), .val (.int p4)] []) (plainFor_of_name pn_com_example_wireknit_wireknit_ItemDataPinLaw) (fun m => by first | (simp [entryFrame, mkF, argsToLocals, Value.category]; done) | rfl) fun p e s m below meth c s₁ hx hby hml hZ hown hnm hret hlk X0 e0 => ?_
  have N0 := Fr.nil n0
  have hown : s.vm.findClass "com/example/wireknit/wireknit/ItemDataPinLaw" = some m.cls := hown
  show W p e below _ (s₁.setTop (mkF m 0 #[.val (.ref r0), .val (.int (3 : Int32)), .val (.int p2), .val (.int p3), .val (.int p4)] []))
  refine W.go (fun _ hr => XS.aloadN X0.here hx rfl (hb hby d9_0) rfl rfl hr) ?_
  show W p e below _ (s₁.setTop (mkF m 1 #[.val (.ref r0), .val (.int (3 : Int32)), .val (.int p2), .val (.int p3), .val (.int p4)] [(.ref r0)]))
  refine W.go (fun _ hr => XS.ifnullNo X0.here hx rfl (hb hby d9_1) rfl hr) ?_
  show W p e below _ (s₁.setTop (mkF m 4 #[.val (.ref r0), .val (.int (3 : Int32)), .val (.int p2), .val (.int p3), .val (.int p4)] []))
  refine W.go (fun _ hr => XS.aloadN X0.here hx rfl (hb hby d9_4) rfl rfl hr) ?_
  show W p e below _ (s₁.setTop (mkF m 5 #[.val (.ref r0), .val (.int (3 : Int32)), .val (.int p2), .val (.int p3), .val (.int p4)] [(.ref r0)]))
  obtain ⟨cl1, Ar1, q1, S1, Nn1, H1, G1⟩ := id V_r0
  refine W.go (X0.arraylength hx (by rw [e0]; exact Ar1.1) (State.isArrayOf_alike hZ.alike Ar1.2.1) (g := (mkF m 5 #[.val (.ref r0), .val (.int (3 : Int32)), .val (.int p2), .val (.int p3), .val (.int p4)] [(.ref r0)])) rfl rfl (hb hby d9_5)) ?_
  rw [len_of S1 Nn1]
  show W p e below _ (s₁.setTop (mkF m 6 #[.val (.ref r0), .val (.int (3 : Int32)), .val (.int p2), .val (.int p3), .val (.int p4)] [(.int (3 : Int32))]))
  refine W.go (fun _ hr => XS.iloadN X0.here hx rfl (hb hby d9_6) rfl hr) ?_
  show W p e below _ (s₁.setTop (mkF m 7 #[.val (.ref r0), .val (.int (3 : Int32)), .val (.int p2), .val (.int p3), .val (.int p4)] [(.int (3 : Int32)), (.int (3 : Int32))]))
  refine W.go (fun _ hr => XS.icmpYes X0.here hx rfl (pc0 := 7) (pc' := 12) rfl (hb hby d9_7) rfl (teq (by decide : ((3 : Int32) = (3 : Int32)))).1 (by decide) (by decide) hr) ?_
  show W p e below _ (s₁.setTop (mkF m 12 #[.val (.ref r0), .val (.int (3 : Int32)), .val (.int p2), .val (.int p3), .val (.int p4)] []))
  refine W.go (fun _ hr => XS.iloadN X0.here hx rfl (hb hby d9_12) rfl hr) ?_
  show W p e below _ (s₁.setTop (mkF m 13 #[.val (.ref r0), .val (.int (3 : Int32)), .val (.int p2), .val (.int p3), .val (.int p4)] [(.int (3 : Int32))]))
  refine W.go (fun _ hr => XS.ifNo X0.here hx rfl (hb hby d9_13) rfl ((if0 _ _).trans (tlt (by decide : ((0 : Int32) < (3 : Int32)))).2.2.2) hr) ?_
  show W p e below _ (s₁.setTop (mkF m 16 #[.val (.ref r0), .val (.int (3 : Int32)), .val (.int p2), .val (.int p3), .val (.int p4)] []))
  refine W.go (fun _ hr => XS.aloadN X0.here hx rfl (hb hby d9_16) rfl rfl hr) ?_
  show W p e below _ (s₁.setTop (mkF m 17 #[.val (.ref r0), .val (.int (3 : Int32)), .val (.int p2), .val (.int p3), .val (.int p4)] [(.ref r0)]))
  refine W.go (fun _ hr => XS.iconst X0.here hx rfl (hb hby d9_17) hr) ?_
  show W p e below _ (s₁.setTop (mkF m 18 #[.val (.ref r0), .val (.int (3 : Int32)), .val (.int p2), .val (.int p3), .val (.int p4)] [(.int (0 : Int32)), (.ref r0)]))
  obtain ⟨cl2, Ar2, q2, S2, Nn2, H2, G2⟩ := id V_r0
  have hin2 : ¬ ((0 : Int32) < 0 ∨ cl2.slots.size ≤ ((0 : Int32)).toNatClampNeg) := inb_of S2 ⟨by decide, by decide⟩
  have hat2 : cl2.slots[((0 : Int32)).toNatClampNeg]? = some (.int z0) := H2.at hin2 rfl
  refine W.go (X0.baloadBytes hx (j := (0 : Int32)) (v := (.int z0)) (by rw [e0]; exact Ar2.1) (State.isArrayOf_alike hZ.alike Ar2.2.1) Ar2.2.2 hin2 hat2 (g := (mkF m 18 #[.val (.ref r0), .val (.int (3 : Int32)), .val (.int p2), .val (.int p3), .val (.int p4)] [(.int (0 : Int32)), (.ref r0)])) rfl rfl (hb hby d9_18)) ?_
  show W p e below _ (s₁.setTop (mkF m 19 #[.val (.ref r0), .val (.int (3 : Int32)), .val (.int p2), .val (.int p3), .val (.int p4)] [(.int z0)]))
  refine W.go (fun _ hr => XS.iloadN X0.here hx rfl (hb hby d9_19) rfl hr) ?_
  show W p e below _ (s₁.setTop (mkF m 20 #[.val (.ref r0), .val (.int (3 : Int32)), .val (.int p2), .val (.int p3), .val (.int p4)] [(.int p2), (.int z0)]))
  refine W.go (fun _ hr => XS.i2b X0.here hx rfl (hb hby d9_20) rfl hr) ?_
  show W p e below _ (s₁.setTop (mkF m 21 #[.val (.ref r0), .val (.int (3 : Int32)), .val (.int p2), .val (.int p3), .val (.int p4)] [(.int (p2.toInt8.toInt32)), (.int z0)]))
  refine W.go (fun _ hr => XS.icmpYes X0.here hx rfl (pc0 := 21) (pc' := 26) rfl (hb hby d9_21) rfl (teq (hz0 : (z0 = (p2.toInt8.toInt32)))).1 (by decide) (by decide) hr) ?_
  show W p e below _ (s₁.setTop (mkF m 26 #[.val (.ref r0), .val (.int (3 : Int32)), .val (.int p2), .val (.int p3), .val (.int p4)] []))
  refine W.go (fun _ hr => XS.iloadN X0.here hx rfl (hb hby d9_26) rfl hr) ?_
  show W p e below _ (s₁.setTop (mkF m 27 #[.val (.ref r0), .val (.int (3 : Int32)), .val (.int p2), .val (.int p3), .val (.int p4)] [(.int (3 : Int32))]))
  refine W.go (fun _ hr => XS.iconst X0.here hx rfl (hb hby d9_27) hr) ?_
  show W p e below _ (s₁.setTop (mkF m 28 #[.val (.ref r0), .val (.int (3 : Int32)), .val (.int p2), .val (.int p3), .val (.int p4)] [(.int (1 : Int32)), (.int (3 : Int32))]))
  refine W.go (fun _ hr => XS.icmpNo X0.here hx rfl (hb hby d9_28) rfl (tlt (by decide : ((1 : Int32) < (3 : Int32)))).2.2.2 hr) ?_
  show W p e below _ (s₁.setTop (mkF m 31 #[.val (.ref r0), .val (.int (3 : Int32)), .val (.int p2), .val (.int p3), .val (.int p4)] []))
  refine W.go (fun _ hr => XS.aloadN X0.here hx rfl (hb hby d9_31) rfl rfl hr) ?_
  show W p e below _ (s₁.setTop (mkF m 32 #[.val (.ref r0), .val (.int (3 : Int32)), .val (.int p2), .val (.int p3), .val (.int p4)] [(.ref r0)]))
  refine W.go (fun _ hr => XS.iconst X0.here hx rfl (hb hby d9_32) hr) ?_
  show W p e below _ (s₁.setTop (mkF m 33 #[.val (.ref r0), .val (.int (3 : Int32)), .val (.int p2), .val (.int p3), .val (.int p4)] [(.int (1 : Int32)), (.ref r0)]))
  obtain ⟨cl3, Ar3, q3, S3, Nn3, H3, G3⟩ := id V_r0
  have hin3 : ¬ ((1 : Int32) < 0 ∨ cl3.slots.size ≤ ((1 : Int32)).toNatClampNeg) := inb_of S3 ⟨by decide, by decide⟩
  have hat3 : cl3.slots[((1 : Int32)).toNatClampNeg]? = some (.int z1) := H3.at hin3 rfl
  refine W.go (X0.baloadBytes hx (j := (1 : Int32)) (v := (.int z1)) (by rw [e0]; exact Ar3.1) (State.isArrayOf_alike hZ.alike Ar3.2.1) Ar3.2.2 hin3 hat3 (g := (mkF m 33 #[.val (.ref r0), .val (.int (3 : Int32)), .val (.int p2), .val (.int p3), .val (.int p4)] [(.int (1 : Int32)), (.ref r0)])) rfl rfl (hb hby d9_33)) ?_
  show W p e below _ (s₁.setTop (mkF m 34 #[.val (.ref r0), .val (.int (3 : Int32)), .val (.int p2), .val (.int p3), .val (.int p4)] [(.int z1)]))
  refine W.go (fun _ hr => XS.iloadN X0.here hx rfl (hb hby d9_34) rfl hr) ?_
  show W p e below _ (s₁.setTop (mkF m 35 #[.val (.ref r0), .val (.int (3 : Int32)), .val (.int p2), .val (.int p3), .val (.int p4)] [(.int p3), (.int z1)]))
  refine W.go (fun _ hr => XS.i2b X0.here hx rfl (hb hby d9_35) rfl hr) ?_
  show W p e below _ (s₁.setTop (mkF m 36 #[.val (.ref r0), .val (.int (3 : Int32)), .val (.int p2), .val (.int p3), .val (.int p4)] [(.int (p3.toInt8.toInt32)), (.int z1)]))
  refine W.go (fun _ hr => XS.icmpYes X0.here hx rfl (pc0 := 36) (pc' := 41) rfl (hb hby d9_36) rfl (teq (hz1 : (z1 = (p3.toInt8.toInt32)))).1 (by decide) (by decide) hr) ?_
  show W p e below _ (s₁.setTop (mkF m 41 #[.val (.ref r0), .val (.int (3 : Int32)), .val (.int p2), .val (.int p3), .val (.int p4)] []))
  refine W.go (fun _ hr => XS.iloadN X0.here hx rfl (hb hby d9_41) rfl hr) ?_
  show W p e below _ (s₁.setTop (mkF m 42 #[.val (.ref r0), .val (.int (3 : Int32)), .val (.int p2), .val (.int p3), .val (.int p4)] [(.int (3 : Int32))]))
  refine W.go (fun _ hr => XS.iconst X0.here hx rfl (hb hby d9_42) hr) ?_
  show W p e below _ (s₁.setTop (mkF m 43 #[.val (.ref r0), .val (.int (3 : Int32)), .val (.int p2), .val (.int p3), .val (.int p4)] [(.int (2 : Int32)), (.int (3 : Int32))]))
  refine W.go (fun _ hr => XS.icmpNo X0.here hx rfl (hb hby d9_43) rfl (tlt (by decide : ((2 : Int32) < (3 : Int32)))).2.2.2 hr) ?_
  show W p e below _ (s₁.setTop (mkF m 46 #[.val (.ref r0), .val (.int (3 : Int32)), .val (.int p2), .val (.int p3), .val (.int p4)] []))
  refine W.go (fun _ hr => XS.aloadN X0.here hx rfl (hb hby d9_46) rfl rfl hr) ?_
  show W p e below _ (s₁.setTop (mkF m 47 #[.val (.ref r0), .val (.int (3 : Int32)), .val (.int p2), .val (.int p3), .val (.int p4)] [(.ref r0)]))
  refine W.go (fun _ hr => XS.iconst X0.here hx rfl (hb hby d9_47) hr) ?_
  show W p e below _ (s₁.setTop (mkF m 48 #[.val (.ref r0), .val (.int (3 : Int32)), .val (.int p2), .val (.int p3), .val (.int p4)] [(.int (2 : Int32)), (.ref r0)]))
  obtain ⟨cl4, Ar4, q4, S4, Nn4, H4, G4⟩ := id V_r0
  have hin4 : ¬ ((2 : Int32) < 0 ∨ cl4.slots.size ≤ ((2 : Int32)).toNatClampNeg) := inb_of S4 ⟨by decide, by decide⟩
  have hat4 : cl4.slots[((2 : Int32)).toNatClampNeg]? = some (.int z2) := H4.at hin4 rfl
  refine W.go (X0.baloadBytes hx (j := (2 : Int32)) (v := (.int z2)) (by rw [e0]; exact Ar4.1) (State.isArrayOf_alike hZ.alike Ar4.2.1) Ar4.2.2 hin4 hat4 (g := (mkF m 48 #[.val (.ref r0), .val (.int (3 : Int32)), .val (.int p2), .val (.int p3), .val (.int p4)] [(.int (2 : Int32)), (.ref r0)])) rfl rfl (hb hby d9_48)) ?_
  show W p e below _ (s₁.setTop (mkF m 49 #[.val (.ref r0), .val (.int (3 : Int32)), .val (.int p2), .val (.int p3), .val (.int p4)] [(.int z2)]))
  refine W.go (fun _ hr => XS.iload X0.here hx rfl (hb hby d9_49) rfl hr) ?_
  show W p e below _ (s₁.setTop (mkF m 51 #[.val (.ref r0), .val (.int (3 : Int32)), .val (.int p2), .val (.int p3), .val (.int p4)] [(.int p4), (.int z2)]))
  refine W.go (fun _ hr => XS.i2b X0.here hx rfl (hb hby d9_51) rfl hr) ?_
  show W p e below _ (s₁.setTop (mkF m 52 #[.val (.ref r0), .val (.int (3 : Int32)), .val (.int p2), .val (.int p3), .val (.int p4)] [(.int (p4.toInt8.toInt32)), (.int z2)]))
  refine W.go (fun _ hr => XS.icmpYes X0.here hx rfl (pc0 := 52) (pc' := 57) rfl (hb hby d9_52) rfl (teq (hz2 : (z2 = (p4.toInt8.toInt32)))).1 (by decide) (by decide) hr) ?_
  show W p e below _ (s₁.setTop (mkF m 57 #[.val (.ref r0), .val (.int (3 : Int32)), .val (.int p2), .val (.int p3), .val (.int p4)] []))
  refine W.go (fun _ hr => XS.iconst X0.here hx rfl (hb hby d9_57) hr) ?_
  show W p e below _ (s₁.setTop (mkF m 58 #[.val (.ref r0), .val (.int (3 : Int32)), .val (.int p2), .val (.int p3), .val (.int p4)] [(.int (1 : Int32))]))
  exact W.retB X0 hx hlk (t := .boolean) hret (by simp) (hb hby d9_58) (by decide) (by decide) e0 ⟨rfl, N0, rfl⟩
theorem own_and3 (x : Int32) : x &&& 3 = 0 ∨ x &&& 3 = 1 ∨ x &&& 3 = 2 ∨ x &&& 3 = 3 := by
  have q := c_mask x 3 2 (by decide) (by decide)
  have e0 : (0 : Int32).toInt = 0 := rfl
  have e1 : (1 : Int32).toInt = 1 := rfl
  have e2 : (2 : Int32).toInt = 2 := rfl
  have e3 : (3 : Int32).toInt = 3 := rfl
  simp only [← Int32.toInt_inj, e0, e1, e2, e3]
  omega
theorem own_b (x : Int32) : x.toInt8.toInt32.toInt8.toInt32 = x.toInt8.toInt32 := by simp
theorem pd_120 : parseMethodDescriptor "([B)Lcom/example/wireknit/wireknit/Item;" = some ⟨[(.array .byte)], some (.object "com/example/wireknit/wireknit/Item")⟩ := by decide +kernel
theorem pd_121 : parseMethodDescriptor "()Lcom/example/wireknit/wireknit/Item$Type;" = some ⟨[], some (.object "com/example/wireknit/wireknit/Item$Type")⟩ := by decide +kernel
theorem pd_122 : parseMethodDescriptor "([BIIII)V" = some ⟨[(.array .byte), .int, .int, .int, .int], none⟩ := by decide +kernel
theorem pd_123 : parseMethodDescriptor "()[B" = some ⟨[], some (.array .byte)⟩ := by decide +kernel
theorem pd_124 : parseMethodDescriptor "([BIIII)Z" = some ⟨[(.array .byte), .int, .int, .int, .int], some .boolean⟩ := by decide +kernel
def Q_rm0 (Z : State) (p0 : Int32) (p1 : Int32) (p2 : Int32) (p3 : Int32) (w_DATA : Addr) (w_NO_ITEMS : Addr) (w_NO_TAGS : Addr) (w_NO_POSITIONS : Addr) (h0 : Heap) (n0 : Nat) (v : Option Value) (h : Heap) (L : List Loc) : Prop := v = some (.int (1 : Int32)) ∧ Fr n0 L
set_option maxRecDepth 65536 in
set_option maxHeartbeats 40000000 in
theorem rm0 (l : Launch) (Z : State) (a0 : Array Value) (hw : ∀ d ∈ tables_1, d.before a0 Z = true) (p0 : Int32) (p1 : Int32) (p2 : Int32) (p3 : Int32) (w_DATA : Addr) (w_NO_ITEMS : Addr) (w_NO_TAGS : Addr) (w_NO_POSITIONS : Addr) (h0 : Heap) (n0 : Nat) (Z0 : n0 ≤ h0.size) (S_DATA : Sta Z h0 "com/example/wireknit/wireknit/Item$Type" "DATA" "Lcom/example/wireknit/wireknit/Item$Type;" (.ref w_DATA)) (S_NO_ITEMS : Sta Z h0 "com/example/wireknit/wireknit/Item" "NO_ITEMS" "[Lcom/example/wireknit/wireknit/Item;" (.ref w_NO_ITEMS)) (S_NO_TAGS : Sta Z h0 "com/example/wireknit/wireknit/Item" "NO_TAGS" "[Lcom/example/wireknit/wireknit/Item$Tag;" (.ref w_NO_TAGS)) (S_NO_POSITIONS : Sta Z h0 "com/example/wireknit/wireknit/Item" "NO_POSITIONS" "[I" (.ref w_NO_POSITIONS)) :
    Ctr l Z x code maxLocals ret room_1 #[(.int p0), (.int p1), (.int p2), (.int p3)] h0 (Q_rm0 Z p0 p1 p2 p3 w_DATA w_NO_ITEMS w_NO_TAGS w_NO_POSITIONS h0 n0) := by
  refine Ctr.body (fr := fun m => mkF m 0 #[.val (.int p0), .val (.int p1), .val (.int p2), .val (.int p3), .unset, .unset, .unset, .unset, .unset] []) (plainFor_of_name pn_com_example_wireknit_wireknit_ItemDataPinLaw) (fun m => by first | (simp [entryFrame, mkF, argsToLocals, Value.category, maxLocals]; done) | rfl) fun p e s m below meth c s₁ hx hby hml hZ hown hnm hret hlk X0 e0 => ?_
  have N0 := Fr.nil n0
  have hown : s.vm.findClass "com/example/wireknit/wireknit/ItemDataPinLaw" = some m.cls := hown
  show W p e below _ (s₁.setTop (mkF m 0 #[.val (.int p0), .val (.int p1), .val (.int p2), .val (.int p3), .unset, .unset, .unset, .unset, .unset] []))
  refine W.go (fun _ hr => XS.iloadN X0.here hx rfl (hb hby at_0) rfl hr) ?_
  show W p e below _ (s₁.setTop (mkF m 1 #[.val (.int p0), .val (.int p1), .val (.int p2), .val (.int p3), .unset, .unset, .unset, .unset, .unset] [(.int p0)]))
  refine W.go (fun _ hr => XS.iconst X0.here hx rfl (hb hby at_1) hr) ?_
  show W p e below _ (s₁.setTop (mkF m 2 #[.val (.int p0), .val (.int p1), .val (.int p2), .val (.int p3), .unset, .unset, .unset, .unset, .unset] [(.int (3 : Int32)), (.int p0)]))
  refine W.go (fun _ hr => XS.iand X0.here hx rfl (hb hby at_2) rfl hr) ?_
  show W p e below _ (s₁.setTop (mkF m 3 #[.val (.int p0), .val (.int p1), .val (.int p2), .val (.int p3), .unset, .unset, .unset, .unset, .unset] [(.int (p0 &&& (3 : Int32)))]))
  rcases own_and3 p0 with q | q | q | q
  · rw [q]
    show W p e below _ (s₁.setTop (mkF m 3 #[.val (.int p0), .val (.int p1), .val (.int p2), .val (.int p3), .unset, .unset, .unset, .unset, .unset] [(.int (0 : Int32))]))
    refine W.go (fun _ hr => XS.istore X0.here hx rfl (hb hby at_3) rfl (l' := #[.val (.int p0), .val (.int p1), .val (.int p2), .val (.int p3), .val (.int (0 : Int32)), .unset, .unset, .unset, .unset]) rfl hr) ?_
    show W p e below _ (s₁.setTop (mkF m 5 #[.val (.int p0), .val (.int p1), .val (.int p2), .val (.int p3), .val (.int (0 : Int32)), .unset, .unset, .unset, .unset] []))
    refine W.go (fun _ hr => XS.iload X0.here hx rfl (hb hby at_5) rfl hr) ?_
    show W p e below _ (s₁.setTop (mkF m 7 #[.val (.int p0), .val (.int p1), .val (.int p2), .val (.int p3), .val (.int (0 : Int32)), .unset, .unset, .unset, .unset] [(.int (0 : Int32))]))
    obtain ⟨T1, h1, k1, X1, e1, E1, A1, E_b1, st1⟩ := newPE X0 hx hZ (hw _ (List.mem_of_getElem? (i := 0) rfl)) e0 (g := (mkF m 7 #[.val (.int p0), .val (.int p1), .val (.int p2), .val (.int p3), .val (.int (0 : Int32)), .unset, .unset, .unset, .unset] [(.int (0 : Int32))])) rfl (hb hby at_7) rfl (by decide) (cap := 0) (by decide) (by decide) (by decide) (by decide) (ad := "[B") (by decide)
    obtain ⟨b1, g1⟩ : ∃ z, z = h0.size := ⟨_, rfl⟩
    rw [← g1] at A1 E_b1 st1
    have g_b1 : n0 ≤ b1 := Nat.le_trans Z0 (Nat.le_of_eq g1.symm)
    replace S_DATA := Sta.ext E1 S_DATA
    replace S_NO_ITEMS := Sta.ext E1 S_NO_ITEMS
    replace S_NO_TAGS := Sta.ext E1 S_NO_TAGS
    replace S_NO_POSITIONS := Sta.ext E1 S_NO_POSITIONS
    have Z2 : n0 ≤ h1.size := Nat.le_trans Z0 E1.1
    have V_b1 : Arv Z h1 b1 k1 .byte (0 : Int32) [] (.int (0 : Int32)) := Arv.new A1 (by decide)
    refine W.go st1 ?_
    show W p e below _ (T1.setTop (mkF m 9 #[.val (.int p0), .val (.int p1), .val (.int p2), .val (.int p3), .val (.int (0 : Int32)), .unset, .unset, .unset, .unset] [(.ref b1)]))
    refine W.go (fun _ hr => XS.astore X1.here hx rfl (hb hby at_9) rfl rfl (l' := #[.val (.int p0), .val (.int p1), .val (.int p2), .val (.int p3), .val (.int (0 : Int32)), .val (.ref b1), .unset, .unset, .unset]) rfl hr) ?_
    show W p e below _ (T1.setTop (mkF m 11 #[.val (.int p0), .val (.int p1), .val (.int p2), .val (.int p3), .val (.int (0 : Int32)), .val (.ref b1), .unset, .unset, .unset] []))
    refine W.go (fun _ hr => XS.iload X1.here hx rfl (hb hby at_11) rfl hr) ?_
    show W p e below _ (T1.setTop (mkF m 13 #[.val (.int p0), .val (.int p1), .val (.int p2), .val (.int p3), .val (.int (0 : Int32)), .val (.ref b1), .unset, .unset, .unset] [(.int (0 : Int32))]))
    refine W.go (fun _ hr => XS.ifYes X1.here hx rfl (pc0 := 13) (pc' := 22) rfl (hb hby at_13) rfl ((if0 _ _).trans (flt (by decide : ¬ ((0 : Int32) < (0 : Int32)))).2.2.2) (by decide) (by decide) hr) ?_
    show W p e below _ (T1.setTop (mkF m 22 #[.val (.int p0), .val (.int p1), .val (.int p2), .val (.int p3), .val (.int (0 : Int32)), .val (.ref b1), .unset, .unset, .unset] []))
    refine W.go (fun _ hr => XS.iload X1.here hx rfl (hb hby at_22) rfl hr) ?_
    show W p e below _ (T1.setTop (mkF m 24 #[.val (.int p0), .val (.int p1), .val (.int p2), .val (.int p3), .val (.int (0 : Int32)), .val (.ref b1), .unset, .unset, .unset] [(.int (0 : Int32))]))
    refine W.go (fun _ hr => XS.iconst X1.here hx rfl (hb hby at_24) hr) ?_
    show W p e below _ (T1.setTop (mkF m 25 #[.val (.int p0), .val (.int p1), .val (.int p2), .val (.int p3), .val (.int (0 : Int32)), .val (.ref b1), .unset, .unset, .unset] [(.int (1 : Int32)), (.int (0 : Int32))]))
    refine W.go (fun _ hr => XS.icmpYes X1.here hx rfl (pc0 := 25) (pc' := 34) rfl (hb hby at_25) rfl (flt (by decide : ¬ ((1 : Int32) < (0 : Int32)))).2.2.2 (by decide) (by decide) hr) ?_
    show W p e below _ (T1.setTop (mkF m 34 #[.val (.int p0), .val (.int p1), .val (.int p2), .val (.int p3), .val (.int (0 : Int32)), .val (.ref b1), .unset, .unset, .unset] []))
    refine W.go (fun _ hr => XS.iload X1.here hx rfl (hb hby at_34) rfl hr) ?_
    show W p e below _ (T1.setTop (mkF m 36 #[.val (.int p0), .val (.int p1), .val (.int p2), .val (.int p3), .val (.int (0 : Int32)), .val (.ref b1), .unset, .unset, .unset] [(.int (0 : Int32))]))
    refine W.go (fun _ hr => XS.iconst X1.here hx rfl (hb hby at_36) hr) ?_
    show W p e below _ (T1.setTop (mkF m 37 #[.val (.int p0), .val (.int p1), .val (.int p2), .val (.int p3), .val (.int (0 : Int32)), .val (.ref b1), .unset, .unset, .unset] [(.int (2 : Int32)), (.int (0 : Int32))]))
    refine W.go (fun _ hr => XS.icmpYes X1.here hx rfl (pc0 := 37) (pc' := 46) rfl (hb hby at_37) rfl (flt (by decide : ¬ ((2 : Int32) < (0 : Int32)))).2.2.2 (by decide) (by decide) hr) ?_
    show W p e below _ (T1.setTop (mkF m 46 #[.val (.int p0), .val (.int p1), .val (.int p2), .val (.int p3), .val (.int (0 : Int32)), .val (.ref b1), .unset, .unset, .unset] []))
    refine W.go (fun _ hr => XS.aload X1.here hx rfl (hb hby at_46) rfl rfl hr) ?_
    show W p e below _ (T1.setTop (mkF m 48 #[.val (.int p0), .val (.int p1), .val (.int p2), .val (.int p3), .val (.int (0 : Int32)), .val (.ref b1), .unset, .unset, .unset] [(.ref b1)]))
    refine W.callS X1 hx hZ hown (g := (mkF m 48 #[.val (.int p0), .val (.int p1), .val (.int p2), .val (.int p3), .val (.int (0 : Int32)), .val (.ref b1), .unset, .unset, .unset] [(.ref b1)])) (by rw [hml]; rfl) (hw _ (List.mem_of_getElem? (i := 1) rfl)) (hw _ (List.mem_of_getElem? (i := 2) rfl)) (hw _ (List.mem_of_getElem? (i := 3) rfl)) (hw _ (List.mem_of_getElem? (i := 4) rfl)) e1 (rm1_0 l Z a0 hw b1   k1 w_DATA w_NO_ITEMS w_NO_TAGS w_NO_POSITIONS h1 n0 Z2 E_b1 V_b1 S_DATA S_NO_ITEMS S_NO_TAGS S_NO_POSITIONS) (by decide) pd_120 rfl (argsL := [(.ref b1)]) (rest := []) rfl rfl rfl (hb hby at_48) (W0 := 0) rfl (by decide) (by decide) (by decide) (by decide) (fun v3 T3 h3 L3 X3 e3 hQ3 => ?_)
    obtain ⟨o3, d3, rfl, N3q, K3, so3, sd3, nod3, E_o3, E_d3, F_type_o3, F_data_o3, V_d3⟩ := hQ3
    have N3 := Fr.app N0 N3q
    have ne_b1_o3 : b1 ≠ o3 := Nat.ne_of_lt (Nat.lt_of_lt_of_le E_b1.lt so3)
    have ne_b1_d3 : b1 ≠ d3 := Nat.ne_of_lt (Nat.lt_of_lt_of_le E_b1.lt sd3)
    have g_o3 : n0 ≤ o3 := Nat.le_trans Z2 so3
    replace S_DATA := Sta.keep S_DATA K3 ns0
    replace S_NO_ITEMS := Sta.keep S_NO_ITEMS K3 ns0
    replace S_NO_TAGS := Sta.keep S_NO_TAGS K3 ns0
    replace S_NO_POSITIONS := Sta.keep S_NO_POSITIONS K3 ns0
    replace E_b1 := E_b1.keep K3
    replace V_b1 := V_b1.keep K3 nin0
    have Z4 : n0 ≤ h3.size := Nat.le_trans Z2 K3.1
    show W p e below _ (T3.setTop (mkF m 51 #[.val (.int p0), .val (.int p1), .val (.int p2), .val (.int p3), .val (.int (0 : Int32)), .val (.ref b1), .unset, .unset, .unset] [(.ref o3)]))
    refine W.go (fun _ hr => XS.astore X3.here hx rfl (hb hby at_51) rfl rfl (l' := #[.val (.int p0), .val (.int p1), .val (.int p2), .val (.int p3), .val (.int (0 : Int32)), .val (.ref b1), .val (.ref o3), .unset, .unset]) rfl hr) ?_
    show W p e below _ (T3.setTop (mkF m 53 #[.val (.int p0), .val (.int p1), .val (.int p2), .val (.int p3), .val (.int (0 : Int32)), .val (.ref b1), .val (.ref o3), .unset, .unset] []))
    refine W.go (fun _ hr => XS.aload X3.here hx rfl (hb hby at_53) rfl rfl hr) ?_
    show W p e below _ (T3.setTop (mkF m 55 #[.val (.int p0), .val (.int p1), .val (.int p2), .val (.int p3), .val (.int (0 : Int32)), .val (.ref b1), .val (.ref o3), .unset, .unset] [(.ref o3)]))
    refine W.go (fun _ hr => XS.ifnonnullYes X3.here hx rfl (pc0 := 55) (pc' := 60) rfl (hb hby at_55) rfl (by decide) (by decide) hr) ?_
    show W p e below _ (T3.setTop (mkF m 60 #[.val (.int p0), .val (.int p1), .val (.int p2), .val (.int p3), .val (.int (0 : Int32)), .val (.ref b1), .val (.ref o3), .unset, .unset] []))
    refine W.go (fun _ hr => XS.aload X3.here hx rfl (hb hby at_60) rfl rfl hr) ?_
    show W p e below _ (T3.setTop (mkF m 62 #[.val (.int p0), .val (.int p1), .val (.int p2), .val (.int p3), .val (.int (0 : Int32)), .val (.ref b1), .val (.ref o3), .unset, .unset] [(.ref o3)]))
    refine W.callV X3 hx hZ hown (g := (mkF m 62 #[.val (.int p0), .val (.int p1), .val (.int p2), .val (.int p3), .val (.int (0 : Int32)), .val (.ref b1), .val (.ref o3), .unset, .unset] [(.ref o3)])) (by rw [hml]; rfl) (hw _ (List.mem_of_getElem? (i := 44) rfl)) (hw _ (List.mem_of_getElem? (i := 45) rfl)) (hw _ (List.mem_of_getElem? (i := 47) rfl)) (hw _ (List.mem_of_getElem? (i := 46) rfl)) (hw _ (List.mem_of_getElem? (i := 3) rfl)) (hw _ (List.mem_of_getElem? (i := 48) rfl)) e3 (rm5 l Z a0 hw o3 w_DATA h3 n0 Z4 F_type_o3) (notFace_of_selects (args := #[]) (mvT hZ (hw _ (List.mem_of_getElem? (i := 47) rfl)))) (by decide) pd_121 rfl E_o3 (argsL := []) (rest := []) rfl rfl rfl (hb hby at_62) (W0 := 0) rfl (by decide) (by decide) (by decide) (by decide) (fun v5 T5 h5 L5 X5 e5 hQ5 => ?_)
    obtain ⟨rfl, N5q, hh5⟩ := hQ5
    obtain rfl := hh5.symm
    have N5 := Fr.app N3 N5q
    show W p e below _ (T5.setTop (mkF m 65 #[.val (.int p0), .val (.int p1), .val (.int p2), .val (.int p3), .val (.int (0 : Int32)), .val (.ref b1), .val (.ref o3), .unset, .unset] [(.ref w_DATA)]))
    obtain ⟨T6, X6, e6, st6⟩ := getS2 X5 hx hZ hown (host := "") (Or.inl (hw _ (List.mem_of_getElem? (i := 49) rfl))) Via.refl e5 S_DATA (g := (mkF m 65 #[.val (.int p0), .val (.int p1), .val (.int p2), .val (.int p3), .val (.int (0 : Int32)), .val (.ref b1), .val (.ref o3), .unset, .unset] [(.ref w_DATA)])) rfl (hb hby at_65)
    refine W.go st6 ?_
    show W p e below _ (T6.setTop (mkF m 68 #[.val (.int p0), .val (.int p1), .val (.int p2), .val (.int p3), .val (.int (0 : Int32)), .val (.ref b1), .val (.ref o3), .unset, .unset] [(.ref w_DATA), (.ref w_DATA)]))
    refine W.go (fun _ hr => Jvm.RoadKit.acmp (g := (mkF m 68 #[.val (.int p0), .val (.int p1), .val (.int p2), .val (.int p3), .val (.int (0 : Int32)), .val (.ref b1), .val (.ref o3), .unset, .unset] [(.ref w_DATA), (.ref w_DATA)])) X6 hx rfl rfl rfl (pc0 := 68) (pc' := 73) (same := true) rfl (hb hby at_68) rfl (decide_eq_true rfl) (by decide) (by decide) hr) ?_
    show W p e below _ (T6.setTop (mkF m 73 #[.val (.int p0), .val (.int p1), .val (.int p2), .val (.int p3), .val (.int (0 : Int32)), .val (.ref b1), .val (.ref o3), .unset, .unset] []))
    refine W.go (fun _ hr => XS.aload X6.here hx rfl (hb hby at_73) rfl rfl hr) ?_
    show W p e below _ (T6.setTop (mkF m 75 #[.val (.int p0), .val (.int p1), .val (.int p2), .val (.int p3), .val (.int (0 : Int32)), .val (.ref b1), .val (.ref o3), .unset, .unset] [(.ref b1)]))
    refine W.go (fun _ hr => XS.iload X6.here hx rfl (hb hby at_75) rfl hr) ?_
    show W p e below _ (T6.setTop (mkF m 77 #[.val (.int p0), .val (.int p1), .val (.int p2), .val (.int p3), .val (.int (0 : Int32)), .val (.ref b1), .val (.ref o3), .unset, .unset] [(.int (0 : Int32)), (.ref b1)]))
    refine W.go (fun _ hr => XS.iloadN X6.here hx rfl (hb hby at_77) rfl hr) ?_
    show W p e below _ (T6.setTop (mkF m 78 #[.val (.int p0), .val (.int p1), .val (.int p2), .val (.int p3), .val (.int (0 : Int32)), .val (.ref b1), .val (.ref o3), .unset, .unset] [(.int p1), (.int (0 : Int32)), (.ref b1)]))
    refine W.go (fun _ hr => XS.iloadN X6.here hx rfl (hb hby at_78) rfl hr) ?_
    show W p e below _ (T6.setTop (mkF m 79 #[.val (.int p0), .val (.int p1), .val (.int p2), .val (.int p3), .val (.int (0 : Int32)), .val (.ref b1), .val (.ref o3), .unset, .unset] [(.int p2), (.int p1), (.int (0 : Int32)), (.ref b1)]))
    refine W.go (fun _ hr => XS.iloadN X6.here hx rfl (hb hby at_79) rfl hr) ?_
    show W p e below _ (T6.setTop (mkF m 80 #[.val (.int p0), .val (.int p1), .val (.int p2), .val (.int p3), .val (.int (0 : Int32)), .val (.ref b1), .val (.ref o3), .unset, .unset] [(.int p3), (.int p2), (.int p1), (.int (0 : Int32)), (.ref b1)]))
    refine W.callS X6 hx hZ hown (g := (mkF m 80 #[.val (.int p0), .val (.int p1), .val (.int p2), .val (.int p3), .val (.int (0 : Int32)), .val (.ref b1), .val (.ref o3), .unset, .unset] [(.int p3), (.int p2), (.int p1), (.int (0 : Int32)), (.ref b1)])) (by rw [hml]; rfl) (hw _ (List.mem_of_getElem? (i := 50) rfl)) (hw _ (List.mem_of_getElem? (i := 51) rfl)) (hw _ (List.mem_of_getElem? (i := 52) rfl)) (hw _ (List.mem_of_getElem? (i := 53) rfl)) e6 (rm6_0 l Z a0 hw b1 p1 p2 p3   k1 h3 n0 Z4 E_b1 V_b1 g_b1) (by decide) pd_122 rfl (argsL := [(.ref b1), (.int (0 : Int32)), (.int p1), (.int p2), (.int p3)]) (rest := []) rfl rfl rfl (hb hby at_80) (W0 := 0) rfl (by decide) (by decide) (by decide) (by decide) (fun v7 T7 h7 L7 X7 e7 hQ7 => ?_)
    obtain ⟨rfl, N7q, K7, Ee7, vs7, Vs7⟩ := hQ7
    have N7 := Fr.app N5 N7q
    have nsK7 := (nsS E_b1.nostat ns0)
    replace S_DATA := Sta.keep S_DATA K7 nsK7
    replace S_NO_ITEMS := Sta.keep S_NO_ITEMS K7 nsK7
    replace S_NO_TAGS := Sta.keep S_NO_TAGS K7 nsK7
    replace S_NO_POSITIONS := Sta.keep S_NO_POSITIONS K7 nsK7
    replace E_b1 := E_b1.keep K7
    replace E_o3 := E_o3.keep K7
    replace E_d3 := E_d3.keep K7
    replace F_type_o3 := F_type_o3.keep K7 (ninS (Ne.symm ne_b1_o3) nin0)
    replace F_data_o3 := F_data_o3.keep K7 (ninS (Ne.symm ne_b1_o3) nin0)
    replace V_d3 := V_d3.keep K7 (ninS (Ne.symm ne_b1_d3) nin0)
    have Z8 : n0 ≤ h7.size := Nat.le_trans Z4 K7.1
    show W p e below _ (T7.setTop (mkF m 83 #[.val (.int p0), .val (.int p1), .val (.int p2), .val (.int p3), .val (.int (0 : Int32)), .val (.ref b1), .val (.ref o3), .unset, .unset] []))
    refine W.go (fun _ hr => XS.aload X7.here hx rfl (hb hby at_83) rfl rfl hr) ?_
    show W p e below _ (T7.setTop (mkF m 85 #[.val (.int p0), .val (.int p1), .val (.int p2), .val (.int p3), .val (.int (0 : Int32)), .val (.ref b1), .val (.ref o3), .unset, .unset] [(.ref o3)]))
    refine W.callV X7 hx hZ hown (g := (mkF m 85 #[.val (.int p0), .val (.int p1), .val (.int p2), .val (.int p3), .val (.int (0 : Int32)), .val (.ref b1), .val (.ref o3), .unset, .unset] [(.ref o3)])) (by rw [hml]; rfl) (hw _ (List.mem_of_getElem? (i := 54) rfl)) (hw _ (List.mem_of_getElem? (i := 55) rfl)) (hw _ (List.mem_of_getElem? (i := 57) rfl)) (hw _ (List.mem_of_getElem? (i := 56) rfl)) (hw _ (List.mem_of_getElem? (i := 3) rfl)) (hw _ (List.mem_of_getElem? (i := 58) rfl)) e7 (rm7_0 l Z a0 hw o3   k1 w_DATA d3 h7 n0 Z8 E_o3 F_type_o3 F_data_o3 E_d3 V_d3 S_DATA) (notFace_of_selects (args := #[]) (mvT hZ (hw _ (List.mem_of_getElem? (i := 57) rfl)))) (by decide) pd_123 rfl E_o3 (argsL := []) (rest := []) rfl rfl rfl (hb hby at_85) (W0 := 0) rfl (by decide) (by decide) (by decide) (by decide) (fun v9 T9 h9 L9 X9 e9 hQ9 => ?_)
    obtain ⟨b9, rfl, N9q, K9, sb9, E_b9, V_b9⟩ := hQ9
    have N9 := Fr.app N7 N9q
    have ne_b1_b9 : b1 ≠ b9 := Nat.ne_of_lt (Nat.lt_of_lt_of_le E_b1.lt sb9)
    have ne_o3_b9 : o3 ≠ b9 := Nat.ne_of_lt (Nat.lt_of_lt_of_le E_o3.lt sb9)
    have ne_d3_b9 : d3 ≠ b9 := Nat.ne_of_lt (Nat.lt_of_lt_of_le E_d3.lt sb9)
    have g_b9 : n0 ≤ b9 := Nat.le_trans Z8 sb9
    replace S_DATA := Sta.keep S_DATA K9 ns0
    replace S_NO_ITEMS := Sta.keep S_NO_ITEMS K9 ns0
    replace S_NO_TAGS := Sta.keep S_NO_TAGS K9 ns0
    replace S_NO_POSITIONS := Sta.keep S_NO_POSITIONS K9 ns0
    replace E_b1 := E_b1.keep K9
    replace E_o3 := E_o3.keep K9
    replace E_d3 := E_d3.keep K9
    replace F_type_o3 := F_type_o3.keep K9 nin0
    replace F_data_o3 := F_data_o3.keep K9 nin0
    replace V_d3 := V_d3.keep K9 nin0
    have Z10 : n0 ≤ h9.size := Nat.le_trans Z8 K9.1
    show W p e below _ (T9.setTop (mkF m 88 #[.val (.int p0), .val (.int p1), .val (.int p2), .val (.int p3), .val (.int (0 : Int32)), .val (.ref b1), .val (.ref o3), .unset, .unset] [(.ref b9)]))
    refine W.go (fun _ hr => XS.astore X9.here hx rfl (hb hby at_88) rfl rfl (l' := #[.val (.int p0), .val (.int p1), .val (.int p2), .val (.int p3), .val (.int (0 : Int32)), .val (.ref b1), .val (.ref o3), .val (.ref b9), .unset]) rfl hr) ?_
    show W p e below _ (T9.setTop (mkF m 90 #[.val (.int p0), .val (.int p1), .val (.int p2), .val (.int p3), .val (.int (0 : Int32)), .val (.ref b1), .val (.ref o3), .val (.ref b9), .unset] []))
    refine W.go (fun _ hr => XS.aload X9.here hx rfl (hb hby at_90) rfl rfl hr) ?_
    show W p e below _ (T9.setTop (mkF m 92 #[.val (.int p0), .val (.int p1), .val (.int p2), .val (.int p3), .val (.int (0 : Int32)), .val (.ref b1), .val (.ref o3), .val (.ref b9), .unset] [(.ref b9)]))
    refine W.go (fun _ hr => XS.iload X9.here hx rfl (hb hby at_92) rfl hr) ?_
    show W p e below _ (T9.setTop (mkF m 94 #[.val (.int p0), .val (.int p1), .val (.int p2), .val (.int p3), .val (.int (0 : Int32)), .val (.ref b1), .val (.ref o3), .val (.ref b9), .unset] [(.int (0 : Int32)), (.ref b9)]))
    refine W.go (fun _ hr => XS.iloadN X9.here hx rfl (hb hby at_94) rfl hr) ?_
    show W p e below _ (T9.setTop (mkF m 95 #[.val (.int p0), .val (.int p1), .val (.int p2), .val (.int p3), .val (.int (0 : Int32)), .val (.ref b1), .val (.ref o3), .val (.ref b9), .unset] [(.int p1), (.int (0 : Int32)), (.ref b9)]))
    refine W.go (fun _ hr => XS.iloadN X9.here hx rfl (hb hby at_95) rfl hr) ?_
    show W p e below _ (T9.setTop (mkF m 96 #[.val (.int p0), .val (.int p1), .val (.int p2), .val (.int p3), .val (.int (0 : Int32)), .val (.ref b1), .val (.ref o3), .val (.ref b9), .unset] [(.int p2), (.int p1), (.int (0 : Int32)), (.ref b9)]))
    refine W.go (fun _ hr => XS.iloadN X9.here hx rfl (hb hby at_96) rfl hr) ?_
    show W p e below _ (T9.setTop (mkF m 97 #[.val (.int p0), .val (.int p1), .val (.int p2), .val (.int p3), .val (.int (0 : Int32)), .val (.ref b1), .val (.ref o3), .val (.ref b9), .unset] [(.int p3), (.int p2), (.int p1), (.int (0 : Int32)), (.ref b9)]))
    refine W.callS X9 hx hZ hown (g := (mkF m 97 #[.val (.int p0), .val (.int p1), .val (.int p2), .val (.int p3), .val (.int (0 : Int32)), .val (.ref b1), .val (.ref o3), .val (.ref b9), .unset] [(.int p3), (.int p2), (.int p1), (.int (0 : Int32)), (.ref b9)])) (by rw [hml]; rfl) (hw _ (List.mem_of_getElem? (i := 63) rfl)) (hw _ (List.mem_of_getElem? (i := 64) rfl)) (hw _ (List.mem_of_getElem? (i := 52) rfl)) (hw _ (List.mem_of_getElem? (i := 65) rfl)) e9 (rm9_0 l Z a0 hw b9 p1 p2 p3   k1 h9 n0 Z10 V_b9 ) (by decide) pd_124 rfl (argsL := [(.ref b9), (.int (0 : Int32)), (.int p1), (.int p2), (.int p3)]) (rest := []) rfl rfl rfl (hb hby at_97) (W0 := 0) rfl (by decide) (by decide) (by decide) (by decide) (fun v11 T11 h11 L11 X11 e11 hQ11 => ?_)
    obtain ⟨rfl, N11q, hh11⟩ := hQ11
    obtain rfl := hh11.symm
    have N11 := Fr.app N9 N11q
    show W p e below _ (T11.setTop (mkF m 100 #[.val (.int p0), .val (.int p1), .val (.int p2), .val (.int p3), .val (.int (0 : Int32)), .val (.ref b1), .val (.ref o3), .val (.ref b9), .unset] [(.int (1 : Int32))]))
    refine W.go (fun _ hr => XS.ifYes X11.here hx rfl (pc0 := 100) (pc' := 105) rfl (hb hby at_100) rfl ((if0 _ _).trans (feq (by decide : ¬ ((1 : Int32) = (0 : Int32)))).2) (by decide) (by decide) hr) ?_
    show W p e below _ (T11.setTop (mkF m 105 #[.val (.int p0), .val (.int p1), .val (.int p2), .val (.int p3), .val (.int (0 : Int32)), .val (.ref b1), .val (.ref o3), .val (.ref b9), .unset] []))
    refine W.go (fun _ hr => XS.aload X11.here hx rfl (hb hby at_105) rfl rfl hr) ?_
    show W p e below _ (T11.setTop (mkF m 107 #[.val (.int p0), .val (.int p1), .val (.int p2), .val (.int p3), .val (.int (0 : Int32)), .val (.ref b1), .val (.ref o3), .val (.ref b9), .unset] [(.ref b9)]))
    refine W.go (fun _ hr => XS.iload X11.here hx rfl (hb hby at_107) rfl hr) ?_
    show W p e below _ (T11.setTop (mkF m 109 #[.val (.int p0), .val (.int p1), .val (.int p2), .val (.int p3), .val (.int (0 : Int32)), .val (.ref b1), .val (.ref o3), .val (.ref b9), .unset] [(.int (0 : Int32)), (.ref b9)]))
    refine W.go (fun _ hr => XS.iloadN X11.here hx rfl (hb hby at_109) rfl hr) ?_
    show W p e below _ (T11.setTop (mkF m 110 #[.val (.int p0), .val (.int p1), .val (.int p2), .val (.int p3), .val (.int (0 : Int32)), .val (.ref b1), .val (.ref o3), .val (.ref b9), .unset] [(.int p1), (.int (0 : Int32)), (.ref b9)]))
    refine W.go (fun _ hr => XS.iloadN X11.here hx rfl (hb hby at_110) rfl hr) ?_
    show W p e below _ (T11.setTop (mkF m 111 #[.val (.int p0), .val (.int p1), .val (.int p2), .val (.int p3), .val (.int (0 : Int32)), .val (.ref b1), .val (.ref o3), .val (.ref b9), .unset] [(.int p2), (.int p1), (.int (0 : Int32)), (.ref b9)]))
    refine W.go (fun _ hr => XS.iloadN X11.here hx rfl (hb hby at_111) rfl hr) ?_
    show W p e below _ (T11.setTop (mkF m 112 #[.val (.int p0), .val (.int p1), .val (.int p2), .val (.int p3), .val (.int (0 : Int32)), .val (.ref b1), .val (.ref o3), .val (.ref b9), .unset] [(.int p3), (.int p2), (.int p1), (.int (0 : Int32)), (.ref b9)]))
    refine W.callS X11 hx hZ hown (g := (mkF m 112 #[.val (.int p0), .val (.int p1), .val (.int p2), .val (.int p3), .val (.int (0 : Int32)), .val (.ref b1), .val (.ref o3), .val (.ref b9), .unset] [(.int p3), (.int p2), (.int p1), (.int (0 : Int32)), (.ref b9)])) (by rw [hml]; rfl) (hw _ (List.mem_of_getElem? (i := 50) rfl)) (hw _ (List.mem_of_getElem? (i := 51) rfl)) (hw _ (List.mem_of_getElem? (i := 52) rfl)) (hw _ (List.mem_of_getElem? (i := 53) rfl)) e11 (rm6_0 l Z a0 hw b9 p1 p2 p3   k1 h9 n0 Z10 E_b9 V_b9 g_b9) (by decide) pd_122 rfl (argsL := [(.ref b9), (.int (0 : Int32)), (.int p1), (.int p2), (.int p3)]) (rest := []) rfl rfl rfl (hb hby at_112) (W0 := 0) rfl (by decide) (by decide) (by decide) (by decide) (fun v12 T12 h12 L12 X12 e12 hQ12 => ?_)
    obtain ⟨rfl, N12q, K12, Ee12, vs12, Vs12⟩ := hQ12
    have N12 := Fr.app N11 N12q
    have nsK12 := (nsS E_b9.nostat ns0)
    replace S_DATA := Sta.keep S_DATA K12 nsK12
    replace S_NO_ITEMS := Sta.keep S_NO_ITEMS K12 nsK12
    replace S_NO_TAGS := Sta.keep S_NO_TAGS K12 nsK12
    replace S_NO_POSITIONS := Sta.keep S_NO_POSITIONS K12 nsK12
    replace E_b1 := E_b1.keep K12
    replace E_o3 := E_o3.keep K12
    replace E_d3 := E_d3.keep K12
    replace F_type_o3 := F_type_o3.keep K12 (ninS ne_o3_b9 nin0)
    replace F_data_o3 := F_data_o3.keep K12 (ninS ne_o3_b9 nin0)
    replace V_d3 := V_d3.keep K12 (ninS ne_d3_b9 nin0)
    replace E_b9 := E_b9.keep K12
    have Z13 : n0 ≤ h12.size := Nat.le_trans Z10 K12.1
    show W p e below _ (T12.setTop (mkF m 115 #[.val (.int p0), .val (.int p1), .val (.int p2), .val (.int p3), .val (.int (0 : Int32)), .val (.ref b1), .val (.ref o3), .val (.ref b9), .unset] []))
    refine W.go (fun _ hr => XS.aload X12.here hx rfl (hb hby at_115) rfl rfl hr) ?_
    show W p e below _ (T12.setTop (mkF m 117 #[.val (.int p0), .val (.int p1), .val (.int p2), .val (.int p3), .val (.int (0 : Int32)), .val (.ref b1), .val (.ref o3), .val (.ref b9), .unset] [(.ref o3)]))
    refine W.callV X12 hx hZ hown (g := (mkF m 117 #[.val (.int p0), .val (.int p1), .val (.int p2), .val (.int p3), .val (.int (0 : Int32)), .val (.ref b1), .val (.ref o3), .val (.ref b9), .unset] [(.ref o3)])) (by rw [hml]; rfl) (hw _ (List.mem_of_getElem? (i := 54) rfl)) (hw _ (List.mem_of_getElem? (i := 55) rfl)) (hw _ (List.mem_of_getElem? (i := 57) rfl)) (hw _ (List.mem_of_getElem? (i := 56) rfl)) (hw _ (List.mem_of_getElem? (i := 3) rfl)) (hw _ (List.mem_of_getElem? (i := 58) rfl)) e12 (rm7_0 l Z a0 hw o3   k1 w_DATA d3 h12 n0 Z13 E_o3 F_type_o3 F_data_o3 E_d3 V_d3 S_DATA) (notFace_of_selects (args := #[]) (mvT hZ (hw _ (List.mem_of_getElem? (i := 57) rfl)))) (by decide) pd_123 rfl E_o3 (argsL := []) (rest := []) rfl rfl rfl (hb hby at_117) (W0 := 0) rfl (by decide) (by decide) (by decide) (by decide) (fun v14 T14 h14 L14 X14 e14 hQ14 => ?_)
    obtain ⟨b14, rfl, N14q, K14, sb14, E_b14, V_b14⟩ := hQ14
    have N14 := Fr.app N12 N14q
    have ne_b1_b14 : b1 ≠ b14 := Nat.ne_of_lt (Nat.lt_of_lt_of_le E_b1.lt sb14)
    have ne_o3_b14 : o3 ≠ b14 := Nat.ne_of_lt (Nat.lt_of_lt_of_le E_o3.lt sb14)
    have ne_d3_b14 : d3 ≠ b14 := Nat.ne_of_lt (Nat.lt_of_lt_of_le E_d3.lt sb14)
    have ne_b9_b14 : b9 ≠ b14 := Nat.ne_of_lt (Nat.lt_of_lt_of_le E_b9.lt sb14)
    have g_b14 : n0 ≤ b14 := Nat.le_trans Z13 sb14
    replace S_DATA := Sta.keep S_DATA K14 ns0
    replace S_NO_ITEMS := Sta.keep S_NO_ITEMS K14 ns0
    replace S_NO_TAGS := Sta.keep S_NO_TAGS K14 ns0
    replace S_NO_POSITIONS := Sta.keep S_NO_POSITIONS K14 ns0
    replace E_b1 := E_b1.keep K14
    replace E_o3 := E_o3.keep K14
    replace E_d3 := E_d3.keep K14
    replace F_type_o3 := F_type_o3.keep K14 nin0
    replace F_data_o3 := F_data_o3.keep K14 nin0
    replace V_d3 := V_d3.keep K14 nin0
    replace E_b9 := E_b9.keep K14
    have Z15 : n0 ≤ h14.size := Nat.le_trans Z13 K14.1
    show W p e below _ (T14.setTop (mkF m 120 #[.val (.int p0), .val (.int p1), .val (.int p2), .val (.int p3), .val (.int (0 : Int32)), .val (.ref b1), .val (.ref o3), .val (.ref b9), .unset] [(.ref b14)]))
    refine W.go (fun _ hr => XS.astore X14.here hx rfl (hb hby at_120) rfl rfl (l' := #[.val (.int p0), .val (.int p1), .val (.int p2), .val (.int p3), .val (.int (0 : Int32)), .val (.ref b1), .val (.ref o3), .val (.ref b9), .val (.ref b14)]) rfl hr) ?_
    show W p e below _ (T14.setTop (mkF m 122 #[.val (.int p0), .val (.int p1), .val (.int p2), .val (.int p3), .val (.int (0 : Int32)), .val (.ref b1), .val (.ref o3), .val (.ref b9), .val (.ref b14)] []))
    refine W.go (fun _ hr => XS.aload X14.here hx rfl (hb hby at_122) rfl rfl hr) ?_
    show W p e below _ (T14.setTop (mkF m 124 #[.val (.int p0), .val (.int p1), .val (.int p2), .val (.int p3), .val (.int (0 : Int32)), .val (.ref b1), .val (.ref o3), .val (.ref b9), .val (.ref b14)] [(.ref b14)]))
    refine W.go (fun _ hr => XS.iload X14.here hx rfl (hb hby at_124) rfl hr) ?_
    show W p e below _ (T14.setTop (mkF m 126 #[.val (.int p0), .val (.int p1), .val (.int p2), .val (.int p3), .val (.int (0 : Int32)), .val (.ref b1), .val (.ref o3), .val (.ref b9), .val (.ref b14)] [(.int (0 : Int32)), (.ref b14)]))
    refine W.go (fun _ hr => XS.iloadN X14.here hx rfl (hb hby at_126) rfl hr) ?_
    show W p e below _ (T14.setTop (mkF m 127 #[.val (.int p0), .val (.int p1), .val (.int p2), .val (.int p3), .val (.int (0 : Int32)), .val (.ref b1), .val (.ref o3), .val (.ref b9), .val (.ref b14)] [(.int p1), (.int (0 : Int32)), (.ref b14)]))
    refine W.go (fun _ hr => XS.iloadN X14.here hx rfl (hb hby at_127) rfl hr) ?_
    show W p e below _ (T14.setTop (mkF m 128 #[.val (.int p0), .val (.int p1), .val (.int p2), .val (.int p3), .val (.int (0 : Int32)), .val (.ref b1), .val (.ref o3), .val (.ref b9), .val (.ref b14)] [(.int p2), (.int p1), (.int (0 : Int32)), (.ref b14)]))
    refine W.go (fun _ hr => XS.iloadN X14.here hx rfl (hb hby at_128) rfl hr) ?_
    show W p e below _ (T14.setTop (mkF m 129 #[.val (.int p0), .val (.int p1), .val (.int p2), .val (.int p3), .val (.int (0 : Int32)), .val (.ref b1), .val (.ref o3), .val (.ref b9), .val (.ref b14)] [(.int p3), (.int p2), (.int p1), (.int (0 : Int32)), (.ref b14)]))
    refine W.callS X14 hx hZ hown (g := (mkF m 129 #[.val (.int p0), .val (.int p1), .val (.int p2), .val (.int p3), .val (.int (0 : Int32)), .val (.ref b1), .val (.ref o3), .val (.ref b9), .val (.ref b14)] [(.int p3), (.int p2), (.int p1), (.int (0 : Int32)), (.ref b14)])) (by rw [hml]; rfl) (hw _ (List.mem_of_getElem? (i := 63) rfl)) (hw _ (List.mem_of_getElem? (i := 64) rfl)) (hw _ (List.mem_of_getElem? (i := 52) rfl)) (hw _ (List.mem_of_getElem? (i := 65) rfl)) e14 (rm9_0 l Z a0 hw b14 p1 p2 p3   k1 h14 n0 Z15 V_b14 ) (by decide) pd_124 rfl (argsL := [(.ref b14), (.int (0 : Int32)), (.int p1), (.int p2), (.int p3)]) (rest := []) rfl rfl rfl (hb hby at_129) (W0 := 0) rfl (by decide) (by decide) (by decide) (by decide) (fun v16 T16 h16 L16 X16 e16 hQ16 => ?_)
    obtain ⟨rfl, N16q, hh16⟩ := hQ16
    obtain rfl := hh16.symm
    have N16 := Fr.app N14 N16q
    show W p e below _ (T16.setTop (mkF m 132 #[.val (.int p0), .val (.int p1), .val (.int p2), .val (.int p3), .val (.int (0 : Int32)), .val (.ref b1), .val (.ref o3), .val (.ref b9), .val (.ref b14)] [(.int (1 : Int32))]))
    exact W.retB X16 hx hlk (t := .boolean) hret (by simp) (hb hby at_132) (by decide) (by decide) e16 ⟨rfl, N16⟩
  · rw [q]
    show W p e below _ (s₁.setTop (mkF m 3 #[.val (.int p0), .val (.int p1), .val (.int p2), .val (.int p3), .unset, .unset, .unset, .unset, .unset] [(.int (1 : Int32))]))
    refine W.go (fun _ hr => XS.istore X0.here hx rfl (hb hby at_3) rfl (l' := #[.val (.int p0), .val (.int p1), .val (.int p2), .val (.int p3), .val (.int (1 : Int32)), .unset, .unset, .unset, .unset]) rfl hr) ?_
    show W p e below _ (s₁.setTop (mkF m 5 #[.val (.int p0), .val (.int p1), .val (.int p2), .val (.int p3), .val (.int (1 : Int32)), .unset, .unset, .unset, .unset] []))
    refine W.go (fun _ hr => XS.iload X0.here hx rfl (hb hby at_5) rfl hr) ?_
    show W p e below _ (s₁.setTop (mkF m 7 #[.val (.int p0), .val (.int p1), .val (.int p2), .val (.int p3), .val (.int (1 : Int32)), .unset, .unset, .unset, .unset] [(.int (1 : Int32))]))
    obtain ⟨T17, h17, k17, X17, e17, E17, A17, E_b17, st17⟩ := newPE X0 hx hZ (hw _ (List.mem_of_getElem? (i := 0) rfl)) e0 (g := (mkF m 7 #[.val (.int p0), .val (.int p1), .val (.int p2), .val (.int p3), .val (.int (1 : Int32)), .unset, .unset, .unset, .unset] [(.int (1 : Int32))])) rfl (hb hby at_7) rfl (by decide) (cap := 1) (by decide) (by decide) (by decide) (by decide) (ad := "[B") (by decide)
    obtain ⟨b17, g17⟩ : ∃ z, z = h0.size := ⟨_, rfl⟩
    rw [← g17] at A17 E_b17 st17
    have g_b17 : n0 ≤ b17 := Nat.le_trans Z0 (Nat.le_of_eq g17.symm)
    replace S_DATA := Sta.ext E17 S_DATA
    replace S_NO_ITEMS := Sta.ext E17 S_NO_ITEMS
    replace S_NO_TAGS := Sta.ext E17 S_NO_TAGS
    replace S_NO_POSITIONS := Sta.ext E17 S_NO_POSITIONS
    have Z18 : n0 ≤ h17.size := Nat.le_trans Z0 E17.1
    have V_b17 : Arv Z h17 b17 k17 .byte (1 : Int32) [(.int (0 : Int32))] (.int (0 : Int32)) := (Arv.new A17 (by decide)).pad (pad_rep [] (.int (0 : Int32)) 1)
    refine W.go st17 ?_
    show W p e below _ (T17.setTop (mkF m 9 #[.val (.int p0), .val (.int p1), .val (.int p2), .val (.int p3), .val (.int (1 : Int32)), .unset, .unset, .unset, .unset] [(.ref b17)]))
    refine W.go (fun _ hr => XS.astore X17.here hx rfl (hb hby at_9) rfl rfl (l' := #[.val (.int p0), .val (.int p1), .val (.int p2), .val (.int p3), .val (.int (1 : Int32)), .val (.ref b17), .unset, .unset, .unset]) rfl hr) ?_
    show W p e below _ (T17.setTop (mkF m 11 #[.val (.int p0), .val (.int p1), .val (.int p2), .val (.int p3), .val (.int (1 : Int32)), .val (.ref b17), .unset, .unset, .unset] []))
    refine W.go (fun _ hr => XS.iload X17.here hx rfl (hb hby at_11) rfl hr) ?_
    show W p e below _ (T17.setTop (mkF m 13 #[.val (.int p0), .val (.int p1), .val (.int p2), .val (.int p3), .val (.int (1 : Int32)), .val (.ref b17), .unset, .unset, .unset] [(.int (1 : Int32))]))
    refine W.go (fun _ hr => XS.ifNo X17.here hx rfl (hb hby at_13) rfl ((if0 _ _).trans (tlt (by decide : ((0 : Int32) < (1 : Int32)))).2.2.2) hr) ?_
    show W p e below _ (T17.setTop (mkF m 16 #[.val (.int p0), .val (.int p1), .val (.int p2), .val (.int p3), .val (.int (1 : Int32)), .val (.ref b17), .unset, .unset, .unset] []))
    refine W.go (fun _ hr => XS.aload X17.here hx rfl (hb hby at_16) rfl rfl hr) ?_
    show W p e below _ (T17.setTop (mkF m 18 #[.val (.int p0), .val (.int p1), .val (.int p2), .val (.int p3), .val (.int (1 : Int32)), .val (.ref b17), .unset, .unset, .unset] [(.ref b17)]))
    refine W.go (fun _ hr => XS.iconst X17.here hx rfl (hb hby at_18) hr) ?_
    show W p e below _ (T17.setTop (mkF m 19 #[.val (.int p0), .val (.int p1), .val (.int p2), .val (.int p3), .val (.int (1 : Int32)), .val (.ref b17), .unset, .unset, .unset] [(.int (0 : Int32)), (.ref b17)]))
    refine W.go (fun _ hr => XS.iloadN X17.here hx rfl (hb hby at_19) rfl hr) ?_
    show W p e below _ (T17.setTop (mkF m 20 #[.val (.int p0), .val (.int p1), .val (.int p2), .val (.int p3), .val (.int (1 : Int32)), .val (.ref b17), .unset, .unset, .unset] [(.int p1), (.int (0 : Int32)), (.ref b17)]))
    refine W.go (fun _ hr => XS.i2b X17.here hx rfl (hb hby at_20) rfl hr) ?_
    show W p e below _ (T17.setTop (mkF m 21 #[.val (.int p0), .val (.int p1), .val (.int p2), .val (.int p3), .val (.int (1 : Int32)), .val (.ref b17), .unset, .unset, .unset] [(.int (p1.toInt8.toInt32)), (.int (0 : Int32)), (.ref b17)]))
    obtain ⟨cl19, Ar19, q19, S19, Nn19, H19, G19⟩ := V_b17
    have hin19 : ¬ ((0 : Int32) < 0 ∨ cl19.slots.size ≤ ((0 : Int32)).toNatClampNeg) := inb_of S19 ⟨by decide, by decide⟩
    obtain ⟨T19, h19, X19, e19, W19, st19⟩ := stB X17 hx hZ e17 Ar19 (j := (0 : Int32)) hin19 (g := (mkF m 21 #[.val (.int p0), .val (.int p1), .val (.int p2), .val (.int p3), .val (.int (1 : Int32)), .val (.ref b17), .unset, .unset, .unset] [(.int (p1.toInt8.toInt32)), (.int (0 : Int32)), (.ref b17)])) rfl rfl (hb hby at_21)
    replace V_b17 : Arv Z h19 b17 k17 .byte (1 : Int32) [(.int (p1.toInt8.toInt32).toInt8.toInt32)] (.int (0 : Int32)) := Arv.set Ar19 q19 S19 Nn19 H19 G19 (fits_nar_byte _) W19 0 rfl (Nat.le_of_ble_eq_true rfl)
    replace S_DATA := Sta.wr W19 S_DATA
    replace S_NO_ITEMS := Sta.wr W19 S_NO_ITEMS
    replace S_NO_TAGS := Sta.wr W19 S_NO_TAGS
    replace S_NO_POSITIONS := Sta.wr W19 S_NO_POSITIONS
    replace E_b17 := E_b17.wr W19
    have Z20 : n0 ≤ h19.size := Nat.le_trans Z18 (Keep.of_wr W19).1
    refine W.go st19 ?_
    have N19 := Fr.snoc X19 N0 g_b17
    show W p e below _ (T19.setTop (mkF m 22 #[.val (.int p0), .val (.int p1), .val (.int p2), .val (.int p3), .val (.int (1 : Int32)), .val (.ref b17), .unset, .unset, .unset] []))
    refine W.go (fun _ hr => XS.iload X19.here hx rfl (hb hby at_22) rfl hr) ?_
    show W p e below _ (T19.setTop (mkF m 24 #[.val (.int p0), .val (.int p1), .val (.int p2), .val (.int p3), .val (.int (1 : Int32)), .val (.ref b17), .unset, .unset, .unset] [(.int (1 : Int32))]))
    refine W.go (fun _ hr => XS.iconst X19.here hx rfl (hb hby at_24) hr) ?_
    show W p e below _ (T19.setTop (mkF m 25 #[.val (.int p0), .val (.int p1), .val (.int p2), .val (.int p3), .val (.int (1 : Int32)), .val (.ref b17), .unset, .unset, .unset] [(.int (1 : Int32)), (.int (1 : Int32))]))
    refine W.go (fun _ hr => XS.icmpYes X19.here hx rfl (pc0 := 25) (pc' := 34) rfl (hb hby at_25) rfl (flt (by decide : ¬ ((1 : Int32) < (1 : Int32)))).2.2.2 (by decide) (by decide) hr) ?_
    show W p e below _ (T19.setTop (mkF m 34 #[.val (.int p0), .val (.int p1), .val (.int p2), .val (.int p3), .val (.int (1 : Int32)), .val (.ref b17), .unset, .unset, .unset] []))
    refine W.go (fun _ hr => XS.iload X19.here hx rfl (hb hby at_34) rfl hr) ?_
    show W p e below _ (T19.setTop (mkF m 36 #[.val (.int p0), .val (.int p1), .val (.int p2), .val (.int p3), .val (.int (1 : Int32)), .val (.ref b17), .unset, .unset, .unset] [(.int (1 : Int32))]))
    refine W.go (fun _ hr => XS.iconst X19.here hx rfl (hb hby at_36) hr) ?_
    show W p e below _ (T19.setTop (mkF m 37 #[.val (.int p0), .val (.int p1), .val (.int p2), .val (.int p3), .val (.int (1 : Int32)), .val (.ref b17), .unset, .unset, .unset] [(.int (2 : Int32)), (.int (1 : Int32))]))
    refine W.go (fun _ hr => XS.icmpYes X19.here hx rfl (pc0 := 37) (pc' := 46) rfl (hb hby at_37) rfl (flt (by decide : ¬ ((2 : Int32) < (1 : Int32)))).2.2.2 (by decide) (by decide) hr) ?_
    show W p e below _ (T19.setTop (mkF m 46 #[.val (.int p0), .val (.int p1), .val (.int p2), .val (.int p3), .val (.int (1 : Int32)), .val (.ref b17), .unset, .unset, .unset] []))
    refine W.go (fun _ hr => XS.aload X19.here hx rfl (hb hby at_46) rfl rfl hr) ?_
    show W p e below _ (T19.setTop (mkF m 48 #[.val (.int p0), .val (.int p1), .val (.int p2), .val (.int p3), .val (.int (1 : Int32)), .val (.ref b17), .unset, .unset, .unset] [(.ref b17)]))
    refine W.callS X19 hx hZ hown (g := (mkF m 48 #[.val (.int p0), .val (.int p1), .val (.int p2), .val (.int p3), .val (.int (1 : Int32)), .val (.ref b17), .unset, .unset, .unset] [(.ref b17)])) (by rw [hml]; rfl) (hw _ (List.mem_of_getElem? (i := 1) rfl)) (hw _ (List.mem_of_getElem? (i := 2) rfl)) (hw _ (List.mem_of_getElem? (i := 3) rfl)) (hw _ (List.mem_of_getElem? (i := 4) rfl)) e19 (rm1_1 l Z a0 hw b17 (p1.toInt8.toInt32).toInt8.toInt32 k17 w_DATA w_NO_ITEMS w_NO_TAGS w_NO_POSITIONS h19 n0 Z20 E_b17 V_b17 S_DATA S_NO_ITEMS S_NO_TAGS S_NO_POSITIONS) (by decide) pd_120 rfl (argsL := [(.ref b17)]) (rest := []) rfl rfl rfl (hb hby at_48) (W0 := 0) rfl (by decide) (by decide) (by decide) (by decide) (fun v21 T21 h21 L21 X21 e21 hQ21 => ?_)
    obtain ⟨o21, d21, rfl, N21q, K21, so21, sd21, nod21, E_o21, E_d21, F_type_o21, F_data_o21, V_d21⟩ := hQ21
    have N21 := Fr.app N19 N21q
    have ne_b17_o21 : b17 ≠ o21 := Nat.ne_of_lt (Nat.lt_of_lt_of_le E_b17.lt so21)
    have ne_b17_d21 : b17 ≠ d21 := Nat.ne_of_lt (Nat.lt_of_lt_of_le E_b17.lt sd21)
    have g_o21 : n0 ≤ o21 := Nat.le_trans Z20 so21
    replace S_DATA := Sta.keep S_DATA K21 ns0
    replace S_NO_ITEMS := Sta.keep S_NO_ITEMS K21 ns0
    replace S_NO_TAGS := Sta.keep S_NO_TAGS K21 ns0
    replace S_NO_POSITIONS := Sta.keep S_NO_POSITIONS K21 ns0
    replace E_b17 := E_b17.keep K21
    replace V_b17 := V_b17.keep K21 nin0
    have Z22 : n0 ≤ h21.size := Nat.le_trans Z20 K21.1
    show W p e below _ (T21.setTop (mkF m 51 #[.val (.int p0), .val (.int p1), .val (.int p2), .val (.int p3), .val (.int (1 : Int32)), .val (.ref b17), .unset, .unset, .unset] [(.ref o21)]))
    refine W.go (fun _ hr => XS.astore X21.here hx rfl (hb hby at_51) rfl rfl (l' := #[.val (.int p0), .val (.int p1), .val (.int p2), .val (.int p3), .val (.int (1 : Int32)), .val (.ref b17), .val (.ref o21), .unset, .unset]) rfl hr) ?_
    show W p e below _ (T21.setTop (mkF m 53 #[.val (.int p0), .val (.int p1), .val (.int p2), .val (.int p3), .val (.int (1 : Int32)), .val (.ref b17), .val (.ref o21), .unset, .unset] []))
    refine W.go (fun _ hr => XS.aload X21.here hx rfl (hb hby at_53) rfl rfl hr) ?_
    show W p e below _ (T21.setTop (mkF m 55 #[.val (.int p0), .val (.int p1), .val (.int p2), .val (.int p3), .val (.int (1 : Int32)), .val (.ref b17), .val (.ref o21), .unset, .unset] [(.ref o21)]))
    refine W.go (fun _ hr => XS.ifnonnullYes X21.here hx rfl (pc0 := 55) (pc' := 60) rfl (hb hby at_55) rfl (by decide) (by decide) hr) ?_
    show W p e below _ (T21.setTop (mkF m 60 #[.val (.int p0), .val (.int p1), .val (.int p2), .val (.int p3), .val (.int (1 : Int32)), .val (.ref b17), .val (.ref o21), .unset, .unset] []))
    refine W.go (fun _ hr => XS.aload X21.here hx rfl (hb hby at_60) rfl rfl hr) ?_
    show W p e below _ (T21.setTop (mkF m 62 #[.val (.int p0), .val (.int p1), .val (.int p2), .val (.int p3), .val (.int (1 : Int32)), .val (.ref b17), .val (.ref o21), .unset, .unset] [(.ref o21)]))
    refine W.callV X21 hx hZ hown (g := (mkF m 62 #[.val (.int p0), .val (.int p1), .val (.int p2), .val (.int p3), .val (.int (1 : Int32)), .val (.ref b17), .val (.ref o21), .unset, .unset] [(.ref o21)])) (by rw [hml]; rfl) (hw _ (List.mem_of_getElem? (i := 44) rfl)) (hw _ (List.mem_of_getElem? (i := 45) rfl)) (hw _ (List.mem_of_getElem? (i := 47) rfl)) (hw _ (List.mem_of_getElem? (i := 46) rfl)) (hw _ (List.mem_of_getElem? (i := 3) rfl)) (hw _ (List.mem_of_getElem? (i := 48) rfl)) e21 (rm5 l Z a0 hw o21 w_DATA h21 n0 Z22 F_type_o21) (notFace_of_selects (args := #[]) (mvT hZ (hw _ (List.mem_of_getElem? (i := 47) rfl)))) (by decide) pd_121 rfl E_o21 (argsL := []) (rest := []) rfl rfl rfl (hb hby at_62) (W0 := 0) rfl (by decide) (by decide) (by decide) (by decide) (fun v23 T23 h23 L23 X23 e23 hQ23 => ?_)
    obtain ⟨rfl, N23q, hh23⟩ := hQ23
    obtain rfl := hh23.symm
    have N23 := Fr.app N21 N23q
    show W p e below _ (T23.setTop (mkF m 65 #[.val (.int p0), .val (.int p1), .val (.int p2), .val (.int p3), .val (.int (1 : Int32)), .val (.ref b17), .val (.ref o21), .unset, .unset] [(.ref w_DATA)]))
    obtain ⟨T24, X24, e24, st24⟩ := getS2 X23 hx hZ hown (host := "") (Or.inl (hw _ (List.mem_of_getElem? (i := 49) rfl))) Via.refl e23 S_DATA (g := (mkF m 65 #[.val (.int p0), .val (.int p1), .val (.int p2), .val (.int p3), .val (.int (1 : Int32)), .val (.ref b17), .val (.ref o21), .unset, .unset] [(.ref w_DATA)])) rfl (hb hby at_65)
    refine W.go st24 ?_
    show W p e below _ (T24.setTop (mkF m 68 #[.val (.int p0), .val (.int p1), .val (.int p2), .val (.int p3), .val (.int (1 : Int32)), .val (.ref b17), .val (.ref o21), .unset, .unset] [(.ref w_DATA), (.ref w_DATA)]))
    refine W.go (fun _ hr => Jvm.RoadKit.acmp (g := (mkF m 68 #[.val (.int p0), .val (.int p1), .val (.int p2), .val (.int p3), .val (.int (1 : Int32)), .val (.ref b17), .val (.ref o21), .unset, .unset] [(.ref w_DATA), (.ref w_DATA)])) X24 hx rfl rfl rfl (pc0 := 68) (pc' := 73) (same := true) rfl (hb hby at_68) rfl (decide_eq_true rfl) (by decide) (by decide) hr) ?_
    show W p e below _ (T24.setTop (mkF m 73 #[.val (.int p0), .val (.int p1), .val (.int p2), .val (.int p3), .val (.int (1 : Int32)), .val (.ref b17), .val (.ref o21), .unset, .unset] []))
    refine W.go (fun _ hr => XS.aload X24.here hx rfl (hb hby at_73) rfl rfl hr) ?_
    show W p e below _ (T24.setTop (mkF m 75 #[.val (.int p0), .val (.int p1), .val (.int p2), .val (.int p3), .val (.int (1 : Int32)), .val (.ref b17), .val (.ref o21), .unset, .unset] [(.ref b17)]))
    refine W.go (fun _ hr => XS.iload X24.here hx rfl (hb hby at_75) rfl hr) ?_
    show W p e below _ (T24.setTop (mkF m 77 #[.val (.int p0), .val (.int p1), .val (.int p2), .val (.int p3), .val (.int (1 : Int32)), .val (.ref b17), .val (.ref o21), .unset, .unset] [(.int (1 : Int32)), (.ref b17)]))
    refine W.go (fun _ hr => XS.iloadN X24.here hx rfl (hb hby at_77) rfl hr) ?_
    show W p e below _ (T24.setTop (mkF m 78 #[.val (.int p0), .val (.int p1), .val (.int p2), .val (.int p3), .val (.int (1 : Int32)), .val (.ref b17), .val (.ref o21), .unset, .unset] [(.int p1), (.int (1 : Int32)), (.ref b17)]))
    refine W.go (fun _ hr => XS.iloadN X24.here hx rfl (hb hby at_78) rfl hr) ?_
    show W p e below _ (T24.setTop (mkF m 79 #[.val (.int p0), .val (.int p1), .val (.int p2), .val (.int p3), .val (.int (1 : Int32)), .val (.ref b17), .val (.ref o21), .unset, .unset] [(.int p2), (.int p1), (.int (1 : Int32)), (.ref b17)]))
    refine W.go (fun _ hr => XS.iloadN X24.here hx rfl (hb hby at_79) rfl hr) ?_
    show W p e below _ (T24.setTop (mkF m 80 #[.val (.int p0), .val (.int p1), .val (.int p2), .val (.int p3), .val (.int (1 : Int32)), .val (.ref b17), .val (.ref o21), .unset, .unset] [(.int p3), (.int p2), (.int p1), (.int (1 : Int32)), (.ref b17)]))
    refine W.callS X24 hx hZ hown (g := (mkF m 80 #[.val (.int p0), .val (.int p1), .val (.int p2), .val (.int p3), .val (.int (1 : Int32)), .val (.ref b17), .val (.ref o21), .unset, .unset] [(.int p3), (.int p2), (.int p1), (.int (1 : Int32)), (.ref b17)])) (by rw [hml]; rfl) (hw _ (List.mem_of_getElem? (i := 50) rfl)) (hw _ (List.mem_of_getElem? (i := 51) rfl)) (hw _ (List.mem_of_getElem? (i := 52) rfl)) (hw _ (List.mem_of_getElem? (i := 53) rfl)) e24 (rm6_1 l Z a0 hw b17 p1 p2 p3 (p1.toInt8.toInt32).toInt8.toInt32 k17 h21 n0 Z22 E_b17 V_b17 g_b17) (by decide) pd_122 rfl (argsL := [(.ref b17), (.int (1 : Int32)), (.int p1), (.int p2), (.int p3)]) (rest := []) rfl rfl rfl (hb hby at_80) (W0 := 0) rfl (by decide) (by decide) (by decide) (by decide) (fun v25 T25 h25 L25 X25 e25 hQ25 => ?_)
    obtain ⟨rfl, N25q, K25, Ee25, vs25, Vs25⟩ := hQ25
    have N25 := Fr.app N23 N25q
    have nsK25 := (nsS E_b17.nostat ns0)
    replace S_DATA := Sta.keep S_DATA K25 nsK25
    replace S_NO_ITEMS := Sta.keep S_NO_ITEMS K25 nsK25
    replace S_NO_TAGS := Sta.keep S_NO_TAGS K25 nsK25
    replace S_NO_POSITIONS := Sta.keep S_NO_POSITIONS K25 nsK25
    replace E_b17 := E_b17.keep K25
    replace E_o21 := E_o21.keep K25
    replace E_d21 := E_d21.keep K25
    replace F_type_o21 := F_type_o21.keep K25 (ninS (Ne.symm ne_b17_o21) nin0)
    replace F_data_o21 := F_data_o21.keep K25 (ninS (Ne.symm ne_b17_o21) nin0)
    replace V_d21 := V_d21.keep K25 (ninS (Ne.symm ne_b17_d21) nin0)
    have Z26 : n0 ≤ h25.size := Nat.le_trans Z22 K25.1
    show W p e below _ (T25.setTop (mkF m 83 #[.val (.int p0), .val (.int p1), .val (.int p2), .val (.int p3), .val (.int (1 : Int32)), .val (.ref b17), .val (.ref o21), .unset, .unset] []))
    refine W.go (fun _ hr => XS.aload X25.here hx rfl (hb hby at_83) rfl rfl hr) ?_
    show W p e below _ (T25.setTop (mkF m 85 #[.val (.int p0), .val (.int p1), .val (.int p2), .val (.int p3), .val (.int (1 : Int32)), .val (.ref b17), .val (.ref o21), .unset, .unset] [(.ref o21)]))
    refine W.callV X25 hx hZ hown (g := (mkF m 85 #[.val (.int p0), .val (.int p1), .val (.int p2), .val (.int p3), .val (.int (1 : Int32)), .val (.ref b17), .val (.ref o21), .unset, .unset] [(.ref o21)])) (by rw [hml]; rfl) (hw _ (List.mem_of_getElem? (i := 54) rfl)) (hw _ (List.mem_of_getElem? (i := 55) rfl)) (hw _ (List.mem_of_getElem? (i := 57) rfl)) (hw _ (List.mem_of_getElem? (i := 56) rfl)) (hw _ (List.mem_of_getElem? (i := 3) rfl)) (hw _ (List.mem_of_getElem? (i := 58) rfl)) e25 (rm7_1 l Z a0 hw o21 (p1.toInt8.toInt32).toInt8.toInt32 k17 w_DATA d21 h25 n0 Z26 E_o21 F_type_o21 F_data_o21 E_d21 V_d21 S_DATA) (notFace_of_selects (args := #[]) (mvT hZ (hw _ (List.mem_of_getElem? (i := 57) rfl)))) (by decide) pd_123 rfl E_o21 (argsL := []) (rest := []) rfl rfl rfl (hb hby at_85) (W0 := 0) rfl (by decide) (by decide) (by decide) (by decide) (fun v27 T27 h27 L27 X27 e27 hQ27 => ?_)
    obtain ⟨b27, rfl, N27q, K27, sb27, E_b27, V_b27⟩ := hQ27
    have N27 := Fr.app N25 N27q
    have ne_b17_b27 : b17 ≠ b27 := Nat.ne_of_lt (Nat.lt_of_lt_of_le E_b17.lt sb27)
    have ne_o21_b27 : o21 ≠ b27 := Nat.ne_of_lt (Nat.lt_of_lt_of_le E_o21.lt sb27)
    have ne_d21_b27 : d21 ≠ b27 := Nat.ne_of_lt (Nat.lt_of_lt_of_le E_d21.lt sb27)
    have g_b27 : n0 ≤ b27 := Nat.le_trans Z26 sb27
    replace S_DATA := Sta.keep S_DATA K27 ns0
    replace S_NO_ITEMS := Sta.keep S_NO_ITEMS K27 ns0
    replace S_NO_TAGS := Sta.keep S_NO_TAGS K27 ns0
    replace S_NO_POSITIONS := Sta.keep S_NO_POSITIONS K27 ns0
    replace E_b17 := E_b17.keep K27
    replace E_o21 := E_o21.keep K27
    replace E_d21 := E_d21.keep K27
    replace F_type_o21 := F_type_o21.keep K27 nin0
    replace F_data_o21 := F_data_o21.keep K27 nin0
    replace V_d21 := V_d21.keep K27 nin0
    have Z28 : n0 ≤ h27.size := Nat.le_trans Z26 K27.1
    show W p e below _ (T27.setTop (mkF m 88 #[.val (.int p0), .val (.int p1), .val (.int p2), .val (.int p3), .val (.int (1 : Int32)), .val (.ref b17), .val (.ref o21), .unset, .unset] [(.ref b27)]))
    refine W.go (fun _ hr => XS.astore X27.here hx rfl (hb hby at_88) rfl rfl (l' := #[.val (.int p0), .val (.int p1), .val (.int p2), .val (.int p3), .val (.int (1 : Int32)), .val (.ref b17), .val (.ref o21), .val (.ref b27), .unset]) rfl hr) ?_
    show W p e below _ (T27.setTop (mkF m 90 #[.val (.int p0), .val (.int p1), .val (.int p2), .val (.int p3), .val (.int (1 : Int32)), .val (.ref b17), .val (.ref o21), .val (.ref b27), .unset] []))
    refine W.go (fun _ hr => XS.aload X27.here hx rfl (hb hby at_90) rfl rfl hr) ?_
    show W p e below _ (T27.setTop (mkF m 92 #[.val (.int p0), .val (.int p1), .val (.int p2), .val (.int p3), .val (.int (1 : Int32)), .val (.ref b17), .val (.ref o21), .val (.ref b27), .unset] [(.ref b27)]))
    refine W.go (fun _ hr => XS.iload X27.here hx rfl (hb hby at_92) rfl hr) ?_
    show W p e below _ (T27.setTop (mkF m 94 #[.val (.int p0), .val (.int p1), .val (.int p2), .val (.int p3), .val (.int (1 : Int32)), .val (.ref b17), .val (.ref o21), .val (.ref b27), .unset] [(.int (1 : Int32)), (.ref b27)]))
    refine W.go (fun _ hr => XS.iloadN X27.here hx rfl (hb hby at_94) rfl hr) ?_
    show W p e below _ (T27.setTop (mkF m 95 #[.val (.int p0), .val (.int p1), .val (.int p2), .val (.int p3), .val (.int (1 : Int32)), .val (.ref b17), .val (.ref o21), .val (.ref b27), .unset] [(.int p1), (.int (1 : Int32)), (.ref b27)]))
    refine W.go (fun _ hr => XS.iloadN X27.here hx rfl (hb hby at_95) rfl hr) ?_
    show W p e below _ (T27.setTop (mkF m 96 #[.val (.int p0), .val (.int p1), .val (.int p2), .val (.int p3), .val (.int (1 : Int32)), .val (.ref b17), .val (.ref o21), .val (.ref b27), .unset] [(.int p2), (.int p1), (.int (1 : Int32)), (.ref b27)]))
    refine W.go (fun _ hr => XS.iloadN X27.here hx rfl (hb hby at_96) rfl hr) ?_
    show W p e below _ (T27.setTop (mkF m 97 #[.val (.int p0), .val (.int p1), .val (.int p2), .val (.int p3), .val (.int (1 : Int32)), .val (.ref b17), .val (.ref o21), .val (.ref b27), .unset] [(.int p3), (.int p2), (.int p1), (.int (1 : Int32)), (.ref b27)]))
    refine W.callS X27 hx hZ hown (g := (mkF m 97 #[.val (.int p0), .val (.int p1), .val (.int p2), .val (.int p3), .val (.int (1 : Int32)), .val (.ref b17), .val (.ref o21), .val (.ref b27), .unset] [(.int p3), (.int p2), (.int p1), (.int (1 : Int32)), (.ref b27)])) (by rw [hml]; rfl) (hw _ (List.mem_of_getElem? (i := 63) rfl)) (hw _ (List.mem_of_getElem? (i := 64) rfl)) (hw _ (List.mem_of_getElem? (i := 52) rfl)) (hw _ (List.mem_of_getElem? (i := 65) rfl)) e27 (rm9_1 l Z a0 hw b27 p1 p2 p3 (p1.toInt8.toInt32).toInt8.toInt32 k17 h27 n0 Z28 V_b27 (own_b _)) (by decide) pd_124 rfl (argsL := [(.ref b27), (.int (1 : Int32)), (.int p1), (.int p2), (.int p3)]) (rest := []) rfl rfl rfl (hb hby at_97) (W0 := 0) rfl (by decide) (by decide) (by decide) (by decide) (fun v29 T29 h29 L29 X29 e29 hQ29 => ?_)
    obtain ⟨rfl, N29q, hh29⟩ := hQ29
    obtain rfl := hh29.symm
    have N29 := Fr.app N27 N29q
    show W p e below _ (T29.setTop (mkF m 100 #[.val (.int p0), .val (.int p1), .val (.int p2), .val (.int p3), .val (.int (1 : Int32)), .val (.ref b17), .val (.ref o21), .val (.ref b27), .unset] [(.int (1 : Int32))]))
    refine W.go (fun _ hr => XS.ifYes X29.here hx rfl (pc0 := 100) (pc' := 105) rfl (hb hby at_100) rfl ((if0 _ _).trans (feq (by decide : ¬ ((1 : Int32) = (0 : Int32)))).2) (by decide) (by decide) hr) ?_
    show W p e below _ (T29.setTop (mkF m 105 #[.val (.int p0), .val (.int p1), .val (.int p2), .val (.int p3), .val (.int (1 : Int32)), .val (.ref b17), .val (.ref o21), .val (.ref b27), .unset] []))
    refine W.go (fun _ hr => XS.aload X29.here hx rfl (hb hby at_105) rfl rfl hr) ?_
    show W p e below _ (T29.setTop (mkF m 107 #[.val (.int p0), .val (.int p1), .val (.int p2), .val (.int p3), .val (.int (1 : Int32)), .val (.ref b17), .val (.ref o21), .val (.ref b27), .unset] [(.ref b27)]))
    refine W.go (fun _ hr => XS.iload X29.here hx rfl (hb hby at_107) rfl hr) ?_
    show W p e below _ (T29.setTop (mkF m 109 #[.val (.int p0), .val (.int p1), .val (.int p2), .val (.int p3), .val (.int (1 : Int32)), .val (.ref b17), .val (.ref o21), .val (.ref b27), .unset] [(.int (1 : Int32)), (.ref b27)]))
    refine W.go (fun _ hr => XS.iloadN X29.here hx rfl (hb hby at_109) rfl hr) ?_
    show W p e below _ (T29.setTop (mkF m 110 #[.val (.int p0), .val (.int p1), .val (.int p2), .val (.int p3), .val (.int (1 : Int32)), .val (.ref b17), .val (.ref o21), .val (.ref b27), .unset] [(.int p1), (.int (1 : Int32)), (.ref b27)]))
    refine W.go (fun _ hr => XS.iloadN X29.here hx rfl (hb hby at_110) rfl hr) ?_
    show W p e below _ (T29.setTop (mkF m 111 #[.val (.int p0), .val (.int p1), .val (.int p2), .val (.int p3), .val (.int (1 : Int32)), .val (.ref b17), .val (.ref o21), .val (.ref b27), .unset] [(.int p2), (.int p1), (.int (1 : Int32)), (.ref b27)]))
    refine W.go (fun _ hr => XS.iloadN X29.here hx rfl (hb hby at_111) rfl hr) ?_
    show W p e below _ (T29.setTop (mkF m 112 #[.val (.int p0), .val (.int p1), .val (.int p2), .val (.int p3), .val (.int (1 : Int32)), .val (.ref b17), .val (.ref o21), .val (.ref b27), .unset] [(.int p3), (.int p2), (.int p1), (.int (1 : Int32)), (.ref b27)]))
    refine W.callS X29 hx hZ hown (g := (mkF m 112 #[.val (.int p0), .val (.int p1), .val (.int p2), .val (.int p3), .val (.int (1 : Int32)), .val (.ref b17), .val (.ref o21), .val (.ref b27), .unset] [(.int p3), (.int p2), (.int p1), (.int (1 : Int32)), (.ref b27)])) (by rw [hml]; rfl) (hw _ (List.mem_of_getElem? (i := 50) rfl)) (hw _ (List.mem_of_getElem? (i := 51) rfl)) (hw _ (List.mem_of_getElem? (i := 52) rfl)) (hw _ (List.mem_of_getElem? (i := 53) rfl)) e29 (rm6_1 l Z a0 hw b27 p1 p2 p3 (p1.toInt8.toInt32).toInt8.toInt32 k17 h27 n0 Z28 E_b27 V_b27 g_b27) (by decide) pd_122 rfl (argsL := [(.ref b27), (.int (1 : Int32)), (.int p1), (.int p2), (.int p3)]) (rest := []) rfl rfl rfl (hb hby at_112) (W0 := 0) rfl (by decide) (by decide) (by decide) (by decide) (fun v30 T30 h30 L30 X30 e30 hQ30 => ?_)
    obtain ⟨rfl, N30q, K30, Ee30, vs30, Vs30⟩ := hQ30
    have N30 := Fr.app N29 N30q
    have nsK30 := (nsS E_b27.nostat ns0)
    replace S_DATA := Sta.keep S_DATA K30 nsK30
    replace S_NO_ITEMS := Sta.keep S_NO_ITEMS K30 nsK30
    replace S_NO_TAGS := Sta.keep S_NO_TAGS K30 nsK30
    replace S_NO_POSITIONS := Sta.keep S_NO_POSITIONS K30 nsK30
    replace E_b17 := E_b17.keep K30
    replace E_o21 := E_o21.keep K30
    replace E_d21 := E_d21.keep K30
    replace F_type_o21 := F_type_o21.keep K30 (ninS ne_o21_b27 nin0)
    replace F_data_o21 := F_data_o21.keep K30 (ninS ne_o21_b27 nin0)
    replace V_d21 := V_d21.keep K30 (ninS ne_d21_b27 nin0)
    replace E_b27 := E_b27.keep K30
    have Z31 : n0 ≤ h30.size := Nat.le_trans Z28 K30.1
    show W p e below _ (T30.setTop (mkF m 115 #[.val (.int p0), .val (.int p1), .val (.int p2), .val (.int p3), .val (.int (1 : Int32)), .val (.ref b17), .val (.ref o21), .val (.ref b27), .unset] []))
    refine W.go (fun _ hr => XS.aload X30.here hx rfl (hb hby at_115) rfl rfl hr) ?_
    show W p e below _ (T30.setTop (mkF m 117 #[.val (.int p0), .val (.int p1), .val (.int p2), .val (.int p3), .val (.int (1 : Int32)), .val (.ref b17), .val (.ref o21), .val (.ref b27), .unset] [(.ref o21)]))
    refine W.callV X30 hx hZ hown (g := (mkF m 117 #[.val (.int p0), .val (.int p1), .val (.int p2), .val (.int p3), .val (.int (1 : Int32)), .val (.ref b17), .val (.ref o21), .val (.ref b27), .unset] [(.ref o21)])) (by rw [hml]; rfl) (hw _ (List.mem_of_getElem? (i := 54) rfl)) (hw _ (List.mem_of_getElem? (i := 55) rfl)) (hw _ (List.mem_of_getElem? (i := 57) rfl)) (hw _ (List.mem_of_getElem? (i := 56) rfl)) (hw _ (List.mem_of_getElem? (i := 3) rfl)) (hw _ (List.mem_of_getElem? (i := 58) rfl)) e30 (rm7_1 l Z a0 hw o21 (p1.toInt8.toInt32).toInt8.toInt32 k17 w_DATA d21 h30 n0 Z31 E_o21 F_type_o21 F_data_o21 E_d21 V_d21 S_DATA) (notFace_of_selects (args := #[]) (mvT hZ (hw _ (List.mem_of_getElem? (i := 57) rfl)))) (by decide) pd_123 rfl E_o21 (argsL := []) (rest := []) rfl rfl rfl (hb hby at_117) (W0 := 0) rfl (by decide) (by decide) (by decide) (by decide) (fun v32 T32 h32 L32 X32 e32 hQ32 => ?_)
    obtain ⟨b32, rfl, N32q, K32, sb32, E_b32, V_b32⟩ := hQ32
    have N32 := Fr.app N30 N32q
    have ne_b17_b32 : b17 ≠ b32 := Nat.ne_of_lt (Nat.lt_of_lt_of_le E_b17.lt sb32)
    have ne_o21_b32 : o21 ≠ b32 := Nat.ne_of_lt (Nat.lt_of_lt_of_le E_o21.lt sb32)
    have ne_d21_b32 : d21 ≠ b32 := Nat.ne_of_lt (Nat.lt_of_lt_of_le E_d21.lt sb32)
    have ne_b27_b32 : b27 ≠ b32 := Nat.ne_of_lt (Nat.lt_of_lt_of_le E_b27.lt sb32)
    have g_b32 : n0 ≤ b32 := Nat.le_trans Z31 sb32
    replace S_DATA := Sta.keep S_DATA K32 ns0
    replace S_NO_ITEMS := Sta.keep S_NO_ITEMS K32 ns0
    replace S_NO_TAGS := Sta.keep S_NO_TAGS K32 ns0
    replace S_NO_POSITIONS := Sta.keep S_NO_POSITIONS K32 ns0
    replace E_b17 := E_b17.keep K32
    replace E_o21 := E_o21.keep K32
    replace E_d21 := E_d21.keep K32
    replace F_type_o21 := F_type_o21.keep K32 nin0
    replace F_data_o21 := F_data_o21.keep K32 nin0
    replace V_d21 := V_d21.keep K32 nin0
    replace E_b27 := E_b27.keep K32
    have Z33 : n0 ≤ h32.size := Nat.le_trans Z31 K32.1
    show W p e below _ (T32.setTop (mkF m 120 #[.val (.int p0), .val (.int p1), .val (.int p2), .val (.int p3), .val (.int (1 : Int32)), .val (.ref b17), .val (.ref o21), .val (.ref b27), .unset] [(.ref b32)]))
    refine W.go (fun _ hr => XS.astore X32.here hx rfl (hb hby at_120) rfl rfl (l' := #[.val (.int p0), .val (.int p1), .val (.int p2), .val (.int p3), .val (.int (1 : Int32)), .val (.ref b17), .val (.ref o21), .val (.ref b27), .val (.ref b32)]) rfl hr) ?_
    show W p e below _ (T32.setTop (mkF m 122 #[.val (.int p0), .val (.int p1), .val (.int p2), .val (.int p3), .val (.int (1 : Int32)), .val (.ref b17), .val (.ref o21), .val (.ref b27), .val (.ref b32)] []))
    refine W.go (fun _ hr => XS.aload X32.here hx rfl (hb hby at_122) rfl rfl hr) ?_
    show W p e below _ (T32.setTop (mkF m 124 #[.val (.int p0), .val (.int p1), .val (.int p2), .val (.int p3), .val (.int (1 : Int32)), .val (.ref b17), .val (.ref o21), .val (.ref b27), .val (.ref b32)] [(.ref b32)]))
    refine W.go (fun _ hr => XS.iload X32.here hx rfl (hb hby at_124) rfl hr) ?_
    show W p e below _ (T32.setTop (mkF m 126 #[.val (.int p0), .val (.int p1), .val (.int p2), .val (.int p3), .val (.int (1 : Int32)), .val (.ref b17), .val (.ref o21), .val (.ref b27), .val (.ref b32)] [(.int (1 : Int32)), (.ref b32)]))
    refine W.go (fun _ hr => XS.iloadN X32.here hx rfl (hb hby at_126) rfl hr) ?_
    show W p e below _ (T32.setTop (mkF m 127 #[.val (.int p0), .val (.int p1), .val (.int p2), .val (.int p3), .val (.int (1 : Int32)), .val (.ref b17), .val (.ref o21), .val (.ref b27), .val (.ref b32)] [(.int p1), (.int (1 : Int32)), (.ref b32)]))
    refine W.go (fun _ hr => XS.iloadN X32.here hx rfl (hb hby at_127) rfl hr) ?_
    show W p e below _ (T32.setTop (mkF m 128 #[.val (.int p0), .val (.int p1), .val (.int p2), .val (.int p3), .val (.int (1 : Int32)), .val (.ref b17), .val (.ref o21), .val (.ref b27), .val (.ref b32)] [(.int p2), (.int p1), (.int (1 : Int32)), (.ref b32)]))
    refine W.go (fun _ hr => XS.iloadN X32.here hx rfl (hb hby at_128) rfl hr) ?_
    show W p e below _ (T32.setTop (mkF m 129 #[.val (.int p0), .val (.int p1), .val (.int p2), .val (.int p3), .val (.int (1 : Int32)), .val (.ref b17), .val (.ref o21), .val (.ref b27), .val (.ref b32)] [(.int p3), (.int p2), (.int p1), (.int (1 : Int32)), (.ref b32)]))
    refine W.callS X32 hx hZ hown (g := (mkF m 129 #[.val (.int p0), .val (.int p1), .val (.int p2), .val (.int p3), .val (.int (1 : Int32)), .val (.ref b17), .val (.ref o21), .val (.ref b27), .val (.ref b32)] [(.int p3), (.int p2), (.int p1), (.int (1 : Int32)), (.ref b32)])) (by rw [hml]; rfl) (hw _ (List.mem_of_getElem? (i := 63) rfl)) (hw _ (List.mem_of_getElem? (i := 64) rfl)) (hw _ (List.mem_of_getElem? (i := 52) rfl)) (hw _ (List.mem_of_getElem? (i := 65) rfl)) e32 (rm9_1 l Z a0 hw b32 p1 p2 p3 (p1.toInt8.toInt32).toInt8.toInt32 k17 h32 n0 Z33 V_b32 (own_b _)) (by decide) pd_124 rfl (argsL := [(.ref b32), (.int (1 : Int32)), (.int p1), (.int p2), (.int p3)]) (rest := []) rfl rfl rfl (hb hby at_129) (W0 := 0) rfl (by decide) (by decide) (by decide) (by decide) (fun v34 T34 h34 L34 X34 e34 hQ34 => ?_)
    obtain ⟨rfl, N34q, hh34⟩ := hQ34
    obtain rfl := hh34.symm
    have N34 := Fr.app N32 N34q
    show W p e below _ (T34.setTop (mkF m 132 #[.val (.int p0), .val (.int p1), .val (.int p2), .val (.int p3), .val (.int (1 : Int32)), .val (.ref b17), .val (.ref o21), .val (.ref b27), .val (.ref b32)] [(.int (1 : Int32))]))
    exact W.retB X34 hx hlk (t := .boolean) hret (by simp) (hb hby at_132) (by decide) (by decide) e34 ⟨rfl, N34⟩
  · rw [q]
    show W p e below _ (s₁.setTop (mkF m 3 #[.val (.int p0), .val (.int p1), .val (.int p2), .val (.int p3), .unset, .unset, .unset, .unset, .unset] [(.int (2 : Int32))]))
    refine W.go (fun _ hr => XS.istore X0.here hx rfl (hb hby at_3) rfl (l' := #[.val (.int p0), .val (.int p1), .val (.int p2), .val (.int p3), .val (.int (2 : Int32)), .unset, .unset, .unset, .unset]) rfl hr) ?_
    show W p e below _ (s₁.setTop (mkF m 5 #[.val (.int p0), .val (.int p1), .val (.int p2), .val (.int p3), .val (.int (2 : Int32)), .unset, .unset, .unset, .unset] []))
    refine W.go (fun _ hr => XS.iload X0.here hx rfl (hb hby at_5) rfl hr) ?_
    show W p e below _ (s₁.setTop (mkF m 7 #[.val (.int p0), .val (.int p1), .val (.int p2), .val (.int p3), .val (.int (2 : Int32)), .unset, .unset, .unset, .unset] [(.int (2 : Int32))]))
    obtain ⟨T35, h35, k35, X35, e35, E35, A35, E_b35, st35⟩ := newPE X0 hx hZ (hw _ (List.mem_of_getElem? (i := 0) rfl)) e0 (g := (mkF m 7 #[.val (.int p0), .val (.int p1), .val (.int p2), .val (.int p3), .val (.int (2 : Int32)), .unset, .unset, .unset, .unset] [(.int (2 : Int32))])) rfl (hb hby at_7) rfl (by decide) (cap := 2) (by decide) (by decide) (by decide) (by decide) (ad := "[B") (by decide)
    obtain ⟨b35, g35⟩ : ∃ z, z = h0.size := ⟨_, rfl⟩
    rw [← g35] at A35 E_b35 st35
    have g_b35 : n0 ≤ b35 := Nat.le_trans Z0 (Nat.le_of_eq g35.symm)
    replace S_DATA := Sta.ext E35 S_DATA
    replace S_NO_ITEMS := Sta.ext E35 S_NO_ITEMS
    replace S_NO_TAGS := Sta.ext E35 S_NO_TAGS
    replace S_NO_POSITIONS := Sta.ext E35 S_NO_POSITIONS
    have Z36 : n0 ≤ h35.size := Nat.le_trans Z0 E35.1
    have V_b35 : Arv Z h35 b35 k35 .byte (2 : Int32) [(.int (0 : Int32)), (.int (0 : Int32))] (.int (0 : Int32)) := (Arv.new A35 (by decide)).pad (pad_rep [] (.int (0 : Int32)) 2)
    refine W.go st35 ?_
    show W p e below _ (T35.setTop (mkF m 9 #[.val (.int p0), .val (.int p1), .val (.int p2), .val (.int p3), .val (.int (2 : Int32)), .unset, .unset, .unset, .unset] [(.ref b35)]))
    refine W.go (fun _ hr => XS.astore X35.here hx rfl (hb hby at_9) rfl rfl (l' := #[.val (.int p0), .val (.int p1), .val (.int p2), .val (.int p3), .val (.int (2 : Int32)), .val (.ref b35), .unset, .unset, .unset]) rfl hr) ?_
    show W p e below _ (T35.setTop (mkF m 11 #[.val (.int p0), .val (.int p1), .val (.int p2), .val (.int p3), .val (.int (2 : Int32)), .val (.ref b35), .unset, .unset, .unset] []))
    refine W.go (fun _ hr => XS.iload X35.here hx rfl (hb hby at_11) rfl hr) ?_
    show W p e below _ (T35.setTop (mkF m 13 #[.val (.int p0), .val (.int p1), .val (.int p2), .val (.int p3), .val (.int (2 : Int32)), .val (.ref b35), .unset, .unset, .unset] [(.int (2 : Int32))]))
    refine W.go (fun _ hr => XS.ifNo X35.here hx rfl (hb hby at_13) rfl ((if0 _ _).trans (tlt (by decide : ((0 : Int32) < (2 : Int32)))).2.2.2) hr) ?_
    show W p e below _ (T35.setTop (mkF m 16 #[.val (.int p0), .val (.int p1), .val (.int p2), .val (.int p3), .val (.int (2 : Int32)), .val (.ref b35), .unset, .unset, .unset] []))
    refine W.go (fun _ hr => XS.aload X35.here hx rfl (hb hby at_16) rfl rfl hr) ?_
    show W p e below _ (T35.setTop (mkF m 18 #[.val (.int p0), .val (.int p1), .val (.int p2), .val (.int p3), .val (.int (2 : Int32)), .val (.ref b35), .unset, .unset, .unset] [(.ref b35)]))
    refine W.go (fun _ hr => XS.iconst X35.here hx rfl (hb hby at_18) hr) ?_
    show W p e below _ (T35.setTop (mkF m 19 #[.val (.int p0), .val (.int p1), .val (.int p2), .val (.int p3), .val (.int (2 : Int32)), .val (.ref b35), .unset, .unset, .unset] [(.int (0 : Int32)), (.ref b35)]))
    refine W.go (fun _ hr => XS.iloadN X35.here hx rfl (hb hby at_19) rfl hr) ?_
    show W p e below _ (T35.setTop (mkF m 20 #[.val (.int p0), .val (.int p1), .val (.int p2), .val (.int p3), .val (.int (2 : Int32)), .val (.ref b35), .unset, .unset, .unset] [(.int p1), (.int (0 : Int32)), (.ref b35)]))
    refine W.go (fun _ hr => XS.i2b X35.here hx rfl (hb hby at_20) rfl hr) ?_
    show W p e below _ (T35.setTop (mkF m 21 #[.val (.int p0), .val (.int p1), .val (.int p2), .val (.int p3), .val (.int (2 : Int32)), .val (.ref b35), .unset, .unset, .unset] [(.int (p1.toInt8.toInt32)), (.int (0 : Int32)), (.ref b35)]))
    obtain ⟨cl37, Ar37, q37, S37, Nn37, H37, G37⟩ := V_b35
    have hin37 : ¬ ((0 : Int32) < 0 ∨ cl37.slots.size ≤ ((0 : Int32)).toNatClampNeg) := inb_of S37 ⟨by decide, by decide⟩
    obtain ⟨T37, h37, X37, e37, W37, st37⟩ := stB X35 hx hZ e35 Ar37 (j := (0 : Int32)) hin37 (g := (mkF m 21 #[.val (.int p0), .val (.int p1), .val (.int p2), .val (.int p3), .val (.int (2 : Int32)), .val (.ref b35), .unset, .unset, .unset] [(.int (p1.toInt8.toInt32)), (.int (0 : Int32)), (.ref b35)])) rfl rfl (hb hby at_21)
    replace V_b35 : Arv Z h37 b35 k35 .byte (2 : Int32) [(.int (p1.toInt8.toInt32).toInt8.toInt32), (.int (0 : Int32))] (.int (0 : Int32)) := Arv.set Ar37 q37 S37 Nn37 H37 G37 (fits_nar_byte _) W37 0 rfl (Nat.le_of_ble_eq_true rfl)
    replace S_DATA := Sta.wr W37 S_DATA
    replace S_NO_ITEMS := Sta.wr W37 S_NO_ITEMS
    replace S_NO_TAGS := Sta.wr W37 S_NO_TAGS
    replace S_NO_POSITIONS := Sta.wr W37 S_NO_POSITIONS
    replace E_b35 := E_b35.wr W37
    have Z38 : n0 ≤ h37.size := Nat.le_trans Z36 (Keep.of_wr W37).1
    refine W.go st37 ?_
    have N37 := Fr.snoc X37 N0 g_b35
    show W p e below _ (T37.setTop (mkF m 22 #[.val (.int p0), .val (.int p1), .val (.int p2), .val (.int p3), .val (.int (2 : Int32)), .val (.ref b35), .unset, .unset, .unset] []))
    refine W.go (fun _ hr => XS.iload X37.here hx rfl (hb hby at_22) rfl hr) ?_
    show W p e below _ (T37.setTop (mkF m 24 #[.val (.int p0), .val (.int p1), .val (.int p2), .val (.int p3), .val (.int (2 : Int32)), .val (.ref b35), .unset, .unset, .unset] [(.int (2 : Int32))]))
    refine W.go (fun _ hr => XS.iconst X37.here hx rfl (hb hby at_24) hr) ?_
    show W p e below _ (T37.setTop (mkF m 25 #[.val (.int p0), .val (.int p1), .val (.int p2), .val (.int p3), .val (.int (2 : Int32)), .val (.ref b35), .unset, .unset, .unset] [(.int (1 : Int32)), (.int (2 : Int32))]))
    refine W.go (fun _ hr => XS.icmpNo X37.here hx rfl (hb hby at_25) rfl (tlt (by decide : ((1 : Int32) < (2 : Int32)))).2.2.2 hr) ?_
    show W p e below _ (T37.setTop (mkF m 28 #[.val (.int p0), .val (.int p1), .val (.int p2), .val (.int p3), .val (.int (2 : Int32)), .val (.ref b35), .unset, .unset, .unset] []))
    refine W.go (fun _ hr => XS.aload X37.here hx rfl (hb hby at_28) rfl rfl hr) ?_
    show W p e below _ (T37.setTop (mkF m 30 #[.val (.int p0), .val (.int p1), .val (.int p2), .val (.int p3), .val (.int (2 : Int32)), .val (.ref b35), .unset, .unset, .unset] [(.ref b35)]))
    refine W.go (fun _ hr => XS.iconst X37.here hx rfl (hb hby at_30) hr) ?_
    show W p e below _ (T37.setTop (mkF m 31 #[.val (.int p0), .val (.int p1), .val (.int p2), .val (.int p3), .val (.int (2 : Int32)), .val (.ref b35), .unset, .unset, .unset] [(.int (1 : Int32)), (.ref b35)]))
    refine W.go (fun _ hr => XS.iloadN X37.here hx rfl (hb hby at_31) rfl hr) ?_
    show W p e below _ (T37.setTop (mkF m 32 #[.val (.int p0), .val (.int p1), .val (.int p2), .val (.int p3), .val (.int (2 : Int32)), .val (.ref b35), .unset, .unset, .unset] [(.int p2), (.int (1 : Int32)), (.ref b35)]))
    refine W.go (fun _ hr => XS.i2b X37.here hx rfl (hb hby at_32) rfl hr) ?_
    show W p e below _ (T37.setTop (mkF m 33 #[.val (.int p0), .val (.int p1), .val (.int p2), .val (.int p3), .val (.int (2 : Int32)), .val (.ref b35), .unset, .unset, .unset] [(.int (p2.toInt8.toInt32)), (.int (1 : Int32)), (.ref b35)]))
    obtain ⟨cl39, Ar39, q39, S39, Nn39, H39, G39⟩ := V_b35
    have hin39 : ¬ ((1 : Int32) < 0 ∨ cl39.slots.size ≤ ((1 : Int32)).toNatClampNeg) := inb_of S39 ⟨by decide, by decide⟩
    obtain ⟨T39, h39, X39, e39, W39, st39⟩ := stB X37 hx hZ e37 Ar39 (j := (1 : Int32)) hin39 (g := (mkF m 33 #[.val (.int p0), .val (.int p1), .val (.int p2), .val (.int p3), .val (.int (2 : Int32)), .val (.ref b35), .unset, .unset, .unset] [(.int (p2.toInt8.toInt32)), (.int (1 : Int32)), (.ref b35)])) rfl rfl (hb hby at_33)
    replace V_b35 : Arv Z h39 b35 k35 .byte (2 : Int32) [(.int (p1.toInt8.toInt32).toInt8.toInt32), (.int (p2.toInt8.toInt32).toInt8.toInt32)] (.int (0 : Int32)) := Arv.set Ar39 q39 S39 Nn39 H39 G39 (fits_nar_byte _) W39 1 rfl (Nat.le_of_ble_eq_true rfl)
    replace S_DATA := Sta.wr W39 S_DATA
    replace S_NO_ITEMS := Sta.wr W39 S_NO_ITEMS
    replace S_NO_TAGS := Sta.wr W39 S_NO_TAGS
    replace S_NO_POSITIONS := Sta.wr W39 S_NO_POSITIONS
    replace E_b35 := E_b35.wr W39
    have Z40 : n0 ≤ h39.size := Nat.le_trans Z38 (Keep.of_wr W39).1
    refine W.go st39 ?_
    have N39 := Fr.snoc X39 N37 g_b35
    show W p e below _ (T39.setTop (mkF m 34 #[.val (.int p0), .val (.int p1), .val (.int p2), .val (.int p3), .val (.int (2 : Int32)), .val (.ref b35), .unset, .unset, .unset] []))
    refine W.go (fun _ hr => XS.iload X39.here hx rfl (hb hby at_34) rfl hr) ?_
    show W p e below _ (T39.setTop (mkF m 36 #[.val (.int p0), .val (.int p1), .val (.int p2), .val (.int p3), .val (.int (2 : Int32)), .val (.ref b35), .unset, .unset, .unset] [(.int (2 : Int32))]))
    refine W.go (fun _ hr => XS.iconst X39.here hx rfl (hb hby at_36) hr) ?_
    show W p e below _ (T39.setTop (mkF m 37 #[.val (.int p0), .val (.int p1), .val (.int p2), .val (.int p3), .val (.int (2 : Int32)), .val (.ref b35), .unset, .unset, .unset] [(.int (2 : Int32)), (.int (2 : Int32))]))
    refine W.go (fun _ hr => XS.icmpYes X39.here hx rfl (pc0 := 37) (pc' := 46) rfl (hb hby at_37) rfl (flt (by decide : ¬ ((2 : Int32) < (2 : Int32)))).2.2.2 (by decide) (by decide) hr) ?_
    show W p e below _ (T39.setTop (mkF m 46 #[.val (.int p0), .val (.int p1), .val (.int p2), .val (.int p3), .val (.int (2 : Int32)), .val (.ref b35), .unset, .unset, .unset] []))
    refine W.go (fun _ hr => XS.aload X39.here hx rfl (hb hby at_46) rfl rfl hr) ?_
    show W p e below _ (T39.setTop (mkF m 48 #[.val (.int p0), .val (.int p1), .val (.int p2), .val (.int p3), .val (.int (2 : Int32)), .val (.ref b35), .unset, .unset, .unset] [(.ref b35)]))
    refine W.callS X39 hx hZ hown (g := (mkF m 48 #[.val (.int p0), .val (.int p1), .val (.int p2), .val (.int p3), .val (.int (2 : Int32)), .val (.ref b35), .unset, .unset, .unset] [(.ref b35)])) (by rw [hml]; rfl) (hw _ (List.mem_of_getElem? (i := 1) rfl)) (hw _ (List.mem_of_getElem? (i := 2) rfl)) (hw _ (List.mem_of_getElem? (i := 3) rfl)) (hw _ (List.mem_of_getElem? (i := 4) rfl)) e39 (rm1_2 l Z a0 hw b35 (p1.toInt8.toInt32).toInt8.toInt32 (p2.toInt8.toInt32).toInt8.toInt32 k35 w_DATA w_NO_ITEMS w_NO_TAGS w_NO_POSITIONS h39 n0 Z40 E_b35 V_b35 S_DATA S_NO_ITEMS S_NO_TAGS S_NO_POSITIONS) (by decide) pd_120 rfl (argsL := [(.ref b35)]) (rest := []) rfl rfl rfl (hb hby at_48) (W0 := 0) rfl (by decide) (by decide) (by decide) (by decide) (fun v41 T41 h41 L41 X41 e41 hQ41 => ?_)
    obtain ⟨o41, d41, rfl, N41q, K41, so41, sd41, nod41, E_o41, E_d41, F_type_o41, F_data_o41, V_d41⟩ := hQ41
    have N41 := Fr.app N39 N41q
    have ne_b35_o41 : b35 ≠ o41 := Nat.ne_of_lt (Nat.lt_of_lt_of_le E_b35.lt so41)
    have ne_b35_d41 : b35 ≠ d41 := Nat.ne_of_lt (Nat.lt_of_lt_of_le E_b35.lt sd41)
    have g_o41 : n0 ≤ o41 := Nat.le_trans Z40 so41
    replace S_DATA := Sta.keep S_DATA K41 ns0
    replace S_NO_ITEMS := Sta.keep S_NO_ITEMS K41 ns0
    replace S_NO_TAGS := Sta.keep S_NO_TAGS K41 ns0
    replace S_NO_POSITIONS := Sta.keep S_NO_POSITIONS K41 ns0
    replace E_b35 := E_b35.keep K41
    replace V_b35 := V_b35.keep K41 nin0
    have Z42 : n0 ≤ h41.size := Nat.le_trans Z40 K41.1
    show W p e below _ (T41.setTop (mkF m 51 #[.val (.int p0), .val (.int p1), .val (.int p2), .val (.int p3), .val (.int (2 : Int32)), .val (.ref b35), .unset, .unset, .unset] [(.ref o41)]))
    refine W.go (fun _ hr => XS.astore X41.here hx rfl (hb hby at_51) rfl rfl (l' := #[.val (.int p0), .val (.int p1), .val (.int p2), .val (.int p3), .val (.int (2 : Int32)), .val (.ref b35), .val (.ref o41), .unset, .unset]) rfl hr) ?_
    show W p e below _ (T41.setTop (mkF m 53 #[.val (.int p0), .val (.int p1), .val (.int p2), .val (.int p3), .val (.int (2 : Int32)), .val (.ref b35), .val (.ref o41), .unset, .unset] []))
    refine W.go (fun _ hr => XS.aload X41.here hx rfl (hb hby at_53) rfl rfl hr) ?_
    show W p e below _ (T41.setTop (mkF m 55 #[.val (.int p0), .val (.int p1), .val (.int p2), .val (.int p3), .val (.int (2 : Int32)), .val (.ref b35), .val (.ref o41), .unset, .unset] [(.ref o41)]))
    refine W.go (fun _ hr => XS.ifnonnullYes X41.here hx rfl (pc0 := 55) (pc' := 60) rfl (hb hby at_55) rfl (by decide) (by decide) hr) ?_
    show W p e below _ (T41.setTop (mkF m 60 #[.val (.int p0), .val (.int p1), .val (.int p2), .val (.int p3), .val (.int (2 : Int32)), .val (.ref b35), .val (.ref o41), .unset, .unset] []))
    refine W.go (fun _ hr => XS.aload X41.here hx rfl (hb hby at_60) rfl rfl hr) ?_
    show W p e below _ (T41.setTop (mkF m 62 #[.val (.int p0), .val (.int p1), .val (.int p2), .val (.int p3), .val (.int (2 : Int32)), .val (.ref b35), .val (.ref o41), .unset, .unset] [(.ref o41)]))
    refine W.callV X41 hx hZ hown (g := (mkF m 62 #[.val (.int p0), .val (.int p1), .val (.int p2), .val (.int p3), .val (.int (2 : Int32)), .val (.ref b35), .val (.ref o41), .unset, .unset] [(.ref o41)])) (by rw [hml]; rfl) (hw _ (List.mem_of_getElem? (i := 44) rfl)) (hw _ (List.mem_of_getElem? (i := 45) rfl)) (hw _ (List.mem_of_getElem? (i := 47) rfl)) (hw _ (List.mem_of_getElem? (i := 46) rfl)) (hw _ (List.mem_of_getElem? (i := 3) rfl)) (hw _ (List.mem_of_getElem? (i := 48) rfl)) e41 (rm5 l Z a0 hw o41 w_DATA h41 n0 Z42 F_type_o41) (notFace_of_selects (args := #[]) (mvT hZ (hw _ (List.mem_of_getElem? (i := 47) rfl)))) (by decide) pd_121 rfl E_o41 (argsL := []) (rest := []) rfl rfl rfl (hb hby at_62) (W0 := 0) rfl (by decide) (by decide) (by decide) (by decide) (fun v43 T43 h43 L43 X43 e43 hQ43 => ?_)
    obtain ⟨rfl, N43q, hh43⟩ := hQ43
    obtain rfl := hh43.symm
    have N43 := Fr.app N41 N43q
    show W p e below _ (T43.setTop (mkF m 65 #[.val (.int p0), .val (.int p1), .val (.int p2), .val (.int p3), .val (.int (2 : Int32)), .val (.ref b35), .val (.ref o41), .unset, .unset] [(.ref w_DATA)]))
    obtain ⟨T44, X44, e44, st44⟩ := getS2 X43 hx hZ hown (host := "") (Or.inl (hw _ (List.mem_of_getElem? (i := 49) rfl))) Via.refl e43 S_DATA (g := (mkF m 65 #[.val (.int p0), .val (.int p1), .val (.int p2), .val (.int p3), .val (.int (2 : Int32)), .val (.ref b35), .val (.ref o41), .unset, .unset] [(.ref w_DATA)])) rfl (hb hby at_65)
    refine W.go st44 ?_
    show W p e below _ (T44.setTop (mkF m 68 #[.val (.int p0), .val (.int p1), .val (.int p2), .val (.int p3), .val (.int (2 : Int32)), .val (.ref b35), .val (.ref o41), .unset, .unset] [(.ref w_DATA), (.ref w_DATA)]))
    refine W.go (fun _ hr => Jvm.RoadKit.acmp (g := (mkF m 68 #[.val (.int p0), .val (.int p1), .val (.int p2), .val (.int p3), .val (.int (2 : Int32)), .val (.ref b35), .val (.ref o41), .unset, .unset] [(.ref w_DATA), (.ref w_DATA)])) X44 hx rfl rfl rfl (pc0 := 68) (pc' := 73) (same := true) rfl (hb hby at_68) rfl (decide_eq_true rfl) (by decide) (by decide) hr) ?_
    show W p e below _ (T44.setTop (mkF m 73 #[.val (.int p0), .val (.int p1), .val (.int p2), .val (.int p3), .val (.int (2 : Int32)), .val (.ref b35), .val (.ref o41), .unset, .unset] []))
    refine W.go (fun _ hr => XS.aload X44.here hx rfl (hb hby at_73) rfl rfl hr) ?_
    show W p e below _ (T44.setTop (mkF m 75 #[.val (.int p0), .val (.int p1), .val (.int p2), .val (.int p3), .val (.int (2 : Int32)), .val (.ref b35), .val (.ref o41), .unset, .unset] [(.ref b35)]))
    refine W.go (fun _ hr => XS.iload X44.here hx rfl (hb hby at_75) rfl hr) ?_
    show W p e below _ (T44.setTop (mkF m 77 #[.val (.int p0), .val (.int p1), .val (.int p2), .val (.int p3), .val (.int (2 : Int32)), .val (.ref b35), .val (.ref o41), .unset, .unset] [(.int (2 : Int32)), (.ref b35)]))
    refine W.go (fun _ hr => XS.iloadN X44.here hx rfl (hb hby at_77) rfl hr) ?_
    show W p e below _ (T44.setTop (mkF m 78 #[.val (.int p0), .val (.int p1), .val (.int p2), .val (.int p3), .val (.int (2 : Int32)), .val (.ref b35), .val (.ref o41), .unset, .unset] [(.int p1), (.int (2 : Int32)), (.ref b35)]))
    refine W.go (fun _ hr => XS.iloadN X44.here hx rfl (hb hby at_78) rfl hr) ?_
    show W p e below _ (T44.setTop (mkF m 79 #[.val (.int p0), .val (.int p1), .val (.int p2), .val (.int p3), .val (.int (2 : Int32)), .val (.ref b35), .val (.ref o41), .unset, .unset] [(.int p2), (.int p1), (.int (2 : Int32)), (.ref b35)]))
    refine W.go (fun _ hr => XS.iloadN X44.here hx rfl (hb hby at_79) rfl hr) ?_
    show W p e below _ (T44.setTop (mkF m 80 #[.val (.int p0), .val (.int p1), .val (.int p2), .val (.int p3), .val (.int (2 : Int32)), .val (.ref b35), .val (.ref o41), .unset, .unset] [(.int p3), (.int p2), (.int p1), (.int (2 : Int32)), (.ref b35)]))
    refine W.callS X44 hx hZ hown (g := (mkF m 80 #[.val (.int p0), .val (.int p1), .val (.int p2), .val (.int p3), .val (.int (2 : Int32)), .val (.ref b35), .val (.ref o41), .unset, .unset] [(.int p3), (.int p2), (.int p1), (.int (2 : Int32)), (.ref b35)])) (by rw [hml]; rfl) (hw _ (List.mem_of_getElem? (i := 50) rfl)) (hw _ (List.mem_of_getElem? (i := 51) rfl)) (hw _ (List.mem_of_getElem? (i := 52) rfl)) (hw _ (List.mem_of_getElem? (i := 53) rfl)) e44 (rm6_2 l Z a0 hw b35 p1 p2 p3 (p1.toInt8.toInt32).toInt8.toInt32 (p2.toInt8.toInt32).toInt8.toInt32 k35 h41 n0 Z42 E_b35 V_b35 g_b35) (by decide) pd_122 rfl (argsL := [(.ref b35), (.int (2 : Int32)), (.int p1), (.int p2), (.int p3)]) (rest := []) rfl rfl rfl (hb hby at_80) (W0 := 0) rfl (by decide) (by decide) (by decide) (by decide) (fun v45 T45 h45 L45 X45 e45 hQ45 => ?_)
    obtain ⟨rfl, N45q, K45, Ee45, vs45, Vs45⟩ := hQ45
    have N45 := Fr.app N43 N45q
    have nsK45 := (nsS E_b35.nostat ns0)
    replace S_DATA := Sta.keep S_DATA K45 nsK45
    replace S_NO_ITEMS := Sta.keep S_NO_ITEMS K45 nsK45
    replace S_NO_TAGS := Sta.keep S_NO_TAGS K45 nsK45
    replace S_NO_POSITIONS := Sta.keep S_NO_POSITIONS K45 nsK45
    replace E_b35 := E_b35.keep K45
    replace E_o41 := E_o41.keep K45
    replace E_d41 := E_d41.keep K45
    replace F_type_o41 := F_type_o41.keep K45 (ninS (Ne.symm ne_b35_o41) nin0)
    replace F_data_o41 := F_data_o41.keep K45 (ninS (Ne.symm ne_b35_o41) nin0)
    replace V_d41 := V_d41.keep K45 (ninS (Ne.symm ne_b35_d41) nin0)
    have Z46 : n0 ≤ h45.size := Nat.le_trans Z42 K45.1
    show W p e below _ (T45.setTop (mkF m 83 #[.val (.int p0), .val (.int p1), .val (.int p2), .val (.int p3), .val (.int (2 : Int32)), .val (.ref b35), .val (.ref o41), .unset, .unset] []))
    refine W.go (fun _ hr => XS.aload X45.here hx rfl (hb hby at_83) rfl rfl hr) ?_
    show W p e below _ (T45.setTop (mkF m 85 #[.val (.int p0), .val (.int p1), .val (.int p2), .val (.int p3), .val (.int (2 : Int32)), .val (.ref b35), .val (.ref o41), .unset, .unset] [(.ref o41)]))
    refine W.callV X45 hx hZ hown (g := (mkF m 85 #[.val (.int p0), .val (.int p1), .val (.int p2), .val (.int p3), .val (.int (2 : Int32)), .val (.ref b35), .val (.ref o41), .unset, .unset] [(.ref o41)])) (by rw [hml]; rfl) (hw _ (List.mem_of_getElem? (i := 54) rfl)) (hw _ (List.mem_of_getElem? (i := 55) rfl)) (hw _ (List.mem_of_getElem? (i := 57) rfl)) (hw _ (List.mem_of_getElem? (i := 56) rfl)) (hw _ (List.mem_of_getElem? (i := 3) rfl)) (hw _ (List.mem_of_getElem? (i := 58) rfl)) e45 (rm7_2 l Z a0 hw o41 (p1.toInt8.toInt32).toInt8.toInt32 (p2.toInt8.toInt32).toInt8.toInt32 k35 w_DATA d41 h45 n0 Z46 E_o41 F_type_o41 F_data_o41 E_d41 V_d41 S_DATA) (notFace_of_selects (args := #[]) (mvT hZ (hw _ (List.mem_of_getElem? (i := 57) rfl)))) (by decide) pd_123 rfl E_o41 (argsL := []) (rest := []) rfl rfl rfl (hb hby at_85) (W0 := 0) rfl (by decide) (by decide) (by decide) (by decide) (fun v47 T47 h47 L47 X47 e47 hQ47 => ?_)
    obtain ⟨b47, rfl, N47q, K47, sb47, E_b47, V_b47⟩ := hQ47
    have N47 := Fr.app N45 N47q
    have ne_b35_b47 : b35 ≠ b47 := Nat.ne_of_lt (Nat.lt_of_lt_of_le E_b35.lt sb47)
    have ne_o41_b47 : o41 ≠ b47 := Nat.ne_of_lt (Nat.lt_of_lt_of_le E_o41.lt sb47)
    have ne_d41_b47 : d41 ≠ b47 := Nat.ne_of_lt (Nat.lt_of_lt_of_le E_d41.lt sb47)
    have g_b47 : n0 ≤ b47 := Nat.le_trans Z46 sb47
    replace S_DATA := Sta.keep S_DATA K47 ns0
    replace S_NO_ITEMS := Sta.keep S_NO_ITEMS K47 ns0
    replace S_NO_TAGS := Sta.keep S_NO_TAGS K47 ns0
    replace S_NO_POSITIONS := Sta.keep S_NO_POSITIONS K47 ns0
    replace E_b35 := E_b35.keep K47
    replace E_o41 := E_o41.keep K47
    replace E_d41 := E_d41.keep K47
    replace F_type_o41 := F_type_o41.keep K47 nin0
    replace F_data_o41 := F_data_o41.keep K47 nin0
    replace V_d41 := V_d41.keep K47 nin0
    have Z48 : n0 ≤ h47.size := Nat.le_trans Z46 K47.1
    show W p e below _ (T47.setTop (mkF m 88 #[.val (.int p0), .val (.int p1), .val (.int p2), .val (.int p3), .val (.int (2 : Int32)), .val (.ref b35), .val (.ref o41), .unset, .unset] [(.ref b47)]))
    refine W.go (fun _ hr => XS.astore X47.here hx rfl (hb hby at_88) rfl rfl (l' := #[.val (.int p0), .val (.int p1), .val (.int p2), .val (.int p3), .val (.int (2 : Int32)), .val (.ref b35), .val (.ref o41), .val (.ref b47), .unset]) rfl hr) ?_
    show W p e below _ (T47.setTop (mkF m 90 #[.val (.int p0), .val (.int p1), .val (.int p2), .val (.int p3), .val (.int (2 : Int32)), .val (.ref b35), .val (.ref o41), .val (.ref b47), .unset] []))
    refine W.go (fun _ hr => XS.aload X47.here hx rfl (hb hby at_90) rfl rfl hr) ?_
    show W p e below _ (T47.setTop (mkF m 92 #[.val (.int p0), .val (.int p1), .val (.int p2), .val (.int p3), .val (.int (2 : Int32)), .val (.ref b35), .val (.ref o41), .val (.ref b47), .unset] [(.ref b47)]))
    refine W.go (fun _ hr => XS.iload X47.here hx rfl (hb hby at_92) rfl hr) ?_
    show W p e below _ (T47.setTop (mkF m 94 #[.val (.int p0), .val (.int p1), .val (.int p2), .val (.int p3), .val (.int (2 : Int32)), .val (.ref b35), .val (.ref o41), .val (.ref b47), .unset] [(.int (2 : Int32)), (.ref b47)]))
    refine W.go (fun _ hr => XS.iloadN X47.here hx rfl (hb hby at_94) rfl hr) ?_
    show W p e below _ (T47.setTop (mkF m 95 #[.val (.int p0), .val (.int p1), .val (.int p2), .val (.int p3), .val (.int (2 : Int32)), .val (.ref b35), .val (.ref o41), .val (.ref b47), .unset] [(.int p1), (.int (2 : Int32)), (.ref b47)]))
    refine W.go (fun _ hr => XS.iloadN X47.here hx rfl (hb hby at_95) rfl hr) ?_
    show W p e below _ (T47.setTop (mkF m 96 #[.val (.int p0), .val (.int p1), .val (.int p2), .val (.int p3), .val (.int (2 : Int32)), .val (.ref b35), .val (.ref o41), .val (.ref b47), .unset] [(.int p2), (.int p1), (.int (2 : Int32)), (.ref b47)]))
    refine W.go (fun _ hr => XS.iloadN X47.here hx rfl (hb hby at_96) rfl hr) ?_
    show W p e below _ (T47.setTop (mkF m 97 #[.val (.int p0), .val (.int p1), .val (.int p2), .val (.int p3), .val (.int (2 : Int32)), .val (.ref b35), .val (.ref o41), .val (.ref b47), .unset] [(.int p3), (.int p2), (.int p1), (.int (2 : Int32)), (.ref b47)]))
    refine W.callS X47 hx hZ hown (g := (mkF m 97 #[.val (.int p0), .val (.int p1), .val (.int p2), .val (.int p3), .val (.int (2 : Int32)), .val (.ref b35), .val (.ref o41), .val (.ref b47), .unset] [(.int p3), (.int p2), (.int p1), (.int (2 : Int32)), (.ref b47)])) (by rw [hml]; rfl) (hw _ (List.mem_of_getElem? (i := 63) rfl)) (hw _ (List.mem_of_getElem? (i := 64) rfl)) (hw _ (List.mem_of_getElem? (i := 52) rfl)) (hw _ (List.mem_of_getElem? (i := 65) rfl)) e47 (rm9_2 l Z a0 hw b47 p1 p2 p3 (p1.toInt8.toInt32).toInt8.toInt32 (p2.toInt8.toInt32).toInt8.toInt32 k35 h47 n0 Z48 V_b47 (own_b _) (own_b _)) (by decide) pd_124 rfl (argsL := [(.ref b47), (.int (2 : Int32)), (.int p1), (.int p2), (.int p3)]) (rest := []) rfl rfl rfl (hb hby at_97) (W0 := 0) rfl (by decide) (by decide) (by decide) (by decide) (fun v49 T49 h49 L49 X49 e49 hQ49 => ?_)
    obtain ⟨rfl, N49q, hh49⟩ := hQ49
    obtain rfl := hh49.symm
    have N49 := Fr.app N47 N49q
    show W p e below _ (T49.setTop (mkF m 100 #[.val (.int p0), .val (.int p1), .val (.int p2), .val (.int p3), .val (.int (2 : Int32)), .val (.ref b35), .val (.ref o41), .val (.ref b47), .unset] [(.int (1 : Int32))]))
    refine W.go (fun _ hr => XS.ifYes X49.here hx rfl (pc0 := 100) (pc' := 105) rfl (hb hby at_100) rfl ((if0 _ _).trans (feq (by decide : ¬ ((1 : Int32) = (0 : Int32)))).2) (by decide) (by decide) hr) ?_
    show W p e below _ (T49.setTop (mkF m 105 #[.val (.int p0), .val (.int p1), .val (.int p2), .val (.int p3), .val (.int (2 : Int32)), .val (.ref b35), .val (.ref o41), .val (.ref b47), .unset] []))
    refine W.go (fun _ hr => XS.aload X49.here hx rfl (hb hby at_105) rfl rfl hr) ?_
    show W p e below _ (T49.setTop (mkF m 107 #[.val (.int p0), .val (.int p1), .val (.int p2), .val (.int p3), .val (.int (2 : Int32)), .val (.ref b35), .val (.ref o41), .val (.ref b47), .unset] [(.ref b47)]))
    refine W.go (fun _ hr => XS.iload X49.here hx rfl (hb hby at_107) rfl hr) ?_
    show W p e below _ (T49.setTop (mkF m 109 #[.val (.int p0), .val (.int p1), .val (.int p2), .val (.int p3), .val (.int (2 : Int32)), .val (.ref b35), .val (.ref o41), .val (.ref b47), .unset] [(.int (2 : Int32)), (.ref b47)]))
    refine W.go (fun _ hr => XS.iloadN X49.here hx rfl (hb hby at_109) rfl hr) ?_
    show W p e below _ (T49.setTop (mkF m 110 #[.val (.int p0), .val (.int p1), .val (.int p2), .val (.int p3), .val (.int (2 : Int32)), .val (.ref b35), .val (.ref o41), .val (.ref b47), .unset] [(.int p1), (.int (2 : Int32)), (.ref b47)]))
    refine W.go (fun _ hr => XS.iloadN X49.here hx rfl (hb hby at_110) rfl hr) ?_
    show W p e below _ (T49.setTop (mkF m 111 #[.val (.int p0), .val (.int p1), .val (.int p2), .val (.int p3), .val (.int (2 : Int32)), .val (.ref b35), .val (.ref o41), .val (.ref b47), .unset] [(.int p2), (.int p1), (.int (2 : Int32)), (.ref b47)]))
    refine W.go (fun _ hr => XS.iloadN X49.here hx rfl (hb hby at_111) rfl hr) ?_
    show W p e below _ (T49.setTop (mkF m 112 #[.val (.int p0), .val (.int p1), .val (.int p2), .val (.int p3), .val (.int (2 : Int32)), .val (.ref b35), .val (.ref o41), .val (.ref b47), .unset] [(.int p3), (.int p2), (.int p1), (.int (2 : Int32)), (.ref b47)]))
    refine W.callS X49 hx hZ hown (g := (mkF m 112 #[.val (.int p0), .val (.int p1), .val (.int p2), .val (.int p3), .val (.int (2 : Int32)), .val (.ref b35), .val (.ref o41), .val (.ref b47), .unset] [(.int p3), (.int p2), (.int p1), (.int (2 : Int32)), (.ref b47)])) (by rw [hml]; rfl) (hw _ (List.mem_of_getElem? (i := 50) rfl)) (hw _ (List.mem_of_getElem? (i := 51) rfl)) (hw _ (List.mem_of_getElem? (i := 52) rfl)) (hw _ (List.mem_of_getElem? (i := 53) rfl)) e49 (rm6_2 l Z a0 hw b47 p1 p2 p3 (p1.toInt8.toInt32).toInt8.toInt32 (p2.toInt8.toInt32).toInt8.toInt32 k35 h47 n0 Z48 E_b47 V_b47 g_b47) (by decide) pd_122 rfl (argsL := [(.ref b47), (.int (2 : Int32)), (.int p1), (.int p2), (.int p3)]) (rest := []) rfl rfl rfl (hb hby at_112) (W0 := 0) rfl (by decide) (by decide) (by decide) (by decide) (fun v50 T50 h50 L50 X50 e50 hQ50 => ?_)
    obtain ⟨rfl, N50q, K50, Ee50, vs50, Vs50⟩ := hQ50
    have N50 := Fr.app N49 N50q
    have nsK50 := (nsS E_b47.nostat ns0)
    replace S_DATA := Sta.keep S_DATA K50 nsK50
    replace S_NO_ITEMS := Sta.keep S_NO_ITEMS K50 nsK50
    replace S_NO_TAGS := Sta.keep S_NO_TAGS K50 nsK50
    replace S_NO_POSITIONS := Sta.keep S_NO_POSITIONS K50 nsK50
    replace E_b35 := E_b35.keep K50
    replace E_o41 := E_o41.keep K50
    replace E_d41 := E_d41.keep K50
    replace F_type_o41 := F_type_o41.keep K50 (ninS ne_o41_b47 nin0)
    replace F_data_o41 := F_data_o41.keep K50 (ninS ne_o41_b47 nin0)
    replace V_d41 := V_d41.keep K50 (ninS ne_d41_b47 nin0)
    replace E_b47 := E_b47.keep K50
    have Z51 : n0 ≤ h50.size := Nat.le_trans Z48 K50.1
    show W p e below _ (T50.setTop (mkF m 115 #[.val (.int p0), .val (.int p1), .val (.int p2), .val (.int p3), .val (.int (2 : Int32)), .val (.ref b35), .val (.ref o41), .val (.ref b47), .unset] []))
    refine W.go (fun _ hr => XS.aload X50.here hx rfl (hb hby at_115) rfl rfl hr) ?_
    show W p e below _ (T50.setTop (mkF m 117 #[.val (.int p0), .val (.int p1), .val (.int p2), .val (.int p3), .val (.int (2 : Int32)), .val (.ref b35), .val (.ref o41), .val (.ref b47), .unset] [(.ref o41)]))
    refine W.callV X50 hx hZ hown (g := (mkF m 117 #[.val (.int p0), .val (.int p1), .val (.int p2), .val (.int p3), .val (.int (2 : Int32)), .val (.ref b35), .val (.ref o41), .val (.ref b47), .unset] [(.ref o41)])) (by rw [hml]; rfl) (hw _ (List.mem_of_getElem? (i := 54) rfl)) (hw _ (List.mem_of_getElem? (i := 55) rfl)) (hw _ (List.mem_of_getElem? (i := 57) rfl)) (hw _ (List.mem_of_getElem? (i := 56) rfl)) (hw _ (List.mem_of_getElem? (i := 3) rfl)) (hw _ (List.mem_of_getElem? (i := 58) rfl)) e50 (rm7_2 l Z a0 hw o41 (p1.toInt8.toInt32).toInt8.toInt32 (p2.toInt8.toInt32).toInt8.toInt32 k35 w_DATA d41 h50 n0 Z51 E_o41 F_type_o41 F_data_o41 E_d41 V_d41 S_DATA) (notFace_of_selects (args := #[]) (mvT hZ (hw _ (List.mem_of_getElem? (i := 57) rfl)))) (by decide) pd_123 rfl E_o41 (argsL := []) (rest := []) rfl rfl rfl (hb hby at_117) (W0 := 0) rfl (by decide) (by decide) (by decide) (by decide) (fun v52 T52 h52 L52 X52 e52 hQ52 => ?_)
    obtain ⟨b52, rfl, N52q, K52, sb52, E_b52, V_b52⟩ := hQ52
    have N52 := Fr.app N50 N52q
    have ne_b35_b52 : b35 ≠ b52 := Nat.ne_of_lt (Nat.lt_of_lt_of_le E_b35.lt sb52)
    have ne_o41_b52 : o41 ≠ b52 := Nat.ne_of_lt (Nat.lt_of_lt_of_le E_o41.lt sb52)
    have ne_d41_b52 : d41 ≠ b52 := Nat.ne_of_lt (Nat.lt_of_lt_of_le E_d41.lt sb52)
    have ne_b47_b52 : b47 ≠ b52 := Nat.ne_of_lt (Nat.lt_of_lt_of_le E_b47.lt sb52)
    have g_b52 : n0 ≤ b52 := Nat.le_trans Z51 sb52
    replace S_DATA := Sta.keep S_DATA K52 ns0
    replace S_NO_ITEMS := Sta.keep S_NO_ITEMS K52 ns0
    replace S_NO_TAGS := Sta.keep S_NO_TAGS K52 ns0
    replace S_NO_POSITIONS := Sta.keep S_NO_POSITIONS K52 ns0
    replace E_b35 := E_b35.keep K52
    replace E_o41 := E_o41.keep K52
    replace E_d41 := E_d41.keep K52
    replace F_type_o41 := F_type_o41.keep K52 nin0
    replace F_data_o41 := F_data_o41.keep K52 nin0
    replace V_d41 := V_d41.keep K52 nin0
    replace E_b47 := E_b47.keep K52
    have Z53 : n0 ≤ h52.size := Nat.le_trans Z51 K52.1
    show W p e below _ (T52.setTop (mkF m 120 #[.val (.int p0), .val (.int p1), .val (.int p2), .val (.int p3), .val (.int (2 : Int32)), .val (.ref b35), .val (.ref o41), .val (.ref b47), .unset] [(.ref b52)]))
    refine W.go (fun _ hr => XS.astore X52.here hx rfl (hb hby at_120) rfl rfl (l' := #[.val (.int p0), .val (.int p1), .val (.int p2), .val (.int p3), .val (.int (2 : Int32)), .val (.ref b35), .val (.ref o41), .val (.ref b47), .val (.ref b52)]) rfl hr) ?_
    show W p e below _ (T52.setTop (mkF m 122 #[.val (.int p0), .val (.int p1), .val (.int p2), .val (.int p3), .val (.int (2 : Int32)), .val (.ref b35), .val (.ref o41), .val (.ref b47), .val (.ref b52)] []))
    refine W.go (fun _ hr => XS.aload X52.here hx rfl (hb hby at_122) rfl rfl hr) ?_
    show W p e below _ (T52.setTop (mkF m 124 #[.val (.int p0), .val (.int p1), .val (.int p2), .val (.int p3), .val (.int (2 : Int32)), .val (.ref b35), .val (.ref o41), .val (.ref b47), .val (.ref b52)] [(.ref b52)]))
    refine W.go (fun _ hr => XS.iload X52.here hx rfl (hb hby at_124) rfl hr) ?_
    show W p e below _ (T52.setTop (mkF m 126 #[.val (.int p0), .val (.int p1), .val (.int p2), .val (.int p3), .val (.int (2 : Int32)), .val (.ref b35), .val (.ref o41), .val (.ref b47), .val (.ref b52)] [(.int (2 : Int32)), (.ref b52)]))
    refine W.go (fun _ hr => XS.iloadN X52.here hx rfl (hb hby at_126) rfl hr) ?_
    show W p e below _ (T52.setTop (mkF m 127 #[.val (.int p0), .val (.int p1), .val (.int p2), .val (.int p3), .val (.int (2 : Int32)), .val (.ref b35), .val (.ref o41), .val (.ref b47), .val (.ref b52)] [(.int p1), (.int (2 : Int32)), (.ref b52)]))
    refine W.go (fun _ hr => XS.iloadN X52.here hx rfl (hb hby at_127) rfl hr) ?_
    show W p e below _ (T52.setTop (mkF m 128 #[.val (.int p0), .val (.int p1), .val (.int p2), .val (.int p3), .val (.int (2 : Int32)), .val (.ref b35), .val (.ref o41), .val (.ref b47), .val (.ref b52)] [(.int p2), (.int p1), (.int (2 : Int32)), (.ref b52)]))
    refine W.go (fun _ hr => XS.iloadN X52.here hx rfl (hb hby at_128) rfl hr) ?_
    show W p e below _ (T52.setTop (mkF m 129 #[.val (.int p0), .val (.int p1), .val (.int p2), .val (.int p3), .val (.int (2 : Int32)), .val (.ref b35), .val (.ref o41), .val (.ref b47), .val (.ref b52)] [(.int p3), (.int p2), (.int p1), (.int (2 : Int32)), (.ref b52)]))
    refine W.callS X52 hx hZ hown (g := (mkF m 129 #[.val (.int p0), .val (.int p1), .val (.int p2), .val (.int p3), .val (.int (2 : Int32)), .val (.ref b35), .val (.ref o41), .val (.ref b47), .val (.ref b52)] [(.int p3), (.int p2), (.int p1), (.int (2 : Int32)), (.ref b52)])) (by rw [hml]; rfl) (hw _ (List.mem_of_getElem? (i := 63) rfl)) (hw _ (List.mem_of_getElem? (i := 64) rfl)) (hw _ (List.mem_of_getElem? (i := 52) rfl)) (hw _ (List.mem_of_getElem? (i := 65) rfl)) e52 (rm9_2 l Z a0 hw b52 p1 p2 p3 (p1.toInt8.toInt32).toInt8.toInt32 (p2.toInt8.toInt32).toInt8.toInt32 k35 h52 n0 Z53 V_b52 (own_b _) (own_b _)) (by decide) pd_124 rfl (argsL := [(.ref b52), (.int (2 : Int32)), (.int p1), (.int p2), (.int p3)]) (rest := []) rfl rfl rfl (hb hby at_129) (W0 := 0) rfl (by decide) (by decide) (by decide) (by decide) (fun v54 T54 h54 L54 X54 e54 hQ54 => ?_)
    obtain ⟨rfl, N54q, hh54⟩ := hQ54
    obtain rfl := hh54.symm
    have N54 := Fr.app N52 N54q
    show W p e below _ (T54.setTop (mkF m 132 #[.val (.int p0), .val (.int p1), .val (.int p2), .val (.int p3), .val (.int (2 : Int32)), .val (.ref b35), .val (.ref o41), .val (.ref b47), .val (.ref b52)] [(.int (1 : Int32))]))
    exact W.retB X54 hx hlk (t := .boolean) hret (by simp) (hb hby at_132) (by decide) (by decide) e54 ⟨rfl, N54⟩
  · rw [q]
    show W p e below _ (s₁.setTop (mkF m 3 #[.val (.int p0), .val (.int p1), .val (.int p2), .val (.int p3), .unset, .unset, .unset, .unset, .unset] [(.int (3 : Int32))]))
    refine W.go (fun _ hr => XS.istore X0.here hx rfl (hb hby at_3) rfl (l' := #[.val (.int p0), .val (.int p1), .val (.int p2), .val (.int p3), .val (.int (3 : Int32)), .unset, .unset, .unset, .unset]) rfl hr) ?_
    show W p e below _ (s₁.setTop (mkF m 5 #[.val (.int p0), .val (.int p1), .val (.int p2), .val (.int p3), .val (.int (3 : Int32)), .unset, .unset, .unset, .unset] []))
    refine W.go (fun _ hr => XS.iload X0.here hx rfl (hb hby at_5) rfl hr) ?_
    show W p e below _ (s₁.setTop (mkF m 7 #[.val (.int p0), .val (.int p1), .val (.int p2), .val (.int p3), .val (.int (3 : Int32)), .unset, .unset, .unset, .unset] [(.int (3 : Int32))]))
    obtain ⟨T55, h55, k55, X55, e55, E55, A55, E_b55, st55⟩ := newPE X0 hx hZ (hw _ (List.mem_of_getElem? (i := 0) rfl)) e0 (g := (mkF m 7 #[.val (.int p0), .val (.int p1), .val (.int p2), .val (.int p3), .val (.int (3 : Int32)), .unset, .unset, .unset, .unset] [(.int (3 : Int32))])) rfl (hb hby at_7) rfl (by decide) (cap := 3) (by decide) (by decide) (by decide) (by decide) (ad := "[B") (by decide)
    obtain ⟨b55, g55⟩ : ∃ z, z = h0.size := ⟨_, rfl⟩
    rw [← g55] at A55 E_b55 st55
    have g_b55 : n0 ≤ b55 := Nat.le_trans Z0 (Nat.le_of_eq g55.symm)
    replace S_DATA := Sta.ext E55 S_DATA
    replace S_NO_ITEMS := Sta.ext E55 S_NO_ITEMS
    replace S_NO_TAGS := Sta.ext E55 S_NO_TAGS
    replace S_NO_POSITIONS := Sta.ext E55 S_NO_POSITIONS
    have Z56 : n0 ≤ h55.size := Nat.le_trans Z0 E55.1
    have V_b55 : Arv Z h55 b55 k55 .byte (3 : Int32) [(.int (0 : Int32)), (.int (0 : Int32)), (.int (0 : Int32))] (.int (0 : Int32)) := (Arv.new A55 (by decide)).pad (pad_rep [] (.int (0 : Int32)) 3)
    refine W.go st55 ?_
    show W p e below _ (T55.setTop (mkF m 9 #[.val (.int p0), .val (.int p1), .val (.int p2), .val (.int p3), .val (.int (3 : Int32)), .unset, .unset, .unset, .unset] [(.ref b55)]))
    refine W.go (fun _ hr => XS.astore X55.here hx rfl (hb hby at_9) rfl rfl (l' := #[.val (.int p0), .val (.int p1), .val (.int p2), .val (.int p3), .val (.int (3 : Int32)), .val (.ref b55), .unset, .unset, .unset]) rfl hr) ?_
    show W p e below _ (T55.setTop (mkF m 11 #[.val (.int p0), .val (.int p1), .val (.int p2), .val (.int p3), .val (.int (3 : Int32)), .val (.ref b55), .unset, .unset, .unset] []))
    refine W.go (fun _ hr => XS.iload X55.here hx rfl (hb hby at_11) rfl hr) ?_
    show W p e below _ (T55.setTop (mkF m 13 #[.val (.int p0), .val (.int p1), .val (.int p2), .val (.int p3), .val (.int (3 : Int32)), .val (.ref b55), .unset, .unset, .unset] [(.int (3 : Int32))]))
    refine W.go (fun _ hr => XS.ifNo X55.here hx rfl (hb hby at_13) rfl ((if0 _ _).trans (tlt (by decide : ((0 : Int32) < (3 : Int32)))).2.2.2) hr) ?_
    show W p e below _ (T55.setTop (mkF m 16 #[.val (.int p0), .val (.int p1), .val (.int p2), .val (.int p3), .val (.int (3 : Int32)), .val (.ref b55), .unset, .unset, .unset] []))
    refine W.go (fun _ hr => XS.aload X55.here hx rfl (hb hby at_16) rfl rfl hr) ?_
    show W p e below _ (T55.setTop (mkF m 18 #[.val (.int p0), .val (.int p1), .val (.int p2), .val (.int p3), .val (.int (3 : Int32)), .val (.ref b55), .unset, .unset, .unset] [(.ref b55)]))
    refine W.go (fun _ hr => XS.iconst X55.here hx rfl (hb hby at_18) hr) ?_
    show W p e below _ (T55.setTop (mkF m 19 #[.val (.int p0), .val (.int p1), .val (.int p2), .val (.int p3), .val (.int (3 : Int32)), .val (.ref b55), .unset, .unset, .unset] [(.int (0 : Int32)), (.ref b55)]))
    refine W.go (fun _ hr => XS.iloadN X55.here hx rfl (hb hby at_19) rfl hr) ?_
    show W p e below _ (T55.setTop (mkF m 20 #[.val (.int p0), .val (.int p1), .val (.int p2), .val (.int p3), .val (.int (3 : Int32)), .val (.ref b55), .unset, .unset, .unset] [(.int p1), (.int (0 : Int32)), (.ref b55)]))
    refine W.go (fun _ hr => XS.i2b X55.here hx rfl (hb hby at_20) rfl hr) ?_
    show W p e below _ (T55.setTop (mkF m 21 #[.val (.int p0), .val (.int p1), .val (.int p2), .val (.int p3), .val (.int (3 : Int32)), .val (.ref b55), .unset, .unset, .unset] [(.int (p1.toInt8.toInt32)), (.int (0 : Int32)), (.ref b55)]))
    obtain ⟨cl57, Ar57, q57, S57, Nn57, H57, G57⟩ := V_b55
    have hin57 : ¬ ((0 : Int32) < 0 ∨ cl57.slots.size ≤ ((0 : Int32)).toNatClampNeg) := inb_of S57 ⟨by decide, by decide⟩
    obtain ⟨T57, h57, X57, e57, W57, st57⟩ := stB X55 hx hZ e55 Ar57 (j := (0 : Int32)) hin57 (g := (mkF m 21 #[.val (.int p0), .val (.int p1), .val (.int p2), .val (.int p3), .val (.int (3 : Int32)), .val (.ref b55), .unset, .unset, .unset] [(.int (p1.toInt8.toInt32)), (.int (0 : Int32)), (.ref b55)])) rfl rfl (hb hby at_21)
    replace V_b55 : Arv Z h57 b55 k55 .byte (3 : Int32) [(.int (p1.toInt8.toInt32).toInt8.toInt32), (.int (0 : Int32)), (.int (0 : Int32))] (.int (0 : Int32)) := Arv.set Ar57 q57 S57 Nn57 H57 G57 (fits_nar_byte _) W57 0 rfl (Nat.le_of_ble_eq_true rfl)
    replace S_DATA := Sta.wr W57 S_DATA
    replace S_NO_ITEMS := Sta.wr W57 S_NO_ITEMS
    replace S_NO_TAGS := Sta.wr W57 S_NO_TAGS
    replace S_NO_POSITIONS := Sta.wr W57 S_NO_POSITIONS
    replace E_b55 := E_b55.wr W57
    have Z58 : n0 ≤ h57.size := Nat.le_trans Z56 (Keep.of_wr W57).1
    refine W.go st57 ?_
    have N57 := Fr.snoc X57 N0 g_b55
    show W p e below _ (T57.setTop (mkF m 22 #[.val (.int p0), .val (.int p1), .val (.int p2), .val (.int p3), .val (.int (3 : Int32)), .val (.ref b55), .unset, .unset, .unset] []))
    refine W.go (fun _ hr => XS.iload X57.here hx rfl (hb hby at_22) rfl hr) ?_
    show W p e below _ (T57.setTop (mkF m 24 #[.val (.int p0), .val (.int p1), .val (.int p2), .val (.int p3), .val (.int (3 : Int32)), .val (.ref b55), .unset, .unset, .unset] [(.int (3 : Int32))]))
    refine W.go (fun _ hr => XS.iconst X57.here hx rfl (hb hby at_24) hr) ?_
    show W p e below _ (T57.setTop (mkF m 25 #[.val (.int p0), .val (.int p1), .val (.int p2), .val (.int p3), .val (.int (3 : Int32)), .val (.ref b55), .unset, .unset, .unset] [(.int (1 : Int32)), (.int (3 : Int32))]))
    refine W.go (fun _ hr => XS.icmpNo X57.here hx rfl (hb hby at_25) rfl (tlt (by decide : ((1 : Int32) < (3 : Int32)))).2.2.2 hr) ?_
    show W p e below _ (T57.setTop (mkF m 28 #[.val (.int p0), .val (.int p1), .val (.int p2), .val (.int p3), .val (.int (3 : Int32)), .val (.ref b55), .unset, .unset, .unset] []))
    refine W.go (fun _ hr => XS.aload X57.here hx rfl (hb hby at_28) rfl rfl hr) ?_
    show W p e below _ (T57.setTop (mkF m 30 #[.val (.int p0), .val (.int p1), .val (.int p2), .val (.int p3), .val (.int (3 : Int32)), .val (.ref b55), .unset, .unset, .unset] [(.ref b55)]))
    refine W.go (fun _ hr => XS.iconst X57.here hx rfl (hb hby at_30) hr) ?_
    show W p e below _ (T57.setTop (mkF m 31 #[.val (.int p0), .val (.int p1), .val (.int p2), .val (.int p3), .val (.int (3 : Int32)), .val (.ref b55), .unset, .unset, .unset] [(.int (1 : Int32)), (.ref b55)]))
    refine W.go (fun _ hr => XS.iloadN X57.here hx rfl (hb hby at_31) rfl hr) ?_
    show W p e below _ (T57.setTop (mkF m 32 #[.val (.int p0), .val (.int p1), .val (.int p2), .val (.int p3), .val (.int (3 : Int32)), .val (.ref b55), .unset, .unset, .unset] [(.int p2), (.int (1 : Int32)), (.ref b55)]))
    refine W.go (fun _ hr => XS.i2b X57.here hx rfl (hb hby at_32) rfl hr) ?_
    show W p e below _ (T57.setTop (mkF m 33 #[.val (.int p0), .val (.int p1), .val (.int p2), .val (.int p3), .val (.int (3 : Int32)), .val (.ref b55), .unset, .unset, .unset] [(.int (p2.toInt8.toInt32)), (.int (1 : Int32)), (.ref b55)]))
    obtain ⟨cl59, Ar59, q59, S59, Nn59, H59, G59⟩ := V_b55
    have hin59 : ¬ ((1 : Int32) < 0 ∨ cl59.slots.size ≤ ((1 : Int32)).toNatClampNeg) := inb_of S59 ⟨by decide, by decide⟩
    obtain ⟨T59, h59, X59, e59, W59, st59⟩ := stB X57 hx hZ e57 Ar59 (j := (1 : Int32)) hin59 (g := (mkF m 33 #[.val (.int p0), .val (.int p1), .val (.int p2), .val (.int p3), .val (.int (3 : Int32)), .val (.ref b55), .unset, .unset, .unset] [(.int (p2.toInt8.toInt32)), (.int (1 : Int32)), (.ref b55)])) rfl rfl (hb hby at_33)
    replace V_b55 : Arv Z h59 b55 k55 .byte (3 : Int32) [(.int (p1.toInt8.toInt32).toInt8.toInt32), (.int (p2.toInt8.toInt32).toInt8.toInt32), (.int (0 : Int32))] (.int (0 : Int32)) := Arv.set Ar59 q59 S59 Nn59 H59 G59 (fits_nar_byte _) W59 1 rfl (Nat.le_of_ble_eq_true rfl)
    replace S_DATA := Sta.wr W59 S_DATA
    replace S_NO_ITEMS := Sta.wr W59 S_NO_ITEMS
    replace S_NO_TAGS := Sta.wr W59 S_NO_TAGS
    replace S_NO_POSITIONS := Sta.wr W59 S_NO_POSITIONS
    replace E_b55 := E_b55.wr W59
    have Z60 : n0 ≤ h59.size := Nat.le_trans Z58 (Keep.of_wr W59).1
    refine W.go st59 ?_
    have N59 := Fr.snoc X59 N57 g_b55
    show W p e below _ (T59.setTop (mkF m 34 #[.val (.int p0), .val (.int p1), .val (.int p2), .val (.int p3), .val (.int (3 : Int32)), .val (.ref b55), .unset, .unset, .unset] []))
    refine W.go (fun _ hr => XS.iload X59.here hx rfl (hb hby at_34) rfl hr) ?_
    show W p e below _ (T59.setTop (mkF m 36 #[.val (.int p0), .val (.int p1), .val (.int p2), .val (.int p3), .val (.int (3 : Int32)), .val (.ref b55), .unset, .unset, .unset] [(.int (3 : Int32))]))
    refine W.go (fun _ hr => XS.iconst X59.here hx rfl (hb hby at_36) hr) ?_
    show W p e below _ (T59.setTop (mkF m 37 #[.val (.int p0), .val (.int p1), .val (.int p2), .val (.int p3), .val (.int (3 : Int32)), .val (.ref b55), .unset, .unset, .unset] [(.int (2 : Int32)), (.int (3 : Int32))]))
    refine W.go (fun _ hr => XS.icmpNo X59.here hx rfl (hb hby at_37) rfl (tlt (by decide : ((2 : Int32) < (3 : Int32)))).2.2.2 hr) ?_
    show W p e below _ (T59.setTop (mkF m 40 #[.val (.int p0), .val (.int p1), .val (.int p2), .val (.int p3), .val (.int (3 : Int32)), .val (.ref b55), .unset, .unset, .unset] []))
    refine W.go (fun _ hr => XS.aload X59.here hx rfl (hb hby at_40) rfl rfl hr) ?_
    show W p e below _ (T59.setTop (mkF m 42 #[.val (.int p0), .val (.int p1), .val (.int p2), .val (.int p3), .val (.int (3 : Int32)), .val (.ref b55), .unset, .unset, .unset] [(.ref b55)]))
    refine W.go (fun _ hr => XS.iconst X59.here hx rfl (hb hby at_42) hr) ?_
    show W p e below _ (T59.setTop (mkF m 43 #[.val (.int p0), .val (.int p1), .val (.int p2), .val (.int p3), .val (.int (3 : Int32)), .val (.ref b55), .unset, .unset, .unset] [(.int (2 : Int32)), (.ref b55)]))
    refine W.go (fun _ hr => XS.iloadN X59.here hx rfl (hb hby at_43) rfl hr) ?_
    show W p e below _ (T59.setTop (mkF m 44 #[.val (.int p0), .val (.int p1), .val (.int p2), .val (.int p3), .val (.int (3 : Int32)), .val (.ref b55), .unset, .unset, .unset] [(.int p3), (.int (2 : Int32)), (.ref b55)]))
    refine W.go (fun _ hr => XS.i2b X59.here hx rfl (hb hby at_44) rfl hr) ?_
    show W p e below _ (T59.setTop (mkF m 45 #[.val (.int p0), .val (.int p1), .val (.int p2), .val (.int p3), .val (.int (3 : Int32)), .val (.ref b55), .unset, .unset, .unset] [(.int (p3.toInt8.toInt32)), (.int (2 : Int32)), (.ref b55)]))
    obtain ⟨cl61, Ar61, q61, S61, Nn61, H61, G61⟩ := V_b55
    have hin61 : ¬ ((2 : Int32) < 0 ∨ cl61.slots.size ≤ ((2 : Int32)).toNatClampNeg) := inb_of S61 ⟨by decide, by decide⟩
    obtain ⟨T61, h61, X61, e61, W61, st61⟩ := stB X59 hx hZ e59 Ar61 (j := (2 : Int32)) hin61 (g := (mkF m 45 #[.val (.int p0), .val (.int p1), .val (.int p2), .val (.int p3), .val (.int (3 : Int32)), .val (.ref b55), .unset, .unset, .unset] [(.int (p3.toInt8.toInt32)), (.int (2 : Int32)), (.ref b55)])) rfl rfl (hb hby at_45)
    replace V_b55 : Arv Z h61 b55 k55 .byte (3 : Int32) [(.int (p1.toInt8.toInt32).toInt8.toInt32), (.int (p2.toInt8.toInt32).toInt8.toInt32), (.int (p3.toInt8.toInt32).toInt8.toInt32)] (.int (0 : Int32)) := Arv.set Ar61 q61 S61 Nn61 H61 G61 (fits_nar_byte _) W61 2 rfl (Nat.le_of_ble_eq_true rfl)
    replace S_DATA := Sta.wr W61 S_DATA
    replace S_NO_ITEMS := Sta.wr W61 S_NO_ITEMS
    replace S_NO_TAGS := Sta.wr W61 S_NO_TAGS
    replace S_NO_POSITIONS := Sta.wr W61 S_NO_POSITIONS
    replace E_b55 := E_b55.wr W61
    have Z62 : n0 ≤ h61.size := Nat.le_trans Z60 (Keep.of_wr W61).1
    refine W.go st61 ?_
    have N61 := Fr.snoc X61 N59 g_b55
    show W p e below _ (T61.setTop (mkF m 46 #[.val (.int p0), .val (.int p1), .val (.int p2), .val (.int p3), .val (.int (3 : Int32)), .val (.ref b55), .unset, .unset, .unset] []))
    refine W.go (fun _ hr => XS.aload X61.here hx rfl (hb hby at_46) rfl rfl hr) ?_
    show W p e below _ (T61.setTop (mkF m 48 #[.val (.int p0), .val (.int p1), .val (.int p2), .val (.int p3), .val (.int (3 : Int32)), .val (.ref b55), .unset, .unset, .unset] [(.ref b55)]))
    refine W.callS X61 hx hZ hown (g := (mkF m 48 #[.val (.int p0), .val (.int p1), .val (.int p2), .val (.int p3), .val (.int (3 : Int32)), .val (.ref b55), .unset, .unset, .unset] [(.ref b55)])) (by rw [hml]; rfl) (hw _ (List.mem_of_getElem? (i := 1) rfl)) (hw _ (List.mem_of_getElem? (i := 2) rfl)) (hw _ (List.mem_of_getElem? (i := 3) rfl)) (hw _ (List.mem_of_getElem? (i := 4) rfl)) e61 (rm1_3 l Z a0 hw b55 (p1.toInt8.toInt32).toInt8.toInt32 (p2.toInt8.toInt32).toInt8.toInt32 (p3.toInt8.toInt32).toInt8.toInt32 k55 w_DATA w_NO_ITEMS w_NO_TAGS w_NO_POSITIONS h61 n0 Z62 E_b55 V_b55 S_DATA S_NO_ITEMS S_NO_TAGS S_NO_POSITIONS) (by decide) pd_120 rfl (argsL := [(.ref b55)]) (rest := []) rfl rfl rfl (hb hby at_48) (W0 := 0) rfl (by decide) (by decide) (by decide) (by decide) (fun v63 T63 h63 L63 X63 e63 hQ63 => ?_)
    obtain ⟨o63, d63, rfl, N63q, K63, so63, sd63, nod63, E_o63, E_d63, F_type_o63, F_data_o63, V_d63⟩ := hQ63
    have N63 := Fr.app N61 N63q
    have ne_b55_o63 : b55 ≠ o63 := Nat.ne_of_lt (Nat.lt_of_lt_of_le E_b55.lt so63)
    have ne_b55_d63 : b55 ≠ d63 := Nat.ne_of_lt (Nat.lt_of_lt_of_le E_b55.lt sd63)
    have g_o63 : n0 ≤ o63 := Nat.le_trans Z62 so63
    replace S_DATA := Sta.keep S_DATA K63 ns0
    replace S_NO_ITEMS := Sta.keep S_NO_ITEMS K63 ns0
    replace S_NO_TAGS := Sta.keep S_NO_TAGS K63 ns0
    replace S_NO_POSITIONS := Sta.keep S_NO_POSITIONS K63 ns0
    replace E_b55 := E_b55.keep K63
    replace V_b55 := V_b55.keep K63 nin0
    have Z64 : n0 ≤ h63.size := Nat.le_trans Z62 K63.1
    show W p e below _ (T63.setTop (mkF m 51 #[.val (.int p0), .val (.int p1), .val (.int p2), .val (.int p3), .val (.int (3 : Int32)), .val (.ref b55), .unset, .unset, .unset] [(.ref o63)]))
    refine W.go (fun _ hr => XS.astore X63.here hx rfl (hb hby at_51) rfl rfl (l' := #[.val (.int p0), .val (.int p1), .val (.int p2), .val (.int p3), .val (.int (3 : Int32)), .val (.ref b55), .val (.ref o63), .unset, .unset]) rfl hr) ?_
    show W p e below _ (T63.setTop (mkF m 53 #[.val (.int p0), .val (.int p1), .val (.int p2), .val (.int p3), .val (.int (3 : Int32)), .val (.ref b55), .val (.ref o63), .unset, .unset] []))
    refine W.go (fun _ hr => XS.aload X63.here hx rfl (hb hby at_53) rfl rfl hr) ?_
    show W p e below _ (T63.setTop (mkF m 55 #[.val (.int p0), .val (.int p1), .val (.int p2), .val (.int p3), .val (.int (3 : Int32)), .val (.ref b55), .val (.ref o63), .unset, .unset] [(.ref o63)]))
    refine W.go (fun _ hr => XS.ifnonnullYes X63.here hx rfl (pc0 := 55) (pc' := 60) rfl (hb hby at_55) rfl (by decide) (by decide) hr) ?_
    show W p e below _ (T63.setTop (mkF m 60 #[.val (.int p0), .val (.int p1), .val (.int p2), .val (.int p3), .val (.int (3 : Int32)), .val (.ref b55), .val (.ref o63), .unset, .unset] []))
    refine W.go (fun _ hr => XS.aload X63.here hx rfl (hb hby at_60) rfl rfl hr) ?_
    show W p e below _ (T63.setTop (mkF m 62 #[.val (.int p0), .val (.int p1), .val (.int p2), .val (.int p3), .val (.int (3 : Int32)), .val (.ref b55), .val (.ref o63), .unset, .unset] [(.ref o63)]))
    refine W.callV X63 hx hZ hown (g := (mkF m 62 #[.val (.int p0), .val (.int p1), .val (.int p2), .val (.int p3), .val (.int (3 : Int32)), .val (.ref b55), .val (.ref o63), .unset, .unset] [(.ref o63)])) (by rw [hml]; rfl) (hw _ (List.mem_of_getElem? (i := 44) rfl)) (hw _ (List.mem_of_getElem? (i := 45) rfl)) (hw _ (List.mem_of_getElem? (i := 47) rfl)) (hw _ (List.mem_of_getElem? (i := 46) rfl)) (hw _ (List.mem_of_getElem? (i := 3) rfl)) (hw _ (List.mem_of_getElem? (i := 48) rfl)) e63 (rm5 l Z a0 hw o63 w_DATA h63 n0 Z64 F_type_o63) (notFace_of_selects (args := #[]) (mvT hZ (hw _ (List.mem_of_getElem? (i := 47) rfl)))) (by decide) pd_121 rfl E_o63 (argsL := []) (rest := []) rfl rfl rfl (hb hby at_62) (W0 := 0) rfl (by decide) (by decide) (by decide) (by decide) (fun v65 T65 h65 L65 X65 e65 hQ65 => ?_)
    obtain ⟨rfl, N65q, hh65⟩ := hQ65
    obtain rfl := hh65.symm
    have N65 := Fr.app N63 N65q
    show W p e below _ (T65.setTop (mkF m 65 #[.val (.int p0), .val (.int p1), .val (.int p2), .val (.int p3), .val (.int (3 : Int32)), .val (.ref b55), .val (.ref o63), .unset, .unset] [(.ref w_DATA)]))
    obtain ⟨T66, X66, e66, st66⟩ := getS2 X65 hx hZ hown (host := "") (Or.inl (hw _ (List.mem_of_getElem? (i := 49) rfl))) Via.refl e65 S_DATA (g := (mkF m 65 #[.val (.int p0), .val (.int p1), .val (.int p2), .val (.int p3), .val (.int (3 : Int32)), .val (.ref b55), .val (.ref o63), .unset, .unset] [(.ref w_DATA)])) rfl (hb hby at_65)
    refine W.go st66 ?_
    show W p e below _ (T66.setTop (mkF m 68 #[.val (.int p0), .val (.int p1), .val (.int p2), .val (.int p3), .val (.int (3 : Int32)), .val (.ref b55), .val (.ref o63), .unset, .unset] [(.ref w_DATA), (.ref w_DATA)]))
    refine W.go (fun _ hr => Jvm.RoadKit.acmp (g := (mkF m 68 #[.val (.int p0), .val (.int p1), .val (.int p2), .val (.int p3), .val (.int (3 : Int32)), .val (.ref b55), .val (.ref o63), .unset, .unset] [(.ref w_DATA), (.ref w_DATA)])) X66 hx rfl rfl rfl (pc0 := 68) (pc' := 73) (same := true) rfl (hb hby at_68) rfl (decide_eq_true rfl) (by decide) (by decide) hr) ?_
    show W p e below _ (T66.setTop (mkF m 73 #[.val (.int p0), .val (.int p1), .val (.int p2), .val (.int p3), .val (.int (3 : Int32)), .val (.ref b55), .val (.ref o63), .unset, .unset] []))
    refine W.go (fun _ hr => XS.aload X66.here hx rfl (hb hby at_73) rfl rfl hr) ?_
    show W p e below _ (T66.setTop (mkF m 75 #[.val (.int p0), .val (.int p1), .val (.int p2), .val (.int p3), .val (.int (3 : Int32)), .val (.ref b55), .val (.ref o63), .unset, .unset] [(.ref b55)]))
    refine W.go (fun _ hr => XS.iload X66.here hx rfl (hb hby at_75) rfl hr) ?_
    show W p e below _ (T66.setTop (mkF m 77 #[.val (.int p0), .val (.int p1), .val (.int p2), .val (.int p3), .val (.int (3 : Int32)), .val (.ref b55), .val (.ref o63), .unset, .unset] [(.int (3 : Int32)), (.ref b55)]))
    refine W.go (fun _ hr => XS.iloadN X66.here hx rfl (hb hby at_77) rfl hr) ?_
    show W p e below _ (T66.setTop (mkF m 78 #[.val (.int p0), .val (.int p1), .val (.int p2), .val (.int p3), .val (.int (3 : Int32)), .val (.ref b55), .val (.ref o63), .unset, .unset] [(.int p1), (.int (3 : Int32)), (.ref b55)]))
    refine W.go (fun _ hr => XS.iloadN X66.here hx rfl (hb hby at_78) rfl hr) ?_
    show W p e below _ (T66.setTop (mkF m 79 #[.val (.int p0), .val (.int p1), .val (.int p2), .val (.int p3), .val (.int (3 : Int32)), .val (.ref b55), .val (.ref o63), .unset, .unset] [(.int p2), (.int p1), (.int (3 : Int32)), (.ref b55)]))
    refine W.go (fun _ hr => XS.iloadN X66.here hx rfl (hb hby at_79) rfl hr) ?_
    show W p e below _ (T66.setTop (mkF m 80 #[.val (.int p0), .val (.int p1), .val (.int p2), .val (.int p3), .val (.int (3 : Int32)), .val (.ref b55), .val (.ref o63), .unset, .unset] [(.int p3), (.int p2), (.int p1), (.int (3 : Int32)), (.ref b55)]))
    refine W.callS X66 hx hZ hown (g := (mkF m 80 #[.val (.int p0), .val (.int p1), .val (.int p2), .val (.int p3), .val (.int (3 : Int32)), .val (.ref b55), .val (.ref o63), .unset, .unset] [(.int p3), (.int p2), (.int p1), (.int (3 : Int32)), (.ref b55)])) (by rw [hml]; rfl) (hw _ (List.mem_of_getElem? (i := 50) rfl)) (hw _ (List.mem_of_getElem? (i := 51) rfl)) (hw _ (List.mem_of_getElem? (i := 52) rfl)) (hw _ (List.mem_of_getElem? (i := 53) rfl)) e66 (rm6_3 l Z a0 hw b55 p1 p2 p3 (p1.toInt8.toInt32).toInt8.toInt32 (p2.toInt8.toInt32).toInt8.toInt32 (p3.toInt8.toInt32).toInt8.toInt32 k55 h63 n0 Z64 E_b55 V_b55 g_b55) (by decide) pd_122 rfl (argsL := [(.ref b55), (.int (3 : Int32)), (.int p1), (.int p2), (.int p3)]) (rest := []) rfl rfl rfl (hb hby at_80) (W0 := 0) rfl (by decide) (by decide) (by decide) (by decide) (fun v67 T67 h67 L67 X67 e67 hQ67 => ?_)
    obtain ⟨rfl, N67q, K67, Ee67, vs67, Vs67⟩ := hQ67
    have N67 := Fr.app N65 N67q
    have nsK67 := (nsS E_b55.nostat ns0)
    replace S_DATA := Sta.keep S_DATA K67 nsK67
    replace S_NO_ITEMS := Sta.keep S_NO_ITEMS K67 nsK67
    replace S_NO_TAGS := Sta.keep S_NO_TAGS K67 nsK67
    replace S_NO_POSITIONS := Sta.keep S_NO_POSITIONS K67 nsK67
    replace E_b55 := E_b55.keep K67
    replace E_o63 := E_o63.keep K67
    replace E_d63 := E_d63.keep K67
    replace F_type_o63 := F_type_o63.keep K67 (ninS (Ne.symm ne_b55_o63) nin0)
    replace F_data_o63 := F_data_o63.keep K67 (ninS (Ne.symm ne_b55_o63) nin0)
    replace V_d63 := V_d63.keep K67 (ninS (Ne.symm ne_b55_d63) nin0)
    have Z68 : n0 ≤ h67.size := Nat.le_trans Z64 K67.1
    show W p e below _ (T67.setTop (mkF m 83 #[.val (.int p0), .val (.int p1), .val (.int p2), .val (.int p3), .val (.int (3 : Int32)), .val (.ref b55), .val (.ref o63), .unset, .unset] []))
    refine W.go (fun _ hr => XS.aload X67.here hx rfl (hb hby at_83) rfl rfl hr) ?_
    show W p e below _ (T67.setTop (mkF m 85 #[.val (.int p0), .val (.int p1), .val (.int p2), .val (.int p3), .val (.int (3 : Int32)), .val (.ref b55), .val (.ref o63), .unset, .unset] [(.ref o63)]))
    refine W.callV X67 hx hZ hown (g := (mkF m 85 #[.val (.int p0), .val (.int p1), .val (.int p2), .val (.int p3), .val (.int (3 : Int32)), .val (.ref b55), .val (.ref o63), .unset, .unset] [(.ref o63)])) (by rw [hml]; rfl) (hw _ (List.mem_of_getElem? (i := 54) rfl)) (hw _ (List.mem_of_getElem? (i := 55) rfl)) (hw _ (List.mem_of_getElem? (i := 57) rfl)) (hw _ (List.mem_of_getElem? (i := 56) rfl)) (hw _ (List.mem_of_getElem? (i := 3) rfl)) (hw _ (List.mem_of_getElem? (i := 58) rfl)) e67 (rm7_3 l Z a0 hw o63 (p1.toInt8.toInt32).toInt8.toInt32 (p2.toInt8.toInt32).toInt8.toInt32 (p3.toInt8.toInt32).toInt8.toInt32 k55 w_DATA d63 h67 n0 Z68 E_o63 F_type_o63 F_data_o63 E_d63 V_d63 S_DATA) (notFace_of_selects (args := #[]) (mvT hZ (hw _ (List.mem_of_getElem? (i := 57) rfl)))) (by decide) pd_123 rfl E_o63 (argsL := []) (rest := []) rfl rfl rfl (hb hby at_85) (W0 := 0) rfl (by decide) (by decide) (by decide) (by decide) (fun v69 T69 h69 L69 X69 e69 hQ69 => ?_)
    obtain ⟨b69, rfl, N69q, K69, sb69, E_b69, V_b69⟩ := hQ69
    have N69 := Fr.app N67 N69q
    have ne_b55_b69 : b55 ≠ b69 := Nat.ne_of_lt (Nat.lt_of_lt_of_le E_b55.lt sb69)
    have ne_o63_b69 : o63 ≠ b69 := Nat.ne_of_lt (Nat.lt_of_lt_of_le E_o63.lt sb69)
    have ne_d63_b69 : d63 ≠ b69 := Nat.ne_of_lt (Nat.lt_of_lt_of_le E_d63.lt sb69)
    have g_b69 : n0 ≤ b69 := Nat.le_trans Z68 sb69
    replace S_DATA := Sta.keep S_DATA K69 ns0
    replace S_NO_ITEMS := Sta.keep S_NO_ITEMS K69 ns0
    replace S_NO_TAGS := Sta.keep S_NO_TAGS K69 ns0
    replace S_NO_POSITIONS := Sta.keep S_NO_POSITIONS K69 ns0
    replace E_b55 := E_b55.keep K69
    replace E_o63 := E_o63.keep K69
    replace E_d63 := E_d63.keep K69
    replace F_type_o63 := F_type_o63.keep K69 nin0
    replace F_data_o63 := F_data_o63.keep K69 nin0
    replace V_d63 := V_d63.keep K69 nin0
    have Z70 : n0 ≤ h69.size := Nat.le_trans Z68 K69.1
    show W p e below _ (T69.setTop (mkF m 88 #[.val (.int p0), .val (.int p1), .val (.int p2), .val (.int p3), .val (.int (3 : Int32)), .val (.ref b55), .val (.ref o63), .unset, .unset] [(.ref b69)]))
    refine W.go (fun _ hr => XS.astore X69.here hx rfl (hb hby at_88) rfl rfl (l' := #[.val (.int p0), .val (.int p1), .val (.int p2), .val (.int p3), .val (.int (3 : Int32)), .val (.ref b55), .val (.ref o63), .val (.ref b69), .unset]) rfl hr) ?_
    show W p e below _ (T69.setTop (mkF m 90 #[.val (.int p0), .val (.int p1), .val (.int p2), .val (.int p3), .val (.int (3 : Int32)), .val (.ref b55), .val (.ref o63), .val (.ref b69), .unset] []))
    refine W.go (fun _ hr => XS.aload X69.here hx rfl (hb hby at_90) rfl rfl hr) ?_
    show W p e below _ (T69.setTop (mkF m 92 #[.val (.int p0), .val (.int p1), .val (.int p2), .val (.int p3), .val (.int (3 : Int32)), .val (.ref b55), .val (.ref o63), .val (.ref b69), .unset] [(.ref b69)]))
    refine W.go (fun _ hr => XS.iload X69.here hx rfl (hb hby at_92) rfl hr) ?_
    show W p e below _ (T69.setTop (mkF m 94 #[.val (.int p0), .val (.int p1), .val (.int p2), .val (.int p3), .val (.int (3 : Int32)), .val (.ref b55), .val (.ref o63), .val (.ref b69), .unset] [(.int (3 : Int32)), (.ref b69)]))
    refine W.go (fun _ hr => XS.iloadN X69.here hx rfl (hb hby at_94) rfl hr) ?_
    show W p e below _ (T69.setTop (mkF m 95 #[.val (.int p0), .val (.int p1), .val (.int p2), .val (.int p3), .val (.int (3 : Int32)), .val (.ref b55), .val (.ref o63), .val (.ref b69), .unset] [(.int p1), (.int (3 : Int32)), (.ref b69)]))
    refine W.go (fun _ hr => XS.iloadN X69.here hx rfl (hb hby at_95) rfl hr) ?_
    show W p e below _ (T69.setTop (mkF m 96 #[.val (.int p0), .val (.int p1), .val (.int p2), .val (.int p3), .val (.int (3 : Int32)), .val (.ref b55), .val (.ref o63), .val (.ref b69), .unset] [(.int p2), (.int p1), (.int (3 : Int32)), (.ref b69)]))
    refine W.go (fun _ hr => XS.iloadN X69.here hx rfl (hb hby at_96) rfl hr) ?_
    show W p e below _ (T69.setTop (mkF m 97 #[.val (.int p0), .val (.int p1), .val (.int p2), .val (.int p3), .val (.int (3 : Int32)), .val (.ref b55), .val (.ref o63), .val (.ref b69), .unset] [(.int p3), (.int p2), (.int p1), (.int (3 : Int32)), (.ref b69)]))
    refine W.callS X69 hx hZ hown (g := (mkF m 97 #[.val (.int p0), .val (.int p1), .val (.int p2), .val (.int p3), .val (.int (3 : Int32)), .val (.ref b55), .val (.ref o63), .val (.ref b69), .unset] [(.int p3), (.int p2), (.int p1), (.int (3 : Int32)), (.ref b69)])) (by rw [hml]; rfl) (hw _ (List.mem_of_getElem? (i := 63) rfl)) (hw _ (List.mem_of_getElem? (i := 64) rfl)) (hw _ (List.mem_of_getElem? (i := 52) rfl)) (hw _ (List.mem_of_getElem? (i := 65) rfl)) e69 (rm9_3 l Z a0 hw b69 p1 p2 p3 (p1.toInt8.toInt32).toInt8.toInt32 (p2.toInt8.toInt32).toInt8.toInt32 (p3.toInt8.toInt32).toInt8.toInt32 k55 h69 n0 Z70 V_b69 (own_b _) (own_b _) (own_b _)) (by decide) pd_124 rfl (argsL := [(.ref b69), (.int (3 : Int32)), (.int p1), (.int p2), (.int p3)]) (rest := []) rfl rfl rfl (hb hby at_97) (W0 := 0) rfl (by decide) (by decide) (by decide) (by decide) (fun v71 T71 h71 L71 X71 e71 hQ71 => ?_)
    obtain ⟨rfl, N71q, hh71⟩ := hQ71
    obtain rfl := hh71.symm
    have N71 := Fr.app N69 N71q
    show W p e below _ (T71.setTop (mkF m 100 #[.val (.int p0), .val (.int p1), .val (.int p2), .val (.int p3), .val (.int (3 : Int32)), .val (.ref b55), .val (.ref o63), .val (.ref b69), .unset] [(.int (1 : Int32))]))
    refine W.go (fun _ hr => XS.ifYes X71.here hx rfl (pc0 := 100) (pc' := 105) rfl (hb hby at_100) rfl ((if0 _ _).trans (feq (by decide : ¬ ((1 : Int32) = (0 : Int32)))).2) (by decide) (by decide) hr) ?_
    show W p e below _ (T71.setTop (mkF m 105 #[.val (.int p0), .val (.int p1), .val (.int p2), .val (.int p3), .val (.int (3 : Int32)), .val (.ref b55), .val (.ref o63), .val (.ref b69), .unset] []))
    refine W.go (fun _ hr => XS.aload X71.here hx rfl (hb hby at_105) rfl rfl hr) ?_
    show W p e below _ (T71.setTop (mkF m 107 #[.val (.int p0), .val (.int p1), .val (.int p2), .val (.int p3), .val (.int (3 : Int32)), .val (.ref b55), .val (.ref o63), .val (.ref b69), .unset] [(.ref b69)]))
    refine W.go (fun _ hr => XS.iload X71.here hx rfl (hb hby at_107) rfl hr) ?_
    show W p e below _ (T71.setTop (mkF m 109 #[.val (.int p0), .val (.int p1), .val (.int p2), .val (.int p3), .val (.int (3 : Int32)), .val (.ref b55), .val (.ref o63), .val (.ref b69), .unset] [(.int (3 : Int32)), (.ref b69)]))
    refine W.go (fun _ hr => XS.iloadN X71.here hx rfl (hb hby at_109) rfl hr) ?_
    show W p e below _ (T71.setTop (mkF m 110 #[.val (.int p0), .val (.int p1), .val (.int p2), .val (.int p3), .val (.int (3 : Int32)), .val (.ref b55), .val (.ref o63), .val (.ref b69), .unset] [(.int p1), (.int (3 : Int32)), (.ref b69)]))
    refine W.go (fun _ hr => XS.iloadN X71.here hx rfl (hb hby at_110) rfl hr) ?_
    show W p e below _ (T71.setTop (mkF m 111 #[.val (.int p0), .val (.int p1), .val (.int p2), .val (.int p3), .val (.int (3 : Int32)), .val (.ref b55), .val (.ref o63), .val (.ref b69), .unset] [(.int p2), (.int p1), (.int (3 : Int32)), (.ref b69)]))
    refine W.go (fun _ hr => XS.iloadN X71.here hx rfl (hb hby at_111) rfl hr) ?_
    show W p e below _ (T71.setTop (mkF m 112 #[.val (.int p0), .val (.int p1), .val (.int p2), .val (.int p3), .val (.int (3 : Int32)), .val (.ref b55), .val (.ref o63), .val (.ref b69), .unset] [(.int p3), (.int p2), (.int p1), (.int (3 : Int32)), (.ref b69)]))
    refine W.callS X71 hx hZ hown (g := (mkF m 112 #[.val (.int p0), .val (.int p1), .val (.int p2), .val (.int p3), .val (.int (3 : Int32)), .val (.ref b55), .val (.ref o63), .val (.ref b69), .unset] [(.int p3), (.int p2), (.int p1), (.int (3 : Int32)), (.ref b69)])) (by rw [hml]; rfl) (hw _ (List.mem_of_getElem? (i := 50) rfl)) (hw _ (List.mem_of_getElem? (i := 51) rfl)) (hw _ (List.mem_of_getElem? (i := 52) rfl)) (hw _ (List.mem_of_getElem? (i := 53) rfl)) e71 (rm6_3 l Z a0 hw b69 p1 p2 p3 (p1.toInt8.toInt32).toInt8.toInt32 (p2.toInt8.toInt32).toInt8.toInt32 (p3.toInt8.toInt32).toInt8.toInt32 k55 h69 n0 Z70 E_b69 V_b69 g_b69) (by decide) pd_122 rfl (argsL := [(.ref b69), (.int (3 : Int32)), (.int p1), (.int p2), (.int p3)]) (rest := []) rfl rfl rfl (hb hby at_112) (W0 := 0) rfl (by decide) (by decide) (by decide) (by decide) (fun v72 T72 h72 L72 X72 e72 hQ72 => ?_)
    obtain ⟨rfl, N72q, K72, Ee72, vs72, Vs72⟩ := hQ72
    have N72 := Fr.app N71 N72q
    have nsK72 := (nsS E_b69.nostat ns0)
    replace S_DATA := Sta.keep S_DATA K72 nsK72
    replace S_NO_ITEMS := Sta.keep S_NO_ITEMS K72 nsK72
    replace S_NO_TAGS := Sta.keep S_NO_TAGS K72 nsK72
    replace S_NO_POSITIONS := Sta.keep S_NO_POSITIONS K72 nsK72
    replace E_b55 := E_b55.keep K72
    replace E_o63 := E_o63.keep K72
    replace E_d63 := E_d63.keep K72
    replace F_type_o63 := F_type_o63.keep K72 (ninS ne_o63_b69 nin0)
    replace F_data_o63 := F_data_o63.keep K72 (ninS ne_o63_b69 nin0)
    replace V_d63 := V_d63.keep K72 (ninS ne_d63_b69 nin0)
    replace E_b69 := E_b69.keep K72
    have Z73 : n0 ≤ h72.size := Nat.le_trans Z70 K72.1
    show W p e below _ (T72.setTop (mkF m 115 #[.val (.int p0), .val (.int p1), .val (.int p2), .val (.int p3), .val (.int (3 : Int32)), .val (.ref b55), .val (.ref o63), .val (.ref b69), .unset] []))
    refine W.go (fun _ hr => XS.aload X72.here hx rfl (hb hby at_115) rfl rfl hr) ?_
    show W p e below _ (T72.setTop (mkF m 117 #[.val (.int p0), .val (.int p1), .val (.int p2), .val (.int p3), .val (.int (3 : Int32)), .val (.ref b55), .val (.ref o63), .val (.ref b69), .unset] [(.ref o63)]))
    refine W.callV X72 hx hZ hown (g := (mkF m 117 #[.val (.int p0), .val (.int p1), .val (.int p2), .val (.int p3), .val (.int (3 : Int32)), .val (.ref b55), .val (.ref o63), .val (.ref b69), .unset] [(.ref o63)])) (by rw [hml]; rfl) (hw _ (List.mem_of_getElem? (i := 54) rfl)) (hw _ (List.mem_of_getElem? (i := 55) rfl)) (hw _ (List.mem_of_getElem? (i := 57) rfl)) (hw _ (List.mem_of_getElem? (i := 56) rfl)) (hw _ (List.mem_of_getElem? (i := 3) rfl)) (hw _ (List.mem_of_getElem? (i := 58) rfl)) e72 (rm7_3 l Z a0 hw o63 (p1.toInt8.toInt32).toInt8.toInt32 (p2.toInt8.toInt32).toInt8.toInt32 (p3.toInt8.toInt32).toInt8.toInt32 k55 w_DATA d63 h72 n0 Z73 E_o63 F_type_o63 F_data_o63 E_d63 V_d63 S_DATA) (notFace_of_selects (args := #[]) (mvT hZ (hw _ (List.mem_of_getElem? (i := 57) rfl)))) (by decide) pd_123 rfl E_o63 (argsL := []) (rest := []) rfl rfl rfl (hb hby at_117) (W0 := 0) rfl (by decide) (by decide) (by decide) (by decide) (fun v74 T74 h74 L74 X74 e74 hQ74 => ?_)
    obtain ⟨b74, rfl, N74q, K74, sb74, E_b74, V_b74⟩ := hQ74
    have N74 := Fr.app N72 N74q
    have ne_b55_b74 : b55 ≠ b74 := Nat.ne_of_lt (Nat.lt_of_lt_of_le E_b55.lt sb74)
    have ne_o63_b74 : o63 ≠ b74 := Nat.ne_of_lt (Nat.lt_of_lt_of_le E_o63.lt sb74)
    have ne_d63_b74 : d63 ≠ b74 := Nat.ne_of_lt (Nat.lt_of_lt_of_le E_d63.lt sb74)
    have ne_b69_b74 : b69 ≠ b74 := Nat.ne_of_lt (Nat.lt_of_lt_of_le E_b69.lt sb74)
    have g_b74 : n0 ≤ b74 := Nat.le_trans Z73 sb74
    replace S_DATA := Sta.keep S_DATA K74 ns0
    replace S_NO_ITEMS := Sta.keep S_NO_ITEMS K74 ns0
    replace S_NO_TAGS := Sta.keep S_NO_TAGS K74 ns0
    replace S_NO_POSITIONS := Sta.keep S_NO_POSITIONS K74 ns0
    replace E_b55 := E_b55.keep K74
    replace E_o63 := E_o63.keep K74
    replace E_d63 := E_d63.keep K74
    replace F_type_o63 := F_type_o63.keep K74 nin0
    replace F_data_o63 := F_data_o63.keep K74 nin0
    replace V_d63 := V_d63.keep K74 nin0
    replace E_b69 := E_b69.keep K74
    have Z75 : n0 ≤ h74.size := Nat.le_trans Z73 K74.1
    show W p e below _ (T74.setTop (mkF m 120 #[.val (.int p0), .val (.int p1), .val (.int p2), .val (.int p3), .val (.int (3 : Int32)), .val (.ref b55), .val (.ref o63), .val (.ref b69), .unset] [(.ref b74)]))
    refine W.go (fun _ hr => XS.astore X74.here hx rfl (hb hby at_120) rfl rfl (l' := #[.val (.int p0), .val (.int p1), .val (.int p2), .val (.int p3), .val (.int (3 : Int32)), .val (.ref b55), .val (.ref o63), .val (.ref b69), .val (.ref b74)]) rfl hr) ?_
    show W p e below _ (T74.setTop (mkF m 122 #[.val (.int p0), .val (.int p1), .val (.int p2), .val (.int p3), .val (.int (3 : Int32)), .val (.ref b55), .val (.ref o63), .val (.ref b69), .val (.ref b74)] []))
    refine W.go (fun _ hr => XS.aload X74.here hx rfl (hb hby at_122) rfl rfl hr) ?_
    show W p e below _ (T74.setTop (mkF m 124 #[.val (.int p0), .val (.int p1), .val (.int p2), .val (.int p3), .val (.int (3 : Int32)), .val (.ref b55), .val (.ref o63), .val (.ref b69), .val (.ref b74)] [(.ref b74)]))
    refine W.go (fun _ hr => XS.iload X74.here hx rfl (hb hby at_124) rfl hr) ?_
    show W p e below _ (T74.setTop (mkF m 126 #[.val (.int p0), .val (.int p1), .val (.int p2), .val (.int p3), .val (.int (3 : Int32)), .val (.ref b55), .val (.ref o63), .val (.ref b69), .val (.ref b74)] [(.int (3 : Int32)), (.ref b74)]))
    refine W.go (fun _ hr => XS.iloadN X74.here hx rfl (hb hby at_126) rfl hr) ?_
    show W p e below _ (T74.setTop (mkF m 127 #[.val (.int p0), .val (.int p1), .val (.int p2), .val (.int p3), .val (.int (3 : Int32)), .val (.ref b55), .val (.ref o63), .val (.ref b69), .val (.ref b74)] [(.int p1), (.int (3 : Int32)), (.ref b74)]))
    refine W.go (fun _ hr => XS.iloadN X74.here hx rfl (hb hby at_127) rfl hr) ?_
    show W p e below _ (T74.setTop (mkF m 128 #[.val (.int p0), .val (.int p1), .val (.int p2), .val (.int p3), .val (.int (3 : Int32)), .val (.ref b55), .val (.ref o63), .val (.ref b69), .val (.ref b74)] [(.int p2), (.int p1), (.int (3 : Int32)), (.ref b74)]))
    refine W.go (fun _ hr => XS.iloadN X74.here hx rfl (hb hby at_128) rfl hr) ?_
    show W p e below _ (T74.setTop (mkF m 129 #[.val (.int p0), .val (.int p1), .val (.int p2), .val (.int p3), .val (.int (3 : Int32)), .val (.ref b55), .val (.ref o63), .val (.ref b69), .val (.ref b74)] [(.int p3), (.int p2), (.int p1), (.int (3 : Int32)), (.ref b74)]))
    refine W.callS X74 hx hZ hown (g := (mkF m 129 #[.val (.int p0), .val (.int p1), .val (.int p2), .val (.int p3), .val (.int (3 : Int32)), .val (.ref b55), .val (.ref o63), .val (.ref b69), .val (.ref b74)] [(.int p3), (.int p2), (.int p1), (.int (3 : Int32)), (.ref b74)])) (by rw [hml]; rfl) (hw _ (List.mem_of_getElem? (i := 63) rfl)) (hw _ (List.mem_of_getElem? (i := 64) rfl)) (hw _ (List.mem_of_getElem? (i := 52) rfl)) (hw _ (List.mem_of_getElem? (i := 65) rfl)) e74 (rm9_3 l Z a0 hw b74 p1 p2 p3 (p1.toInt8.toInt32).toInt8.toInt32 (p2.toInt8.toInt32).toInt8.toInt32 (p3.toInt8.toInt32).toInt8.toInt32 k55 h74 n0 Z75 V_b74 (own_b _) (own_b _) (own_b _)) (by decide) pd_124 rfl (argsL := [(.ref b74), (.int (3 : Int32)), (.int p1), (.int p2), (.int p3)]) (rest := []) rfl rfl rfl (hb hby at_129) (W0 := 0) rfl (by decide) (by decide) (by decide) (by decide) (fun v76 T76 h76 L76 X76 e76 hQ76 => ?_)
    obtain ⟨rfl, N76q, hh76⟩ := hQ76
    obtain rfl := hh76.symm
    have N76 := Fr.app N74 N76q
    show W p e below _ (T76.setTop (mkF m 132 #[.val (.int p0), .val (.int p1), .val (.int p2), .val (.int p3), .val (.int (3 : Int32)), .val (.ref b55), .val (.ref o63), .val (.ref b69), .val (.ref b74)] [(.int (1 : Int32))]))
    exact W.retB X76 hx hlk (t := .boolean) hret (by simp) (hb hby at_132) (by decide) (by decide) e76 ⟨rfl, N76⟩
set_option maxRecDepth 65536 in
set_option maxHeartbeats 40000000 in
theorem comes_1 {Post : Tables → Env → Array Value → State → Outcome → State → Prop} (hpost : ∀ tb e args s v u, (limb_1_1.after args s (.returned v) u = true ∧ limb_1_2.after args s (.returned v) u = true ∧ True) → FrameEnd s (.returned v) u (Jvm.fieldLocs frame_1_writes args s ++ Jvm.arrayLocs frame_1_arrays args s ++ Jvm.staticLocs frame_1_statics s) 24 128 → Post tb e args s (.returned v) u) :
    ArmFor flags0 classFile x code maxLocals ret World_1 tables_1 room_1 Calls_1 rest_1 Pre_1 Post := by
  intro l hfl _ _ p e ha hc hk s m args below hf hA hF happ hP
  obtain ⟨hcalls, hrest, hpre⟩ := hP
  obtain ⟨-, -, -, hnamed, -, -, -, hat⟩ := (Spec.applies_iff hf).mp happ
  obtain ⟨hg, hn⟩ := and_e (Cond.before_iff.mp (show (Jvm.Cond.and given_1 narrow_1).before args s = true from hpre))
  obtain ⟨c1, c2⟩ := and_e hg
  obtain ⟨c3, c4⟩ := and_e c2
  obtain ⟨c5, c6⟩ := and_e c4
  obtain ⟨c7, c8⟩ := and_e c6
  obtain ⟨c9, c10⟩ := and_e hn
  obtain ⟨c11, c12⟩ := and_e c10
  obtain ⟨c13, c14⟩ := and_e c12
  obtain ⟨c15, c16⟩ := and_e c14
  obtain ⟨c17, c18⟩ := and_e c16
  obtain ⟨c19, c20⟩ := and_e c18
  obtain ⟨w0, w1, w2, w3, rfl⟩ : ∃ w0 w1 w2 w3 : Value, args = #[w0, w1, w2, w3] := by
    have hs : args.size = 4 := by simpa [Cond.value, given_1] using c1
    obtain ⟨L⟩ := args
    match L, hs with
    | [w0, w1, w2, w3], _ => exact ⟨w0, w1, w2, w3, rfl⟩
  have hw := fun d (hd : d ∈ tables_1) => atoms_spec (ws := Jvm.Cond.code x code maxLocals ret :: tables_1) hat d (List.mem_cons_of_mem _ hd)
  have hfit : Fit s := fun {y c} hc i hi => by
    obtain ⟨ha, rfl⟩ := Array.getElem?_eq_some_iff.mp hc
    have q := List.all_eq_true.mp ((Array.all_eq_true_iff_forall_mem.mp hF) _ (Array.getElem_mem ha)) i (List.mem_range.mpr hi)
    simpa [Array.getElem?_eq_getElem hi] using q
  obtain ⟨i0, ei0⟩ := is_v c3
  obtain rfl : w0 = (.int i0) := Option.some.inj ei0
  obtain ⟨i1, ei1⟩ := is_v c5
  obtain rfl : w1 = (.int i1) := Option.some.inj ei1
  obtain ⟨i2, ei2⟩ := is_v c7
  obtain rfl : w2 = (.int i2) := Option.some.inj ei2
  obtain ⟨i3, ei3⟩ := is_v c8
  obtain rfl : w3 = (.int i3) := Option.some.inj ei3
  obtain ⟨w_DATA, ev_DATA⟩ := exa_v c9
  have E_DATA := Exa.start ev_DATA c9
  have S_DATA := Sta.start ev_DATA (Or.inr ⟨(hw _ (List.mem_of_getElem? (i := 8) rfl)), (hw _ (List.mem_of_getElem? (i := 9) rfl))⟩)
  -- c11 : (Jvm.Cond.arrayOf (Jvm.Term.static "com/example/wireknit/wireknit/Item" "NO_ITEMS" "[Lcom/example/wireknit/wireknit/Item;") (Jvm.ClassFile.FieldType.object "com/example/wireknit/wireknit/Item"))
  -- c13 : (Jvm.Cond.eq (Jvm.Term.length (Jvm.Term.static "com/example/wireknit/wireknit/Item" "NO_ITEMS" "[Lcom/example/wireknit/wireknit/Item;")) (Jvm.Term.int (0 : Int32)))
  -- c15 : (Jvm.Cond.arrayOf (Jvm.Term.static "com/example/wireknit/wireknit/Item" "NO_TAGS" "[Lcom/example/wireknit/wireknit/Item$Tag;") (Jvm.ClassFile.FieldType.object "com/example/wireknit/wireknit/Item$Tag"))
  -- c17 : (Jvm.Cond.eq (Jvm.Term.length (Jvm.Term.static "com/example/wireknit/wireknit/Item" "NO_TAGS" "[Lcom/example/wireknit/wireknit/Item$Tag;")) (Jvm.Term.int (0 : Int32)))
  -- c19 : (Jvm.Cond.arrayOf (Jvm.Term.static "com/example/wireknit/wireknit/Item" "NO_POSITIONS" "[I") Jvm.ClassFile.FieldType.int)
  -- c20 : (Jvm.Cond.eq (Jvm.Term.length (Jvm.Term.static "com/example/wireknit/wireknit/Item" "NO_POSITIONS" "[I")) (Jvm.Term.int (0 : Int32)))
  obtain ⟨w_NO_ITEMS, ev_NO_ITEMS⟩ := arr_v c11
  obtain ⟨w_NO_TAGS, ev_NO_TAGS⟩ := arr_v c15
  obtain ⟨w_NO_POSITIONS, ev_NO_POSITIONS⟩ := arr_v c19
  have S_NO_ITEMS := Sta.start ev_NO_ITEMS (Or.inr ⟨(hw _ (List.mem_of_getElem? (i := 3) rfl)), (hw _ (List.mem_of_getElem? (i := 20) rfl))⟩)
  have S_NO_TAGS := Sta.start ev_NO_TAGS (Or.inr ⟨(hw _ (List.mem_of_getElem? (i := 3) rfl)), (hw _ (List.mem_of_getElem? (i := 25) rfl))⟩)
  have S_NO_POSITIONS := Sta.start ev_NO_POSITIONS (Or.inr ⟨(hw _ (List.mem_of_getElem? (i := 3) rfl)), (hw _ (List.mem_of_getElem? (i := 27) rfl))⟩)
  obtain ⟨n, o, h1, h2, h3, _, L, rfl, ⟨rfl, N⟩, hq⟩ := rm0 l s _ hw i0 i1 i2 i3 w_DATA w_NO_ITEMS w_NO_TAGS w_NO_POSITIONS s.heap s.heap.size (Nat.le_refl _) S_DATA S_NO_ITEMS S_NO_TAGS S_NO_POSITIONS tables_1 p e ha hc hk s m _ below hf ((Spec.applies_iff_loose hf).mp happ).1 ⟨rfl, State.Warmed39.refl s, rfl⟩ trivial
  refine ⟨n, _, h1, h2, h3, hpost _ _ _ _ _ _ ⟨Cond.after_iff.mpr rfl, Cond.after_iff.mpr (eq_i res_at (Term.int_eval (1)) rfl), trivial⟩ ⟨hq.1, hq.2.1, (hq.2.2.sift fun y hy => Or.inr (N y hy)).mono (by decide) (by decide)⟩⟩
theorem main_1_1 : Claimed_1_1 := comes_1 fun _ _ _ _ _ _ h hF => ⟨h.1, hF⟩
theorem main_1_2 : Claimed_1_2 := comes_1 fun _ _ _ _ _ _ h hF => ⟨h.2.1, hF⟩
end Jvm.Pilot.@@N@@
namespace Jvm.Pilot.@@N@@
open Jvm Jvm.ClassFile Sem Op Lib Jvm.Free Jvm.Stand Jvm.Pilot.@@N@@.Jvm.D
/-! MADE BY PROGRAM (witnessworld.py) out of the Statement's table words and the real class files: 16 classes; the members and pool entries that the words name. The judged class is class 1, her method 3. -/
namespace start1
open Jvm.ClassFile
def u (s : String) : CpInfo := .utf8 (stringToUtf16 s)
/-- a pool by its gaps: so many unusable entries, then the entry; so many at the end -/
def gap : Nat → List CpInfo → List CpInfo
  | 0, r => r
  | n + 1, r => .unusable :: gap n r
def poolList (es : List (Nat × CpInfo)) (last : Nat) : List CpInfo := es.foldr (fun e r => gap e.1 (e.2 :: r)) (gap last [])
def pool (es : List (Nat × CpInfo)) (last : Nat) : Array CpInfo := ⟨poolList es last⟩
def fileOf (pool : Array CpInfo) (this : Nat) (attrs : Array Attribute := #[]) (ms : Array MethodInfo := #[]) (fl : Nat := 33) (sup : Nat := 0) (ifs : Array Nat := #[]) (fds : Array FieldInfo := #[]) : ClassFile where
  minorVersion := 0
  majorVersion := 65
  constantPool := pool
  accessFlags := fl
  thisClass := this
  superClass := sup
  interfaces := ifs
  fields := fds
  methods := ms
  attributes := attrs
def plain (name : String) (sup : Option ClassId) : Class where
  name := name
  kind := .ordinary
  loader := none
  accessFlags := 33
  super := sup
  interfaces := #[]
  cf := none
  fields := #[]
  methods := #[]
  instanceTypes := #[]
  staticTypes := #[]
  resolved := #[]
  callSites := []
  init := .initialized
  statics := none
  mirror := none

def pool0 : Array CpInfo := pool [(5, u "<init>"), (0, u "()V"), (1, .class_ 10), (1, u "java/lang/Object"), (85, u "clone"), (0, u "()Ljava/lang/Object;")] 26

def k0c0 : Code := { maxStack := 0, maxLocals := 1, code := object_method_1_code, exceptionTable := #[], attributes := #[] }
def k0m0 : Method := { name := "<init>", desc := "()V", sig := { parameters := [], returnType := none }, accessFlags := 1, code := some k0c0 }
def k0m1 : Method := { name := "clone", desc := "()Ljava/lang/Object;", sig := { parameters := [], returnType := some (.object "java/lang/Object") }, accessFlags := 260, code := none }
/-- java/lang/Object -/
def k0 : Class := { plain "java/lang/Object" none with
  accessFlags := 33
  interfaces := #[]
  cf := some (fileOf pool0 8 #[] #[{ accessFlags := 1, nameIndex := 5, descriptorIndex := 6, attributes := #[] }, { accessFlags := 260, nameIndex := 96, descriptorIndex := 97, attributes := #[] }] 33 0 #[] #[])
  fields := #[]
  methods := #[k0m0, k0m1]
  instanceTypes := #[]
  staticTypes := #[]
  resolved := Array.replicate 124 none
  statics := none }

def pool1 : Array CpInfo := pool [(2, .class_ 4), (1, u "java/lang/Object"), (0, u "<init>"), (0, u "()V"), (0, .methodref 8 9), (0, .class_ 10), (0, .nameAndType 11 12), (0, u "com/example/wireknit/wireknit/Item"), (0, u "data"), (0, u "([B)Lcom/example/wireknit/wireknit/Item;"), (0, .methodref 8 14), (0, .nameAndType 15 16), (0, u "type"), (0, u "()Lcom/example/wireknit/wireknit/Item$Type;"), (0, .fieldref 18 19), (0, .class_ 20), (0, .nameAndType 21 22), (0, u "com/example/wireknit/wireknit/Item$Type"), (0, u "DATA"), (0, u "Lcom/example/wireknit/wireknit/Item$Type;"), (0, .methodref 24 25), (0, .class_ 26), (0, .nameAndType 27 28), (0, u "com/example/wireknit/wireknit/ItemDataPinLaw"), (0, u "scramble"), (0, u "([BIIII)V"), (0, .methodref 8 30), (0, .nameAndType 31 32), (0, u "bytes"), (0, u "()[B"), (0, .methodref 24 34), (0, .nameAndType 35 36), (0, u "holds"), (0, u "([BIIII)Z"), (3, u "law"), (0, u "(IIII)Z")] 6

def k1m0 : Method := { name := "<init>", desc := "()V", sig := { parameters := [], returnType := none }, accessFlags := 1, code := none }
def k1c1 : Code := { maxStack := 2, maxLocals := 5, code := method_2_code, exceptionTable := #[], attributes := #[] }
def k1m1 : Method := { name := "holds", desc := "([BIIII)Z", sig := { parameters := [(.array .byte), .int, .int, .int, .int], returnType := some .boolean }, accessFlags := 10, code := some k1c1 }
def k1c2 : Code := { maxStack := 4, maxLocals := 5, code := method_3_code, exceptionTable := #[], attributes := #[] }
def k1m2 : Method := { name := "scramble", desc := "([BIIII)V", sig := { parameters := [(.array .byte), .int, .int, .int, .int], returnType := none }, accessFlags := 10, code := some k1c2 }
def k1c3 : Code := { maxStack := 5, maxLocals := 9, code := code, exceptionTable := #[], attributes := #[] }
def k1m3 : Method := { name := "law", desc := "(IIII)Z", sig := { parameters := [.int, .int, .int, .int], returnType := some .boolean }, accessFlags := 9, code := some k1c3 }
/-- com/example/wireknit/wireknit/ItemDataPinLaw -/
def k1 : Class := { plain "com/example/wireknit/wireknit/ItemDataPinLaw" (some 0) with
  accessFlags := 49
  interfaces := #[]
  cf := some (fileOf pool1 24 #[] #[{ accessFlags := 1, nameIndex := 5, descriptorIndex := 6, attributes := #[] }, { accessFlags := 10, nameIndex := 35, descriptorIndex := 36, attributes := #[] }, { accessFlags := 10, nameIndex := 27, descriptorIndex := 28, attributes := #[] }, { accessFlags := 9, nameIndex := 40, descriptorIndex := 41, attributes := #[] }] 49 2 #[] #[])
  fields := #[]
  methods := #[k1m0, k1m1, k1m2, k1m3]
  instanceTypes := #[]
  staticTypes := #[]
  resolved := Array.replicate 48 none
  statics := none }

def pool2 : Array CpInfo := pool [(1, .methodref 2 3), (0, .class_ 4), (0, .nameAndType 5 6), (0, u "java/lang/Object"), (0, u "<init>"), (0, u "()V"), (0, .fieldref 8 9), (0, .class_ 10), (0, .nameAndType 11 12), (0, u "com/example/wireknit/wireknit/Item"), (0, u "type"), (0, u "Lcom/example/wireknit/wireknit/Item$Type;"), (0, .fieldref 8 14), (0, .nameAndType 15 16), (0, u "data"), (0, u "[B"), (0, .fieldref 8 18), (0, .nameAndType 19 20), (0, u "tags"), (0, u "[Lcom/example/wireknit/wireknit/Item$Tag;"), (0, .fieldref 8 22), (0, .nameAndType 23 24), (0, u "items"), (0, u "[Lcom/example/wireknit/wireknit/Item;"), (0, .fieldref 8 26), (0, .nameAndType 27 28), (0, u "byTag"), (0, u "[I"), (0, .fieldref 8 30), (0, .nameAndType 31 20), (0, u "NO_TAGS"), (0, .fieldref 8 33), (0, .nameAndType 34 28), (0, u "NO_POSITIONS"), (0, .methodref 8 36), (0, .nameAndType 5 37), (0, u "(Lcom/example/wireknit/wireknit/Item$Type;[B[Lcom/example/wireknit/wireknit/Item$Tag;[Lcom/example/wireknit/wireknit/Item;[I)V"), (0, .fieldref 39 40), (0, .class_ 41), (0, .nameAndType 42 12), (0, u "com/example/wireknit/wireknit/Item$Type"), (0, u "DATA"), (0, .methodref 44 45), (0, .class_ 16), (0, .nameAndType 46 47), (0, u "clone"), (0, u "()Ljava/lang/Object;"), (0, .fieldref 8 49), (0, .nameAndType 50 24), (0, u "NO_ITEMS"), (0, .methodref 8 52), (0, .nameAndType 5 53), (0, u "(Lcom/example/wireknit/wireknit/Item$Type;[B[Lcom/example/wireknit/wireknit/Item;)V"), (24, .class_ 79), (0, u "com/example/wireknit/wireknit/Item$HashBuilder"), (1, .methodref 8 82), (0, .nameAndType 83 84), (0, u "requireType"), (0, u "(Lcom/example/wireknit/wireknit/Item$Type;)V"), (16, .class_ 103), (1, u "com/example/wireknit/wireknit/Item$Tag"), (0, u "bytes"), (16, u "([B)Lcom/example/wireknit/wireknit/Item;"), (20, u "hash"), (0, u "I"), (19, u "NULL"), (7, u "NO_BYTES"), (35, u "Lcom/example/wireknit/wireknit/Item;"), (0, u "MAX_TAG_LENGTH"), (11, u "()Lcom/example/wireknit/wireknit/Item$Type;"), (0, u "()[B")] 38

def k2c0 : Code := { maxStack := 2, maxLocals := 6, code := prog_13_method_1_code, exceptionTable := #[], attributes := #[] }
def k2m0 : Method := { name := "<init>", desc := "(Lcom/example/wireknit/wireknit/Item$Type;[B[Lcom/example/wireknit/wireknit/Item$Tag;[Lcom/example/wireknit/wireknit/Item;[I)V", sig := { parameters := [(.object "com/example/wireknit/wireknit/Item$Type"), (.array .byte), (.array (.object "com/example/wireknit/wireknit/Item$Tag")), (.array (.object "com/example/wireknit/wireknit/Item")), (.array .int)], returnType := none }, accessFlags := 2, code := some k2c0 }
def k2c1 : Code := { maxStack := 6, maxLocals := 4, code := prog_13_method_2_code, exceptionTable := #[], attributes := #[] }
def k2m1 : Method := { name := "<init>", desc := "(Lcom/example/wireknit/wireknit/Item$Type;[B[Lcom/example/wireknit/wireknit/Item;)V", sig := { parameters := [(.object "com/example/wireknit/wireknit/Item$Type"), (.array .byte), (.array (.object "com/example/wireknit/wireknit/Item"))], returnType := none }, accessFlags := 2, code := some k2c1 }
def k2c2 : Code := { maxStack := 5, maxLocals := 1, code := prog_13_method_3_code, exceptionTable := #[], attributes := #[] }
def k2m2 : Method := { name := "data", desc := "([B)Lcom/example/wireknit/wireknit/Item;", sig := { parameters := [(.array .byte)], returnType := some (.object "com/example/wireknit/wireknit/Item") }, accessFlags := 9, code := some k2c2 }
def k2c3 : Code := { maxStack := 1, maxLocals := 1, code := prog_13_method_8_code, exceptionTable := #[], attributes := #[] }
def k2m3 : Method := { name := "type", desc := "()Lcom/example/wireknit/wireknit/Item$Type;", sig := { parameters := [], returnType := some (.object "com/example/wireknit/wireknit/Item$Type") }, accessFlags := 1, code := some k2c3 }
def k2c4 : Code := { maxStack := 2, maxLocals := 1, code := prog_13_method_9_code, exceptionTable := #[], attributes := #[] }
def k2m4 : Method := { name := "bytes", desc := "()[B", sig := { parameters := [], returnType := some (.array .byte) }, accessFlags := 1, code := some k2c4 }
def k2c5 : Code := { maxStack := 4, maxLocals := 2, code := prog_13_method_20_code, exceptionTable := #[], attributes := #[] }
def k2m5 : Method := { name := "requireType", desc := "(Lcom/example/wireknit/wireknit/Item$Type;)V", sig := { parameters := [(.object "com/example/wireknit/wireknit/Item$Type")], returnType := none }, accessFlags := 2, code := some k2c5 }
/-- com/example/wireknit/wireknit/Item -/
def k2 : Class := { plain "com/example/wireknit/wireknit/Item" (some 0) with
  accessFlags := 49
  interfaces := #[]
  cf := some (fileOf pool2 8 #[.nestMembers #[101, 78, 39]] #[{ accessFlags := 2, nameIndex := 5, descriptorIndex := 37, attributes := #[] }, { accessFlags := 2, nameIndex := 5, descriptorIndex := 53, attributes := #[] }, { accessFlags := 9, nameIndex := 15, descriptorIndex := 121, attributes := #[] }, { accessFlags := 1, nameIndex := 11, descriptorIndex := 220, attributes := #[] }, { accessFlags := 1, nameIndex := 104, descriptorIndex := 221, attributes := #[] }, { accessFlags := 2, nameIndex := 83, descriptorIndex := 84, attributes := #[] }] 49 2 #[] #[{ accessFlags := 25, nameIndex := 208, descriptorIndex := 143, attributes := #[] }, { accessFlags := 26, nameIndex := 171, descriptorIndex := 16, attributes := #[] }, { accessFlags := 26, nameIndex := 31, descriptorIndex := 20, attributes := #[] }, { accessFlags := 26, nameIndex := 50, descriptorIndex := 24, attributes := #[] }, { accessFlags := 26, nameIndex := 34, descriptorIndex := 28, attributes := #[] }, { accessFlags := 25, nameIndex := 163, descriptorIndex := 207, attributes := #[] }, { accessFlags := 18, nameIndex := 11, descriptorIndex := 12, attributes := #[] }, { accessFlags := 18, nameIndex := 15, descriptorIndex := 16, attributes := #[] }, { accessFlags := 18, nameIndex := 19, descriptorIndex := 20, attributes := #[] }, { accessFlags := 18, nameIndex := 23, descriptorIndex := 24, attributes := #[] }, { accessFlags := 18, nameIndex := 27, descriptorIndex := 28, attributes := #[] }, { accessFlags := 2, nameIndex := 142, descriptorIndex := 143, attributes := #[] }])
  fields := #[{ name := "MAX_TAG_LENGTH", type := .int, accessFlags := 25, slot := 0, constantValue := 0 }, { name := "NO_BYTES", type := (.array .byte), accessFlags := 26, slot := 1, constantValue := 0 }, { name := "NO_TAGS", type := (.array (.object "com/example/wireknit/wireknit/Item$Tag")), accessFlags := 26, slot := 2, constantValue := 0 }, { name := "NO_ITEMS", type := (.array (.object "com/example/wireknit/wireknit/Item")), accessFlags := 26, slot := 3, constantValue := 0 }, { name := "NO_POSITIONS", type := (.array .int), accessFlags := 26, slot := 4, constantValue := 0 }, { name := "NULL", type := (.object "com/example/wireknit/wireknit/Item"), accessFlags := 25, slot := 5, constantValue := 0 }, { name := "type", type := (.object "com/example/wireknit/wireknit/Item$Type"), accessFlags := 18, slot := 0, constantValue := 0 }, { name := "data", type := (.array .byte), accessFlags := 18, slot := 1, constantValue := 0 }, { name := "tags", type := (.array (.object "com/example/wireknit/wireknit/Item$Tag")), accessFlags := 18, slot := 2, constantValue := 0 }, { name := "items", type := (.array (.object "com/example/wireknit/wireknit/Item")), accessFlags := 18, slot := 3, constantValue := 0 }, { name := "byTag", type := (.array .int), accessFlags := 18, slot := 4, constantValue := 0 }, { name := "hash", type := .int, accessFlags := 2, slot := 5, constantValue := 0 }]
  methods := #[k2m0, k2m1, k2m2, k2m3, k2m4, k2m5]
  instanceTypes := #[(.object "com/example/wireknit/wireknit/Item$Type"), (.array .byte), (.array (.object "com/example/wireknit/wireknit/Item$Tag")), (.array (.object "com/example/wireknit/wireknit/Item")), (.array .int), .int]
  staticTypes := #[.int, (.array .byte), (.array (.object "com/example/wireknit/wireknit/Item$Tag")), (.array (.object "com/example/wireknit/wireknit/Item")), (.array .int), (.object "com/example/wireknit/wireknit/Item")]
  resolved := Array.replicate 260 none
  statics := some 0 }

def pool3 : Array CpInfo := pool [(1, .class_ 2), (0, u "java/lang/constant/Constable"), (0, .class_ 4), (0, u "java/lang/Object")] 6

/-- java/lang/constant/Constable -/
def k3 : Class := { plain "java/lang/constant/Constable" (some 0) with
  accessFlags := 1537
  interfaces := #[]
  cf := some (fileOf pool3 1 #[] #[] 1537 3 #[] #[])
  fields := #[]
  methods := #[]
  instanceTypes := #[]
  staticTypes := #[]
  resolved := Array.replicate 11 none
  statics := none }

def pool4 : Array CpInfo := pool [(1, .class_ 2), (0, u "java/lang/Comparable"), (0, .class_ 4), (0, u "java/lang/Object")] 7

/-- java/lang/Comparable -/
def k4 : Class := { plain "java/lang/Comparable" (some 0) with
  accessFlags := 1537
  interfaces := #[]
  cf := some (fileOf pool4 1 #[] #[] 1537 3 #[] #[])
  fields := #[]
  methods := #[]
  instanceTypes := #[]
  staticTypes := #[]
  resolved := Array.replicate 12 none
  statics := none }

def pool5 : Array CpInfo := pool [(1, .class_ 2), (0, u "java/io/Serializable"), (0, .class_ 4), (0, u "java/lang/Object")] 2

/-- java/io/Serializable -/
def k5 : Class := { plain "java/io/Serializable" (some 0) with
  accessFlags := 1537
  interfaces := #[]
  cf := some (fileOf pool5 1 #[] #[] 1537 3 #[] #[])
  fields := #[]
  methods := #[]
  instanceTypes := #[]
  staticTypes := #[]
  resolved := Array.replicate 7 none
  statics := none }

def pool6 : Array CpInfo := pool [(2, .class_ 4), (1, u "java/lang/Enum"), (0, u "name"), (0, u "Ljava/lang/String;"), (2, u "ordinal"), (0, u "I"), (1, .class_ 14), (1, u "java/lang/Object"), (4, u "hash"), (86, .class_ 108), (1, u "java/lang/Enum$EnumDesc"), (2, .class_ 112), (0, u "java/lang/constant/Constable"), (0, .class_ 114), (0, u "java/lang/Comparable"), (0, .class_ 116), (0, u "java/io/Serializable")] 87

/-- java/lang/Enum -/
def k6 : Class := { plain "java/lang/Enum" (some 0) with
  accessFlags := 1057
  interfaces := #[3, 4, 5]
  cf := some (fileOf pool6 2 #[.nestMembers #[106]] #[] 1057 12 #[111, 113, 115] #[{ accessFlags := 18, nameIndex := 5, descriptorIndex := 6, attributes := #[] }, { accessFlags := 18, nameIndex := 9, descriptorIndex := 10, attributes := #[] }, { accessFlags := 2, nameIndex := 19, descriptorIndex := 10, attributes := #[] }])
  fields := #[{ name := "name", type := (.object "java/lang/String"), accessFlags := 18, slot := 0, constantValue := 0 }, { name := "ordinal", type := .int, accessFlags := 18, slot := 1, constantValue := 0 }, { name := "hash", type := .int, accessFlags := 2, slot := 2, constantValue := 0 }]
  methods := #[]
  instanceTypes := #[(.object "java/lang/String"), .int, .int]
  staticTypes := #[]
  resolved := Array.replicate 204 none
  statics := none }

def pool7 : Array CpInfo := pool [(1, .class_ 2), (0, u "com/example/wireknit/wireknit/Item$Type"), (2, u "DATA"), (0, u "Lcom/example/wireknit/wireknit/Item$Type;"), (2, u "HASH"), (2, u "LIST"), (2, u "NULL"), (2, u "$VALUES"), (0, u "[Lcom/example/wireknit/wireknit/Item$Type;"), (6, .class_ 28), (1, u "java/lang/Enum"), (27, .class_ 57), (0, u "com/example/wireknit/wireknit/Item")] 2

/-- com/example/wireknit/wireknit/Item$Type -/
def k7 : Class := { plain "com/example/wireknit/wireknit/Item$Type" (some 6) with
  accessFlags := 16433
  interfaces := #[]
  cf := some (fileOf pool7 1 #[.nestHost 56] #[] 16433 26 #[] #[{ accessFlags := 16409, nameIndex := 5, descriptorIndex := 6, attributes := #[] }, { accessFlags := 16409, nameIndex := 9, descriptorIndex := 6, attributes := #[] }, { accessFlags := 16409, nameIndex := 12, descriptorIndex := 6, attributes := #[] }, { accessFlags := 16409, nameIndex := 15, descriptorIndex := 6, attributes := #[] }, { accessFlags := 4122, nameIndex := 18, descriptorIndex := 19, attributes := #[] }])
  fields := #[{ name := "DATA", type := (.object "com/example/wireknit/wireknit/Item$Type"), accessFlags := 16409, slot := 0, constantValue := 0 }, { name := "HASH", type := (.object "com/example/wireknit/wireknit/Item$Type"), accessFlags := 16409, slot := 1, constantValue := 0 }, { name := "LIST", type := (.object "com/example/wireknit/wireknit/Item$Type"), accessFlags := 16409, slot := 2, constantValue := 0 }, { name := "NULL", type := (.object "com/example/wireknit/wireknit/Item$Type"), accessFlags := 16409, slot := 3, constantValue := 0 }, { name := "$VALUES", type := (.array (.object "com/example/wireknit/wireknit/Item$Type")), accessFlags := 4122, slot := 4, constantValue := 0 }]
  methods := #[]
  instanceTypes := #[(.object "java/lang/String"), .int, .int]
  staticTypes := #[(.object "com/example/wireknit/wireknit/Item$Type"), (.object "com/example/wireknit/wireknit/Item$Type"), (.object "com/example/wireknit/wireknit/Item$Type"), (.object "com/example/wireknit/wireknit/Item$Type"), (.array (.object "com/example/wireknit/wireknit/Item$Type"))]
  resolved := Array.replicate 60 none
  statics := some 1 }

def pool8 : Array CpInfo := pool [(1, .class_ 2), (0, u "java/lang/Cloneable"), (0, .class_ 4), (0, u "java/lang/Object")] 2

/-- java/lang/Cloneable -/
def k8 : Class := { plain "java/lang/Cloneable" (some 0) with
  accessFlags := 1537
  interfaces := #[]
  cf := some (fileOf pool8 1 #[] #[] 1537 3 #[] #[])
  fields := #[]
  methods := #[]
  instanceTypes := #[]
  staticTypes := #[]
  resolved := Array.replicate 7 none
  statics := none }

def pool9 : Array CpInfo := pool [(2, .class_ 4), (1, u "java/lang/Object"), (3, .class_ 10), (1, u "com/example/wireknit/wireknit/Item$Tag"), (0, u "bytes"), (0, u "[B"), (18, .class_ 32), (0, u "java/lang/Comparable"), (13, .class_ 47), (0, u "com/example/wireknit/wireknit/Item")] 2

/-- com/example/wireknit/wireknit/Item$Tag -/
def k9 : Class := { plain "com/example/wireknit/wireknit/Item$Tag" (some 0) with
  accessFlags := 48
  interfaces := #[4]
  cf := some (fileOf pool9 8 #[.nestHost 46] #[] 48 2 #[31] #[{ accessFlags := 18, nameIndex := 11, descriptorIndex := 12, attributes := #[] }])
  fields := #[{ name := "bytes", type := (.array .byte), accessFlags := 18, slot := 0, constantValue := 0 }]
  methods := #[]
  instanceTypes := #[(.array .byte)]
  staticTypes := #[]
  resolved := Array.replicate 50 none
  statics := none }

/-- the primitive byte -/
def k10 : Class := { plain "byte" none with kind := .primitive 'B', accessFlags := 0x411 }
/-- [B -/
def k11 : Class := { plain "[B" (some 0) with kind := .array 10 .byte, interfaces := #[8, 5], accessFlags := 1041 }

/-- the primitive int -/
def k12 : Class := { plain "int" none with kind := .primitive 'I', accessFlags := 0x411 }
/-- [I -/
def k13 : Class := { plain "[I" (some 0) with kind := .array 12 .int, interfaces := #[8, 5], accessFlags := 1041 }

/-- [Lcom/example/wireknit/wireknit/Item; -/
def k14 : Class := { plain "[Lcom/example/wireknit/wireknit/Item;" (some 0) with kind := .array 2 (.object "com/example/wireknit/wireknit/Item"), interfaces := #[8, 5], accessFlags := 1041 }

/-- [Lcom/example/wireknit/wireknit/Item$Tag; -/
def k15 : Class := { plain "[Lcom/example/wireknit/wireknit/Item$Tag;" (some 0) with kind := .array 9 (.object "com/example/wireknit/wireknit/Item$Tag"), interfaces := #[8, 5], accessFlags := 1041 }

def heap : Heap := #[{ cls := 2, slots := #[.int 0, .null, .ref 3, .ref 2, .ref 5, .null], vm := .statics 2 },
  { cls := 7, slots := #[.ref 4, .null, .null, .null, .null], vm := .statics 7 },
  { cls := 14, slots := #[], vm := .none },
  { cls := 15, slots := #[], vm := .none },
  { cls := 7, slots := #[.null, .int 0, .int 0], vm := .none },
  { cls := 13, slots := #[], vm := .none }]
def classes : Array Class := #[k0, k1, k2, k3, k4, k5, k6, k7, k8, k9, k10, k11, k12, k13, k14, k15]
def interned : List (Array UInt16 × Addr) := []
def slotsUsed : Nat := 14
def theMethod : MethodId := ⟨1, 3⟩
def args0 : Array Value := #[.int 7, .int 5, .int 3, .int 2]
def aboutOver (below : List Frame) : State where
  vm := { classes := classes, interned := interned.toArray }
  heap := heap
  slotsUsed := slotsUsed
  threads := #[{ frames := .invoking theMethod args0 :: below }]
def below0 : List Frame := [.native { method := ⟨0, 0⟩, args := #[] }]
def about1 : State := aboutOver below0
def p0 : Program := .bare "" "" ""
def e0 : Env := launch0.env 0 0 0
theorem w_frames : about1.frames = Frame.invoking theMethod args0 :: below0 := rfl
set_option maxRecDepth 65536 in
theorem w_args : argsFit about1.vm theMethod args0 = true := by decide +kernel
set_option maxRecDepth 65536 in
theorem w_heap : heapFits about1 = true := by decide +kernel
set_option maxRecDepth 65536 in
theorem w_runnable : about1.curStatus? = some .runnable := by decide +kernel
set_option maxRecDepth 65536 in
theorem w_alone : about1.alone = true := by decide +kernel
set_option maxRecDepth 65536 in
theorem w_named : about1.methodNamed? x = some theMethod := by decide +kernel
set_option maxRecDepth 65536 in
theorem w_hears : about1.hears theMethod below0 = true := by decide +kernel
set_option maxRecDepth 65536 in
theorem w_ripe : about1.ripe theMethod args0 below0 = true := by decide +kernel
theorem w_running : about1.status = .running := rfl
set_option maxRecDepth 65536 in
theorem w_room : about1.hasRoom e0.platform room_1 = true :=
  launch0.hasRoom_least _ room_1 (by decide +kernel) (by decide +kernel) (by decide +kernel) (by decide +kernel) (by decide +kernel) (by decide +kernel)
theorem allAtoms_all (ts : List Jvm.Cond) (a : Array Jvm.Value) (st : Jvm.State) : (allAtoms ts).before a st = ts.all (fun c => c.before a st) := by
  induction ts with
  | nil => rfl
  | cons c t ih =>
    show (Jvm.Cond.and c (allAtoms t)).before a st = _
    rw [Jvm.Cond.before_and, ih, List.all_cons]
def words1 : List Jvm.Cond := Jvm.Cond.code x code maxLocals ret :: tables_1
/-- a 'code' word, met by the world's own term for the bytes: nothing is compared byte by byte -/
theorem code_word {y : MethodName} {bytes : ByteArray} {mx : Nat} {rt : Option FieldType} {a : Array Value} {s : State} {m : MethodId} {meth : Method} {c : Code} (h1 : s.methodNamed? y = some m) (h2 : s.vm.method? m = some meth) (h3 : meth.code = some c) (h4 : c.code = bytes)
    (h5 : (c.maxLocals == mx && c.exceptionTable.isEmpty && decide (c.maxStack ≤ mostOperands) && decide (meth.sig.returnType = rt) && !meth.locks && decide (parseMethodDescriptor y.desc = some meth.sig)) = true) : (Jvm.Cond.code y bytes mx rt).before a s = true := by
  simp only [Bool.and_eq_true, beq_iff_eq, Bool.not_eq_true', decide_eq_true_eq] at h5
  obtain ⟨⟨⟨⟨⟨g1, g2⟩, g3⟩, g4⟩, g5⟩, g6⟩ := h5
  simp [Cond.before, Cond.holds, Cond.value, h1, h2, h3, h4, g1, g2, g3, g4, g5, g6]
def isCode : Jvm.Cond → Bool
  | .code _ _ _ _ => true
  | _ => false
theorem all_split {L : List Jvm.Cond} {P : Jvm.Cond → Bool} (h1 : L.all (fun c => isCode c || P c) = true) (h2 : ∀ c ∈ L.filter isCode, P c = true) : L.all P = true := by
  refine List.all_eq_true.mpr fun c hc => ?_
  have h := List.all_eq_true.mp h1 c hc
  rcases Bool.eq_false_or_eq_true (isCode c) with hi | hi
  · exact h2 c (List.mem_filter.mpr ⟨hc, hi⟩)
  · simpa [hi] using h
set_option maxRecDepth 65536 in
theorem w_c0 : (Jvm.Cond.code x code maxLocals ret).before args0 about1 = true := code_word (m := ⟨1, 3⟩) (meth := k1m3) (c := k1c3) (by decide +kernel) rfl rfl rfl (by decide +kernel)
set_option maxRecDepth 65536 in
theorem w_c1 : (Jvm.Cond.code ({ cls := "com/example/wireknit/wireknit/Item", name := "data", desc := "([B)Lcom/example/wireknit/wireknit/Item;" } : Jvm.MethodName) prog_13_method_3_code (1 : Nat) (Option.some (Jvm.ClassFile.FieldType.object "com/example/wireknit/wireknit/Item"))).before args0 about1 = true := code_word (m := ⟨2, 2⟩) (meth := k2m2) (c := k2c2) (by decide +kernel) rfl rfl rfl (by decide +kernel)
set_option maxRecDepth 65536 in
theorem w_c2 : (Jvm.Cond.code ({ cls := "com/example/wireknit/wireknit/Item", name := "<init>", desc := "(Lcom/example/wireknit/wireknit/Item$Type;[B[Lcom/example/wireknit/wireknit/Item;)V" } : Jvm.MethodName) prog_13_method_2_code (4 : Nat) (Option.none : Option Jvm.ClassFile.FieldType)).before args0 about1 = true := code_word (m := ⟨2, 1⟩) (meth := k2m1) (c := k2c1) (by decide +kernel) rfl rfl rfl (by decide +kernel)
set_option maxRecDepth 65536 in
theorem w_c3 : (Jvm.Cond.code ({ cls := "com/example/wireknit/wireknit/Item", name := "<init>", desc := "(Lcom/example/wireknit/wireknit/Item$Type;[B[Lcom/example/wireknit/wireknit/Item$Tag;[Lcom/example/wireknit/wireknit/Item;[I)V" } : Jvm.MethodName) prog_13_method_1_code (6 : Nat) (Option.none : Option Jvm.ClassFile.FieldType)).before args0 about1 = true := code_word (m := ⟨2, 0⟩) (meth := k2m0) (c := k2c0) (by decide +kernel) rfl rfl rfl (by decide +kernel)
set_option maxRecDepth 65536 in
theorem w_c4 : (Jvm.Cond.code ({ cls := "java/lang/Object", name := "<init>", desc := "()V" } : Jvm.MethodName) object_method_1_code (1 : Nat) (Option.none : Option Jvm.ClassFile.FieldType)).before args0 about1 = true := code_word (m := ⟨0, 0⟩) (meth := k0m0) (c := k0c0) (by decide +kernel) rfl rfl rfl (by decide +kernel)
set_option maxRecDepth 65536 in
theorem w_c5 : (Jvm.Cond.code ({ cls := "com/example/wireknit/wireknit/Item", name := "type", desc := "()Lcom/example/wireknit/wireknit/Item$Type;" } : Jvm.MethodName) prog_13_method_8_code (1 : Nat) (Option.some (Jvm.ClassFile.FieldType.object "com/example/wireknit/wireknit/Item$Type"))).before args0 about1 = true := code_word (m := ⟨2, 3⟩) (meth := k2m3) (c := k2c3) (by decide +kernel) rfl rfl rfl (by decide +kernel)
set_option maxRecDepth 65536 in
theorem w_c6 : (Jvm.Cond.code ({ cls := "com/example/wireknit/wireknit/ItemDataPinLaw", name := "scramble", desc := "([BIIII)V" } : Jvm.MethodName) method_3_code (5 : Nat) (Option.none : Option Jvm.ClassFile.FieldType)).before args0 about1 = true := code_word (m := ⟨1, 2⟩) (meth := k1m2) (c := k1c2) (by decide +kernel) rfl rfl rfl (by decide +kernel)
set_option maxRecDepth 65536 in
theorem w_c7 : (Jvm.Cond.code ({ cls := "com/example/wireknit/wireknit/Item", name := "bytes", desc := "()[B" } : Jvm.MethodName) prog_13_method_9_code (1 : Nat) (Option.some (Jvm.ClassFile.FieldType.array Jvm.ClassFile.FieldType.byte))).before args0 about1 = true := code_word (m := ⟨2, 4⟩) (meth := k2m4) (c := k2c4) (by decide +kernel) rfl rfl rfl (by decide +kernel)
set_option maxRecDepth 65536 in
theorem w_c8 : (Jvm.Cond.code ({ cls := "com/example/wireknit/wireknit/Item", name := "requireType", desc := "(Lcom/example/wireknit/wireknit/Item$Type;)V" } : Jvm.MethodName) prog_13_method_20_code (2 : Nat) (Option.none : Option Jvm.ClassFile.FieldType)).before args0 about1 = true := code_word (m := ⟨2, 5⟩) (meth := k2m5) (c := k2c5) (by decide +kernel) rfl rfl rfl (by decide +kernel)
set_option maxRecDepth 65536 in
theorem w_c9 : (Jvm.Cond.code ({ cls := "com/example/wireknit/wireknit/ItemDataPinLaw", name := "holds", desc := "([BIIII)Z" } : Jvm.MethodName) method_2_code (5 : Nat) (Option.some Jvm.ClassFile.FieldType.boolean)).before args0 about1 = true := code_word (m := ⟨1, 1⟩) (meth := k1m1) (c := k1c1) (by decide +kernel) rfl rfl rfl (by decide +kernel)
def codes1 : List Jvm.Cond := [Jvm.Cond.code x code maxLocals ret, Jvm.Cond.code ({ cls := "com/example/wireknit/wireknit/Item", name := "data", desc := "([B)Lcom/example/wireknit/wireknit/Item;" } : Jvm.MethodName) prog_13_method_3_code (1 : Nat) (Option.some (Jvm.ClassFile.FieldType.object "com/example/wireknit/wireknit/Item")), Jvm.Cond.code ({ cls := "com/example/wireknit/wireknit/Item", name := "<init>", desc := "(Lcom/example/wireknit/wireknit/Item$Type;[B[Lcom/example/wireknit/wireknit/Item;)V" } : Jvm.MethodName) prog_13_method_2_code (4 : Nat) (Option.none : Option Jvm.ClassFile.FieldType), Jvm.Cond.code ({ cls := "com/example/wireknit/wireknit/Item", name := "<init>", desc := "(Lcom/example/wireknit/wireknit/Item$Type;[B[Lcom/example/wireknit/wireknit/Item$Tag;[Lcom/example/wireknit/wireknit/Item;[I)V" } : Jvm.MethodName) prog_13_method_1_code (6 : Nat) (Option.none : Option Jvm.ClassFile.FieldType), Jvm.Cond.code ({ cls := "java/lang/Object", name := "<init>", desc := "()V" } : Jvm.MethodName) object_method_1_code (1 : Nat) (Option.none : Option Jvm.ClassFile.FieldType), Jvm.Cond.code ({ cls := "com/example/wireknit/wireknit/Item", name := "type", desc := "()Lcom/example/wireknit/wireknit/Item$Type;" } : Jvm.MethodName) prog_13_method_8_code (1 : Nat) (Option.some (Jvm.ClassFile.FieldType.object "com/example/wireknit/wireknit/Item$Type")), Jvm.Cond.code ({ cls := "com/example/wireknit/wireknit/ItemDataPinLaw", name := "scramble", desc := "([BIIII)V" } : Jvm.MethodName) method_3_code (5 : Nat) (Option.none : Option Jvm.ClassFile.FieldType), Jvm.Cond.code ({ cls := "com/example/wireknit/wireknit/Item", name := "bytes", desc := "()[B" } : Jvm.MethodName) prog_13_method_9_code (1 : Nat) (Option.some (Jvm.ClassFile.FieldType.array Jvm.ClassFile.FieldType.byte)), Jvm.Cond.code ({ cls := "com/example/wireknit/wireknit/Item", name := "requireType", desc := "(Lcom/example/wireknit/wireknit/Item$Type;)V" } : Jvm.MethodName) prog_13_method_20_code (2 : Nat) (Option.none : Option Jvm.ClassFile.FieldType), Jvm.Cond.code ({ cls := "com/example/wireknit/wireknit/ItemDataPinLaw", name := "holds", desc := "([BIIII)Z" } : Jvm.MethodName) method_2_code (5 : Nat) (Option.some Jvm.ClassFile.FieldType.boolean)]
set_option maxRecDepth 65536 in
theorem codes_eq : words1.filter isCode = codes1 := rfl
theorem w_codes : ∀ c ∈ words1.filter isCode, c.before args0 about1 = true := by
  rw [codes_eq]
  intro c hc
  simp only [codes1, List.mem_cons, List.not_mem_nil, or_false] at hc
  rcases hc with rfl | rfl | rfl | rfl | rfl | rfl | rfl | rfl | rfl | rfl
  · exact w_c0
  · exact w_c1
  · exact w_c2
  · exact w_c3
  · exact w_c4
  · exact w_c5
  · exact w_c6
  · exact w_c7
  · exact w_c8
  · exact w_c9
set_option maxRecDepth 65536 in
theorem w_t1 : (words1.take 24).all (fun c => isCode c || c.before args0 about1) = true := by decide +kernel
set_option maxRecDepth 65536 in
theorem w_t2 : ((words1.drop 24).take 24).all (fun c => isCode c || c.before args0 about1) = true := by decide +kernel
set_option maxRecDepth 65536 in
theorem w_t3 : ((words1.drop 24).drop 24).all (fun c => isCode c || c.before args0 about1) = true := by decide +kernel
theorem w_tables : (allAtoms (Jvm.Cond.code x code maxLocals ret :: tables_1)).before args0 about1 = true := by
  rw [allAtoms_all]
  show words1.all (fun c => c.before args0 about1) = true
  refine all_split ?_ w_codes
  rw [← List.take_append_drop 24 words1, List.all_append, w_t1, ← List.take_append_drop 24 (words1.drop 24), List.all_append, w_t2, w_t3]
  rfl
set_option maxRecDepth 65536 in
theorem w_case : (Jvm.Cond.and given_1 narrow_1).before args0 about1 = true := by decide +kernel
theorem w_applies : (headSpec (Jvm.Cond.code x code maxLocals ret :: tables_1) room_1).applies x e0.platform about1 = true :=
  (Spec.applies_iff w_frames).mpr ⟨w_running, w_runnable, w_alone, w_named, w_hears, w_ripe, w_room, w_tables⟩
theorem atStart : AtStart classFile x code maxLocals ret World_1 tables_1 room_1 Calls_1 rest_1 Pre_1 launch0 p0 e0 about1 theMethod args0 below0 :=
  ⟨lists_1, trivial, launch0.admits_env _ _ _, launch0.least_env, fairChoices_fair.cas, fairChoices_fair.clock, w_frames, w_args, w_heap, w_applies, trivial, trivial, w_case⟩
end start1
theorem witness_1 : WitnessClaimed_1 := ⟨start1.p0, start1.e0, start1.about1, start1.theMethod, start1.args0, start1.below0, start1.atStart⟩
end Jvm.Pilot.@@N@@
