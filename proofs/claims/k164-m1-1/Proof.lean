import JvmDerived
import JvmDerived.Pilot.@@N@@Statement
import JvmDerived.Pilot.@@N@@Code
set_option linter.unusedVariables false
set_option linter.unusedSimpArgs false
namespace Jvm.OwnKit
open Sem ClassFile Op Lib Jvm.Stand Jvm.Free Jvm.LawKit Jvm.RoadKit
section Own
variable {p : Program} {l : Launch} {e : Env} {R : Room} {s : State} {m : MethodId} {args : Array Value} {below : List Frame} {meth : Method} {c : Code} {T : State} {locs : List Loc} {cells slots : Nat} {Z : State} {a0 : Array Value} {h : Heap}
/-- from S the run comes to an end that F admits -/
def W (p : Program) (e : Env) (below : List Frame) (F : Outcome → State → Prop) (S : State) : Prop := ∃ s₂ o, Steps p.tables e below S s₂ ∧ s₂.status = .running ∧ Ended s₂ below o ∧ F o s₂
def Fin (s : State) (Q : Option Value → Heap → List Loc → Prop) (rc rs : Nat) (o : Outcome) (U : State) : Prop := ∃ v L, o = .returned v ∧ Q v U.heap L ∧ FrameEnd s o U L rc rs
theorem W.go {F : Outcome → State → Prop} {S S' : State} (st : ∀ t, Steps p.tables e below S' t → Steps p.tables e below S t) (k : W p e below F S') : W p e below F S := by
  obtain ⟨s2, o, h1, h2⟩ := k; exact ⟨s2, o, st _ h1, h2⟩
theorem W.via {F : Outcome → State → Prop} {S S' : State} (st : Steps p.tables e below S S') (k : W p e below F S') : W p e below F S := by
  obtain ⟨s2, o, h1, h2⟩ := k; exact ⟨s2, o, st.trans h1, h2⟩
/-- a contract: called with these arguments, over this heap, the body returns and leaves what Q says -/
def Ctr (l : Launch) (Z : State) (y : MethodName) (bytes : ByteArray) (maxL : Nat) (ret : Option FieldType) (rm : Room) (as' : Array Value) (h0 : Heap) (Q : Option Value → Heap → List Loc → Prop) : Prop :=
  ∀ ws : List Jvm.Cond, MetFree l y (head1 (Jvm.Cond.code y bytes maxL ret :: ws) rm) (fun a U => a = as' ∧ Z.Warmed39 U.vm ∧ U.heap = h0) (fun _ _ _ _ _ => True) (fun _ U o U' => Fin U Q rm.cells rm.slots o U')
theorem Ctr.body {y : MethodName} {bytes : ByteArray} {maxL : Nat} {ret : Option FieldType} {rm : Room} {as' : Array Value} {h0 : Heap} {Q : Option Value → Heap → List Loc → Prop} {fr : MethodId → JFrame} (hpl : plainFor y = true) (hef : ∀ m, entryFrame m as' maxL = fr m)
    (body : ∀ (p : Program) (e : Env) (s : State) (m : MethodId) (below : List Frame) (meth : Method) (c : Code) (s₁ : State), p.tables.exec = Jvm.exec → c.code = bytes → c.maxLocals = maxL → Z.Warmed39 s.vm → s.vm.findClass y.cls = some m.cls → meth.name = y.name → meth.sig.returnType = ret → meth.locks = false →
      Stand p l e rm s m as' below meth c s₁ [] 0 0 → s₁.heap = h0 → W p e below (Fin s Q rm.cells rm.slots) (s₁.setTop (fr m))) : Ctr l Z y bytes maxL ret rm as' h0 Q := by
  intro ws
  refine MetFree.of_bodySF hpl hisR ?_
  intro p e s m args below meth c s₁ Bd hml0 hP hK
  obtain ⟨rfl, hZ, hh⟩ := hP
  have r := body p e s m below meth c s₁ Bd.exec Bd.bytes hml0 hZ (findClass_of_methodNamed Bd.named) (name_of_methodNamed Bd.named Bd.method).1 Bd.returns Bd.notSynchronized (Stand.of_body Bd) (by rw [← hh, Bd.state]; rfl)
  rw [← hef] at r
  exact r
theorem W.retB (X : Stand p l e R s m args below meth c T locs cells slots) (hx : p.tables.exec = Jvm.exec) (hlk : meth.locks = false) {t : FieldType} (hret : meth.sig.returnType = some t) (ht : t = .boolean ∨ t = .byte ∨ t = .char ∨ t = .short) {pc : Nat} {Ls : Array Slot} {z : Int32} {rest : List Value} (hd : decode c.code pc = .ok (.ireturn, 1))
    {Q : Option Value → Heap → List Loc → Prop} {rc rs : Nat} (hc : cells ≤ rc) (hs : slots ≤ rs) (eT : T.heap = h) (hQ : Q (some (.int (nar t z))) h locs) : W p e below (Fin s Q rc rs) (T.setTop (mkF m pc Ls (.int z :: rest))) := by
  obtain ⟨fs, hr, hrun, hended, hW, hsame⟩ := X.leave (v := some (.int (nar t z))) (fun h => by rw [hret] at h; cases h) hlk
  subst eT
  exact ⟨_, _, retN X hx hret ht hd hr, hrun, hended, _, _, rfl, hQ, ⟨_, rfl⟩, hW, hsame.mono hc hs⟩
theorem W.retI (X : Stand p l e R s m args below meth c T locs cells slots) (hx : p.tables.exec = Jvm.exec) (hlk : meth.locks = false) (hret : meth.sig.returnType = some .int) {pc : Nat} {Ls : Array Slot} {z : Int32} {rest : List Value} (hd : decode c.code pc = .ok (.ireturn, 1))
    {Q : Option Value → Heap → List Loc → Prop} {rc rs : Nat} (hc : cells ≤ rc) (hs : slots ≤ rs) (eT : T.heap = h) (hQ : Q (some (.int z)) h locs) : W p e below (Fin s Q rc rs) (T.setTop (mkF m pc Ls (.int z :: rest))) := by
  obtain ⟨fs, hr, hrun, hended, hW, hsame⟩ := X.leave (v := some (.int z)) (fun h => by rw [hret] at h; cases h) hlk
  subst eT
  refine ⟨_, _, ?_, hrun, hended, _, _, rfl, hQ, ⟨_, rfl⟩, hW, hsame.mono hc hs⟩
  have hm' : T.vm.method? m = some meth := X.method'
  have hn : narrow .int (.int z) = .int z := rfl
  show Steps p.tables e below (T.setTop { method := m, pc := pc, locals := Ls, stack := _ :: rest, locked := none }) _
  jvm_step X.here [X.here.top, hx, hd, hm', hret, hn]
  first | (intro acts; rw [hr _ acts rfl rfl rfl]) | rw [hr _ _ rfl rfl rfl]
  exact Steps.refl _
theorem W.retL (X : Stand p l e R s m args below meth c T locs cells slots) (hx : p.tables.exec = Jvm.exec) (hlk : meth.locks = false) (hret : meth.sig.returnType = some .long) {pc : Nat} {Ls : Array Slot} {z : Int64} {rest : List Value} (hd : decode c.code pc = .ok (.lreturn, 1))
    {Q : Option Value → Heap → List Loc → Prop} {rc rs : Nat} (hc : cells ≤ rc) (hs : slots ≤ rs) (eT : T.heap = h) (hQ : Q (some (.long z)) h locs) : W p e below (Fin s Q rc rs) (T.setTop (mkF m pc Ls (.long z :: rest))) := by
  obtain ⟨fs, hr, hrun, hended, hW, hsame⟩ := X.leave (v := some (.long z)) (fun h => by rw [hret] at h; cases h) hlk
  subst eT
  refine ⟨_, _, ?_, hrun, hended, _, _, rfl, hQ, ⟨_, rfl⟩, hW, hsame.mono hc hs⟩
  have hm' : T.vm.method? m = some meth := X.method'
  have hn : narrow .long (.long z) = .long z := rfl
  show Steps p.tables e below (T.setTop { method := m, pc := pc, locals := Ls, stack := _ :: rest, locked := none }) _
  jvm_step X.here [X.here.top, hx, hd, hm', hret, hn]
  first | (intro acts; rw [hr _ acts rfl rfl rfl]) | rw [hr _ _ rfl rfl rfl]
  exact Steps.refl _
theorem W.retA (X : Stand p l e R s m args below meth c T locs cells slots) (hx : p.tables.exec = Jvm.exec) (hlk : meth.locks = false) {t : FieldType} (hret : meth.sig.returnType = some t) (ht : t.isReference = true) {pc : Nat} {Ls : Array Slot} {w : Value} (hw : w.isRef = true) {rest : List Value} (hd : decode c.code pc = .ok (.areturn, 1))
    {Q : Option Value → Heap → List Loc → Prop} {rc rs : Nat} (hc : cells ≤ rc) (hs : slots ≤ rs) (eT : T.heap = h) (hQ : Q (some w) h locs) : W p e below (Fin s Q rc rs) (T.setTop (mkF m pc Ls (w :: rest))) := by
  obtain ⟨fs, hr, hrun, hended, hW, hsame⟩ := X.leave (v := some w) (fun h => by rw [hret] at h; cases h) hlk
  subst eT
  refine ⟨_, _, ?_, hrun, hended, _, _, rfl, hQ, ⟨_, rfl⟩, hW, hsame.mono hc hs⟩
  have hm' : T.vm.method? m = some meth := X.method'
  rcases ref_cases hw with rfl | ⟨z, rfl⟩
  all_goals
    show Steps p.tables e below (T.setTop { method := m, pc := pc, locals := Ls, stack := _ :: rest, locked := none }) _
    jvm_step X.here [X.here.top, hx, hd, hm', hret, ht, Value.isRef]
    first | (intro acts; rw [hr _ acts rfl rfl rfl]) | rw [hr _ _ rfl rfl rfl]
    exact Steps.refl _
theorem W.retV (X : Stand p l e R s m args below meth c T locs cells slots) (hx : p.tables.exec = Jvm.exec) (hlk : meth.locks = false) (hret : meth.sig.returnType = none) {pc : Nat} {Ls : Array Slot} (hd : decode c.code pc = .ok (.return_, 1))
    {Q : Option Value → Heap → List Loc → Prop} {rc rs : Nat} (hc : cells ≤ rc) (hs : slots ≤ rs) (eT : T.heap = h) (hQ : Q none h locs) : W p e below (Fin s Q rc rs) (T.setTop (mkF m pc Ls [])) := by
  obtain ⟨fs, hr, hrun, hended, hW, hsame⟩ := X.leave (v := none) (fun _ => rfl) hlk
  subst eT
  exact ⟨_, _, X.returnOut hx hret hd hr, hrun, hended, _, _, rfl, hQ, ⟨_, rfl⟩, hW, hsame.mono hc hs⟩
section Calls
variable {y y0 : MethodName} {bytes : ByteArray} {maxL W0 : Nat} {ret : Option FieldType} {rm : Room} {as' : Array Value} {Q : Option Value → Heap → List Loc → Prop} {own : String} {index : Nat} {sig : MethodDescriptor} {g : JFrame} {argsL rest : List Value} {F : Outcome → State → Prop}
theorem Ctr.back {len : Nat} (hM : Ctr l Z y bytes maxL ret rm as' h Q) (hZ : Z.Warmed39 s.vm) (wc : (Jvm.Cond.code y bytes maxL ret).before a0 Z = true) (wz : (Jvm.Cond.initialized y.cls).before a0 Z = true) (hf : rm.frames + 1 ≤ R.frames) (hl : W0 + (maxL + 11) + rm.locals ≤ R.locals) :
    Back l R p e below s args y len W0 (fun A a => a = as' ∧ A.U.heap = h ∧ A.cells + rm.cells ≤ R.cells ∧ A.slots + rm.slots ≤ R.slots)
      (fun A _ v B => ∃ L, Q v B.U.heap L ∧ B.locs = A.locs ++ L ∧ B.cells = A.cells + rm.cells ∧ B.slots = A.slots + rm.slots) := backOf (hM []) hZ wc wz hf hl
/-- a static call by its contract -/
theorem W.callS (X : Stand p l e R s m args below meth c T locs cells slots) (hx : p.tables.exec = Jvm.exec) (hZ : Z.Warmed39 s.vm) (hown : s.vm.findClass own = some m.cls) (hml : g.locals.size = c.maxLocals)
    (w1 : (Jvm.Cond.methodLink own index y).before a0 Z = true) (w2 : (Jvm.Cond.static y).before a0 Z = true) (w3 : (Jvm.Cond.initialized y.cls).before a0 Z = true) (w4 : (Jvm.Cond.code y bytes maxL ret).before a0 Z = true) (eT : T.heap = h)
    (hM : Ctr l Z y bytes maxL ret rm as' h Q) (hy : y.cls ≠ "java/lang/invoke/MethodHandle" ∧ y.cls ≠ "java/lang/invoke/VarHandle") (pd : parseMethodDescriptor y.desc = some sig) (hg : g.method = m) (has : argsL.toArray = as') (hlen : argsL.length = sig.parameters.length)
    (hst : g.stack = argsL.reverse ++ rest) (hd : decode c.code g.pc = .ok (.invokestatic index, 3)) (hW : 2 * g.monitorRoom + (rest.map fun v => v.category).sum = W0) (hf : rm.frames + 1 ≤ R.frames) (hl : W0 + (maxL + 11) + rm.locals ≤ R.locals) (hc : cells + rm.cells ≤ R.cells) (hs : slots + rm.slots ≤ R.slots)
    (k : ∀ v T' h' L, Stand p l e R s m args below meth c T' (locs ++ L) (cells + rm.cells) (slots + rm.slots) → T'.heap = h' → Q v h' L → W p e below F (T'.setTop { g with pc := g.pc + 3, stack := v.toList ++ rest })) : W p e below F (T.setTop g) := by
  obtain ⟨v, _, ⟨T', L', k', n'⟩, -, X', ⟨L, hQ, e1, e2, e3⟩, st⟩ := Jvm.LawKit.callS X hx hown (mvT hZ w1) (mvT hZ w2) (mvT hZ w3) (mvT hZ w4) hy (hM.back hZ w4 w3 hf hl) hg hml (argsL := argsL) (rest := rest) (fun sg q => by cases pd.symm.trans q; exact hlen) hst (Nat.le_of_eq hW) hd (fun _ _ => ⟨has, eT, hc, hs⟩)
  dsimp only [Pt.U, Pt.locs, Pt.cells, Pt.slots] at X' e1 e2 e3 hQ st
  subst e1 e2 e3
  exact W.go st (k v T' _ L X' rfl hQ)
/-- a constructor, whoever pays it -/
theorem W.callIK {kc ks : Nat} (X : Stand p l e R s m args below meth c T locs cells slots) (hx : p.tables.exec = Jvm.exec) (hZ : Z.Warmed39 s.vm) (hown : s.vm.findClass own = some m.cls) (hml : g.locals.size = c.maxLocals)
    (w1 : (Jvm.Cond.methodLink own index y).before a0 Z = true) (w2 : (Jvm.Cond.instanceMethod y).before a0 Z = true) (w4 : (Jvm.Cond.code y bytes maxL none).before a0 Z = true) (eT : T.heap = h)
    (hK : Back l R p e below s args y 3 W0 (fun A a => a = as' ∧ A.U.heap = h ∧ A.cells + kc ≤ R.cells ∧ A.slots + ks ≤ R.slots) (fun A _ v B => ∃ L, Q v B.U.heap L ∧ B.locs = A.locs ++ L ∧ B.cells = A.cells + kc ∧ B.slots = A.slots + ks)) (hn : y.name = "<init>") (hy : y.cls ≠ "java/lang/invoke/MethodHandle" ∧ y.cls ≠ "java/lang/invoke/VarHandle") (pd : parseMethodDescriptor y.desc = some sig) (hg : g.method = m) {b : Addr} (has : (Value.ref b :: argsL).toArray = as') (hlen : argsL.length = sig.parameters.length)
    (hst : g.stack = argsL.reverse ++ .ref b :: rest) (hd : decode c.code g.pc = .ok (.invokespecial index, 3)) (hW : 2 * g.monitorRoom + (rest.map fun v => v.category).sum = W0) (hc : cells + kc ≤ R.cells) (hs : slots + ks ≤ R.slots)
    (k : ∀ v T' h' L, Stand p l e R s m args below meth c T' (locs ++ L) (cells + kc) (slots + ks) → T'.heap = h' → Q v h' L → W p e below F (T'.setTop { g with pc := g.pc + 3, stack := v.toList ++ rest })) : W p e below F (T.setTop g) := by
  obtain ⟨v, _, ⟨T', L', k', n'⟩, -, X', ⟨L, hQ, e1, e2, e3⟩, st⟩ := X.specialBack hx hn hown (mvT hZ w1) (mvT hZ w2) (mvT hZ w4) hy hK hg hml (Steps.refl _) (a := b) (argsL := argsL) (rest := rest) (fun sg q => by cases pd.symm.trans q; exact hlen) hst (Nat.le_of_eq hW) hd (fun _ _ => ⟨has, eT, hc, hs⟩)
  dsimp only [Pt.U, Pt.locs, Pt.cells, Pt.slots] at X' e1 e2 e3 hQ st
  subst e1 e2 e3
  exact W.via st (k v T' _ L X' rfl hQ)
/-- a constructor by its contract -/
theorem W.callI (X : Stand p l e R s m args below meth c T locs cells slots) (hx : p.tables.exec = Jvm.exec) (hZ : Z.Warmed39 s.vm) (hown : s.vm.findClass own = some m.cls) (hml : g.locals.size = c.maxLocals)
    (w1 : (Jvm.Cond.methodLink own index y).before a0 Z = true) (w2 : (Jvm.Cond.instanceMethod y).before a0 Z = true) (w3 : (Jvm.Cond.initialized y.cls).before a0 Z = true) (w4 : (Jvm.Cond.code y bytes maxL none).before a0 Z = true) (eT : T.heap = h)
    (hM : Ctr l Z y bytes maxL none rm as' h Q) (hn : y.name = "<init>") (hy : y.cls ≠ "java/lang/invoke/MethodHandle" ∧ y.cls ≠ "java/lang/invoke/VarHandle") (pd : parseMethodDescriptor y.desc = some sig) (hg : g.method = m) {b : Addr} (has : (Value.ref b :: argsL).toArray = as') (hlen : argsL.length = sig.parameters.length)
    (hst : g.stack = argsL.reverse ++ .ref b :: rest) (hd : decode c.code g.pc = .ok (.invokespecial index, 3)) (hW : 2 * g.monitorRoom + (rest.map fun v => v.category).sum = W0) (hf : rm.frames + 1 ≤ R.frames) (hl : W0 + (maxL + 11) + rm.locals ≤ R.locals) (hc : cells + rm.cells ≤ R.cells) (hs : slots + rm.slots ≤ R.slots)
    (k : ∀ v T' h' L, Stand p l e R s m args below meth c T' (locs ++ L) (cells + rm.cells) (slots + rm.slots) → T'.heap = h' → Q v h' L → W p e below F (T'.setTop { g with pc := g.pc + 3, stack := v.toList ++ rest })) : W p e below F (T.setTop g) := by
  obtain ⟨v, _, ⟨T', L', k', n'⟩, -, X', ⟨L, hQ, e1, e2, e3⟩, st⟩ := X.specialBack hx hn hown (mvT hZ w1) (mvT hZ w2) (mvT hZ w4) hy (hM.back hZ w4 w3 hf hl) hg hml (Steps.refl _) (a := b) (argsL := argsL) (rest := rest) (fun sg q => by cases pd.symm.trans q; exact hlen) hst (Nat.le_of_eq hW) hd (fun _ _ => ⟨has, eT, hc, hs⟩)
  dsimp only [Pt.U, Pt.locs, Pt.cells, Pt.slots] at X' e1 e2 e3 hQ st
  subst e1 e2 e3
  exact W.via st (k v T' _ L X' rfl hQ)
/-- an instance method, whoever pays it -/
theorem W.callVK {kc ks : Nat} {C : String} (X : Stand p l e R s m args below meth c T locs cells slots) (hx : p.tables.exec = Jvm.exec) (hZ : Z.Warmed39 s.vm) (hown : s.vm.findClass own = some m.cls) (hml : g.locals.size = c.maxLocals)
    (w1 : (Jvm.Cond.methodLink own index y0).before a0 Z = true) (w5 : (Jvm.Cond.declares y0).before a0 Z = true) (w6 : (Jvm.Cond.selects C y0 y).before a0 Z = true) (w2 : (Jvm.Cond.instanceMethod y).before a0 Z = true) (eT : T.heap = h)
    (hK : Back l R p e below s args y 3 W0 (fun A a => a = as' ∧ A.U.heap = h ∧ A.cells + kc ≤ R.cells ∧ A.slots + ks ≤ R.slots) (fun A _ v B => ∃ L, Q v B.U.heap L ∧ B.locs = A.locs ++ L ∧ B.cells = A.cells + kc ∧ B.slots = A.slots + ks)) (hnf : NotFace s y0) (hy : y0.cls ≠ "java/lang/invoke/MethodHandle" ∧ y0.cls ≠ "java/lang/invoke/VarHandle") (pd : parseMethodDescriptor y0.desc = some sig) (hg : g.method = m) {b : Addr} (E : Exa Z h b C) (has : (Value.ref b :: argsL).toArray = as') (hlen : argsL.length = sig.parameters.length)
    (hst : g.stack = argsL.reverse ++ .ref b :: rest) (hd : decode c.code g.pc = .ok (.invokevirtual index, 3)) (hW : 2 * g.monitorRoom + (rest.map fun v => v.category).sum = W0) (hc : cells + kc ≤ R.cells) (hs : slots + ks ≤ R.slots)
    (k : ∀ v T' h' L, Stand p l e R s m args below meth c T' (locs ++ L) (cells + kc) (slots + ks) → T'.heap = h' → Q v h' L → W p e below F (T'.setTop { g with pc := g.pc + 3, stack := v.toList ++ rest })) : W p e below F (T.setTop g) := by
  obtain ⟨cq, kq, qa, qb, qc⟩ := isOf hZ eT E
  obtain ⟨v, _, ⟨T', L', k', n'⟩, -, X', ⟨L, hQ, e1, e2, e3⟩, st⟩ := X.virtualBack hx hown (mvT hZ w1) (mvT hZ w5) hnf (mvT hZ w6) (mvT hZ w2) hy hK qa qc hg hml (Steps.refl _) (argsL := argsL) (rest := rest) (fun sg q => by cases pd.symm.trans q; exact hlen) hst (Nat.le_of_eq hW) hd (fun _ _ => ⟨has, eT, hc, hs⟩)
  dsimp only [Pt.U, Pt.locs, Pt.cells, Pt.slots] at X' e1 e2 e3 hQ st
  subst e1 e2 e3
  exact W.via st (k v T' _ L X' rfl hQ)
/-- an instance method by its contract -/
theorem W.callV {C : String} (X : Stand p l e R s m args below meth c T locs cells slots) (hx : p.tables.exec = Jvm.exec) (hZ : Z.Warmed39 s.vm) (hown : s.vm.findClass own = some m.cls) (hml : g.locals.size = c.maxLocals)
    (w1 : (Jvm.Cond.methodLink own index y0).before a0 Z = true) (w5 : (Jvm.Cond.declares y0).before a0 Z = true) (w6 : (Jvm.Cond.selects C y0 y).before a0 Z = true) (w2 : (Jvm.Cond.instanceMethod y).before a0 Z = true) (w3 : (Jvm.Cond.initialized y.cls).before a0 Z = true) (w4 : (Jvm.Cond.code y bytes maxL ret).before a0 Z = true) (eT : T.heap = h)
    (hM : Ctr l Z y bytes maxL ret rm as' h Q) (hnf : NotFace s y0) (hy : y0.cls ≠ "java/lang/invoke/MethodHandle" ∧ y0.cls ≠ "java/lang/invoke/VarHandle") (pd : parseMethodDescriptor y0.desc = some sig) (hg : g.method = m) {b : Addr} (E : Exa Z h b C) (has : (Value.ref b :: argsL).toArray = as') (hlen : argsL.length = sig.parameters.length)
    (hst : g.stack = argsL.reverse ++ .ref b :: rest) (hd : decode c.code g.pc = .ok (.invokevirtual index, 3)) (hW : 2 * g.monitorRoom + (rest.map fun v => v.category).sum = W0) (hf : rm.frames + 1 ≤ R.frames) (hl : W0 + (maxL + 11) + rm.locals ≤ R.locals) (hc : cells + rm.cells ≤ R.cells) (hs : slots + rm.slots ≤ R.slots)
    (k : ∀ v T' h' L, Stand p l e R s m args below meth c T' (locs ++ L) (cells + rm.cells) (slots + rm.slots) → T'.heap = h' → Q v h' L → W p e below F (T'.setTop { g with pc := g.pc + 3, stack := v.toList ++ rest })) : W p e below F (T.setTop g) := by
  obtain ⟨cq, kq, qa, qb, qc⟩ := isOf hZ eT E
  obtain ⟨v, _, ⟨T', L', k', n'⟩, -, X', ⟨L, hQ, e1, e2, e3⟩, st⟩ := X.virtualBack hx hown (mvT hZ w1) (mvT hZ w5) hnf (mvT hZ w6) (mvT hZ w2) hy (hM.back hZ w4 w3 hf hl) qa qc hg hml (Steps.refl _) (argsL := argsL) (rest := rest) (fun sg q => by cases pd.symm.trans q; exact hlen) hst (Nat.le_of_eq hW) hd (fun _ _ => ⟨has, eT, hc, hs⟩)
  dsimp only [Pt.U, Pt.locs, Pt.cells, Pt.slots] at X' e1 e2 e3 hQ st
  subst e1 e2 e3
  exact W.via st (k v T' _ L X' rfl hQ)
/-- the same, the method declared further up -/
theorem W.callU {C owner : String} (X : Stand p l e R s m args below meth c T locs cells slots) (hx : p.tables.exec = Jvm.exec) (hZ : Z.Warmed39 s.vm) (hown : s.vm.findClass own = some m.cls) (hml : g.locals.size = c.maxLocals)
    (w1 : (Jvm.Cond.methodLink own index y0).before a0 Z = true) (w7 : (Jvm.Cond.sameMethod y0.cls owner y0.name y0.desc).before a0 Z = true) (w5 : (Jvm.Cond.declares ⟨owner, y0.name, y0.desc⟩).before a0 Z = true) (w6 : (Jvm.Cond.selects C y0 y).before a0 Z = true) (w2 : (Jvm.Cond.instanceMethod y).before a0 Z = true) (w3 : (Jvm.Cond.initialized y.cls).before a0 Z = true) (w4 : (Jvm.Cond.code y bytes maxL ret).before a0 Z = true) (eT : T.heap = h)
    (hM : Ctr l Z y bytes maxL ret rm as' h Q) (hy : owner ≠ "java/lang/invoke/MethodHandle" ∧ owner ≠ "java/lang/invoke/VarHandle") (pd : parseMethodDescriptor y0.desc = some sig) (hg : g.method = m) {b : Addr} (E : Exa Z h b C) (has : (Value.ref b :: argsL).toArray = as') (hlen : argsL.length = sig.parameters.length)
    (hst : g.stack = argsL.reverse ++ .ref b :: rest) (hd : decode c.code g.pc = .ok (.invokevirtual index, 3)) (hW : 2 * g.monitorRoom + (rest.map fun v => v.category).sum = W0) (hf : rm.frames + 1 ≤ R.frames) (hl : W0 + (maxL + 11) + rm.locals ≤ R.locals) (hc : cells + rm.cells ≤ R.cells) (hs : slots + rm.slots ≤ R.slots)
    (k : ∀ v T' h' L, Stand p l e R s m args below meth c T' (locs ++ L) (cells + rm.cells) (slots + rm.slots) → T'.heap = h' → Q v h' L → W p e below F (T'.setTop { g with pc := g.pc + 3, stack := v.toList ++ rest })) : W p e below F (T.setTop g) := by
  obtain ⟨cq, kq, qa, qb, qc⟩ := isOf hZ eT E
  obtain ⟨v, _, ⟨T', L', k', n'⟩, -, X', ⟨L, hQ, e1, e2, e3⟩, st⟩ := X.virtualBackUp hx hown (mvT hZ w1) (mvT hZ w7) (mvT hZ w5) hy (mvT hZ w6) (mvT hZ w2) (hM.back hZ w4 w3 hf hl) qa qc hg hml (Steps.refl _) (argsL := argsL) (rest := rest) (fun sg q => by cases pd.symm.trans q; exact hlen) hst (Nat.le_of_eq hW) hd (fun _ _ => ⟨has, eT, hc, hs⟩)
  dsimp only [Pt.U, Pt.locs, Pt.cells, Pt.slots] at X' e1 e2 e3 hQ st
  subst e1 e2 e3
  exact W.via st (k v T' _ L X' rfl hQ)
/-- a method that lands in a default of an interface -/
theorem W.callD {C owner : String} (X : Stand p l e R s m args below meth c T locs cells slots) (hx : p.tables.exec = Jvm.exec) (hZ : Z.Warmed39 s.vm) (hown : s.vm.findClass own = some m.cls) (hml : g.locals.size = c.maxLocals)
    (w1 : (Jvm.Cond.methodLink own index y0).before a0 Z = true) (w7 : (Jvm.Cond.sameMethod y0.cls owner y0.name y0.desc).before a0 Z = true) (w5 : (Jvm.Cond.declares ⟨owner, y0.name, y0.desc⟩).before a0 Z = true) (w6 : (Jvm.Cond.landsInDefault C y0 y).before a0 Z = true) (w2 : (Jvm.Cond.instanceMethod y).before a0 Z = true) (w3 : (Jvm.Cond.initialized y.cls).before a0 Z = true) (w4 : (Jvm.Cond.code y bytes maxL ret).before a0 Z = true) (eT : T.heap = h)
    (hM : Ctr l Z y bytes maxL ret rm as' h Q) (hy : owner ≠ "java/lang/invoke/MethodHandle" ∧ owner ≠ "java/lang/invoke/VarHandle") (pd : parseMethodDescriptor y0.desc = some sig) (hg : g.method = m) {b : Addr} (E : Exa Z h b C) (has : (Value.ref b :: argsL).toArray = as') (hlen : argsL.length = sig.parameters.length)
    (hst : g.stack = argsL.reverse ++ .ref b :: rest) (hd : decode c.code g.pc = .ok (.invokevirtual index, 3)) (hW : 2 * g.monitorRoom + (rest.map fun v => v.category).sum = W0) (hf : rm.frames + 1 ≤ R.frames) (hl : W0 + (maxL + 11) + rm.locals ≤ R.locals) (hc : cells + rm.cells ≤ R.cells) (hs : slots + rm.slots ≤ R.slots)
    (k : ∀ v T' h' L, Stand p l e R s m args below meth c T' (locs ++ L) (cells + rm.cells) (slots + rm.slots) → T'.heap = h' → Q v h' L → W p e below F (T'.setTop { g with pc := g.pc + 3, stack := v.toList ++ rest })) : W p e below F (T.setTop g) := by
  obtain ⟨cq, kq, qa, qb, qc⟩ := isOf hZ eT E
  obtain ⟨v, _, ⟨T', L', k', n'⟩, -, X', ⟨L, hQ, e1, e2, e3⟩, st⟩ := X.virtualBackUpD hx hown (mvT hZ w1) (mvT hZ w7) (mvT hZ w5) hy (mvD hZ w6) (mvT hZ w2) (hM.back hZ w4 w3 hf hl) qa qc hg hml (Steps.refl _) (argsL := argsL) (rest := rest) (fun sg q => by cases pd.symm.trans q; exact hlen) hst (Nat.le_of_eq hW) hd (fun _ _ => ⟨has, eT, hc, hs⟩)
  dsimp only [Pt.U, Pt.locs, Pt.cells, Pt.slots] at X' e1 e2 e3 hQ st
  subst e1 e2 e3
  exact W.via st (k v T' _ L X' rfl hQ)
/-- a call through an interface -/
theorem W.callF {C : String} {count : Nat} (X : Stand p l e R s m args below meth c T locs cells slots) (hx : p.tables.exec = Jvm.exec) (hZ : Z.Warmed39 s.vm) (hown : s.vm.findClass own = some m.cls) (hml : g.locals.size = c.maxLocals)
    (w1 : (Jvm.Cond.methodLink own index y0).before a0 Z = true) (w5 : (Jvm.Cond.declares y0).before a0 Z = true) (w7 : (Jvm.Cond.interfaceMethod y0.cls y0.cls y0.name y0.desc).before args s = true) (w6 : (Jvm.Cond.selects C y0 y).before a0 Z = true) (w2 : (Jvm.Cond.instanceMethod y).before a0 Z = true) (w8 : (Jvm.Cond.publicMethod y).before a0 Z = true) (w9 : (Jvm.Cond.unhidden C y0.name y0.desc).before a0 Z = true) (w10 : (Jvm.Cond.castable C y0.cls).before a0 Z = true) (w3 : (Jvm.Cond.initialized y.cls).before a0 Z = true) (w4 : (Jvm.Cond.code y bytes maxL ret).before a0 Z = true) (eT : T.heap = h)
    (hM : Ctr l Z y bytes maxL ret rm as' h Q) (hy : y0.cls ≠ "java/lang/invoke/MethodHandle" ∧ y0.cls ≠ "java/lang/invoke/VarHandle") (pd : parseMethodDescriptor y0.desc = some sig) (hg : g.method = m) {b : Addr} (E : Exa Z h b C) (has : (Value.ref b :: argsL).toArray = as') (hlen : argsL.length = sig.parameters.length)
    (hst : g.stack = argsL.reverse ++ .ref b :: rest) (hd : decode c.code g.pc = .ok (.invokeinterface index count, 5)) (hW : 2 * g.monitorRoom + (rest.map fun v => v.category).sum = W0) (hf : rm.frames + 1 ≤ R.frames) (hl : W0 + (maxL + 11) + rm.locals ≤ R.locals) (hc : cells + rm.cells ≤ R.cells) (hs : slots + rm.slots ≤ R.slots)
    (k : ∀ v T' h' L, Stand p l e R s m args below meth c T' (locs ++ L) (cells + rm.cells) (slots + rm.slots) → T'.heap = h' → Q v h' L → W p e below F (T'.setTop { g with pc := g.pc + 5, stack := v.toList ++ rest })) : W p e below F (T.setTop g) := by
  obtain ⟨cq, kq, qa, qb, qc⟩ := isOf hZ eT E
  obtain ⟨v, _, ⟨T', L', k', n'⟩, -, X', ⟨L, hQ, e1, e2, e3⟩, st⟩ := X.interfaceBack hx hown (mvT hZ w1) (mvT hZ w5) w7 (mvT hZ w6) (mvT hZ w2) (mvT hZ w8) (mvT hZ w9) (mvT hZ w10) hy (hM.back hZ w4 w3 hf hl) qa qb qc hg hml (Steps.refl _) (argsL := argsL) (rest := rest) (fun sg q => by cases pd.symm.trans q; exact hlen) hst (Nat.le_of_eq hW) hd (fun _ _ => ⟨has, eT, hc, hs⟩)
  dsimp only [Pt.U, Pt.locs, Pt.cells, Pt.slots] at X' e1 e2 e3 hQ st
  subst e1 e2 e3
  exact W.via st (k v T' _ L X' rfl hQ)
/-- super.m(..) -/
theorem W.callSup {K : String} (X : Stand p l e R s m args below meth c T locs cells slots) (hx : p.tables.exec = Jvm.exec) (hZ : Z.Warmed39 s.vm) (hown : s.vm.findClass own = some m.cls) (hml : g.locals.size = c.maxLocals)
    (w1 : (Jvm.Cond.methodLink own index y).before a0 Z = true) (w5 : (Jvm.Cond.sameMethod y.cls y.cls y.name y.desc).before a0 Z = true) (w2 : (Jvm.Cond.instanceMethod y).before a0 Z = true) (w6 : (Jvm.Cond.superclass own y.cls).before a0 Z = true) (w3 : (Jvm.Cond.initialized y.cls).before a0 Z = true) (w4 : (Jvm.Cond.code y bytes maxL ret).before a0 Z = true) (eT : T.heap = h)
    (hM : Ctr l Z y bytes maxL ret rm as' h Q) (hn : y.name ≠ "<init>") (pd : parseMethodDescriptor y.desc = some sig) (hg : g.method = m) {b : Addr} (E : Exa Z h b K) (has : (Value.ref b :: argsL).toArray = as') (hlen : argsL.length = sig.parameters.length)
    (hst : g.stack = argsL.reverse ++ .ref b :: rest) (hd : decode c.code g.pc = .ok (.invokespecial index, 3)) (hW : 2 * g.monitorRoom + (rest.map fun v => v.category).sum = W0) (hf : rm.frames + 1 ≤ R.frames) (hl : W0 + (maxL + 11) + rm.locals ≤ R.locals) (hc : cells + rm.cells ≤ R.cells) (hs : slots + rm.slots ≤ R.slots)
    (k : ∀ v T' h' L, Stand p l e R s m args below meth c T' (locs ++ L) (cells + rm.cells) (slots + rm.slots) → T'.heap = h' → Q v h' L → W p e below F (T'.setTop { g with pc := g.pc + 3, stack := v.toList ++ rest })) : W p e below F (T.setTop g) := by
  obtain ⟨v, _, ⟨T', L', k', n'⟩, -, X', ⟨L, hQ, e1, e2, e3⟩, st⟩ := superBack X hx hZ hown w1 w5 w2 w6 hn (hM.back hZ w4 w3 hf hl) eT (Ins.self E) hg hml w4 (argsL := argsL) (rest := rest) (fun sg q => by cases pd.symm.trans q; exact hlen) hst (Nat.le_of_eq hW) hd (fun _ _ => ⟨has, eT, hc, hs⟩)
  dsimp only [Pt.U, Pt.locs, Pt.cells, Pt.slots] at X' e1 e2 e3 hQ st
  subst e1 e2 e3
  exact W.via st (k v T' _ L X' rfl hQ)
theorem nfOf {C : String} {x z : MethodName} (w6 : (Jvm.Cond.selects C x z).before args s = true) (hz : z.cls = y.cls) : NotFace s y := fun r0 h0 => by
  obtain ⟨c1, r1, m1, -, -, hm, -, kP, hkP, hni⟩ := Cond.selects_spec w6
  have hc := findClass_of_methodNamed h0
  have hc2 := findClass_of_methodNamed hm
  rw [hz] at hc2
  have q : r0.cls = m1.cls := Option.some.inj (hc.symm.trans hc2)
  exact ⟨kP, by rw [q]; exact hkP, hni⟩
/-- a class that declares a method finds it; that she is no interface is read off a 'selects' word that ends in her -/
theorem sameDecl {C : String} {x z : MethodName} (w5 : (Jvm.Cond.declares y).before a0 Z = true) (w6 : (Jvm.Cond.selects C x z).before a0 Z = true) (hz : z.cls = y.cls) (hy : y.cls ≠ "java/lang/invoke/MethodHandle" ∧ y.cls ≠ "java/lang/invoke/VarHandle") : (Jvm.Cond.sameMethod y.cls y.cls y.name y.desc).before a0 Z = true := by
  obtain ⟨r0, r, hn, hrm, -, -⟩ := Cond.declares_spec w5
  have hf : Z.methodFound? y.cls y.name y.desc = some r0 := State.methodFound?_of_named hn hy
  have hc := findClass_of_methodNamed hn
  obtain ⟨c1, r1, m1, -, -, hm, -, kP, hkP, hni⟩ := Cond.selects_spec w6
  have hc2 := findClass_of_methodNamed hm
  rw [hz] at hc2
  have q : r0.cls = m1.cls := Option.some.inj (hc.symm.trans hc2)
  have hn' : Z.methodNamed? ⟨y.cls, y.name, y.desc⟩ = some r0 := hn
  have hk : Z.vm.classes[r0.cls]? = some kP := by rw [q]; exact hkP
  simp [Jvm.Cond.before, Jvm.Cond.holds, Jvm.Cond.value, hc, hf, hn', hk, hni]
/-- a private method by its contract -/
theorem W.callP {cell : Cell} {n : Nat} (X : Stand p l e R s m args below meth c T locs cells slots) (hx : p.tables.exec = Jvm.exec) (hZ : Z.Warmed39 s.vm) (hown : s.vm.findClass own = some m.cls) (hml : g.locals.size = c.maxLocals)
    (w1 : (Jvm.Cond.methodLink own index y).before a0 Z = true) (w5 : (Jvm.Cond.privateMethod y).before a0 Z = true) (w6 : (Jvm.Cond.selects y.cls y y).before args s = true) (w2 : (Jvm.Cond.instanceMethod y).before a0 Z = true) (w3 : (Jvm.Cond.initialized y.cls).before a0 Z = true) (w4 : (Jvm.Cond.code y bytes maxL ret).before a0 Z = true) (eT : T.heap = h)
    (hM : Ctr l Z y bytes maxL ret rm as' h Q) (hy : y.cls ≠ "java/lang/invoke/MethodHandle" ∧ y.cls ≠ "java/lang/invoke/VarHandle") (pd : parseMethodDescriptor y.desc = some sig) (hg : g.method = m) {b : Addr} {C : String} (E : Exa Z h b C) (has : (Value.ref b :: argsL).toArray = as') (hlen : argsL.length = sig.parameters.length)
    (hst : g.stack = argsL.reverse ++ .ref b :: rest) (hd : decode c.code g.pc = .ok (.invokevirtual index, 3)) (hW : 2 * g.monitorRoom + (rest.map fun v => v.category).sum = W0) (hf : rm.frames + 1 ≤ R.frames) (hl : W0 + (maxL + 11) + rm.locals ≤ R.locals) (hc : cells + rm.cells ≤ R.cells) (hs : slots + rm.slots ≤ R.slots)
    (k : ∀ v T' h' L, Stand p l e R s m args below meth c T' (locs ++ L) (cells + rm.cells) (slots + rm.slots) → T'.heap = h' → Q v h' L → W p e below F (T'.setTop { g with pc := g.pc + 3, stack := v.toList ++ rest })) : W p e below F (T.setTop g) := by
  obtain ⟨cq, q1, q2⟩ := E.cell
  obtain ⟨v, _, ⟨T', L', k', n'⟩, -, X', ⟨L, hQ, e1, e2, e3⟩, st⟩ := X.privateBack hx hown (mvT hZ w1) (mvT hZ w2) w6 (Cond.privateMethod_at (mvP hZ w5 (args := #[]))) (mvT hZ w4) hy (hM.back hZ w4 w3 hf hl) hg hml (Steps.refl _) (a := b) (by rw [eT]; exact q1) q2 (argsL := argsL) (rest := rest) (fun sg q => by cases pd.symm.trans q; exact hlen) hst (Nat.le_of_eq hW) hd (fun _ _ => ⟨has, eT, hc, hs⟩)
  dsimp only [Pt.U, Pt.locs, Pt.cells, Pt.slots] at X' e1 e2 e3 hQ st
  subst e1 e2 e3
  exact W.via st (k v T' _ L X' rfl hQ)
/-- 'selects' of a private method -/
theorem selPriv {n : Nat} (hZ : Z.Warmed39 s.vm) (wi : (Jvm.Cond.instantiable y.cls n).before a0 Z = true) (w5 : (Jvm.Cond.privateMethod y).before a0 Z = true) (w2 : (Jvm.Cond.instanceMethod y).before a0 Z = true) (hy : y.cls ≠ "java/lang/invoke/MethodHandle" ∧ y.cls ≠ "java/lang/invoke/VarHandle") : (Jvm.Cond.selects y.cls y y).before args s = true := by
  obtain ⟨c2, k2, i1, i2, -, i4, -⟩ := Cond.instantiable_spec (mvT (args := args) hZ wi)
  exact selects_self_of_private i1 i2 (Bool.or_eq_false_iff.mp i4).1 (Cond.privateMethod_at (mvP hZ w5 (args := #[]))) (mvT hZ w2) hy
end Calls
theorem Sta.keep {h' : Heap} {C n d : String} {v : Value} {ws : List Addr} {n0 : Nat} (F : Sta Z h C n d v) (K : Keep h h' ws) (hw : ∀ x ∈ ws, ∀ cell : Cell, h[x]? = some cell → cell.vm.isStatics = false) : Sta Z h' C n d v := by
  obtain ⟨cf, i, k, f, st, cell, h1, h2, h3, h4, h5, h6, h7⟩ := F
  refine ⟨cf, i, k, f, st, cell, h1, h2, h3, h4, K.2.1 st cell h5 fun hm => ?_, h6, h7⟩
  rw [hw st hm cell h5] at h6; cases h6
theorem eqI_v {t : Term} {k : Int32} {first : State} {o : Option Outcome} {idx : List Nat} (hk : (Jvm.Cond.eq t (.int k)).value args first o s idx = some true) : t.eval args first o idx s = some (.int k) := by
  simp only [Jvm.Cond.value, Term.eval] at hk
  cases ht : t.eval args first o idx s with
  | none => simp [ht] at hk
  | some x => cases x <;> simp [ht] at hk ⊢; exact hk
theorem lenI_v {t : Term} {a : Addr} {cl : Cell} {ty : FieldType} {k : Int32} (A : Arr s s.heap a cl ty) (ev : t.eval args s none [] s = some (.ref a)) (hk : (Jvm.Cond.eq (.length t) (.int k)).value args s none s [] = some true) : cl.slots.size < 2 ^ 31 ∧ cl.slots.size.toInt32 = k := by
  have q := eqI_v hk
  have r : s.arrayAt? a = some cl := A.fin (Vm.Alike.refl _)
  simp only [Term.eval, ev, r, Option.bind_eq_bind, Option.bind_some] at q
  split at q
  · rename_i z; cases q; exact ⟨z, rfl⟩
  · cases q
theorem rngM (x n : Int32) (hn : 0 < n.toInt) : 0 ≤ ((x &&& 2147483647) % n).toInt ∧ ((x &&& 2147483647) % n).toInt < n.toInt := by
  have q := c_mask x 2147483647 31 (by decide) (by decide)
  have q0 : 0 ≤ (x &&& 2147483647).toInt := by rw [q]; exact Int.emod_nonneg _ (by decide)
  have r := (c_iremV (x &&& 2147483647) n).1 q0 hn
  exact ⟨r.1, r.2.1⟩
end Own
end Jvm.OwnKit
namespace Jvm.Pilot.@@N@@
open Jvm Jvm.ClassFile Sem Op Lib Jvm.Free Jvm.Stand Jvm.LawKit Jvm.RoadKit Bundle Jvm.OwnKit Jvm.Pilot.@@N@@.Jvm.D
theorem d1_0 : decode prog_13_method_4_code 0 = .ok (.aload_n 0, 1) := by decide +kernel
theorem d1_1 : decode prog_13_method_4_code 1 = .ok (.getstatic 3, 3) := by decide +kernel
theorem d1_4 : decode prog_13_method_4_code 4 = .ok (.if_acmp .eq 10, 3) := by decide +kernel
theorem d1_14 : decode prog_13_method_4_code 14 = .ok (.iconst 1, 1) := by decide +kernel
theorem d1_15 : decode prog_13_method_4_code 15 = .ok (.goto 4, 3) := by decide +kernel
theorem d1_19 : decode prog_13_method_4_code 19 = .ok (.ireturn, 1) := by decide +kernel
theorem d1_7 : decode prog_13_method_4_code 7 = .ok (.aload_n 0, 1) := by decide +kernel
theorem d1_8 : decode prog_13_method_4_code 8 = .ok (.getstatic 7, 3) := by decide +kernel
theorem d1_11 : decode prog_13_method_4_code 11 = .ok (.if_acmp .ne 7, 3) := by decide +kernel
theorem d1_18 : decode prog_13_method_4_code 18 = .ok (.iconst 0, 1) := by decide +kernel
theorem pn_com_example_facetree_facetree_model_RangeMode : plainName "com/example/facetree/facetree/model/RangeMode" = true := by first | (simp [plainName, overriddenIn]; done) | decide +kernel
def Q_rm1 (Z : State) (r0 : Addr) (w_INCLUSIVE : Addr) (w_EXCLUSIVE : Addr) (z : Int32) (h0 : Heap) (n0 : Nat) (v : Option Value) (h : Heap) (L : List Loc) : Prop := v = some (.int z) ∧ Fr n0 L ∧ h = h0
set_option maxRecDepth 65536 in
set_option maxHeartbeats 40000000 in
theorem rm1 (l : Launch) (Z : State) (a0 : Array Value) (hw : ∀ d ∈ tables_1, d.before a0 Z = true) (r0 : Addr) (w_INCLUSIVE : Addr) (w_EXCLUSIVE : Addr) (z : Int32) (h0 : Heap) (n0 : Nat) (Z0 : n0 ≤ h0.size) (S_INCLUSIVE : Sta Z h0 "com/example/facetree/facetree/model/RangeMode" "INCLUSIVE" "Lcom/example/facetree/facetree/model/RangeMode;" (.ref w_INCLUSIVE)) (S_EXCLUSIVE : Sta Z h0 "com/example/facetree/facetree/model/RangeMode" "EXCLUSIVE" "Lcom/example/facetree/facetree/model/RangeMode;" (.ref w_EXCLUSIVE)) (hz : z = if r0 = w_INCLUSIVE ∨ r0 = w_EXCLUSIVE then (1 : Int32) else 0) :
    Ctr l Z (⟨"com/example/facetree/facetree/model/RangeMode", "takesValue", "()Z"⟩ : MethodName) prog_13_method_4_code 1 (some .boolean) ({ frames := 0, cells := 0, slots := 0, locals := 0 } : Room) #[(.ref r0)] h0 (Q_rm1 Z r0 w_INCLUSIVE w_EXCLUSIVE z h0 n0) := by
  refine Ctr.body (fr := fun m => mkF m 0 #[.val (.ref r0)] []) (plainFor_of_name pn_com_example_facetree_facetree_model_RangeMode) (fun m => by first | (simp [entryFrame, mkF, argsToLocals, Value.category]; done) | rfl) fun p e s m below meth c s₁ hx hby hml hZ hown hnm hret hlk X0 e0 => ?_
  have N0 := Fr.nil n0
  have hown : s.vm.findClass "com/example/facetree/facetree/model/RangeMode" = some m.cls := hown
  show W p e below _ (s₁.setTop (mkF m 0 #[.val (.ref r0)] []))
  refine W.go (fun _ hr => XS.aloadN X0.here hx rfl (hb hby d1_0) rfl rfl hr) ?_
  show W p e below _ (s₁.setTop (mkF m 1 #[.val (.ref r0)] [(.ref r0)]))
  obtain ⟨T1, X1, e1, st1⟩ := getS2 X0 hx hZ hown (host := "") (Or.inl (hw _ (List.mem_of_getElem? (i := 9) rfl))) Via.refl e0 S_INCLUSIVE (g := (mkF m 1 #[.val (.ref r0)] [(.ref r0)])) rfl (hb hby d1_1)
  refine W.go st1 ?_
  show W p e below _ (T1.setTop (mkF m 4 #[.val (.ref r0)] [(.ref w_INCLUSIVE), (.ref r0)]))
  by_cases ha4_2 : r0 = w_INCLUSIVE
  · refine W.go (fun _ hr => Jvm.RoadKit.acmp (g := (mkF m 4 #[.val (.ref r0)] [(.ref w_INCLUSIVE), (.ref r0)])) X1 hx rfl rfl rfl (pc0 := 4) (pc' := 14) (same := true) rfl (hb hby d1_4) rfl (decide_eq_true (congrArg Value.ref ha4_2)) (by decide) (by decide) hr) ?_
    show W p e below _ (T1.setTop (mkF m 14 #[.val (.ref r0)] []))
    refine W.go (fun _ hr => XS.iconst X1.here hx rfl (hb hby d1_14) hr) ?_
    show W p e below _ (T1.setTop (mkF m 15 #[.val (.ref r0)] [(.int (1 : Int32))]))
    refine W.go (fun _ hr => XS.goto X1.here hx rfl (pc0 := 15) (pc' := 19) rfl (hb hby d1_15) (by decide) (by decide) hr) ?_
    show W p e below _ (T1.setTop (mkF m 19 #[.val (.ref r0)] [(.int (1 : Int32))]))
    exact W.retB X1 hx hlk (t := .boolean) hret (by simp) (hb hby d1_19) (by decide) (by decide) e1 ⟨by simp [hz, *, nar], N0, rfl⟩
  · refine W.go (fun _ hr => Jvm.RoadKit.acmp (g := (mkF m 4 #[.val (.ref r0)] [(.ref w_INCLUSIVE), (.ref r0)])) X1 hx rfl rfl rfl (pc0 := 4) (pc' := 7) (same := false) rfl (hb hby d1_4) rfl (decide_eq_false fun q => ha4_2 (Value.ref.inj q)) (by decide) (by decide) hr) ?_
    show W p e below _ (T1.setTop (mkF m 7 #[.val (.ref r0)] []))
    refine W.go (fun _ hr => XS.aloadN X1.here hx rfl (hb hby d1_7) rfl rfl hr) ?_
    show W p e below _ (T1.setTop (mkF m 8 #[.val (.ref r0)] [(.ref r0)]))
    obtain ⟨T3, X3, e3, st3⟩ := getS2 X1 hx hZ hown (host := "") (Or.inl (hw _ (List.mem_of_getElem? (i := 12) rfl))) Via.refl e1 S_EXCLUSIVE (g := (mkF m 8 #[.val (.ref r0)] [(.ref r0)])) rfl (hb hby d1_8)
    refine W.go st3 ?_
    show W p e below _ (T3.setTop (mkF m 11 #[.val (.ref r0)] [(.ref w_EXCLUSIVE), (.ref r0)]))
    by_cases ha11_4 : r0 = w_EXCLUSIVE
    · refine W.go (fun _ hr => Jvm.RoadKit.acmp (g := (mkF m 11 #[.val (.ref r0)] [(.ref w_EXCLUSIVE), (.ref r0)])) X3 hx rfl rfl rfl (pc0 := 11) (pc' := 14) (same := true) rfl (hb hby d1_11) rfl (decide_eq_true (congrArg Value.ref ha11_4)) (by decide) (by decide) hr) ?_
      show W p e below _ (T3.setTop (mkF m 14 #[.val (.ref r0)] []))
      refine W.go (fun _ hr => XS.iconst X3.here hx rfl (hb hby d1_14) hr) ?_
      show W p e below _ (T3.setTop (mkF m 15 #[.val (.ref r0)] [(.int (1 : Int32))]))
      refine W.go (fun _ hr => XS.goto X3.here hx rfl (pc0 := 15) (pc' := 19) rfl (hb hby d1_15) (by decide) (by decide) hr) ?_
      show W p e below _ (T3.setTop (mkF m 19 #[.val (.ref r0)] [(.int (1 : Int32))]))
      exact W.retB X3 hx hlk (t := .boolean) hret (by simp) (hb hby d1_19) (by decide) (by decide) e3 ⟨by simp [hz, *, nar], N0, rfl⟩
    · refine W.go (fun _ hr => Jvm.RoadKit.acmp (g := (mkF m 11 #[.val (.ref r0)] [(.ref w_EXCLUSIVE), (.ref r0)])) X3 hx rfl rfl rfl (pc0 := 11) (pc' := 18) (same := false) rfl (hb hby d1_11) rfl (decide_eq_false fun q => ha11_4 (Value.ref.inj q)) (by decide) (by decide) hr) ?_
      show W p e below _ (T3.setTop (mkF m 18 #[.val (.ref r0)] []))
      refine W.go (fun _ hr => XS.iconst X3.here hx rfl (hb hby d1_18) hr) ?_
      show W p e below _ (T3.setTop (mkF m 19 #[.val (.ref r0)] [(.int (0 : Int32))]))
      exact W.retB X3 hx hlk (t := .boolean) hret (by simp) (hb hby d1_19) (by decide) (by decide) e3 ⟨by simp [hz, *, nar], N0, rfl⟩
theorem pd_11 : parseMethodDescriptor "()Z" = some ⟨[], some .boolean⟩ := by decide +kernel
theorem pn_com_example_facetree_facetree_model_RangeModeTakesValuePinLaw : plainName "com/example/facetree/facetree/model/RangeModeTakesValuePinLaw" = true := by first | (simp [plainName, overriddenIn]; done) | decide +kernel
def Q_rm0 (Z : State) (p0 : Int32) (w_INCLUSIVE : Addr) (w_EXCLUSIVE : Addr) (w_FIRST : Addr) (w_LAST : Addr) (w_LAST_BEFORE_MISSING_VALUES : Addr) (h0 : Heap) (n0 : Nat) (v : Option Value) (h : Heap) (L : List Loc) : Prop := v = some (.int (1 : Int32)) ∧ Fr n0 L
set_option maxRecDepth 65536 in
set_option maxHeartbeats 40000000 in
theorem rm0 (l : Launch) (Z : State) (a0 : Array Value) (hw : ∀ d ∈ tables_1, d.before a0 Z = true) (p0 : Int32) (w_INCLUSIVE : Addr) (w_EXCLUSIVE : Addr) (w_FIRST : Addr) (w_LAST : Addr) (w_LAST_BEFORE_MISSING_VALUES : Addr) (h0 : Heap) (n0 : Nat) (Z0 : n0 ≤ h0.size) (S_INCLUSIVE : Sta Z h0 "com/example/facetree/facetree/model/RangeMode" "INCLUSIVE" "Lcom/example/facetree/facetree/model/RangeMode;" (.ref w_INCLUSIVE)) (S_EXCLUSIVE : Sta Z h0 "com/example/facetree/facetree/model/RangeMode" "EXCLUSIVE" "Lcom/example/facetree/facetree/model/RangeMode;" (.ref w_EXCLUSIVE)) (S_FIRST : Sta Z h0 "com/example/facetree/facetree/model/RangeMode" "FIRST" "Lcom/example/facetree/facetree/model/RangeMode;" (.ref w_FIRST)) (S_LAST : Sta Z h0 "com/example/facetree/facetree/model/RangeMode" "LAST" "Lcom/example/facetree/facetree/model/RangeMode;" (.ref w_LAST)) (S_LAST_BEFORE_MISSING_VALUES : Sta Z h0 "com/example/facetree/facetree/model/RangeMode" "LAST_BEFORE_MISSING_VALUES" "Lcom/example/facetree/facetree/model/RangeMode;" (.ref w_LAST_BEFORE_MISSING_VALUES)) (E_w_INCLUSIVE : Exa Z h0 w_INCLUSIVE "com/example/facetree/facetree/model/RangeMode") (E_w_EXCLUSIVE : Exa Z h0 w_EXCLUSIVE "com/example/facetree/facetree/model/RangeMode") (E_w_FIRST : Exa Z h0 w_FIRST "com/example/facetree/facetree/model/RangeMode") (E_w_LAST : Exa Z h0 w_LAST "com/example/facetree/facetree/model/RangeMode") (E_w_LAST_BEFORE_MISSING_VALUES : Exa Z h0 w_LAST_BEFORE_MISSING_VALUES "com/example/facetree/facetree/model/RangeMode") (ne_FIRST_INCLUSIVE : w_FIRST ≠ w_INCLUSIVE) (ne_FIRST_EXCLUSIVE : w_FIRST ≠ w_EXCLUSIVE) (ne_LAST_INCLUSIVE : w_LAST ≠ w_INCLUSIVE) (ne_LAST_EXCLUSIVE : w_LAST ≠ w_EXCLUSIVE) (ne_LAST_BEFORE_MISSING_VALUES_INCLUSIVE : w_LAST_BEFORE_MISSING_VALUES ≠ w_INCLUSIVE) (ne_LAST_BEFORE_MISSING_VALUES_EXCLUSIVE : w_LAST_BEFORE_MISSING_VALUES ≠ w_EXCLUSIVE) :
    Ctr l Z x code maxLocals ret room_1 #[(.int p0)] h0 (Q_rm0 Z p0 w_INCLUSIVE w_EXCLUSIVE w_FIRST w_LAST w_LAST_BEFORE_MISSING_VALUES h0 n0) := by
  refine Ctr.body (fr := fun m => mkF m 0 #[.val (.int p0), .unset, .unset, .unset] []) (plainFor_of_name pn_com_example_facetree_facetree_model_RangeModeTakesValuePinLaw) (fun m => by first | (simp [entryFrame, mkF, argsToLocals, Value.category, maxLocals]; done) | rfl) fun p e s m below meth c s₁ hx hby hml hZ hown hnm hret hlk X0 e0 => ?_
  have N0 := Fr.nil n0
  have hown : s.vm.findClass "com/example/facetree/facetree/model/RangeModeTakesValuePinLaw" = some m.cls := hown
  show W p e below _ (s₁.setTop (mkF m 0 #[.val (.int p0), .unset, .unset, .unset] []))
  refine W.go (fun _ hr => XS.iloadN X0.here hx rfl (hb hby at_0) rfl hr) ?_
  show W p e below _ (s₁.setTop (mkF m 1 #[.val (.int p0), .unset, .unset, .unset] [(.int p0)]))
  refine W.go (X0.ldcInt hx hown (mvT hZ (hw _ (List.mem_of_getElem? (i := 0) rfl))) (g := (mkF m 1 #[.val (.int p0), .unset, .unset, .unset] [(.int p0)])) rfl (hb hby at_1)) ?_
  show W p e below _ (s₁.setTop (mkF m 3 #[.val (.int p0), .unset, .unset, .unset] [(.int (2147483647 : Int32)), (.int p0)]))
  refine W.go (fun _ hr => XS.iand X0.here hx rfl (hb hby at_3) rfl hr) ?_
  show W p e below _ (s₁.setTop (mkF m 4 #[.val (.int p0), .unset, .unset, .unset] [(.int (p0 &&& (2147483647 : Int32)))]))
  refine W.go (fun _ hr => XS.iconst X0.here hx rfl (hb hby at_4) hr) ?_
  show W p e below _ (s₁.setTop (mkF m 5 #[.val (.int p0), .unset, .unset, .unset] [(.int (5 : Int32)), (.int (p0 &&& (2147483647 : Int32)))]))
  refine W.go (fun _ hr => iremM X0 hx rfl (hb hby at_5) rfl (by decide) hr) ?_
  show W p e below _ (s₁.setTop (mkF m 6 #[.val (.int p0), .unset, .unset, .unset] [(.int ((p0 &&& (2147483647 : Int32)) % (5 : Int32)))]))
  refine W.go (fun _ hr => XS.istoreN X0.here hx rfl (hb hby at_6) rfl (l' := #[.val (.int p0), .val (.int ((p0 &&& (2147483647 : Int32)) % (5 : Int32))), .unset, .unset]) rfl hr) ?_
  show W p e below _ (s₁.setTop (mkF m 7 #[.val (.int p0), .val (.int ((p0 &&& (2147483647 : Int32)) % (5 : Int32))), .unset, .unset] []))
  refine W.go (fun _ hr => XS.iloadN X0.here hx rfl (hb hby at_7) rfl hr) ?_
  show W p e below _ (s₁.setTop (mkF m 8 #[.val (.int p0), .val (.int ((p0 &&& (2147483647 : Int32)) % (5 : Int32))), .unset, .unset] [(.int ((p0 &&& (2147483647 : Int32)) % (5 : Int32)))]))
  by_cases hc8_1 : ((p0 &&& (2147483647 : Int32)) % (5 : Int32)) = (0 : Int32)
  · refine W.go (fun _ hr => XS.ifNo X0.here hx rfl (hb hby at_8) rfl ((if0 _ _).trans (teq hc8_1).2) hr) ?_
    show W p e below _ (s₁.setTop (mkF m 11 #[.val (.int p0), .val (.int ((p0 &&& (2147483647 : Int32)) % (5 : Int32))), .unset, .unset] []))
    obtain ⟨T2, X2, e2, st2⟩ := getS2 X0 hx hZ hown (host := "") (Or.inl (hw _ (List.mem_of_getElem? (i := 1) rfl))) Via.refl e0 S_INCLUSIVE (g := (mkF m 11 #[.val (.int p0), .val (.int ((p0 &&& (2147483647 : Int32)) % (5 : Int32))), .unset, .unset] [])) rfl (hb hby at_11)
    refine W.go st2 ?_
    show W p e below _ (T2.setTop (mkF m 14 #[.val (.int p0), .val (.int ((p0 &&& (2147483647 : Int32)) % (5 : Int32))), .unset, .unset] [(.ref w_INCLUSIVE)]))
    refine W.go (fun _ hr => XS.astoreN X2.here hx rfl (hb hby at_14) rfl rfl (l' := #[.val (.int p0), .val (.int ((p0 &&& (2147483647 : Int32)) % (5 : Int32))), .val (.ref w_INCLUSIVE), .unset]) rfl hr) ?_
    show W p e below _ (T2.setTop (mkF m 15 #[.val (.int p0), .val (.int ((p0 &&& (2147483647 : Int32)) % (5 : Int32))), .val (.ref w_INCLUSIVE), .unset] []))
    refine W.go (fun _ hr => XS.iconst X2.here hx rfl (hb hby at_15) hr) ?_
    show W p e below _ (T2.setTop (mkF m 16 #[.val (.int p0), .val (.int ((p0 &&& (2147483647 : Int32)) % (5 : Int32))), .val (.ref w_INCLUSIVE), .unset] [(.int (1 : Int32))]))
    refine W.go (fun _ hr => XS.istoreN X2.here hx rfl (hb hby at_16) rfl (l' := #[.val (.int p0), .val (.int ((p0 &&& (2147483647 : Int32)) % (5 : Int32))), .val (.ref w_INCLUSIVE), .val (.int (1 : Int32))]) rfl hr) ?_
    show W p e below _ (T2.setTop (mkF m 17 #[.val (.int p0), .val (.int ((p0 &&& (2147483647 : Int32)) % (5 : Int32))), .val (.ref w_INCLUSIVE), .val (.int (1 : Int32))] []))
    refine W.go (fun _ hr => XS.goto X2.here hx rfl (pc0 := 17) (pc' := 68) rfl (hb hby at_17) (by decide) (by decide) hr) ?_
    show W p e below _ (T2.setTop (mkF m 68 #[.val (.int p0), .val (.int ((p0 &&& (2147483647 : Int32)) % (5 : Int32))), .val (.ref w_INCLUSIVE), .val (.int (1 : Int32))] []))
    refine W.go (fun _ hr => XS.aloadN X2.here hx rfl (hb hby at_68) rfl rfl hr) ?_
    show W p e below _ (T2.setTop (mkF m 69 #[.val (.int p0), .val (.int ((p0 &&& (2147483647 : Int32)) % (5 : Int32))), .val (.ref w_INCLUSIVE), .val (.int (1 : Int32))] [(.ref w_INCLUSIVE)]))
    refine W.callV X2 hx hZ hown (g := (mkF m 69 #[.val (.int p0), .val (.int ((p0 &&& (2147483647 : Int32)) % (5 : Int32))), .val (.ref w_INCLUSIVE), .val (.int (1 : Int32))] [(.ref w_INCLUSIVE)])) (by rw [hml]; rfl) (hw _ (List.mem_of_getElem? (i := 4) rfl)) (hw _ (List.mem_of_getElem? (i := 5) rfl)) (hw _ (List.mem_of_getElem? (i := 7) rfl)) (hw _ (List.mem_of_getElem? (i := 6) rfl)) (hw _ (List.mem_of_getElem? (i := 2) rfl)) (hw _ (List.mem_of_getElem? (i := 8) rfl)) e2 (rm1 l Z a0 hw w_INCLUSIVE w_INCLUSIVE w_EXCLUSIVE (1 : Int32) h0 n0 Z0 S_INCLUSIVE S_EXCLUSIVE (by simp)) (notFace_of_selects (args := #[]) (mvT hZ (hw _ (List.mem_of_getElem? (i := 7) rfl)))) (by decide) pd_11 rfl E_w_INCLUSIVE (argsL := []) (rest := []) rfl rfl rfl (hb hby at_69) (W0 := 0) rfl (by decide) (by decide) (by decide) (by decide) (fun v3 T3 h3 L3 X3 e3 hQ3 => ?_)
    obtain ⟨rfl, N3q, hh3⟩ := hQ3
    obtain rfl := hh3.symm
    have N3 := Fr.app N0 N3q
    show W p e below _ (T3.setTop (mkF m 72 #[.val (.int p0), .val (.int ((p0 &&& (2147483647 : Int32)) % (5 : Int32))), .val (.ref w_INCLUSIVE), .val (.int (1 : Int32))] [(.int (1 : Int32))]))
    refine W.go (fun _ hr => XS.iloadN X3.here hx rfl (hb hby at_72) rfl hr) ?_
    show W p e below _ (T3.setTop (mkF m 73 #[.val (.int p0), .val (.int ((p0 &&& (2147483647 : Int32)) % (5 : Int32))), .val (.ref w_INCLUSIVE), .val (.int (1 : Int32))] [(.int (1 : Int32)), (.int (1 : Int32))]))
    refine W.go (fun _ hr => XS.icmpNo X3.here hx rfl (hb hby at_73) rfl (teq (by decide : ((1 : Int32) = (1 : Int32)))).2 hr) ?_
    show W p e below _ (T3.setTop (mkF m 76 #[.val (.int p0), .val (.int ((p0 &&& (2147483647 : Int32)) % (5 : Int32))), .val (.ref w_INCLUSIVE), .val (.int (1 : Int32))] []))
    refine W.go (fun _ hr => XS.iconst X3.here hx rfl (hb hby at_76) hr) ?_
    show W p e below _ (T3.setTop (mkF m 77 #[.val (.int p0), .val (.int ((p0 &&& (2147483647 : Int32)) % (5 : Int32))), .val (.ref w_INCLUSIVE), .val (.int (1 : Int32))] [(.int (1 : Int32))]))
    refine W.go (fun _ hr => XS.goto X3.here hx rfl (pc0 := 77) (pc' := 81) rfl (hb hby at_77) (by decide) (by decide) hr) ?_
    show W p e below _ (T3.setTop (mkF m 81 #[.val (.int p0), .val (.int ((p0 &&& (2147483647 : Int32)) % (5 : Int32))), .val (.ref w_INCLUSIVE), .val (.int (1 : Int32))] [(.int (1 : Int32))]))
    exact W.retB X3 hx hlk (t := .boolean) hret (by simp) (hb hby at_81) (by decide) (by decide) e3 ⟨rfl, N3⟩
  · refine W.go (fun _ hr => XS.ifYes X0.here hx rfl (pc0 := 8) (pc' := 20) rfl (hb hby at_8) rfl ((if0 _ _).trans (feq hc8_1).2) (by decide) (by decide) hr) ?_
    show W p e below _ (s₁.setTop (mkF m 20 #[.val (.int p0), .val (.int ((p0 &&& (2147483647 : Int32)) % (5 : Int32))), .unset, .unset] []))
    refine W.go (fun _ hr => XS.iloadN X0.here hx rfl (hb hby at_20) rfl hr) ?_
    show W p e below _ (s₁.setTop (mkF m 21 #[.val (.int p0), .val (.int ((p0 &&& (2147483647 : Int32)) % (5 : Int32))), .unset, .unset] [(.int ((p0 &&& (2147483647 : Int32)) % (5 : Int32)))]))
    refine W.go (fun _ hr => XS.iconst X0.here hx rfl (hb hby at_21) hr) ?_
    show W p e below _ (s₁.setTop (mkF m 22 #[.val (.int p0), .val (.int ((p0 &&& (2147483647 : Int32)) % (5 : Int32))), .unset, .unset] [(.int (1 : Int32)), (.int ((p0 &&& (2147483647 : Int32)) % (5 : Int32)))]))
    by_cases hc22_4 : ((p0 &&& (2147483647 : Int32)) % (5 : Int32)) = (1 : Int32)
    · refine W.go (fun _ hr => XS.icmpNo X0.here hx rfl (hb hby at_22) rfl (teq hc22_4).2 hr) ?_
      show W p e below _ (s₁.setTop (mkF m 25 #[.val (.int p0), .val (.int ((p0 &&& (2147483647 : Int32)) % (5 : Int32))), .unset, .unset] []))
      obtain ⟨T5, X5, e5, st5⟩ := getS2 X0 hx hZ hown (host := "") (Or.inl (hw _ (List.mem_of_getElem? (i := 14) rfl))) Via.refl e0 S_EXCLUSIVE (g := (mkF m 25 #[.val (.int p0), .val (.int ((p0 &&& (2147483647 : Int32)) % (5 : Int32))), .unset, .unset] [])) rfl (hb hby at_25)
      refine W.go st5 ?_
      show W p e below _ (T5.setTop (mkF m 28 #[.val (.int p0), .val (.int ((p0 &&& (2147483647 : Int32)) % (5 : Int32))), .unset, .unset] [(.ref w_EXCLUSIVE)]))
      refine W.go (fun _ hr => XS.astoreN X5.here hx rfl (hb hby at_28) rfl rfl (l' := #[.val (.int p0), .val (.int ((p0 &&& (2147483647 : Int32)) % (5 : Int32))), .val (.ref w_EXCLUSIVE), .unset]) rfl hr) ?_
      show W p e below _ (T5.setTop (mkF m 29 #[.val (.int p0), .val (.int ((p0 &&& (2147483647 : Int32)) % (5 : Int32))), .val (.ref w_EXCLUSIVE), .unset] []))
      refine W.go (fun _ hr => XS.iconst X5.here hx rfl (hb hby at_29) hr) ?_
      show W p e below _ (T5.setTop (mkF m 30 #[.val (.int p0), .val (.int ((p0 &&& (2147483647 : Int32)) % (5 : Int32))), .val (.ref w_EXCLUSIVE), .unset] [(.int (1 : Int32))]))
      refine W.go (fun _ hr => XS.istoreN X5.here hx rfl (hb hby at_30) rfl (l' := #[.val (.int p0), .val (.int ((p0 &&& (2147483647 : Int32)) % (5 : Int32))), .val (.ref w_EXCLUSIVE), .val (.int (1 : Int32))]) rfl hr) ?_
      show W p e below _ (T5.setTop (mkF m 31 #[.val (.int p0), .val (.int ((p0 &&& (2147483647 : Int32)) % (5 : Int32))), .val (.ref w_EXCLUSIVE), .val (.int (1 : Int32))] []))
      refine W.go (fun _ hr => XS.goto X5.here hx rfl (pc0 := 31) (pc' := 68) rfl (hb hby at_31) (by decide) (by decide) hr) ?_
      show W p e below _ (T5.setTop (mkF m 68 #[.val (.int p0), .val (.int ((p0 &&& (2147483647 : Int32)) % (5 : Int32))), .val (.ref w_EXCLUSIVE), .val (.int (1 : Int32))] []))
      refine W.go (fun _ hr => XS.aloadN X5.here hx rfl (hb hby at_68) rfl rfl hr) ?_
      show W p e below _ (T5.setTop (mkF m 69 #[.val (.int p0), .val (.int ((p0 &&& (2147483647 : Int32)) % (5 : Int32))), .val (.ref w_EXCLUSIVE), .val (.int (1 : Int32))] [(.ref w_EXCLUSIVE)]))
      refine W.callV X5 hx hZ hown (g := (mkF m 69 #[.val (.int p0), .val (.int ((p0 &&& (2147483647 : Int32)) % (5 : Int32))), .val (.ref w_EXCLUSIVE), .val (.int (1 : Int32))] [(.ref w_EXCLUSIVE)])) (by rw [hml]; rfl) (hw _ (List.mem_of_getElem? (i := 4) rfl)) (hw _ (List.mem_of_getElem? (i := 5) rfl)) (hw _ (List.mem_of_getElem? (i := 7) rfl)) (hw _ (List.mem_of_getElem? (i := 6) rfl)) (hw _ (List.mem_of_getElem? (i := 2) rfl)) (hw _ (List.mem_of_getElem? (i := 8) rfl)) e5 (rm1 l Z a0 hw w_EXCLUSIVE w_INCLUSIVE w_EXCLUSIVE (1 : Int32) h0 n0 Z0 S_INCLUSIVE S_EXCLUSIVE (by simp)) (notFace_of_selects (args := #[]) (mvT hZ (hw _ (List.mem_of_getElem? (i := 7) rfl)))) (by decide) pd_11 rfl E_w_EXCLUSIVE (argsL := []) (rest := []) rfl rfl rfl (hb hby at_69) (W0 := 0) rfl (by decide) (by decide) (by decide) (by decide) (fun v6 T6 h6 L6 X6 e6 hQ6 => ?_)
      obtain ⟨rfl, N6q, hh6⟩ := hQ6
      obtain rfl := hh6.symm
      have N6 := Fr.app N0 N6q
      show W p e below _ (T6.setTop (mkF m 72 #[.val (.int p0), .val (.int ((p0 &&& (2147483647 : Int32)) % (5 : Int32))), .val (.ref w_EXCLUSIVE), .val (.int (1 : Int32))] [(.int (1 : Int32))]))
      refine W.go (fun _ hr => XS.iloadN X6.here hx rfl (hb hby at_72) rfl hr) ?_
      show W p e below _ (T6.setTop (mkF m 73 #[.val (.int p0), .val (.int ((p0 &&& (2147483647 : Int32)) % (5 : Int32))), .val (.ref w_EXCLUSIVE), .val (.int (1 : Int32))] [(.int (1 : Int32)), (.int (1 : Int32))]))
      refine W.go (fun _ hr => XS.icmpNo X6.here hx rfl (hb hby at_73) rfl (teq (by decide : ((1 : Int32) = (1 : Int32)))).2 hr) ?_
      show W p e below _ (T6.setTop (mkF m 76 #[.val (.int p0), .val (.int ((p0 &&& (2147483647 : Int32)) % (5 : Int32))), .val (.ref w_EXCLUSIVE), .val (.int (1 : Int32))] []))
      refine W.go (fun _ hr => XS.iconst X6.here hx rfl (hb hby at_76) hr) ?_
      show W p e below _ (T6.setTop (mkF m 77 #[.val (.int p0), .val (.int ((p0 &&& (2147483647 : Int32)) % (5 : Int32))), .val (.ref w_EXCLUSIVE), .val (.int (1 : Int32))] [(.int (1 : Int32))]))
      refine W.go (fun _ hr => XS.goto X6.here hx rfl (pc0 := 77) (pc' := 81) rfl (hb hby at_77) (by decide) (by decide) hr) ?_
      show W p e below _ (T6.setTop (mkF m 81 #[.val (.int p0), .val (.int ((p0 &&& (2147483647 : Int32)) % (5 : Int32))), .val (.ref w_EXCLUSIVE), .val (.int (1 : Int32))] [(.int (1 : Int32))]))
      exact W.retB X6 hx hlk (t := .boolean) hret (by simp) (hb hby at_81) (by decide) (by decide) e6 ⟨rfl, N6⟩
    · refine W.go (fun _ hr => XS.icmpYes X0.here hx rfl (pc0 := 22) (pc' := 34) rfl (hb hby at_22) rfl (feq hc22_4).2 (by decide) (by decide) hr) ?_
      show W p e below _ (s₁.setTop (mkF m 34 #[.val (.int p0), .val (.int ((p0 &&& (2147483647 : Int32)) % (5 : Int32))), .unset, .unset] []))
      refine W.go (fun _ hr => XS.iloadN X0.here hx rfl (hb hby at_34) rfl hr) ?_
      show W p e below _ (s₁.setTop (mkF m 35 #[.val (.int p0), .val (.int ((p0 &&& (2147483647 : Int32)) % (5 : Int32))), .unset, .unset] [(.int ((p0 &&& (2147483647 : Int32)) % (5 : Int32)))]))
      refine W.go (fun _ hr => XS.iconst X0.here hx rfl (hb hby at_35) hr) ?_
      show W p e below _ (s₁.setTop (mkF m 36 #[.val (.int p0), .val (.int ((p0 &&& (2147483647 : Int32)) % (5 : Int32))), .unset, .unset] [(.int (2 : Int32)), (.int ((p0 &&& (2147483647 : Int32)) % (5 : Int32)))]))
      by_cases hc36_7 : ((p0 &&& (2147483647 : Int32)) % (5 : Int32)) = (2 : Int32)
      · refine W.go (fun _ hr => XS.icmpNo X0.here hx rfl (hb hby at_36) rfl (teq hc36_7).2 hr) ?_
        show W p e below _ (s₁.setTop (mkF m 39 #[.val (.int p0), .val (.int ((p0 &&& (2147483647 : Int32)) % (5 : Int32))), .unset, .unset] []))
        obtain ⟨T8, X8, e8, st8⟩ := getS2 X0 hx hZ hown (host := "") (Or.inl (hw _ (List.mem_of_getElem? (i := 17) rfl))) Via.refl e0 S_FIRST (g := (mkF m 39 #[.val (.int p0), .val (.int ((p0 &&& (2147483647 : Int32)) % (5 : Int32))), .unset, .unset] [])) rfl (hb hby at_39)
        refine W.go st8 ?_
        show W p e below _ (T8.setTop (mkF m 42 #[.val (.int p0), .val (.int ((p0 &&& (2147483647 : Int32)) % (5 : Int32))), .unset, .unset] [(.ref w_FIRST)]))
        refine W.go (fun _ hr => XS.astoreN X8.here hx rfl (hb hby at_42) rfl rfl (l' := #[.val (.int p0), .val (.int ((p0 &&& (2147483647 : Int32)) % (5 : Int32))), .val (.ref w_FIRST), .unset]) rfl hr) ?_
        show W p e below _ (T8.setTop (mkF m 43 #[.val (.int p0), .val (.int ((p0 &&& (2147483647 : Int32)) % (5 : Int32))), .val (.ref w_FIRST), .unset] []))
        refine W.go (fun _ hr => XS.iconst X8.here hx rfl (hb hby at_43) hr) ?_
        show W p e below _ (T8.setTop (mkF m 44 #[.val (.int p0), .val (.int ((p0 &&& (2147483647 : Int32)) % (5 : Int32))), .val (.ref w_FIRST), .unset] [(.int (0 : Int32))]))
        refine W.go (fun _ hr => XS.istoreN X8.here hx rfl (hb hby at_44) rfl (l' := #[.val (.int p0), .val (.int ((p0 &&& (2147483647 : Int32)) % (5 : Int32))), .val (.ref w_FIRST), .val (.int (0 : Int32))]) rfl hr) ?_
        show W p e below _ (T8.setTop (mkF m 45 #[.val (.int p0), .val (.int ((p0 &&& (2147483647 : Int32)) % (5 : Int32))), .val (.ref w_FIRST), .val (.int (0 : Int32))] []))
        refine W.go (fun _ hr => XS.goto X8.here hx rfl (pc0 := 45) (pc' := 68) rfl (hb hby at_45) (by decide) (by decide) hr) ?_
        show W p e below _ (T8.setTop (mkF m 68 #[.val (.int p0), .val (.int ((p0 &&& (2147483647 : Int32)) % (5 : Int32))), .val (.ref w_FIRST), .val (.int (0 : Int32))] []))
        refine W.go (fun _ hr => XS.aloadN X8.here hx rfl (hb hby at_68) rfl rfl hr) ?_
        show W p e below _ (T8.setTop (mkF m 69 #[.val (.int p0), .val (.int ((p0 &&& (2147483647 : Int32)) % (5 : Int32))), .val (.ref w_FIRST), .val (.int (0 : Int32))] [(.ref w_FIRST)]))
        refine W.callV X8 hx hZ hown (g := (mkF m 69 #[.val (.int p0), .val (.int ((p0 &&& (2147483647 : Int32)) % (5 : Int32))), .val (.ref w_FIRST), .val (.int (0 : Int32))] [(.ref w_FIRST)])) (by rw [hml]; rfl) (hw _ (List.mem_of_getElem? (i := 4) rfl)) (hw _ (List.mem_of_getElem? (i := 5) rfl)) (hw _ (List.mem_of_getElem? (i := 7) rfl)) (hw _ (List.mem_of_getElem? (i := 6) rfl)) (hw _ (List.mem_of_getElem? (i := 2) rfl)) (hw _ (List.mem_of_getElem? (i := 8) rfl)) e8 (rm1 l Z a0 hw w_FIRST w_INCLUSIVE w_EXCLUSIVE (0 : Int32) h0 n0 Z0 S_INCLUSIVE S_EXCLUSIVE (by simp [ne_FIRST_INCLUSIVE, ne_FIRST_EXCLUSIVE])) (notFace_of_selects (args := #[]) (mvT hZ (hw _ (List.mem_of_getElem? (i := 7) rfl)))) (by decide) pd_11 rfl E_w_FIRST (argsL := []) (rest := []) rfl rfl rfl (hb hby at_69) (W0 := 0) rfl (by decide) (by decide) (by decide) (by decide) (fun v9 T9 h9 L9 X9 e9 hQ9 => ?_)
        obtain ⟨rfl, N9q, hh9⟩ := hQ9
        obtain rfl := hh9.symm
        have N9 := Fr.app N0 N9q
        show W p e below _ (T9.setTop (mkF m 72 #[.val (.int p0), .val (.int ((p0 &&& (2147483647 : Int32)) % (5 : Int32))), .val (.ref w_FIRST), .val (.int (0 : Int32))] [(.int (0 : Int32))]))
        refine W.go (fun _ hr => XS.iloadN X9.here hx rfl (hb hby at_72) rfl hr) ?_
        show W p e below _ (T9.setTop (mkF m 73 #[.val (.int p0), .val (.int ((p0 &&& (2147483647 : Int32)) % (5 : Int32))), .val (.ref w_FIRST), .val (.int (0 : Int32))] [(.int (0 : Int32)), (.int (0 : Int32))]))
        refine W.go (fun _ hr => XS.icmpNo X9.here hx rfl (hb hby at_73) rfl (teq (by decide : ((0 : Int32) = (0 : Int32)))).2 hr) ?_
        show W p e below _ (T9.setTop (mkF m 76 #[.val (.int p0), .val (.int ((p0 &&& (2147483647 : Int32)) % (5 : Int32))), .val (.ref w_FIRST), .val (.int (0 : Int32))] []))
        refine W.go (fun _ hr => XS.iconst X9.here hx rfl (hb hby at_76) hr) ?_
        show W p e below _ (T9.setTop (mkF m 77 #[.val (.int p0), .val (.int ((p0 &&& (2147483647 : Int32)) % (5 : Int32))), .val (.ref w_FIRST), .val (.int (0 : Int32))] [(.int (1 : Int32))]))
        refine W.go (fun _ hr => XS.goto X9.here hx rfl (pc0 := 77) (pc' := 81) rfl (hb hby at_77) (by decide) (by decide) hr) ?_
        show W p e below _ (T9.setTop (mkF m 81 #[.val (.int p0), .val (.int ((p0 &&& (2147483647 : Int32)) % (5 : Int32))), .val (.ref w_FIRST), .val (.int (0 : Int32))] [(.int (1 : Int32))]))
        exact W.retB X9 hx hlk (t := .boolean) hret (by simp) (hb hby at_81) (by decide) (by decide) e9 ⟨rfl, N9⟩
      · refine W.go (fun _ hr => XS.icmpYes X0.here hx rfl (pc0 := 36) (pc' := 48) rfl (hb hby at_36) rfl (feq hc36_7).2 (by decide) (by decide) hr) ?_
        show W p e below _ (s₁.setTop (mkF m 48 #[.val (.int p0), .val (.int ((p0 &&& (2147483647 : Int32)) % (5 : Int32))), .unset, .unset] []))
        refine W.go (fun _ hr => XS.iloadN X0.here hx rfl (hb hby at_48) rfl hr) ?_
        show W p e below _ (s₁.setTop (mkF m 49 #[.val (.int p0), .val (.int ((p0 &&& (2147483647 : Int32)) % (5 : Int32))), .unset, .unset] [(.int ((p0 &&& (2147483647 : Int32)) % (5 : Int32)))]))
        refine W.go (fun _ hr => XS.iconst X0.here hx rfl (hb hby at_49) hr) ?_
        show W p e below _ (s₁.setTop (mkF m 50 #[.val (.int p0), .val (.int ((p0 &&& (2147483647 : Int32)) % (5 : Int32))), .unset, .unset] [(.int (3 : Int32)), (.int ((p0 &&& (2147483647 : Int32)) % (5 : Int32)))]))
        by_cases hc50_10 : ((p0 &&& (2147483647 : Int32)) % (5 : Int32)) = (3 : Int32)
        · refine W.go (fun _ hr => XS.icmpNo X0.here hx rfl (hb hby at_50) rfl (teq hc50_10).2 hr) ?_
          show W p e below _ (s₁.setTop (mkF m 53 #[.val (.int p0), .val (.int ((p0 &&& (2147483647 : Int32)) % (5 : Int32))), .unset, .unset] []))
          obtain ⟨T11, X11, e11, st11⟩ := getS2 X0 hx hZ hown (host := "") (Or.inl (hw _ (List.mem_of_getElem? (i := 10) rfl))) Via.refl e0 S_LAST (g := (mkF m 53 #[.val (.int p0), .val (.int ((p0 &&& (2147483647 : Int32)) % (5 : Int32))), .unset, .unset] [])) rfl (hb hby at_53)
          refine W.go st11 ?_
          show W p e below _ (T11.setTop (mkF m 56 #[.val (.int p0), .val (.int ((p0 &&& (2147483647 : Int32)) % (5 : Int32))), .unset, .unset] [(.ref w_LAST)]))
          refine W.go (fun _ hr => XS.astoreN X11.here hx rfl (hb hby at_56) rfl rfl (l' := #[.val (.int p0), .val (.int ((p0 &&& (2147483647 : Int32)) % (5 : Int32))), .val (.ref w_LAST), .unset]) rfl hr) ?_
          show W p e below _ (T11.setTop (mkF m 57 #[.val (.int p0), .val (.int ((p0 &&& (2147483647 : Int32)) % (5 : Int32))), .val (.ref w_LAST), .unset] []))
          refine W.go (fun _ hr => XS.iconst X11.here hx rfl (hb hby at_57) hr) ?_
          show W p e below _ (T11.setTop (mkF m 58 #[.val (.int p0), .val (.int ((p0 &&& (2147483647 : Int32)) % (5 : Int32))), .val (.ref w_LAST), .unset] [(.int (0 : Int32))]))
          refine W.go (fun _ hr => XS.istoreN X11.here hx rfl (hb hby at_58) rfl (l' := #[.val (.int p0), .val (.int ((p0 &&& (2147483647 : Int32)) % (5 : Int32))), .val (.ref w_LAST), .val (.int (0 : Int32))]) rfl hr) ?_
          show W p e below _ (T11.setTop (mkF m 59 #[.val (.int p0), .val (.int ((p0 &&& (2147483647 : Int32)) % (5 : Int32))), .val (.ref w_LAST), .val (.int (0 : Int32))] []))
          refine W.go (fun _ hr => XS.goto X11.here hx rfl (pc0 := 59) (pc' := 68) rfl (hb hby at_59) (by decide) (by decide) hr) ?_
          show W p e below _ (T11.setTop (mkF m 68 #[.val (.int p0), .val (.int ((p0 &&& (2147483647 : Int32)) % (5 : Int32))), .val (.ref w_LAST), .val (.int (0 : Int32))] []))
          refine W.go (fun _ hr => XS.aloadN X11.here hx rfl (hb hby at_68) rfl rfl hr) ?_
          show W p e below _ (T11.setTop (mkF m 69 #[.val (.int p0), .val (.int ((p0 &&& (2147483647 : Int32)) % (5 : Int32))), .val (.ref w_LAST), .val (.int (0 : Int32))] [(.ref w_LAST)]))
          refine W.callV X11 hx hZ hown (g := (mkF m 69 #[.val (.int p0), .val (.int ((p0 &&& (2147483647 : Int32)) % (5 : Int32))), .val (.ref w_LAST), .val (.int (0 : Int32))] [(.ref w_LAST)])) (by rw [hml]; rfl) (hw _ (List.mem_of_getElem? (i := 4) rfl)) (hw _ (List.mem_of_getElem? (i := 5) rfl)) (hw _ (List.mem_of_getElem? (i := 7) rfl)) (hw _ (List.mem_of_getElem? (i := 6) rfl)) (hw _ (List.mem_of_getElem? (i := 2) rfl)) (hw _ (List.mem_of_getElem? (i := 8) rfl)) e11 (rm1 l Z a0 hw w_LAST w_INCLUSIVE w_EXCLUSIVE (0 : Int32) h0 n0 Z0 S_INCLUSIVE S_EXCLUSIVE (by simp [ne_LAST_INCLUSIVE, ne_LAST_EXCLUSIVE])) (notFace_of_selects (args := #[]) (mvT hZ (hw _ (List.mem_of_getElem? (i := 7) rfl)))) (by decide) pd_11 rfl E_w_LAST (argsL := []) (rest := []) rfl rfl rfl (hb hby at_69) (W0 := 0) rfl (by decide) (by decide) (by decide) (by decide) (fun v12 T12 h12 L12 X12 e12 hQ12 => ?_)
          obtain ⟨rfl, N12q, hh12⟩ := hQ12
          obtain rfl := hh12.symm
          have N12 := Fr.app N0 N12q
          show W p e below _ (T12.setTop (mkF m 72 #[.val (.int p0), .val (.int ((p0 &&& (2147483647 : Int32)) % (5 : Int32))), .val (.ref w_LAST), .val (.int (0 : Int32))] [(.int (0 : Int32))]))
          refine W.go (fun _ hr => XS.iloadN X12.here hx rfl (hb hby at_72) rfl hr) ?_
          show W p e below _ (T12.setTop (mkF m 73 #[.val (.int p0), .val (.int ((p0 &&& (2147483647 : Int32)) % (5 : Int32))), .val (.ref w_LAST), .val (.int (0 : Int32))] [(.int (0 : Int32)), (.int (0 : Int32))]))
          refine W.go (fun _ hr => XS.icmpNo X12.here hx rfl (hb hby at_73) rfl (teq (by decide : ((0 : Int32) = (0 : Int32)))).2 hr) ?_
          show W p e below _ (T12.setTop (mkF m 76 #[.val (.int p0), .val (.int ((p0 &&& (2147483647 : Int32)) % (5 : Int32))), .val (.ref w_LAST), .val (.int (0 : Int32))] []))
          refine W.go (fun _ hr => XS.iconst X12.here hx rfl (hb hby at_76) hr) ?_
          show W p e below _ (T12.setTop (mkF m 77 #[.val (.int p0), .val (.int ((p0 &&& (2147483647 : Int32)) % (5 : Int32))), .val (.ref w_LAST), .val (.int (0 : Int32))] [(.int (1 : Int32))]))
          refine W.go (fun _ hr => XS.goto X12.here hx rfl (pc0 := 77) (pc' := 81) rfl (hb hby at_77) (by decide) (by decide) hr) ?_
          show W p e below _ (T12.setTop (mkF m 81 #[.val (.int p0), .val (.int ((p0 &&& (2147483647 : Int32)) % (5 : Int32))), .val (.ref w_LAST), .val (.int (0 : Int32))] [(.int (1 : Int32))]))
          exact W.retB X12 hx hlk (t := .boolean) hret (by simp) (hb hby at_81) (by decide) (by decide) e12 ⟨rfl, N12⟩
        · refine W.go (fun _ hr => XS.icmpYes X0.here hx rfl (pc0 := 50) (pc' := 62) rfl (hb hby at_50) rfl (feq hc50_10).2 (by decide) (by decide) hr) ?_
          show W p e below _ (s₁.setTop (mkF m 62 #[.val (.int p0), .val (.int ((p0 &&& (2147483647 : Int32)) % (5 : Int32))), .unset, .unset] []))
          obtain ⟨T13, X13, e13, st13⟩ := getS2 X0 hx hZ hown (host := "") (Or.inl (hw _ (List.mem_of_getElem? (i := 15) rfl))) Via.refl e0 S_LAST_BEFORE_MISSING_VALUES (g := (mkF m 62 #[.val (.int p0), .val (.int ((p0 &&& (2147483647 : Int32)) % (5 : Int32))), .unset, .unset] [])) rfl (hb hby at_62)
          refine W.go st13 ?_
          show W p e below _ (T13.setTop (mkF m 65 #[.val (.int p0), .val (.int ((p0 &&& (2147483647 : Int32)) % (5 : Int32))), .unset, .unset] [(.ref w_LAST_BEFORE_MISSING_VALUES)]))
          refine W.go (fun _ hr => XS.astoreN X13.here hx rfl (hb hby at_65) rfl rfl (l' := #[.val (.int p0), .val (.int ((p0 &&& (2147483647 : Int32)) % (5 : Int32))), .val (.ref w_LAST_BEFORE_MISSING_VALUES), .unset]) rfl hr) ?_
          show W p e below _ (T13.setTop (mkF m 66 #[.val (.int p0), .val (.int ((p0 &&& (2147483647 : Int32)) % (5 : Int32))), .val (.ref w_LAST_BEFORE_MISSING_VALUES), .unset] []))
          refine W.go (fun _ hr => XS.iconst X13.here hx rfl (hb hby at_66) hr) ?_
          show W p e below _ (T13.setTop (mkF m 67 #[.val (.int p0), .val (.int ((p0 &&& (2147483647 : Int32)) % (5 : Int32))), .val (.ref w_LAST_BEFORE_MISSING_VALUES), .unset] [(.int (0 : Int32))]))
          refine W.go (fun _ hr => XS.istoreN X13.here hx rfl (hb hby at_67) rfl (l' := #[.val (.int p0), .val (.int ((p0 &&& (2147483647 : Int32)) % (5 : Int32))), .val (.ref w_LAST_BEFORE_MISSING_VALUES), .val (.int (0 : Int32))]) rfl hr) ?_
          show W p e below _ (T13.setTop (mkF m 68 #[.val (.int p0), .val (.int ((p0 &&& (2147483647 : Int32)) % (5 : Int32))), .val (.ref w_LAST_BEFORE_MISSING_VALUES), .val (.int (0 : Int32))] []))
          refine W.go (fun _ hr => XS.aloadN X13.here hx rfl (hb hby at_68) rfl rfl hr) ?_
          show W p e below _ (T13.setTop (mkF m 69 #[.val (.int p0), .val (.int ((p0 &&& (2147483647 : Int32)) % (5 : Int32))), .val (.ref w_LAST_BEFORE_MISSING_VALUES), .val (.int (0 : Int32))] [(.ref w_LAST_BEFORE_MISSING_VALUES)]))
          refine W.callV X13 hx hZ hown (g := (mkF m 69 #[.val (.int p0), .val (.int ((p0 &&& (2147483647 : Int32)) % (5 : Int32))), .val (.ref w_LAST_BEFORE_MISSING_VALUES), .val (.int (0 : Int32))] [(.ref w_LAST_BEFORE_MISSING_VALUES)])) (by rw [hml]; rfl) (hw _ (List.mem_of_getElem? (i := 4) rfl)) (hw _ (List.mem_of_getElem? (i := 5) rfl)) (hw _ (List.mem_of_getElem? (i := 7) rfl)) (hw _ (List.mem_of_getElem? (i := 6) rfl)) (hw _ (List.mem_of_getElem? (i := 2) rfl)) (hw _ (List.mem_of_getElem? (i := 8) rfl)) e13 (rm1 l Z a0 hw w_LAST_BEFORE_MISSING_VALUES w_INCLUSIVE w_EXCLUSIVE (0 : Int32) h0 n0 Z0 S_INCLUSIVE S_EXCLUSIVE (by simp [ne_LAST_BEFORE_MISSING_VALUES_INCLUSIVE, ne_LAST_BEFORE_MISSING_VALUES_EXCLUSIVE])) (notFace_of_selects (args := #[]) (mvT hZ (hw _ (List.mem_of_getElem? (i := 7) rfl)))) (by decide) pd_11 rfl E_w_LAST_BEFORE_MISSING_VALUES (argsL := []) (rest := []) rfl rfl rfl (hb hby at_69) (W0 := 0) rfl (by decide) (by decide) (by decide) (by decide) (fun v14 T14 h14 L14 X14 e14 hQ14 => ?_)
          obtain ⟨rfl, N14q, hh14⟩ := hQ14
          obtain rfl := hh14.symm
          have N14 := Fr.app N0 N14q
          show W p e below _ (T14.setTop (mkF m 72 #[.val (.int p0), .val (.int ((p0 &&& (2147483647 : Int32)) % (5 : Int32))), .val (.ref w_LAST_BEFORE_MISSING_VALUES), .val (.int (0 : Int32))] [(.int (0 : Int32))]))
          refine W.go (fun _ hr => XS.iloadN X14.here hx rfl (hb hby at_72) rfl hr) ?_
          show W p e below _ (T14.setTop (mkF m 73 #[.val (.int p0), .val (.int ((p0 &&& (2147483647 : Int32)) % (5 : Int32))), .val (.ref w_LAST_BEFORE_MISSING_VALUES), .val (.int (0 : Int32))] [(.int (0 : Int32)), (.int (0 : Int32))]))
          refine W.go (fun _ hr => XS.icmpNo X14.here hx rfl (hb hby at_73) rfl (teq (by decide : ((0 : Int32) = (0 : Int32)))).2 hr) ?_
          show W p e below _ (T14.setTop (mkF m 76 #[.val (.int p0), .val (.int ((p0 &&& (2147483647 : Int32)) % (5 : Int32))), .val (.ref w_LAST_BEFORE_MISSING_VALUES), .val (.int (0 : Int32))] []))
          refine W.go (fun _ hr => XS.iconst X14.here hx rfl (hb hby at_76) hr) ?_
          show W p e below _ (T14.setTop (mkF m 77 #[.val (.int p0), .val (.int ((p0 &&& (2147483647 : Int32)) % (5 : Int32))), .val (.ref w_LAST_BEFORE_MISSING_VALUES), .val (.int (0 : Int32))] [(.int (1 : Int32))]))
          refine W.go (fun _ hr => XS.goto X14.here hx rfl (pc0 := 77) (pc' := 81) rfl (hb hby at_77) (by decide) (by decide) hr) ?_
          show W p e below _ (T14.setTop (mkF m 81 #[.val (.int p0), .val (.int ((p0 &&& (2147483647 : Int32)) % (5 : Int32))), .val (.ref w_LAST_BEFORE_MISSING_VALUES), .val (.int (0 : Int32))] [(.int (1 : Int32))]))
          exact W.retB X14 hx hlk (t := .boolean) hret (by simp) (hb hby at_81) (by decide) (by decide) e14 ⟨rfl, N14⟩
set_option maxRecDepth 65536 in
set_option maxHeartbeats 40000000 in
theorem comes_1 {Post : Tables → Env → Array Value → State → Outcome → State → Prop} (hpost : ∀ tb e args s v u, (limb_1_1.after args s (.returned v) u = true ∧ limb_1_2.after args s (.returned v) u = true ∧ True) → FrameEnd s (.returned v) u (Jvm.fieldLocs frame_1_writes args s ++ Jvm.arrayLocs frame_1_arrays args s ++ Jvm.staticLocs frame_1_statics s) 0 0 → Post tb e args s (.returned v) u) :
    ArmFor flags0 classFile x code maxLocals ret World_1 tables_1 room_1 Calls_1 rest_1 Pre_1 Post := by
  intro l hfl _ _ p e ha hc hk s m args below hf hA hF happ hP
  obtain ⟨hcalls, hrest, hpre⟩ := hP
  obtain ⟨-, -, -, hnamed, -, -, -, hat⟩ := (Spec.applies_iff hf).mp happ
  obtain ⟨hg, hn⟩ := and_e (Cond.before_iff.mp (show (Jvm.Cond.and given_1 narrow_1).before args s = true from hpre))
  obtain ⟨c1, c2⟩ := and_e hg
  obtain ⟨c3, c4⟩ := and_e hn
  obtain ⟨c5, c6⟩ := and_e c4
  obtain ⟨c7, c8⟩ := and_e c6
  obtain ⟨c9, c10⟩ := and_e c8
  obtain ⟨c11, c12⟩ := and_e c10
  obtain ⟨c13, c14⟩ := and_e c12
  obtain ⟨c15, c16⟩ := and_e c14
  obtain ⟨c17, c18⟩ := and_e c16
  obtain ⟨c19, c20⟩ := and_e c18
  obtain ⟨w0, rfl⟩ : ∃ w0 : Value, args = #[w0] := by
    have hs : args.size = 1 := by simpa [Cond.value, given_1] using c1
    obtain ⟨L⟩ := args
    match L, hs with
    | [w0], _ => exact ⟨w0, rfl⟩
  have hw := fun d (hd : d ∈ tables_1) => atoms_spec (ws := Jvm.Cond.code x code maxLocals ret :: tables_1) hat d (List.mem_cons_of_mem _ hd)
  have hfit : Fit s := fun {y c} hc i hi => by
    obtain ⟨ha, rfl⟩ := Array.getElem?_eq_some_iff.mp hc
    have q := List.all_eq_true.mp ((Array.all_eq_true_iff_forall_mem.mp hF) _ (Array.getElem_mem ha)) i (List.mem_range.mpr hi)
    simpa [Array.getElem?_eq_getElem hi] using q
  obtain ⟨i0, ei0⟩ := is_v c2
  obtain rfl : w0 = (.int i0) := Option.some.inj ei0
  obtain ⟨w_INCLUSIVE, ev_INCLUSIVE⟩ := exa_v c3
  have E_INCLUSIVE := Exa.start ev_INCLUSIVE c3
  have S_INCLUSIVE := Sta.start ev_INCLUSIVE (Or.inr ⟨(hw _ (List.mem_of_getElem? (i := 2) rfl)), (hw _ (List.mem_of_getElem? (i := 3) rfl))⟩)
  obtain ⟨w_LAST, ev_LAST⟩ := exa_v c5
  have E_LAST := Exa.start ev_LAST c5
  have S_LAST := Sta.start ev_LAST (Or.inr ⟨(hw _ (List.mem_of_getElem? (i := 2) rfl)), (hw _ (List.mem_of_getElem? (i := 11) rfl))⟩)
  have F_LAST_ordinal := Fld.start ((fld_at ev_LAST).symm.trans (eqI_v c7))
  have F_INCLUSIVE_ordinal := Fld.start ((fld_at ev_INCLUSIVE).symm.trans (eqI_v c9))
  obtain ⟨w_EXCLUSIVE, ev_EXCLUSIVE⟩ := exa_v c11
  have E_EXCLUSIVE := Exa.start ev_EXCLUSIVE c11
  have S_EXCLUSIVE := Sta.start ev_EXCLUSIVE (Or.inr ⟨(hw _ (List.mem_of_getElem? (i := 2) rfl)), (hw _ (List.mem_of_getElem? (i := 13) rfl))⟩)
  have F_EXCLUSIVE_ordinal := Fld.start ((fld_at ev_EXCLUSIVE).symm.trans (eqI_v c13))
  obtain ⟨w_LAST_BEFORE_MISSING_VALUES, ev_LAST_BEFORE_MISSING_VALUES⟩ := exa_v c15
  have E_LAST_BEFORE_MISSING_VALUES := Exa.start ev_LAST_BEFORE_MISSING_VALUES c15
  have S_LAST_BEFORE_MISSING_VALUES := Sta.start ev_LAST_BEFORE_MISSING_VALUES (Or.inr ⟨(hw _ (List.mem_of_getElem? (i := 2) rfl)), (hw _ (List.mem_of_getElem? (i := 16) rfl))⟩)
  have F_LAST_BEFORE_MISSING_VALUES_ordinal := Fld.start ((fld_at ev_LAST_BEFORE_MISSING_VALUES).symm.trans (eqI_v c17))
  obtain ⟨w_FIRST, ev_FIRST⟩ := exa_v c19
  have E_FIRST := Exa.start ev_FIRST c19
  have S_FIRST := Sta.start ev_FIRST (Or.inr ⟨(hw _ (List.mem_of_getElem? (i := 2) rfl)), (hw _ (List.mem_of_getElem? (i := 18) rfl))⟩)
  have F_FIRST_ordinal := Fld.start ((fld_at ev_FIRST).symm.trans (eqI_v c20))
  obtain ⟨n, o, h1, h2, h3, _, L, rfl, ⟨rfl, N⟩, hq⟩ := rm0 l s _ hw i0 w_INCLUSIVE w_EXCLUSIVE w_FIRST w_LAST w_LAST_BEFORE_MISSING_VALUES s.heap s.heap.size (Nat.le_refl _) S_INCLUSIVE S_EXCLUSIVE S_FIRST S_LAST S_LAST_BEFORE_MISSING_VALUES E_INCLUSIVE E_EXCLUSIVE E_FIRST E_LAST E_LAST_BEFORE_MISSING_VALUES (Fld.ne F_FIRST_ordinal F_INCLUSIVE_ordinal fun q => absurd (Value.int.inj q) (by decide)) (Fld.ne F_FIRST_ordinal F_EXCLUSIVE_ordinal fun q => absurd (Value.int.inj q) (by decide)) (Fld.ne F_LAST_ordinal F_INCLUSIVE_ordinal fun q => absurd (Value.int.inj q) (by decide)) (Fld.ne F_LAST_ordinal F_EXCLUSIVE_ordinal fun q => absurd (Value.int.inj q) (by decide)) (Fld.ne F_LAST_BEFORE_MISSING_VALUES_ordinal F_INCLUSIVE_ordinal fun q => absurd (Value.int.inj q) (by decide)) (Fld.ne F_LAST_BEFORE_MISSING_VALUES_ordinal F_EXCLUSIVE_ordinal fun q => absurd (Value.int.inj q) (by decide)) tables_1 p e ha hc hk s m _ below hf ((Spec.applies_iff_loose hf).mp happ).1 ⟨rfl, State.Warmed39.refl s, rfl⟩ trivial
  refine ⟨n, _, h1, h2, h3, hpost _ _ _ _ _ _ ⟨Cond.after_iff.mpr rfl, Cond.after_iff.mpr (eq_i res_at (Term.int_eval (1)) rfl), trivial⟩ ⟨hq.1, hq.2.1, (hq.2.2.sift fun y hy => Or.inr (N y hy)).mono (by decide) (by decide)⟩⟩
theorem main_1_1 : Claimed_1_1 := comes_1 fun _ _ _ _ _ _ h hF => ⟨h.1, hF⟩
theorem main_1_2 : Claimed_1_2 := comes_1 fun _ _ _ _ _ _ h hF => ⟨h.2.1, hF⟩
end Jvm.Pilot.@@N@@
namespace Jvm.Pilot.@@N@@
open Jvm Jvm.ClassFile Sem Op Lib Jvm.Free Jvm.Stand Jvm.Pilot.@@N@@.Jvm.D
/-! MADE BY PROGRAM (witnessworld.py) out of the Statement's table words and the real class files: 12 classes; the members and pool entries that the words name. The judged class is class 1, her method 1. -/
namespace start1
open Jvm.ClassFile
def u (s : String) : CpInfo := .utf8 (stringToUtf16 s)
/-- a pool by its gaps: so many unusable entries, then the entry; so many at the end -/
def gap : Nat → List CpInfo → List CpInfo
  | 0, r => r
  | n + 1, r => .unusable :: gap n r
def poolList (es : List (Nat × CpInfo)) (last : Nat) : List CpInfo := es.foldr (fun e r => gap e.1 (e.2 :: r)) (gap last [])
def pool (es : List (Nat × CpInfo)) (last : Nat) : Array CpInfo := ⟨poolList es last⟩
def fileOf (pool : Array CpInfo) (this : Nat) (attrs : Array Attribute := #[]) (ms : Array MethodInfo := #[]) (fl : Nat := 33) (sup : Nat := 0) (ifs : Array Nat := #[]) (fds : Array FieldInfo := #[]) : ClassFile where
  minorVersion := 0
  majorVersion := 65
  constantPool := pool
  accessFlags := fl
  thisClass := this
  superClass := sup
  interfaces := ifs
  fields := fds
  methods := ms
  attributes := attrs
def plain (name : String) (sup : Option ClassId) : Class where
  name := name
  kind := .ordinary
  loader := none
  accessFlags := 33
  super := sup
  interfaces := #[]
  cf := none
  fields := #[]
  methods := #[]
  instanceTypes := #[]
  staticTypes := #[]
  resolved := #[]
  callSites := []
  init := .initialized
  statics := none
  mirror := none

def pool0 : Array CpInfo := pool [(5, u "<init>"), (0, u "()V"), (1, .class_ 10), (1, u "java/lang/Object")] 113

def k0m0 : Method := { name := "<init>", desc := "()V", sig := { parameters := [], returnType := none }, accessFlags := 1, code := none }
/-- java/lang/Object -/
def k0 : Class := { plain "java/lang/Object" none with
  accessFlags := 33
  interfaces := #[]
  cf := some (fileOf pool0 8 #[] #[{ accessFlags := 1, nameIndex := 5, descriptorIndex := 6, attributes := #[] }] 33 0 #[] #[])
  fields := #[]
  methods := #[k0m0]
  instanceTypes := #[]
  staticTypes := #[]
  resolved := Array.replicate 124 none
  statics := none }

def pool1 : Array CpInfo := pool [(2, .class_ 4), (1, u "java/lang/Object"), (0, u "<init>"), (0, u "()V"), (0, .integer 2147483647), (0, .fieldref 9 10), (0, .class_ 11), (0, .nameAndType 12 13), (0, u "com/example/facetree/facetree/model/RangeMode"), (0, u "INCLUSIVE"), (0, u "Lcom/example/facetree/facetree/model/RangeMode;"), (0, .fieldref 9 15), (0, .nameAndType 16 13), (0, u "EXCLUSIVE"), (0, .fieldref 9 18), (0, .nameAndType 19 13), (0, u "FIRST"), (0, .fieldref 9 21), (0, .nameAndType 22 13), (0, u "LAST"), (0, .fieldref 9 24), (0, .nameAndType 25 13), (0, u "LAST_BEFORE_MISSING_VALUES"), (0, .methodref 9 27), (0, .nameAndType 28 29), (0, u "takesValue"), (0, u "()Z"), (0, .class_ 31), (0, u "com/example/facetree/facetree/model/RangeModeTakesValuePinLaw"), (2, u "law"), (0, u "(I)Z")] 3

def k1m0 : Method := { name := "<init>", desc := "()V", sig := { parameters := [], returnType := none }, accessFlags := 1, code := none }
def k1c1 : Code := { maxStack := 2, maxLocals := 4, code := code, exceptionTable := #[], attributes := #[] }
def k1m1 : Method := { name := "law", desc := "(I)Z", sig := { parameters := [.int], returnType := some .boolean }, accessFlags := 9, code := some k1c1 }
/-- com/example/facetree/facetree/model/RangeModeTakesValuePinLaw -/
def k1 : Class := { plain "com/example/facetree/facetree/model/RangeModeTakesValuePinLaw" (some 0) with
  accessFlags := 49
  interfaces := #[]
  cf := some (fileOf pool1 30 #[] #[{ accessFlags := 1, nameIndex := 5, descriptorIndex := 6, attributes := #[] }, { accessFlags := 9, nameIndex := 34, descriptorIndex := 35, attributes := #[] }] 49 2 #[] #[])
  fields := #[]
  methods := #[k1m0, k1m1]
  instanceTypes := #[]
  staticTypes := #[]
  resolved := Array.replicate 39 none
  statics := none }

def pool2 : Array CpInfo := pool [(1, .class_ 2), (0, u "java/lang/constant/Constable"), (0, .class_ 4), (0, u "java/lang/Object")] 6

/-- java/lang/constant/Constable -/
def k2 : Class := { plain "java/lang/constant/Constable" (some 0) with
  accessFlags := 1537
  interfaces := #[]
  cf := some (fileOf pool2 1 #[] #[] 1537 3 #[] #[])
  fields := #[]
  methods := #[]
  instanceTypes := #[]
  staticTypes := #[]
  resolved := Array.replicate 11 none
  statics := none }

def pool3 : Array CpInfo := pool [(1, .class_ 2), (0, u "java/lang/Comparable"), (0, .class_ 4), (0, u "java/lang/Object")] 7

/-- java/lang/Comparable -/
def k3 : Class := { plain "java/lang/Comparable" (some 0) with
  accessFlags := 1537
  interfaces := #[]
  cf := some (fileOf pool3 1 #[] #[] 1537 3 #[] #[])
  fields := #[]
  methods := #[]
  instanceTypes := #[]
  staticTypes := #[]
  resolved := Array.replicate 12 none
  statics := none }

def pool4 : Array CpInfo := pool [(1, .class_ 2), (0, u "java/io/Serializable"), (0, .class_ 4), (0, u "java/lang/Object")] 2

/-- java/io/Serializable -/
def k4 : Class := { plain "java/io/Serializable" (some 0) with
  accessFlags := 1537
  interfaces := #[]
  cf := some (fileOf pool4 1 #[] #[] 1537 3 #[] #[])
  fields := #[]
  methods := #[]
  instanceTypes := #[]
  staticTypes := #[]
  resolved := Array.replicate 7 none
  statics := none }

def pool5 : Array CpInfo := pool [(2, .class_ 4), (1, u "java/lang/Enum"), (0, u "name"), (0, u "Ljava/lang/String;"), (2, u "ordinal"), (0, u "I"), (1, .class_ 14), (1, u "java/lang/Object"), (4, u "hash"), (86, .class_ 108), (1, u "java/lang/Enum$EnumDesc"), (2, .class_ 112), (0, u "java/lang/constant/Constable"), (0, .class_ 114), (0, u "java/lang/Comparable"), (0, .class_ 116), (0, u "java/io/Serializable")] 87

/-- java/lang/Enum -/
def k5 : Class := { plain "java/lang/Enum" (some 0) with
  accessFlags := 1057
  interfaces := #[2, 3, 4]
  cf := some (fileOf pool5 2 #[.nestMembers #[106]] #[] 1057 12 #[111, 113, 115] #[{ accessFlags := 18, nameIndex := 5, descriptorIndex := 6, attributes := #[] }, { accessFlags := 18, nameIndex := 9, descriptorIndex := 10, attributes := #[] }, { accessFlags := 2, nameIndex := 19, descriptorIndex := 10, attributes := #[] }])
  fields := #[{ name := "name", type := (.object "java/lang/String"), accessFlags := 18, slot := 0, constantValue := 0 }, { name := "ordinal", type := .int, accessFlags := 18, slot := 1, constantValue := 0 }, { name := "hash", type := .int, accessFlags := 2, slot := 2, constantValue := 0 }]
  methods := #[]
  instanceTypes := #[(.object "java/lang/String"), .int, .int]
  staticTypes := #[]
  resolved := Array.replicate 204 none
  statics := none }

def pool6 : Array CpInfo := pool [(1, .class_ 2), (0, u "com/example/facetree/facetree/model/RangeMode"), (0, .fieldref 1 4), (0, .nameAndType 5 6), (0, u "INCLUSIVE"), (0, u "Lcom/example/facetree/facetree/model/RangeMode;"), (0, .fieldref 1 8), (0, .nameAndType 9 6), (0, u "EXCLUSIVE"), (2, u "FIRST"), (2, u "LAST"), (2, u "LAST_BEFORE_MISSING_VALUES"), (2, u "$VALUES"), (0, u "[Lcom/example/facetree/facetree/model/RangeMode;"), (6, .class_ 31), (1, u "java/lang/Enum"), (32, u "takesValue"), (0, u "()Z")] 6

def k6c0 : Code := { maxStack := 2, maxLocals := 1, code := prog_13_method_4_code, exceptionTable := #[], attributes := #[] }
def k6m0 : Method := { name := "takesValue", desc := "()Z", sig := { parameters := [], returnType := some .boolean }, accessFlags := 1, code := some k6c0 }
/-- com/example/facetree/facetree/model/RangeMode -/
def k6 : Class := { plain "com/example/facetree/facetree/model/RangeMode" (some 5) with
  accessFlags := 16433
  interfaces := #[]
  cf := some (fileOf pool6 1 #[] #[{ accessFlags := 1, nameIndex := 64, descriptorIndex := 65, attributes := #[] }] 16433 29 #[] #[{ accessFlags := 16409, nameIndex := 5, descriptorIndex := 6, attributes := #[] }, { accessFlags := 16409, nameIndex := 9, descriptorIndex := 6, attributes := #[] }, { accessFlags := 16409, nameIndex := 12, descriptorIndex := 6, attributes := #[] }, { accessFlags := 16409, nameIndex := 15, descriptorIndex := 6, attributes := #[] }, { accessFlags := 16409, nameIndex := 18, descriptorIndex := 6, attributes := #[] }, { accessFlags := 4122, nameIndex := 21, descriptorIndex := 22, attributes := #[] }])
  fields := #[{ name := "INCLUSIVE", type := (.object "com/example/facetree/facetree/model/RangeMode"), accessFlags := 16409, slot := 0, constantValue := 0 }, { name := "EXCLUSIVE", type := (.object "com/example/facetree/facetree/model/RangeMode"), accessFlags := 16409, slot := 1, constantValue := 0 }, { name := "FIRST", type := (.object "com/example/facetree/facetree/model/RangeMode"), accessFlags := 16409, slot := 2, constantValue := 0 }, { name := "LAST", type := (.object "com/example/facetree/facetree/model/RangeMode"), accessFlags := 16409, slot := 3, constantValue := 0 }, { name := "LAST_BEFORE_MISSING_VALUES", type := (.object "com/example/facetree/facetree/model/RangeMode"), accessFlags := 16409, slot := 4, constantValue := 0 }, { name := "$VALUES", type := (.array (.object "com/example/facetree/facetree/model/RangeMode")), accessFlags := 4122, slot := 5, constantValue := 0 }]
  methods := #[k6m0]
  instanceTypes := #[(.object "java/lang/String"), .int, .int]
  staticTypes := #[(.object "com/example/facetree/facetree/model/RangeMode"), (.object "com/example/facetree/facetree/model/RangeMode"), (.object "com/example/facetree/facetree/model/RangeMode"), (.object "com/example/facetree/facetree/model/RangeMode"), (.object "com/example/facetree/facetree/model/RangeMode"), (.array (.object "com/example/facetree/facetree/model/RangeMode"))]
  resolved := Array.replicate 72 none
  statics := some 0 }

def pool7 : Array CpInfo := pool [(1, u "java/lang/Cloneable"), (0, .class_ 1), (0, u "java/lang/Object"), (0, .class_ 3)] 3

/-- java/lang/Cloneable -/
def k7 : Class := { plain "java/lang/Cloneable" (some 0) with
  accessFlags := 1537
  interfaces := #[]
  cf := some (fileOf pool7 2 #[] #[] 1537 4 #[] #[])
  fields := #[]
  methods := #[]
  instanceTypes := #[]
  staticTypes := #[]
  resolved := Array.replicate 8 none
  statics := none }

/-- the primitive byte -/
def k8 : Class := { plain "byte" none with kind := .primitive 'B', accessFlags := 0x411 }
/-- [B -/
def k9 : Class := { plain "[B" (some 0) with kind := .array 8 .byte, interfaces := #[7, 4], accessFlags := 1041 }

/-- the primitive int -/
def k10 : Class := { plain "int" none with kind := .primitive 'I', accessFlags := 0x411 }
/-- [I -/
def k11 : Class := { plain "[I" (some 0) with kind := .array 10 .int, interfaces := #[7, 4], accessFlags := 1041 }

def heap : Heap := #[{ cls := 6, slots := #[.ref 1, .ref 2, .ref 3, .ref 4, .ref 5, .null], vm := .statics 6 },
  { cls := 6, slots := #[.null, .int 0, .int 0], vm := .none },
  { cls := 6, slots := #[.null, .int 1, .int 0], vm := .none },
  { cls := 6, slots := #[.null, .int 2, .int 0], vm := .none },
  { cls := 6, slots := #[.null, .int 3, .int 0], vm := .none },
  { cls := 6, slots := #[.null, .int 4, .int 0], vm := .none }]
def classes : Array Class := #[k0, k1, k2, k3, k4, k5, k6, k7, k8, k9, k10, k11]
def interned : List (Array UInt16 × Addr) := []
def slotsUsed : Nat := 21
def theMethod : MethodId := ⟨1, 1⟩
def args0 : Array Value := #[.int 5]
def aboutOver (below : List Frame) : State where
  vm := { classes := classes, interned := interned.toArray }
  heap := heap
  slotsUsed := slotsUsed
  threads := #[{ frames := .invoking theMethod args0 :: below }]
def below0 : List Frame := [.native { method := ⟨0, 0⟩, args := #[] }]
def about1 : State := aboutOver below0
def p0 : Program := .bare "" "" ""
def e0 : Env := launch0.env 0 0 0
theorem w_frames : about1.frames = Frame.invoking theMethod args0 :: below0 := rfl
set_option maxRecDepth 65536 in
theorem w_args : argsFit about1.vm theMethod args0 = true := by decide +kernel
set_option maxRecDepth 65536 in
theorem w_heap : heapFits about1 = true := by decide +kernel
set_option maxRecDepth 65536 in
theorem w_runnable : about1.curStatus? = some .runnable := by decide +kernel
set_option maxRecDepth 65536 in
theorem w_alone : about1.alone = true := by decide +kernel
set_option maxRecDepth 65536 in
theorem w_named : about1.methodNamed? x = some theMethod := by decide +kernel
set_option maxRecDepth 65536 in
theorem w_hears : about1.hears theMethod below0 = true := by decide +kernel
set_option maxRecDepth 65536 in
theorem w_ripe : about1.ripe theMethod args0 below0 = true := by decide +kernel
theorem w_running : about1.status = .running := rfl
set_option maxRecDepth 65536 in
theorem w_room : about1.hasRoom e0.platform room_1 = true :=
  launch0.hasRoom_least _ room_1 (by decide +kernel) (by decide +kernel) (by decide +kernel) (by decide +kernel) (by decide +kernel) (by decide +kernel)
theorem allAtoms_all (ts : List Jvm.Cond) (a : Array Jvm.Value) (st : Jvm.State) : (allAtoms ts).before a st = ts.all (fun c => c.before a st) := by
  induction ts with
  | nil => rfl
  | cons c t ih =>
    show (Jvm.Cond.and c (allAtoms t)).before a st = _
    rw [Jvm.Cond.before_and, ih, List.all_cons]
def words1 : List Jvm.Cond := Jvm.Cond.code x code maxLocals ret :: tables_1
/-- a 'code' word, met by the world's own term for the bytes: nothing is compared byte by byte -/
theorem code_word {y : MethodName} {bytes : ByteArray} {mx : Nat} {rt : Option FieldType} {a : Array Value} {s : State} {m : MethodId} {meth : Method} {c : Code} (h1 : s.methodNamed? y = some m) (h2 : s.vm.method? m = some meth) (h3 : meth.code = some c) (h4 : c.code = bytes)
    (h5 : (c.maxLocals == mx && c.exceptionTable.isEmpty && decide (c.maxStack ≤ mostOperands) && decide (meth.sig.returnType = rt) && !meth.locks && decide (parseMethodDescriptor y.desc = some meth.sig)) = true) : (Jvm.Cond.code y bytes mx rt).before a s = true := by
  simp only [Bool.and_eq_true, beq_iff_eq, Bool.not_eq_true', decide_eq_true_eq] at h5
  obtain ⟨⟨⟨⟨⟨g1, g2⟩, g3⟩, g4⟩, g5⟩, g6⟩ := h5
  simp [Cond.before, Cond.holds, Cond.value, h1, h2, h3, h4, g1, g2, g3, g4, g5, g6]
def isCode : Jvm.Cond → Bool
  | .code _ _ _ _ => true
  | _ => false
theorem all_split {L : List Jvm.Cond} {P : Jvm.Cond → Bool} (h1 : L.all (fun c => isCode c || P c) = true) (h2 : ∀ c ∈ L.filter isCode, P c = true) : L.all P = true := by
  refine List.all_eq_true.mpr fun c hc => ?_
  have h := List.all_eq_true.mp h1 c hc
  rcases Bool.eq_false_or_eq_true (isCode c) with hi | hi
  · exact h2 c (List.mem_filter.mpr ⟨hc, hi⟩)
  · simpa [hi] using h
set_option maxRecDepth 65536 in
theorem w_c0 : (Jvm.Cond.code x code maxLocals ret).before args0 about1 = true := code_word (m := ⟨1, 1⟩) (meth := k1m1) (c := k1c1) (by decide +kernel) rfl rfl rfl (by decide +kernel)
set_option maxRecDepth 65536 in
theorem w_c1 : (Jvm.Cond.code ({ cls := "com/example/facetree/facetree/model/RangeMode", name := "takesValue", desc := "()Z" } : Jvm.MethodName) prog_13_method_4_code (1 : Nat) (Option.some Jvm.ClassFile.FieldType.boolean)).before args0 about1 = true := code_word (m := ⟨6, 0⟩) (meth := k6m0) (c := k6c0) (by decide +kernel) rfl rfl rfl (by decide +kernel)
def codes1 : List Jvm.Cond := [Jvm.Cond.code x code maxLocals ret, Jvm.Cond.code ({ cls := "com/example/facetree/facetree/model/RangeMode", name := "takesValue", desc := "()Z" } : Jvm.MethodName) prog_13_method_4_code (1 : Nat) (Option.some Jvm.ClassFile.FieldType.boolean)]
set_option maxRecDepth 65536 in
theorem codes_eq : words1.filter isCode = codes1 := rfl
theorem w_codes : ∀ c ∈ words1.filter isCode, c.before args0 about1 = true := by
  rw [codes_eq]
  intro c hc
  simp only [codes1, List.mem_cons, List.not_mem_nil, or_false] at hc
  rcases hc with rfl | rfl
  · exact w_c0
  · exact w_c1
set_option maxRecDepth 65536 in
theorem w_t1 : words1.all (fun c => isCode c || c.before args0 about1) = true := by decide +kernel
theorem w_tables : (allAtoms (Jvm.Cond.code x code maxLocals ret :: tables_1)).before args0 about1 = true := by
  rw [allAtoms_all]
  show words1.all (fun c => c.before args0 about1) = true
  refine all_split ?_ w_codes
  rw [w_t1]
set_option maxRecDepth 65536 in
theorem w_case : (Jvm.Cond.and given_1 narrow_1).before args0 about1 = true := by decide +kernel
theorem w_applies : (headSpec (Jvm.Cond.code x code maxLocals ret :: tables_1) room_1).applies x e0.platform about1 = true :=
  (Spec.applies_iff w_frames).mpr ⟨w_running, w_runnable, w_alone, w_named, w_hears, w_ripe, w_room, w_tables⟩
theorem atStart : AtStart classFile x code maxLocals ret World_1 tables_1 room_1 Calls_1 rest_1 Pre_1 launch0 p0 e0 about1 theMethod args0 below0 :=
  ⟨lists_1, trivial, launch0.admits_env _ _ _, launch0.least_env, fairChoices_fair.cas, fairChoices_fair.clock, w_frames, w_args, w_heap, w_applies, trivial, trivial, w_case⟩
end start1
theorem witness_1 : WitnessClaimed_1 := ⟨start1.p0, start1.e0, start1.about1, start1.theMethod, start1.args0, start1.below0, start1.atStart⟩
end Jvm.Pilot.@@N@@
