import JvmDerived
import JvmDerived.Pilot.@@N@@Statement
import JvmDerived.Pilot.@@N@@Code
set_option linter.unusedVariables false
set_option linter.unusedSimpArgs false
namespace Jvm.OwnKit
open Sem ClassFile Op Lib Jvm.Stand Jvm.Free Jvm.LawKit Jvm.RoadKit
section Own
variable {p : Program} {l : Launch} {e : Env} {R : Room} {s : State} {m : MethodId} {args : Array Value} {below : List Frame} {meth : Method} {c : Code} {T : State} {locs : List Loc} {cells slots : Nat} {Z : State} {a0 : Array Value} {h : Heap}
/-- from S the run comes to an end that F admits -/
def W (p : Program) (e : Env) (below : List Frame) (F : Outcome → State → Prop) (S : State) : Prop := ∃ s₂ o, Steps p.tables e below S s₂ ∧ s₂.status = .running ∧ Ended s₂ below o ∧ F o s₂
def Fin (s : State) (Q : Option Value → Heap → List Loc → Prop) (rc rs : Nat) (o : Outcome) (U : State) : Prop := ∃ v L, o = .returned v ∧ Q v U.heap L ∧ FrameEnd s o U L rc rs
theorem W.go {F : Outcome → State → Prop} {S S' : State} (st : ∀ t, Steps p.tables e below S' t → Steps p.tables e below S t) (k : W p e below F S') : W p e below F S := by
  obtain ⟨s2, o, h1, h2⟩ := k; exact ⟨s2, o, st _ h1, h2⟩
theorem W.via {F : Outcome → State → Prop} {S S' : State} (st : Steps p.tables e below S S') (k : W p e below F S') : W p e below F S := by
  obtain ⟨s2, o, h1, h2⟩ := k; exact ⟨s2, o, st.trans h1, h2⟩
/-- a contract: called with these arguments, over this heap, the body returns and leaves what Q says -/
def Ctr (l : Launch) (Z : State) (y : MethodName) (bytes : ByteArray) (maxL : Nat) (ret : Option FieldType) (rm : Room) (as' : Array Value) (h0 : Heap) (Q : Option Value → Heap → List Loc → Prop) : Prop :=
  ∀ ws : List Jvm.Cond, MetFree l y (head1 (Jvm.Cond.code y bytes maxL ret :: ws) rm) (fun a U => a = as' ∧ Z.Warmed39 U.vm ∧ U.heap = h0) (fun _ _ _ _ _ => True) (fun _ U o U' => Fin U Q rm.cells rm.slots o U')
theorem Ctr.body {y : MethodName} {bytes : ByteArray} {maxL : Nat} {ret : Option FieldType} {rm : Room} {as' : Array Value} {h0 : Heap} {Q : Option Value → Heap → List Loc → Prop} {fr : MethodId → JFrame} (hpl : plainFor y = true) (hef : ∀ m, entryFrame m as' maxL = fr m)
    (body : ∀ (p : Program) (e : Env) (s : State) (m : MethodId) (below : List Frame) (meth : Method) (c : Code) (s₁ : State), p.tables.exec = Jvm.exec → c.code = bytes → c.maxLocals = maxL → Z.Warmed39 s.vm → s.vm.findClass y.cls = some m.cls → meth.name = y.name → meth.sig.returnType = ret → meth.locks = false →
      Stand p l e rm s m as' below meth c s₁ [] 0 0 → s₁.heap = h0 → W p e below (Fin s Q rm.cells rm.slots) (s₁.setTop (fr m))) : Ctr l Z y bytes maxL ret rm as' h0 Q := by
  intro ws
  refine MetFree.of_bodySF hpl hisR ?_
  intro p e s m args below meth c s₁ Bd hml0 hP hK
  obtain ⟨rfl, hZ, hh⟩ := hP
  have r := body p e s m below meth c s₁ Bd.exec Bd.bytes hml0 hZ (findClass_of_methodNamed Bd.named) (name_of_methodNamed Bd.named Bd.method).1 Bd.returns Bd.notSynchronized (Stand.of_body Bd) (by rw [← hh, Bd.state]; rfl)
  rw [← hef] at r
  exact r
theorem W.retB (X : Stand p l e R s m args below meth c T locs cells slots) (hx : p.tables.exec = Jvm.exec) (hlk : meth.locks = false) {t : FieldType} (hret : meth.sig.returnType = some t) (ht : t = .boolean ∨ t = .byte ∨ t = .char ∨ t = .short) {pc : Nat} {Ls : Array Slot} {z : Int32} {rest : List Value} (hd : decode c.code pc = .ok (.ireturn, 1))
    {Q : Option Value → Heap → List Loc → Prop} {rc rs : Nat} (hc : cells ≤ rc) (hs : slots ≤ rs) (eT : T.heap = h) (hQ : Q (some (.int (nar t z))) h locs) : W p e below (Fin s Q rc rs) (T.setTop (mkF m pc Ls (.int z :: rest))) := by
  obtain ⟨fs, hr, hrun, hended, hW, hsame⟩ := X.leave (v := some (.int (nar t z))) (fun h => by rw [hret] at h; cases h) hlk
  subst eT
  exact ⟨_, _, retN X hx hret ht hd hr, hrun, hended, _, _, rfl, hQ, ⟨_, rfl⟩, hW, hsame.mono hc hs⟩
theorem W.retI (X : Stand p l e R s m args below meth c T locs cells slots) (hx : p.tables.exec = Jvm.exec) (hlk : meth.locks = false) (hret : meth.sig.returnType = some .int) {pc : Nat} {Ls : Array Slot} {z : Int32} {rest : List Value} (hd : decode c.code pc = .ok (.ireturn, 1))
    {Q : Option Value → Heap → List Loc → Prop} {rc rs : Nat} (hc : cells ≤ rc) (hs : slots ≤ rs) (eT : T.heap = h) (hQ : Q (some (.int z)) h locs) : W p e below (Fin s Q rc rs) (T.setTop (mkF m pc Ls (.int z :: rest))) := by
  obtain ⟨fs, hr, hrun, hended, hW, hsame⟩ := X.leave (v := some (.int z)) (fun h => by rw [hret] at h; cases h) hlk
  subst eT
  refine ⟨_, _, ?_, hrun, hended, _, _, rfl, hQ, ⟨_, rfl⟩, hW, hsame.mono hc hs⟩
  have hm' : T.vm.method? m = some meth := X.method'
  have hn : narrow .int (.int z) = .int z := rfl
  show Steps p.tables e below (T.setTop { method := m, pc := pc, locals := Ls, stack := _ :: rest, locked := none }) _
  jvm_step X.here [X.here.top, hx, hd, hm', hret, hn]
  first | (intro acts; rw [hr _ acts rfl rfl rfl]) | rw [hr _ _ rfl rfl rfl]
  exact Steps.refl _
theorem W.retL (X : Stand p l e R s m args below meth c T locs cells slots) (hx : p.tables.exec = Jvm.exec) (hlk : meth.locks = false) (hret : meth.sig.returnType = some .long) {pc : Nat} {Ls : Array Slot} {z : Int64} {rest : List Value} (hd : decode c.code pc = .ok (.lreturn, 1))
    {Q : Option Value → Heap → List Loc → Prop} {rc rs : Nat} (hc : cells ≤ rc) (hs : slots ≤ rs) (eT : T.heap = h) (hQ : Q (some (.long z)) h locs) : W p e below (Fin s Q rc rs) (T.setTop (mkF m pc Ls (.long z :: rest))) := by
  obtain ⟨fs, hr, hrun, hended, hW, hsame⟩ := X.leave (v := some (.long z)) (fun h => by rw [hret] at h; cases h) hlk
  subst eT
  refine ⟨_, _, ?_, hrun, hended, _, _, rfl, hQ, ⟨_, rfl⟩, hW, hsame.mono hc hs⟩
  have hm' : T.vm.method? m = some meth := X.method'
  have hn : narrow .long (.long z) = .long z := rfl
  show Steps p.tables e below (T.setTop { method := m, pc := pc, locals := Ls, stack := _ :: rest, locked := none }) _
  jvm_step X.here [X.here.top, hx, hd, hm', hret, hn]
  first | (intro acts; rw [hr _ acts rfl rfl rfl]) | rw [hr _ _ rfl rfl rfl]
  exact Steps.refl _
theorem W.retA (X : Stand p l e R s m args below meth c T locs cells slots) (hx : p.tables.exec = Jvm.exec) (hlk : meth.locks = false) {t : FieldType} (hret : meth.sig.returnType = some t) (ht : t.isReference = true) {pc : Nat} {Ls : Array Slot} {w : Value} (hw : w.isRef = true) {rest : List Value} (hd : decode c.code pc = .ok (.areturn, 1))
    {Q : Option Value → Heap → List Loc → Prop} {rc rs : Nat} (hc : cells ≤ rc) (hs : slots ≤ rs) (eT : T.heap = h) (hQ : Q (some w) h locs) : W p e below (Fin s Q rc rs) (T.setTop (mkF m pc Ls (w :: rest))) := by
  obtain ⟨fs, hr, hrun, hended, hW, hsame⟩ := X.leave (v := some w) (fun h => by rw [hret] at h; cases h) hlk
  subst eT
  refine ⟨_, _, ?_, hrun, hended, _, _, rfl, hQ, ⟨_, rfl⟩, hW, hsame.mono hc hs⟩
  have hm' : T.vm.method? m = some meth := X.method'
  rcases ref_cases hw with rfl | ⟨z, rfl⟩
  all_goals
    show Steps p.tables e below (T.setTop { method := m, pc := pc, locals := Ls, stack := _ :: rest, locked := none }) _
    jvm_step X.here [X.here.top, hx, hd, hm', hret, ht, Value.isRef]
    first | (intro acts; rw [hr _ acts rfl rfl rfl]) | rw [hr _ _ rfl rfl rfl]
    exact Steps.refl _
theorem W.retV (X : Stand p l e R s m args below meth c T locs cells slots) (hx : p.tables.exec = Jvm.exec) (hlk : meth.locks = false) (hret : meth.sig.returnType = none) {pc : Nat} {Ls : Array Slot} (hd : decode c.code pc = .ok (.return_, 1))
    {Q : Option Value → Heap → List Loc → Prop} {rc rs : Nat} (hc : cells ≤ rc) (hs : slots ≤ rs) (eT : T.heap = h) (hQ : Q none h locs) : W p e below (Fin s Q rc rs) (T.setTop (mkF m pc Ls [])) := by
  obtain ⟨fs, hr, hrun, hended, hW, hsame⟩ := X.leave (v := none) (fun _ => rfl) hlk
  subst eT
  exact ⟨_, _, X.returnOut hx hret hd hr, hrun, hended, _, _, rfl, hQ, ⟨_, rfl⟩, hW, hsame.mono hc hs⟩
section Calls
variable {y y0 : MethodName} {bytes : ByteArray} {maxL W0 : Nat} {ret : Option FieldType} {rm : Room} {as' : Array Value} {Q : Option Value → Heap → List Loc → Prop} {own : String} {index : Nat} {sig : MethodDescriptor} {g : JFrame} {argsL rest : List Value} {F : Outcome → State → Prop}
theorem Ctr.back {len : Nat} (hM : Ctr l Z y bytes maxL ret rm as' h Q) (hZ : Z.Warmed39 s.vm) (wc : (Jvm.Cond.code y bytes maxL ret).before a0 Z = true) (wz : (Jvm.Cond.initialized y.cls).before a0 Z = true) (hf : rm.frames + 1 ≤ R.frames) (hl : W0 + (maxL + 11) + rm.locals ≤ R.locals) :
    Back l R p e below s args y len W0 (fun A a => a = as' ∧ A.U.heap = h ∧ A.cells + rm.cells ≤ R.cells ∧ A.slots + rm.slots ≤ R.slots)
      (fun A _ v B => ∃ L, Q v B.U.heap L ∧ B.locs = A.locs ++ L ∧ B.cells = A.cells + rm.cells ∧ B.slots = A.slots + rm.slots) := backOf (hM []) hZ wc wz hf hl
/-- a static call by its contract -/
theorem W.callS (X : Stand p l e R s m args below meth c T locs cells slots) (hx : p.tables.exec = Jvm.exec) (hZ : Z.Warmed39 s.vm) (hown : s.vm.findClass own = some m.cls) (hml : g.locals.size = c.maxLocals)
    (w1 : (Jvm.Cond.methodLink own index y).before a0 Z = true) (w2 : (Jvm.Cond.static y).before a0 Z = true) (w3 : (Jvm.Cond.initialized y.cls).before a0 Z = true) (w4 : (Jvm.Cond.code y bytes maxL ret).before a0 Z = true) (eT : T.heap = h)
    (hM : Ctr l Z y bytes maxL ret rm as' h Q) (hy : y.cls ≠ "java/lang/invoke/MethodHandle" ∧ y.cls ≠ "java/lang/invoke/VarHandle") (pd : parseMethodDescriptor y.desc = some sig) (hg : g.method = m) (has : argsL.toArray = as') (hlen : argsL.length = sig.parameters.length)
    (hst : g.stack = argsL.reverse ++ rest) (hd : decode c.code g.pc = .ok (.invokestatic index, 3)) (hW : 2 * g.monitorRoom + (rest.map fun v => v.category).sum = W0) (hf : rm.frames + 1 ≤ R.frames) (hl : W0 + (maxL + 11) + rm.locals ≤ R.locals) (hc : cells + rm.cells ≤ R.cells) (hs : slots + rm.slots ≤ R.slots)
    (k : ∀ v T' h' L, Stand p l e R s m args below meth c T' (locs ++ L) (cells + rm.cells) (slots + rm.slots) → T'.heap = h' → Q v h' L → W p e below F (T'.setTop { g with pc := g.pc + 3, stack := v.toList ++ rest })) : W p e below F (T.setTop g) := by
  obtain ⟨v, _, ⟨T', L', k', n'⟩, -, X', ⟨L, hQ, e1, e2, e3⟩, st⟩ := Jvm.LawKit.callS X hx hown (mvT hZ w1) (mvT hZ w2) (mvT hZ w3) (mvT hZ w4) hy (hM.back hZ w4 w3 hf hl) hg hml (argsL := argsL) (rest := rest) (fun sg q => by cases pd.symm.trans q; exact hlen) hst (Nat.le_of_eq hW) hd (fun _ _ => ⟨has, eT, hc, hs⟩)
  dsimp only [Pt.U, Pt.locs, Pt.cells, Pt.slots] at X' e1 e2 e3 hQ st
  subst e1 e2 e3
  exact W.go st (k v T' _ L X' rfl hQ)
/-- a constructor, whoever pays it -/
theorem W.callIK {kc ks : Nat} (X : Stand p l e R s m args below meth c T locs cells slots) (hx : p.tables.exec = Jvm.exec) (hZ : Z.Warmed39 s.vm) (hown : s.vm.findClass own = some m.cls) (hml : g.locals.size = c.maxLocals)
    (w1 : (Jvm.Cond.methodLink own index y).before a0 Z = true) (w2 : (Jvm.Cond.instanceMethod y).before a0 Z = true) (w4 : (Jvm.Cond.code y bytes maxL none).before a0 Z = true) (eT : T.heap = h)
    (hK : Back l R p e below s args y 3 W0 (fun A a => a = as' ∧ A.U.heap = h ∧ A.cells + kc ≤ R.cells ∧ A.slots + ks ≤ R.slots) (fun A _ v B => ∃ L, Q v B.U.heap L ∧ B.locs = A.locs ++ L ∧ B.cells = A.cells + kc ∧ B.slots = A.slots + ks)) (hn : y.name = "<init>") (hy : y.cls ≠ "java/lang/invoke/MethodHandle" ∧ y.cls ≠ "java/lang/invoke/VarHandle") (pd : parseMethodDescriptor y.desc = some sig) (hg : g.method = m) {b : Addr} (has : (Value.ref b :: argsL).toArray = as') (hlen : argsL.length = sig.parameters.length)
    (hst : g.stack = argsL.reverse ++ .ref b :: rest) (hd : decode c.code g.pc = .ok (.invokespecial index, 3)) (hW : 2 * g.monitorRoom + (rest.map fun v => v.category).sum = W0) (hc : cells + kc ≤ R.cells) (hs : slots + ks ≤ R.slots)
    (k : ∀ v T' h' L, Stand p l e R s m args below meth c T' (locs ++ L) (cells + kc) (slots + ks) → T'.heap = h' → Q v h' L → W p e below F (T'.setTop { g with pc := g.pc + 3, stack := v.toList ++ rest })) : W p e below F (T.setTop g) := by
  obtain ⟨v, _, ⟨T', L', k', n'⟩, -, X', ⟨L, hQ, e1, e2, e3⟩, st⟩ := X.specialBack hx hn hown (mvT hZ w1) (mvT hZ w2) (mvT hZ w4) hy hK hg hml (Steps.refl _) (a := b) (argsL := argsL) (rest := rest) (fun sg q => by cases pd.symm.trans q; exact hlen) hst (Nat.le_of_eq hW) hd (fun _ _ => ⟨has, eT, hc, hs⟩)
  dsimp only [Pt.U, Pt.locs, Pt.cells, Pt.slots] at X' e1 e2 e3 hQ st
  subst e1 e2 e3
  exact W.via st (k v T' _ L X' rfl hQ)
/-- a constructor by its contract -/
theorem W.callI (X : Stand p l e R s m args below meth c T locs cells slots) (hx : p.tables.exec = Jvm.exec) (hZ : Z.Warmed39 s.vm) (hown : s.vm.findClass own = some m.cls) (hml : g.locals.size = c.maxLocals)
    (w1 : (Jvm.Cond.methodLink own index y).before a0 Z = true) (w2 : (Jvm.Cond.instanceMethod y).before a0 Z = true) (w3 : (Jvm.Cond.initialized y.cls).before a0 Z = true) (w4 : (Jvm.Cond.code y bytes maxL none).before a0 Z = true) (eT : T.heap = h)
    (hM : Ctr l Z y bytes maxL none rm as' h Q) (hn : y.name = "<init>") (hy : y.cls ≠ "java/lang/invoke/MethodHandle" ∧ y.cls ≠ "java/lang/invoke/VarHandle") (pd : parseMethodDescriptor y.desc = some sig) (hg : g.method = m) {b : Addr} (has : (Value.ref b :: argsL).toArray = as') (hlen : argsL.length = sig.parameters.length)
    (hst : g.stack = argsL.reverse ++ .ref b :: rest) (hd : decode c.code g.pc = .ok (.invokespecial index, 3)) (hW : 2 * g.monitorRoom + (rest.map fun v => v.category).sum = W0) (hf : rm.frames + 1 ≤ R.frames) (hl : W0 + (maxL + 11) + rm.locals ≤ R.locals) (hc : cells + rm.cells ≤ R.cells) (hs : slots + rm.slots ≤ R.slots)
    (k : ∀ v T' h' L, Stand p l e R s m args below meth c T' (locs ++ L) (cells + rm.cells) (slots + rm.slots) → T'.heap = h' → Q v h' L → W p e below F (T'.setTop { g with pc := g.pc + 3, stack := v.toList ++ rest })) : W p e below F (T.setTop g) := by
  obtain ⟨v, _, ⟨T', L', k', n'⟩, -, X', ⟨L, hQ, e1, e2, e3⟩, st⟩ := X.specialBack hx hn hown (mvT hZ w1) (mvT hZ w2) (mvT hZ w4) hy (hM.back hZ w4 w3 hf hl) hg hml (Steps.refl _) (a := b) (argsL := argsL) (rest := rest) (fun sg q => by cases pd.symm.trans q; exact hlen) hst (Nat.le_of_eq hW) hd (fun _ _ => ⟨has, eT, hc, hs⟩)
  dsimp only [Pt.U, Pt.locs, Pt.cells, Pt.slots] at X' e1 e2 e3 hQ st
  subst e1 e2 e3
  exact W.via st (k v T' _ L X' rfl hQ)
/-- an instance method, whoever pays it -/
theorem W.callVK {kc ks : Nat} {C : String} (X : Stand p l e R s m args below meth c T locs cells slots) (hx : p.tables.exec = Jvm.exec) (hZ : Z.Warmed39 s.vm) (hown : s.vm.findClass own = some m.cls) (hml : g.locals.size = c.maxLocals)
    (w1 : (Jvm.Cond.methodLink own index y0).before a0 Z = true) (w5 : (Jvm.Cond.declares y0).before a0 Z = true) (w6 : (Jvm.Cond.selects C y0 y).before a0 Z = true) (w2 : (Jvm.Cond.instanceMethod y).before a0 Z = true) (eT : T.heap = h)
    (hK : Back l R p e below s args y 3 W0 (fun A a => a = as' ∧ A.U.heap = h ∧ A.cells + kc ≤ R.cells ∧ A.slots + ks ≤ R.slots) (fun A _ v B => ∃ L, Q v B.U.heap L ∧ B.locs = A.locs ++ L ∧ B.cells = A.cells + kc ∧ B.slots = A.slots + ks)) (hnf : NotFace s y0) (hy : y0.cls ≠ "java/lang/invoke/MethodHandle" ∧ y0.cls ≠ "java/lang/invoke/VarHandle") (pd : parseMethodDescriptor y0.desc = some sig) (hg : g.method = m) {b : Addr} (E : Exa Z h b C) (has : (Value.ref b :: argsL).toArray = as') (hlen : argsL.length = sig.parameters.length)
    (hst : g.stack = argsL.reverse ++ .ref b :: rest) (hd : decode c.code g.pc = .ok (.invokevirtual index, 3)) (hW : 2 * g.monitorRoom + (rest.map fun v => v.category).sum = W0) (hc : cells + kc ≤ R.cells) (hs : slots + ks ≤ R.slots)
    (k : ∀ v T' h' L, Stand p l e R s m args below meth c T' (locs ++ L) (cells + kc) (slots + ks) → T'.heap = h' → Q v h' L → W p e below F (T'.setTop { g with pc := g.pc + 3, stack := v.toList ++ rest })) : W p e below F (T.setTop g) := by
  obtain ⟨cq, kq, qa, qb, qc⟩ := isOf hZ eT E
  obtain ⟨v, _, ⟨T', L', k', n'⟩, -, X', ⟨L, hQ, e1, e2, e3⟩, st⟩ := X.virtualBack hx hown (mvT hZ w1) (mvT hZ w5) hnf (mvT hZ w6) (mvT hZ w2) hy hK qa qc hg hml (Steps.refl _) (argsL := argsL) (rest := rest) (fun sg q => by cases pd.symm.trans q; exact hlen) hst (Nat.le_of_eq hW) hd (fun _ _ => ⟨has, eT, hc, hs⟩)
  dsimp only [Pt.U, Pt.locs, Pt.cells, Pt.slots] at X' e1 e2 e3 hQ st
  subst e1 e2 e3
  exact W.via st (k v T' _ L X' rfl hQ)
/-- an instance method by its contract -/
theorem W.callV {C : String} (X : Stand p l e R s m args below meth c T locs cells slots) (hx : p.tables.exec = Jvm.exec) (hZ : Z.Warmed39 s.vm) (hown : s.vm.findClass own = some m.cls) (hml : g.locals.size = c.maxLocals)
    (w1 : (Jvm.Cond.methodLink own index y0).before a0 Z = true) (w5 : (Jvm.Cond.declares y0).before a0 Z = true) (w6 : (Jvm.Cond.selects C y0 y).before a0 Z = true) (w2 : (Jvm.Cond.instanceMethod y).before a0 Z = true) (w3 : (Jvm.Cond.initialized y.cls).before a0 Z = true) (w4 : (Jvm.Cond.code y bytes maxL ret).before a0 Z = true) (eT : T.heap = h)
    (hM : Ctr l Z y bytes maxL ret rm as' h Q) (hnf : NotFace s y0) (hy : y0.cls ≠ "java/lang/invoke/MethodHandle" ∧ y0.cls ≠ "java/lang/invoke/VarHandle") (pd : parseMethodDescriptor y0.desc = some sig) (hg : g.method = m) {b : Addr} (E : Exa Z h b C) (has : (Value.ref b :: argsL).toArray = as') (hlen : argsL.length = sig.parameters.length)
    (hst : g.stack = argsL.reverse ++ .ref b :: rest) (hd : decode c.code g.pc = .ok (.invokevirtual index, 3)) (hW : 2 * g.monitorRoom + (rest.map fun v => v.category).sum = W0) (hf : rm.frames + 1 ≤ R.frames) (hl : W0 + (maxL + 11) + rm.locals ≤ R.locals) (hc : cells + rm.cells ≤ R.cells) (hs : slots + rm.slots ≤ R.slots)
    (k : ∀ v T' h' L, Stand p l e R s m args below meth c T' (locs ++ L) (cells + rm.cells) (slots + rm.slots) → T'.heap = h' → Q v h' L → W p e below F (T'.setTop { g with pc := g.pc + 3, stack := v.toList ++ rest })) : W p e below F (T.setTop g) := by
  obtain ⟨cq, kq, qa, qb, qc⟩ := isOf hZ eT E
  obtain ⟨v, _, ⟨T', L', k', n'⟩, -, X', ⟨L, hQ, e1, e2, e3⟩, st⟩ := X.virtualBack hx hown (mvT hZ w1) (mvT hZ w5) hnf (mvT hZ w6) (mvT hZ w2) hy (hM.back hZ w4 w3 hf hl) qa qc hg hml (Steps.refl _) (argsL := argsL) (rest := rest) (fun sg q => by cases pd.symm.trans q; exact hlen) hst (Nat.le_of_eq hW) hd (fun _ _ => ⟨has, eT, hc, hs⟩)
  dsimp only [Pt.U, Pt.locs, Pt.cells, Pt.slots] at X' e1 e2 e3 hQ st
  subst e1 e2 e3
  exact W.via st (k v T' _ L X' rfl hQ)
/-- the same, the method declared further up -/
theorem W.callU {C owner : String} (X : Stand p l e R s m args below meth c T locs cells slots) (hx : p.tables.exec = Jvm.exec) (hZ : Z.Warmed39 s.vm) (hown : s.vm.findClass own = some m.cls) (hml : g.locals.size = c.maxLocals)
    (w1 : (Jvm.Cond.methodLink own index y0).before a0 Z = true) (w7 : (Jvm.Cond.sameMethod y0.cls owner y0.name y0.desc).before a0 Z = true) (w5 : (Jvm.Cond.declares ⟨owner, y0.name, y0.desc⟩).before a0 Z = true) (w6 : (Jvm.Cond.selects C y0 y).before a0 Z = true) (w2 : (Jvm.Cond.instanceMethod y).before a0 Z = true) (w3 : (Jvm.Cond.initialized y.cls).before a0 Z = true) (w4 : (Jvm.Cond.code y bytes maxL ret).before a0 Z = true) (eT : T.heap = h)
    (hM : Ctr l Z y bytes maxL ret rm as' h Q) (hy : owner ≠ "java/lang/invoke/MethodHandle" ∧ owner ≠ "java/lang/invoke/VarHandle") (pd : parseMethodDescriptor y0.desc = some sig) (hg : g.method = m) {b : Addr} (E : Exa Z h b C) (has : (Value.ref b :: argsL).toArray = as') (hlen : argsL.length = sig.parameters.length)
    (hst : g.stack = argsL.reverse ++ .ref b :: rest) (hd : decode c.code g.pc = .ok (.invokevirtual index, 3)) (hW : 2 * g.monitorRoom + (rest.map fun v => v.category).sum = W0) (hf : rm.frames + 1 ≤ R.frames) (hl : W0 + (maxL + 11) + rm.locals ≤ R.locals) (hc : cells + rm.cells ≤ R.cells) (hs : slots + rm.slots ≤ R.slots)
    (k : ∀ v T' h' L, Stand p l e R s m args below meth c T' (locs ++ L) (cells + rm.cells) (slots + rm.slots) → T'.heap = h' → Q v h' L → W p e below F (T'.setTop { g with pc := g.pc + 3, stack := v.toList ++ rest })) : W p e below F (T.setTop g) := by
  obtain ⟨cq, kq, qa, qb, qc⟩ := isOf hZ eT E
  obtain ⟨v, _, ⟨T', L', k', n'⟩, -, X', ⟨L, hQ, e1, e2, e3⟩, st⟩ := X.virtualBackUp hx hown (mvT hZ w1) (mvT hZ w7) (mvT hZ w5) hy (mvT hZ w6) (mvT hZ w2) (hM.back hZ w4 w3 hf hl) qa qc hg hml (Steps.refl _) (argsL := argsL) (rest := rest) (fun sg q => by cases pd.symm.trans q; exact hlen) hst (Nat.le_of_eq hW) hd (fun _ _ => ⟨has, eT, hc, hs⟩)
  dsimp only [Pt.U, Pt.locs, Pt.cells, Pt.slots] at X' e1 e2 e3 hQ st
  subst e1 e2 e3
  exact W.via st (k v T' _ L X' rfl hQ)
/-- a method that lands in a default of an interface -/
theorem W.callD {C owner : String} (X : Stand p l e R s m args below meth c T locs cells slots) (hx : p.tables.exec = Jvm.exec) (hZ : Z.Warmed39 s.vm) (hown : s.vm.findClass own = some m.cls) (hml : g.locals.size = c.maxLocals)
    (w1 : (Jvm.Cond.methodLink own index y0).before a0 Z = true) (w7 : (Jvm.Cond.sameMethod y0.cls owner y0.name y0.desc).before a0 Z = true) (w5 : (Jvm.Cond.declares ⟨owner, y0.name, y0.desc⟩).before a0 Z = true) (w6 : (Jvm.Cond.landsInDefault C y0 y).before a0 Z = true) (w2 : (Jvm.Cond.instanceMethod y).before a0 Z = true) (w3 : (Jvm.Cond.initialized y.cls).before a0 Z = true) (w4 : (Jvm.Cond.code y bytes maxL ret).before a0 Z = true) (eT : T.heap = h)
    (hM : Ctr l Z y bytes maxL ret rm as' h Q) (hy : owner ≠ "java/lang/invoke/MethodHandle" ∧ owner ≠ "java/lang/invoke/VarHandle") (pd : parseMethodDescriptor y0.desc = some sig) (hg : g.method = m) {b : Addr} (E : Exa Z h b C) (has : (Value.ref b :: argsL).toArray = as') (hlen : argsL.length = sig.parameters.length)
    (hst : g.stack = argsL.reverse ++ .ref b :: rest) (hd : decode c.code g.pc = .ok (.invokevirtual index, 3)) (hW : 2 * g.monitorRoom + (rest.map fun v => v.category).sum = W0) (hf : rm.frames + 1 ≤ R.frames) (hl : W0 + (maxL + 11) + rm.locals ≤ R.locals) (hc : cells + rm.cells ≤ R.cells) (hs : slots + rm.slots ≤ R.slots)
    (k : ∀ v T' h' L, Stand p l e R s m args below meth c T' (locs ++ L) (cells + rm.cells) (slots + rm.slots) → T'.heap = h' → Q v h' L → W p e below F (T'.setTop { g with pc := g.pc + 3, stack := v.toList ++ rest })) : W p e below F (T.setTop g) := by
  obtain ⟨cq, kq, qa, qb, qc⟩ := isOf hZ eT E
  obtain ⟨v, _, ⟨T', L', k', n'⟩, -, X', ⟨L, hQ, e1, e2, e3⟩, st⟩ := X.virtualBackUpD hx hown (mvT hZ w1) (mvT hZ w7) (mvT hZ w5) hy (mvD hZ w6) (mvT hZ w2) (hM.back hZ w4 w3 hf hl) qa qc hg hml (Steps.refl _) (argsL := argsL) (rest := rest) (fun sg q => by cases pd.symm.trans q; exact hlen) hst (Nat.le_of_eq hW) hd (fun _ _ => ⟨has, eT, hc, hs⟩)
  dsimp only [Pt.U, Pt.locs, Pt.cells, Pt.slots] at X' e1 e2 e3 hQ st
  subst e1 e2 e3
  exact W.via st (k v T' _ L X' rfl hQ)
/-- a call through an interface -/
theorem W.callF {C : String} {count : Nat} (X : Stand p l e R s m args below meth c T locs cells slots) (hx : p.tables.exec = Jvm.exec) (hZ : Z.Warmed39 s.vm) (hown : s.vm.findClass own = some m.cls) (hml : g.locals.size = c.maxLocals)
    (w1 : (Jvm.Cond.methodLink own index y0).before a0 Z = true) (w5 : (Jvm.Cond.declares y0).before a0 Z = true) (w7 : (Jvm.Cond.interfaceMethod y0.cls y0.cls y0.name y0.desc).before args s = true) (w6 : (Jvm.Cond.selects C y0 y).before a0 Z = true) (w2 : (Jvm.Cond.instanceMethod y).before a0 Z = true) (w8 : (Jvm.Cond.publicMethod y).before a0 Z = true) (w9 : (Jvm.Cond.unhidden C y0.name y0.desc).before a0 Z = true) (w10 : (Jvm.Cond.castable C y0.cls).before a0 Z = true) (w3 : (Jvm.Cond.initialized y.cls).before a0 Z = true) (w4 : (Jvm.Cond.code y bytes maxL ret).before a0 Z = true) (eT : T.heap = h)
    (hM : Ctr l Z y bytes maxL ret rm as' h Q) (hy : y0.cls ≠ "java/lang/invoke/MethodHandle" ∧ y0.cls ≠ "java/lang/invoke/VarHandle") (pd : parseMethodDescriptor y0.desc = some sig) (hg : g.method = m) {b : Addr} (E : Exa Z h b C) (has : (Value.ref b :: argsL).toArray = as') (hlen : argsL.length = sig.parameters.length)
    (hst : g.stack = argsL.reverse ++ .ref b :: rest) (hd : decode c.code g.pc = .ok (.invokeinterface index count, 5)) (hW : 2 * g.monitorRoom + (rest.map fun v => v.category).sum = W0) (hf : rm.frames + 1 ≤ R.frames) (hl : W0 + (maxL + 11) + rm.locals ≤ R.locals) (hc : cells + rm.cells ≤ R.cells) (hs : slots + rm.slots ≤ R.slots)
    (k : ∀ v T' h' L, Stand p l e R s m args below meth c T' (locs ++ L) (cells + rm.cells) (slots + rm.slots) → T'.heap = h' → Q v h' L → W p e below F (T'.setTop { g with pc := g.pc + 5, stack := v.toList ++ rest })) : W p e below F (T.setTop g) := by
  obtain ⟨cq, kq, qa, qb, qc⟩ := isOf hZ eT E
  obtain ⟨v, _, ⟨T', L', k', n'⟩, -, X', ⟨L, hQ, e1, e2, e3⟩, st⟩ := X.interfaceBack hx hown (mvT hZ w1) (mvT hZ w5) w7 (mvT hZ w6) (mvT hZ w2) (mvT hZ w8) (mvT hZ w9) (mvT hZ w10) hy (hM.back hZ w4 w3 hf hl) qa qb qc hg hml (Steps.refl _) (argsL := argsL) (rest := rest) (fun sg q => by cases pd.symm.trans q; exact hlen) hst (Nat.le_of_eq hW) hd (fun _ _ => ⟨has, eT, hc, hs⟩)
  dsimp only [Pt.U, Pt.locs, Pt.cells, Pt.slots] at X' e1 e2 e3 hQ st
  subst e1 e2 e3
  exact W.via st (k v T' _ L X' rfl hQ)
/-- super.m(..) -/
theorem W.callSup {K : String} (X : Stand p l e R s m args below meth c T locs cells slots) (hx : p.tables.exec = Jvm.exec) (hZ : Z.Warmed39 s.vm) (hown : s.vm.findClass own = some m.cls) (hml : g.locals.size = c.maxLocals)
    (w1 : (Jvm.Cond.methodLink own index y).before a0 Z = true) (w5 : (Jvm.Cond.sameMethod y.cls y.cls y.name y.desc).before a0 Z = true) (w2 : (Jvm.Cond.instanceMethod y).before a0 Z = true) (w6 : (Jvm.Cond.superclass own y.cls).before a0 Z = true) (w3 : (Jvm.Cond.initialized y.cls).before a0 Z = true) (w4 : (Jvm.Cond.code y bytes maxL ret).before a0 Z = true) (eT : T.heap = h)
    (hM : Ctr l Z y bytes maxL ret rm as' h Q) (hn : y.name ≠ "<init>") (pd : parseMethodDescriptor y.desc = some sig) (hg : g.method = m) {b : Addr} (E : Exa Z h b K) (has : (Value.ref b :: argsL).toArray = as') (hlen : argsL.length = sig.parameters.length)
    (hst : g.stack = argsL.reverse ++ .ref b :: rest) (hd : decode c.code g.pc = .ok (.invokespecial index, 3)) (hW : 2 * g.monitorRoom + (rest.map fun v => v.category).sum = W0) (hf : rm.frames + 1 ≤ R.frames) (hl : W0 + (maxL + 11) + rm.locals ≤ R.locals) (hc : cells + rm.cells ≤ R.cells) (hs : slots + rm.slots ≤ R.slots)
    (k : ∀ v T' h' L, Stand p l e R s m args below meth c T' (locs ++ L) (cells + rm.cells) (slots + rm.slots) → T'.heap = h' → Q v h' L → W p e below F (T'.setTop { g with pc := g.pc + 3, stack := v.toList ++ rest })) : W p e below F (T.setTop g) := by
  obtain ⟨v, _, ⟨T', L', k', n'⟩, -, X', ⟨L, hQ, e1, e2, e3⟩, st⟩ := superBack X hx hZ hown w1 w5 w2 w6 hn (hM.back hZ w4 w3 hf hl) eT (Ins.self E) hg hml w4 (argsL := argsL) (rest := rest) (fun sg q => by cases pd.symm.trans q; exact hlen) hst (Nat.le_of_eq hW) hd (fun _ _ => ⟨has, eT, hc, hs⟩)
  dsimp only [Pt.U, Pt.locs, Pt.cells, Pt.slots] at X' e1 e2 e3 hQ st
  subst e1 e2 e3
  exact W.via st (k v T' _ L X' rfl hQ)
theorem nfOf {C : String} {x z : MethodName} (w6 : (Jvm.Cond.selects C x z).before args s = true) (hz : z.cls = y.cls) : NotFace s y := fun r0 h0 => by
  obtain ⟨c1, r1, m1, -, -, hm, -, kP, hkP, hni⟩ := Cond.selects_spec w6
  have hc := findClass_of_methodNamed h0
  have hc2 := findClass_of_methodNamed hm
  rw [hz] at hc2
  have q : r0.cls = m1.cls := Option.some.inj (hc.symm.trans hc2)
  exact ⟨kP, by rw [q]; exact hkP, hni⟩
/-- a class that declares a method finds it; that she is no interface is read off a 'selects' word that ends in her -/
theorem sameDecl {C : String} {x z : MethodName} (w5 : (Jvm.Cond.declares y).before a0 Z = true) (w6 : (Jvm.Cond.selects C x z).before a0 Z = true) (hz : z.cls = y.cls) (hy : y.cls ≠ "java/lang/invoke/MethodHandle" ∧ y.cls ≠ "java/lang/invoke/VarHandle") : (Jvm.Cond.sameMethod y.cls y.cls y.name y.desc).before a0 Z = true := by
  obtain ⟨r0, r, hn, hrm, -, -⟩ := Cond.declares_spec w5
  have hf : Z.methodFound? y.cls y.name y.desc = some r0 := State.methodFound?_of_named hn hy
  have hc := findClass_of_methodNamed hn
  obtain ⟨c1, r1, m1, -, -, hm, -, kP, hkP, hni⟩ := Cond.selects_spec w6
  have hc2 := findClass_of_methodNamed hm
  rw [hz] at hc2
  have q : r0.cls = m1.cls := Option.some.inj (hc.symm.trans hc2)
  have hn' : Z.methodNamed? ⟨y.cls, y.name, y.desc⟩ = some r0 := hn
  have hk : Z.vm.classes[r0.cls]? = some kP := by rw [q]; exact hkP
  simp [Jvm.Cond.before, Jvm.Cond.holds, Jvm.Cond.value, hc, hf, hn', hk, hni]
/-- a private method by its contract -/
theorem W.callP {cell : Cell} {n : Nat} (X : Stand p l e R s m args below meth c T locs cells slots) (hx : p.tables.exec = Jvm.exec) (hZ : Z.Warmed39 s.vm) (hown : s.vm.findClass own = some m.cls) (hml : g.locals.size = c.maxLocals)
    (w1 : (Jvm.Cond.methodLink own index y).before a0 Z = true) (w5 : (Jvm.Cond.privateMethod y).before a0 Z = true) (w6 : (Jvm.Cond.selects y.cls y y).before args s = true) (w2 : (Jvm.Cond.instanceMethod y).before a0 Z = true) (w3 : (Jvm.Cond.initialized y.cls).before a0 Z = true) (w4 : (Jvm.Cond.code y bytes maxL ret).before a0 Z = true) (eT : T.heap = h)
    (hM : Ctr l Z y bytes maxL ret rm as' h Q) (hy : y.cls ≠ "java/lang/invoke/MethodHandle" ∧ y.cls ≠ "java/lang/invoke/VarHandle") (pd : parseMethodDescriptor y.desc = some sig) (hg : g.method = m) {b : Addr} {C : String} (E : Exa Z h b C) (has : (Value.ref b :: argsL).toArray = as') (hlen : argsL.length = sig.parameters.length)
    (hst : g.stack = argsL.reverse ++ .ref b :: rest) (hd : decode c.code g.pc = .ok (.invokevirtual index, 3)) (hW : 2 * g.monitorRoom + (rest.map fun v => v.category).sum = W0) (hf : rm.frames + 1 ≤ R.frames) (hl : W0 + (maxL + 11) + rm.locals ≤ R.locals) (hc : cells + rm.cells ≤ R.cells) (hs : slots + rm.slots ≤ R.slots)
    (k : ∀ v T' h' L, Stand p l e R s m args below meth c T' (locs ++ L) (cells + rm.cells) (slots + rm.slots) → T'.heap = h' → Q v h' L → W p e below F (T'.setTop { g with pc := g.pc + 3, stack := v.toList ++ rest })) : W p e below F (T.setTop g) := by
  obtain ⟨cq, q1, q2⟩ := E.cell
  obtain ⟨v, _, ⟨T', L', k', n'⟩, -, X', ⟨L, hQ, e1, e2, e3⟩, st⟩ := X.privateBack hx hown (mvT hZ w1) (mvT hZ w2) w6 (Cond.privateMethod_at (mvP hZ w5 (args := #[]))) (mvT hZ w4) hy (hM.back hZ w4 w3 hf hl) hg hml (Steps.refl _) (a := b) (by rw [eT]; exact q1) q2 (argsL := argsL) (rest := rest) (fun sg q => by cases pd.symm.trans q; exact hlen) hst (Nat.le_of_eq hW) hd (fun _ _ => ⟨has, eT, hc, hs⟩)
  dsimp only [Pt.U, Pt.locs, Pt.cells, Pt.slots] at X' e1 e2 e3 hQ st
  subst e1 e2 e3
  exact W.via st (k v T' _ L X' rfl hQ)
/-- 'selects' of a private method -/
theorem selPriv {n : Nat} (hZ : Z.Warmed39 s.vm) (wi : (Jvm.Cond.instantiable y.cls n).before a0 Z = true) (w5 : (Jvm.Cond.privateMethod y).before a0 Z = true) (w2 : (Jvm.Cond.instanceMethod y).before a0 Z = true) (hy : y.cls ≠ "java/lang/invoke/MethodHandle" ∧ y.cls ≠ "java/lang/invoke/VarHandle") : (Jvm.Cond.selects y.cls y y).before args s = true := by
  obtain ⟨c2, k2, i1, i2, -, i4, -⟩ := Cond.instantiable_spec (mvT (args := args) hZ wi)
  exact selects_self_of_private i1 i2 (Bool.or_eq_false_iff.mp i4).1 (Cond.privateMethod_at (mvP hZ w5 (args := #[]))) (mvT hZ w2) hy
end Calls
theorem Sta.keep {h' : Heap} {C n d : String} {v : Value} {ws : List Addr} {n0 : Nat} (F : Sta Z h C n d v) (K : Keep h h' ws) (hw : ∀ x ∈ ws, ∀ cell : Cell, h[x]? = some cell → cell.vm.isStatics = false) : Sta Z h' C n d v := by
  obtain ⟨cf, i, k, f, st, cell, h1, h2, h3, h4, h5, h6, h7⟩ := F
  refine ⟨cf, i, k, f, st, cell, h1, h2, h3, h4, K.2.1 st cell h5 fun hm => ?_, h6, h7⟩
  rw [hw st hm cell h5] at h6; cases h6
theorem eqI_v {t : Term} {k : Int32} {first : State} {o : Option Outcome} {idx : List Nat} (hk : (Jvm.Cond.eq t (.int k)).value args first o s idx = some true) : t.eval args first o idx s = some (.int k) := by
  simp only [Jvm.Cond.value, Term.eval] at hk
  cases ht : t.eval args first o idx s with
  | none => simp [ht] at hk
  | some x => cases x <;> simp [ht] at hk ⊢; exact hk
theorem lenI_v {t : Term} {a : Addr} {cl : Cell} {ty : FieldType} {k : Int32} (A : Arr s s.heap a cl ty) (ev : t.eval args s none [] s = some (.ref a)) (hk : (Jvm.Cond.eq (.length t) (.int k)).value args s none s [] = some true) : cl.slots.size < 2 ^ 31 ∧ cl.slots.size.toInt32 = k := by
  have q := eqI_v hk
  have r : s.arrayAt? a = some cl := A.fin (Vm.Alike.refl _)
  simp only [Term.eval, ev, r, Option.bind_eq_bind, Option.bind_some] at q
  split at q
  · rename_i z; cases q; exact ⟨z, rfl⟩
  · cases q
theorem rngM (x n : Int32) (hn : 0 < n.toInt) : 0 ≤ ((x &&& 2147483647) % n).toInt ∧ ((x &&& 2147483647) % n).toInt < n.toInt := by
  have q := c_mask x 2147483647 31 (by decide) (by decide)
  have q0 : 0 ≤ (x &&& 2147483647).toInt := by rw [q]; exact Int.emod_nonneg _ (by decide)
  have r := (c_iremV (x &&& 2147483647) n).1 q0 hn
  exact ⟨r.1, r.2.1⟩
end Own
end Jvm.OwnKit
namespace Jvm.Pilot.@@N@@
open Jvm Jvm.ClassFile Sem Op Lib Jvm.Free Jvm.Stand Jvm.LawKit Jvm.RoadKit Bundle Jvm.OwnKit Jvm.Pilot.@@N@@.Jvm.D
theorem d1_0 : decode method_2_code 0 = .ok (.iload_n 0, 1) := by decide +kernel
theorem d1_1 : decode method_2_code 1 = .ok (.ifCond .ne 7, 3) := by decide +kernel
theorem d1_4 : decode method_2_code 4 = .ok (.getstatic 7, 3) := by decide +kernel
theorem d1_7 : decode method_2_code 7 = .ok (.areturn, 1) := by decide +kernel
theorem d1_8 : decode method_2_code 8 = .ok (.iload_n 0, 1) := by decide +kernel
theorem d1_9 : decode method_2_code 9 = .ok (.iconst 1, 1) := by decide +kernel
theorem d1_10 : decode method_2_code 10 = .ok (.if_icmp .ne 7, 3) := by decide +kernel
theorem d1_13 : decode method_2_code 13 = .ok (.getstatic 13, 3) := by decide +kernel
theorem d1_16 : decode method_2_code 16 = .ok (.areturn, 1) := by decide +kernel
theorem d1_17 : decode method_2_code 17 = .ok (.iload_n 0, 1) := by decide +kernel
theorem d1_18 : decode method_2_code 18 = .ok (.iconst 2, 1) := by decide +kernel
theorem d1_19 : decode method_2_code 19 = .ok (.if_icmp .ne 7, 3) := by decide +kernel
theorem d1_22 : decode method_2_code 22 = .ok (.getstatic 16, 3) := by decide +kernel
theorem d1_25 : decode method_2_code 25 = .ok (.areturn, 1) := by decide +kernel
theorem d1_26 : decode method_2_code 26 = .ok (.getstatic 19, 3) := by decide +kernel
theorem d1_29 : decode method_2_code 29 = .ok (.areturn, 1) := by decide +kernel
theorem pn_com_example_facetree_facetree_model_ObjectTypeAllowsSeveralParentsPinLaw : plainName "com/example/facetree/facetree/model/ObjectTypeAllowsSeveralParentsPinLaw" = true := by first | (simp [plainName, overriddenIn]; done) | decide +kernel
def Q_rm1 (Z : State) (p0 : Int32) (w_NODE : Addr) (w_LEAF_NODE : Addr) (w_POLICY : Addr) (w_INDEX : Addr) (t : Addr) (h0 : Heap) (n0 : Nat) (v : Option Value) (h : Heap) (L : List Loc) : Prop := v = some (.ref t) ∧ Fr n0 L ∧ h = h0
set_option maxRecDepth 65536 in
set_option maxHeartbeats 40000000 in
theorem rm1 (l : Launch) (Z : State) (a0 : Array Value) (hw : ∀ d ∈ tables_1, d.before a0 Z = true) (p0 : Int32) (w_NODE : Addr) (w_LEAF_NODE : Addr) (w_POLICY : Addr) (w_INDEX : Addr) (t : Addr) (h0 : Heap) (n0 : Nat) (Z0 : n0 ≤ h0.size) (S_NODE : Sta Z h0 "com/example/facetree/facetree/model/ObjectType" "NODE" "Lcom/example/facetree/facetree/model/ObjectType;" (.ref w_NODE)) (S_LEAF_NODE : Sta Z h0 "com/example/facetree/facetree/model/ObjectType" "LEAF_NODE" "Lcom/example/facetree/facetree/model/ObjectType;" (.ref w_LEAF_NODE)) (S_POLICY : Sta Z h0 "com/example/facetree/facetree/model/ObjectType" "POLICY" "Lcom/example/facetree/facetree/model/ObjectType;" (.ref w_POLICY)) (S_INDEX : Sta Z h0 "com/example/facetree/facetree/model/ObjectType" "INDEX" "Lcom/example/facetree/facetree/model/ObjectType;" (.ref w_INDEX)) (ht : t = if p0 = 0 then w_NODE else if p0 = 1 then w_LEAF_NODE else if p0 = 2 then w_POLICY else w_INDEX) :
    Ctr l Z (⟨"com/example/facetree/facetree/model/ObjectTypeAllowsSeveralParentsPinLaw", "pick", "(I)Lcom/example/facetree/facetree/model/ObjectType;"⟩ : MethodName) method_2_code 1 (some (.object "com/example/facetree/facetree/model/ObjectType")) ({ frames := 0, cells := 0, slots := 0, locals := 0 } : Room) #[(.int p0)] h0 (Q_rm1 Z p0 w_NODE w_LEAF_NODE w_POLICY w_INDEX t h0 n0) := by
  refine Ctr.body (fr := fun m => mkF m 0 #[.val (.int p0)] []) (plainFor_of_name pn_com_example_facetree_facetree_model_ObjectTypeAllowsSeveralParentsPinLaw) (fun m => by first | (simp [entryFrame, mkF, argsToLocals, Value.category]; done) | rfl) fun p e s m below meth c s₁ hx hby hml hZ hown hnm hret hlk X0 e0 => ?_
  have N0 := Fr.nil n0
  have hown : s.vm.findClass "com/example/facetree/facetree/model/ObjectTypeAllowsSeveralParentsPinLaw" = some m.cls := hown
  show W p e below _ (s₁.setTop (mkF m 0 #[.val (.int p0)] []))
  refine W.go (fun _ hr => XS.iloadN X0.here hx rfl (hb hby d1_0) rfl hr) ?_
  show W p e below _ (s₁.setTop (mkF m 1 #[.val (.int p0)] [(.int p0)]))
  by_cases hc1_1 : p0 = (0 : Int32)
  · refine W.go (fun _ hr => XS.ifNo X0.here hx rfl (hb hby d1_1) rfl ((if0 _ _).trans (teq hc1_1).2) hr) ?_
    show W p e below _ (s₁.setTop (mkF m 4 #[.val (.int p0)] []))
    obtain ⟨T2, X2, e2, st2⟩ := getS2 X0 hx hZ hown (host := "") (Or.inl (hw _ (List.mem_of_getElem? (i := 4) rfl))) Via.refl e0 S_NODE (g := (mkF m 4 #[.val (.int p0)] [])) rfl (hb hby d1_4)
    refine W.go st2 ?_
    show W p e below _ (T2.setTop (mkF m 7 #[.val (.int p0)] [(.ref w_NODE)]))
    exact W.retA X2 hx hlk hret rfl rfl (hb hby d1_7) (by decide) (by decide) e2 ⟨by simp [ht, *], N0, rfl⟩
  · refine W.go (fun _ hr => XS.ifYes X0.here hx rfl (pc0 := 1) (pc' := 8) rfl (hb hby d1_1) rfl ((if0 _ _).trans (feq hc1_1).2) (by decide) (by decide) hr) ?_
    show W p e below _ (s₁.setTop (mkF m 8 #[.val (.int p0)] []))
    refine W.go (fun _ hr => XS.iloadN X0.here hx rfl (hb hby d1_8) rfl hr) ?_
    show W p e below _ (s₁.setTop (mkF m 9 #[.val (.int p0)] [(.int p0)]))
    refine W.go (fun _ hr => XS.iconst X0.here hx rfl (hb hby d1_9) hr) ?_
    show W p e below _ (s₁.setTop (mkF m 10 #[.val (.int p0)] [(.int (1 : Int32)), (.int p0)]))
    by_cases hc10_3 : p0 = (1 : Int32)
    · refine W.go (fun _ hr => XS.icmpNo X0.here hx rfl (hb hby d1_10) rfl (teq hc10_3).2 hr) ?_
      show W p e below _ (s₁.setTop (mkF m 13 #[.val (.int p0)] []))
      obtain ⟨T4, X4, e4, st4⟩ := getS2 X0 hx hZ hown (host := "") (Or.inl (hw _ (List.mem_of_getElem? (i := 21) rfl))) Via.refl e0 S_LEAF_NODE (g := (mkF m 13 #[.val (.int p0)] [])) rfl (hb hby d1_13)
      refine W.go st4 ?_
      show W p e below _ (T4.setTop (mkF m 16 #[.val (.int p0)] [(.ref w_LEAF_NODE)]))
      exact W.retA X4 hx hlk hret rfl rfl (hb hby d1_16) (by decide) (by decide) e4 ⟨by simp [ht, *], N0, rfl⟩
    · refine W.go (fun _ hr => XS.icmpYes X0.here hx rfl (pc0 := 10) (pc' := 17) rfl (hb hby d1_10) rfl (feq hc10_3).2 (by decide) (by decide) hr) ?_
      show W p e below _ (s₁.setTop (mkF m 17 #[.val (.int p0)] []))
      refine W.go (fun _ hr => XS.iloadN X0.here hx rfl (hb hby d1_17) rfl hr) ?_
      show W p e below _ (s₁.setTop (mkF m 18 #[.val (.int p0)] [(.int p0)]))
      refine W.go (fun _ hr => XS.iconst X0.here hx rfl (hb hby d1_18) hr) ?_
      show W p e below _ (s₁.setTop (mkF m 19 #[.val (.int p0)] [(.int (2 : Int32)), (.int p0)]))
      by_cases hc19_5 : p0 = (2 : Int32)
      · refine W.go (fun _ hr => XS.icmpNo X0.here hx rfl (hb hby d1_19) rfl (teq hc19_5).2 hr) ?_
        show W p e below _ (s₁.setTop (mkF m 22 #[.val (.int p0)] []))
        obtain ⟨T6, X6, e6, st6⟩ := getS2 X0 hx hZ hown (host := "") (Or.inl (hw _ (List.mem_of_getElem? (i := 19) rfl))) Via.refl e0 S_POLICY (g := (mkF m 22 #[.val (.int p0)] [])) rfl (hb hby d1_22)
        refine W.go st6 ?_
        show W p e below _ (T6.setTop (mkF m 25 #[.val (.int p0)] [(.ref w_POLICY)]))
        exact W.retA X6 hx hlk hret rfl rfl (hb hby d1_25) (by decide) (by decide) e6 ⟨by simp [ht, *], N0, rfl⟩
      · refine W.go (fun _ hr => XS.icmpYes X0.here hx rfl (pc0 := 19) (pc' := 26) rfl (hb hby d1_19) rfl (feq hc19_5).2 (by decide) (by decide) hr) ?_
        show W p e below _ (s₁.setTop (mkF m 26 #[.val (.int p0)] []))
        obtain ⟨T7, X7, e7, st7⟩ := getS2 X0 hx hZ hown (host := "") (Or.inl (hw _ (List.mem_of_getElem? (i := 17) rfl))) Via.refl e0 S_INDEX (g := (mkF m 26 #[.val (.int p0)] [])) rfl (hb hby d1_26)
        refine W.go st7 ?_
        show W p e below _ (T7.setTop (mkF m 29 #[.val (.int p0)] [(.ref w_INDEX)]))
        exact W.retA X7 hx hlk hret rfl rfl (hb hby d1_29) (by decide) (by decide) e7 ⟨by simp [ht, *], N0, rfl⟩
theorem d2_0 : decode prog_11_method_5_code 0 = .ok (.aload_n 0, 1) := by decide +kernel
theorem d2_1 : decode prog_11_method_5_code 1 = .ok (.getstatic 7, 3) := by decide +kernel
theorem d2_4 : decode prog_11_method_5_code 4 = .ok (.if_acmp .ne 7, 3) := by decide +kernel
theorem d2_7 : decode prog_11_method_5_code 7 = .ok (.iconst 1, 1) := by decide +kernel
theorem d2_8 : decode prog_11_method_5_code 8 = .ok (.goto 4, 3) := by decide +kernel
theorem d2_12 : decode prog_11_method_5_code 12 = .ok (.ireturn, 1) := by decide +kernel
theorem d2_11 : decode prog_11_method_5_code 11 = .ok (.iconst 0, 1) := by decide +kernel
theorem pn_com_example_facetree_facetree_model_ObjectType : plainName "com/example/facetree/facetree/model/ObjectType" = true := by first | (simp [plainName, overriddenIn]; done) | decide +kernel
def Q_rm2 (Z : State) (r0 : Addr) (w_LEAF_NODE : Addr) (z : Int32) (h0 : Heap) (n0 : Nat) (v : Option Value) (h : Heap) (L : List Loc) : Prop := v = some (.int z) ∧ Fr n0 L ∧ h = h0
set_option maxRecDepth 65536 in
set_option maxHeartbeats 40000000 in
theorem rm2 (l : Launch) (Z : State) (a0 : Array Value) (hw : ∀ d ∈ tables_1, d.before a0 Z = true) (r0 : Addr) (w_LEAF_NODE : Addr) (z : Int32) (h0 : Heap) (n0 : Nat) (Z0 : n0 ≤ h0.size) (S_LEAF_NODE : Sta Z h0 "com/example/facetree/facetree/model/ObjectType" "LEAF_NODE" "Lcom/example/facetree/facetree/model/ObjectType;" (.ref w_LEAF_NODE)) (hz : z = if r0 = w_LEAF_NODE then (1 : Int32) else 0) :
    Ctr l Z (⟨"com/example/facetree/facetree/model/ObjectType", "allowsSeveralParents", "()Z"⟩ : MethodName) prog_11_method_5_code 1 (some .boolean) ({ frames := 0, cells := 0, slots := 0, locals := 0 } : Room) #[(.ref r0)] h0 (Q_rm2 Z r0 w_LEAF_NODE z h0 n0) := by
  refine Ctr.body (fr := fun m => mkF m 0 #[.val (.ref r0)] []) (plainFor_of_name pn_com_example_facetree_facetree_model_ObjectType) (fun m => by first | (simp [entryFrame, mkF, argsToLocals, Value.category]; done) | rfl) fun p e s m below meth c s₁ hx hby hml hZ hown hnm hret hlk X0 e0 => ?_
  have N0 := Fr.nil n0
  have hown : s.vm.findClass "com/example/facetree/facetree/model/ObjectType" = some m.cls := hown
  show W p e below _ (s₁.setTop (mkF m 0 #[.val (.ref r0)] []))
  refine W.go (fun _ hr => XS.aloadN X0.here hx rfl (hb hby d2_0) rfl rfl hr) ?_
  show W p e below _ (s₁.setTop (mkF m 1 #[.val (.ref r0)] [(.ref r0)]))
  obtain ⟨T1, X1, e1, st1⟩ := getS2 X0 hx hZ hown (host := "") (Or.inl (hw _ (List.mem_of_getElem? (i := 12) rfl))) Via.refl e0 S_LEAF_NODE (g := (mkF m 1 #[.val (.ref r0)] [(.ref r0)])) rfl (hb hby d2_1)
  refine W.go st1 ?_
  show W p e below _ (T1.setTop (mkF m 4 #[.val (.ref r0)] [(.ref w_LEAF_NODE), (.ref r0)]))
  by_cases ha4_2 : r0 = w_LEAF_NODE
  · refine W.go (fun _ hr => Jvm.RoadKit.acmp (g := (mkF m 4 #[.val (.ref r0)] [(.ref w_LEAF_NODE), (.ref r0)])) X1 hx rfl rfl rfl (pc0 := 4) (pc' := 7) (same := true) rfl (hb hby d2_4) rfl (decide_eq_true (congrArg Value.ref ha4_2)) (by decide) (by decide) hr) ?_
    show W p e below _ (T1.setTop (mkF m 7 #[.val (.ref r0)] []))
    refine W.go (fun _ hr => XS.iconst X1.here hx rfl (hb hby d2_7) hr) ?_
    show W p e below _ (T1.setTop (mkF m 8 #[.val (.ref r0)] [(.int (1 : Int32))]))
    refine W.go (fun _ hr => XS.goto X1.here hx rfl (pc0 := 8) (pc' := 12) rfl (hb hby d2_8) (by decide) (by decide) hr) ?_
    show W p e below _ (T1.setTop (mkF m 12 #[.val (.ref r0)] [(.int (1 : Int32))]))
    exact W.retB X1 hx hlk (t := .boolean) hret (by simp) (hb hby d2_12) (by decide) (by decide) e1 ⟨by simp [hz, *, nar], N0, rfl⟩
  · refine W.go (fun _ hr => Jvm.RoadKit.acmp (g := (mkF m 4 #[.val (.ref r0)] [(.ref w_LEAF_NODE), (.ref r0)])) X1 hx rfl rfl rfl (pc0 := 4) (pc' := 11) (same := false) rfl (hb hby d2_4) rfl (decide_eq_false fun q => ha4_2 (Value.ref.inj q)) (by decide) (by decide) hr) ?_
    show W p e below _ (T1.setTop (mkF m 11 #[.val (.ref r0)] []))
    refine W.go (fun _ hr => XS.iconst X1.here hx rfl (hb hby d2_11) hr) ?_
    show W p e below _ (T1.setTop (mkF m 12 #[.val (.ref r0)] [(.int (0 : Int32))]))
    exact W.retB X1 hx hlk (t := .boolean) hret (by simp) (hb hby d2_12) (by decide) (by decide) e1 ⟨by simp [hz, *, nar], N0, rfl⟩
theorem d3_0 : decode method_3_code 0 = .ok (.iload_n 0, 1) := by decide +kernel
theorem d3_1 : decode method_3_code 1 = .ok (.ifCond .ne 5, 3) := by decide +kernel
theorem d3_4 : decode method_3_code 4 = .ok (.iconst 0, 1) := by decide +kernel
theorem d3_5 : decode method_3_code 5 = .ok (.ireturn, 1) := by decide +kernel
theorem d3_6 : decode method_3_code 6 = .ok (.iload_n 0, 1) := by decide +kernel
theorem d3_7 : decode method_3_code 7 = .ok (.iconst 1, 1) := by decide +kernel
theorem d3_8 : decode method_3_code 8 = .ok (.if_icmp .ne 5, 3) := by decide +kernel
theorem d3_11 : decode method_3_code 11 = .ok (.iconst 1, 1) := by decide +kernel
theorem d3_12 : decode method_3_code 12 = .ok (.ireturn, 1) := by decide +kernel
theorem d3_13 : decode method_3_code 13 = .ok (.iload_n 0, 1) := by decide +kernel
theorem d3_14 : decode method_3_code 14 = .ok (.iconst 2, 1) := by decide +kernel
theorem d3_15 : decode method_3_code 15 = .ok (.if_icmp .ne 5, 3) := by decide +kernel
theorem d3_18 : decode method_3_code 18 = .ok (.iconst 0, 1) := by decide +kernel
theorem d3_19 : decode method_3_code 19 = .ok (.ireturn, 1) := by decide +kernel
theorem d3_20 : decode method_3_code 20 = .ok (.iconst 0, 1) := by decide +kernel
theorem d3_21 : decode method_3_code 21 = .ok (.ireturn, 1) := by decide +kernel
def Q_rm3 (Z : State) (p0 : Int32) (z : Int32) (h0 : Heap) (n0 : Nat) (v : Option Value) (h : Heap) (L : List Loc) : Prop := v = some (.int z) ∧ Fr n0 L ∧ h = h0
set_option maxRecDepth 65536 in
set_option maxHeartbeats 40000000 in
theorem rm3 (l : Launch) (Z : State) (a0 : Array Value) (hw : ∀ d ∈ tables_1, d.before a0 Z = true) (p0 : Int32) (z : Int32) (h0 : Heap) (n0 : Nat) (Z0 : n0 ≤ h0.size) (hz : z = if p0 = 1 then (1 : Int32) else 0) :
    Ctr l Z (⟨"com/example/facetree/facetree/model/ObjectTypeAllowsSeveralParentsPinLaw", "expected", "(I)Z"⟩ : MethodName) method_3_code 1 (some .boolean) ({ frames := 0, cells := 0, slots := 0, locals := 0 } : Room) #[(.int p0)] h0 (Q_rm3 Z p0 z h0 n0) := by
  refine Ctr.body (fr := fun m => mkF m 0 #[.val (.int p0)] []) (plainFor_of_name pn_com_example_facetree_facetree_model_ObjectTypeAllowsSeveralParentsPinLaw) (fun m => by first | (simp [entryFrame, mkF, argsToLocals, Value.category]; done) | rfl) fun p e s m below meth c s₁ hx hby hml hZ hown hnm hret hlk X0 e0 => ?_
  have N0 := Fr.nil n0
  have hown : s.vm.findClass "com/example/facetree/facetree/model/ObjectTypeAllowsSeveralParentsPinLaw" = some m.cls := hown
  show W p e below _ (s₁.setTop (mkF m 0 #[.val (.int p0)] []))
  refine W.go (fun _ hr => XS.iloadN X0.here hx rfl (hb hby d3_0) rfl hr) ?_
  show W p e below _ (s₁.setTop (mkF m 1 #[.val (.int p0)] [(.int p0)]))
  by_cases hc1_1 : p0 = (0 : Int32)
  · refine W.go (fun _ hr => XS.ifNo X0.here hx rfl (hb hby d3_1) rfl ((if0 _ _).trans (teq hc1_1).2) hr) ?_
    show W p e below _ (s₁.setTop (mkF m 4 #[.val (.int p0)] []))
    refine W.go (fun _ hr => XS.iconst X0.here hx rfl (hb hby d3_4) hr) ?_
    show W p e below _ (s₁.setTop (mkF m 5 #[.val (.int p0)] [(.int (0 : Int32))]))
    exact W.retB X0 hx hlk (t := .boolean) hret (by simp) (hb hby d3_5) (by decide) (by decide) e0 ⟨by simp [hz, *, nar], N0, rfl⟩
  · refine W.go (fun _ hr => XS.ifYes X0.here hx rfl (pc0 := 1) (pc' := 6) rfl (hb hby d3_1) rfl ((if0 _ _).trans (feq hc1_1).2) (by decide) (by decide) hr) ?_
    show W p e below _ (s₁.setTop (mkF m 6 #[.val (.int p0)] []))
    refine W.go (fun _ hr => XS.iloadN X0.here hx rfl (hb hby d3_6) rfl hr) ?_
    show W p e below _ (s₁.setTop (mkF m 7 #[.val (.int p0)] [(.int p0)]))
    refine W.go (fun _ hr => XS.iconst X0.here hx rfl (hb hby d3_7) hr) ?_
    show W p e below _ (s₁.setTop (mkF m 8 #[.val (.int p0)] [(.int (1 : Int32)), (.int p0)]))
    by_cases hc8_2 : p0 = (1 : Int32)
    · refine W.go (fun _ hr => XS.icmpNo X0.here hx rfl (hb hby d3_8) rfl (teq hc8_2).2 hr) ?_
      show W p e below _ (s₁.setTop (mkF m 11 #[.val (.int p0)] []))
      refine W.go (fun _ hr => XS.iconst X0.here hx rfl (hb hby d3_11) hr) ?_
      show W p e below _ (s₁.setTop (mkF m 12 #[.val (.int p0)] [(.int (1 : Int32))]))
      exact W.retB X0 hx hlk (t := .boolean) hret (by simp) (hb hby d3_12) (by decide) (by decide) e0 ⟨by simp [hz, *, nar], N0, rfl⟩
    · refine W.go (fun _ hr => XS.icmpYes X0.here hx rfl (pc0 := 8) (pc' := 13) rfl (hb hby d3_8) rfl (feq hc8_2).2 (by decide) (by decide) hr) ?_
      show W p e below _ (s₁.setTop (mkF m 13 #[.val (.int p0)] []))
      refine W.go (fun _ hr => XS.iloadN X0.here hx rfl (hb hby d3_13) rfl hr) ?_
      show W p e below _ (s₁.setTop (mkF m 14 #[.val (.int p0)] [(.int p0)]))
      refine W.go (fun _ hr => XS.iconst X0.here hx rfl (hb hby d3_14) hr) ?_
      show W p e below _ (s₁.setTop (mkF m 15 #[.val (.int p0)] [(.int (2 : Int32)), (.int p0)]))
      by_cases hc15_3 : p0 = (2 : Int32)
      · refine W.go (fun _ hr => XS.icmpNo X0.here hx rfl (hb hby d3_15) rfl (teq hc15_3).2 hr) ?_
        show W p e below _ (s₁.setTop (mkF m 18 #[.val (.int p0)] []))
        refine W.go (fun _ hr => XS.iconst X0.here hx rfl (hb hby d3_18) hr) ?_
        show W p e below _ (s₁.setTop (mkF m 19 #[.val (.int p0)] [(.int (0 : Int32))]))
        exact W.retB X0 hx hlk (t := .boolean) hret (by simp) (hb hby d3_19) (by decide) (by decide) e0 ⟨by simp [hz, *, nar], N0, rfl⟩
      · refine W.go (fun _ hr => XS.icmpYes X0.here hx rfl (pc0 := 15) (pc' := 20) rfl (hb hby d3_15) rfl (feq hc15_3).2 (by decide) (by decide) hr) ?_
        show W p e below _ (s₁.setTop (mkF m 20 #[.val (.int p0)] []))
        refine W.go (fun _ hr => XS.iconst X0.here hx rfl (hb hby d3_20) hr) ?_
        show W p e below _ (s₁.setTop (mkF m 21 #[.val (.int p0)] [(.int (0 : Int32))]))
        exact W.retB X0 hx hlk (t := .boolean) hret (by simp) (hb hby d3_21) (by decide) (by decide) e0 ⟨by simp [hz, *, nar], N0, rfl⟩
theorem own4 (i : Int32) : i = 0 ∨ (¬ i = 0 ∧ i = 1) ∨ (¬ i = 0 ∧ ¬ i = 1 ∧ i = 2) ∨ (¬ i = 0 ∧ ¬ i = 1 ∧ ¬ i = 2) := by
  by_cases h0 : i = 0
  · exact Or.inl h0
  by_cases h1 : i = 1
  · exact Or.inr (Or.inl ⟨h0, h1⟩)
  by_cases h2 : i = 2
  · exact Or.inr (Or.inr (Or.inl ⟨h0, h1, h2⟩))
  · exact Or.inr (Or.inr (Or.inr ⟨h0, h1, h2⟩))
theorem pd_41 : parseMethodDescriptor "(I)Lcom/example/facetree/facetree/model/ObjectType;" = some ⟨[.int], some (.object "com/example/facetree/facetree/model/ObjectType")⟩ := by decide +kernel
theorem pd_42 : parseMethodDescriptor "()Z" = some ⟨[], some .boolean⟩ := by decide +kernel
theorem pd_43 : parseMethodDescriptor "(I)Z" = some ⟨[.int], some .boolean⟩ := by decide +kernel
def Q_rm0 (Z : State) (p0 : Int32) (w_NODE : Addr) (w_LEAF_NODE : Addr) (w_POLICY : Addr) (w_INDEX : Addr) (h0 : Heap) (n0 : Nat) (v : Option Value) (h : Heap) (L : List Loc) : Prop := v = some (.int (1 : Int32)) ∧ Fr n0 L
set_option maxRecDepth 65536 in
set_option maxHeartbeats 40000000 in
theorem rm0 (l : Launch) (Z : State) (a0 : Array Value) (hw : ∀ d ∈ tables_1, d.before a0 Z = true) (p0 : Int32) (w_NODE : Addr) (w_LEAF_NODE : Addr) (w_POLICY : Addr) (w_INDEX : Addr) (h0 : Heap) (n0 : Nat) (Z0 : n0 ≤ h0.size) (S_NODE : Sta Z h0 "com/example/facetree/facetree/model/ObjectType" "NODE" "Lcom/example/facetree/facetree/model/ObjectType;" (.ref w_NODE)) (S_LEAF_NODE : Sta Z h0 "com/example/facetree/facetree/model/ObjectType" "LEAF_NODE" "Lcom/example/facetree/facetree/model/ObjectType;" (.ref w_LEAF_NODE)) (S_POLICY : Sta Z h0 "com/example/facetree/facetree/model/ObjectType" "POLICY" "Lcom/example/facetree/facetree/model/ObjectType;" (.ref w_POLICY)) (S_INDEX : Sta Z h0 "com/example/facetree/facetree/model/ObjectType" "INDEX" "Lcom/example/facetree/facetree/model/ObjectType;" (.ref w_INDEX)) (E_w_NODE : Exa Z h0 w_NODE "com/example/facetree/facetree/model/ObjectType") (E_w_LEAF_NODE : Exa Z h0 w_LEAF_NODE "com/example/facetree/facetree/model/ObjectType") (E_w_POLICY : Exa Z h0 w_POLICY "com/example/facetree/facetree/model/ObjectType") (E_w_INDEX : Exa Z h0 w_INDEX "com/example/facetree/facetree/model/ObjectType") (ne_NODE_LEAF_NODE : w_NODE ≠ w_LEAF_NODE) (ne_POLICY_LEAF_NODE : w_POLICY ≠ w_LEAF_NODE) (ne_INDEX_LEAF_NODE : w_INDEX ≠ w_LEAF_NODE) :
    Ctr l Z x code maxLocals ret room_1 #[(.int p0)] h0 (Q_rm0 Z p0 w_NODE w_LEAF_NODE w_POLICY w_INDEX h0 n0) := by
  refine Ctr.body (fr := fun m => mkF m 0 #[.val (.int p0), .unset, .unset] []) (plainFor_of_name pn_com_example_facetree_facetree_model_ObjectTypeAllowsSeveralParentsPinLaw) (fun m => by first | (simp [entryFrame, mkF, argsToLocals, Value.category, maxLocals]; done) | rfl) fun p e s m below meth c s₁ hx hby hml hZ hown hnm hret hlk X0 e0 => ?_
  have N0 := Fr.nil n0
  have hown : s.vm.findClass "com/example/facetree/facetree/model/ObjectTypeAllowsSeveralParentsPinLaw" = some m.cls := hown
  show W p e below _ (s₁.setTop (mkF m 0 #[.val (.int p0), .unset, .unset] []))
  refine W.go (fun _ hr => XS.iloadN X0.here hx rfl (hb hby at_0) rfl hr) ?_
  show W p e below _ (s₁.setTop (mkF m 1 #[.val (.int p0), .unset, .unset] [(.int p0)]))
  refine W.go (fun _ hr => XS.iconst X0.here hx rfl (hb hby at_1) hr) ?_
  show W p e below _ (s₁.setTop (mkF m 2 #[.val (.int p0), .unset, .unset] [(.int (3 : Int32)), (.int p0)]))
  refine W.go (fun _ hr => XS.iand X0.here hx rfl (hb hby at_2) rfl hr) ?_
  show W p e below _ (s₁.setTop (mkF m 3 #[.val (.int p0), .unset, .unset] [(.int (p0 &&& (3 : Int32)))]))
  generalize e_i : (p0 &&& (3 : Int32)) = i
  rcases own4 i with q0 | ⟨q0, q1⟩ | ⟨q0, q1, q2⟩ | ⟨q0, q1, q2⟩
  · refine W.go (fun _ hr => XS.istoreN X0.here hx rfl (hb hby at_3) rfl (l' := #[.val (.int p0), .val (.int i), .unset]) rfl hr) ?_
    show W p e below _ (s₁.setTop (mkF m 4 #[.val (.int p0), .val (.int i), .unset] []))
    refine W.go (fun _ hr => XS.iloadN X0.here hx rfl (hb hby at_4) rfl hr) ?_
    show W p e below _ (s₁.setTop (mkF m 5 #[.val (.int p0), .val (.int i), .unset] [(.int i)]))
    refine W.callS X0 hx hZ hown (g := (mkF m 5 #[.val (.int p0), .val (.int i), .unset] [(.int i)])) (by rw [hml]; rfl) (hw _ (List.mem_of_getElem? (i := 0) rfl)) (hw _ (List.mem_of_getElem? (i := 1) rfl)) (hw _ (List.mem_of_getElem? (i := 2) rfl)) (hw _ (List.mem_of_getElem? (i := 3) rfl)) e0 (rm1 l Z a0 hw i w_NODE w_LEAF_NODE w_POLICY w_INDEX w_NODE h0 n0 Z0 S_NODE S_LEAF_NODE S_POLICY S_INDEX (by simp [q0])) (by decide) pd_41 rfl (argsL := [(.int i)]) (rest := []) rfl rfl rfl (hb hby at_5) (W0 := 0) rfl (by decide) (by decide) (by decide) (by decide) (fun v1 T1 h1 L1 X1 e1 hQ1 => ?_)
    obtain ⟨rfl, N1q, hh1⟩ := hQ1
    obtain rfl := hh1.symm
    have N1 := Fr.app N0 N1q
    show W p e below _ (T1.setTop (mkF m 8 #[.val (.int p0), .val (.int i), .unset] [(.ref w_NODE)]))
    refine W.go (fun _ hr => XS.astoreN X1.here hx rfl (hb hby at_8) rfl rfl (l' := #[.val (.int p0), .val (.int i), .val (.ref w_NODE)]) rfl hr) ?_
    show W p e below _ (T1.setTop (mkF m 9 #[.val (.int p0), .val (.int i), .val (.ref w_NODE)] []))
    refine W.go (fun _ hr => XS.aloadN X1.here hx rfl (hb hby at_9) rfl rfl hr) ?_
    show W p e below _ (T1.setTop (mkF m 10 #[.val (.int p0), .val (.int i), .val (.ref w_NODE)] [(.ref w_NODE)]))
    refine W.callV X1 hx hZ hown (g := (mkF m 10 #[.val (.int p0), .val (.int i), .val (.ref w_NODE)] [(.ref w_NODE)])) (by rw [hml]; rfl) (hw _ (List.mem_of_getElem? (i := 7) rfl)) (hw _ (List.mem_of_getElem? (i := 8) rfl)) (hw _ (List.mem_of_getElem? (i := 10) rfl)) (hw _ (List.mem_of_getElem? (i := 9) rfl)) (hw _ (List.mem_of_getElem? (i := 5) rfl)) (hw _ (List.mem_of_getElem? (i := 11) rfl)) e1 (rm2 l Z a0 hw w_NODE w_LEAF_NODE (0 : Int32) h0 n0 Z0 S_LEAF_NODE (by simp [ne_NODE_LEAF_NODE])) (notFace_of_selects (args := #[]) (mvT hZ (hw _ (List.mem_of_getElem? (i := 10) rfl)))) (by decide) pd_42 rfl E_w_NODE (argsL := []) (rest := []) rfl rfl rfl (hb hby at_10) (W0 := 0) rfl (by decide) (by decide) (by decide) (by decide) (fun v2 T2 h2 L2 X2 e2 hQ2 => ?_)
    obtain ⟨rfl, N2q, hh2⟩ := hQ2
    obtain rfl := hh2.symm
    have N2 := Fr.app N1 N2q
    show W p e below _ (T2.setTop (mkF m 13 #[.val (.int p0), .val (.int i), .val (.ref w_NODE)] [(.int (0 : Int32))]))
    refine W.go (fun _ hr => XS.iloadN X2.here hx rfl (hb hby at_13) rfl hr) ?_
    show W p e below _ (T2.setTop (mkF m 14 #[.val (.int p0), .val (.int i), .val (.ref w_NODE)] [(.int i), (.int (0 : Int32))]))
    refine W.callS X2 hx hZ hown (g := (mkF m 14 #[.val (.int p0), .val (.int i), .val (.ref w_NODE)] [(.int i), (.int (0 : Int32))])) (by rw [hml]; rfl) (hw _ (List.mem_of_getElem? (i := 14) rfl)) (hw _ (List.mem_of_getElem? (i := 15) rfl)) (hw _ (List.mem_of_getElem? (i := 2) rfl)) (hw _ (List.mem_of_getElem? (i := 16) rfl)) e2 (rm3 l Z a0 hw i (0 : Int32) h0 n0 Z0 (by simp [q0])) (by decide) pd_43 rfl (argsL := [(.int i)]) (rest := [(.int (0 : Int32))]) rfl rfl rfl (hb hby at_14) (W0 := 1) rfl (by decide) (by decide) (by decide) (by decide) (fun v3 T3 h3 L3 X3 e3 hQ3 => ?_)
    obtain ⟨rfl, N3q, hh3⟩ := hQ3
    obtain rfl := hh3.symm
    have N3 := Fr.app N2 N3q
    show W p e below _ (T3.setTop (mkF m 17 #[.val (.int p0), .val (.int i), .val (.ref w_NODE)] [(.int (0 : Int32)), (.int (0 : Int32))]))
    refine W.go (fun _ hr => XS.icmpNo X3.here hx rfl (hb hby at_17) rfl (teq (by decide : ((0 : Int32) = (0 : Int32)))).2 hr) ?_
    show W p e below _ (T3.setTop (mkF m 20 #[.val (.int p0), .val (.int i), .val (.ref w_NODE)] []))
    refine W.go (fun _ hr => XS.iconst X3.here hx rfl (hb hby at_20) hr) ?_
    show W p e below _ (T3.setTop (mkF m 21 #[.val (.int p0), .val (.int i), .val (.ref w_NODE)] [(.int (1 : Int32))]))
    refine W.go (fun _ hr => XS.goto X3.here hx rfl (pc0 := 21) (pc' := 25) rfl (hb hby at_21) (by decide) (by decide) hr) ?_
    show W p e below _ (T3.setTop (mkF m 25 #[.val (.int p0), .val (.int i), .val (.ref w_NODE)] [(.int (1 : Int32))]))
    exact W.retB X3 hx hlk (t := .boolean) hret (by simp) (hb hby at_25) (by decide) (by decide) e3 ⟨rfl, N3⟩
  · refine W.go (fun _ hr => XS.istoreN X0.here hx rfl (hb hby at_3) rfl (l' := #[.val (.int p0), .val (.int i), .unset]) rfl hr) ?_
    show W p e below _ (s₁.setTop (mkF m 4 #[.val (.int p0), .val (.int i), .unset] []))
    refine W.go (fun _ hr => XS.iloadN X0.here hx rfl (hb hby at_4) rfl hr) ?_
    show W p e below _ (s₁.setTop (mkF m 5 #[.val (.int p0), .val (.int i), .unset] [(.int i)]))
    refine W.callS X0 hx hZ hown (g := (mkF m 5 #[.val (.int p0), .val (.int i), .unset] [(.int i)])) (by rw [hml]; rfl) (hw _ (List.mem_of_getElem? (i := 0) rfl)) (hw _ (List.mem_of_getElem? (i := 1) rfl)) (hw _ (List.mem_of_getElem? (i := 2) rfl)) (hw _ (List.mem_of_getElem? (i := 3) rfl)) e0 (rm1 l Z a0 hw i w_NODE w_LEAF_NODE w_POLICY w_INDEX w_LEAF_NODE h0 n0 Z0 S_NODE S_LEAF_NODE S_POLICY S_INDEX (by simp [q1])) (by decide) pd_41 rfl (argsL := [(.int i)]) (rest := []) rfl rfl rfl (hb hby at_5) (W0 := 0) rfl (by decide) (by decide) (by decide) (by decide) (fun v4 T4 h4 L4 X4 e4 hQ4 => ?_)
    obtain ⟨rfl, N4q, hh4⟩ := hQ4
    obtain rfl := hh4.symm
    have N4 := Fr.app N0 N4q
    show W p e below _ (T4.setTop (mkF m 8 #[.val (.int p0), .val (.int i), .unset] [(.ref w_LEAF_NODE)]))
    refine W.go (fun _ hr => XS.astoreN X4.here hx rfl (hb hby at_8) rfl rfl (l' := #[.val (.int p0), .val (.int i), .val (.ref w_LEAF_NODE)]) rfl hr) ?_
    show W p e below _ (T4.setTop (mkF m 9 #[.val (.int p0), .val (.int i), .val (.ref w_LEAF_NODE)] []))
    refine W.go (fun _ hr => XS.aloadN X4.here hx rfl (hb hby at_9) rfl rfl hr) ?_
    show W p e below _ (T4.setTop (mkF m 10 #[.val (.int p0), .val (.int i), .val (.ref w_LEAF_NODE)] [(.ref w_LEAF_NODE)]))
    refine W.callV X4 hx hZ hown (g := (mkF m 10 #[.val (.int p0), .val (.int i), .val (.ref w_LEAF_NODE)] [(.ref w_LEAF_NODE)])) (by rw [hml]; rfl) (hw _ (List.mem_of_getElem? (i := 7) rfl)) (hw _ (List.mem_of_getElem? (i := 8) rfl)) (hw _ (List.mem_of_getElem? (i := 10) rfl)) (hw _ (List.mem_of_getElem? (i := 9) rfl)) (hw _ (List.mem_of_getElem? (i := 5) rfl)) (hw _ (List.mem_of_getElem? (i := 11) rfl)) e4 (rm2 l Z a0 hw w_LEAF_NODE w_LEAF_NODE (1 : Int32) h0 n0 Z0 S_LEAF_NODE (by simp)) (notFace_of_selects (args := #[]) (mvT hZ (hw _ (List.mem_of_getElem? (i := 10) rfl)))) (by decide) pd_42 rfl E_w_LEAF_NODE (argsL := []) (rest := []) rfl rfl rfl (hb hby at_10) (W0 := 0) rfl (by decide) (by decide) (by decide) (by decide) (fun v5 T5 h5 L5 X5 e5 hQ5 => ?_)
    obtain ⟨rfl, N5q, hh5⟩ := hQ5
    obtain rfl := hh5.symm
    have N5 := Fr.app N4 N5q
    show W p e below _ (T5.setTop (mkF m 13 #[.val (.int p0), .val (.int i), .val (.ref w_LEAF_NODE)] [(.int (1 : Int32))]))
    refine W.go (fun _ hr => XS.iloadN X5.here hx rfl (hb hby at_13) rfl hr) ?_
    show W p e below _ (T5.setTop (mkF m 14 #[.val (.int p0), .val (.int i), .val (.ref w_LEAF_NODE)] [(.int i), (.int (1 : Int32))]))
    refine W.callS X5 hx hZ hown (g := (mkF m 14 #[.val (.int p0), .val (.int i), .val (.ref w_LEAF_NODE)] [(.int i), (.int (1 : Int32))])) (by rw [hml]; rfl) (hw _ (List.mem_of_getElem? (i := 14) rfl)) (hw _ (List.mem_of_getElem? (i := 15) rfl)) (hw _ (List.mem_of_getElem? (i := 2) rfl)) (hw _ (List.mem_of_getElem? (i := 16) rfl)) e5 (rm3 l Z a0 hw i (1 : Int32) h0 n0 Z0 (by simp [q1])) (by decide) pd_43 rfl (argsL := [(.int i)]) (rest := [(.int (1 : Int32))]) rfl rfl rfl (hb hby at_14) (W0 := 1) rfl (by decide) (by decide) (by decide) (by decide) (fun v6 T6 h6 L6 X6 e6 hQ6 => ?_)
    obtain ⟨rfl, N6q, hh6⟩ := hQ6
    obtain rfl := hh6.symm
    have N6 := Fr.app N5 N6q
    show W p e below _ (T6.setTop (mkF m 17 #[.val (.int p0), .val (.int i), .val (.ref w_LEAF_NODE)] [(.int (1 : Int32)), (.int (1 : Int32))]))
    refine W.go (fun _ hr => XS.icmpNo X6.here hx rfl (hb hby at_17) rfl (teq (by decide : ((1 : Int32) = (1 : Int32)))).2 hr) ?_
    show W p e below _ (T6.setTop (mkF m 20 #[.val (.int p0), .val (.int i), .val (.ref w_LEAF_NODE)] []))
    refine W.go (fun _ hr => XS.iconst X6.here hx rfl (hb hby at_20) hr) ?_
    show W p e below _ (T6.setTop (mkF m 21 #[.val (.int p0), .val (.int i), .val (.ref w_LEAF_NODE)] [(.int (1 : Int32))]))
    refine W.go (fun _ hr => XS.goto X6.here hx rfl (pc0 := 21) (pc' := 25) rfl (hb hby at_21) (by decide) (by decide) hr) ?_
    show W p e below _ (T6.setTop (mkF m 25 #[.val (.int p0), .val (.int i), .val (.ref w_LEAF_NODE)] [(.int (1 : Int32))]))
    exact W.retB X6 hx hlk (t := .boolean) hret (by simp) (hb hby at_25) (by decide) (by decide) e6 ⟨rfl, N6⟩
  · refine W.go (fun _ hr => XS.istoreN X0.here hx rfl (hb hby at_3) rfl (l' := #[.val (.int p0), .val (.int i), .unset]) rfl hr) ?_
    show W p e below _ (s₁.setTop (mkF m 4 #[.val (.int p0), .val (.int i), .unset] []))
    refine W.go (fun _ hr => XS.iloadN X0.here hx rfl (hb hby at_4) rfl hr) ?_
    show W p e below _ (s₁.setTop (mkF m 5 #[.val (.int p0), .val (.int i), .unset] [(.int i)]))
    refine W.callS X0 hx hZ hown (g := (mkF m 5 #[.val (.int p0), .val (.int i), .unset] [(.int i)])) (by rw [hml]; rfl) (hw _ (List.mem_of_getElem? (i := 0) rfl)) (hw _ (List.mem_of_getElem? (i := 1) rfl)) (hw _ (List.mem_of_getElem? (i := 2) rfl)) (hw _ (List.mem_of_getElem? (i := 3) rfl)) e0 (rm1 l Z a0 hw i w_NODE w_LEAF_NODE w_POLICY w_INDEX w_POLICY h0 n0 Z0 S_NODE S_LEAF_NODE S_POLICY S_INDEX (by simp [q2])) (by decide) pd_41 rfl (argsL := [(.int i)]) (rest := []) rfl rfl rfl (hb hby at_5) (W0 := 0) rfl (by decide) (by decide) (by decide) (by decide) (fun v7 T7 h7 L7 X7 e7 hQ7 => ?_)
    obtain ⟨rfl, N7q, hh7⟩ := hQ7
    obtain rfl := hh7.symm
    have N7 := Fr.app N0 N7q
    show W p e below _ (T7.setTop (mkF m 8 #[.val (.int p0), .val (.int i), .unset] [(.ref w_POLICY)]))
    refine W.go (fun _ hr => XS.astoreN X7.here hx rfl (hb hby at_8) rfl rfl (l' := #[.val (.int p0), .val (.int i), .val (.ref w_POLICY)]) rfl hr) ?_
    show W p e below _ (T7.setTop (mkF m 9 #[.val (.int p0), .val (.int i), .val (.ref w_POLICY)] []))
    refine W.go (fun _ hr => XS.aloadN X7.here hx rfl (hb hby at_9) rfl rfl hr) ?_
    show W p e below _ (T7.setTop (mkF m 10 #[.val (.int p0), .val (.int i), .val (.ref w_POLICY)] [(.ref w_POLICY)]))
    refine W.callV X7 hx hZ hown (g := (mkF m 10 #[.val (.int p0), .val (.int i), .val (.ref w_POLICY)] [(.ref w_POLICY)])) (by rw [hml]; rfl) (hw _ (List.mem_of_getElem? (i := 7) rfl)) (hw _ (List.mem_of_getElem? (i := 8) rfl)) (hw _ (List.mem_of_getElem? (i := 10) rfl)) (hw _ (List.mem_of_getElem? (i := 9) rfl)) (hw _ (List.mem_of_getElem? (i := 5) rfl)) (hw _ (List.mem_of_getElem? (i := 11) rfl)) e7 (rm2 l Z a0 hw w_POLICY w_LEAF_NODE (0 : Int32) h0 n0 Z0 S_LEAF_NODE (by simp [ne_POLICY_LEAF_NODE])) (notFace_of_selects (args := #[]) (mvT hZ (hw _ (List.mem_of_getElem? (i := 10) rfl)))) (by decide) pd_42 rfl E_w_POLICY (argsL := []) (rest := []) rfl rfl rfl (hb hby at_10) (W0 := 0) rfl (by decide) (by decide) (by decide) (by decide) (fun v8 T8 h8 L8 X8 e8 hQ8 => ?_)
    obtain ⟨rfl, N8q, hh8⟩ := hQ8
    obtain rfl := hh8.symm
    have N8 := Fr.app N7 N8q
    show W p e below _ (T8.setTop (mkF m 13 #[.val (.int p0), .val (.int i), .val (.ref w_POLICY)] [(.int (0 : Int32))]))
    refine W.go (fun _ hr => XS.iloadN X8.here hx rfl (hb hby at_13) rfl hr) ?_
    show W p e below _ (T8.setTop (mkF m 14 #[.val (.int p0), .val (.int i), .val (.ref w_POLICY)] [(.int i), (.int (0 : Int32))]))
    refine W.callS X8 hx hZ hown (g := (mkF m 14 #[.val (.int p0), .val (.int i), .val (.ref w_POLICY)] [(.int i), (.int (0 : Int32))])) (by rw [hml]; rfl) (hw _ (List.mem_of_getElem? (i := 14) rfl)) (hw _ (List.mem_of_getElem? (i := 15) rfl)) (hw _ (List.mem_of_getElem? (i := 2) rfl)) (hw _ (List.mem_of_getElem? (i := 16) rfl)) e8 (rm3 l Z a0 hw i (0 : Int32) h0 n0 Z0 (by simp [q2])) (by decide) pd_43 rfl (argsL := [(.int i)]) (rest := [(.int (0 : Int32))]) rfl rfl rfl (hb hby at_14) (W0 := 1) rfl (by decide) (by decide) (by decide) (by decide) (fun v9 T9 h9 L9 X9 e9 hQ9 => ?_)
    obtain ⟨rfl, N9q, hh9⟩ := hQ9
    obtain rfl := hh9.symm
    have N9 := Fr.app N8 N9q
    show W p e below _ (T9.setTop (mkF m 17 #[.val (.int p0), .val (.int i), .val (.ref w_POLICY)] [(.int (0 : Int32)), (.int (0 : Int32))]))
    refine W.go (fun _ hr => XS.icmpNo X9.here hx rfl (hb hby at_17) rfl (teq (by decide : ((0 : Int32) = (0 : Int32)))).2 hr) ?_
    show W p e below _ (T9.setTop (mkF m 20 #[.val (.int p0), .val (.int i), .val (.ref w_POLICY)] []))
    refine W.go (fun _ hr => XS.iconst X9.here hx rfl (hb hby at_20) hr) ?_
    show W p e below _ (T9.setTop (mkF m 21 #[.val (.int p0), .val (.int i), .val (.ref w_POLICY)] [(.int (1 : Int32))]))
    refine W.go (fun _ hr => XS.goto X9.here hx rfl (pc0 := 21) (pc' := 25) rfl (hb hby at_21) (by decide) (by decide) hr) ?_
    show W p e below _ (T9.setTop (mkF m 25 #[.val (.int p0), .val (.int i), .val (.ref w_POLICY)] [(.int (1 : Int32))]))
    exact W.retB X9 hx hlk (t := .boolean) hret (by simp) (hb hby at_25) (by decide) (by decide) e9 ⟨rfl, N9⟩
  · refine W.go (fun _ hr => XS.istoreN X0.here hx rfl (hb hby at_3) rfl (l' := #[.val (.int p0), .val (.int i), .unset]) rfl hr) ?_
    show W p e below _ (s₁.setTop (mkF m 4 #[.val (.int p0), .val (.int i), .unset] []))
    refine W.go (fun _ hr => XS.iloadN X0.here hx rfl (hb hby at_4) rfl hr) ?_
    show W p e below _ (s₁.setTop (mkF m 5 #[.val (.int p0), .val (.int i), .unset] [(.int i)]))
    refine W.callS X0 hx hZ hown (g := (mkF m 5 #[.val (.int p0), .val (.int i), .unset] [(.int i)])) (by rw [hml]; rfl) (hw _ (List.mem_of_getElem? (i := 0) rfl)) (hw _ (List.mem_of_getElem? (i := 1) rfl)) (hw _ (List.mem_of_getElem? (i := 2) rfl)) (hw _ (List.mem_of_getElem? (i := 3) rfl)) e0 (rm1 l Z a0 hw i w_NODE w_LEAF_NODE w_POLICY w_INDEX w_INDEX h0 n0 Z0 S_NODE S_LEAF_NODE S_POLICY S_INDEX (by simp [q0, q1, q2])) (by decide) pd_41 rfl (argsL := [(.int i)]) (rest := []) rfl rfl rfl (hb hby at_5) (W0 := 0) rfl (by decide) (by decide) (by decide) (by decide) (fun v10 T10 h10 L10 X10 e10 hQ10 => ?_)
    obtain ⟨rfl, N10q, hh10⟩ := hQ10
    obtain rfl := hh10.symm
    have N10 := Fr.app N0 N10q
    show W p e below _ (T10.setTop (mkF m 8 #[.val (.int p0), .val (.int i), .unset] [(.ref w_INDEX)]))
    refine W.go (fun _ hr => XS.astoreN X10.here hx rfl (hb hby at_8) rfl rfl (l' := #[.val (.int p0), .val (.int i), .val (.ref w_INDEX)]) rfl hr) ?_
    show W p e below _ (T10.setTop (mkF m 9 #[.val (.int p0), .val (.int i), .val (.ref w_INDEX)] []))
    refine W.go (fun _ hr => XS.aloadN X10.here hx rfl (hb hby at_9) rfl rfl hr) ?_
    show W p e below _ (T10.setTop (mkF m 10 #[.val (.int p0), .val (.int i), .val (.ref w_INDEX)] [(.ref w_INDEX)]))
    refine W.callV X10 hx hZ hown (g := (mkF m 10 #[.val (.int p0), .val (.int i), .val (.ref w_INDEX)] [(.ref w_INDEX)])) (by rw [hml]; rfl) (hw _ (List.mem_of_getElem? (i := 7) rfl)) (hw _ (List.mem_of_getElem? (i := 8) rfl)) (hw _ (List.mem_of_getElem? (i := 10) rfl)) (hw _ (List.mem_of_getElem? (i := 9) rfl)) (hw _ (List.mem_of_getElem? (i := 5) rfl)) (hw _ (List.mem_of_getElem? (i := 11) rfl)) e10 (rm2 l Z a0 hw w_INDEX w_LEAF_NODE (0 : Int32) h0 n0 Z0 S_LEAF_NODE (by simp [ne_INDEX_LEAF_NODE])) (notFace_of_selects (args := #[]) (mvT hZ (hw _ (List.mem_of_getElem? (i := 10) rfl)))) (by decide) pd_42 rfl E_w_INDEX (argsL := []) (rest := []) rfl rfl rfl (hb hby at_10) (W0 := 0) rfl (by decide) (by decide) (by decide) (by decide) (fun v11 T11 h11 L11 X11 e11 hQ11 => ?_)
    obtain ⟨rfl, N11q, hh11⟩ := hQ11
    obtain rfl := hh11.symm
    have N11 := Fr.app N10 N11q
    show W p e below _ (T11.setTop (mkF m 13 #[.val (.int p0), .val (.int i), .val (.ref w_INDEX)] [(.int (0 : Int32))]))
    refine W.go (fun _ hr => XS.iloadN X11.here hx rfl (hb hby at_13) rfl hr) ?_
    show W p e below _ (T11.setTop (mkF m 14 #[.val (.int p0), .val (.int i), .val (.ref w_INDEX)] [(.int i), (.int (0 : Int32))]))
    refine W.callS X11 hx hZ hown (g := (mkF m 14 #[.val (.int p0), .val (.int i), .val (.ref w_INDEX)] [(.int i), (.int (0 : Int32))])) (by rw [hml]; rfl) (hw _ (List.mem_of_getElem? (i := 14) rfl)) (hw _ (List.mem_of_getElem? (i := 15) rfl)) (hw _ (List.mem_of_getElem? (i := 2) rfl)) (hw _ (List.mem_of_getElem? (i := 16) rfl)) e11 (rm3 l Z a0 hw i (0 : Int32) h0 n0 Z0 (by simp [q0, q1, q2])) (by decide) pd_43 rfl (argsL := [(.int i)]) (rest := [(.int (0 : Int32))]) rfl rfl rfl (hb hby at_14) (W0 := 1) rfl (by decide) (by decide) (by decide) (by decide) (fun v12 T12 h12 L12 X12 e12 hQ12 => ?_)
    obtain ⟨rfl, N12q, hh12⟩ := hQ12
    obtain rfl := hh12.symm
    have N12 := Fr.app N11 N12q
    show W p e below _ (T12.setTop (mkF m 17 #[.val (.int p0), .val (.int i), .val (.ref w_INDEX)] [(.int (0 : Int32)), (.int (0 : Int32))]))
    refine W.go (fun _ hr => XS.icmpNo X12.here hx rfl (hb hby at_17) rfl (teq (by decide : ((0 : Int32) = (0 : Int32)))).2 hr) ?_
    show W p e below _ (T12.setTop (mkF m 20 #[.val (.int p0), .val (.int i), .val (.ref w_INDEX)] []))
    refine W.go (fun _ hr => XS.iconst X12.here hx rfl (hb hby at_20) hr) ?_
    show W p e below _ (T12.setTop (mkF m 21 #[.val (.int p0), .val (.int i), .val (.ref w_INDEX)] [(.int (1 : Int32))]))
    refine W.go (fun _ hr => XS.goto X12.here hx rfl (pc0 := 21) (pc' := 25) rfl (hb hby at_21) (by decide) (by decide) hr) ?_
    show W p e below _ (T12.setTop (mkF m 25 #[.val (.int p0), .val (.int i), .val (.ref w_INDEX)] [(.int (1 : Int32))]))
    exact W.retB X12 hx hlk (t := .boolean) hret (by simp) (hb hby at_25) (by decide) (by decide) e12 ⟨rfl, N12⟩
set_option maxRecDepth 65536 in
set_option maxHeartbeats 40000000 in
theorem comes_1 {Post : Tables → Env → Array Value → State → Outcome → State → Prop} (hpost : ∀ tb e args s v u, (limb_1_1.after args s (.returned v) u = true ∧ limb_1_2.after args s (.returned v) u = true ∧ True) → FrameEnd s (.returned v) u (Jvm.fieldLocs frame_1_writes args s ++ Jvm.arrayLocs frame_1_arrays args s ++ Jvm.staticLocs frame_1_statics s) 0 0 → Post tb e args s (.returned v) u) :
    ArmFor flags0 classFile x code maxLocals ret World_1 tables_1 room_1 Calls_1 rest_1 Pre_1 Post := by
  intro l hfl _ _ p e ha hc hk s m args below hf hA hF happ hP
  obtain ⟨hcalls, hrest, hpre⟩ := hP
  obtain ⟨-, -, -, hnamed, -, -, -, hat⟩ := (Spec.applies_iff hf).mp happ
  obtain ⟨hg, hn⟩ := and_e (Cond.before_iff.mp (show (Jvm.Cond.and given_1 narrow_1).before args s = true from hpre))
  obtain ⟨c1, c2⟩ := and_e hg
  obtain ⟨c3, c4⟩ := and_e hn
  obtain ⟨c5, c6⟩ := and_e c4
  obtain ⟨c7, c8⟩ := and_e c6
  obtain ⟨c9, c10⟩ := and_e c8
  obtain ⟨c11, c12⟩ := and_e c10
  obtain ⟨c13, c14⟩ := and_e c12
  obtain ⟨c15, c16⟩ := and_e c14
  obtain ⟨w0, rfl⟩ : ∃ w0 : Value, args = #[w0] := by
    have hs : args.size = 1 := by simpa [Cond.value, given_1] using c1
    obtain ⟨L⟩ := args
    match L, hs with
    | [w0], _ => exact ⟨w0, rfl⟩
  have hw := fun d (hd : d ∈ tables_1) => atoms_spec (ws := Jvm.Cond.code x code maxLocals ret :: tables_1) hat d (List.mem_cons_of_mem _ hd)
  have hfit : Fit s := fun {y c} hc i hi => by
    obtain ⟨ha, rfl⟩ := Array.getElem?_eq_some_iff.mp hc
    have q := List.all_eq_true.mp ((Array.all_eq_true_iff_forall_mem.mp hF) _ (Array.getElem_mem ha)) i (List.mem_range.mpr hi)
    simpa [Array.getElem?_eq_getElem hi] using q
  obtain ⟨i0, ei0⟩ := is_v c2
  obtain rfl : w0 = (.int i0) := Option.some.inj ei0
  obtain ⟨w_NODE, ev_NODE⟩ := exa_v c3
  have E_NODE := Exa.start ev_NODE c3
  have S_NODE := Sta.start ev_NODE (Or.inr ⟨(hw _ (List.mem_of_getElem? (i := 5) rfl)), (hw _ (List.mem_of_getElem? (i := 6) rfl))⟩)
  obtain ⟨w_LEAF_NODE, ev_LEAF_NODE⟩ := exa_v c5
  have E_LEAF_NODE := Exa.start ev_LEAF_NODE c5
  have S_LEAF_NODE := Sta.start ev_LEAF_NODE (Or.inr ⟨(hw _ (List.mem_of_getElem? (i := 5) rfl)), (hw _ (List.mem_of_getElem? (i := 13) rfl))⟩)
  have F_NODE_ordinal := Fld.start ((fld_at ev_NODE).symm.trans (eqI_v c7))
  have F_LEAF_NODE_ordinal := Fld.start ((fld_at ev_LEAF_NODE).symm.trans (eqI_v c9))
  obtain ⟨w_INDEX, ev_INDEX⟩ := exa_v c11
  have E_INDEX := Exa.start ev_INDEX c11
  have S_INDEX := Sta.start ev_INDEX (Or.inr ⟨(hw _ (List.mem_of_getElem? (i := 5) rfl)), (hw _ (List.mem_of_getElem? (i := 18) rfl))⟩)
  have F_INDEX_ordinal := Fld.start ((fld_at ev_INDEX).symm.trans (eqI_v c13))
  obtain ⟨w_POLICY, ev_POLICY⟩ := exa_v c15
  have E_POLICY := Exa.start ev_POLICY c15
  have S_POLICY := Sta.start ev_POLICY (Or.inr ⟨(hw _ (List.mem_of_getElem? (i := 5) rfl)), (hw _ (List.mem_of_getElem? (i := 20) rfl))⟩)
  have F_POLICY_ordinal := Fld.start ((fld_at ev_POLICY).symm.trans (eqI_v c16))
  obtain ⟨n, o, h1, h2, h3, _, L, rfl, ⟨rfl, N⟩, hq⟩ := rm0 l s _ hw i0 w_NODE w_LEAF_NODE w_POLICY w_INDEX s.heap s.heap.size (Nat.le_refl _) S_NODE S_LEAF_NODE S_POLICY S_INDEX E_NODE E_LEAF_NODE E_POLICY E_INDEX (Fld.ne F_NODE_ordinal F_LEAF_NODE_ordinal fun q => absurd (Value.int.inj q) (by decide)) (Fld.ne F_POLICY_ordinal F_LEAF_NODE_ordinal fun q => absurd (Value.int.inj q) (by decide)) (Fld.ne F_INDEX_ordinal F_LEAF_NODE_ordinal fun q => absurd (Value.int.inj q) (by decide)) tables_1 p e ha hc hk s m _ below hf ((Spec.applies_iff_loose hf).mp happ).1 ⟨rfl, State.Warmed39.refl s, rfl⟩ trivial
  refine ⟨n, _, h1, h2, h3, hpost _ _ _ _ _ _ ⟨Cond.after_iff.mpr rfl, Cond.after_iff.mpr (eq_i res_at (Term.int_eval (1)) rfl), trivial⟩ ⟨hq.1, hq.2.1, (hq.2.2.sift fun y hy => Or.inr (N y hy)).mono (by decide) (by decide)⟩⟩
theorem main_1_1 : Claimed_1_1 := comes_1 fun _ _ _ _ _ _ h hF => ⟨h.1, hF⟩
theorem main_1_2 : Claimed_1_2 := comes_1 fun _ _ _ _ _ _ h hF => ⟨h.2.1, hF⟩
end Jvm.Pilot.@@N@@
namespace Jvm.Pilot.@@N@@
open Jvm Jvm.ClassFile Sem Op Lib Jvm.Free Jvm.Stand Jvm.Pilot.@@N@@.Jvm.D
/-! MADE BY PROGRAM (witnessworld.py) out of the Statement's table words and the real class files: 12 classes; the members and pool entries that the words name. The judged class is class 1, her method 3. -/
namespace start1
open Jvm.ClassFile
def u (s : String) : CpInfo := .utf8 (stringToUtf16 s)
/-- a pool by its gaps: so many unusable entries, then the entry; so many at the end -/
def gap : Nat → List CpInfo → List CpInfo
  | 0, r => r
  | n + 1, r => .unusable :: gap n r
def poolList (es : List (Nat × CpInfo)) (last : Nat) : List CpInfo := es.foldr (fun e r => gap e.1 (e.2 :: r)) (gap last [])
def pool (es : List (Nat × CpInfo)) (last : Nat) : Array CpInfo := ⟨poolList es last⟩
def fileOf (pool : Array CpInfo) (this : Nat) (attrs : Array Attribute := #[]) (ms : Array MethodInfo := #[]) (fl : Nat := 33) (sup : Nat := 0) (ifs : Array Nat := #[]) (fds : Array FieldInfo := #[]) : ClassFile where
  minorVersion := 0
  majorVersion := 65
  constantPool := pool
  accessFlags := fl
  thisClass := this
  superClass := sup
  interfaces := ifs
  fields := fds
  methods := ms
  attributes := attrs
def plain (name : String) (sup : Option ClassId) : Class where
  name := name
  kind := .ordinary
  loader := none
  accessFlags := 33
  super := sup
  interfaces := #[]
  cf := none
  fields := #[]
  methods := #[]
  instanceTypes := #[]
  staticTypes := #[]
  resolved := #[]
  callSites := []
  init := .initialized
  statics := none
  mirror := none

def pool0 : Array CpInfo := pool [(5, u "<init>"), (0, u "()V"), (1, .class_ 10), (1, u "java/lang/Object")] 113

def k0m0 : Method := { name := "<init>", desc := "()V", sig := { parameters := [], returnType := none }, accessFlags := 1, code := none }
/-- java/lang/Object -/
def k0 : Class := { plain "java/lang/Object" none with
  accessFlags := 33
  interfaces := #[]
  cf := some (fileOf pool0 8 #[] #[{ accessFlags := 1, nameIndex := 5, descriptorIndex := 6, attributes := #[] }] 33 0 #[] #[])
  fields := #[]
  methods := #[k0m0]
  instanceTypes := #[]
  staticTypes := #[]
  resolved := Array.replicate 124 none
  statics := none }

def pool1 : Array CpInfo := pool [(2, .class_ 4), (1, u "java/lang/Object"), (0, u "<init>"), (0, u "()V"), (0, .fieldref 8 9), (0, .class_ 10), (0, .nameAndType 11 12), (0, u "com/example/facetree/facetree/model/ObjectType"), (0, u "NODE"), (0, u "Lcom/example/facetree/facetree/model/ObjectType;"), (0, .fieldref 8 14), (0, .nameAndType 15 12), (0, u "LEAF_NODE"), (0, .fieldref 8 17), (0, .nameAndType 18 12), (0, u "POLICY"), (0, .fieldref 8 20), (0, .nameAndType 21 12), (0, u "INDEX"), (0, .methodref 23 24), (0, .class_ 25), (0, .nameAndType 26 27), (0, u "com/example/facetree/facetree/model/ObjectTypeAllowsSeveralParentsPinLaw"), (0, u "pick"), (0, u "(I)Lcom/example/facetree/facetree/model/ObjectType;"), (0, .methodref 8 29), (0, .nameAndType 30 31), (0, u "allowsSeveralParents"), (0, u "()Z"), (0, .methodref 23 33), (0, .nameAndType 34 35), (0, u "expected"), (0, u "(I)Z"), (3, u "law")] 2

def k1m0 : Method := { name := "<init>", desc := "()V", sig := { parameters := [], returnType := none }, accessFlags := 2, code := none }
def k1c1 : Code := { maxStack := 2, maxLocals := 1, code := method_2_code, exceptionTable := #[], attributes := #[] }
def k1m1 : Method := { name := "pick", desc := "(I)Lcom/example/facetree/facetree/model/ObjectType;", sig := { parameters := [.int], returnType := some (.object "com/example/facetree/facetree/model/ObjectType") }, accessFlags := 10, code := some k1c1 }
def k1c2 : Code := { maxStack := 2, maxLocals := 1, code := method_3_code, exceptionTable := #[], attributes := #[] }
def k1m2 : Method := { name := "expected", desc := "(I)Z", sig := { parameters := [.int], returnType := some .boolean }, accessFlags := 10, code := some k1c2 }
def k1c3 : Code := { maxStack := 2, maxLocals := 3, code := code, exceptionTable := #[], attributes := #[] }
def k1m3 : Method := { name := "law", desc := "(I)Z", sig := { parameters := [.int], returnType := some .boolean }, accessFlags := 9, code := some k1c3 }
/-- com/example/facetree/facetree/model/ObjectTypeAllowsSeveralParentsPinLaw -/
def k1 : Class := { plain "com/example/facetree/facetree/model/ObjectTypeAllowsSeveralParentsPinLaw" (some 0) with
  accessFlags := 49
  interfaces := #[]
  cf := some (fileOf pool1 23 #[] #[{ accessFlags := 2, nameIndex := 5, descriptorIndex := 6, attributes := #[] }, { accessFlags := 10, nameIndex := 26, descriptorIndex := 27, attributes := #[] }, { accessFlags := 10, nameIndex := 34, descriptorIndex := 35, attributes := #[] }, { accessFlags := 9, nameIndex := 39, descriptorIndex := 35, attributes := #[] }] 49 2 #[] #[])
  fields := #[]
  methods := #[k1m0, k1m1, k1m2, k1m3]
  instanceTypes := #[]
  staticTypes := #[]
  resolved := Array.replicate 42 none
  statics := none }

def pool2 : Array CpInfo := pool [(1, .class_ 2), (0, u "java/lang/constant/Constable"), (0, .class_ 4), (0, u "java/lang/Object")] 6

/-- java/lang/constant/Constable -/
def k2 : Class := { plain "java/lang/constant/Constable" (some 0) with
  accessFlags := 1537
  interfaces := #[]
  cf := some (fileOf pool2 1 #[] #[] 1537 3 #[] #[])
  fields := #[]
  methods := #[]
  instanceTypes := #[]
  staticTypes := #[]
  resolved := Array.replicate 11 none
  statics := none }

def pool3 : Array CpInfo := pool [(1, .class_ 2), (0, u "java/lang/Comparable"), (0, .class_ 4), (0, u "java/lang/Object")] 7

/-- java/lang/Comparable -/
def k3 : Class := { plain "java/lang/Comparable" (some 0) with
  accessFlags := 1537
  interfaces := #[]
  cf := some (fileOf pool3 1 #[] #[] 1537 3 #[] #[])
  fields := #[]
  methods := #[]
  instanceTypes := #[]
  staticTypes := #[]
  resolved := Array.replicate 12 none
  statics := none }

def pool4 : Array CpInfo := pool [(1, .class_ 2), (0, u "java/io/Serializable"), (0, .class_ 4), (0, u "java/lang/Object")] 2

/-- java/io/Serializable -/
def k4 : Class := { plain "java/io/Serializable" (some 0) with
  accessFlags := 1537
  interfaces := #[]
  cf := some (fileOf pool4 1 #[] #[] 1537 3 #[] #[])
  fields := #[]
  methods := #[]
  instanceTypes := #[]
  staticTypes := #[]
  resolved := Array.replicate 7 none
  statics := none }

def pool5 : Array CpInfo := pool [(2, .class_ 4), (1, u "java/lang/Enum"), (0, u "name"), (0, u "Ljava/lang/String;"), (2, u "ordinal"), (0, u "I"), (1, .class_ 14), (1, u "java/lang/Object"), (4, u "hash"), (86, .class_ 108), (1, u "java/lang/Enum$EnumDesc"), (2, .class_ 112), (0, u "java/lang/constant/Constable"), (0, .class_ 114), (0, u "java/lang/Comparable"), (0, .class_ 116), (0, u "java/io/Serializable")] 87

/-- java/lang/Enum -/
def k5 : Class := { plain "java/lang/Enum" (some 0) with
  accessFlags := 1057
  interfaces := #[2, 3, 4]
  cf := some (fileOf pool5 2 #[.nestMembers #[106]] #[] 1057 12 #[111, 113, 115] #[{ accessFlags := 18, nameIndex := 5, descriptorIndex := 6, attributes := #[] }, { accessFlags := 18, nameIndex := 9, descriptorIndex := 10, attributes := #[] }, { accessFlags := 2, nameIndex := 19, descriptorIndex := 10, attributes := #[] }])
  fields := #[{ name := "name", type := (.object "java/lang/String"), accessFlags := 18, slot := 0, constantValue := 0 }, { name := "ordinal", type := .int, accessFlags := 18, slot := 1, constantValue := 0 }, { name := "hash", type := .int, accessFlags := 2, slot := 2, constantValue := 0 }]
  methods := #[]
  instanceTypes := #[(.object "java/lang/String"), .int, .int]
  staticTypes := #[]
  resolved := Array.replicate 204 none
  statics := none }

def pool6 : Array CpInfo := pool [(1, .class_ 2), (0, u "com/example/facetree/facetree/model/ObjectType"), (2, u "NODE"), (0, u "Lcom/example/facetree/facetree/model/ObjectType;"), (0, .fieldref 1 8), (0, .nameAndType 9 6), (0, u "LEAF_NODE"), (2, u "POLICY"), (2, u "INDEX"), (2, u "$VALUES"), (0, u "[Lcom/example/facetree/facetree/model/ObjectType;"), (6, .class_ 28), (1, u "java/lang/Enum"), (23, u "()Z"), (1, u "allowsSeveralParents")] 4

def k6c0 : Code := { maxStack := 2, maxLocals := 1, code := prog_11_method_5_code, exceptionTable := #[], attributes := #[] }
def k6m0 : Method := { name := "allowsSeveralParents", desc := "()Z", sig := { parameters := [], returnType := some .boolean }, accessFlags := 1, code := some k6c0 }
/-- com/example/facetree/facetree/model/ObjectType -/
def k6 : Class := { plain "com/example/facetree/facetree/model/ObjectType" (some 5) with
  accessFlags := 16433
  interfaces := #[]
  cf := some (fileOf pool6 1 #[] #[{ accessFlags := 1, nameIndex := 54, descriptorIndex := 52, attributes := #[] }] 16433 26 #[] #[{ accessFlags := 16409, nameIndex := 5, descriptorIndex := 6, attributes := #[] }, { accessFlags := 16409, nameIndex := 9, descriptorIndex := 6, attributes := #[] }, { accessFlags := 16409, nameIndex := 12, descriptorIndex := 6, attributes := #[] }, { accessFlags := 16409, nameIndex := 15, descriptorIndex := 6, attributes := #[] }, { accessFlags := 4122, nameIndex := 18, descriptorIndex := 19, attributes := #[] }])
  fields := #[{ name := "NODE", type := (.object "com/example/facetree/facetree/model/ObjectType"), accessFlags := 16409, slot := 0, constantValue := 0 }, { name := "LEAF_NODE", type := (.object "com/example/facetree/facetree/model/ObjectType"), accessFlags := 16409, slot := 1, constantValue := 0 }, { name := "POLICY", type := (.object "com/example/facetree/facetree/model/ObjectType"), accessFlags := 16409, slot := 2, constantValue := 0 }, { name := "INDEX", type := (.object "com/example/facetree/facetree/model/ObjectType"), accessFlags := 16409, slot := 3, constantValue := 0 }, { name := "$VALUES", type := (.array (.object "com/example/facetree/facetree/model/ObjectType")), accessFlags := 4122, slot := 4, constantValue := 0 }]
  methods := #[k6m0]
  instanceTypes := #[(.object "java/lang/String"), .int, .int]
  staticTypes := #[(.object "com/example/facetree/facetree/model/ObjectType"), (.object "com/example/facetree/facetree/model/ObjectType"), (.object "com/example/facetree/facetree/model/ObjectType"), (.object "com/example/facetree/facetree/model/ObjectType"), (.array (.object "com/example/facetree/facetree/model/ObjectType"))]
  resolved := Array.replicate 59 none
  statics := some 0 }

def pool7 : Array CpInfo := pool [(1, u "java/lang/Cloneable"), (0, .class_ 1), (0, u "java/lang/Object"), (0, .class_ 3)] 3

/-- java/lang/Cloneable -/
def k7 : Class := { plain "java/lang/Cloneable" (some 0) with
  accessFlags := 1537
  interfaces := #[]
  cf := some (fileOf pool7 2 #[] #[] 1537 4 #[] #[])
  fields := #[]
  methods := #[]
  instanceTypes := #[]
  staticTypes := #[]
  resolved := Array.replicate 8 none
  statics := none }

/-- the primitive byte -/
def k8 : Class := { plain "byte" none with kind := .primitive 'B', accessFlags := 0x411 }
/-- [B -/
def k9 : Class := { plain "[B" (some 0) with kind := .array 8 .byte, interfaces := #[7, 4], accessFlags := 1041 }

/-- the primitive int -/
def k10 : Class := { plain "int" none with kind := .primitive 'I', accessFlags := 0x411 }
/-- [I -/
def k11 : Class := { plain "[I" (some 0) with kind := .array 10 .int, interfaces := #[7, 4], accessFlags := 1041 }

def heap : Heap := #[{ cls := 6, slots := #[.ref 1, .ref 2, .ref 3, .ref 4, .null], vm := .statics 6 },
  { cls := 6, slots := #[.null, .int 0, .int 0], vm := .none },
  { cls := 6, slots := #[.null, .int 1, .int 0], vm := .none },
  { cls := 6, slots := #[.null, .int 2, .int 0], vm := .none },
  { cls := 6, slots := #[.null, .int 3, .int 0], vm := .none }]
def classes : Array Class := #[k0, k1, k2, k3, k4, k5, k6, k7, k8, k9, k10, k11]
def interned : List (Array UInt16 × Addr) := []
def slotsUsed : Nat := 17
def theMethod : MethodId := ⟨1, 3⟩
def args0 : Array Value := #[.int 5]
def aboutOver (below : List Frame) : State where
  vm := { classes := classes, interned := interned.toArray }
  heap := heap
  slotsUsed := slotsUsed
  threads := #[{ frames := .invoking theMethod args0 :: below }]
def below0 : List Frame := [.native { method := ⟨0, 0⟩, args := #[] }]
def about1 : State := aboutOver below0
def p0 : Program := .bare "" "" ""
def e0 : Env := launch0.env 0 0 0
theorem w_frames : about1.frames = Frame.invoking theMethod args0 :: below0 := rfl
set_option maxRecDepth 65536 in
theorem w_args : argsFit about1.vm theMethod args0 = true := by decide +kernel
set_option maxRecDepth 65536 in
theorem w_heap : heapFits about1 = true := by decide +kernel
set_option maxRecDepth 65536 in
theorem w_runnable : about1.curStatus? = some .runnable := by decide +kernel
set_option maxRecDepth 65536 in
theorem w_alone : about1.alone = true := by decide +kernel
set_option maxRecDepth 65536 in
theorem w_named : about1.methodNamed? x = some theMethod := by decide +kernel
set_option maxRecDepth 65536 in
theorem w_hears : about1.hears theMethod below0 = true := by decide +kernel
set_option maxRecDepth 65536 in
theorem w_ripe : about1.ripe theMethod args0 below0 = true := by decide +kernel
theorem w_running : about1.status = .running := rfl
set_option maxRecDepth 65536 in
theorem w_room : about1.hasRoom e0.platform room_1 = true :=
  launch0.hasRoom_least _ room_1 (by decide +kernel) (by decide +kernel) (by decide +kernel) (by decide +kernel) (by decide +kernel) (by decide +kernel)
theorem allAtoms_all (ts : List Jvm.Cond) (a : Array Jvm.Value) (st : Jvm.State) : (allAtoms ts).before a st = ts.all (fun c => c.before a st) := by
  induction ts with
  | nil => rfl
  | cons c t ih =>
    show (Jvm.Cond.and c (allAtoms t)).before a st = _
    rw [Jvm.Cond.before_and, ih, List.all_cons]
def words1 : List Jvm.Cond := Jvm.Cond.code x code maxLocals ret :: tables_1
/-- a 'code' word, met by the world's own term for the bytes: nothing is compared byte by byte -/
theorem code_word {y : MethodName} {bytes : ByteArray} {mx : Nat} {rt : Option FieldType} {a : Array Value} {s : State} {m : MethodId} {meth : Method} {c : Code} (h1 : s.methodNamed? y = some m) (h2 : s.vm.method? m = some meth) (h3 : meth.code = some c) (h4 : c.code = bytes)
    (h5 : (c.maxLocals == mx && c.exceptionTable.isEmpty && decide (c.maxStack ≤ mostOperands) && decide (meth.sig.returnType = rt) && !meth.locks && decide (parseMethodDescriptor y.desc = some meth.sig)) = true) : (Jvm.Cond.code y bytes mx rt).before a s = true := by
  simp only [Bool.and_eq_true, beq_iff_eq, Bool.not_eq_true', decide_eq_true_eq] at h5
  obtain ⟨⟨⟨⟨⟨g1, g2⟩, g3⟩, g4⟩, g5⟩, g6⟩ := h5
  simp [Cond.before, Cond.holds, Cond.value, h1, h2, h3, h4, g1, g2, g3, g4, g5, g6]
def isCode : Jvm.Cond → Bool
  | .code _ _ _ _ => true
  | _ => false
theorem all_split {L : List Jvm.Cond} {P : Jvm.Cond → Bool} (h1 : L.all (fun c => isCode c || P c) = true) (h2 : ∀ c ∈ L.filter isCode, P c = true) : L.all P = true := by
  refine List.all_eq_true.mpr fun c hc => ?_
  have h := List.all_eq_true.mp h1 c hc
  rcases Bool.eq_false_or_eq_true (isCode c) with hi | hi
  · exact h2 c (List.mem_filter.mpr ⟨hc, hi⟩)
  · simpa [hi] using h
set_option maxRecDepth 65536 in
theorem w_c0 : (Jvm.Cond.code x code maxLocals ret).before args0 about1 = true := code_word (m := ⟨1, 3⟩) (meth := k1m3) (c := k1c3) (by decide +kernel) rfl rfl rfl (by decide +kernel)
set_option maxRecDepth 65536 in
theorem w_c1 : (Jvm.Cond.code ({ cls := "com/example/facetree/facetree/model/ObjectTypeAllowsSeveralParentsPinLaw", name := "pick", desc := "(I)Lcom/example/facetree/facetree/model/ObjectType;" } : Jvm.MethodName) method_2_code (1 : Nat) (Option.some (Jvm.ClassFile.FieldType.object "com/example/facetree/facetree/model/ObjectType"))).before args0 about1 = true := code_word (m := ⟨1, 1⟩) (meth := k1m1) (c := k1c1) (by decide +kernel) rfl rfl rfl (by decide +kernel)
set_option maxRecDepth 65536 in
theorem w_c2 : (Jvm.Cond.code ({ cls := "com/example/facetree/facetree/model/ObjectType", name := "allowsSeveralParents", desc := "()Z" } : Jvm.MethodName) prog_11_method_5_code (1 : Nat) (Option.some Jvm.ClassFile.FieldType.boolean)).before args0 about1 = true := code_word (m := ⟨6, 0⟩) (meth := k6m0) (c := k6c0) (by decide +kernel) rfl rfl rfl (by decide +kernel)
set_option maxRecDepth 65536 in
theorem w_c3 : (Jvm.Cond.code ({ cls := "com/example/facetree/facetree/model/ObjectTypeAllowsSeveralParentsPinLaw", name := "expected", desc := "(I)Z" } : Jvm.MethodName) method_3_code (1 : Nat) (Option.some Jvm.ClassFile.FieldType.boolean)).before args0 about1 = true := code_word (m := ⟨1, 2⟩) (meth := k1m2) (c := k1c2) (by decide +kernel) rfl rfl rfl (by decide +kernel)
def codes1 : List Jvm.Cond := [Jvm.Cond.code x code maxLocals ret, Jvm.Cond.code ({ cls := "com/example/facetree/facetree/model/ObjectTypeAllowsSeveralParentsPinLaw", name := "pick", desc := "(I)Lcom/example/facetree/facetree/model/ObjectType;" } : Jvm.MethodName) method_2_code (1 : Nat) (Option.some (Jvm.ClassFile.FieldType.object "com/example/facetree/facetree/model/ObjectType")), Jvm.Cond.code ({ cls := "com/example/facetree/facetree/model/ObjectType", name := "allowsSeveralParents", desc := "()Z" } : Jvm.MethodName) prog_11_method_5_code (1 : Nat) (Option.some Jvm.ClassFile.FieldType.boolean), Jvm.Cond.code ({ cls := "com/example/facetree/facetree/model/ObjectTypeAllowsSeveralParentsPinLaw", name := "expected", desc := "(I)Z" } : Jvm.MethodName) method_3_code (1 : Nat) (Option.some Jvm.ClassFile.FieldType.boolean)]
set_option maxRecDepth 65536 in
theorem codes_eq : words1.filter isCode = codes1 := rfl
theorem w_codes : ∀ c ∈ words1.filter isCode, c.before args0 about1 = true := by
  rw [codes_eq]
  intro c hc
  simp only [codes1, List.mem_cons, List.not_mem_nil, or_false] at hc
  rcases hc with rfl | rfl | rfl | rfl
  · exact w_c0
  · exact w_c1
  · exact w_c2
  · exact w_c3
set_option maxRecDepth 65536 in
theorem w_t1 : words1.all (fun c => isCode c || c.before args0 about1) = true := by decide +kernel
theorem w_tables : (allAtoms (Jvm.Cond.code x code maxLocals ret :: tables_1)).before args0 about1 = true := by
  rw [allAtoms_all]
  show words1.all (fun c => c.before args0 about1) = true
  refine all_split ?_ w_codes
  rw [w_t1]
set_option maxRecDepth 65536 in
theorem w_case : (Jvm.Cond.and given_1 narrow_1).before args0 about1 = true := by decide +kernel
theorem w_applies : (headSpec (Jvm.Cond.code x code maxLocals ret :: tables_1) room_1).applies x e0.platform about1 = true :=
  (Spec.applies_iff w_frames).mpr ⟨w_running, w_runnable, w_alone, w_named, w_hears, w_ripe, w_room, w_tables⟩
theorem atStart : AtStart classFile x code maxLocals ret World_1 tables_1 room_1 Calls_1 rest_1 Pre_1 launch0 p0 e0 about1 theMethod args0 below0 :=
  ⟨lists_1, trivial, launch0.admits_env _ _ _, launch0.least_env, fairChoices_fair.cas, fairChoices_fair.clock, w_frames, w_args, w_heap, w_applies, trivial, trivial, w_case⟩
end start1
theorem witness_1 : WitnessClaimed_1 := ⟨start1.p0, start1.e0, start1.about1, start1.theMethod, start1.args0, start1.below0, start1.atStart⟩
end Jvm.Pilot.@@N@@
