import JvmDerived
import JvmDerived.Pilot.@@N@@Statement
import JvmDerived.Pilot.@@N@@Code
set_option linter.unusedVariables false
set_option linter.unusedSimpArgs false
namespace Jvm.OwnKit
open Sem ClassFile Op Lib Jvm.Stand Jvm.Free Jvm.LawKit Jvm.RoadKit
section Own
variable {p : Program} {l : Launch} {e : Env} {R : Room} {s : State} {m : MethodId} {args : Array Value} {below : List Frame} {meth : Method} {c : Code} {T : State} {locs : List Loc} {cells slots : Nat} {Z : State} {a0 : Array Value} {h : Heap}
/-- from S the run comes to an end that F admits -/
def W (p : Program) (e : Env) (below : List Frame) (F : Outcome → State → Prop) (S : State) : Prop := ∃ s₂ o, Steps p.tables e below S s₂ ∧ s₂.status = .running ∧ Ended s₂ below o ∧ F o s₂
def Fin (s : State) (Q : Option Value → Heap → List Loc → Prop) (rc rs : Nat) (o : Outcome) (U : State) : Prop := ∃ v L, o = .returned v ∧ Q v U.heap L ∧ FrameEnd s o U L rc rs
theorem W.go {F : Outcome → State → Prop} {S S' : State} (st : ∀ t, Steps p.tables e below S' t → Steps p.tables e below S t) (k : W p e below F S') : W p e below F S := by
  obtain ⟨s2, o, h1, h2⟩ := k; exact ⟨s2, o, st _ h1, h2⟩
theorem W.via {F : Outcome → State → Prop} {S S' : State} (st : Steps p.tables e below S S') (k : W p e below F S') : W p e below F S := by
  obtain ⟨s2, o, h1, h2⟩ := k; exact ⟨s2, o, st.trans h1, h2⟩
/-- a contract: called with these arguments, over this heap, the body returns and leaves what Q says -/
def Ctr (l : Launch) (Z : State) (y : MethodName) (bytes : ByteArray) (maxL : Nat) (ret : Option FieldType) (rm : Room) (as' : Array Value) (h0 : Heap) (Q : Option Value → Heap → List Loc → Prop) : Prop :=
  ∀ ws : List Jvm.Cond, MetFree l y (head1 (Jvm.Cond.code y bytes maxL ret :: ws) rm) (fun a U => a = as' ∧ Z.Warmed39 U.vm ∧ U.heap = h0) (fun _ _ _ _ _ => True) (fun _ U o U' => Fin U Q rm.cells rm.slots o U')
theorem Ctr.body {y : MethodName} {bytes : ByteArray} {maxL : Nat} {ret : Option FieldType} {rm : Room} {as' : Array Value} {h0 : Heap} {Q : Option Value → Heap → List Loc → Prop} {fr : MethodId → JFrame} (hpl : plainFor y = true) (hef : ∀ m, entryFrame m as' maxL = fr m)
    (body : ∀ (p : Program) (e : Env) (s : State) (m : MethodId) (below : List Frame) (meth : Method) (c : Code) (s₁ : State), p.tables.exec = Jvm.exec → c.code = bytes → c.maxLocals = maxL → Z.Warmed39 s.vm → s.vm.findClass y.cls = some m.cls → meth.name = y.name → meth.sig.returnType = ret → meth.locks = false →
      Stand p l e rm s m as' below meth c s₁ [] 0 0 → s₁.heap = h0 → W p e below (Fin s Q rm.cells rm.slots) (s₁.setTop (fr m))) : Ctr l Z y bytes maxL ret rm as' h0 Q := by
  intro ws
  refine MetFree.of_bodySF hpl hisR ?_
  intro p e s m args below meth c s₁ Bd hml0 hP hK
  obtain ⟨rfl, hZ, hh⟩ := hP
  have r := body p e s m below meth c s₁ Bd.exec Bd.bytes hml0 hZ (findClass_of_methodNamed Bd.named) (name_of_methodNamed Bd.named Bd.method).1 Bd.returns Bd.notSynchronized (Stand.of_body Bd) (by rw [← hh, Bd.state]; rfl)
  rw [← hef] at r
  exact r
theorem W.retB (X : Stand p l e R s m args below meth c T locs cells slots) (hx : p.tables.exec = Jvm.exec) (hlk : meth.locks = false) {t : FieldType} (hret : meth.sig.returnType = some t) (ht : t = .boolean ∨ t = .byte ∨ t = .char ∨ t = .short) {pc : Nat} {Ls : Array Slot} {z : Int32} {rest : List Value} (hd : decode c.code pc = .ok (.ireturn, 1))
    {Q : Option Value → Heap → List Loc → Prop} {rc rs : Nat} (hc : cells ≤ rc) (hs : slots ≤ rs) (eT : T.heap = h) (hQ : Q (some (.int (nar t z))) h locs) : W p e below (Fin s Q rc rs) (T.setTop (mkF m pc Ls (.int z :: rest))) := by
  obtain ⟨fs, hr, hrun, hended, hW, hsame⟩ := X.leave (v := some (.int (nar t z))) (fun h => by rw [hret] at h; cases h) hlk
  subst eT
  exact ⟨_, _, retN X hx hret ht hd hr, hrun, hended, _, _, rfl, hQ, ⟨_, rfl⟩, hW, hsame.mono hc hs⟩
theorem W.retI (X : Stand p l e R s m args below meth c T locs cells slots) (hx : p.tables.exec = Jvm.exec) (hlk : meth.locks = false) (hret : meth.sig.returnType = some .int) {pc : Nat} {Ls : Array Slot} {z : Int32} {rest : List Value} (hd : decode c.code pc = .ok (.ireturn, 1))
    {Q : Option Value → Heap → List Loc → Prop} {rc rs : Nat} (hc : cells ≤ rc) (hs : slots ≤ rs) (eT : T.heap = h) (hQ : Q (some (.int z)) h locs) : W p e below (Fin s Q rc rs) (T.setTop (mkF m pc Ls (.int z :: rest))) := by
  obtain ⟨fs, hr, hrun, hended, hW, hsame⟩ := X.leave (v := some (.int z)) (fun h => by rw [hret] at h; cases h) hlk
  subst eT
  refine ⟨_, _, ?_, hrun, hended, _, _, rfl, hQ, ⟨_, rfl⟩, hW, hsame.mono hc hs⟩
  have hm' : T.vm.method? m = some meth := X.method'
  have hn : narrow .int (.int z) = .int z := rfl
  show Steps p.tables e below (T.setTop { method := m, pc := pc, locals := Ls, stack := _ :: rest, locked := none }) _
  jvm_step X.here [X.here.top, hx, hd, hm', hret, hn]
  first | (intro acts; rw [hr _ acts rfl rfl rfl]) | rw [hr _ _ rfl rfl rfl]
  exact Steps.refl _
theorem W.retL (X : Stand p l e R s m args below meth c T locs cells slots) (hx : p.tables.exec = Jvm.exec) (hlk : meth.locks = false) (hret : meth.sig.returnType = some .long) {pc : Nat} {Ls : Array Slot} {z : Int64} {rest : List Value} (hd : decode c.code pc = .ok (.lreturn, 1))
    {Q : Option Value → Heap → List Loc → Prop} {rc rs : Nat} (hc : cells ≤ rc) (hs : slots ≤ rs) (eT : T.heap = h) (hQ : Q (some (.long z)) h locs) : W p e below (Fin s Q rc rs) (T.setTop (mkF m pc Ls (.long z :: rest))) := by
  obtain ⟨fs, hr, hrun, hended, hW, hsame⟩ := X.leave (v := some (.long z)) (fun h => by rw [hret] at h; cases h) hlk
  subst eT
  refine ⟨_, _, ?_, hrun, hended, _, _, rfl, hQ, ⟨_, rfl⟩, hW, hsame.mono hc hs⟩
  have hm' : T.vm.method? m = some meth := X.method'
  have hn : narrow .long (.long z) = .long z := rfl
  show Steps p.tables e below (T.setTop { method := m, pc := pc, locals := Ls, stack := _ :: rest, locked := none }) _
  jvm_step X.here [X.here.top, hx, hd, hm', hret, hn]
  first | (intro acts; rw [hr _ acts rfl rfl rfl]) | rw [hr _ _ rfl rfl rfl]
  exact Steps.refl _
theorem W.retA (X : Stand p l e R s m args below meth c T locs cells slots) (hx : p.tables.exec = Jvm.exec) (hlk : meth.locks = false) {t : FieldType} (hret : meth.sig.returnType = some t) (ht : t.isReference = true) {pc : Nat} {Ls : Array Slot} {w : Value} (hw : w.isRef = true) {rest : List Value} (hd : decode c.code pc = .ok (.areturn, 1))
    {Q : Option Value → Heap → List Loc → Prop} {rc rs : Nat} (hc : cells ≤ rc) (hs : slots ≤ rs) (eT : T.heap = h) (hQ : Q (some w) h locs) : W p e below (Fin s Q rc rs) (T.setTop (mkF m pc Ls (w :: rest))) := by
  obtain ⟨fs, hr, hrun, hended, hW, hsame⟩ := X.leave (v := some w) (fun h => by rw [hret] at h; cases h) hlk
  subst eT
  refine ⟨_, _, ?_, hrun, hended, _, _, rfl, hQ, ⟨_, rfl⟩, hW, hsame.mono hc hs⟩
  have hm' : T.vm.method? m = some meth := X.method'
  rcases ref_cases hw with rfl | ⟨z, rfl⟩
  all_goals
    show Steps p.tables e below (T.setTop { method := m, pc := pc, locals := Ls, stack := _ :: rest, locked := none }) _
    jvm_step X.here [X.here.top, hx, hd, hm', hret, ht, Value.isRef]
    first | (intro acts; rw [hr _ acts rfl rfl rfl]) | rw [hr _ _ rfl rfl rfl]
    exact Steps.refl _
theorem W.retV (X : Stand p l e R s m args below meth c T locs cells slots) (hx : p.tables.exec = Jvm.exec) (hlk : meth.locks = false) (hret : meth.sig.returnType = none) {pc : Nat} {Ls : Array Slot} (hd : decode c.code pc = .ok (.return_, 1))
    {Q : Option Value → Heap → List Loc → Prop} {rc rs : Nat} (hc : cells ≤ rc) (hs : slots ≤ rs) (eT : T.heap = h) (hQ : Q none h locs) : W p e below (Fin s Q rc rs) (T.setTop (mkF m pc Ls [])) := by
  obtain ⟨fs, hr, hrun, hended, hW, hsame⟩ := X.leave (v := none) (fun _ => rfl) hlk
  subst eT
  exact ⟨_, _, X.returnOut hx hret hd hr, hrun, hended, _, _, rfl, hQ, ⟨_, rfl⟩, hW, hsame.mono hc hs⟩
section Calls
variable {y y0 : MethodName} {bytes : ByteArray} {maxL W0 : Nat} {ret : Option FieldType} {rm : Room} {as' : Array Value} {Q : Option Value → Heap → List Loc → Prop} {own : String} {index : Nat} {sig : MethodDescriptor} {g : JFrame} {argsL rest : List Value} {F : Outcome → State → Prop}
theorem Ctr.back {len : Nat} (hM : Ctr l Z y bytes maxL ret rm as' h Q) (hZ : Z.Warmed39 s.vm) (wc : (Jvm.Cond.code y bytes maxL ret).before a0 Z = true) (wz : (Jvm.Cond.initialized y.cls).before a0 Z = true) (hf : rm.frames + 1 ≤ R.frames) (hl : W0 + (maxL + 11) + rm.locals ≤ R.locals) :
    Back l R p e below s args y len W0 (fun A a => a = as' ∧ A.U.heap = h ∧ A.cells + rm.cells ≤ R.cells ∧ A.slots + rm.slots ≤ R.slots)
      (fun A _ v B => ∃ L, Q v B.U.heap L ∧ B.locs = A.locs ++ L ∧ B.cells = A.cells + rm.cells ∧ B.slots = A.slots + rm.slots) := backOf (hM []) hZ wc wz hf hl
/-- a static call by its contract -/
theorem W.callS (X : Stand p l e R s m args below meth c T locs cells slots) (hx : p.tables.exec = Jvm.exec) (hZ : Z.Warmed39 s.vm) (hown : s.vm.findClass own = some m.cls) (hml : g.locals.size = c.maxLocals)
    (w1 : (Jvm.Cond.methodLink own index y).before a0 Z = true) (w2 : (Jvm.Cond.static y).before a0 Z = true) (w3 : (Jvm.Cond.initialized y.cls).before a0 Z = true) (w4 : (Jvm.Cond.code y bytes maxL ret).before a0 Z = true) (eT : T.heap = h)
    (hM : Ctr l Z y bytes maxL ret rm as' h Q) (hy : y.cls ≠ "java/lang/invoke/MethodHandle" ∧ y.cls ≠ "java/lang/invoke/VarHandle") (pd : parseMethodDescriptor y.desc = some sig) (hg : g.method = m) (has : argsL.toArray = as') (hlen : argsL.length = sig.parameters.length)
    (hst : g.stack = argsL.reverse ++ rest) (hd : decode c.code g.pc = .ok (.invokestatic index, 3)) (hW : 2 * g.monitorRoom + (rest.map fun v => v.category).sum = W0) (hf : rm.frames + 1 ≤ R.frames) (hl : W0 + (maxL + 11) + rm.locals ≤ R.locals) (hc : cells + rm.cells ≤ R.cells) (hs : slots + rm.slots ≤ R.slots)
    (k : ∀ v T' h' L, Stand p l e R s m args below meth c T' (locs ++ L) (cells + rm.cells) (slots + rm.slots) → T'.heap = h' → Q v h' L → W p e below F (T'.setTop { g with pc := g.pc + 3, stack := v.toList ++ rest })) : W p e below F (T.setTop g) := by
  obtain ⟨v, _, ⟨T', L', k', n'⟩, -, X', ⟨L, hQ, e1, e2, e3⟩, st⟩ := Jvm.LawKit.callS X hx hown (mvT hZ w1) (mvT hZ w2) (mvT hZ w3) (mvT hZ w4) hy (hM.back hZ w4 w3 hf hl) hg hml (argsL := argsL) (rest := rest) (fun sg q => by cases pd.symm.trans q; exact hlen) hst (Nat.le_of_eq hW) hd (fun _ _ => ⟨has, eT, hc, hs⟩)
  dsimp only [Pt.U, Pt.locs, Pt.cells, Pt.slots] at X' e1 e2 e3 hQ st
  subst e1 e2 e3
  exact W.go st (k v T' _ L X' rfl hQ)
/-- a constructor, whoever pays it -/
theorem W.callIK {kc ks : Nat} (X : Stand p l e R s m args below meth c T locs cells slots) (hx : p.tables.exec = Jvm.exec) (hZ : Z.Warmed39 s.vm) (hown : s.vm.findClass own = some m.cls) (hml : g.locals.size = c.maxLocals)
    (w1 : (Jvm.Cond.methodLink own index y).before a0 Z = true) (w2 : (Jvm.Cond.instanceMethod y).before a0 Z = true) (w4 : (Jvm.Cond.code y bytes maxL none).before a0 Z = true) (eT : T.heap = h)
    (hK : Back l R p e below s args y 3 W0 (fun A a => a = as' ∧ A.U.heap = h ∧ A.cells + kc ≤ R.cells ∧ A.slots + ks ≤ R.slots) (fun A _ v B => ∃ L, Q v B.U.heap L ∧ B.locs = A.locs ++ L ∧ B.cells = A.cells + kc ∧ B.slots = A.slots + ks)) (hn : y.name = "<init>") (hy : y.cls ≠ "java/lang/invoke/MethodHandle" ∧ y.cls ≠ "java/lang/invoke/VarHandle") (pd : parseMethodDescriptor y.desc = some sig) (hg : g.method = m) {b : Addr} (has : (Value.ref b :: argsL).toArray = as') (hlen : argsL.length = sig.parameters.length)
    (hst : g.stack = argsL.reverse ++ .ref b :: rest) (hd : decode c.code g.pc = .ok (.invokespecial index, 3)) (hW : 2 * g.monitorRoom + (rest.map fun v => v.category).sum = W0) (hc : cells + kc ≤ R.cells) (hs : slots + ks ≤ R.slots)
    (k : ∀ v T' h' L, Stand p l e R s m args below meth c T' (locs ++ L) (cells + kc) (slots + ks) → T'.heap = h' → Q v h' L → W p e below F (T'.setTop { g with pc := g.pc + 3, stack := v.toList ++ rest })) : W p e below F (T.setTop g) := by
  obtain ⟨v, _, ⟨T', L', k', n'⟩, -, X', ⟨L, hQ, e1, e2, e3⟩, st⟩ := X.specialBack hx hn hown (mvT hZ w1) (mvT hZ w2) (mvT hZ w4) hy hK hg hml (Steps.refl _) (a := b) (argsL := argsL) (rest := rest) (fun sg q => by cases pd.symm.trans q; exact hlen) hst (Nat.le_of_eq hW) hd (fun _ _ => ⟨has, eT, hc, hs⟩)
  dsimp only [Pt.U, Pt.locs, Pt.cells, Pt.slots] at X' e1 e2 e3 hQ st
  subst e1 e2 e3
  exact W.via st (k v T' _ L X' rfl hQ)
/-- a constructor by its contract -/
theorem W.callI (X : Stand p l e R s m args below meth c T locs cells slots) (hx : p.tables.exec = Jvm.exec) (hZ : Z.Warmed39 s.vm) (hown : s.vm.findClass own = some m.cls) (hml : g.locals.size = c.maxLocals)
    (w1 : (Jvm.Cond.methodLink own index y).before a0 Z = true) (w2 : (Jvm.Cond.instanceMethod y).before a0 Z = true) (w3 : (Jvm.Cond.initialized y.cls).before a0 Z = true) (w4 : (Jvm.Cond.code y bytes maxL none).before a0 Z = true) (eT : T.heap = h)
    (hM : Ctr l Z y bytes maxL none rm as' h Q) (hn : y.name = "<init>") (hy : y.cls ≠ "java/lang/invoke/MethodHandle" ∧ y.cls ≠ "java/lang/invoke/VarHandle") (pd : parseMethodDescriptor y.desc = some sig) (hg : g.method = m) {b : Addr} (has : (Value.ref b :: argsL).toArray = as') (hlen : argsL.length = sig.parameters.length)
    (hst : g.stack = argsL.reverse ++ .ref b :: rest) (hd : decode c.code g.pc = .ok (.invokespecial index, 3)) (hW : 2 * g.monitorRoom + (rest.map fun v => v.category).sum = W0) (hf : rm.frames + 1 ≤ R.frames) (hl : W0 + (maxL + 11) + rm.locals ≤ R.locals) (hc : cells + rm.cells ≤ R.cells) (hs : slots + rm.slots ≤ R.slots)
    (k : ∀ v T' h' L, Stand p l e R s m args below meth c T' (locs ++ L) (cells + rm.cells) (slots + rm.slots) → T'.heap = h' → Q v h' L → W p e below F (T'.setTop { g with pc := g.pc + 3, stack := v.toList ++ rest })) : W p e below F (T.setTop g) := by
  obtain ⟨v, _, ⟨T', L', k', n'⟩, -, X', ⟨L, hQ, e1, e2, e3⟩, st⟩ := X.specialBack hx hn hown (mvT hZ w1) (mvT hZ w2) (mvT hZ w4) hy (hM.back hZ w4 w3 hf hl) hg hml (Steps.refl _) (a := b) (argsL := argsL) (rest := rest) (fun sg q => by cases pd.symm.trans q; exact hlen) hst (Nat.le_of_eq hW) hd (fun _ _ => ⟨has, eT, hc, hs⟩)
  dsimp only [Pt.U, Pt.locs, Pt.cells, Pt.slots] at X' e1 e2 e3 hQ st
  subst e1 e2 e3
  exact W.via st (k v T' _ L X' rfl hQ)
/-- an instance method, whoever pays it -/
theorem W.callVK {kc ks : Nat} {C : String} (X : Stand p l e R s m args below meth c T locs cells slots) (hx : p.tables.exec = Jvm.exec) (hZ : Z.Warmed39 s.vm) (hown : s.vm.findClass own = some m.cls) (hml : g.locals.size = c.maxLocals)
    (w1 : (Jvm.Cond.methodLink own index y0).before a0 Z = true) (w5 : (Jvm.Cond.declares y0).before a0 Z = true) (w6 : (Jvm.Cond.selects C y0 y).before a0 Z = true) (w2 : (Jvm.Cond.instanceMethod y).before a0 Z = true) (eT : T.heap = h)
    (hK : Back l R p e below s args y 3 W0 (fun A a => a = as' ∧ A.U.heap = h ∧ A.cells + kc ≤ R.cells ∧ A.slots + ks ≤ R.slots) (fun A _ v B => ∃ L, Q v B.U.heap L ∧ B.locs = A.locs ++ L ∧ B.cells = A.cells + kc ∧ B.slots = A.slots + ks)) (hnf : NotFace s y0) (hy : y0.cls ≠ "java/lang/invoke/MethodHandle" ∧ y0.cls ≠ "java/lang/invoke/VarHandle") (pd : parseMethodDescriptor y0.desc = some sig) (hg : g.method = m) {b : Addr} (E : Exa Z h b C) (has : (Value.ref b :: argsL).toArray = as') (hlen : argsL.length = sig.parameters.length)
    (hst : g.stack = argsL.reverse ++ .ref b :: rest) (hd : decode c.code g.pc = .ok (.invokevirtual index, 3)) (hW : 2 * g.monitorRoom + (rest.map fun v => v.category).sum = W0) (hc : cells + kc ≤ R.cells) (hs : slots + ks ≤ R.slots)
    (k : ∀ v T' h' L, Stand p l e R s m args below meth c T' (locs ++ L) (cells + kc) (slots + ks) → T'.heap = h' → Q v h' L → W p e below F (T'.setTop { g with pc := g.pc + 3, stack := v.toList ++ rest })) : W p e below F (T.setTop g) := by
  obtain ⟨cq, kq, qa, qb, qc⟩ := isOf hZ eT E
  obtain ⟨v, _, ⟨T', L', k', n'⟩, -, X', ⟨L, hQ, e1, e2, e3⟩, st⟩ := X.virtualBack hx hown (mvT hZ w1) (mvT hZ w5) hnf (mvT hZ w6) (mvT hZ w2) hy hK qa qc hg hml (Steps.refl _) (argsL := argsL) (rest := rest) (fun sg q => by cases pd.symm.trans q; exact hlen) hst (Nat.le_of_eq hW) hd (fun _ _ => ⟨has, eT, hc, hs⟩)
  dsimp only [Pt.U, Pt.locs, Pt.cells, Pt.slots] at X' e1 e2 e3 hQ st
  subst e1 e2 e3
  exact W.via st (k v T' _ L X' rfl hQ)
/-- an instance method by its contract -/
theorem W.callV {C : String} (X : Stand p l e R s m args below meth c T locs cells slots) (hx : p.tables.exec = Jvm.exec) (hZ : Z.Warmed39 s.vm) (hown : s.vm.findClass own = some m.cls) (hml : g.locals.size = c.maxLocals)
    (w1 : (Jvm.Cond.methodLink own index y0).before a0 Z = true) (w5 : (Jvm.Cond.declares y0).before a0 Z = true) (w6 : (Jvm.Cond.selects C y0 y).before a0 Z = true) (w2 : (Jvm.Cond.instanceMethod y).before a0 Z = true) (w3 : (Jvm.Cond.initialized y.cls).before a0 Z = true) (w4 : (Jvm.Cond.code y bytes maxL ret).before a0 Z = true) (eT : T.heap = h)
    (hM : Ctr l Z y bytes maxL ret rm as' h Q) (hnf : NotFace s y0) (hy : y0.cls ≠ "java/lang/invoke/MethodHandle" ∧ y0.cls ≠ "java/lang/invoke/VarHandle") (pd : parseMethodDescriptor y0.desc = some sig) (hg : g.method = m) {b : Addr} (E : Exa Z h b C) (has : (Value.ref b :: argsL).toArray = as') (hlen : argsL.length = sig.parameters.length)
    (hst : g.stack = argsL.reverse ++ .ref b :: rest) (hd : decode c.code g.pc = .ok (.invokevirtual index, 3)) (hW : 2 * g.monitorRoom + (rest.map fun v => v.category).sum = W0) (hf : rm.frames + 1 ≤ R.frames) (hl : W0 + (maxL + 11) + rm.locals ≤ R.locals) (hc : cells + rm.cells ≤ R.cells) (hs : slots + rm.slots ≤ R.slots)
    (k : ∀ v T' h' L, Stand p l e R s m args below meth c T' (locs ++ L) (cells + rm.cells) (slots + rm.slots) → T'.heap = h' → Q v h' L → W p e below F (T'.setTop { g with pc := g.pc + 3, stack := v.toList ++ rest })) : W p e below F (T.setTop g) := by
  obtain ⟨cq, kq, qa, qb, qc⟩ := isOf hZ eT E
  obtain ⟨v, _, ⟨T', L', k', n'⟩, -, X', ⟨L, hQ, e1, e2, e3⟩, st⟩ := X.virtualBack hx hown (mvT hZ w1) (mvT hZ w5) hnf (mvT hZ w6) (mvT hZ w2) hy (hM.back hZ w4 w3 hf hl) qa qc hg hml (Steps.refl _) (argsL := argsL) (rest := rest) (fun sg q => by cases pd.symm.trans q; exact hlen) hst (Nat.le_of_eq hW) hd (fun _ _ => ⟨has, eT, hc, hs⟩)
  dsimp only [Pt.U, Pt.locs, Pt.cells, Pt.slots] at X' e1 e2 e3 hQ st
  subst e1 e2 e3
  exact W.via st (k v T' _ L X' rfl hQ)
/-- the same, the method declared further up -/
theorem W.callU {C owner : String} (X : Stand p l e R s m args below meth c T locs cells slots) (hx : p.tables.exec = Jvm.exec) (hZ : Z.Warmed39 s.vm) (hown : s.vm.findClass own = some m.cls) (hml : g.locals.size = c.maxLocals)
    (w1 : (Jvm.Cond.methodLink own index y0).before a0 Z = true) (w7 : (Jvm.Cond.sameMethod y0.cls owner y0.name y0.desc).before a0 Z = true) (w5 : (Jvm.Cond.declares ⟨owner, y0.name, y0.desc⟩).before a0 Z = true) (w6 : (Jvm.Cond.selects C y0 y).before a0 Z = true) (w2 : (Jvm.Cond.instanceMethod y).before a0 Z = true) (w3 : (Jvm.Cond.initialized y.cls).before a0 Z = true) (w4 : (Jvm.Cond.code y bytes maxL ret).before a0 Z = true) (eT : T.heap = h)
    (hM : Ctr l Z y bytes maxL ret rm as' h Q) (hy : owner ≠ "java/lang/invoke/MethodHandle" ∧ owner ≠ "java/lang/invoke/VarHandle") (pd : parseMethodDescriptor y0.desc = some sig) (hg : g.method = m) {b : Addr} (E : Exa Z h b C) (has : (Value.ref b :: argsL).toArray = as') (hlen : argsL.length = sig.parameters.length)
    (hst : g.stack = argsL.reverse ++ .ref b :: rest) (hd : decode c.code g.pc = .ok (.invokevirtual index, 3)) (hW : 2 * g.monitorRoom + (rest.map fun v => v.category).sum = W0) (hf : rm.frames + 1 ≤ R.frames) (hl : W0 + (maxL + 11) + rm.locals ≤ R.locals) (hc : cells + rm.cells ≤ R.cells) (hs : slots + rm.slots ≤ R.slots)
    (k : ∀ v T' h' L, Stand p l e R s m args below meth c T' (locs ++ L) (cells + rm.cells) (slots + rm.slots) → T'.heap = h' → Q v h' L → W p e below F (T'.setTop { g with pc := g.pc + 3, stack := v.toList ++ rest })) : W p e below F (T.setTop g) := by
  obtain ⟨cq, kq, qa, qb, qc⟩ := isOf hZ eT E
  obtain ⟨v, _, ⟨T', L', k', n'⟩, -, X', ⟨L, hQ, e1, e2, e3⟩, st⟩ := X.virtualBackUp hx hown (mvT hZ w1) (mvT hZ w7) (mvT hZ w5) hy (mvT hZ w6) (mvT hZ w2) (hM.back hZ w4 w3 hf hl) qa qc hg hml (Steps.refl _) (argsL := argsL) (rest := rest) (fun sg q => by cases pd.symm.trans q; exact hlen) hst (Nat.le_of_eq hW) hd (fun _ _ => ⟨has, eT, hc, hs⟩)
  dsimp only [Pt.U, Pt.locs, Pt.cells, Pt.slots] at X' e1 e2 e3 hQ st
  subst e1 e2 e3
  exact W.via st (k v T' _ L X' rfl hQ)
/-- a method that lands in a default of an interface -/
theorem W.callD {C owner : String} (X : Stand p l e R s m args below meth c T locs cells slots) (hx : p.tables.exec = Jvm.exec) (hZ : Z.Warmed39 s.vm) (hown : s.vm.findClass own = some m.cls) (hml : g.locals.size = c.maxLocals)
    (w1 : (Jvm.Cond.methodLink own index y0).before a0 Z = true) (w7 : (Jvm.Cond.sameMethod y0.cls owner y0.name y0.desc).before a0 Z = true) (w5 : (Jvm.Cond.declares ⟨owner, y0.name, y0.desc⟩).before a0 Z = true) (w6 : (Jvm.Cond.landsInDefault C y0 y).before a0 Z = true) (w2 : (Jvm.Cond.instanceMethod y).before a0 Z = true) (w3 : (Jvm.Cond.initialized y.cls).before a0 Z = true) (w4 : (Jvm.Cond.code y bytes maxL ret).before a0 Z = true) (eT : T.heap = h)
    (hM : Ctr l Z y bytes maxL ret rm as' h Q) (hy : owner ≠ "java/lang/invoke/MethodHandle" ∧ owner ≠ "java/lang/invoke/VarHandle") (pd : parseMethodDescriptor y0.desc = some sig) (hg : g.method = m) {b : Addr} (E : Exa Z h b C) (has : (Value.ref b :: argsL).toArray = as') (hlen : argsL.length = sig.parameters.length)
    (hst : g.stack = argsL.reverse ++ .ref b :: rest) (hd : decode c.code g.pc = .ok (.invokevirtual index, 3)) (hW : 2 * g.monitorRoom + (rest.map fun v => v.category).sum = W0) (hf : rm.frames + 1 ≤ R.frames) (hl : W0 + (maxL + 11) + rm.locals ≤ R.locals) (hc : cells + rm.cells ≤ R.cells) (hs : slots + rm.slots ≤ R.slots)
    (k : ∀ v T' h' L, Stand p l e R s m args below meth c T' (locs ++ L) (cells + rm.cells) (slots + rm.slots) → T'.heap = h' → Q v h' L → W p e below F (T'.setTop { g with pc := g.pc + 3, stack := v.toList ++ rest })) : W p e below F (T.setTop g) := by
  obtain ⟨cq, kq, qa, qb, qc⟩ := isOf hZ eT E
  obtain ⟨v, _, ⟨T', L', k', n'⟩, -, X', ⟨L, hQ, e1, e2, e3⟩, st⟩ := X.virtualBackUpD hx hown (mvT hZ w1) (mvT hZ w7) (mvT hZ w5) hy (mvD hZ w6) (mvT hZ w2) (hM.back hZ w4 w3 hf hl) qa qc hg hml (Steps.refl _) (argsL := argsL) (rest := rest) (fun sg q => by cases pd.symm.trans q; exact hlen) hst (Nat.le_of_eq hW) hd (fun _ _ => ⟨has, eT, hc, hs⟩)
  dsimp only [Pt.U, Pt.locs, Pt.cells, Pt.slots] at X' e1 e2 e3 hQ st
  subst e1 e2 e3
  exact W.via st (k v T' _ L X' rfl hQ)
/-- a call through an interface -/
theorem W.callF {C : String} {count : Nat} (X : Stand p l e R s m args below meth c T locs cells slots) (hx : p.tables.exec = Jvm.exec) (hZ : Z.Warmed39 s.vm) (hown : s.vm.findClass own = some m.cls) (hml : g.locals.size = c.maxLocals)
    (w1 : (Jvm.Cond.methodLink own index y0).before a0 Z = true) (w5 : (Jvm.Cond.declares y0).before a0 Z = true) (w7 : (Jvm.Cond.interfaceMethod y0.cls y0.cls y0.name y0.desc).before args s = true) (w6 : (Jvm.Cond.selects C y0 y).before a0 Z = true) (w2 : (Jvm.Cond.instanceMethod y).before a0 Z = true) (w8 : (Jvm.Cond.publicMethod y).before a0 Z = true) (w9 : (Jvm.Cond.unhidden C y0.name y0.desc).before a0 Z = true) (w10 : (Jvm.Cond.castable C y0.cls).before a0 Z = true) (w3 : (Jvm.Cond.initialized y.cls).before a0 Z = true) (w4 : (Jvm.Cond.code y bytes maxL ret).before a0 Z = true) (eT : T.heap = h)
    (hM : Ctr l Z y bytes maxL ret rm as' h Q) (hy : y0.cls ≠ "java/lang/invoke/MethodHandle" ∧ y0.cls ≠ "java/lang/invoke/VarHandle") (pd : parseMethodDescriptor y0.desc = some sig) (hg : g.method = m) {b : Addr} (E : Exa Z h b C) (has : (Value.ref b :: argsL).toArray = as') (hlen : argsL.length = sig.parameters.length)
    (hst : g.stack = argsL.reverse ++ .ref b :: rest) (hd : decode c.code g.pc = .ok (.invokeinterface index count, 5)) (hW : 2 * g.monitorRoom + (rest.map fun v => v.category).sum = W0) (hf : rm.frames + 1 ≤ R.frames) (hl : W0 + (maxL + 11) + rm.locals ≤ R.locals) (hc : cells + rm.cells ≤ R.cells) (hs : slots + rm.slots ≤ R.slots)
    (k : ∀ v T' h' L, Stand p l e R s m args below meth c T' (locs ++ L) (cells + rm.cells) (slots + rm.slots) → T'.heap = h' → Q v h' L → W p e below F (T'.setTop { g with pc := g.pc + 5, stack := v.toList ++ rest })) : W p e below F (T.setTop g) := by
  obtain ⟨cq, kq, qa, qb, qc⟩ := isOf hZ eT E
  obtain ⟨v, _, ⟨T', L', k', n'⟩, -, X', ⟨L, hQ, e1, e2, e3⟩, st⟩ := X.interfaceBack hx hown (mvT hZ w1) (mvT hZ w5) w7 (mvT hZ w6) (mvT hZ w2) (mvT hZ w8) (mvT hZ w9) (mvT hZ w10) hy (hM.back hZ w4 w3 hf hl) qa qb qc hg hml (Steps.refl _) (argsL := argsL) (rest := rest) (fun sg q => by cases pd.symm.trans q; exact hlen) hst (Nat.le_of_eq hW) hd (fun _ _ => ⟨has, eT, hc, hs⟩)
  dsimp only [Pt.U, Pt.locs, Pt.cells, Pt.slots] at X' e1 e2 e3 hQ st
  subst e1 e2 e3
  exact W.via st (k v T' _ L X' rfl hQ)
/-- super.m(..) -/
theorem W.callSup {K : String} (X : Stand p l e R s m args below meth c T locs cells slots) (hx : p.tables.exec = Jvm.exec) (hZ : Z.Warmed39 s.vm) (hown : s.vm.findClass own = some m.cls) (hml : g.locals.size = c.maxLocals)
    (w1 : (Jvm.Cond.methodLink own index y).before a0 Z = true) (w5 : (Jvm.Cond.sameMethod y.cls y.cls y.name y.desc).before a0 Z = true) (w2 : (Jvm.Cond.instanceMethod y).before a0 Z = true) (w6 : (Jvm.Cond.superclass own y.cls).before a0 Z = true) (w3 : (Jvm.Cond.initialized y.cls).before a0 Z = true) (w4 : (Jvm.Cond.code y bytes maxL ret).before a0 Z = true) (eT : T.heap = h)
    (hM : Ctr l Z y bytes maxL ret rm as' h Q) (hn : y.name ≠ "<init>") (pd : parseMethodDescriptor y.desc = some sig) (hg : g.method = m) {b : Addr} (E : Exa Z h b K) (has : (Value.ref b :: argsL).toArray = as') (hlen : argsL.length = sig.parameters.length)
    (hst : g.stack = argsL.reverse ++ .ref b :: rest) (hd : decode c.code g.pc = .ok (.invokespecial index, 3)) (hW : 2 * g.monitorRoom + (rest.map fun v => v.category).sum = W0) (hf : rm.frames + 1 ≤ R.frames) (hl : W0 + (maxL + 11) + rm.locals ≤ R.locals) (hc : cells + rm.cells ≤ R.cells) (hs : slots + rm.slots ≤ R.slots)
    (k : ∀ v T' h' L, Stand p l e R s m args below meth c T' (locs ++ L) (cells + rm.cells) (slots + rm.slots) → T'.heap = h' → Q v h' L → W p e below F (T'.setTop { g with pc := g.pc + 3, stack := v.toList ++ rest })) : W p e below F (T.setTop g) := by
  obtain ⟨v, _, ⟨T', L', k', n'⟩, -, X', ⟨L, hQ, e1, e2, e3⟩, st⟩ := superBack X hx hZ hown w1 w5 w2 w6 hn (hM.back hZ w4 w3 hf hl) eT (Ins.self E) hg hml w4 (argsL := argsL) (rest := rest) (fun sg q => by cases pd.symm.trans q; exact hlen) hst (Nat.le_of_eq hW) hd (fun _ _ => ⟨has, eT, hc, hs⟩)
  dsimp only [Pt.U, Pt.locs, Pt.cells, Pt.slots] at X' e1 e2 e3 hQ st
  subst e1 e2 e3
  exact W.via st (k v T' _ L X' rfl hQ)
theorem nfOf {C : String} {x z : MethodName} (w6 : (Jvm.Cond.selects C x z).before args s = true) (hz : z.cls = y.cls) : NotFace s y := fun r0 h0 => by
  obtain ⟨c1, r1, m1, -, -, hm, -, kP, hkP, hni⟩ := Cond.selects_spec w6
  have hc := findClass_of_methodNamed h0
  have hc2 := findClass_of_methodNamed hm
  rw [hz] at hc2
  have q : r0.cls = m1.cls := Option.some.inj (hc.symm.trans hc2)
  exact ⟨kP, by rw [q]; exact hkP, hni⟩
/-- a class that declares a method finds it; that she is no interface is read off a 'selects' word that ends in her -/
theorem sameDecl {C : String} {x z : MethodName} (w5 : (Jvm.Cond.declares y).before a0 Z = true) (w6 : (Jvm.Cond.selects C x z).before a0 Z = true) (hz : z.cls = y.cls) (hy : y.cls ≠ "java/lang/invoke/MethodHandle" ∧ y.cls ≠ "java/lang/invoke/VarHandle") : (Jvm.Cond.sameMethod y.cls y.cls y.name y.desc).before a0 Z = true := by
  obtain ⟨r0, r, hn, hrm, -, -⟩ := Cond.declares_spec w5
  have hf : Z.methodFound? y.cls y.name y.desc = some r0 := State.methodFound?_of_named hn hy
  have hc := findClass_of_methodNamed hn
  obtain ⟨c1, r1, m1, -, -, hm, -, kP, hkP, hni⟩ := Cond.selects_spec w6
  have hc2 := findClass_of_methodNamed hm
  rw [hz] at hc2
  have q : r0.cls = m1.cls := Option.some.inj (hc.symm.trans hc2)
  have hn' : Z.methodNamed? ⟨y.cls, y.name, y.desc⟩ = some r0 := hn
  have hk : Z.vm.classes[r0.cls]? = some kP := by rw [q]; exact hkP
  simp [Jvm.Cond.before, Jvm.Cond.holds, Jvm.Cond.value, hc, hf, hn', hk, hni]
/-- a private method by its contract -/
theorem W.callP (X : Stand p l e R s m args below meth c T locs cells slots) (hx : p.tables.exec = Jvm.exec) (hZ : Z.Warmed39 s.vm) (hown : s.vm.findClass own = some m.cls) (hml : g.locals.size = c.maxLocals)
    (w1 : (Jvm.Cond.methodLink own index y).before a0 Z = true) (w5 : (Jvm.Cond.privateMethod y).before a0 Z = true) (w6 : (Jvm.Cond.selects y.cls y y).before args s = true) (w2 : (Jvm.Cond.instanceMethod y).before a0 Z = true) (w3 : (Jvm.Cond.initialized y.cls).before a0 Z = true) (w4 : (Jvm.Cond.code y bytes maxL ret).before a0 Z = true) (eT : T.heap = h)
    (hM : Ctr l Z y bytes maxL ret rm as' h Q) (hy : y.cls ≠ "java/lang/invoke/MethodHandle" ∧ y.cls ≠ "java/lang/invoke/VarHandle") (pd : parseMethodDescriptor y.desc = some sig) (hg : g.method = m) {b : Addr} {C : String} (E : Exa Z h b C) (has : (Value.ref b :: argsL).toArray = as') (hlen : argsL.length = sig.parameters.length)
    (hst : g.stack = argsL.reverse ++ .ref b :: rest) (hd : decode c.code g.pc = .ok (.invokevirtual index, 3)) (hW : 2 * g.monitorRoom + (rest.map fun v => v.category).sum = W0) (hf : rm.frames + 1 ≤ R.frames) (hl : W0 + (maxL + 11) + rm.locals ≤ R.locals) (hc : cells + rm.cells ≤ R.cells) (hs : slots + rm.slots ≤ R.slots)
    (k : ∀ v T' h' L, Stand p l e R s m args below meth c T' (locs ++ L) (cells + rm.cells) (slots + rm.slots) → T'.heap = h' → Q v h' L → W p e below F (T'.setTop { g with pc := g.pc + 3, stack := v.toList ++ rest })) : W p e below F (T.setTop g) := by
  obtain ⟨cq, q1, q2⟩ := E.cell
  obtain ⟨v, _, ⟨T', L', k', n'⟩, -, X', ⟨L, hQ, e1, e2, e3⟩, st⟩ := X.privateBack hx hown (mvT hZ w1) (mvT hZ w2) w6 (Cond.privateMethod_at (mvP hZ w5 (args := #[]))) (mvT hZ w4) hy (hM.back hZ w4 w3 hf hl) hg hml (Steps.refl _) (a := b) (by rw [eT]; exact q1) q2 (argsL := argsL) (rest := rest) (fun sg q => by cases pd.symm.trans q; exact hlen) hst (Nat.le_of_eq hW) hd (fun _ _ => ⟨has, eT, hc, hs⟩)
  dsimp only [Pt.U, Pt.locs, Pt.cells, Pt.slots] at X' e1 e2 e3 hQ st
  subst e1 e2 e3
  exact W.via st (k v T' _ L X' rfl hQ)
/-- 'selects' of a private method -/
theorem selPriv {n : Nat} (hZ : Z.Warmed39 s.vm) (wi : (Jvm.Cond.instantiable y.cls n).before a0 Z = true) (w5 : (Jvm.Cond.privateMethod y).before a0 Z = true) (w2 : (Jvm.Cond.instanceMethod y).before a0 Z = true) (hy : y.cls ≠ "java/lang/invoke/MethodHandle" ∧ y.cls ≠ "java/lang/invoke/VarHandle") : (Jvm.Cond.selects y.cls y y).before args s = true := by
  obtain ⟨c2, k2, i1, i2, -, i4, -⟩ := Cond.instantiable_spec (mvT (args := args) hZ wi)
  exact selects_self_of_private i1 i2 (Bool.or_eq_false_iff.mp i4).1 (Cond.privateMethod_at (mvP hZ w5 (args := #[]))) (mvT hZ w2) hy
end Calls
theorem Sta.keep {h' : Heap} {C n d : String} {v : Value} {ws : List Addr} (F : Sta Z h C n d v) (K : Keep h h' ws) (hw : ∀ x ∈ ws, ∀ cell : Cell, h[x]? = some cell → cell.vm.isStatics = false) : Sta Z h' C n d v := by
  obtain ⟨cf, i, k, f, st, cell, h1, h2, h3, h4, h5, h6, h7⟩ := F
  refine ⟨cf, i, k, f, st, cell, h1, h2, h3, h4, K.2.1 st cell h5 fun hm => ?_, h6, h7⟩
  rw [hw st hm cell h5] at h6; cases h6
theorem eqI_v {t : Term} {k : Int32} {first : State} {o : Option Outcome} {idx : List Nat} (hk : (Jvm.Cond.eq t (.int k)).value args first o s idx = some true) : t.eval args first o idx s = some (.int k) := by
  simp only [Jvm.Cond.value, Term.eval] at hk
  cases ht : t.eval args first o idx s with
  | none => simp [ht] at hk
  | some x => cases x <;> simp [ht] at hk ⊢; exact hk
theorem lenI_v {t : Term} {a : Addr} {cl : Cell} {ty : FieldType} {k : Int32} (A : Arr s s.heap a cl ty) (ev : t.eval args s none [] s = some (.ref a)) (hk : (Jvm.Cond.eq (.length t) (.int k)).value args s none s [] = some true) : cl.slots.size < 2 ^ 31 ∧ cl.slots.size.toInt32 = k := by
  have q := eqI_v hk
  have r : s.arrayAt? a = some cl := A.fin (Vm.Alike.refl _)
  simp only [Term.eval, ev, r, Option.bind_eq_bind, Option.bind_some] at q
  split at q
  · rename_i z; cases q; exact ⟨z, rfl⟩
  · cases q
theorem rngM (x n : Int32) (hn : 0 < n.toInt) : 0 ≤ ((x &&& 2147483647) % n).toInt ∧ ((x &&& 2147483647) % n).toInt < n.toInt := by
  have q := c_mask x 2147483647 31 (by decide) (by decide)
  have q0 : 0 ≤ (x &&& 2147483647).toInt := by rw [q]; exact Int.emod_nonneg _ (by decide)
  have r := (c_iremV (x &&& 2147483647) n).1 q0 hn
  exact ⟨r.1, r.2.1⟩
end Own
end Jvm.OwnKit
namespace Jvm.Pilot.@@N@@
open Jvm Jvm.ClassFile Sem Op Lib Jvm.Free Jvm.Stand Jvm.LawKit Jvm.RoadKit Bundle Jvm.OwnKit Jvm.Pilot.@@N@@.Jvm.D
theorem d1_0 : decode method_2_code 0 = .ok (.iload_n 0, 1) := by decide +kernel
theorem d1_1 : decode method_2_code 1 = .ok (.iconst 2, 1) := by decide +kernel
theorem d1_2 : decode method_2_code 2 = .ok (.iload_n 3, 1) := by decide +kernel
theorem d1_3 : decode method_2_code 3 = .ok (.imul, 1) := by decide +kernel
theorem d1_4 : decode method_2_code 4 = .ok (.iushr, 1) := by decide +kernel
theorem d1_5 : decode method_2_code 5 = .ok (.iconst 3, 1) := by decide +kernel
theorem d1_6 : decode method_2_code 6 = .ok (.iand, 1) := by decide +kernel
theorem d1_7 : decode method_2_code 7 = .ok (.istore 4, 2) := by decide +kernel
theorem d1_9 : decode method_2_code 9 = .ok (.iload 4, 2) := by decide +kernel
theorem d1_11 : decode method_2_code 11 = .ok (.ifCond .ne 6, 3) := by decide +kernel
theorem d1_14 : decode method_2_code 14 = .ok (.bipush (-17), 2) := by decide +kernel
theorem d1_16 : decode method_2_code 16 = .ok (.ireturn, 1) := by decide +kernel
theorem d1_17 : decode method_2_code 17 = .ok (.iload 4, 2) := by decide +kernel
theorem d1_19 : decode method_2_code 19 = .ok (.iconst 1, 1) := by decide +kernel
theorem d1_20 : decode method_2_code 20 = .ok (.if_icmp .ne 6, 3) := by decide +kernel
theorem d1_23 : decode method_2_code 23 = .ok (.bipush (-69), 2) := by decide +kernel
theorem d1_25 : decode method_2_code 25 = .ok (.ireturn, 1) := by decide +kernel
theorem d1_26 : decode method_2_code 26 = .ok (.iload 4, 2) := by decide +kernel
theorem d1_28 : decode method_2_code 28 = .ok (.iconst 2, 1) := by decide +kernel
theorem d1_29 : decode method_2_code 29 = .ok (.if_icmp .ne 6, 3) := by decide +kernel
theorem d1_32 : decode method_2_code 32 = .ok (.bipush (-65), 2) := by decide +kernel
theorem d1_34 : decode method_2_code 34 = .ok (.ireturn, 1) := by decide +kernel
theorem d1_35 : decode method_2_code 35 = .ok (.lload_n 1, 1) := by decide +kernel
theorem d1_36 : decode method_2_code 36 = .ok (.bipush 8, 2) := by decide +kernel
theorem d1_38 : decode method_2_code 38 = .ok (.iload_n 3, 1) := by decide +kernel
theorem d1_39 : decode method_2_code 39 = .ok (.imul, 1) := by decide +kernel
theorem d1_40 : decode method_2_code 40 = .ok (.lushr, 1) := by decide +kernel
theorem d1_41 : decode method_2_code 41 = .ok (.l2i, 1) := by decide +kernel
theorem d1_42 : decode method_2_code 42 = .ok (.i2b, 1) := by decide +kernel
theorem d1_43 : decode method_2_code 43 = .ok (.ireturn, 1) := by decide +kernel
theorem pn_com_example_parleyd_parleyd_core_Utf8OpeningMarkBytesPinLaw : plainName "com/example/parleyd/parleyd/core/Utf8OpeningMarkBytesPinLaw" = true := by first | (simp [plainName, overriddenIn]; done) | decide +kernel
def Q_rm1 (Z : State) (p0 : Int32) (q1 : Int64) (p2 : Int32) (h0 : Heap) (n0 : Nat) (v : Option Value) (h : Heap) (L : List Loc) : Prop := ∃ z : Int32, v = some (.int z) ∧ Fr n0 L ∧ h = h0
set_option maxRecDepth 65536 in
set_option maxHeartbeats 40000000 in
theorem rm1 (l : Launch) (Z : State) (a0 : Array Value) (hw : ∀ d ∈ tables_1, d.before a0 Z = true) (p0 : Int32) (q1 : Int64) (p2 : Int32) (h0 : Heap) (n0 : Nat) (Z0 : n0 ≤ h0.size) :
    Ctr l Z (⟨"com/example/parleyd/parleyd/core/Utf8OpeningMarkBytesPinLaw", "pick", "(IJI)B"⟩ : MethodName) method_2_code 5 (some .byte) ({ frames := 0, cells := 0, slots := 0, locals := 0 } : Room) #[(.int p0), (.long q1), (.int p2)] h0 (Q_rm1 Z p0 q1 p2 h0 n0) := by
  refine Ctr.body (fr := fun m => mkF m 0 #[.val (.int p0), .val (.long q1), .second, .val (.int p2), .unset] []) (plainFor_of_name pn_com_example_parleyd_parleyd_core_Utf8OpeningMarkBytesPinLaw) (fun m => by first | (simp [entryFrame, mkF, argsToLocals, Value.category]; done) | rfl) fun p e s m below meth c s₁ hx hby hml hZ hown hnm hret hlk X0 e0 => ?_
  have N0 := Fr.nil n0
  have hown : s.vm.findClass "com/example/parleyd/parleyd/core/Utf8OpeningMarkBytesPinLaw" = some m.cls := hown
  show W p e below _ (s₁.setTop (mkF m 0 #[.val (.int p0), .val (.long q1), .second, .val (.int p2), .unset] []))
  refine W.go (fun _ hr => XS.iloadN X0.here hx rfl (hb hby d1_0) rfl hr) ?_
  show W p e below _ (s₁.setTop (mkF m 1 #[.val (.int p0), .val (.long q1), .second, .val (.int p2), .unset] [(.int p0)]))
  refine W.go (fun _ hr => XS.iconst X0.here hx rfl (hb hby d1_1) hr) ?_
  show W p e below _ (s₁.setTop (mkF m 2 #[.val (.int p0), .val (.long q1), .second, .val (.int p2), .unset] [(.int (2 : Int32)), (.int p0)]))
  refine W.go (fun _ hr => XS.iloadN X0.here hx rfl (hb hby d1_2) rfl hr) ?_
  show W p e below _ (s₁.setTop (mkF m 3 #[.val (.int p0), .val (.long q1), .second, .val (.int p2), .unset] [(.int p2), (.int (2 : Int32)), (.int p0)]))
  refine W.go (fun _ hr => XS.imul X0.here hx rfl (hb hby d1_3) rfl hr) ?_
  show W p e below _ (s₁.setTop (mkF m 4 #[.val (.int p0), .val (.long q1), .second, .val (.int p2), .unset] [(.int ((2 : Int32) * p2)), (.int p0)]))
  refine W.go (fun _ hr => XS.iushr X0.here hx rfl (hb hby d1_4) rfl hr) ?_
  show W p e below _ (s₁.setTop (mkF m 5 #[.val (.int p0), .val (.long q1), .second, .val (.int p2), .unset] [(.int ((p0.toUInt32 >>> (((2 : Int32) * p2) &&& 31).toUInt32).toInt32))]))
  refine W.go (fun _ hr => XS.iconst X0.here hx rfl (hb hby d1_5) hr) ?_
  show W p e below _ (s₁.setTop (mkF m 6 #[.val (.int p0), .val (.long q1), .second, .val (.int p2), .unset] [(.int (3 : Int32)), (.int ((p0.toUInt32 >>> (((2 : Int32) * p2) &&& 31).toUInt32).toInt32))]))
  refine W.go (fun _ hr => XS.iand X0.here hx rfl (hb hby d1_6) rfl hr) ?_
  show W p e below _ (s₁.setTop (mkF m 7 #[.val (.int p0), .val (.long q1), .second, .val (.int p2), .unset] [(.int (((p0.toUInt32 >>> (((2 : Int32) * p2) &&& 31).toUInt32).toInt32) &&& (3 : Int32)))]))
  refine W.go (fun _ hr => XS.istore X0.here hx rfl (hb hby d1_7) rfl (l' := #[.val (.int p0), .val (.long q1), .second, .val (.int p2), .val (.int (((p0.toUInt32 >>> (((2 : Int32) * p2) &&& 31).toUInt32).toInt32) &&& (3 : Int32)))]) rfl hr) ?_
  show W p e below _ (s₁.setTop (mkF m 9 #[.val (.int p0), .val (.long q1), .second, .val (.int p2), .val (.int (((p0.toUInt32 >>> (((2 : Int32) * p2) &&& 31).toUInt32).toInt32) &&& (3 : Int32)))] []))
  refine W.go (fun _ hr => XS.iload X0.here hx rfl (hb hby d1_9) rfl hr) ?_
  show W p e below _ (s₁.setTop (mkF m 11 #[.val (.int p0), .val (.long q1), .second, .val (.int p2), .val (.int (((p0.toUInt32 >>> (((2 : Int32) * p2) &&& 31).toUInt32).toInt32) &&& (3 : Int32)))] [(.int (((p0.toUInt32 >>> (((2 : Int32) * p2) &&& 31).toUInt32).toInt32) &&& (3 : Int32)))]))
  by_cases hc11_1 : (((p0.toUInt32 >>> (((2 : Int32) * p2) &&& 31).toUInt32).toInt32) &&& (3 : Int32)) = (0 : Int32)
  · refine W.go (fun _ hr => XS.ifNo X0.here hx rfl (hb hby d1_11) rfl ((if0 _ _).trans (teq hc11_1).2) hr) ?_
    show W p e below _ (s₁.setTop (mkF m 14 #[.val (.int p0), .val (.long q1), .second, .val (.int p2), .val (.int (((p0.toUInt32 >>> (((2 : Int32) * p2) &&& 31).toUInt32).toInt32) &&& (3 : Int32)))] []))
    refine W.go (fun _ hr => XS.bipush X0.here hx rfl (hb hby d1_14) hr) ?_
    show W p e below _ (s₁.setTop (mkF m 16 #[.val (.int p0), .val (.long q1), .second, .val (.int p2), .val (.int (((p0.toUInt32 >>> (((2 : Int32) * p2) &&& 31).toUInt32).toInt32) &&& (3 : Int32)))] [(.int (-17 : Int32))]))
    exact W.retB X0 hx hlk (t := .byte) hret (by simp) (hb hby d1_16) (by decide) (by decide) e0 ⟨_, rfl, N0, rfl⟩
  · refine W.go (fun _ hr => XS.ifYes X0.here hx rfl (pc0 := 11) (pc' := 17) rfl (hb hby d1_11) rfl ((if0 _ _).trans (feq hc11_1).2) (by decide) (by decide) hr) ?_
    show W p e below _ (s₁.setTop (mkF m 17 #[.val (.int p0), .val (.long q1), .second, .val (.int p2), .val (.int (((p0.toUInt32 >>> (((2 : Int32) * p2) &&& 31).toUInt32).toInt32) &&& (3 : Int32)))] []))
    refine W.go (fun _ hr => XS.iload X0.here hx rfl (hb hby d1_17) rfl hr) ?_
    show W p e below _ (s₁.setTop (mkF m 19 #[.val (.int p0), .val (.long q1), .second, .val (.int p2), .val (.int (((p0.toUInt32 >>> (((2 : Int32) * p2) &&& 31).toUInt32).toInt32) &&& (3 : Int32)))] [(.int (((p0.toUInt32 >>> (((2 : Int32) * p2) &&& 31).toUInt32).toInt32) &&& (3 : Int32)))]))
    refine W.go (fun _ hr => XS.iconst X0.here hx rfl (hb hby d1_19) hr) ?_
    show W p e below _ (s₁.setTop (mkF m 20 #[.val (.int p0), .val (.long q1), .second, .val (.int p2), .val (.int (((p0.toUInt32 >>> (((2 : Int32) * p2) &&& 31).toUInt32).toInt32) &&& (3 : Int32)))] [(.int (1 : Int32)), (.int (((p0.toUInt32 >>> (((2 : Int32) * p2) &&& 31).toUInt32).toInt32) &&& (3 : Int32)))]))
    by_cases hc20_2 : (((p0.toUInt32 >>> (((2 : Int32) * p2) &&& 31).toUInt32).toInt32) &&& (3 : Int32)) = (1 : Int32)
    · refine W.go (fun _ hr => XS.icmpNo X0.here hx rfl (hb hby d1_20) rfl (teq hc20_2).2 hr) ?_
      show W p e below _ (s₁.setTop (mkF m 23 #[.val (.int p0), .val (.long q1), .second, .val (.int p2), .val (.int (((p0.toUInt32 >>> (((2 : Int32) * p2) &&& 31).toUInt32).toInt32) &&& (3 : Int32)))] []))
      refine W.go (fun _ hr => XS.bipush X0.here hx rfl (hb hby d1_23) hr) ?_
      show W p e below _ (s₁.setTop (mkF m 25 #[.val (.int p0), .val (.long q1), .second, .val (.int p2), .val (.int (((p0.toUInt32 >>> (((2 : Int32) * p2) &&& 31).toUInt32).toInt32) &&& (3 : Int32)))] [(.int (-69 : Int32))]))
      exact W.retB X0 hx hlk (t := .byte) hret (by simp) (hb hby d1_25) (by decide) (by decide) e0 ⟨_, rfl, N0, rfl⟩
    · refine W.go (fun _ hr => XS.icmpYes X0.here hx rfl (pc0 := 20) (pc' := 26) rfl (hb hby d1_20) rfl (feq hc20_2).2 (by decide) (by decide) hr) ?_
      show W p e below _ (s₁.setTop (mkF m 26 #[.val (.int p0), .val (.long q1), .second, .val (.int p2), .val (.int (((p0.toUInt32 >>> (((2 : Int32) * p2) &&& 31).toUInt32).toInt32) &&& (3 : Int32)))] []))
      refine W.go (fun _ hr => XS.iload X0.here hx rfl (hb hby d1_26) rfl hr) ?_
      show W p e below _ (s₁.setTop (mkF m 28 #[.val (.int p0), .val (.long q1), .second, .val (.int p2), .val (.int (((p0.toUInt32 >>> (((2 : Int32) * p2) &&& 31).toUInt32).toInt32) &&& (3 : Int32)))] [(.int (((p0.toUInt32 >>> (((2 : Int32) * p2) &&& 31).toUInt32).toInt32) &&& (3 : Int32)))]))
      refine W.go (fun _ hr => XS.iconst X0.here hx rfl (hb hby d1_28) hr) ?_
      show W p e below _ (s₁.setTop (mkF m 29 #[.val (.int p0), .val (.long q1), .second, .val (.int p2), .val (.int (((p0.toUInt32 >>> (((2 : Int32) * p2) &&& 31).toUInt32).toInt32) &&& (3 : Int32)))] [(.int (2 : Int32)), (.int (((p0.toUInt32 >>> (((2 : Int32) * p2) &&& 31).toUInt32).toInt32) &&& (3 : Int32)))]))
      by_cases hc29_3 : (((p0.toUInt32 >>> (((2 : Int32) * p2) &&& 31).toUInt32).toInt32) &&& (3 : Int32)) = (2 : Int32)
      · refine W.go (fun _ hr => XS.icmpNo X0.here hx rfl (hb hby d1_29) rfl (teq hc29_3).2 hr) ?_
        show W p e below _ (s₁.setTop (mkF m 32 #[.val (.int p0), .val (.long q1), .second, .val (.int p2), .val (.int (((p0.toUInt32 >>> (((2 : Int32) * p2) &&& 31).toUInt32).toInt32) &&& (3 : Int32)))] []))
        refine W.go (fun _ hr => XS.bipush X0.here hx rfl (hb hby d1_32) hr) ?_
        show W p e below _ (s₁.setTop (mkF m 34 #[.val (.int p0), .val (.long q1), .second, .val (.int p2), .val (.int (((p0.toUInt32 >>> (((2 : Int32) * p2) &&& 31).toUInt32).toInt32) &&& (3 : Int32)))] [(.int (-65 : Int32))]))
        exact W.retB X0 hx hlk (t := .byte) hret (by simp) (hb hby d1_34) (by decide) (by decide) e0 ⟨_, rfl, N0, rfl⟩
      · refine W.go (fun _ hr => XS.icmpYes X0.here hx rfl (pc0 := 29) (pc' := 35) rfl (hb hby d1_29) rfl (feq hc29_3).2 (by decide) (by decide) hr) ?_
        show W p e below _ (s₁.setTop (mkF m 35 #[.val (.int p0), .val (.long q1), .second, .val (.int p2), .val (.int (((p0.toUInt32 >>> (((2 : Int32) * p2) &&& 31).toUInt32).toInt32) &&& (3 : Int32)))] []))
        refine W.go (fun _ hr => XS.lloadN X0.here hx rfl (hb hby d1_35) rfl hr) ?_
        show W p e below _ (s₁.setTop (mkF m 36 #[.val (.int p0), .val (.long q1), .second, .val (.int p2), .val (.int (((p0.toUInt32 >>> (((2 : Int32) * p2) &&& 31).toUInt32).toInt32) &&& (3 : Int32)))] [(.long q1)]))
        refine W.go (fun _ hr => XS.bipush X0.here hx rfl (hb hby d1_36) hr) ?_
        show W p e below _ (s₁.setTop (mkF m 38 #[.val (.int p0), .val (.long q1), .second, .val (.int p2), .val (.int (((p0.toUInt32 >>> (((2 : Int32) * p2) &&& 31).toUInt32).toInt32) &&& (3 : Int32)))] [(.int (8 : Int32)), (.long q1)]))
        refine W.go (fun _ hr => XS.iloadN X0.here hx rfl (hb hby d1_38) rfl hr) ?_
        show W p e below _ (s₁.setTop (mkF m 39 #[.val (.int p0), .val (.long q1), .second, .val (.int p2), .val (.int (((p0.toUInt32 >>> (((2 : Int32) * p2) &&& 31).toUInt32).toInt32) &&& (3 : Int32)))] [(.int p2), (.int (8 : Int32)), (.long q1)]))
        refine W.go (fun _ hr => XS.imul X0.here hx rfl (hb hby d1_39) rfl hr) ?_
        show W p e below _ (s₁.setTop (mkF m 40 #[.val (.int p0), .val (.long q1), .second, .val (.int p2), .val (.int (((p0.toUInt32 >>> (((2 : Int32) * p2) &&& 31).toUInt32).toInt32) &&& (3 : Int32)))] [(.int ((8 : Int32) * p2)), (.long q1)]))
        refine W.go (fun _ hr => XS.lushr X0.here hx rfl (hb hby d1_40) rfl hr) ?_
        show W p e below _ (s₁.setTop (mkF m 41 #[.val (.int p0), .val (.long q1), .second, .val (.int p2), .val (.int (((p0.toUInt32 >>> (((2 : Int32) * p2) &&& 31).toUInt32).toInt32) &&& (3 : Int32)))] [(.long ((q1.toUInt64 >>> (((8 : Int32) * p2) &&& 0x3f).toInt64.toUInt64).toInt64))]))
        refine W.go (fun _ hr => XS.l2i X0.here hx rfl (hb hby d1_41) rfl hr) ?_
        show W p e below _ (s₁.setTop (mkF m 42 #[.val (.int p0), .val (.long q1), .second, .val (.int p2), .val (.int (((p0.toUInt32 >>> (((2 : Int32) * p2) &&& 31).toUInt32).toInt32) &&& (3 : Int32)))] [(.int (((q1.toUInt64 >>> (((8 : Int32) * p2) &&& 0x3f).toInt64.toUInt64).toInt64).toInt32))]))
        refine W.go (fun _ hr => XS.i2b X0.here hx rfl (hb hby d1_42) rfl hr) ?_
        show W p e below _ (s₁.setTop (mkF m 43 #[.val (.int p0), .val (.long q1), .second, .val (.int p2), .val (.int (((p0.toUInt32 >>> (((2 : Int32) * p2) &&& 31).toUInt32).toInt32) &&& (3 : Int32)))] [(.int ((((q1.toUInt64 >>> (((8 : Int32) * p2) &&& 0x3f).toInt64.toUInt64).toInt64).toInt32).toInt8.toInt32))]))
        exact W.retB X0 hx hlk (t := .byte) hret (by simp) (hb hby d1_43) (by decide) (by decide) e0 ⟨_, rfl, N0, rfl⟩
def own_cnt (f : Int32 → Int32) (a b : Int32) : Int32 := if a < b ∧ f a = -17 then (if a + 1 < b ∧ f (a + 1) = -69 then (if a + 2 < b ∧ f (a + 2) = -65 then 3 else 2) else 1) else 0
theorem own_in0 {a b : Int32} (ha : 0 ≤ a.toInt ∧ a.toInt ≤ 6) (hq6 : b.toInt ≤ 6) (h : a < b) : ¬ a < 0 ∧ a < 6 := by
  simp only [Int32.lt_iff_toInt_lt, Int32.reduceToInt] at *
  omega
theorem own_in (a b : Int32) (k : Int32) (hk : 0 ≤ k.toInt ∧ k.toInt ≤ 2) (ha : 0 ≤ a.toInt ∧ a.toInt ≤ 6) (hq6 : b.toInt ≤ 6) (h : a + k < b) : ¬ a + k < 0 ∧ a + k < 6 := by
  have c1 := c_iadd a k
  have r1 := rng32 (a + k)
  simp only [Int32.lt_iff_toInt_lt, Int32.reduceToInt] at *
  omega
theorem d2_0 : decode prog_8_method_2_code 0 = .ok (.iconst 0, 1) := by decide +kernel
theorem d2_1 : decode prog_8_method_2_code 1 = .ok (.istore_n 3, 1) := by decide +kernel
theorem d2_2 : decode prog_8_method_2_code 2 = .ok (.iload_n 3, 1) := by decide +kernel
theorem d2_3 : decode prog_8_method_2_code 3 = .ok (.getstatic 7, 3) := by decide +kernel
theorem d2_6 : decode prog_8_method_2_code 6 = .ok (.arraylength, 1) := by decide +kernel
theorem d2_7 : decode prog_8_method_2_code 7 = .ok (.if_icmp .ge 29, 3) := by decide +kernel
theorem d2_10 : decode prog_8_method_2_code 10 = .ok (.iload_n 1, 1) := by decide +kernel
theorem d2_11 : decode prog_8_method_2_code 11 = .ok (.iload_n 3, 1) := by decide +kernel
theorem d2_12 : decode prog_8_method_2_code 12 = .ok (.iadd, 1) := by decide +kernel
theorem d2_13 : decode prog_8_method_2_code 13 = .ok (.iload_n 2, 1) := by decide +kernel
theorem d2_14 : decode prog_8_method_2_code 14 = .ok (.if_icmp .ge 22, 3) := by decide +kernel
theorem d2_17 : decode prog_8_method_2_code 17 = .ok (.aload_n 0, 1) := by decide +kernel
theorem d2_18 : decode prog_8_method_2_code 18 = .ok (.iload_n 1, 1) := by decide +kernel
theorem d2_19 : decode prog_8_method_2_code 19 = .ok (.iload_n 3, 1) := by decide +kernel
theorem d2_20 : decode prog_8_method_2_code 20 = .ok (.iadd, 1) := by decide +kernel
theorem d2_21 : decode prog_8_method_2_code 21 = .ok (.baload, 1) := by decide +kernel
theorem d2_22 : decode prog_8_method_2_code 22 = .ok (.getstatic 7, 3) := by decide +kernel
theorem d2_25 : decode prog_8_method_2_code 25 = .ok (.iload_n 3, 1) := by decide +kernel
theorem d2_26 : decode prog_8_method_2_code 26 = .ok (.baload, 1) := by decide +kernel
theorem d2_27 : decode prog_8_method_2_code 27 = .ok (.if_icmp .ne 9, 3) := by decide +kernel
theorem d2_30 : decode prog_8_method_2_code 30 = .ok (.iinc 3 1, 3) := by decide +kernel
theorem d2_33 : decode prog_8_method_2_code 33 = .ok (.goto (-31), 3) := by decide +kernel
theorem d2_36 : decode prog_8_method_2_code 36 = .ok (.iload_n 3, 1) := by decide +kernel
theorem d2_37 : decode prog_8_method_2_code 37 = .ok (.ireturn, 1) := by decide +kernel
theorem pn_com_example_parleyd_parleyd_core_Utf8 : plainName "com/example/parleyd/parleyd/core/Utf8" = true := by first | (simp [plainName, overriddenIn]; done) | decide +kernel
def Q_rm2 (Z : State) (r0 : Addr) (p1 : Int32) (p2 : Int32) (w_B : Addr) (kB : ClassId) (k0 : ClassId) (vs : List Value) (dv : Value) (f : Int32 → Int32) (z : Int32) (h0 : Heap) (n0 : Nat) (v : Option Value) (h : Heap) (L : List Loc) : Prop := v = some (.int z) ∧ Fr n0 L ∧ h = h0
set_option maxRecDepth 65536 in
set_option maxHeartbeats 40000000 in
theorem rm2 (l : Launch) (Z : State) (a0 : Array Value) (hw : ∀ d ∈ tables_1, d.before a0 Z = true) (r0 : Addr) (p1 : Int32) (p2 : Int32) (w_B : Addr) (kB : ClassId) (k0 : ClassId) (vs : List Value) (dv : Value) (f : Int32 → Int32) (z : Int32) (h0 : Heap) (n0 : Nat) (Z0 : n0 ≤ h0.size) (S_BYTE_ORDER_MARK : Sta Z h0 "com/example/parleyd/parleyd/core/Utf8" "BYTE_ORDER_MARK" "[B" (.ref w_B)) (V_w_B : Arv Z h0 w_B kB .byte 3 [(.int (-17 : Int32)), (.int (-69 : Int32)), (.int (-65 : Int32))] (.int (0 : Int32))) (V_r0 : Arv Z h0 r0 k0 .byte 6 vs dv) (hf : ∀ j : Int32, ¬ j < 0 ∧ j < 6 → vs.getD j.toNatClampNeg dv = .int (f j)) (ha : 0 ≤ p1.toInt ∧ p1.toInt ≤ 6) (hq6 : p2.toInt ≤ 6) (hz : z = own_cnt f p1 p2) :
    Ctr l Z (⟨"com/example/parleyd/parleyd/core/Utf8", "openingMarkBytes", "([BII)I"⟩ : MethodName) prog_8_method_2_code 4 (some .int) ({ frames := 0, cells := 0, slots := 0, locals := 0 } : Room) #[(.ref r0), (.int p1), (.int p2)] h0 (Q_rm2 Z r0 p1 p2 w_B kB k0 vs dv f z h0 n0) := by
  refine Ctr.body (fr := fun m => mkF m 0 #[.val (.ref r0), .val (.int p1), .val (.int p2), .unset] []) (plainFor_of_name pn_com_example_parleyd_parleyd_core_Utf8) (fun m => by first | (simp [entryFrame, mkF, argsToLocals, Value.category]; done) | rfl) fun p e s m below meth c s₁ hx hby hml hZ hown hnm hret hlk X0 e0 => ?_
  have N0 := Fr.nil n0
  have hown : s.vm.findClass "com/example/parleyd/parleyd/core/Utf8" = some m.cls := hown
  show W p e below _ (s₁.setTop (mkF m 0 #[.val (.ref r0), .val (.int p1), .val (.int p2), .unset] []))
  refine W.go (fun _ hr => XS.iconst X0.here hx rfl (hb hby d2_0) hr) ?_
  show W p e below _ (s₁.setTop (mkF m 1 #[.val (.ref r0), .val (.int p1), .val (.int p2), .unset] [(.int (0 : Int32))]))
  refine W.go (fun _ hr => XS.istoreN X0.here hx rfl (hb hby d2_1) rfl (l' := #[.val (.ref r0), .val (.int p1), .val (.int p2), .val (.int (0 : Int32))]) rfl hr) ?_
  show W p e below _ (s₁.setTop (mkF m 2 #[.val (.ref r0), .val (.int p1), .val (.int p2), .val (.int (0 : Int32))] []))
  refine W.go (fun _ hr => XS.iloadN X0.here hx rfl (hb hby d2_2) rfl hr) ?_
  show W p e below _ (s₁.setTop (mkF m 3 #[.val (.ref r0), .val (.int p1), .val (.int p2), .val (.int (0 : Int32))] [(.int (0 : Int32))]))
  obtain ⟨T1, X1, e1, st1⟩ := getS2 X0 hx hZ hown (host := "") (Or.inl (hw _ (List.mem_of_getElem? (i := 10) rfl))) Via.refl e0 S_BYTE_ORDER_MARK (g := (mkF m 3 #[.val (.ref r0), .val (.int p1), .val (.int p2), .val (.int (0 : Int32))] [(.int (0 : Int32))])) rfl (hb hby d2_3)
  refine W.go st1 ?_
  show W p e below _ (T1.setTop (mkF m 6 #[.val (.ref r0), .val (.int p1), .val (.int p2), .val (.int (0 : Int32))] [(.ref w_B), (.int (0 : Int32))]))
  obtain ⟨cl2, Ar2, q2, S2, Nn2, H2, G2⟩ := id V_w_B
  refine W.go (X1.arraylength hx (by rw [e1]; exact Ar2.1) (State.isArrayOf_alike hZ.alike Ar2.2.1) (g := (mkF m 6 #[.val (.ref r0), .val (.int p1), .val (.int p2), .val (.int (0 : Int32))] [(.ref w_B), (.int (0 : Int32))])) rfl rfl (hb hby d2_6)) ?_
  rw [len_of S2 Nn2]
  show W p e below _ (T1.setTop (mkF m 7 #[.val (.ref r0), .val (.int p1), .val (.int p2), .val (.int (0 : Int32))] [(.int (3 : Int32)), (.int (0 : Int32))]))
  refine W.go (fun _ hr => XS.icmpNo X1.here hx rfl (hb hby d2_7) rfl (tlt (by decide : ((0 : Int32) < (3 : Int32)))).2.1 hr) ?_
  show W p e below _ (T1.setTop (mkF m 10 #[.val (.ref r0), .val (.int p1), .val (.int p2), .val (.int (0 : Int32))] []))
  refine W.go (fun _ hr => XS.iloadN X1.here hx rfl (hb hby d2_10) rfl hr) ?_
  show W p e below _ (T1.setTop (mkF m 11 #[.val (.ref r0), .val (.int p1), .val (.int p2), .val (.int (0 : Int32))] [(.int p1)]))
  refine W.go (fun _ hr => XS.iloadN X1.here hx rfl (hb hby d2_11) rfl hr) ?_
  show W p e below _ (T1.setTop (mkF m 12 #[.val (.ref r0), .val (.int p1), .val (.int p2), .val (.int (0 : Int32))] [(.int (0 : Int32)), (.int p1)]))
  refine W.go (fun _ hr => XS.iadd X1.here hx rfl (hb hby d2_12) rfl hr) ?_
  show W p e below _ (T1.setTop (mkF m 13 #[.val (.ref r0), .val (.int p1), .val (.int p2), .val (.int (0 : Int32))] [(.int (p1 + (0 : Int32)))]))
  rw [show (p1 + (0 : Int32)) = p1 from by simp]
  show W p e below _ (T1.setTop (mkF m 13 #[.val (.ref r0), .val (.int p1), .val (.int p2), .val (.int (0 : Int32))] [(.int p1)]))
  refine W.go (fun _ hr => XS.iloadN X1.here hx rfl (hb hby d2_13) rfl hr) ?_
  show W p e below _ (T1.setTop (mkF m 14 #[.val (.ref r0), .val (.int p1), .val (.int p2), .val (.int (0 : Int32))] [(.int p2), (.int p1)]))
  by_cases hc14_3 : p1 < p2
  · refine W.go (fun _ hr => XS.icmpNo X1.here hx rfl (hb hby d2_14) rfl (tlt hc14_3).2.1 hr) ?_
    show W p e below _ (T1.setTop (mkF m 17 #[.val (.ref r0), .val (.int p1), .val (.int p2), .val (.int (0 : Int32))] []))
    refine W.go (fun _ hr => XS.aloadN X1.here hx rfl (hb hby d2_17) rfl rfl hr) ?_
    show W p e below _ (T1.setTop (mkF m 18 #[.val (.ref r0), .val (.int p1), .val (.int p2), .val (.int (0 : Int32))] [(.ref r0)]))
    refine W.go (fun _ hr => XS.iloadN X1.here hx rfl (hb hby d2_18) rfl hr) ?_
    show W p e below _ (T1.setTop (mkF m 19 #[.val (.ref r0), .val (.int p1), .val (.int p2), .val (.int (0 : Int32))] [(.int p1), (.ref r0)]))
    refine W.go (fun _ hr => XS.iloadN X1.here hx rfl (hb hby d2_19) rfl hr) ?_
    show W p e below _ (T1.setTop (mkF m 20 #[.val (.ref r0), .val (.int p1), .val (.int p2), .val (.int (0 : Int32))] [(.int (0 : Int32)), (.int p1), (.ref r0)]))
    refine W.go (fun _ hr => XS.iadd X1.here hx rfl (hb hby d2_20) rfl hr) ?_
    show W p e below _ (T1.setTop (mkF m 21 #[.val (.ref r0), .val (.int p1), .val (.int p2), .val (.int (0 : Int32))] [(.int (p1 + (0 : Int32))), (.ref r0)]))
    rw [show (p1 + (0 : Int32)) = p1 from by simp]
    show W p e below _ (T1.setTop (mkF m 21 #[.val (.ref r0), .val (.int p1), .val (.int p2), .val (.int (0 : Int32))] [(.int p1), (.ref r0)]))
    obtain ⟨cl4, Ar4, q4, S4, Nn4, H4, G4⟩ := id V_r0
    have hin4 : ¬ (p1 < 0 ∨ cl4.slots.size ≤ (p1).toNatClampNeg) := inb_of S4 (own_in0 ha hq6 hc14_3)
    have hat4 : cl4.slots[(p1).toNatClampNeg]? = some (.int (f p1)) := H4.at hin4 (hf _ (own_in0 ha hq6 hc14_3))
    refine W.go (X1.baloadBytes hx (j := p1) (v := (.int (f p1))) (by rw [e1]; exact Ar4.1) (State.isArrayOf_alike hZ.alike Ar4.2.1) Ar4.2.2 hin4 hat4 (g := (mkF m 21 #[.val (.ref r0), .val (.int p1), .val (.int p2), .val (.int (0 : Int32))] [(.int p1), (.ref r0)])) rfl rfl (hb hby d2_21)) ?_
    show W p e below _ (T1.setTop (mkF m 22 #[.val (.ref r0), .val (.int p1), .val (.int p2), .val (.int (0 : Int32))] [(.int (f p1))]))
    obtain ⟨T5, X5, e5, st5⟩ := getS2 X1 hx hZ hown (host := "") (Or.inl (hw _ (List.mem_of_getElem? (i := 10) rfl))) Via.refl e1 S_BYTE_ORDER_MARK (g := (mkF m 22 #[.val (.ref r0), .val (.int p1), .val (.int p2), .val (.int (0 : Int32))] [(.int (f p1))])) rfl (hb hby d2_22)
    refine W.go st5 ?_
    show W p e below _ (T5.setTop (mkF m 25 #[.val (.ref r0), .val (.int p1), .val (.int p2), .val (.int (0 : Int32))] [(.ref w_B), (.int (f p1))]))
    refine W.go (fun _ hr => XS.iloadN X5.here hx rfl (hb hby d2_25) rfl hr) ?_
    show W p e below _ (T5.setTop (mkF m 26 #[.val (.ref r0), .val (.int p1), .val (.int p2), .val (.int (0 : Int32))] [(.int (0 : Int32)), (.ref w_B), (.int (f p1))]))
    obtain ⟨cl6, Ar6, q6, S6, Nn6, H6, G6⟩ := id V_w_B
    have hin6 : ¬ ((0 : Int32) < 0 ∨ cl6.slots.size ≤ ((0 : Int32)).toNatClampNeg) := inb_of S6 ⟨by decide, by decide⟩
    have hat6 : cl6.slots[((0 : Int32)).toNatClampNeg]? = some (.int (-17 : Int32)) := H6.at hin6 rfl
    refine W.go (X5.baloadBytes hx (j := (0 : Int32)) (v := (.int (-17 : Int32))) (by rw [e5]; exact Ar6.1) (State.isArrayOf_alike hZ.alike Ar6.2.1) Ar6.2.2 hin6 hat6 (g := (mkF m 26 #[.val (.ref r0), .val (.int p1), .val (.int p2), .val (.int (0 : Int32))] [(.int (0 : Int32)), (.ref w_B), (.int (f p1))])) rfl rfl (hb hby d2_26)) ?_
    show W p e below _ (T5.setTop (mkF m 27 #[.val (.ref r0), .val (.int p1), .val (.int p2), .val (.int (0 : Int32))] [(.int (-17 : Int32)), (.int (f p1))]))
    by_cases hc27_7 : (f p1) = (-17 : Int32)
    · refine W.go (fun _ hr => XS.icmpNo X5.here hx rfl (hb hby d2_27) rfl (teq hc27_7).2 hr) ?_
      show W p e below _ (T5.setTop (mkF m 30 #[.val (.ref r0), .val (.int p1), .val (.int p2), .val (.int (0 : Int32))] []))
      refine W.go (fun _ hr => XS.iinc X5.here hx rfl (hb hby d2_30) rfl (l' := #[.val (.ref r0), .val (.int p1), .val (.int p2), .val (.int (1 : Int32))]) (by rfl) hr) ?_
      show W p e below _ (T5.setTop (mkF m 33 #[.val (.ref r0), .val (.int p1), .val (.int p2), .val (.int (1 : Int32))] []))
      refine W.go (fun _ hr => XS.goto X5.here hx rfl (pc0 := 33) (pc' := 2) rfl (hb hby d2_33) (by decide) (by decide) hr) ?_
      show W p e below _ (T5.setTop (mkF m 2 #[.val (.ref r0), .val (.int p1), .val (.int p2), .val (.int (1 : Int32))] []))
      refine W.go (fun _ hr => XS.iloadN X5.here hx rfl (hb hby d2_2) rfl hr) ?_
      show W p e below _ (T5.setTop (mkF m 3 #[.val (.ref r0), .val (.int p1), .val (.int p2), .val (.int (1 : Int32))] [(.int (1 : Int32))]))
      obtain ⟨T8, X8, e8, st8⟩ := getS2 X5 hx hZ hown (host := "") (Or.inl (hw _ (List.mem_of_getElem? (i := 10) rfl))) Via.refl e5 S_BYTE_ORDER_MARK (g := (mkF m 3 #[.val (.ref r0), .val (.int p1), .val (.int p2), .val (.int (1 : Int32))] [(.int (1 : Int32))])) rfl (hb hby d2_3)
      refine W.go st8 ?_
      show W p e below _ (T8.setTop (mkF m 6 #[.val (.ref r0), .val (.int p1), .val (.int p2), .val (.int (1 : Int32))] [(.ref w_B), (.int (1 : Int32))]))
      obtain ⟨cl9, Ar9, q9, S9, Nn9, H9, G9⟩ := id V_w_B
      refine W.go (X8.arraylength hx (by rw [e8]; exact Ar9.1) (State.isArrayOf_alike hZ.alike Ar9.2.1) (g := (mkF m 6 #[.val (.ref r0), .val (.int p1), .val (.int p2), .val (.int (1 : Int32))] [(.ref w_B), (.int (1 : Int32))])) rfl rfl (hb hby d2_6)) ?_
      rw [len_of S9 Nn9]
      show W p e below _ (T8.setTop (mkF m 7 #[.val (.ref r0), .val (.int p1), .val (.int p2), .val (.int (1 : Int32))] [(.int (3 : Int32)), (.int (1 : Int32))]))
      refine W.go (fun _ hr => XS.icmpNo X8.here hx rfl (hb hby d2_7) rfl (tlt (by decide : ((1 : Int32) < (3 : Int32)))).2.1 hr) ?_
      show W p e below _ (T8.setTop (mkF m 10 #[.val (.ref r0), .val (.int p1), .val (.int p2), .val (.int (1 : Int32))] []))
      refine W.go (fun _ hr => XS.iloadN X8.here hx rfl (hb hby d2_10) rfl hr) ?_
      show W p e below _ (T8.setTop (mkF m 11 #[.val (.ref r0), .val (.int p1), .val (.int p2), .val (.int (1 : Int32))] [(.int p1)]))
      refine W.go (fun _ hr => XS.iloadN X8.here hx rfl (hb hby d2_11) rfl hr) ?_
      show W p e below _ (T8.setTop (mkF m 12 #[.val (.ref r0), .val (.int p1), .val (.int p2), .val (.int (1 : Int32))] [(.int (1 : Int32)), (.int p1)]))
      refine W.go (fun _ hr => XS.iadd X8.here hx rfl (hb hby d2_12) rfl hr) ?_
      show W p e below _ (T8.setTop (mkF m 13 #[.val (.ref r0), .val (.int p1), .val (.int p2), .val (.int (1 : Int32))] [(.int (p1 + (1 : Int32)))]))
      refine W.go (fun _ hr => XS.iloadN X8.here hx rfl (hb hby d2_13) rfl hr) ?_
      show W p e below _ (T8.setTop (mkF m 14 #[.val (.ref r0), .val (.int p1), .val (.int p2), .val (.int (1 : Int32))] [(.int p2), (.int (p1 + (1 : Int32)))]))
      by_cases hc14_10 : (p1 + (1 : Int32)) < p2
      · refine W.go (fun _ hr => XS.icmpNo X8.here hx rfl (hb hby d2_14) rfl (tlt hc14_10).2.1 hr) ?_
        show W p e below _ (T8.setTop (mkF m 17 #[.val (.ref r0), .val (.int p1), .val (.int p2), .val (.int (1 : Int32))] []))
        refine W.go (fun _ hr => XS.aloadN X8.here hx rfl (hb hby d2_17) rfl rfl hr) ?_
        show W p e below _ (T8.setTop (mkF m 18 #[.val (.ref r0), .val (.int p1), .val (.int p2), .val (.int (1 : Int32))] [(.ref r0)]))
        refine W.go (fun _ hr => XS.iloadN X8.here hx rfl (hb hby d2_18) rfl hr) ?_
        show W p e below _ (T8.setTop (mkF m 19 #[.val (.ref r0), .val (.int p1), .val (.int p2), .val (.int (1 : Int32))] [(.int p1), (.ref r0)]))
        refine W.go (fun _ hr => XS.iloadN X8.here hx rfl (hb hby d2_19) rfl hr) ?_
        show W p e below _ (T8.setTop (mkF m 20 #[.val (.ref r0), .val (.int p1), .val (.int p2), .val (.int (1 : Int32))] [(.int (1 : Int32)), (.int p1), (.ref r0)]))
        refine W.go (fun _ hr => XS.iadd X8.here hx rfl (hb hby d2_20) rfl hr) ?_
        show W p e below _ (T8.setTop (mkF m 21 #[.val (.ref r0), .val (.int p1), .val (.int p2), .val (.int (1 : Int32))] [(.int (p1 + (1 : Int32))), (.ref r0)]))
        obtain ⟨cl11, Ar11, q11, S11, Nn11, H11, G11⟩ := id V_r0
        have hin11 : ¬ ((p1 + (1 : Int32)) < 0 ∨ cl11.slots.size ≤ ((p1 + (1 : Int32))).toNatClampNeg) := inb_of S11 (own_in p1 p2 (1 : Int32) (by decide) ha hq6 hc14_10)
        have hat11 : cl11.slots[((p1 + (1 : Int32))).toNatClampNeg]? = some (.int (f (p1 + (1 : Int32)))) := H11.at hin11 (hf _ (own_in p1 p2 (1 : Int32) (by decide) ha hq6 hc14_10))
        refine W.go (X8.baloadBytes hx (j := (p1 + (1 : Int32))) (v := (.int (f (p1 + (1 : Int32))))) (by rw [e8]; exact Ar11.1) (State.isArrayOf_alike hZ.alike Ar11.2.1) Ar11.2.2 hin11 hat11 (g := (mkF m 21 #[.val (.ref r0), .val (.int p1), .val (.int p2), .val (.int (1 : Int32))] [(.int (p1 + (1 : Int32))), (.ref r0)])) rfl rfl (hb hby d2_21)) ?_
        show W p e below _ (T8.setTop (mkF m 22 #[.val (.ref r0), .val (.int p1), .val (.int p2), .val (.int (1 : Int32))] [(.int (f (p1 + (1 : Int32))))]))
        obtain ⟨T12, X12, e12, st12⟩ := getS2 X8 hx hZ hown (host := "") (Or.inl (hw _ (List.mem_of_getElem? (i := 10) rfl))) Via.refl e8 S_BYTE_ORDER_MARK (g := (mkF m 22 #[.val (.ref r0), .val (.int p1), .val (.int p2), .val (.int (1 : Int32))] [(.int (f (p1 + (1 : Int32))))])) rfl (hb hby d2_22)
        refine W.go st12 ?_
        show W p e below _ (T12.setTop (mkF m 25 #[.val (.ref r0), .val (.int p1), .val (.int p2), .val (.int (1 : Int32))] [(.ref w_B), (.int (f (p1 + (1 : Int32))))]))
        refine W.go (fun _ hr => XS.iloadN X12.here hx rfl (hb hby d2_25) rfl hr) ?_
        show W p e below _ (T12.setTop (mkF m 26 #[.val (.ref r0), .val (.int p1), .val (.int p2), .val (.int (1 : Int32))] [(.int (1 : Int32)), (.ref w_B), (.int (f (p1 + (1 : Int32))))]))
        obtain ⟨cl13, Ar13, q13, S13, Nn13, H13, G13⟩ := id V_w_B
        have hin13 : ¬ ((1 : Int32) < 0 ∨ cl13.slots.size ≤ ((1 : Int32)).toNatClampNeg) := inb_of S13 ⟨by decide, by decide⟩
        have hat13 : cl13.slots[((1 : Int32)).toNatClampNeg]? = some (.int (-69 : Int32)) := H13.at hin13 rfl
        refine W.go (X12.baloadBytes hx (j := (1 : Int32)) (v := (.int (-69 : Int32))) (by rw [e12]; exact Ar13.1) (State.isArrayOf_alike hZ.alike Ar13.2.1) Ar13.2.2 hin13 hat13 (g := (mkF m 26 #[.val (.ref r0), .val (.int p1), .val (.int p2), .val (.int (1 : Int32))] [(.int (1 : Int32)), (.ref w_B), (.int (f (p1 + (1 : Int32))))])) rfl rfl (hb hby d2_26)) ?_
        show W p e below _ (T12.setTop (mkF m 27 #[.val (.ref r0), .val (.int p1), .val (.int p2), .val (.int (1 : Int32))] [(.int (-69 : Int32)), (.int (f (p1 + (1 : Int32))))]))
        by_cases hc27_14 : (f (p1 + (1 : Int32))) = (-69 : Int32)
        · refine W.go (fun _ hr => XS.icmpNo X12.here hx rfl (hb hby d2_27) rfl (teq hc27_14).2 hr) ?_
          show W p e below _ (T12.setTop (mkF m 30 #[.val (.ref r0), .val (.int p1), .val (.int p2), .val (.int (1 : Int32))] []))
          refine W.go (fun _ hr => XS.iinc X12.here hx rfl (hb hby d2_30) rfl (l' := #[.val (.ref r0), .val (.int p1), .val (.int p2), .val (.int (2 : Int32))]) (by rfl) hr) ?_
          show W p e below _ (T12.setTop (mkF m 33 #[.val (.ref r0), .val (.int p1), .val (.int p2), .val (.int (2 : Int32))] []))
          refine W.go (fun _ hr => XS.goto X12.here hx rfl (pc0 := 33) (pc' := 2) rfl (hb hby d2_33) (by decide) (by decide) hr) ?_
          show W p e below _ (T12.setTop (mkF m 2 #[.val (.ref r0), .val (.int p1), .val (.int p2), .val (.int (2 : Int32))] []))
          refine W.go (fun _ hr => XS.iloadN X12.here hx rfl (hb hby d2_2) rfl hr) ?_
          show W p e below _ (T12.setTop (mkF m 3 #[.val (.ref r0), .val (.int p1), .val (.int p2), .val (.int (2 : Int32))] [(.int (2 : Int32))]))
          obtain ⟨T15, X15, e15, st15⟩ := getS2 X12 hx hZ hown (host := "") (Or.inl (hw _ (List.mem_of_getElem? (i := 10) rfl))) Via.refl e12 S_BYTE_ORDER_MARK (g := (mkF m 3 #[.val (.ref r0), .val (.int p1), .val (.int p2), .val (.int (2 : Int32))] [(.int (2 : Int32))])) rfl (hb hby d2_3)
          refine W.go st15 ?_
          show W p e below _ (T15.setTop (mkF m 6 #[.val (.ref r0), .val (.int p1), .val (.int p2), .val (.int (2 : Int32))] [(.ref w_B), (.int (2 : Int32))]))
          obtain ⟨cl16, Ar16, q16, S16, Nn16, H16, G16⟩ := id V_w_B
          refine W.go (X15.arraylength hx (by rw [e15]; exact Ar16.1) (State.isArrayOf_alike hZ.alike Ar16.2.1) (g := (mkF m 6 #[.val (.ref r0), .val (.int p1), .val (.int p2), .val (.int (2 : Int32))] [(.ref w_B), (.int (2 : Int32))])) rfl rfl (hb hby d2_6)) ?_
          rw [len_of S16 Nn16]
          show W p e below _ (T15.setTop (mkF m 7 #[.val (.ref r0), .val (.int p1), .val (.int p2), .val (.int (2 : Int32))] [(.int (3 : Int32)), (.int (2 : Int32))]))
          refine W.go (fun _ hr => XS.icmpNo X15.here hx rfl (hb hby d2_7) rfl (tlt (by decide : ((2 : Int32) < (3 : Int32)))).2.1 hr) ?_
          show W p e below _ (T15.setTop (mkF m 10 #[.val (.ref r0), .val (.int p1), .val (.int p2), .val (.int (2 : Int32))] []))
          refine W.go (fun _ hr => XS.iloadN X15.here hx rfl (hb hby d2_10) rfl hr) ?_
          show W p e below _ (T15.setTop (mkF m 11 #[.val (.ref r0), .val (.int p1), .val (.int p2), .val (.int (2 : Int32))] [(.int p1)]))
          refine W.go (fun _ hr => XS.iloadN X15.here hx rfl (hb hby d2_11) rfl hr) ?_
          show W p e below _ (T15.setTop (mkF m 12 #[.val (.ref r0), .val (.int p1), .val (.int p2), .val (.int (2 : Int32))] [(.int (2 : Int32)), (.int p1)]))
          refine W.go (fun _ hr => XS.iadd X15.here hx rfl (hb hby d2_12) rfl hr) ?_
          show W p e below _ (T15.setTop (mkF m 13 #[.val (.ref r0), .val (.int p1), .val (.int p2), .val (.int (2 : Int32))] [(.int (p1 + (2 : Int32)))]))
          refine W.go (fun _ hr => XS.iloadN X15.here hx rfl (hb hby d2_13) rfl hr) ?_
          show W p e below _ (T15.setTop (mkF m 14 #[.val (.ref r0), .val (.int p1), .val (.int p2), .val (.int (2 : Int32))] [(.int p2), (.int (p1 + (2 : Int32)))]))
          by_cases hc14_17 : (p1 + (2 : Int32)) < p2
          · refine W.go (fun _ hr => XS.icmpNo X15.here hx rfl (hb hby d2_14) rfl (tlt hc14_17).2.1 hr) ?_
            show W p e below _ (T15.setTop (mkF m 17 #[.val (.ref r0), .val (.int p1), .val (.int p2), .val (.int (2 : Int32))] []))
            refine W.go (fun _ hr => XS.aloadN X15.here hx rfl (hb hby d2_17) rfl rfl hr) ?_
            show W p e below _ (T15.setTop (mkF m 18 #[.val (.ref r0), .val (.int p1), .val (.int p2), .val (.int (2 : Int32))] [(.ref r0)]))
            refine W.go (fun _ hr => XS.iloadN X15.here hx rfl (hb hby d2_18) rfl hr) ?_
            show W p e below _ (T15.setTop (mkF m 19 #[.val (.ref r0), .val (.int p1), .val (.int p2), .val (.int (2 : Int32))] [(.int p1), (.ref r0)]))
            refine W.go (fun _ hr => XS.iloadN X15.here hx rfl (hb hby d2_19) rfl hr) ?_
            show W p e below _ (T15.setTop (mkF m 20 #[.val (.ref r0), .val (.int p1), .val (.int p2), .val (.int (2 : Int32))] [(.int (2 : Int32)), (.int p1), (.ref r0)]))
            refine W.go (fun _ hr => XS.iadd X15.here hx rfl (hb hby d2_20) rfl hr) ?_
            show W p e below _ (T15.setTop (mkF m 21 #[.val (.ref r0), .val (.int p1), .val (.int p2), .val (.int (2 : Int32))] [(.int (p1 + (2 : Int32))), (.ref r0)]))
            obtain ⟨cl18, Ar18, q18, S18, Nn18, H18, G18⟩ := id V_r0
            have hin18 : ¬ ((p1 + (2 : Int32)) < 0 ∨ cl18.slots.size ≤ ((p1 + (2 : Int32))).toNatClampNeg) := inb_of S18 (own_in p1 p2 (2 : Int32) (by decide) ha hq6 hc14_17)
            have hat18 : cl18.slots[((p1 + (2 : Int32))).toNatClampNeg]? = some (.int (f (p1 + (2 : Int32)))) := H18.at hin18 (hf _ (own_in p1 p2 (2 : Int32) (by decide) ha hq6 hc14_17))
            refine W.go (X15.baloadBytes hx (j := (p1 + (2 : Int32))) (v := (.int (f (p1 + (2 : Int32))))) (by rw [e15]; exact Ar18.1) (State.isArrayOf_alike hZ.alike Ar18.2.1) Ar18.2.2 hin18 hat18 (g := (mkF m 21 #[.val (.ref r0), .val (.int p1), .val (.int p2), .val (.int (2 : Int32))] [(.int (p1 + (2 : Int32))), (.ref r0)])) rfl rfl (hb hby d2_21)) ?_
            show W p e below _ (T15.setTop (mkF m 22 #[.val (.ref r0), .val (.int p1), .val (.int p2), .val (.int (2 : Int32))] [(.int (f (p1 + (2 : Int32))))]))
            obtain ⟨T19, X19, e19, st19⟩ := getS2 X15 hx hZ hown (host := "") (Or.inl (hw _ (List.mem_of_getElem? (i := 10) rfl))) Via.refl e15 S_BYTE_ORDER_MARK (g := (mkF m 22 #[.val (.ref r0), .val (.int p1), .val (.int p2), .val (.int (2 : Int32))] [(.int (f (p1 + (2 : Int32))))])) rfl (hb hby d2_22)
            refine W.go st19 ?_
            show W p e below _ (T19.setTop (mkF m 25 #[.val (.ref r0), .val (.int p1), .val (.int p2), .val (.int (2 : Int32))] [(.ref w_B), (.int (f (p1 + (2 : Int32))))]))
            refine W.go (fun _ hr => XS.iloadN X19.here hx rfl (hb hby d2_25) rfl hr) ?_
            show W p e below _ (T19.setTop (mkF m 26 #[.val (.ref r0), .val (.int p1), .val (.int p2), .val (.int (2 : Int32))] [(.int (2 : Int32)), (.ref w_B), (.int (f (p1 + (2 : Int32))))]))
            obtain ⟨cl20, Ar20, q20, S20, Nn20, H20, G20⟩ := id V_w_B
            have hin20 : ¬ ((2 : Int32) < 0 ∨ cl20.slots.size ≤ ((2 : Int32)).toNatClampNeg) := inb_of S20 ⟨by decide, by decide⟩
            have hat20 : cl20.slots[((2 : Int32)).toNatClampNeg]? = some (.int (-65 : Int32)) := H20.at hin20 rfl
            refine W.go (X19.baloadBytes hx (j := (2 : Int32)) (v := (.int (-65 : Int32))) (by rw [e19]; exact Ar20.1) (State.isArrayOf_alike hZ.alike Ar20.2.1) Ar20.2.2 hin20 hat20 (g := (mkF m 26 #[.val (.ref r0), .val (.int p1), .val (.int p2), .val (.int (2 : Int32))] [(.int (2 : Int32)), (.ref w_B), (.int (f (p1 + (2 : Int32))))])) rfl rfl (hb hby d2_26)) ?_
            show W p e below _ (T19.setTop (mkF m 27 #[.val (.ref r0), .val (.int p1), .val (.int p2), .val (.int (2 : Int32))] [(.int (-65 : Int32)), (.int (f (p1 + (2 : Int32))))]))
            by_cases hc27_21 : (f (p1 + (2 : Int32))) = (-65 : Int32)
            · refine W.go (fun _ hr => XS.icmpNo X19.here hx rfl (hb hby d2_27) rfl (teq hc27_21).2 hr) ?_
              show W p e below _ (T19.setTop (mkF m 30 #[.val (.ref r0), .val (.int p1), .val (.int p2), .val (.int (2 : Int32))] []))
              refine W.go (fun _ hr => XS.iinc X19.here hx rfl (hb hby d2_30) rfl (l' := #[.val (.ref r0), .val (.int p1), .val (.int p2), .val (.int (3 : Int32))]) (by rfl) hr) ?_
              show W p e below _ (T19.setTop (mkF m 33 #[.val (.ref r0), .val (.int p1), .val (.int p2), .val (.int (3 : Int32))] []))
              refine W.go (fun _ hr => XS.goto X19.here hx rfl (pc0 := 33) (pc' := 2) rfl (hb hby d2_33) (by decide) (by decide) hr) ?_
              show W p e below _ (T19.setTop (mkF m 2 #[.val (.ref r0), .val (.int p1), .val (.int p2), .val (.int (3 : Int32))] []))
              refine W.go (fun _ hr => XS.iloadN X19.here hx rfl (hb hby d2_2) rfl hr) ?_
              show W p e below _ (T19.setTop (mkF m 3 #[.val (.ref r0), .val (.int p1), .val (.int p2), .val (.int (3 : Int32))] [(.int (3 : Int32))]))
              obtain ⟨T22, X22, e22, st22⟩ := getS2 X19 hx hZ hown (host := "") (Or.inl (hw _ (List.mem_of_getElem? (i := 10) rfl))) Via.refl e19 S_BYTE_ORDER_MARK (g := (mkF m 3 #[.val (.ref r0), .val (.int p1), .val (.int p2), .val (.int (3 : Int32))] [(.int (3 : Int32))])) rfl (hb hby d2_3)
              refine W.go st22 ?_
              show W p e below _ (T22.setTop (mkF m 6 #[.val (.ref r0), .val (.int p1), .val (.int p2), .val (.int (3 : Int32))] [(.ref w_B), (.int (3 : Int32))]))
              obtain ⟨cl23, Ar23, q23, S23, Nn23, H23, G23⟩ := id V_w_B
              refine W.go (X22.arraylength hx (by rw [e22]; exact Ar23.1) (State.isArrayOf_alike hZ.alike Ar23.2.1) (g := (mkF m 6 #[.val (.ref r0), .val (.int p1), .val (.int p2), .val (.int (3 : Int32))] [(.ref w_B), (.int (3 : Int32))])) rfl rfl (hb hby d2_6)) ?_
              rw [len_of S23 Nn23]
              show W p e below _ (T22.setTop (mkF m 7 #[.val (.ref r0), .val (.int p1), .val (.int p2), .val (.int (3 : Int32))] [(.int (3 : Int32)), (.int (3 : Int32))]))
              refine W.go (fun _ hr => XS.icmpYes X22.here hx rfl (pc0 := 7) (pc' := 36) rfl (hb hby d2_7) rfl (flt (by decide : ¬ ((3 : Int32) < (3 : Int32)))).2.1 (by decide) (by decide) hr) ?_
              show W p e below _ (T22.setTop (mkF m 36 #[.val (.ref r0), .val (.int p1), .val (.int p2), .val (.int (3 : Int32))] []))
              refine W.go (fun _ hr => XS.iloadN X22.here hx rfl (hb hby d2_36) rfl hr) ?_
              show W p e below _ (T22.setTop (mkF m 37 #[.val (.ref r0), .val (.int p1), .val (.int p2), .val (.int (3 : Int32))] [(.int (3 : Int32))]))
              exact W.retI X22 hx hlk hret (hb hby d2_37) (by decide) (by decide) e22 ⟨by simp [hz, own_cnt, hc14_3, hc27_7, hc14_10, hc27_14, hc14_17, hc27_21], N0, rfl⟩
            · refine W.go (fun _ hr => XS.icmpYes X19.here hx rfl (pc0 := 27) (pc' := 36) rfl (hb hby d2_27) rfl (feq hc27_21).2 (by decide) (by decide) hr) ?_
              show W p e below _ (T19.setTop (mkF m 36 #[.val (.ref r0), .val (.int p1), .val (.int p2), .val (.int (2 : Int32))] []))
              refine W.go (fun _ hr => XS.iloadN X19.here hx rfl (hb hby d2_36) rfl hr) ?_
              show W p e below _ (T19.setTop (mkF m 37 #[.val (.ref r0), .val (.int p1), .val (.int p2), .val (.int (2 : Int32))] [(.int (2 : Int32))]))
              exact W.retI X19 hx hlk hret (hb hby d2_37) (by decide) (by decide) e19 ⟨by simp [hz, own_cnt, hc14_3, hc27_7, hc14_10, hc27_14, hc14_17, hc27_21], N0, rfl⟩
          · refine W.go (fun _ hr => XS.icmpYes X15.here hx rfl (pc0 := 14) (pc' := 36) rfl (hb hby d2_14) rfl (flt hc14_17).2.1 (by decide) (by decide) hr) ?_
            show W p e below _ (T15.setTop (mkF m 36 #[.val (.ref r0), .val (.int p1), .val (.int p2), .val (.int (2 : Int32))] []))
            refine W.go (fun _ hr => XS.iloadN X15.here hx rfl (hb hby d2_36) rfl hr) ?_
            show W p e below _ (T15.setTop (mkF m 37 #[.val (.ref r0), .val (.int p1), .val (.int p2), .val (.int (2 : Int32))] [(.int (2 : Int32))]))
            exact W.retI X15 hx hlk hret (hb hby d2_37) (by decide) (by decide) e15 ⟨by simp [hz, own_cnt, hc14_3, hc27_7, hc14_10, hc27_14, hc14_17], N0, rfl⟩
        · refine W.go (fun _ hr => XS.icmpYes X12.here hx rfl (pc0 := 27) (pc' := 36) rfl (hb hby d2_27) rfl (feq hc27_14).2 (by decide) (by decide) hr) ?_
          show W p e below _ (T12.setTop (mkF m 36 #[.val (.ref r0), .val (.int p1), .val (.int p2), .val (.int (1 : Int32))] []))
          refine W.go (fun _ hr => XS.iloadN X12.here hx rfl (hb hby d2_36) rfl hr) ?_
          show W p e below _ (T12.setTop (mkF m 37 #[.val (.ref r0), .val (.int p1), .val (.int p2), .val (.int (1 : Int32))] [(.int (1 : Int32))]))
          exact W.retI X12 hx hlk hret (hb hby d2_37) (by decide) (by decide) e12 ⟨by simp [hz, own_cnt, hc14_3, hc27_7, hc14_10, hc27_14], N0, rfl⟩
      · refine W.go (fun _ hr => XS.icmpYes X8.here hx rfl (pc0 := 14) (pc' := 36) rfl (hb hby d2_14) rfl (flt hc14_10).2.1 (by decide) (by decide) hr) ?_
        show W p e below _ (T8.setTop (mkF m 36 #[.val (.ref r0), .val (.int p1), .val (.int p2), .val (.int (1 : Int32))] []))
        refine W.go (fun _ hr => XS.iloadN X8.here hx rfl (hb hby d2_36) rfl hr) ?_
        show W p e below _ (T8.setTop (mkF m 37 #[.val (.ref r0), .val (.int p1), .val (.int p2), .val (.int (1 : Int32))] [(.int (1 : Int32))]))
        exact W.retI X8 hx hlk hret (hb hby d2_37) (by decide) (by decide) e8 ⟨by simp [hz, own_cnt, hc14_3, hc27_7, hc14_10], N0, rfl⟩
    · refine W.go (fun _ hr => XS.icmpYes X5.here hx rfl (pc0 := 27) (pc' := 36) rfl (hb hby d2_27) rfl (feq hc27_7).2 (by decide) (by decide) hr) ?_
      show W p e below _ (T5.setTop (mkF m 36 #[.val (.ref r0), .val (.int p1), .val (.int p2), .val (.int (0 : Int32))] []))
      refine W.go (fun _ hr => XS.iloadN X5.here hx rfl (hb hby d2_36) rfl hr) ?_
      show W p e below _ (T5.setTop (mkF m 37 #[.val (.ref r0), .val (.int p1), .val (.int p2), .val (.int (0 : Int32))] [(.int (0 : Int32))]))
      exact W.retI X5 hx hlk hret (hb hby d2_37) (by decide) (by decide) e5 ⟨by simp [hz, own_cnt, hc14_3, hc27_7], N0, rfl⟩
  · refine W.go (fun _ hr => XS.icmpYes X1.here hx rfl (pc0 := 14) (pc' := 36) rfl (hb hby d2_14) rfl (flt hc14_3).2.1 (by decide) (by decide) hr) ?_
    show W p e below _ (T1.setTop (mkF m 36 #[.val (.ref r0), .val (.int p1), .val (.int p2), .val (.int (0 : Int32))] []))
    refine W.go (fun _ hr => XS.iloadN X1.here hx rfl (hb hby d2_36) rfl hr) ?_
    show W p e below _ (T1.setTop (mkF m 37 #[.val (.ref r0), .val (.int p1), .val (.int p2), .val (.int (0 : Int32))] [(.int (0 : Int32))]))
    exact W.retI X1 hx hlk hret (hb hby d2_37) (by decide) (by decide) e1 ⟨by simp [hz, own_cnt, hc14_3], N0, rfl⟩
theorem own_fun (vs : List Value) (dv : Value) (h : ∀ j : Int32, ¬ j < 0 ∧ j < 6 → ∃ x, vs.getD j.toNatClampNeg dv = .int x) : ∃ f : Int32 → Int32, ∀ j : Int32, ¬ j < 0 ∧ j < 6 → vs.getD j.toNatClampNeg dv = .int (f j) := by
  refine ⟨fun j => match vs.getD j.toNatClampNeg dv with | .int x => x | _ => 0, fun j hj => ?_⟩
  obtain ⟨x, q⟩ := h j hj
  simp only [q]
theorem own_six (x0 x1 x2 x3 x4 x5 : Int32) (j : Int32) (hj : ¬ j < 0 ∧ j < 6) : ∃ x, [Value.int x0, .int x1, .int x2, .int x3, .int x4, .int x5].getD j.toNatClampNeg (.int (0 : Int32)) = .int x := by
  have q : j.toNatClampNeg < 6 := by
    simp only [Int32.lt_iff_toInt_lt, Int32.reduceToInt, Int32.toNatClampNeg] at *
    omega
  match j.toNatClampNeg, q with
  | 0, _ => exact ⟨_, rfl⟩
  | 1, _ => exact ⟨_, rfl⟩
  | 2, _ => exact ⟨_, rfl⟩
  | 3, _ => exact ⟨_, rfl⟩
  | 4, _ => exact ⟨_, rfl⟩
  | 5, _ => exact ⟨_, rfl⟩
theorem pd_56 : parseMethodDescriptor "(IJI)B" = some ⟨[.int, .long, .int], some .byte⟩ := by decide +kernel
theorem pd_57 : parseMethodDescriptor "([BII)I" = some ⟨[(.array .byte), .int, .int], some .int⟩ := by decide +kernel
def Q_rm0 (Z : State) (q0 : Int64) (p1 : Int32) (p2 : Int32) (p3 : Int32) (w_B : Addr) (kB : ClassId) (h0 : Heap) (n0 : Nat) (v : Option Value) (h : Heap) (L : List Loc) : Prop := v = some (.int (1 : Int32)) ∧ Fr n0 L
set_option maxRecDepth 65536 in
set_option maxHeartbeats 40000000 in
theorem rm0 (l : Launch) (Z : State) (a0 : Array Value) (hw : ∀ d ∈ tables_1, d.before a0 Z = true) (q0 : Int64) (p1 : Int32) (p2 : Int32) (p3 : Int32) (w_B : Addr) (kB : ClassId) (h0 : Heap) (n0 : Nat) (Z0 : n0 ≤ h0.size) (S_BYTE_ORDER_MARK : Sta Z h0 "com/example/parleyd/parleyd/core/Utf8" "BYTE_ORDER_MARK" "[B" (.ref w_B)) (V_w_B : Arv Z h0 w_B kB .byte 3 [(.int (-17 : Int32)), (.int (-69 : Int32)), (.int (-65 : Int32))] (.int (0 : Int32))) :
    Ctr l Z x code maxLocals ret room_1 #[(.long q0), (.int p1), (.int p2), (.int p3)] h0 (Q_rm0 Z q0 p1 p2 p3 w_B kB h0 n0) := by
  refine Ctr.body (fr := fun m => mkF m 0 #[.val (.long q0), .second, .val (.int p1), .val (.int p2), .val (.int p3), .unset, .unset, .unset, .unset] []) (plainFor_of_name pn_com_example_parleyd_parleyd_core_Utf8OpeningMarkBytesPinLaw) (fun m => by first | (simp [entryFrame, mkF, argsToLocals, Value.category, maxLocals]; done) | rfl) fun p e s m below meth c s₁ hx hby hml hZ hown hnm hret hlk X0 e0 => ?_
  have N0 := Fr.nil n0
  have hown : s.vm.findClass "com/example/parleyd/parleyd/core/Utf8OpeningMarkBytesPinLaw" = some m.cls := hown
  show W p e below _ (s₁.setTop (mkF m 0 #[.val (.long q0), .second, .val (.int p1), .val (.int p2), .val (.int p3), .unset, .unset, .unset, .unset] []))
  refine W.go (fun _ hr => XS.bipush X0.here hx rfl (hb hby at_0) hr) ?_
  show W p e below _ (s₁.setTop (mkF m 2 #[.val (.long q0), .second, .val (.int p1), .val (.int p2), .val (.int p3), .unset, .unset, .unset, .unset] [(.int (6 : Int32))]))
  obtain ⟨T1, h1, k1, X1, e1, E1, A1, E_b1, st1⟩ := newPE X0 hx hZ (hw _ (List.mem_of_getElem? (i := 0) rfl)) e0 (g := (mkF m 2 #[.val (.long q0), .second, .val (.int p1), .val (.int p2), .val (.int p3), .unset, .unset, .unset, .unset] [(.int (6 : Int32))])) rfl (hb hby at_2) rfl (by decide) (cap := 6) (by decide) (by decide) (by decide) (by decide) (ad := "[B") (by decide)
  obtain ⟨b1, g1⟩ : ∃ z, z = h0.size := ⟨_, rfl⟩
  rw [← g1] at A1 E_b1 st1
  have ne_w_B_b1 : w_B ≠ b1 := Nat.ne_of_lt (Nat.lt_of_lt_of_le V_w_B.lt (Nat.le_of_eq g1.symm))
  have g_b1 : n0 ≤ b1 := Nat.le_trans Z0 (Nat.le_of_eq g1.symm)
  replace S_BYTE_ORDER_MARK := Sta.ext E1 S_BYTE_ORDER_MARK
  replace V_w_B := V_w_B.ext E1
  have Z2 : n0 ≤ h1.size := Nat.le_trans Z0 E1.1
  have V_b1 : Arv Z h1 b1 k1 .byte (6 : Int32) [(.int (0 : Int32)), (.int (0 : Int32)), (.int (0 : Int32)), (.int (0 : Int32)), (.int (0 : Int32)), (.int (0 : Int32))] (.int (0 : Int32)) := (Arv.new A1 (by decide)).pad (pad_rep [] (.int (0 : Int32)) 6)
  refine W.go st1 ?_
  show W p e below _ (T1.setTop (mkF m 4 #[.val (.long q0), .second, .val (.int p1), .val (.int p2), .val (.int p3), .unset, .unset, .unset, .unset] [(.ref b1)]))
  refine W.go (fun _ hr => XS.astore X1.here hx rfl (hb hby at_4) rfl rfl (l' := #[.val (.long q0), .second, .val (.int p1), .val (.int p2), .val (.int p3), .val (.ref b1), .unset, .unset, .unset]) rfl hr) ?_
  show W p e below _ (T1.setTop (mkF m 6 #[.val (.long q0), .second, .val (.int p1), .val (.int p2), .val (.int p3), .val (.ref b1), .unset, .unset, .unset] []))
  refine W.go (fun _ hr => XS.aload X1.here hx rfl (hb hby at_6) rfl rfl hr) ?_
  show W p e below _ (T1.setTop (mkF m 8 #[.val (.long q0), .second, .val (.int p1), .val (.int p2), .val (.int p3), .val (.ref b1), .unset, .unset, .unset] [(.ref b1)]))
  refine W.go (fun _ hr => XS.iconst X1.here hx rfl (hb hby at_8) hr) ?_
  show W p e below _ (T1.setTop (mkF m 9 #[.val (.long q0), .second, .val (.int p1), .val (.int p2), .val (.int p3), .val (.ref b1), .unset, .unset, .unset] [(.int (0 : Int32)), (.ref b1)]))
  refine W.go (fun _ hr => XS.iloadN X1.here hx rfl (hb hby at_9) rfl hr) ?_
  show W p e below _ (T1.setTop (mkF m 10 #[.val (.long q0), .second, .val (.int p1), .val (.int p2), .val (.int p3), .val (.ref b1), .unset, .unset, .unset] [(.int p1), (.int (0 : Int32)), (.ref b1)]))
  refine W.go (fun _ hr => XS.lloadN X1.here hx rfl (hb hby at_10) rfl hr) ?_
  show W p e below _ (T1.setTop (mkF m 11 #[.val (.long q0), .second, .val (.int p1), .val (.int p2), .val (.int p3), .val (.ref b1), .unset, .unset, .unset] [(.long q0), (.int p1), (.int (0 : Int32)), (.ref b1)]))
  refine W.go (fun _ hr => XS.iconst X1.here hx rfl (hb hby at_11) hr) ?_
  show W p e below _ (T1.setTop (mkF m 12 #[.val (.long q0), .second, .val (.int p1), .val (.int p2), .val (.int p3), .val (.ref b1), .unset, .unset, .unset] [(.int (0 : Int32)), (.long q0), (.int p1), (.int (0 : Int32)), (.ref b1)]))
  refine W.callS X1 hx hZ hown (g := (mkF m 12 #[.val (.long q0), .second, .val (.int p1), .val (.int p2), .val (.int p3), .val (.ref b1), .unset, .unset, .unset] [(.int (0 : Int32)), (.long q0), (.int p1), (.int (0 : Int32)), (.ref b1)])) (by rw [hml]; rfl) (hw _ (List.mem_of_getElem? (i := 1) rfl)) (hw _ (List.mem_of_getElem? (i := 2) rfl)) (hw _ (List.mem_of_getElem? (i := 3) rfl)) (hw _ (List.mem_of_getElem? (i := 4) rfl)) e1 (rm1 l Z a0 hw p1 q0 (0 : Int32) h1 n0 Z2) (by decide) pd_56 rfl (argsL := [(.int p1), (.long q0), (.int (0 : Int32))]) (rest := [(.int (0 : Int32)), (.ref b1)]) rfl rfl rfl (hb hby at_12) (W0 := 2) rfl (by decide) (by decide) (by decide) (by decide) (fun v3 T3 h3 L3 X3 e3 hQ3 => ?_)
  obtain ⟨z3, rfl, N3q, hh3⟩ := hQ3
  obtain rfl := hh3.symm
  have N3 := Fr.app N0 N3q
  show W p e below _ (T3.setTop (mkF m 15 #[.val (.long q0), .second, .val (.int p1), .val (.int p2), .val (.int p3), .val (.ref b1), .unset, .unset, .unset] [(.int z3), (.int (0 : Int32)), (.ref b1)]))
  obtain ⟨cl4, Ar4, q4, S4, Nn4, H4, G4⟩ := V_b1
  have hin4 : ¬ ((0 : Int32) < 0 ∨ cl4.slots.size ≤ ((0 : Int32)).toNatClampNeg) := inb_of S4 ⟨by decide, by decide⟩
  obtain ⟨T4, h4, X4, e4, W4, st4⟩ := stB X3 hx hZ e3 Ar4 (j := (0 : Int32)) hin4 (g := (mkF m 15 #[.val (.long q0), .second, .val (.int p1), .val (.int p2), .val (.int p3), .val (.ref b1), .unset, .unset, .unset] [(.int z3), (.int (0 : Int32)), (.ref b1)])) rfl rfl (hb hby at_15)
  replace V_b1 : Arv Z h4 b1 k1 .byte (6 : Int32) [(.int z3.toInt8.toInt32), (.int (0 : Int32)), (.int (0 : Int32)), (.int (0 : Int32)), (.int (0 : Int32)), (.int (0 : Int32))] (.int (0 : Int32)) := Arv.set Ar4 q4 S4 Nn4 H4 G4 (fits_nar_byte _) W4 0 rfl (Nat.le_of_ble_eq_true rfl)
  replace S_BYTE_ORDER_MARK := Sta.wr W4 S_BYTE_ORDER_MARK
  replace V_w_B := V_w_B.other W4 ne_w_B_b1
  replace E_b1 := E_b1.wr W4
  have Z5 : n0 ≤ h4.size := Nat.le_trans Z2 (Keep.of_wr W4).1
  refine W.go st4 ?_
  have N4 := Fr.snoc X4 N3 g_b1
  show W p e below _ (T4.setTop (mkF m 16 #[.val (.long q0), .second, .val (.int p1), .val (.int p2), .val (.int p3), .val (.ref b1), .unset, .unset, .unset] []))
  refine W.go (fun _ hr => XS.aload X4.here hx rfl (hb hby at_16) rfl rfl hr) ?_
  show W p e below _ (T4.setTop (mkF m 18 #[.val (.long q0), .second, .val (.int p1), .val (.int p2), .val (.int p3), .val (.ref b1), .unset, .unset, .unset] [(.ref b1)]))
  refine W.go (fun _ hr => XS.iconst X4.here hx rfl (hb hby at_18) hr) ?_
  show W p e below _ (T4.setTop (mkF m 19 #[.val (.long q0), .second, .val (.int p1), .val (.int p2), .val (.int p3), .val (.ref b1), .unset, .unset, .unset] [(.int (1 : Int32)), (.ref b1)]))
  refine W.go (fun _ hr => XS.iloadN X4.here hx rfl (hb hby at_19) rfl hr) ?_
  show W p e below _ (T4.setTop (mkF m 20 #[.val (.long q0), .second, .val (.int p1), .val (.int p2), .val (.int p3), .val (.ref b1), .unset, .unset, .unset] [(.int p1), (.int (1 : Int32)), (.ref b1)]))
  refine W.go (fun _ hr => XS.lloadN X4.here hx rfl (hb hby at_20) rfl hr) ?_
  show W p e below _ (T4.setTop (mkF m 21 #[.val (.long q0), .second, .val (.int p1), .val (.int p2), .val (.int p3), .val (.ref b1), .unset, .unset, .unset] [(.long q0), (.int p1), (.int (1 : Int32)), (.ref b1)]))
  refine W.go (fun _ hr => XS.iconst X4.here hx rfl (hb hby at_21) hr) ?_
  show W p e below _ (T4.setTop (mkF m 22 #[.val (.long q0), .second, .val (.int p1), .val (.int p2), .val (.int p3), .val (.ref b1), .unset, .unset, .unset] [(.int (1 : Int32)), (.long q0), (.int p1), (.int (1 : Int32)), (.ref b1)]))
  refine W.callS X4 hx hZ hown (g := (mkF m 22 #[.val (.long q0), .second, .val (.int p1), .val (.int p2), .val (.int p3), .val (.ref b1), .unset, .unset, .unset] [(.int (1 : Int32)), (.long q0), (.int p1), (.int (1 : Int32)), (.ref b1)])) (by rw [hml]; rfl) (hw _ (List.mem_of_getElem? (i := 1) rfl)) (hw _ (List.mem_of_getElem? (i := 2) rfl)) (hw _ (List.mem_of_getElem? (i := 3) rfl)) (hw _ (List.mem_of_getElem? (i := 4) rfl)) e4 (rm1 l Z a0 hw p1 q0 (1 : Int32) h4 n0 Z5) (by decide) pd_56 rfl (argsL := [(.int p1), (.long q0), (.int (1 : Int32))]) (rest := [(.int (1 : Int32)), (.ref b1)]) rfl rfl rfl (hb hby at_22) (W0 := 2) rfl (by decide) (by decide) (by decide) (by decide) (fun v6 T6 h6 L6 X6 e6 hQ6 => ?_)
  obtain ⟨z6, rfl, N6q, hh6⟩ := hQ6
  obtain rfl := hh6.symm
  have N6 := Fr.app N4 N6q
  show W p e below _ (T6.setTop (mkF m 25 #[.val (.long q0), .second, .val (.int p1), .val (.int p2), .val (.int p3), .val (.ref b1), .unset, .unset, .unset] [(.int z6), (.int (1 : Int32)), (.ref b1)]))
  obtain ⟨cl7, Ar7, q7, S7, Nn7, H7, G7⟩ := V_b1
  have hin7 : ¬ ((1 : Int32) < 0 ∨ cl7.slots.size ≤ ((1 : Int32)).toNatClampNeg) := inb_of S7 ⟨by decide, by decide⟩
  obtain ⟨T7, h7, X7, e7, W7, st7⟩ := stB X6 hx hZ e6 Ar7 (j := (1 : Int32)) hin7 (g := (mkF m 25 #[.val (.long q0), .second, .val (.int p1), .val (.int p2), .val (.int p3), .val (.ref b1), .unset, .unset, .unset] [(.int z6), (.int (1 : Int32)), (.ref b1)])) rfl rfl (hb hby at_25)
  replace V_b1 : Arv Z h7 b1 k1 .byte (6 : Int32) [(.int z3.toInt8.toInt32), (.int z6.toInt8.toInt32), (.int (0 : Int32)), (.int (0 : Int32)), (.int (0 : Int32)), (.int (0 : Int32))] (.int (0 : Int32)) := Arv.set Ar7 q7 S7 Nn7 H7 G7 (fits_nar_byte _) W7 1 rfl (Nat.le_of_ble_eq_true rfl)
  replace S_BYTE_ORDER_MARK := Sta.wr W7 S_BYTE_ORDER_MARK
  replace V_w_B := V_w_B.other W7 ne_w_B_b1
  replace E_b1 := E_b1.wr W7
  have Z8 : n0 ≤ h7.size := Nat.le_trans Z5 (Keep.of_wr W7).1
  refine W.go st7 ?_
  have N7 := Fr.snoc X7 N6 g_b1
  show W p e below _ (T7.setTop (mkF m 26 #[.val (.long q0), .second, .val (.int p1), .val (.int p2), .val (.int p3), .val (.ref b1), .unset, .unset, .unset] []))
  refine W.go (fun _ hr => XS.aload X7.here hx rfl (hb hby at_26) rfl rfl hr) ?_
  show W p e below _ (T7.setTop (mkF m 28 #[.val (.long q0), .second, .val (.int p1), .val (.int p2), .val (.int p3), .val (.ref b1), .unset, .unset, .unset] [(.ref b1)]))
  refine W.go (fun _ hr => XS.iconst X7.here hx rfl (hb hby at_28) hr) ?_
  show W p e below _ (T7.setTop (mkF m 29 #[.val (.long q0), .second, .val (.int p1), .val (.int p2), .val (.int p3), .val (.ref b1), .unset, .unset, .unset] [(.int (2 : Int32)), (.ref b1)]))
  refine W.go (fun _ hr => XS.iloadN X7.here hx rfl (hb hby at_29) rfl hr) ?_
  show W p e below _ (T7.setTop (mkF m 30 #[.val (.long q0), .second, .val (.int p1), .val (.int p2), .val (.int p3), .val (.ref b1), .unset, .unset, .unset] [(.int p1), (.int (2 : Int32)), (.ref b1)]))
  refine W.go (fun _ hr => XS.lloadN X7.here hx rfl (hb hby at_30) rfl hr) ?_
  show W p e below _ (T7.setTop (mkF m 31 #[.val (.long q0), .second, .val (.int p1), .val (.int p2), .val (.int p3), .val (.ref b1), .unset, .unset, .unset] [(.long q0), (.int p1), (.int (2 : Int32)), (.ref b1)]))
  refine W.go (fun _ hr => XS.iconst X7.here hx rfl (hb hby at_31) hr) ?_
  show W p e below _ (T7.setTop (mkF m 32 #[.val (.long q0), .second, .val (.int p1), .val (.int p2), .val (.int p3), .val (.ref b1), .unset, .unset, .unset] [(.int (2 : Int32)), (.long q0), (.int p1), (.int (2 : Int32)), (.ref b1)]))
  refine W.callS X7 hx hZ hown (g := (mkF m 32 #[.val (.long q0), .second, .val (.int p1), .val (.int p2), .val (.int p3), .val (.ref b1), .unset, .unset, .unset] [(.int (2 : Int32)), (.long q0), (.int p1), (.int (2 : Int32)), (.ref b1)])) (by rw [hml]; rfl) (hw _ (List.mem_of_getElem? (i := 1) rfl)) (hw _ (List.mem_of_getElem? (i := 2) rfl)) (hw _ (List.mem_of_getElem? (i := 3) rfl)) (hw _ (List.mem_of_getElem? (i := 4) rfl)) e7 (rm1 l Z a0 hw p1 q0 (2 : Int32) h7 n0 Z8) (by decide) pd_56 rfl (argsL := [(.int p1), (.long q0), (.int (2 : Int32))]) (rest := [(.int (2 : Int32)), (.ref b1)]) rfl rfl rfl (hb hby at_32) (W0 := 2) rfl (by decide) (by decide) (by decide) (by decide) (fun v9 T9 h9 L9 X9 e9 hQ9 => ?_)
  obtain ⟨z9, rfl, N9q, hh9⟩ := hQ9
  obtain rfl := hh9.symm
  have N9 := Fr.app N7 N9q
  show W p e below _ (T9.setTop (mkF m 35 #[.val (.long q0), .second, .val (.int p1), .val (.int p2), .val (.int p3), .val (.ref b1), .unset, .unset, .unset] [(.int z9), (.int (2 : Int32)), (.ref b1)]))
  obtain ⟨cl10, Ar10, q10, S10, Nn10, H10, G10⟩ := V_b1
  have hin10 : ¬ ((2 : Int32) < 0 ∨ cl10.slots.size ≤ ((2 : Int32)).toNatClampNeg) := inb_of S10 ⟨by decide, by decide⟩
  obtain ⟨T10, h10, X10, e10, W10, st10⟩ := stB X9 hx hZ e9 Ar10 (j := (2 : Int32)) hin10 (g := (mkF m 35 #[.val (.long q0), .second, .val (.int p1), .val (.int p2), .val (.int p3), .val (.ref b1), .unset, .unset, .unset] [(.int z9), (.int (2 : Int32)), (.ref b1)])) rfl rfl (hb hby at_35)
  replace V_b1 : Arv Z h10 b1 k1 .byte (6 : Int32) [(.int z3.toInt8.toInt32), (.int z6.toInt8.toInt32), (.int z9.toInt8.toInt32), (.int (0 : Int32)), (.int (0 : Int32)), (.int (0 : Int32))] (.int (0 : Int32)) := Arv.set Ar10 q10 S10 Nn10 H10 G10 (fits_nar_byte _) W10 2 rfl (Nat.le_of_ble_eq_true rfl)
  replace S_BYTE_ORDER_MARK := Sta.wr W10 S_BYTE_ORDER_MARK
  replace V_w_B := V_w_B.other W10 ne_w_B_b1
  replace E_b1 := E_b1.wr W10
  have Z11 : n0 ≤ h10.size := Nat.le_trans Z8 (Keep.of_wr W10).1
  refine W.go st10 ?_
  have N10 := Fr.snoc X10 N9 g_b1
  show W p e below _ (T10.setTop (mkF m 36 #[.val (.long q0), .second, .val (.int p1), .val (.int p2), .val (.int p3), .val (.ref b1), .unset, .unset, .unset] []))
  refine W.go (fun _ hr => XS.aload X10.here hx rfl (hb hby at_36) rfl rfl hr) ?_
  show W p e below _ (T10.setTop (mkF m 38 #[.val (.long q0), .second, .val (.int p1), .val (.int p2), .val (.int p3), .val (.ref b1), .unset, .unset, .unset] [(.ref b1)]))
  refine W.go (fun _ hr => XS.iconst X10.here hx rfl (hb hby at_38) hr) ?_
  show W p e below _ (T10.setTop (mkF m 39 #[.val (.long q0), .second, .val (.int p1), .val (.int p2), .val (.int p3), .val (.ref b1), .unset, .unset, .unset] [(.int (3 : Int32)), (.ref b1)]))
  refine W.go (fun _ hr => XS.iloadN X10.here hx rfl (hb hby at_39) rfl hr) ?_
  show W p e below _ (T10.setTop (mkF m 40 #[.val (.long q0), .second, .val (.int p1), .val (.int p2), .val (.int p3), .val (.ref b1), .unset, .unset, .unset] [(.int p1), (.int (3 : Int32)), (.ref b1)]))
  refine W.go (fun _ hr => XS.lloadN X10.here hx rfl (hb hby at_40) rfl hr) ?_
  show W p e below _ (T10.setTop (mkF m 41 #[.val (.long q0), .second, .val (.int p1), .val (.int p2), .val (.int p3), .val (.ref b1), .unset, .unset, .unset] [(.long q0), (.int p1), (.int (3 : Int32)), (.ref b1)]))
  refine W.go (fun _ hr => XS.iconst X10.here hx rfl (hb hby at_41) hr) ?_
  show W p e below _ (T10.setTop (mkF m 42 #[.val (.long q0), .second, .val (.int p1), .val (.int p2), .val (.int p3), .val (.ref b1), .unset, .unset, .unset] [(.int (3 : Int32)), (.long q0), (.int p1), (.int (3 : Int32)), (.ref b1)]))
  refine W.callS X10 hx hZ hown (g := (mkF m 42 #[.val (.long q0), .second, .val (.int p1), .val (.int p2), .val (.int p3), .val (.ref b1), .unset, .unset, .unset] [(.int (3 : Int32)), (.long q0), (.int p1), (.int (3 : Int32)), (.ref b1)])) (by rw [hml]; rfl) (hw _ (List.mem_of_getElem? (i := 1) rfl)) (hw _ (List.mem_of_getElem? (i := 2) rfl)) (hw _ (List.mem_of_getElem? (i := 3) rfl)) (hw _ (List.mem_of_getElem? (i := 4) rfl)) e10 (rm1 l Z a0 hw p1 q0 (3 : Int32) h10 n0 Z11) (by decide) pd_56 rfl (argsL := [(.int p1), (.long q0), (.int (3 : Int32))]) (rest := [(.int (3 : Int32)), (.ref b1)]) rfl rfl rfl (hb hby at_42) (W0 := 2) rfl (by decide) (by decide) (by decide) (by decide) (fun v12 T12 h12 L12 X12 e12 hQ12 => ?_)
  obtain ⟨z12, rfl, N12q, hh12⟩ := hQ12
  obtain rfl := hh12.symm
  have N12 := Fr.app N10 N12q
  show W p e below _ (T12.setTop (mkF m 45 #[.val (.long q0), .second, .val (.int p1), .val (.int p2), .val (.int p3), .val (.ref b1), .unset, .unset, .unset] [(.int z12), (.int (3 : Int32)), (.ref b1)]))
  obtain ⟨cl13, Ar13, q13, S13, Nn13, H13, G13⟩ := V_b1
  have hin13 : ¬ ((3 : Int32) < 0 ∨ cl13.slots.size ≤ ((3 : Int32)).toNatClampNeg) := inb_of S13 ⟨by decide, by decide⟩
  obtain ⟨T13, h13, X13, e13, W13, st13⟩ := stB X12 hx hZ e12 Ar13 (j := (3 : Int32)) hin13 (g := (mkF m 45 #[.val (.long q0), .second, .val (.int p1), .val (.int p2), .val (.int p3), .val (.ref b1), .unset, .unset, .unset] [(.int z12), (.int (3 : Int32)), (.ref b1)])) rfl rfl (hb hby at_45)
  replace V_b1 : Arv Z h13 b1 k1 .byte (6 : Int32) [(.int z3.toInt8.toInt32), (.int z6.toInt8.toInt32), (.int z9.toInt8.toInt32), (.int z12.toInt8.toInt32), (.int (0 : Int32)), (.int (0 : Int32))] (.int (0 : Int32)) := Arv.set Ar13 q13 S13 Nn13 H13 G13 (fits_nar_byte _) W13 3 rfl (Nat.le_of_ble_eq_true rfl)
  replace S_BYTE_ORDER_MARK := Sta.wr W13 S_BYTE_ORDER_MARK
  replace V_w_B := V_w_B.other W13 ne_w_B_b1
  replace E_b1 := E_b1.wr W13
  have Z14 : n0 ≤ h13.size := Nat.le_trans Z11 (Keep.of_wr W13).1
  refine W.go st13 ?_
  have N13 := Fr.snoc X13 N12 g_b1
  show W p e below _ (T13.setTop (mkF m 46 #[.val (.long q0), .second, .val (.int p1), .val (.int p2), .val (.int p3), .val (.ref b1), .unset, .unset, .unset] []))
  refine W.go (fun _ hr => XS.aload X13.here hx rfl (hb hby at_46) rfl rfl hr) ?_
  show W p e below _ (T13.setTop (mkF m 48 #[.val (.long q0), .second, .val (.int p1), .val (.int p2), .val (.int p3), .val (.ref b1), .unset, .unset, .unset] [(.ref b1)]))
  refine W.go (fun _ hr => XS.iconst X13.here hx rfl (hb hby at_48) hr) ?_
  show W p e below _ (T13.setTop (mkF m 49 #[.val (.long q0), .second, .val (.int p1), .val (.int p2), .val (.int p3), .val (.ref b1), .unset, .unset, .unset] [(.int (4 : Int32)), (.ref b1)]))
  refine W.go (fun _ hr => XS.iloadN X13.here hx rfl (hb hby at_49) rfl hr) ?_
  show W p e below _ (T13.setTop (mkF m 50 #[.val (.long q0), .second, .val (.int p1), .val (.int p2), .val (.int p3), .val (.ref b1), .unset, .unset, .unset] [(.int p1), (.int (4 : Int32)), (.ref b1)]))
  refine W.go (fun _ hr => XS.lloadN X13.here hx rfl (hb hby at_50) rfl hr) ?_
  show W p e below _ (T13.setTop (mkF m 51 #[.val (.long q0), .second, .val (.int p1), .val (.int p2), .val (.int p3), .val (.ref b1), .unset, .unset, .unset] [(.long q0), (.int p1), (.int (4 : Int32)), (.ref b1)]))
  refine W.go (fun _ hr => XS.iconst X13.here hx rfl (hb hby at_51) hr) ?_
  show W p e below _ (T13.setTop (mkF m 52 #[.val (.long q0), .second, .val (.int p1), .val (.int p2), .val (.int p3), .val (.ref b1), .unset, .unset, .unset] [(.int (4 : Int32)), (.long q0), (.int p1), (.int (4 : Int32)), (.ref b1)]))
  refine W.callS X13 hx hZ hown (g := (mkF m 52 #[.val (.long q0), .second, .val (.int p1), .val (.int p2), .val (.int p3), .val (.ref b1), .unset, .unset, .unset] [(.int (4 : Int32)), (.long q0), (.int p1), (.int (4 : Int32)), (.ref b1)])) (by rw [hml]; rfl) (hw _ (List.mem_of_getElem? (i := 1) rfl)) (hw _ (List.mem_of_getElem? (i := 2) rfl)) (hw _ (List.mem_of_getElem? (i := 3) rfl)) (hw _ (List.mem_of_getElem? (i := 4) rfl)) e13 (rm1 l Z a0 hw p1 q0 (4 : Int32) h13 n0 Z14) (by decide) pd_56 rfl (argsL := [(.int p1), (.long q0), (.int (4 : Int32))]) (rest := [(.int (4 : Int32)), (.ref b1)]) rfl rfl rfl (hb hby at_52) (W0 := 2) rfl (by decide) (by decide) (by decide) (by decide) (fun v15 T15 h15 L15 X15 e15 hQ15 => ?_)
  obtain ⟨z15, rfl, N15q, hh15⟩ := hQ15
  obtain rfl := hh15.symm
  have N15 := Fr.app N13 N15q
  show W p e below _ (T15.setTop (mkF m 55 #[.val (.long q0), .second, .val (.int p1), .val (.int p2), .val (.int p3), .val (.ref b1), .unset, .unset, .unset] [(.int z15), (.int (4 : Int32)), (.ref b1)]))
  obtain ⟨cl16, Ar16, q16, S16, Nn16, H16, G16⟩ := V_b1
  have hin16 : ¬ ((4 : Int32) < 0 ∨ cl16.slots.size ≤ ((4 : Int32)).toNatClampNeg) := inb_of S16 ⟨by decide, by decide⟩
  obtain ⟨T16, h16, X16, e16, W16, st16⟩ := stB X15 hx hZ e15 Ar16 (j := (4 : Int32)) hin16 (g := (mkF m 55 #[.val (.long q0), .second, .val (.int p1), .val (.int p2), .val (.int p3), .val (.ref b1), .unset, .unset, .unset] [(.int z15), (.int (4 : Int32)), (.ref b1)])) rfl rfl (hb hby at_55)
  replace V_b1 : Arv Z h16 b1 k1 .byte (6 : Int32) [(.int z3.toInt8.toInt32), (.int z6.toInt8.toInt32), (.int z9.toInt8.toInt32), (.int z12.toInt8.toInt32), (.int z15.toInt8.toInt32), (.int (0 : Int32))] (.int (0 : Int32)) := Arv.set Ar16 q16 S16 Nn16 H16 G16 (fits_nar_byte _) W16 4 rfl (Nat.le_of_ble_eq_true rfl)
  replace S_BYTE_ORDER_MARK := Sta.wr W16 S_BYTE_ORDER_MARK
  replace V_w_B := V_w_B.other W16 ne_w_B_b1
  replace E_b1 := E_b1.wr W16
  have Z17 : n0 ≤ h16.size := Nat.le_trans Z14 (Keep.of_wr W16).1
  refine W.go st16 ?_
  have N16 := Fr.snoc X16 N15 g_b1
  show W p e below _ (T16.setTop (mkF m 56 #[.val (.long q0), .second, .val (.int p1), .val (.int p2), .val (.int p3), .val (.ref b1), .unset, .unset, .unset] []))
  refine W.go (fun _ hr => XS.aload X16.here hx rfl (hb hby at_56) rfl rfl hr) ?_
  show W p e below _ (T16.setTop (mkF m 58 #[.val (.long q0), .second, .val (.int p1), .val (.int p2), .val (.int p3), .val (.ref b1), .unset, .unset, .unset] [(.ref b1)]))
  refine W.go (fun _ hr => XS.iconst X16.here hx rfl (hb hby at_58) hr) ?_
  show W p e below _ (T16.setTop (mkF m 59 #[.val (.long q0), .second, .val (.int p1), .val (.int p2), .val (.int p3), .val (.ref b1), .unset, .unset, .unset] [(.int (5 : Int32)), (.ref b1)]))
  refine W.go (fun _ hr => XS.iloadN X16.here hx rfl (hb hby at_59) rfl hr) ?_
  show W p e below _ (T16.setTop (mkF m 60 #[.val (.long q0), .second, .val (.int p1), .val (.int p2), .val (.int p3), .val (.ref b1), .unset, .unset, .unset] [(.int p1), (.int (5 : Int32)), (.ref b1)]))
  refine W.go (fun _ hr => XS.lloadN X16.here hx rfl (hb hby at_60) rfl hr) ?_
  show W p e below _ (T16.setTop (mkF m 61 #[.val (.long q0), .second, .val (.int p1), .val (.int p2), .val (.int p3), .val (.ref b1), .unset, .unset, .unset] [(.long q0), (.int p1), (.int (5 : Int32)), (.ref b1)]))
  refine W.go (fun _ hr => XS.iconst X16.here hx rfl (hb hby at_61) hr) ?_
  show W p e below _ (T16.setTop (mkF m 62 #[.val (.long q0), .second, .val (.int p1), .val (.int p2), .val (.int p3), .val (.ref b1), .unset, .unset, .unset] [(.int (5 : Int32)), (.long q0), (.int p1), (.int (5 : Int32)), (.ref b1)]))
  refine W.callS X16 hx hZ hown (g := (mkF m 62 #[.val (.long q0), .second, .val (.int p1), .val (.int p2), .val (.int p3), .val (.ref b1), .unset, .unset, .unset] [(.int (5 : Int32)), (.long q0), (.int p1), (.int (5 : Int32)), (.ref b1)])) (by rw [hml]; rfl) (hw _ (List.mem_of_getElem? (i := 1) rfl)) (hw _ (List.mem_of_getElem? (i := 2) rfl)) (hw _ (List.mem_of_getElem? (i := 3) rfl)) (hw _ (List.mem_of_getElem? (i := 4) rfl)) e16 (rm1 l Z a0 hw p1 q0 (5 : Int32) h16 n0 Z17) (by decide) pd_56 rfl (argsL := [(.int p1), (.long q0), (.int (5 : Int32))]) (rest := [(.int (5 : Int32)), (.ref b1)]) rfl rfl rfl (hb hby at_62) (W0 := 2) rfl (by decide) (by decide) (by decide) (by decide) (fun v18 T18 h18 L18 X18 e18 hQ18 => ?_)
  obtain ⟨z18, rfl, N18q, hh18⟩ := hQ18
  obtain rfl := hh18.symm
  have N18 := Fr.app N16 N18q
  show W p e below _ (T18.setTop (mkF m 65 #[.val (.long q0), .second, .val (.int p1), .val (.int p2), .val (.int p3), .val (.ref b1), .unset, .unset, .unset] [(.int z18), (.int (5 : Int32)), (.ref b1)]))
  obtain ⟨cl19, Ar19, q19, S19, Nn19, H19, G19⟩ := V_b1
  have hin19 : ¬ ((5 : Int32) < 0 ∨ cl19.slots.size ≤ ((5 : Int32)).toNatClampNeg) := inb_of S19 ⟨by decide, by decide⟩
  obtain ⟨T19, h19, X19, e19, W19, st19⟩ := stB X18 hx hZ e18 Ar19 (j := (5 : Int32)) hin19 (g := (mkF m 65 #[.val (.long q0), .second, .val (.int p1), .val (.int p2), .val (.int p3), .val (.ref b1), .unset, .unset, .unset] [(.int z18), (.int (5 : Int32)), (.ref b1)])) rfl rfl (hb hby at_65)
  replace V_b1 : Arv Z h19 b1 k1 .byte (6 : Int32) [(.int z3.toInt8.toInt32), (.int z6.toInt8.toInt32), (.int z9.toInt8.toInt32), (.int z12.toInt8.toInt32), (.int z15.toInt8.toInt32), (.int z18.toInt8.toInt32)] (.int (0 : Int32)) := Arv.set Ar19 q19 S19 Nn19 H19 G19 (fits_nar_byte _) W19 5 rfl (Nat.le_of_ble_eq_true rfl)
  replace S_BYTE_ORDER_MARK := Sta.wr W19 S_BYTE_ORDER_MARK
  replace V_w_B := V_w_B.other W19 ne_w_B_b1
  replace E_b1 := E_b1.wr W19
  have Z20 : n0 ≤ h19.size := Nat.le_trans Z17 (Keep.of_wr W19).1
  refine W.go st19 ?_
  have N19 := Fr.snoc X19 N18 g_b1
  show W p e below _ (T19.setTop (mkF m 66 #[.val (.long q0), .second, .val (.int p1), .val (.int p2), .val (.int p3), .val (.ref b1), .unset, .unset, .unset] []))
  refine W.go (fun _ hr => XS.iloadN X19.here hx rfl (hb hby at_66) rfl hr) ?_
  show W p e below _ (T19.setTop (mkF m 67 #[.val (.long q0), .second, .val (.int p1), .val (.int p2), .val (.int p3), .val (.ref b1), .unset, .unset, .unset] [(.int p2)]))
  refine W.go (X19.ldcInt hx hown (mvT hZ (hw _ (List.mem_of_getElem? (i := 5) rfl))) (g := (mkF m 67 #[.val (.long q0), .second, .val (.int p1), .val (.int p2), .val (.int p3), .val (.ref b1), .unset, .unset, .unset] [(.int p2)])) rfl (hb hby at_67)) ?_
  show W p e below _ (T19.setTop (mkF m 69 #[.val (.long q0), .second, .val (.int p1), .val (.int p2), .val (.int p3), .val (.ref b1), .unset, .unset, .unset] [(.int (2147483647 : Int32)), (.int p2)]))
  refine W.go (fun _ hr => XS.iand X19.here hx rfl (hb hby at_69) rfl hr) ?_
  show W p e below _ (T19.setTop (mkF m 70 #[.val (.long q0), .second, .val (.int p1), .val (.int p2), .val (.int p3), .val (.ref b1), .unset, .unset, .unset] [(.int (p2 &&& (2147483647 : Int32)))]))
  refine W.go (fun _ hr => XS.bipush X19.here hx rfl (hb hby at_70) hr) ?_
  show W p e below _ (T19.setTop (mkF m 72 #[.val (.long q0), .second, .val (.int p1), .val (.int p2), .val (.int p3), .val (.ref b1), .unset, .unset, .unset] [(.int (7 : Int32)), (.int (p2 &&& (2147483647 : Int32)))]))
  refine W.go (fun _ hr => iremM X19 hx rfl (hb hby at_72) rfl (by decide) hr) ?_
  show W p e below _ (T19.setTop (mkF m 73 #[.val (.long q0), .second, .val (.int p1), .val (.int p2), .val (.int p3), .val (.ref b1), .unset, .unset, .unset] [(.int ((p2 &&& (2147483647 : Int32)) % (7 : Int32)))]))
  generalize e_a : ((p2 &&& (2147483647 : Int32)) % (7 : Int32)) = a
  have ha : 0 ≤ a.toInt ∧ a.toInt ≤ 6 := by
    have q := rngM p2 7 (by decide)
    rw [e_a] at q
    exact ⟨q.1, Int.le_of_lt_add_one q.2⟩
  refine W.go (fun _ hr => XS.istore X19.here hx rfl (hb hby at_73) rfl (l' := #[.val (.long q0), .second, .val (.int p1), .val (.int p2), .val (.int p3), .val (.ref b1), .val (.int a), .unset, .unset]) rfl hr) ?_
  show W p e below _ (T19.setTop (mkF m 75 #[.val (.long q0), .second, .val (.int p1), .val (.int p2), .val (.int p3), .val (.ref b1), .val (.int a), .unset, .unset] []))
  refine W.go (fun _ hr => XS.iload X19.here hx rfl (hb hby at_75) rfl hr) ?_
  show W p e below _ (T19.setTop (mkF m 77 #[.val (.long q0), .second, .val (.int p1), .val (.int p2), .val (.int p3), .val (.ref b1), .val (.int a), .unset, .unset] [(.int p3)]))
  refine W.go (X19.ldcInt hx hown (mvT hZ (hw _ (List.mem_of_getElem? (i := 5) rfl))) (g := (mkF m 77 #[.val (.long q0), .second, .val (.int p1), .val (.int p2), .val (.int p3), .val (.ref b1), .val (.int a), .unset, .unset] [(.int p3)])) rfl (hb hby at_77)) ?_
  show W p e below _ (T19.setTop (mkF m 79 #[.val (.long q0), .second, .val (.int p1), .val (.int p2), .val (.int p3), .val (.ref b1), .val (.int a), .unset, .unset] [(.int (2147483647 : Int32)), (.int p3)]))
  refine W.go (fun _ hr => XS.iand X19.here hx rfl (hb hby at_79) rfl hr) ?_
  show W p e below _ (T19.setTop (mkF m 80 #[.val (.long q0), .second, .val (.int p1), .val (.int p2), .val (.int p3), .val (.ref b1), .val (.int a), .unset, .unset] [(.int (p3 &&& (2147483647 : Int32)))]))
  refine W.go (fun _ hr => XS.bipush X19.here hx rfl (hb hby at_80) hr) ?_
  show W p e below _ (T19.setTop (mkF m 82 #[.val (.long q0), .second, .val (.int p1), .val (.int p2), .val (.int p3), .val (.ref b1), .val (.int a), .unset, .unset] [(.int (7 : Int32)), (.int (p3 &&& (2147483647 : Int32)))]))
  refine W.go (fun _ hr => iremM X19 hx rfl (hb hby at_82) rfl (by decide) hr) ?_
  show W p e below _ (T19.setTop (mkF m 83 #[.val (.long q0), .second, .val (.int p1), .val (.int p2), .val (.int p3), .val (.ref b1), .val (.int a), .unset, .unset] [(.int ((p3 &&& (2147483647 : Int32)) % (7 : Int32)))]))
  generalize e_b : ((p3 &&& (2147483647 : Int32)) % (7 : Int32)) = b
  have hq6 : b.toInt ≤ 6 := by
    have q := rngM p3 7 (by decide)
    rw [e_b] at q
    exact Int.le_of_lt_add_one q.2
  refine W.go (fun _ hr => XS.istore X19.here hx rfl (hb hby at_83) rfl (l' := #[.val (.long q0), .second, .val (.int p1), .val (.int p2), .val (.int p3), .val (.ref b1), .val (.int a), .val (.int b), .unset]) rfl hr) ?_
  show W p e below _ (T19.setTop (mkF m 85 #[.val (.long q0), .second, .val (.int p1), .val (.int p2), .val (.int p3), .val (.ref b1), .val (.int a), .val (.int b), .unset] []))
  refine W.go (fun _ hr => XS.iconst X19.here hx rfl (hb hby at_85) hr) ?_
  show W p e below _ (T19.setTop (mkF m 86 #[.val (.long q0), .second, .val (.int p1), .val (.int p2), .val (.int p3), .val (.ref b1), .val (.int a), .val (.int b), .unset] [(.int (0 : Int32))]))
  refine W.go (fun _ hr => XS.istore X19.here hx rfl (hb hby at_86) rfl (l' := #[.val (.long q0), .second, .val (.int p1), .val (.int p2), .val (.int p3), .val (.ref b1), .val (.int a), .val (.int b), .val (.int (0 : Int32))]) rfl hr) ?_
  show W p e below _ (T19.setTop (mkF m 88 #[.val (.long q0), .second, .val (.int p1), .val (.int p2), .val (.int p3), .val (.ref b1), .val (.int a), .val (.int b), .val (.int (0 : Int32))] []))
  obtain ⟨f, hf⟩ := own_fun [(.int z3.toInt8.toInt32), (.int z6.toInt8.toInt32), (.int z9.toInt8.toInt32), (.int z12.toInt8.toInt32), (.int z15.toInt8.toInt32), (.int z18.toInt8.toInt32)] (.int (0 : Int32)) (by
    intro j hj
    exact own_six _ _ _ _ _ _ j hj)
  refine W.go (fun _ hr => XS.iload X19.here hx rfl (hb hby at_88) rfl hr) ?_
  show W p e below _ (T19.setTop (mkF m 90 #[.val (.long q0), .second, .val (.int p1), .val (.int p2), .val (.int p3), .val (.ref b1), .val (.int a), .val (.int b), .val (.int (0 : Int32))] [(.int a)]))
  refine W.go (fun _ hr => XS.iload X19.here hx rfl (hb hby at_90) rfl hr) ?_
  show W p e below _ (T19.setTop (mkF m 92 #[.val (.long q0), .second, .val (.int p1), .val (.int p2), .val (.int p3), .val (.ref b1), .val (.int a), .val (.int b), .val (.int (0 : Int32))] [(.int b), (.int a)]))
  by_cases hc92_21 : a < b
  · refine W.go (fun _ hr => XS.icmpNo X19.here hx rfl (hb hby at_92) rfl (tlt hc92_21).2.1 hr) ?_
    show W p e below _ (T19.setTop (mkF m 95 #[.val (.long q0), .second, .val (.int p1), .val (.int p2), .val (.int p3), .val (.ref b1), .val (.int a), .val (.int b), .val (.int (0 : Int32))] []))
    refine W.go (fun _ hr => XS.aload X19.here hx rfl (hb hby at_95) rfl rfl hr) ?_
    show W p e below _ (T19.setTop (mkF m 97 #[.val (.long q0), .second, .val (.int p1), .val (.int p2), .val (.int p3), .val (.ref b1), .val (.int a), .val (.int b), .val (.int (0 : Int32))] [(.ref b1)]))
    refine W.go (fun _ hr => XS.iload X19.here hx rfl (hb hby at_97) rfl hr) ?_
    show W p e below _ (T19.setTop (mkF m 99 #[.val (.long q0), .second, .val (.int p1), .val (.int p2), .val (.int p3), .val (.ref b1), .val (.int a), .val (.int b), .val (.int (0 : Int32))] [(.int a), (.ref b1)]))
    obtain ⟨cl22, Ar22, q22, S22, Nn22, H22, G22⟩ := id V_b1
    have hin22 : ¬ (a < 0 ∨ cl22.slots.size ≤ (a).toNatClampNeg) := inb_of S22 (own_in0 ha hq6 hc92_21)
    have hat22 : cl22.slots[(a).toNatClampNeg]? = some (.int (f a)) := H22.at hin22 (hf _ (own_in0 ha hq6 hc92_21))
    refine W.go (X19.baloadBytes hx (j := a) (v := (.int (f a))) (by rw [e19]; exact Ar22.1) (State.isArrayOf_alike hZ.alike Ar22.2.1) Ar22.2.2 hin22 hat22 (g := (mkF m 99 #[.val (.long q0), .second, .val (.int p1), .val (.int p2), .val (.int p3), .val (.ref b1), .val (.int a), .val (.int b), .val (.int (0 : Int32))] [(.int a), (.ref b1)])) rfl rfl (hb hby at_99)) ?_
    show W p e below _ (T19.setTop (mkF m 100 #[.val (.long q0), .second, .val (.int p1), .val (.int p2), .val (.int p3), .val (.ref b1), .val (.int a), .val (.int b), .val (.int (0 : Int32))] [(.int (f a))]))
    refine W.go (fun _ hr => XS.bipush X19.here hx rfl (hb hby at_100) hr) ?_
    show W p e below _ (T19.setTop (mkF m 102 #[.val (.long q0), .second, .val (.int p1), .val (.int p2), .val (.int p3), .val (.ref b1), .val (.int a), .val (.int b), .val (.int (0 : Int32))] [(.int (-17 : Int32)), (.int (f a))]))
    by_cases hc102_23 : (f a) = (-17 : Int32)
    · refine W.go (fun _ hr => XS.icmpNo X19.here hx rfl (hb hby at_102) rfl (teq hc102_23).2 hr) ?_
      show W p e below _ (T19.setTop (mkF m 105 #[.val (.long q0), .second, .val (.int p1), .val (.int p2), .val (.int p3), .val (.ref b1), .val (.int a), .val (.int b), .val (.int (0 : Int32))] []))
      refine W.go (fun _ hr => XS.iconst X19.here hx rfl (hb hby at_105) hr) ?_
      show W p e below _ (T19.setTop (mkF m 106 #[.val (.long q0), .second, .val (.int p1), .val (.int p2), .val (.int p3), .val (.ref b1), .val (.int a), .val (.int b), .val (.int (0 : Int32))] [(.int (1 : Int32))]))
      refine W.go (fun _ hr => XS.istore X19.here hx rfl (hb hby at_106) rfl (l' := #[.val (.long q0), .second, .val (.int p1), .val (.int p2), .val (.int p3), .val (.ref b1), .val (.int a), .val (.int b), .val (.int (1 : Int32))]) rfl hr) ?_
      show W p e below _ (T19.setTop (mkF m 108 #[.val (.long q0), .second, .val (.int p1), .val (.int p2), .val (.int p3), .val (.ref b1), .val (.int a), .val (.int b), .val (.int (1 : Int32))] []))
      refine W.go (fun _ hr => XS.iload X19.here hx rfl (hb hby at_108) rfl hr) ?_
      show W p e below _ (T19.setTop (mkF m 110 #[.val (.long q0), .second, .val (.int p1), .val (.int p2), .val (.int p3), .val (.ref b1), .val (.int a), .val (.int b), .val (.int (1 : Int32))] [(.int a)]))
      refine W.go (fun _ hr => XS.iconst X19.here hx rfl (hb hby at_110) hr) ?_
      show W p e below _ (T19.setTop (mkF m 111 #[.val (.long q0), .second, .val (.int p1), .val (.int p2), .val (.int p3), .val (.ref b1), .val (.int a), .val (.int b), .val (.int (1 : Int32))] [(.int (1 : Int32)), (.int a)]))
      refine W.go (fun _ hr => XS.iadd X19.here hx rfl (hb hby at_111) rfl hr) ?_
      show W p e below _ (T19.setTop (mkF m 112 #[.val (.long q0), .second, .val (.int p1), .val (.int p2), .val (.int p3), .val (.ref b1), .val (.int a), .val (.int b), .val (.int (1 : Int32))] [(.int (a + (1 : Int32)))]))
      refine W.go (fun _ hr => XS.iload X19.here hx rfl (hb hby at_112) rfl hr) ?_
      show W p e below _ (T19.setTop (mkF m 114 #[.val (.long q0), .second, .val (.int p1), .val (.int p2), .val (.int p3), .val (.ref b1), .val (.int a), .val (.int b), .val (.int (1 : Int32))] [(.int b), (.int (a + (1 : Int32)))]))
      by_cases hc114_24 : (a + (1 : Int32)) < b
      · refine W.go (fun _ hr => XS.icmpNo X19.here hx rfl (hb hby at_114) rfl (tlt hc114_24).2.1 hr) ?_
        show W p e below _ (T19.setTop (mkF m 117 #[.val (.long q0), .second, .val (.int p1), .val (.int p2), .val (.int p3), .val (.ref b1), .val (.int a), .val (.int b), .val (.int (1 : Int32))] []))
        refine W.go (fun _ hr => XS.aload X19.here hx rfl (hb hby at_117) rfl rfl hr) ?_
        show W p e below _ (T19.setTop (mkF m 119 #[.val (.long q0), .second, .val (.int p1), .val (.int p2), .val (.int p3), .val (.ref b1), .val (.int a), .val (.int b), .val (.int (1 : Int32))] [(.ref b1)]))
        refine W.go (fun _ hr => XS.iload X19.here hx rfl (hb hby at_119) rfl hr) ?_
        show W p e below _ (T19.setTop (mkF m 121 #[.val (.long q0), .second, .val (.int p1), .val (.int p2), .val (.int p3), .val (.ref b1), .val (.int a), .val (.int b), .val (.int (1 : Int32))] [(.int a), (.ref b1)]))
        refine W.go (fun _ hr => XS.iconst X19.here hx rfl (hb hby at_121) hr) ?_
        show W p e below _ (T19.setTop (mkF m 122 #[.val (.long q0), .second, .val (.int p1), .val (.int p2), .val (.int p3), .val (.ref b1), .val (.int a), .val (.int b), .val (.int (1 : Int32))] [(.int (1 : Int32)), (.int a), (.ref b1)]))
        refine W.go (fun _ hr => XS.iadd X19.here hx rfl (hb hby at_122) rfl hr) ?_
        show W p e below _ (T19.setTop (mkF m 123 #[.val (.long q0), .second, .val (.int p1), .val (.int p2), .val (.int p3), .val (.ref b1), .val (.int a), .val (.int b), .val (.int (1 : Int32))] [(.int (a + (1 : Int32))), (.ref b1)]))
        obtain ⟨cl25, Ar25, q25, S25, Nn25, H25, G25⟩ := id V_b1
        have hin25 : ¬ ((a + (1 : Int32)) < 0 ∨ cl25.slots.size ≤ ((a + (1 : Int32))).toNatClampNeg) := inb_of S25 (own_in a b (1 : Int32) (by decide) ha hq6 hc114_24)
        have hat25 : cl25.slots[((a + (1 : Int32))).toNatClampNeg]? = some (.int (f (a + (1 : Int32)))) := H25.at hin25 (hf _ (own_in a b (1 : Int32) (by decide) ha hq6 hc114_24))
        refine W.go (X19.baloadBytes hx (j := (a + (1 : Int32))) (v := (.int (f (a + (1 : Int32))))) (by rw [e19]; exact Ar25.1) (State.isArrayOf_alike hZ.alike Ar25.2.1) Ar25.2.2 hin25 hat25 (g := (mkF m 123 #[.val (.long q0), .second, .val (.int p1), .val (.int p2), .val (.int p3), .val (.ref b1), .val (.int a), .val (.int b), .val (.int (1 : Int32))] [(.int (a + (1 : Int32))), (.ref b1)])) rfl rfl (hb hby at_123)) ?_
        show W p e below _ (T19.setTop (mkF m 124 #[.val (.long q0), .second, .val (.int p1), .val (.int p2), .val (.int p3), .val (.ref b1), .val (.int a), .val (.int b), .val (.int (1 : Int32))] [(.int (f (a + (1 : Int32))))]))
        refine W.go (fun _ hr => XS.bipush X19.here hx rfl (hb hby at_124) hr) ?_
        show W p e below _ (T19.setTop (mkF m 126 #[.val (.long q0), .second, .val (.int p1), .val (.int p2), .val (.int p3), .val (.ref b1), .val (.int a), .val (.int b), .val (.int (1 : Int32))] [(.int (-69 : Int32)), (.int (f (a + (1 : Int32))))]))
        by_cases hc126_26 : (f (a + (1 : Int32))) = (-69 : Int32)
        · refine W.go (fun _ hr => XS.icmpNo X19.here hx rfl (hb hby at_126) rfl (teq hc126_26).2 hr) ?_
          show W p e below _ (T19.setTop (mkF m 129 #[.val (.long q0), .second, .val (.int p1), .val (.int p2), .val (.int p3), .val (.ref b1), .val (.int a), .val (.int b), .val (.int (1 : Int32))] []))
          refine W.go (fun _ hr => XS.iconst X19.here hx rfl (hb hby at_129) hr) ?_
          show W p e below _ (T19.setTop (mkF m 130 #[.val (.long q0), .second, .val (.int p1), .val (.int p2), .val (.int p3), .val (.ref b1), .val (.int a), .val (.int b), .val (.int (1 : Int32))] [(.int (2 : Int32))]))
          refine W.go (fun _ hr => XS.istore X19.here hx rfl (hb hby at_130) rfl (l' := #[.val (.long q0), .second, .val (.int p1), .val (.int p2), .val (.int p3), .val (.ref b1), .val (.int a), .val (.int b), .val (.int (2 : Int32))]) rfl hr) ?_
          show W p e below _ (T19.setTop (mkF m 132 #[.val (.long q0), .second, .val (.int p1), .val (.int p2), .val (.int p3), .val (.ref b1), .val (.int a), .val (.int b), .val (.int (2 : Int32))] []))
          refine W.go (fun _ hr => XS.iload X19.here hx rfl (hb hby at_132) rfl hr) ?_
          show W p e below _ (T19.setTop (mkF m 134 #[.val (.long q0), .second, .val (.int p1), .val (.int p2), .val (.int p3), .val (.ref b1), .val (.int a), .val (.int b), .val (.int (2 : Int32))] [(.int a)]))
          refine W.go (fun _ hr => XS.iconst X19.here hx rfl (hb hby at_134) hr) ?_
          show W p e below _ (T19.setTop (mkF m 135 #[.val (.long q0), .second, .val (.int p1), .val (.int p2), .val (.int p3), .val (.ref b1), .val (.int a), .val (.int b), .val (.int (2 : Int32))] [(.int (2 : Int32)), (.int a)]))
          refine W.go (fun _ hr => XS.iadd X19.here hx rfl (hb hby at_135) rfl hr) ?_
          show W p e below _ (T19.setTop (mkF m 136 #[.val (.long q0), .second, .val (.int p1), .val (.int p2), .val (.int p3), .val (.ref b1), .val (.int a), .val (.int b), .val (.int (2 : Int32))] [(.int (a + (2 : Int32)))]))
          refine W.go (fun _ hr => XS.iload X19.here hx rfl (hb hby at_136) rfl hr) ?_
          show W p e below _ (T19.setTop (mkF m 138 #[.val (.long q0), .second, .val (.int p1), .val (.int p2), .val (.int p3), .val (.ref b1), .val (.int a), .val (.int b), .val (.int (2 : Int32))] [(.int b), (.int (a + (2 : Int32)))]))
          by_cases hc138_27 : (a + (2 : Int32)) < b
          · refine W.go (fun _ hr => XS.icmpNo X19.here hx rfl (hb hby at_138) rfl (tlt hc138_27).2.1 hr) ?_
            show W p e below _ (T19.setTop (mkF m 141 #[.val (.long q0), .second, .val (.int p1), .val (.int p2), .val (.int p3), .val (.ref b1), .val (.int a), .val (.int b), .val (.int (2 : Int32))] []))
            refine W.go (fun _ hr => XS.aload X19.here hx rfl (hb hby at_141) rfl rfl hr) ?_
            show W p e below _ (T19.setTop (mkF m 143 #[.val (.long q0), .second, .val (.int p1), .val (.int p2), .val (.int p3), .val (.ref b1), .val (.int a), .val (.int b), .val (.int (2 : Int32))] [(.ref b1)]))
            refine W.go (fun _ hr => XS.iload X19.here hx rfl (hb hby at_143) rfl hr) ?_
            show W p e below _ (T19.setTop (mkF m 145 #[.val (.long q0), .second, .val (.int p1), .val (.int p2), .val (.int p3), .val (.ref b1), .val (.int a), .val (.int b), .val (.int (2 : Int32))] [(.int a), (.ref b1)]))
            refine W.go (fun _ hr => XS.iconst X19.here hx rfl (hb hby at_145) hr) ?_
            show W p e below _ (T19.setTop (mkF m 146 #[.val (.long q0), .second, .val (.int p1), .val (.int p2), .val (.int p3), .val (.ref b1), .val (.int a), .val (.int b), .val (.int (2 : Int32))] [(.int (2 : Int32)), (.int a), (.ref b1)]))
            refine W.go (fun _ hr => XS.iadd X19.here hx rfl (hb hby at_146) rfl hr) ?_
            show W p e below _ (T19.setTop (mkF m 147 #[.val (.long q0), .second, .val (.int p1), .val (.int p2), .val (.int p3), .val (.ref b1), .val (.int a), .val (.int b), .val (.int (2 : Int32))] [(.int (a + (2 : Int32))), (.ref b1)]))
            obtain ⟨cl28, Ar28, q28, S28, Nn28, H28, G28⟩ := id V_b1
            have hin28 : ¬ ((a + (2 : Int32)) < 0 ∨ cl28.slots.size ≤ ((a + (2 : Int32))).toNatClampNeg) := inb_of S28 (own_in a b (2 : Int32) (by decide) ha hq6 hc138_27)
            have hat28 : cl28.slots[((a + (2 : Int32))).toNatClampNeg]? = some (.int (f (a + (2 : Int32)))) := H28.at hin28 (hf _ (own_in a b (2 : Int32) (by decide) ha hq6 hc138_27))
            refine W.go (X19.baloadBytes hx (j := (a + (2 : Int32))) (v := (.int (f (a + (2 : Int32))))) (by rw [e19]; exact Ar28.1) (State.isArrayOf_alike hZ.alike Ar28.2.1) Ar28.2.2 hin28 hat28 (g := (mkF m 147 #[.val (.long q0), .second, .val (.int p1), .val (.int p2), .val (.int p3), .val (.ref b1), .val (.int a), .val (.int b), .val (.int (2 : Int32))] [(.int (a + (2 : Int32))), (.ref b1)])) rfl rfl (hb hby at_147)) ?_
            show W p e below _ (T19.setTop (mkF m 148 #[.val (.long q0), .second, .val (.int p1), .val (.int p2), .val (.int p3), .val (.ref b1), .val (.int a), .val (.int b), .val (.int (2 : Int32))] [(.int (f (a + (2 : Int32))))]))
            refine W.go (fun _ hr => XS.bipush X19.here hx rfl (hb hby at_148) hr) ?_
            show W p e below _ (T19.setTop (mkF m 150 #[.val (.long q0), .second, .val (.int p1), .val (.int p2), .val (.int p3), .val (.ref b1), .val (.int a), .val (.int b), .val (.int (2 : Int32))] [(.int (-65 : Int32)), (.int (f (a + (2 : Int32))))]))
            by_cases hc150_29 : (f (a + (2 : Int32))) = (-65 : Int32)
            · refine W.go (fun _ hr => XS.icmpNo X19.here hx rfl (hb hby at_150) rfl (teq hc150_29).2 hr) ?_
              show W p e below _ (T19.setTop (mkF m 153 #[.val (.long q0), .second, .val (.int p1), .val (.int p2), .val (.int p3), .val (.ref b1), .val (.int a), .val (.int b), .val (.int (2 : Int32))] []))
              refine W.go (fun _ hr => XS.iconst X19.here hx rfl (hb hby at_153) hr) ?_
              show W p e below _ (T19.setTop (mkF m 154 #[.val (.long q0), .second, .val (.int p1), .val (.int p2), .val (.int p3), .val (.ref b1), .val (.int a), .val (.int b), .val (.int (2 : Int32))] [(.int (3 : Int32))]))
              refine W.go (fun _ hr => XS.istore X19.here hx rfl (hb hby at_154) rfl (l' := #[.val (.long q0), .second, .val (.int p1), .val (.int p2), .val (.int p3), .val (.ref b1), .val (.int a), .val (.int b), .val (.int (3 : Int32))]) rfl hr) ?_
              show W p e below _ (T19.setTop (mkF m 156 #[.val (.long q0), .second, .val (.int p1), .val (.int p2), .val (.int p3), .val (.ref b1), .val (.int a), .val (.int b), .val (.int (3 : Int32))] []))
              refine W.go (fun _ hr => XS.aload X19.here hx rfl (hb hby at_156) rfl rfl hr) ?_
              show W p e below _ (T19.setTop (mkF m 158 #[.val (.long q0), .second, .val (.int p1), .val (.int p2), .val (.int p3), .val (.ref b1), .val (.int a), .val (.int b), .val (.int (3 : Int32))] [(.ref b1)]))
              refine W.go (fun _ hr => XS.iload X19.here hx rfl (hb hby at_158) rfl hr) ?_
              show W p e below _ (T19.setTop (mkF m 160 #[.val (.long q0), .second, .val (.int p1), .val (.int p2), .val (.int p3), .val (.ref b1), .val (.int a), .val (.int b), .val (.int (3 : Int32))] [(.int a), (.ref b1)]))
              refine W.go (fun _ hr => XS.iload X19.here hx rfl (hb hby at_160) rfl hr) ?_
              show W p e below _ (T19.setTop (mkF m 162 #[.val (.long q0), .second, .val (.int p1), .val (.int p2), .val (.int p3), .val (.ref b1), .val (.int a), .val (.int b), .val (.int (3 : Int32))] [(.int b), (.int a), (.ref b1)]))
              refine W.callS X19 hx hZ hown (g := (mkF m 162 #[.val (.long q0), .second, .val (.int p1), .val (.int p2), .val (.int p3), .val (.ref b1), .val (.int a), .val (.int b), .val (.int (3 : Int32))] [(.int b), (.int a), (.ref b1)])) (by rw [hml]; rfl) (hw _ (List.mem_of_getElem? (i := 6) rfl)) (hw _ (List.mem_of_getElem? (i := 7) rfl)) (hw _ (List.mem_of_getElem? (i := 8) rfl)) (hw _ (List.mem_of_getElem? (i := 9) rfl)) e19 (rm2 l Z a0 hw b1 a b w_B kB k1 [(.int z3.toInt8.toInt32), (.int z6.toInt8.toInt32), (.int z9.toInt8.toInt32), (.int z12.toInt8.toInt32), (.int z15.toInt8.toInt32), (.int z18.toInt8.toInt32)] (.int (0 : Int32)) f (3 : Int32) h19 n0 Z20 S_BYTE_ORDER_MARK V_w_B V_b1 hf ha hq6 (by simp [own_cnt, hc92_21, hc102_23, hc114_24, hc126_26, hc138_27, hc150_29])) (by decide) pd_57 rfl (argsL := [(.ref b1), (.int a), (.int b)]) (rest := []) rfl rfl rfl (hb hby at_162) (W0 := 0) rfl (by decide) (by decide) (by decide) (by decide) (fun v30 T30 h30 L30 X30 e30 hQ30 => ?_)
              obtain ⟨rfl, N30q, hh30⟩ := hQ30
              obtain rfl := hh30.symm
              have N30 := Fr.app N19 N30q
              show W p e below _ (T30.setTop (mkF m 165 #[.val (.long q0), .second, .val (.int p1), .val (.int p2), .val (.int p3), .val (.ref b1), .val (.int a), .val (.int b), .val (.int (3 : Int32))] [(.int (3 : Int32))]))
              refine W.go (fun _ hr => XS.iload X30.here hx rfl (hb hby at_165) rfl hr) ?_
              show W p e below _ (T30.setTop (mkF m 167 #[.val (.long q0), .second, .val (.int p1), .val (.int p2), .val (.int p3), .val (.ref b1), .val (.int a), .val (.int b), .val (.int (3 : Int32))] [(.int (3 : Int32)), (.int (3 : Int32))]))
              refine W.go (fun _ hr => XS.icmpNo X30.here hx rfl (hb hby at_167) rfl (teq (by decide : ((3 : Int32) = (3 : Int32)))).2 hr) ?_
              show W p e below _ (T30.setTop (mkF m 170 #[.val (.long q0), .second, .val (.int p1), .val (.int p2), .val (.int p3), .val (.ref b1), .val (.int a), .val (.int b), .val (.int (3 : Int32))] []))
              refine W.go (fun _ hr => XS.iconst X30.here hx rfl (hb hby at_170) hr) ?_
              show W p e below _ (T30.setTop (mkF m 171 #[.val (.long q0), .second, .val (.int p1), .val (.int p2), .val (.int p3), .val (.ref b1), .val (.int a), .val (.int b), .val (.int (3 : Int32))] [(.int (1 : Int32))]))
              refine W.go (fun _ hr => XS.goto X30.here hx rfl (pc0 := 171) (pc' := 175) rfl (hb hby at_171) (by decide) (by decide) hr) ?_
              show W p e below _ (T30.setTop (mkF m 175 #[.val (.long q0), .second, .val (.int p1), .val (.int p2), .val (.int p3), .val (.ref b1), .val (.int a), .val (.int b), .val (.int (3 : Int32))] [(.int (1 : Int32))]))
              exact W.retB X30 hx hlk (t := .boolean) hret (by simp) (hb hby at_175) (by decide) (by decide) e30 ⟨rfl, N30⟩
            · refine W.go (fun _ hr => XS.icmpYes X19.here hx rfl (pc0 := 150) (pc' := 156) rfl (hb hby at_150) rfl (feq hc150_29).2 (by decide) (by decide) hr) ?_
              show W p e below _ (T19.setTop (mkF m 156 #[.val (.long q0), .second, .val (.int p1), .val (.int p2), .val (.int p3), .val (.ref b1), .val (.int a), .val (.int b), .val (.int (2 : Int32))] []))
              refine W.go (fun _ hr => XS.aload X19.here hx rfl (hb hby at_156) rfl rfl hr) ?_
              show W p e below _ (T19.setTop (mkF m 158 #[.val (.long q0), .second, .val (.int p1), .val (.int p2), .val (.int p3), .val (.ref b1), .val (.int a), .val (.int b), .val (.int (2 : Int32))] [(.ref b1)]))
              refine W.go (fun _ hr => XS.iload X19.here hx rfl (hb hby at_158) rfl hr) ?_
              show W p e below _ (T19.setTop (mkF m 160 #[.val (.long q0), .second, .val (.int p1), .val (.int p2), .val (.int p3), .val (.ref b1), .val (.int a), .val (.int b), .val (.int (2 : Int32))] [(.int a), (.ref b1)]))
              refine W.go (fun _ hr => XS.iload X19.here hx rfl (hb hby at_160) rfl hr) ?_
              show W p e below _ (T19.setTop (mkF m 162 #[.val (.long q0), .second, .val (.int p1), .val (.int p2), .val (.int p3), .val (.ref b1), .val (.int a), .val (.int b), .val (.int (2 : Int32))] [(.int b), (.int a), (.ref b1)]))
              refine W.callS X19 hx hZ hown (g := (mkF m 162 #[.val (.long q0), .second, .val (.int p1), .val (.int p2), .val (.int p3), .val (.ref b1), .val (.int a), .val (.int b), .val (.int (2 : Int32))] [(.int b), (.int a), (.ref b1)])) (by rw [hml]; rfl) (hw _ (List.mem_of_getElem? (i := 6) rfl)) (hw _ (List.mem_of_getElem? (i := 7) rfl)) (hw _ (List.mem_of_getElem? (i := 8) rfl)) (hw _ (List.mem_of_getElem? (i := 9) rfl)) e19 (rm2 l Z a0 hw b1 a b w_B kB k1 [(.int z3.toInt8.toInt32), (.int z6.toInt8.toInt32), (.int z9.toInt8.toInt32), (.int z12.toInt8.toInt32), (.int z15.toInt8.toInt32), (.int z18.toInt8.toInt32)] (.int (0 : Int32)) f (2 : Int32) h19 n0 Z20 S_BYTE_ORDER_MARK V_w_B V_b1 hf ha hq6 (by simp [own_cnt, hc92_21, hc102_23, hc114_24, hc126_26, hc138_27, hc150_29])) (by decide) pd_57 rfl (argsL := [(.ref b1), (.int a), (.int b)]) (rest := []) rfl rfl rfl (hb hby at_162) (W0 := 0) rfl (by decide) (by decide) (by decide) (by decide) (fun v31 T31 h31 L31 X31 e31 hQ31 => ?_)
              obtain ⟨rfl, N31q, hh31⟩ := hQ31
              obtain rfl := hh31.symm
              have N31 := Fr.app N19 N31q
              show W p e below _ (T31.setTop (mkF m 165 #[.val (.long q0), .second, .val (.int p1), .val (.int p2), .val (.int p3), .val (.ref b1), .val (.int a), .val (.int b), .val (.int (2 : Int32))] [(.int (2 : Int32))]))
              refine W.go (fun _ hr => XS.iload X31.here hx rfl (hb hby at_165) rfl hr) ?_
              show W p e below _ (T31.setTop (mkF m 167 #[.val (.long q0), .second, .val (.int p1), .val (.int p2), .val (.int p3), .val (.ref b1), .val (.int a), .val (.int b), .val (.int (2 : Int32))] [(.int (2 : Int32)), (.int (2 : Int32))]))
              refine W.go (fun _ hr => XS.icmpNo X31.here hx rfl (hb hby at_167) rfl (teq (by decide : ((2 : Int32) = (2 : Int32)))).2 hr) ?_
              show W p e below _ (T31.setTop (mkF m 170 #[.val (.long q0), .second, .val (.int p1), .val (.int p2), .val (.int p3), .val (.ref b1), .val (.int a), .val (.int b), .val (.int (2 : Int32))] []))
              refine W.go (fun _ hr => XS.iconst X31.here hx rfl (hb hby at_170) hr) ?_
              show W p e below _ (T31.setTop (mkF m 171 #[.val (.long q0), .second, .val (.int p1), .val (.int p2), .val (.int p3), .val (.ref b1), .val (.int a), .val (.int b), .val (.int (2 : Int32))] [(.int (1 : Int32))]))
              refine W.go (fun _ hr => XS.goto X31.here hx rfl (pc0 := 171) (pc' := 175) rfl (hb hby at_171) (by decide) (by decide) hr) ?_
              show W p e below _ (T31.setTop (mkF m 175 #[.val (.long q0), .second, .val (.int p1), .val (.int p2), .val (.int p3), .val (.ref b1), .val (.int a), .val (.int b), .val (.int (2 : Int32))] [(.int (1 : Int32))]))
              exact W.retB X31 hx hlk (t := .boolean) hret (by simp) (hb hby at_175) (by decide) (by decide) e31 ⟨rfl, N31⟩
          · refine W.go (fun _ hr => XS.icmpYes X19.here hx rfl (pc0 := 138) (pc' := 156) rfl (hb hby at_138) rfl (flt hc138_27).2.1 (by decide) (by decide) hr) ?_
            show W p e below _ (T19.setTop (mkF m 156 #[.val (.long q0), .second, .val (.int p1), .val (.int p2), .val (.int p3), .val (.ref b1), .val (.int a), .val (.int b), .val (.int (2 : Int32))] []))
            refine W.go (fun _ hr => XS.aload X19.here hx rfl (hb hby at_156) rfl rfl hr) ?_
            show W p e below _ (T19.setTop (mkF m 158 #[.val (.long q0), .second, .val (.int p1), .val (.int p2), .val (.int p3), .val (.ref b1), .val (.int a), .val (.int b), .val (.int (2 : Int32))] [(.ref b1)]))
            refine W.go (fun _ hr => XS.iload X19.here hx rfl (hb hby at_158) rfl hr) ?_
            show W p e below _ (T19.setTop (mkF m 160 #[.val (.long q0), .second, .val (.int p1), .val (.int p2), .val (.int p3), .val (.ref b1), .val (.int a), .val (.int b), .val (.int (2 : Int32))] [(.int a), (.ref b1)]))
            refine W.go (fun _ hr => XS.iload X19.here hx rfl (hb hby at_160) rfl hr) ?_
            show W p e below _ (T19.setTop (mkF m 162 #[.val (.long q0), .second, .val (.int p1), .val (.int p2), .val (.int p3), .val (.ref b1), .val (.int a), .val (.int b), .val (.int (2 : Int32))] [(.int b), (.int a), (.ref b1)]))
            refine W.callS X19 hx hZ hown (g := (mkF m 162 #[.val (.long q0), .second, .val (.int p1), .val (.int p2), .val (.int p3), .val (.ref b1), .val (.int a), .val (.int b), .val (.int (2 : Int32))] [(.int b), (.int a), (.ref b1)])) (by rw [hml]; rfl) (hw _ (List.mem_of_getElem? (i := 6) rfl)) (hw _ (List.mem_of_getElem? (i := 7) rfl)) (hw _ (List.mem_of_getElem? (i := 8) rfl)) (hw _ (List.mem_of_getElem? (i := 9) rfl)) e19 (rm2 l Z a0 hw b1 a b w_B kB k1 [(.int z3.toInt8.toInt32), (.int z6.toInt8.toInt32), (.int z9.toInt8.toInt32), (.int z12.toInt8.toInt32), (.int z15.toInt8.toInt32), (.int z18.toInt8.toInt32)] (.int (0 : Int32)) f (2 : Int32) h19 n0 Z20 S_BYTE_ORDER_MARK V_w_B V_b1 hf ha hq6 (by simp [own_cnt, hc92_21, hc102_23, hc114_24, hc126_26, hc138_27])) (by decide) pd_57 rfl (argsL := [(.ref b1), (.int a), (.int b)]) (rest := []) rfl rfl rfl (hb hby at_162) (W0 := 0) rfl (by decide) (by decide) (by decide) (by decide) (fun v32 T32 h32 L32 X32 e32 hQ32 => ?_)
            obtain ⟨rfl, N32q, hh32⟩ := hQ32
            obtain rfl := hh32.symm
            have N32 := Fr.app N19 N32q
            show W p e below _ (T32.setTop (mkF m 165 #[.val (.long q0), .second, .val (.int p1), .val (.int p2), .val (.int p3), .val (.ref b1), .val (.int a), .val (.int b), .val (.int (2 : Int32))] [(.int (2 : Int32))]))
            refine W.go (fun _ hr => XS.iload X32.here hx rfl (hb hby at_165) rfl hr) ?_
            show W p e below _ (T32.setTop (mkF m 167 #[.val (.long q0), .second, .val (.int p1), .val (.int p2), .val (.int p3), .val (.ref b1), .val (.int a), .val (.int b), .val (.int (2 : Int32))] [(.int (2 : Int32)), (.int (2 : Int32))]))
            refine W.go (fun _ hr => XS.icmpNo X32.here hx rfl (hb hby at_167) rfl (teq (by decide : ((2 : Int32) = (2 : Int32)))).2 hr) ?_
            show W p e below _ (T32.setTop (mkF m 170 #[.val (.long q0), .second, .val (.int p1), .val (.int p2), .val (.int p3), .val (.ref b1), .val (.int a), .val (.int b), .val (.int (2 : Int32))] []))
            refine W.go (fun _ hr => XS.iconst X32.here hx rfl (hb hby at_170) hr) ?_
            show W p e below _ (T32.setTop (mkF m 171 #[.val (.long q0), .second, .val (.int p1), .val (.int p2), .val (.int p3), .val (.ref b1), .val (.int a), .val (.int b), .val (.int (2 : Int32))] [(.int (1 : Int32))]))
            refine W.go (fun _ hr => XS.goto X32.here hx rfl (pc0 := 171) (pc' := 175) rfl (hb hby at_171) (by decide) (by decide) hr) ?_
            show W p e below _ (T32.setTop (mkF m 175 #[.val (.long q0), .second, .val (.int p1), .val (.int p2), .val (.int p3), .val (.ref b1), .val (.int a), .val (.int b), .val (.int (2 : Int32))] [(.int (1 : Int32))]))
            exact W.retB X32 hx hlk (t := .boolean) hret (by simp) (hb hby at_175) (by decide) (by decide) e32 ⟨rfl, N32⟩
        · refine W.go (fun _ hr => XS.icmpYes X19.here hx rfl (pc0 := 126) (pc' := 156) rfl (hb hby at_126) rfl (feq hc126_26).2 (by decide) (by decide) hr) ?_
          show W p e below _ (T19.setTop (mkF m 156 #[.val (.long q0), .second, .val (.int p1), .val (.int p2), .val (.int p3), .val (.ref b1), .val (.int a), .val (.int b), .val (.int (1 : Int32))] []))
          refine W.go (fun _ hr => XS.aload X19.here hx rfl (hb hby at_156) rfl rfl hr) ?_
          show W p e below _ (T19.setTop (mkF m 158 #[.val (.long q0), .second, .val (.int p1), .val (.int p2), .val (.int p3), .val (.ref b1), .val (.int a), .val (.int b), .val (.int (1 : Int32))] [(.ref b1)]))
          refine W.go (fun _ hr => XS.iload X19.here hx rfl (hb hby at_158) rfl hr) ?_
          show W p e below _ (T19.setTop (mkF m 160 #[.val (.long q0), .second, .val (.int p1), .val (.int p2), .val (.int p3), .val (.ref b1), .val (.int a), .val (.int b), .val (.int (1 : Int32))] [(.int a), (.ref b1)]))
          refine W.go (fun _ hr => XS.iload X19.here hx rfl (hb hby at_160) rfl hr) ?_
          show W p e below _ (T19.setTop (mkF m 162 #[.val (.long q0), .second, .val (.int p1), .val (.int p2), .val (.int p3), .val (.ref b1), .val (.int a), .val (.int b), .val (.int (1 : Int32))] [(.int b), (.int a), (.ref b1)]))
          refine W.callS X19 hx hZ hown (g := (mkF m 162 #[.val (.long q0), .second, .val (.int p1), .val (.int p2), .val (.int p3), .val (.ref b1), .val (.int a), .val (.int b), .val (.int (1 : Int32))] [(.int b), (.int a), (.ref b1)])) (by rw [hml]; rfl) (hw _ (List.mem_of_getElem? (i := 6) rfl)) (hw _ (List.mem_of_getElem? (i := 7) rfl)) (hw _ (List.mem_of_getElem? (i := 8) rfl)) (hw _ (List.mem_of_getElem? (i := 9) rfl)) e19 (rm2 l Z a0 hw b1 a b w_B kB k1 [(.int z3.toInt8.toInt32), (.int z6.toInt8.toInt32), (.int z9.toInt8.toInt32), (.int z12.toInt8.toInt32), (.int z15.toInt8.toInt32), (.int z18.toInt8.toInt32)] (.int (0 : Int32)) f (1 : Int32) h19 n0 Z20 S_BYTE_ORDER_MARK V_w_B V_b1 hf ha hq6 (by simp [own_cnt, hc92_21, hc102_23, hc114_24, hc126_26])) (by decide) pd_57 rfl (argsL := [(.ref b1), (.int a), (.int b)]) (rest := []) rfl rfl rfl (hb hby at_162) (W0 := 0) rfl (by decide) (by decide) (by decide) (by decide) (fun v33 T33 h33 L33 X33 e33 hQ33 => ?_)
          obtain ⟨rfl, N33q, hh33⟩ := hQ33
          obtain rfl := hh33.symm
          have N33 := Fr.app N19 N33q
          show W p e below _ (T33.setTop (mkF m 165 #[.val (.long q0), .second, .val (.int p1), .val (.int p2), .val (.int p3), .val (.ref b1), .val (.int a), .val (.int b), .val (.int (1 : Int32))] [(.int (1 : Int32))]))
          refine W.go (fun _ hr => XS.iload X33.here hx rfl (hb hby at_165) rfl hr) ?_
          show W p e below _ (T33.setTop (mkF m 167 #[.val (.long q0), .second, .val (.int p1), .val (.int p2), .val (.int p3), .val (.ref b1), .val (.int a), .val (.int b), .val (.int (1 : Int32))] [(.int (1 : Int32)), (.int (1 : Int32))]))
          refine W.go (fun _ hr => XS.icmpNo X33.here hx rfl (hb hby at_167) rfl (teq (by decide : ((1 : Int32) = (1 : Int32)))).2 hr) ?_
          show W p e below _ (T33.setTop (mkF m 170 #[.val (.long q0), .second, .val (.int p1), .val (.int p2), .val (.int p3), .val (.ref b1), .val (.int a), .val (.int b), .val (.int (1 : Int32))] []))
          refine W.go (fun _ hr => XS.iconst X33.here hx rfl (hb hby at_170) hr) ?_
          show W p e below _ (T33.setTop (mkF m 171 #[.val (.long q0), .second, .val (.int p1), .val (.int p2), .val (.int p3), .val (.ref b1), .val (.int a), .val (.int b), .val (.int (1 : Int32))] [(.int (1 : Int32))]))
          refine W.go (fun _ hr => XS.goto X33.here hx rfl (pc0 := 171) (pc' := 175) rfl (hb hby at_171) (by decide) (by decide) hr) ?_
          show W p e below _ (T33.setTop (mkF m 175 #[.val (.long q0), .second, .val (.int p1), .val (.int p2), .val (.int p3), .val (.ref b1), .val (.int a), .val (.int b), .val (.int (1 : Int32))] [(.int (1 : Int32))]))
          exact W.retB X33 hx hlk (t := .boolean) hret (by simp) (hb hby at_175) (by decide) (by decide) e33 ⟨rfl, N33⟩
      · refine W.go (fun _ hr => XS.icmpYes X19.here hx rfl (pc0 := 114) (pc' := 156) rfl (hb hby at_114) rfl (flt hc114_24).2.1 (by decide) (by decide) hr) ?_
        show W p e below _ (T19.setTop (mkF m 156 #[.val (.long q0), .second, .val (.int p1), .val (.int p2), .val (.int p3), .val (.ref b1), .val (.int a), .val (.int b), .val (.int (1 : Int32))] []))
        refine W.go (fun _ hr => XS.aload X19.here hx rfl (hb hby at_156) rfl rfl hr) ?_
        show W p e below _ (T19.setTop (mkF m 158 #[.val (.long q0), .second, .val (.int p1), .val (.int p2), .val (.int p3), .val (.ref b1), .val (.int a), .val (.int b), .val (.int (1 : Int32))] [(.ref b1)]))
        refine W.go (fun _ hr => XS.iload X19.here hx rfl (hb hby at_158) rfl hr) ?_
        show W p e below _ (T19.setTop (mkF m 160 #[.val (.long q0), .second, .val (.int p1), .val (.int p2), .val (.int p3), .val (.ref b1), .val (.int a), .val (.int b), .val (.int (1 : Int32))] [(.int a), (.ref b1)]))
        refine W.go (fun _ hr => XS.iload X19.here hx rfl (hb hby at_160) rfl hr) ?_
        show W p e below _ (T19.setTop (mkF m 162 #[.val (.long q0), .second, .val (.int p1), .val (.int p2), .val (.int p3), .val (.ref b1), .val (.int a), .val (.int b), .val (.int (1 : Int32))] [(.int b), (.int a), (.ref b1)]))
        refine W.callS X19 hx hZ hown (g := (mkF m 162 #[.val (.long q0), .second, .val (.int p1), .val (.int p2), .val (.int p3), .val (.ref b1), .val (.int a), .val (.int b), .val (.int (1 : Int32))] [(.int b), (.int a), (.ref b1)])) (by rw [hml]; rfl) (hw _ (List.mem_of_getElem? (i := 6) rfl)) (hw _ (List.mem_of_getElem? (i := 7) rfl)) (hw _ (List.mem_of_getElem? (i := 8) rfl)) (hw _ (List.mem_of_getElem? (i := 9) rfl)) e19 (rm2 l Z a0 hw b1 a b w_B kB k1 [(.int z3.toInt8.toInt32), (.int z6.toInt8.toInt32), (.int z9.toInt8.toInt32), (.int z12.toInt8.toInt32), (.int z15.toInt8.toInt32), (.int z18.toInt8.toInt32)] (.int (0 : Int32)) f (1 : Int32) h19 n0 Z20 S_BYTE_ORDER_MARK V_w_B V_b1 hf ha hq6 (by simp [own_cnt, hc92_21, hc102_23, hc114_24])) (by decide) pd_57 rfl (argsL := [(.ref b1), (.int a), (.int b)]) (rest := []) rfl rfl rfl (hb hby at_162) (W0 := 0) rfl (by decide) (by decide) (by decide) (by decide) (fun v34 T34 h34 L34 X34 e34 hQ34 => ?_)
        obtain ⟨rfl, N34q, hh34⟩ := hQ34
        obtain rfl := hh34.symm
        have N34 := Fr.app N19 N34q
        show W p e below _ (T34.setTop (mkF m 165 #[.val (.long q0), .second, .val (.int p1), .val (.int p2), .val (.int p3), .val (.ref b1), .val (.int a), .val (.int b), .val (.int (1 : Int32))] [(.int (1 : Int32))]))
        refine W.go (fun _ hr => XS.iload X34.here hx rfl (hb hby at_165) rfl hr) ?_
        show W p e below _ (T34.setTop (mkF m 167 #[.val (.long q0), .second, .val (.int p1), .val (.int p2), .val (.int p3), .val (.ref b1), .val (.int a), .val (.int b), .val (.int (1 : Int32))] [(.int (1 : Int32)), (.int (1 : Int32))]))
        refine W.go (fun _ hr => XS.icmpNo X34.here hx rfl (hb hby at_167) rfl (teq (by decide : ((1 : Int32) = (1 : Int32)))).2 hr) ?_
        show W p e below _ (T34.setTop (mkF m 170 #[.val (.long q0), .second, .val (.int p1), .val (.int p2), .val (.int p3), .val (.ref b1), .val (.int a), .val (.int b), .val (.int (1 : Int32))] []))
        refine W.go (fun _ hr => XS.iconst X34.here hx rfl (hb hby at_170) hr) ?_
        show W p e below _ (T34.setTop (mkF m 171 #[.val (.long q0), .second, .val (.int p1), .val (.int p2), .val (.int p3), .val (.ref b1), .val (.int a), .val (.int b), .val (.int (1 : Int32))] [(.int (1 : Int32))]))
        refine W.go (fun _ hr => XS.goto X34.here hx rfl (pc0 := 171) (pc' := 175) rfl (hb hby at_171) (by decide) (by decide) hr) ?_
        show W p e below _ (T34.setTop (mkF m 175 #[.val (.long q0), .second, .val (.int p1), .val (.int p2), .val (.int p3), .val (.ref b1), .val (.int a), .val (.int b), .val (.int (1 : Int32))] [(.int (1 : Int32))]))
        exact W.retB X34 hx hlk (t := .boolean) hret (by simp) (hb hby at_175) (by decide) (by decide) e34 ⟨rfl, N34⟩
    · refine W.go (fun _ hr => XS.icmpYes X19.here hx rfl (pc0 := 102) (pc' := 156) rfl (hb hby at_102) rfl (feq hc102_23).2 (by decide) (by decide) hr) ?_
      show W p e below _ (T19.setTop (mkF m 156 #[.val (.long q0), .second, .val (.int p1), .val (.int p2), .val (.int p3), .val (.ref b1), .val (.int a), .val (.int b), .val (.int (0 : Int32))] []))
      refine W.go (fun _ hr => XS.aload X19.here hx rfl (hb hby at_156) rfl rfl hr) ?_
      show W p e below _ (T19.setTop (mkF m 158 #[.val (.long q0), .second, .val (.int p1), .val (.int p2), .val (.int p3), .val (.ref b1), .val (.int a), .val (.int b), .val (.int (0 : Int32))] [(.ref b1)]))
      refine W.go (fun _ hr => XS.iload X19.here hx rfl (hb hby at_158) rfl hr) ?_
      show W p e below _ (T19.setTop (mkF m 160 #[.val (.long q0), .second, .val (.int p1), .val (.int p2), .val (.int p3), .val (.ref b1), .val (.int a), .val (.int b), .val (.int (0 : Int32))] [(.int a), (.ref b1)]))
      refine W.go (fun _ hr => XS.iload X19.here hx rfl (hb hby at_160) rfl hr) ?_
      show W p e below _ (T19.setTop (mkF m 162 #[.val (.long q0), .second, .val (.int p1), .val (.int p2), .val (.int p3), .val (.ref b1), .val (.int a), .val (.int b), .val (.int (0 : Int32))] [(.int b), (.int a), (.ref b1)]))
      refine W.callS X19 hx hZ hown (g := (mkF m 162 #[.val (.long q0), .second, .val (.int p1), .val (.int p2), .val (.int p3), .val (.ref b1), .val (.int a), .val (.int b), .val (.int (0 : Int32))] [(.int b), (.int a), (.ref b1)])) (by rw [hml]; rfl) (hw _ (List.mem_of_getElem? (i := 6) rfl)) (hw _ (List.mem_of_getElem? (i := 7) rfl)) (hw _ (List.mem_of_getElem? (i := 8) rfl)) (hw _ (List.mem_of_getElem? (i := 9) rfl)) e19 (rm2 l Z a0 hw b1 a b w_B kB k1 [(.int z3.toInt8.toInt32), (.int z6.toInt8.toInt32), (.int z9.toInt8.toInt32), (.int z12.toInt8.toInt32), (.int z15.toInt8.toInt32), (.int z18.toInt8.toInt32)] (.int (0 : Int32)) f (0 : Int32) h19 n0 Z20 S_BYTE_ORDER_MARK V_w_B V_b1 hf ha hq6 (by simp [own_cnt, hc92_21, hc102_23])) (by decide) pd_57 rfl (argsL := [(.ref b1), (.int a), (.int b)]) (rest := []) rfl rfl rfl (hb hby at_162) (W0 := 0) rfl (by decide) (by decide) (by decide) (by decide) (fun v35 T35 h35 L35 X35 e35 hQ35 => ?_)
      obtain ⟨rfl, N35q, hh35⟩ := hQ35
      obtain rfl := hh35.symm
      have N35 := Fr.app N19 N35q
      show W p e below _ (T35.setTop (mkF m 165 #[.val (.long q0), .second, .val (.int p1), .val (.int p2), .val (.int p3), .val (.ref b1), .val (.int a), .val (.int b), .val (.int (0 : Int32))] [(.int (0 : Int32))]))
      refine W.go (fun _ hr => XS.iload X35.here hx rfl (hb hby at_165) rfl hr) ?_
      show W p e below _ (T35.setTop (mkF m 167 #[.val (.long q0), .second, .val (.int p1), .val (.int p2), .val (.int p3), .val (.ref b1), .val (.int a), .val (.int b), .val (.int (0 : Int32))] [(.int (0 : Int32)), (.int (0 : Int32))]))
      refine W.go (fun _ hr => XS.icmpNo X35.here hx rfl (hb hby at_167) rfl (teq (by decide : ((0 : Int32) = (0 : Int32)))).2 hr) ?_
      show W p e below _ (T35.setTop (mkF m 170 #[.val (.long q0), .second, .val (.int p1), .val (.int p2), .val (.int p3), .val (.ref b1), .val (.int a), .val (.int b), .val (.int (0 : Int32))] []))
      refine W.go (fun _ hr => XS.iconst X35.here hx rfl (hb hby at_170) hr) ?_
      show W p e below _ (T35.setTop (mkF m 171 #[.val (.long q0), .second, .val (.int p1), .val (.int p2), .val (.int p3), .val (.ref b1), .val (.int a), .val (.int b), .val (.int (0 : Int32))] [(.int (1 : Int32))]))
      refine W.go (fun _ hr => XS.goto X35.here hx rfl (pc0 := 171) (pc' := 175) rfl (hb hby at_171) (by decide) (by decide) hr) ?_
      show W p e below _ (T35.setTop (mkF m 175 #[.val (.long q0), .second, .val (.int p1), .val (.int p2), .val (.int p3), .val (.ref b1), .val (.int a), .val (.int b), .val (.int (0 : Int32))] [(.int (1 : Int32))]))
      exact W.retB X35 hx hlk (t := .boolean) hret (by simp) (hb hby at_175) (by decide) (by decide) e35 ⟨rfl, N35⟩
  · refine W.go (fun _ hr => XS.icmpYes X19.here hx rfl (pc0 := 92) (pc' := 156) rfl (hb hby at_92) rfl (flt hc92_21).2.1 (by decide) (by decide) hr) ?_
    show W p e below _ (T19.setTop (mkF m 156 #[.val (.long q0), .second, .val (.int p1), .val (.int p2), .val (.int p3), .val (.ref b1), .val (.int a), .val (.int b), .val (.int (0 : Int32))] []))
    refine W.go (fun _ hr => XS.aload X19.here hx rfl (hb hby at_156) rfl rfl hr) ?_
    show W p e below _ (T19.setTop (mkF m 158 #[.val (.long q0), .second, .val (.int p1), .val (.int p2), .val (.int p3), .val (.ref b1), .val (.int a), .val (.int b), .val (.int (0 : Int32))] [(.ref b1)]))
    refine W.go (fun _ hr => XS.iload X19.here hx rfl (hb hby at_158) rfl hr) ?_
    show W p e below _ (T19.setTop (mkF m 160 #[.val (.long q0), .second, .val (.int p1), .val (.int p2), .val (.int p3), .val (.ref b1), .val (.int a), .val (.int b), .val (.int (0 : Int32))] [(.int a), (.ref b1)]))
    refine W.go (fun _ hr => XS.iload X19.here hx rfl (hb hby at_160) rfl hr) ?_
    show W p e below _ (T19.setTop (mkF m 162 #[.val (.long q0), .second, .val (.int p1), .val (.int p2), .val (.int p3), .val (.ref b1), .val (.int a), .val (.int b), .val (.int (0 : Int32))] [(.int b), (.int a), (.ref b1)]))
    refine W.callS X19 hx hZ hown (g := (mkF m 162 #[.val (.long q0), .second, .val (.int p1), .val (.int p2), .val (.int p3), .val (.ref b1), .val (.int a), .val (.int b), .val (.int (0 : Int32))] [(.int b), (.int a), (.ref b1)])) (by rw [hml]; rfl) (hw _ (List.mem_of_getElem? (i := 6) rfl)) (hw _ (List.mem_of_getElem? (i := 7) rfl)) (hw _ (List.mem_of_getElem? (i := 8) rfl)) (hw _ (List.mem_of_getElem? (i := 9) rfl)) e19 (rm2 l Z a0 hw b1 a b w_B kB k1 [(.int z3.toInt8.toInt32), (.int z6.toInt8.toInt32), (.int z9.toInt8.toInt32), (.int z12.toInt8.toInt32), (.int z15.toInt8.toInt32), (.int z18.toInt8.toInt32)] (.int (0 : Int32)) f (0 : Int32) h19 n0 Z20 S_BYTE_ORDER_MARK V_w_B V_b1 hf ha hq6 (by simp [own_cnt, hc92_21])) (by decide) pd_57 rfl (argsL := [(.ref b1), (.int a), (.int b)]) (rest := []) rfl rfl rfl (hb hby at_162) (W0 := 0) rfl (by decide) (by decide) (by decide) (by decide) (fun v36 T36 h36 L36 X36 e36 hQ36 => ?_)
    obtain ⟨rfl, N36q, hh36⟩ := hQ36
    obtain rfl := hh36.symm
    have N36 := Fr.app N19 N36q
    show W p e below _ (T36.setTop (mkF m 165 #[.val (.long q0), .second, .val (.int p1), .val (.int p2), .val (.int p3), .val (.ref b1), .val (.int a), .val (.int b), .val (.int (0 : Int32))] [(.int (0 : Int32))]))
    refine W.go (fun _ hr => XS.iload X36.here hx rfl (hb hby at_165) rfl hr) ?_
    show W p e below _ (T36.setTop (mkF m 167 #[.val (.long q0), .second, .val (.int p1), .val (.int p2), .val (.int p3), .val (.ref b1), .val (.int a), .val (.int b), .val (.int (0 : Int32))] [(.int (0 : Int32)), (.int (0 : Int32))]))
    refine W.go (fun _ hr => XS.icmpNo X36.here hx rfl (hb hby at_167) rfl (teq (by decide : ((0 : Int32) = (0 : Int32)))).2 hr) ?_
    show W p e below _ (T36.setTop (mkF m 170 #[.val (.long q0), .second, .val (.int p1), .val (.int p2), .val (.int p3), .val (.ref b1), .val (.int a), .val (.int b), .val (.int (0 : Int32))] []))
    refine W.go (fun _ hr => XS.iconst X36.here hx rfl (hb hby at_170) hr) ?_
    show W p e below _ (T36.setTop (mkF m 171 #[.val (.long q0), .second, .val (.int p1), .val (.int p2), .val (.int p3), .val (.ref b1), .val (.int a), .val (.int b), .val (.int (0 : Int32))] [(.int (1 : Int32))]))
    refine W.go (fun _ hr => XS.goto X36.here hx rfl (pc0 := 171) (pc' := 175) rfl (hb hby at_171) (by decide) (by decide) hr) ?_
    show W p e below _ (T36.setTop (mkF m 175 #[.val (.long q0), .second, .val (.int p1), .val (.int p2), .val (.int p3), .val (.ref b1), .val (.int a), .val (.int b), .val (.int (0 : Int32))] [(.int (1 : Int32))]))
    exact W.retB X36 hx hlk (t := .boolean) hret (by simp) (hb hby at_175) (by decide) (by decide) e36 ⟨rfl, N36⟩
set_option maxRecDepth 65536 in
set_option maxHeartbeats 40000000 in
theorem comes_1 {Post : Tables → Env → Array Value → State → Outcome → State → Prop} (hpost : ∀ tb e args s v u, (limb_1_1.after args s (.returned v) u = true ∧ limb_1_2.after args s (.returned v) u = true ∧ True) → FrameEnd s (.returned v) u (Jvm.fieldLocs frame_1_writes args s ++ Jvm.arrayLocs frame_1_arrays args s ++ Jvm.staticLocs frame_1_statics s) 16 128 → Post tb e args s (.returned v) u) :
    ArmFor flags0 classFile x code maxLocals ret World_1 tables_1 room_1 Calls_1 rest_1 Pre_1 Post := by
  intro l hfl _ _ p e ha hc hk s m args below hf hA hF happ hP
  obtain ⟨hcalls, hrest, hpre⟩ := hP
  obtain ⟨-, -, -, hnamed, -, -, -, hat⟩ := (Spec.applies_iff hf).mp happ
  obtain ⟨hg, hn⟩ := and_e (Cond.before_iff.mp (show (Jvm.Cond.and given_1 narrow_1).before args s = true from hpre))
  obtain ⟨c1, c2⟩ := and_e hg
  obtain ⟨c3, c4⟩ := and_e c2
  obtain ⟨c5, c6⟩ := and_e c4
  obtain ⟨c7, c8⟩ := and_e c6
  obtain ⟨c9, c10⟩ := and_e hn
  obtain ⟨c11, c12⟩ := and_e c10
  obtain ⟨c13, c14⟩ := and_e c12
  obtain ⟨c15, c16⟩ := and_e c14
  obtain ⟨w0, w1, w2, w3, rfl⟩ : ∃ w0 w1 w2 w3 : Value, args = #[w0, w1, w2, w3] := by
    have hs : args.size = 4 := by simpa [Cond.value, given_1] using c1
    obtain ⟨L⟩ := args
    match L, hs with
    | [w0, w1, w2, w3], _ => exact ⟨w0, w1, w2, w3, rfl⟩
  have hw := fun d (hd : d ∈ tables_1) => atoms_spec (ws := Jvm.Cond.code x code maxLocals ret :: tables_1) hat d (List.mem_cons_of_mem _ hd)
  have hfit : Fit s := fun {y c} hc i hi => by
    obtain ⟨ha, rfl⟩ := Array.getElem?_eq_some_iff.mp hc
    have q := List.all_eq_true.mp ((Array.all_eq_true_iff_forall_mem.mp hF) _ (Array.getElem_mem ha)) i (List.mem_range.mpr hi)
    simpa [Array.getElem?_eq_getElem hi] using q
  obtain ⟨i0, ei0⟩ := isL_v c3
  obtain rfl : w0 = (.long i0) := Option.some.inj ei0
  obtain ⟨i1, ei1⟩ := is_v c5
  obtain rfl : w1 = (.int i1) := Option.some.inj ei1
  obtain ⟨i2, ei2⟩ := is_v c7
  obtain rfl : w2 = (.int i2) := Option.some.inj ei2
  obtain ⟨i3, ei3⟩ := is_v c8
  obtain rfl : w3 = (.int i3) := Option.some.inj ei3
  -- c9 : (Jvm.Cond.arrayOf (Jvm.Term.static "com/example/parleyd/parleyd/core/Utf8" "BYTE_ORDER_MARK" "[B") Jvm.ClassFile.FieldType.byte)
  -- c11 : (Jvm.Cond.eq (Jvm.Term.length (Jvm.Term.static "com/example/parleyd/parleyd/core/Utf8" "BYTE_ORDER_MARK" "[B")) (Jvm.Term.int (3 : Int32)))
  -- c13 : (Jvm.Cond.eq (Jvm.Term.elem (Jvm.Term.static "com/example/parleyd/parleyd/core/Utf8" "BYTE_ORDER_MARK" "[B") (Jvm.Term.int (0 : Int32))) (Jvm.Term.int (-17 : Int32)))
  -- c15 : (Jvm.Cond.eq (Jvm.Term.elem (Jvm.Term.static "com/example/parleyd/parleyd/core/Utf8" "BYTE_ORDER_MARK" "[B") (Jvm.Term.int (1 : Int32))) (Jvm.Term.int (-69 : Int32)))
  -- c16 : (Jvm.Cond.eq (Jvm.Term.elem (Jvm.Term.static "com/example/parleyd/parleyd/core/Utf8" "BYTE_ORDER_MARK" "[B") (Jvm.Term.int (2 : Int32))) (Jvm.Term.int (-65 : Int32)))
  obtain ⟨w_B, ev_B⟩ := arr_v c9
  obtain ⟨cB, A_B⟩ := Arr.start ev_B c9
  have S_B := Sta.start ev_B (Or.inr ⟨(hw _ (List.mem_of_getElem? (i := 8) rfl)), (hw _ (List.mem_of_getElem? (i := 11) rfl))⟩)
  obtain ⟨sz_B, le_B⟩ := lenI_v A_B ev_B c11
  have V_B : Arv s s.heap w_B cB.cls .byte 3 [(.int (-17 : Int32)), (.int (-69 : Int32)), (.int (-65 : Int32))] (.int (0 : Int32)) := Arv.start hfit A_B sz_B le_B (by decide) (by decide) ⟨(elem_in (eqI_v c13) ev_B rfl A_B.1).2, (elem_in (eqI_v c15) ev_B rfl A_B.1).2, (elem_in (eqI_v c16) ev_B rfl A_B.1).2, trivial⟩
  obtain ⟨n, o, h1, h2, h3, _, L, rfl, ⟨rfl, N⟩, hq⟩ := rm0 l s _ hw i0 i1 i2 i3 w_B cB.cls s.heap s.heap.size (Nat.le_refl _) S_B V_B tables_1 p e ha hc hk s m _ below hf ((Spec.applies_iff_loose hf).mp happ).1 ⟨rfl, State.Warmed39.refl s, rfl⟩ trivial
  refine ⟨n, _, h1, h2, h3, hpost _ _ _ _ _ _ ⟨Cond.after_iff.mpr rfl, Cond.after_iff.mpr (eq_i res_at (Term.int_eval (1)) rfl), trivial⟩ ⟨hq.1, hq.2.1, (hq.2.2.sift fun y hy => Or.inr (N y hy)).mono (by decide) (by decide)⟩⟩
theorem main_1_1 : Claimed_1_1 := comes_1 fun _ _ _ _ _ _ h hF => ⟨h.1, hF⟩
theorem main_1_2 : Claimed_1_2 := comes_1 fun _ _ _ _ _ _ h hF => ⟨h.2.1, hF⟩
end Jvm.Pilot.@@N@@
namespace Jvm.Pilot.@@N@@
open Jvm Jvm.ClassFile Sem Op Lib Jvm.Free Jvm.Stand Jvm.Pilot.@@N@@.Jvm.D
/-! MADE BY PROGRAM (witnessworld.py) out of the Statement's table words and the real class files: 9 classes; the members and pool entries that the words name. The judged class is class 1, her method 2. -/
namespace start1
open Jvm.ClassFile
def u (s : String) : CpInfo := .utf8 (stringToUtf16 s)
/-- a pool by its gaps: so many unusable entries, then the entry; so many at the end -/
def gap : Nat → List CpInfo → List CpInfo
  | 0, r => r
  | n + 1, r => .unusable :: gap n r
def poolList (es : List (Nat × CpInfo)) (last : Nat) : List CpInfo := es.foldr (fun e r => gap e.1 (e.2 :: r)) (gap last [])
def pool (es : List (Nat × CpInfo)) (last : Nat) : Array CpInfo := ⟨poolList es last⟩
def fileOf (pool : Array CpInfo) (this : Nat) (attrs : Array Attribute := #[]) (ms : Array MethodInfo := #[]) (fl : Nat := 33) (sup : Nat := 0) (ifs : Array Nat := #[]) (fds : Array FieldInfo := #[]) : ClassFile where
  minorVersion := 0
  majorVersion := 65
  constantPool := pool
  accessFlags := fl
  thisClass := this
  superClass := sup
  interfaces := ifs
  fields := fds
  methods := ms
  attributes := attrs
def plain (name : String) (sup : Option ClassId) : Class where
  name := name
  kind := .ordinary
  loader := none
  accessFlags := 33
  super := sup
  interfaces := #[]
  cf := none
  fields := #[]
  methods := #[]
  instanceTypes := #[]
  staticTypes := #[]
  resolved := #[]
  callSites := []
  init := .initialized
  statics := none
  mirror := none

def pool0 : Array CpInfo := pool [(5, u "<init>"), (0, u "()V"), (1, .class_ 10), (1, u "java/lang/Object")] 113

def k0m0 : Method := { name := "<init>", desc := "()V", sig := { parameters := [], returnType := none }, accessFlags := 1, code := none }
/-- java/lang/Object -/
def k0 : Class := { plain "java/lang/Object" none with
  accessFlags := 33
  interfaces := #[]
  cf := some (fileOf pool0 8 #[] #[{ accessFlags := 1, nameIndex := 5, descriptorIndex := 6, attributes := #[] }] 33 0 #[] #[])
  fields := #[]
  methods := #[k0m0]
  instanceTypes := #[]
  staticTypes := #[]
  resolved := Array.replicate 124 none
  statics := none }

def pool1 : Array CpInfo := pool [(2, .class_ 4), (1, u "java/lang/Object"), (0, u "<init>"), (0, u "()V"), (0, .methodref 8 9), (0, .class_ 10), (0, .nameAndType 11 12), (0, u "com/example/parleyd/parleyd/core/Utf8OpeningMarkBytesPinLaw"), (0, u "pick"), (0, u "(IJI)B"), (0, .integer 2147483647), (0, .methodref 15 16), (0, .class_ 17), (0, .nameAndType 18 19), (0, u "com/example/parleyd/parleyd/core/Utf8"), (0, u "openingMarkBytes"), (0, u "([BII)I"), (3, u "law"), (0, u "(JIII)Z")] 4

def k1m0 : Method := { name := "<init>", desc := "()V", sig := { parameters := [], returnType := none }, accessFlags := 2, code := none }
def k1c1 : Code := { maxStack := 4, maxLocals := 5, code := method_2_code, exceptionTable := #[], attributes := #[] }
def k1m1 : Method := { name := "pick", desc := "(IJI)B", sig := { parameters := [.int, .long, .int], returnType := some .byte }, accessFlags := 10, code := some k1c1 }
def k1c2 : Code := { maxStack := 6, maxLocals := 9, code := code, exceptionTable := #[], attributes := #[] }
def k1m2 : Method := { name := "law", desc := "(JIII)Z", sig := { parameters := [.long, .int, .int, .int], returnType := some .boolean }, accessFlags := 9, code := some k1c2 }
/-- com/example/parleyd/parleyd/core/Utf8OpeningMarkBytesPinLaw -/
def k1 : Class := { plain "com/example/parleyd/parleyd/core/Utf8OpeningMarkBytesPinLaw" (some 0) with
  accessFlags := 49
  interfaces := #[]
  cf := some (fileOf pool1 8 #[] #[{ accessFlags := 2, nameIndex := 5, descriptorIndex := 6, attributes := #[] }, { accessFlags := 10, nameIndex := 11, descriptorIndex := 12, attributes := #[] }, { accessFlags := 9, nameIndex := 23, descriptorIndex := 24, attributes := #[] }] 49 2 #[] #[])
  fields := #[]
  methods := #[k1m0, k1m1, k1m2]
  instanceTypes := #[]
  staticTypes := #[]
  resolved := Array.replicate 29 none
  statics := none }

def pool2 : Array CpInfo := pool [(2, .class_ 4), (1, u "java/lang/Object"), (0, u "<init>"), (0, u "()V"), (0, .fieldref 8 9), (0, .class_ 10), (0, .nameAndType 11 12), (0, u "com/example/parleyd/parleyd/core/Utf8"), (0, u "BYTE_ORDER_MARK"), (0, u "[B"), (11, u "openingMarkBytes"), (0, u "([BII)I")] 21

def k2m0 : Method := { name := "<init>", desc := "()V", sig := { parameters := [], returnType := none }, accessFlags := 2, code := none }
def k2c1 : Code := { maxStack := 3, maxLocals := 4, code := prog_8_method_2_code, exceptionTable := #[], attributes := #[] }
def k2m1 : Method := { name := "openingMarkBytes", desc := "([BII)I", sig := { parameters := [(.array .byte), .int, .int], returnType := some .int }, accessFlags := 8, code := some k2c1 }
/-- com/example/parleyd/parleyd/core/Utf8 -/
def k2 : Class := { plain "com/example/parleyd/parleyd/core/Utf8" (some 0) with
  accessFlags := 32
  interfaces := #[]
  cf := some (fileOf pool2 8 #[] #[{ accessFlags := 2, nameIndex := 5, descriptorIndex := 6, attributes := #[] }, { accessFlags := 8, nameIndex := 24, descriptorIndex := 25, attributes := #[] }] 32 2 #[] #[{ accessFlags := 24, nameIndex := 11, descriptorIndex := 12, attributes := #[] }])
  fields := #[{ name := "BYTE_ORDER_MARK", type := (.array .byte), accessFlags := 24, slot := 0, constantValue := 0 }]
  methods := #[k2m0, k2m1]
  instanceTypes := #[]
  staticTypes := #[(.array .byte)]
  resolved := Array.replicate 47 none
  statics := some 0 }

def pool3 : Array CpInfo := pool [(1, u "java/lang/Cloneable"), (0, .class_ 1), (0, u "java/lang/Object"), (0, .class_ 3)] 3

/-- java/lang/Cloneable -/
def k3 : Class := { plain "java/lang/Cloneable" (some 0) with
  accessFlags := 1537
  interfaces := #[]
  cf := some (fileOf pool3 2 #[] #[] 1537 4 #[] #[])
  fields := #[]
  methods := #[]
  instanceTypes := #[]
  staticTypes := #[]
  resolved := Array.replicate 8 none
  statics := none }

def pool4 : Array CpInfo := pool [(1, u "java/io/Serializable"), (0, .class_ 1), (0, u "java/lang/Object"), (0, .class_ 3)] 3

/-- java/io/Serializable -/
def k4 : Class := { plain "java/io/Serializable" (some 0) with
  accessFlags := 1537
  interfaces := #[]
  cf := some (fileOf pool4 2 #[] #[] 1537 4 #[] #[])
  fields := #[]
  methods := #[]
  instanceTypes := #[]
  staticTypes := #[]
  resolved := Array.replicate 8 none
  statics := none }

/-- the primitive byte -/
def k5 : Class := { plain "byte" none with kind := .primitive 'B', accessFlags := 0x411 }
/-- [B -/
def k6 : Class := { plain "[B" (some 0) with kind := .array 5 .byte, interfaces := #[3, 4], accessFlags := 1041 }

/-- the primitive int -/
def k7 : Class := { plain "int" none with kind := .primitive 'I', accessFlags := 0x411 }
/-- [I -/
def k8 : Class := { plain "[I" (some 0) with kind := .array 7 .int, interfaces := #[3, 4], accessFlags := 1041 }

def heap : Heap := #[{ cls := 2, slots := #[.ref 1], vm := .statics 2 },
  { cls := 6, slots := #[.int (-17), .int (-69), .int (-65)], vm := .none }]
def classes : Array Class := #[k0, k1, k2, k3, k4, k5, k6, k7, k8]
def interned : List (Array UInt16 × Addr) := []
def slotsUsed : Nat := 4
def theMethod : MethodId := ⟨1, 2⟩
def args0 : Array Value := #[.long 5, .int 3, .int 2, .int 6]
def aboutOver (below : List Frame) : State where
  vm := { classes := classes, interned := interned.toArray }
  heap := heap
  slotsUsed := slotsUsed
  threads := #[{ frames := .invoking theMethod args0 :: below }]
def below0 : List Frame := [.native { method := ⟨0, 0⟩, args := #[] }]
def about1 : State := aboutOver below0
def p0 : Program := .bare "" "" ""
def e0 : Env := launch0.env 0 0 0
theorem w_frames : about1.frames = Frame.invoking theMethod args0 :: below0 := rfl
set_option maxRecDepth 65536 in
theorem w_args : argsFit about1.vm theMethod args0 = true := by decide +kernel
set_option maxRecDepth 65536 in
theorem w_heap : heapFits about1 = true := by decide +kernel
set_option maxRecDepth 65536 in
theorem w_runnable : about1.curStatus? = some .runnable := by decide +kernel
set_option maxRecDepth 65536 in
theorem w_alone : about1.alone = true := by decide +kernel
set_option maxRecDepth 65536 in
theorem w_named : about1.methodNamed? x = some theMethod := by decide +kernel
set_option maxRecDepth 65536 in
theorem w_hears : about1.hears theMethod below0 = true := by decide +kernel
set_option maxRecDepth 65536 in
theorem w_ripe : about1.ripe theMethod args0 below0 = true := by decide +kernel
theorem w_running : about1.status = .running := rfl
set_option maxRecDepth 65536 in
theorem w_room : about1.hasRoom e0.platform room_1 = true :=
  launch0.hasRoom_least _ room_1 (by decide +kernel) (by decide +kernel) (by decide +kernel) (by decide +kernel) (by decide +kernel) (by decide +kernel)
theorem allAtoms_all (ts : List Jvm.Cond) (a : Array Jvm.Value) (st : Jvm.State) : (allAtoms ts).before a st = ts.all (fun c => c.before a st) := by
  induction ts with
  | nil => rfl
  | cons c t ih =>
    show (Jvm.Cond.and c (allAtoms t)).before a st = _
    rw [Jvm.Cond.before_and, ih, List.all_cons]
def words1 : List Jvm.Cond := Jvm.Cond.code x code maxLocals ret :: tables_1
/-- a 'code' word, met by the world's own term for the bytes: nothing is compared byte by byte -/
theorem code_word {y : MethodName} {bytes : ByteArray} {mx : Nat} {rt : Option FieldType} {a : Array Value} {s : State} {m : MethodId} {meth : Method} {c : Code} (h1 : s.methodNamed? y = some m) (h2 : s.vm.method? m = some meth) (h3 : meth.code = some c) (h4 : c.code = bytes)
    (h5 : (c.maxLocals == mx && c.exceptionTable.isEmpty && decide (c.maxStack ≤ mostOperands) && decide (meth.sig.returnType = rt) && !meth.locks && decide (parseMethodDescriptor y.desc = some meth.sig)) = true) : (Jvm.Cond.code y bytes mx rt).before a s = true := by
  simp only [Bool.and_eq_true, beq_iff_eq, Bool.not_eq_true', decide_eq_true_eq] at h5
  obtain ⟨⟨⟨⟨⟨g1, g2⟩, g3⟩, g4⟩, g5⟩, g6⟩ := h5
  simp [Cond.before, Cond.holds, Cond.value, h1, h2, h3, h4, g1, g2, g3, g4, g5, g6]
def isCode : Jvm.Cond → Bool
  | .code _ _ _ _ => true
  | _ => false
theorem all_split {L : List Jvm.Cond} {P : Jvm.Cond → Bool} (h1 : L.all (fun c => isCode c || P c) = true) (h2 : ∀ c ∈ L.filter isCode, P c = true) : L.all P = true := by
  refine List.all_eq_true.mpr fun c hc => ?_
  have h := List.all_eq_true.mp h1 c hc
  rcases Bool.eq_false_or_eq_true (isCode c) with hi | hi
  · exact h2 c (List.mem_filter.mpr ⟨hc, hi⟩)
  · simpa [hi] using h
set_option maxRecDepth 65536 in
theorem w_c0 : (Jvm.Cond.code x code maxLocals ret).before args0 about1 = true := code_word (m := ⟨1, 2⟩) (meth := k1m2) (c := k1c2) (by decide +kernel) rfl rfl rfl (by decide +kernel)
set_option maxRecDepth 65536 in
theorem w_c1 : (Jvm.Cond.code ({ cls := "com/example/parleyd/parleyd/core/Utf8OpeningMarkBytesPinLaw", name := "pick", desc := "(IJI)B" } : Jvm.MethodName) method_2_code (5 : Nat) (Option.some Jvm.ClassFile.FieldType.byte)).before args0 about1 = true := code_word (m := ⟨1, 1⟩) (meth := k1m1) (c := k1c1) (by decide +kernel) rfl rfl rfl (by decide +kernel)
set_option maxRecDepth 65536 in
theorem w_c2 : (Jvm.Cond.code ({ cls := "com/example/parleyd/parleyd/core/Utf8", name := "openingMarkBytes", desc := "([BII)I" } : Jvm.MethodName) prog_8_method_2_code (4 : Nat) (Option.some Jvm.ClassFile.FieldType.int)).before args0 about1 = true := code_word (m := ⟨2, 1⟩) (meth := k2m1) (c := k2c1) (by decide +kernel) rfl rfl rfl (by decide +kernel)
def codes1 : List Jvm.Cond := [Jvm.Cond.code x code maxLocals ret, Jvm.Cond.code ({ cls := "com/example/parleyd/parleyd/core/Utf8OpeningMarkBytesPinLaw", name := "pick", desc := "(IJI)B" } : Jvm.MethodName) method_2_code (5 : Nat) (Option.some Jvm.ClassFile.FieldType.byte), Jvm.Cond.code ({ cls := "com/example/parleyd/parleyd/core/Utf8", name := "openingMarkBytes", desc := "([BII)I" } : Jvm.MethodName) prog_8_method_2_code (4 : Nat) (Option.some Jvm.ClassFile.FieldType.int)]
set_option maxRecDepth 65536 in
theorem codes_eq : words1.filter isCode = codes1 := rfl
theorem w_codes : ∀ c ∈ words1.filter isCode, c.before args0 about1 = true := by
  rw [codes_eq]
  intro c hc
  simp only [codes1, List.mem_cons, List.not_mem_nil, or_false] at hc
  rcases hc with rfl | rfl | rfl
  · exact w_c0
  · exact w_c1
  · exact w_c2
set_option maxRecDepth 65536 in
theorem w_t1 : words1.all (fun c => isCode c || c.before args0 about1) = true := by decide +kernel
theorem w_tables : (allAtoms (Jvm.Cond.code x code maxLocals ret :: tables_1)).before args0 about1 = true := by
  rw [allAtoms_all]
  show words1.all (fun c => c.before args0 about1) = true
  refine all_split ?_ w_codes
  rw [w_t1]
set_option maxRecDepth 65536 in
theorem w_case : (Jvm.Cond.and given_1 narrow_1).before args0 about1 = true := by decide +kernel
theorem w_applies : (headSpec (Jvm.Cond.code x code maxLocals ret :: tables_1) room_1).applies x e0.platform about1 = true :=
  (Spec.applies_iff w_frames).mpr ⟨w_running, w_runnable, w_alone, w_named, w_hears, w_ripe, w_room, w_tables⟩
theorem atStart : AtStart classFile x code maxLocals ret World_1 tables_1 room_1 Calls_1 rest_1 Pre_1 launch0 p0 e0 about1 theMethod args0 below0 :=
  ⟨lists_1, trivial, launch0.admits_env _ _ _, launch0.least_env, fairChoices_fair.cas, fairChoices_fair.clock, w_frames, w_args, w_heap, w_applies, trivial, trivial, w_case⟩
end start1
theorem witness_1 : WitnessClaimed_1 := ⟨start1.p0, start1.e0, start1.about1, start1.theMethod, start1.args0, start1.below0, start1.atStart⟩
end Jvm.Pilot.@@N@@
