import JvmDerived
import JvmDerived.Pilot.@@N@@Statement
import JvmDerived.Pilot.@@N@@Code
set_option linter.unusedVariables false
set_option linter.unusedSimpArgs false
namespace Jvm.OwnKit
open Sem ClassFile Op Lib Jvm.Stand Jvm.Free Jvm.LawKit Jvm.RoadKit
section Own
variable {p : Program} {l : Launch} {e : Env} {R : Room} {s : State} {m : MethodId} {args : Array Value} {below : List Frame} {meth : Method} {c : Code} {T : State} {locs : List Loc} {cells slots : Nat} {Z : State} {a0 : Array Value} {h : Heap}
/-- from S the run comes to an end that F admits -/
def W (p : Program) (e : Env) (below : List Frame) (F : Outcome → State → Prop) (S : State) : Prop := ∃ s₂ o, Steps p.tables e below S s₂ ∧ s₂.status = .running ∧ Ended s₂ below o ∧ F o s₂
def Fin (s : State) (Q : Option Value → Heap → List Loc → Prop) (rc rs : Nat) (o : Outcome) (U : State) : Prop := ∃ v L, o = .returned v ∧ Q v U.heap L ∧ FrameEnd s o U L rc rs
theorem W.go {F : Outcome → State → Prop} {S S' : State} (st : ∀ t, Steps p.tables e below S' t → Steps p.tables e below S t) (k : W p e below F S') : W p e below F S := by
  obtain ⟨s2, o, h1, h2⟩ := k; exact ⟨s2, o, st _ h1, h2⟩
theorem W.via {F : Outcome → State → Prop} {S S' : State} (st : Steps p.tables e below S S') (k : W p e below F S') : W p e below F S := by
  obtain ⟨s2, o, h1, h2⟩ := k; exact ⟨s2, o, st.trans h1, h2⟩
/-- a contract: called with these arguments, over this heap, the body returns and leaves what Q says -/
def Ctr (l : Launch) (Z : State) (y : MethodName) (bytes : ByteArray) (maxL : Nat) (ret : Option FieldType) (rm : Room) (as' : Array Value) (h0 : Heap) (Q : Option Value → Heap → List Loc → Prop) : Prop :=
  ∀ ws : List Jvm.Cond, MetFree l y (head1 (Jvm.Cond.code y bytes maxL ret :: ws) rm) (fun a U => a = as' ∧ Z.Warmed39 U.vm ∧ U.heap = h0) (fun _ _ _ _ _ => True) (fun _ U o U' => Fin U Q rm.cells rm.slots o U')
theorem Ctr.body {y : MethodName} {bytes : ByteArray} {maxL : Nat} {ret : Option FieldType} {rm : Room} {as' : Array Value} {h0 : Heap} {Q : Option Value → Heap → List Loc → Prop} {fr : MethodId → JFrame} (hpl : plainFor y = true) (hef : ∀ m, entryFrame m as' maxL = fr m)
    (body : ∀ (p : Program) (e : Env) (s : State) (m : MethodId) (below : List Frame) (meth : Method) (c : Code) (s₁ : State), p.tables.exec = Jvm.exec → c.code = bytes → c.maxLocals = maxL → Z.Warmed39 s.vm → s.vm.findClass y.cls = some m.cls → meth.name = y.name → meth.sig.returnType = ret → meth.locks = false →
      Stand p l e rm s m as' below meth c s₁ [] 0 0 → s₁.heap = h0 → W p e below (Fin s Q rm.cells rm.slots) (s₁.setTop (fr m))) : Ctr l Z y bytes maxL ret rm as' h0 Q := by
  intro ws
  refine MetFree.of_bodySF hpl hisR ?_
  intro p e s m args below meth c s₁ Bd hml0 hP hK
  obtain ⟨rfl, hZ, hh⟩ := hP
  have r := body p e s m below meth c s₁ Bd.exec Bd.bytes hml0 hZ (findClass_of_methodNamed Bd.named) (name_of_methodNamed Bd.named Bd.method).1 Bd.returns Bd.notSynchronized (Stand.of_body Bd) (by rw [← hh, Bd.state]; rfl)
  rw [← hef] at r
  exact r
theorem W.retB (X : Stand p l e R s m args below meth c T locs cells slots) (hx : p.tables.exec = Jvm.exec) (hlk : meth.locks = false) {t : FieldType} (hret : meth.sig.returnType = some t) (ht : t = .boolean ∨ t = .byte ∨ t = .char ∨ t = .short) {pc : Nat} {Ls : Array Slot} {z : Int32} {rest : List Value} (hd : decode c.code pc = .ok (.ireturn, 1))
    {Q : Option Value → Heap → List Loc → Prop} {rc rs : Nat} (hc : cells ≤ rc) (hs : slots ≤ rs) (eT : T.heap = h) (hQ : Q (some (.int (nar t z))) h locs) : W p e below (Fin s Q rc rs) (T.setTop (mkF m pc Ls (.int z :: rest))) := by
  obtain ⟨fs, hr, hrun, hended, hW, hsame⟩ := X.leave (v := some (.int (nar t z))) (fun h => by rw [hret] at h; cases h) hlk
  subst eT
  exact ⟨_, _, retN X hx hret ht hd hr, hrun, hended, _, _, rfl, hQ, ⟨_, rfl⟩, hW, hsame.mono hc hs⟩
theorem W.retI (X : Stand p l e R s m args below meth c T locs cells slots) (hx : p.tables.exec = Jvm.exec) (hlk : meth.locks = false) (hret : meth.sig.returnType = some .int) {pc : Nat} {Ls : Array Slot} {z : Int32} {rest : List Value} (hd : decode c.code pc = .ok (.ireturn, 1))
    {Q : Option Value → Heap → List Loc → Prop} {rc rs : Nat} (hc : cells ≤ rc) (hs : slots ≤ rs) (eT : T.heap = h) (hQ : Q (some (.int z)) h locs) : W p e below (Fin s Q rc rs) (T.setTop (mkF m pc Ls (.int z :: rest))) := by
  obtain ⟨fs, hr, hrun, hended, hW, hsame⟩ := X.leave (v := some (.int z)) (fun h => by rw [hret] at h; cases h) hlk
  subst eT
  refine ⟨_, _, ?_, hrun, hended, _, _, rfl, hQ, ⟨_, rfl⟩, hW, hsame.mono hc hs⟩
  have hm' : T.vm.method? m = some meth := X.method'
  have hn : narrow .int (.int z) = .int z := rfl
  show Steps p.tables e below (T.setTop { method := m, pc := pc, locals := Ls, stack := _ :: rest, locked := none }) _
  jvm_step X.here [X.here.top, hx, hd, hm', hret, hn]
  first | (intro acts; rw [hr _ acts rfl rfl rfl]) | rw [hr _ _ rfl rfl rfl]
  exact Steps.refl _
theorem W.retL (X : Stand p l e R s m args below meth c T locs cells slots) (hx : p.tables.exec = Jvm.exec) (hlk : meth.locks = false) (hret : meth.sig.returnType = some .long) {pc : Nat} {Ls : Array Slot} {z : Int64} {rest : List Value} (hd : decode c.code pc = .ok (.lreturn, 1))
    {Q : Option Value → Heap → List Loc → Prop} {rc rs : Nat} (hc : cells ≤ rc) (hs : slots ≤ rs) (eT : T.heap = h) (hQ : Q (some (.long z)) h locs) : W p e below (Fin s Q rc rs) (T.setTop (mkF m pc Ls (.long z :: rest))) := by
  obtain ⟨fs, hr, hrun, hended, hW, hsame⟩ := X.leave (v := some (.long z)) (fun h => by rw [hret] at h; cases h) hlk
  subst eT
  refine ⟨_, _, ?_, hrun, hended, _, _, rfl, hQ, ⟨_, rfl⟩, hW, hsame.mono hc hs⟩
  have hm' : T.vm.method? m = some meth := X.method'
  have hn : narrow .long (.long z) = .long z := rfl
  show Steps p.tables e below (T.setTop { method := m, pc := pc, locals := Ls, stack := _ :: rest, locked := none }) _
  jvm_step X.here [X.here.top, hx, hd, hm', hret, hn]
  first | (intro acts; rw [hr _ acts rfl rfl rfl]) | rw [hr _ _ rfl rfl rfl]
  exact Steps.refl _
theorem W.retA (X : Stand p l e R s m args below meth c T locs cells slots) (hx : p.tables.exec = Jvm.exec) (hlk : meth.locks = false) {t : FieldType} (hret : meth.sig.returnType = some t) (ht : t.isReference = true) {pc : Nat} {Ls : Array Slot} {w : Value} (hw : w.isRef = true) {rest : List Value} (hd : decode c.code pc = .ok (.areturn, 1))
    {Q : Option Value → Heap → List Loc → Prop} {rc rs : Nat} (hc : cells ≤ rc) (hs : slots ≤ rs) (eT : T.heap = h) (hQ : Q (some w) h locs) : W p e below (Fin s Q rc rs) (T.setTop (mkF m pc Ls (w :: rest))) := by
  obtain ⟨fs, hr, hrun, hended, hW, hsame⟩ := X.leave (v := some w) (fun h => by rw [hret] at h; cases h) hlk
  subst eT
  refine ⟨_, _, ?_, hrun, hended, _, _, rfl, hQ, ⟨_, rfl⟩, hW, hsame.mono hc hs⟩
  have hm' : T.vm.method? m = some meth := X.method'
  rcases ref_cases hw with rfl | ⟨z, rfl⟩
  all_goals
    show Steps p.tables e below (T.setTop { method := m, pc := pc, locals := Ls, stack := _ :: rest, locked := none }) _
    jvm_step X.here [X.here.top, hx, hd, hm', hret, ht, Value.isRef]
    first | (intro acts; rw [hr _ acts rfl rfl rfl]) | rw [hr _ _ rfl rfl rfl]
    exact Steps.refl _
theorem W.retV (X : Stand p l e R s m args below meth c T locs cells slots) (hx : p.tables.exec = Jvm.exec) (hlk : meth.locks = false) (hret : meth.sig.returnType = none) {pc : Nat} {Ls : Array Slot} (hd : decode c.code pc = .ok (.return_, 1))
    {Q : Option Value → Heap → List Loc → Prop} {rc rs : Nat} (hc : cells ≤ rc) (hs : slots ≤ rs) (eT : T.heap = h) (hQ : Q none h locs) : W p e below (Fin s Q rc rs) (T.setTop (mkF m pc Ls [])) := by
  obtain ⟨fs, hr, hrun, hended, hW, hsame⟩ := X.leave (v := none) (fun _ => rfl) hlk
  subst eT
  exact ⟨_, _, X.returnOut hx hret hd hr, hrun, hended, _, _, rfl, hQ, ⟨_, rfl⟩, hW, hsame.mono hc hs⟩
section Calls
variable {y y0 : MethodName} {bytes : ByteArray} {maxL W0 : Nat} {ret : Option FieldType} {rm : Room} {as' : Array Value} {Q : Option Value → Heap → List Loc → Prop} {own : String} {index : Nat} {sig : MethodDescriptor} {g : JFrame} {argsL rest : List Value} {F : Outcome → State → Prop}
theorem Ctr.back {len : Nat} (hM : Ctr l Z y bytes maxL ret rm as' h Q) (hZ : Z.Warmed39 s.vm) (wc : (Jvm.Cond.code y bytes maxL ret).before a0 Z = true) (wz : (Jvm.Cond.initialized y.cls).before a0 Z = true) (hf : rm.frames + 1 ≤ R.frames) (hl : W0 + (maxL + 11) + rm.locals ≤ R.locals) :
    Back l R p e below s args y len W0 (fun A a => a = as' ∧ A.U.heap = h ∧ A.cells + rm.cells ≤ R.cells ∧ A.slots + rm.slots ≤ R.slots)
      (fun A _ v B => ∃ L, Q v B.U.heap L ∧ B.locs = A.locs ++ L ∧ B.cells = A.cells + rm.cells ∧ B.slots = A.slots + rm.slots) := backOf (hM []) hZ wc wz hf hl
/-- a static call by its contract -/
theorem W.callS (X : Stand p l e R s m args below meth c T locs cells slots) (hx : p.tables.exec = Jvm.exec) (hZ : Z.Warmed39 s.vm) (hown : s.vm.findClass own = some m.cls) (hml : g.locals.size = c.maxLocals)
    (w1 : (Jvm.Cond.methodLink own index y).before a0 Z = true) (w2 : (Jvm.Cond.static y).before a0 Z = true) (w3 : (Jvm.Cond.initialized y.cls).before a0 Z = true) (w4 : (Jvm.Cond.code y bytes maxL ret).before a0 Z = true) (eT : T.heap = h)
    (hM : Ctr l Z y bytes maxL ret rm as' h Q) (hy : y.cls ≠ "java/lang/invoke/MethodHandle" ∧ y.cls ≠ "java/lang/invoke/VarHandle") (pd : parseMethodDescriptor y.desc = some sig) (hg : g.method = m) (has : argsL.toArray = as') (hlen : argsL.length = sig.parameters.length)
    (hst : g.stack = argsL.reverse ++ rest) (hd : decode c.code g.pc = .ok (.invokestatic index, 3)) (hW : 2 * g.monitorRoom + (rest.map fun v => v.category).sum = W0) (hf : rm.frames + 1 ≤ R.frames) (hl : W0 + (maxL + 11) + rm.locals ≤ R.locals) (hc : cells + rm.cells ≤ R.cells) (hs : slots + rm.slots ≤ R.slots)
    (k : ∀ v T' h' L, Stand p l e R s m args below meth c T' (locs ++ L) (cells + rm.cells) (slots + rm.slots) → T'.heap = h' → Q v h' L → W p e below F (T'.setTop { g with pc := g.pc + 3, stack := v.toList ++ rest })) : W p e below F (T.setTop g) := by
  obtain ⟨v, _, ⟨T', L', k', n'⟩, -, X', ⟨L, hQ, e1, e2, e3⟩, st⟩ := Jvm.LawKit.callS X hx hown (mvT hZ w1) (mvT hZ w2) (mvT hZ w3) (mvT hZ w4) hy (hM.back hZ w4 w3 hf hl) hg hml (argsL := argsL) (rest := rest) (fun sg q => by cases pd.symm.trans q; exact hlen) hst (Nat.le_of_eq hW) hd (fun _ _ => ⟨has, eT, hc, hs⟩)
  dsimp only [Pt.U, Pt.locs, Pt.cells, Pt.slots] at X' e1 e2 e3 hQ st
  subst e1 e2 e3
  exact W.go st (k v T' _ L X' rfl hQ)
/-- a constructor, whoever pays it -/
theorem W.callIK {kc ks : Nat} (X : Stand p l e R s m args below meth c T locs cells slots) (hx : p.tables.exec = Jvm.exec) (hZ : Z.Warmed39 s.vm) (hown : s.vm.findClass own = some m.cls) (hml : g.locals.size = c.maxLocals)
    (w1 : (Jvm.Cond.methodLink own index y).before a0 Z = true) (w2 : (Jvm.Cond.instanceMethod y).before a0 Z = true) (w4 : (Jvm.Cond.code y bytes maxL none).before a0 Z = true) (eT : T.heap = h)
    (hK : Back l R p e below s args y 3 W0 (fun A a => a = as' ∧ A.U.heap = h ∧ A.cells + kc ≤ R.cells ∧ A.slots + ks ≤ R.slots) (fun A _ v B => ∃ L, Q v B.U.heap L ∧ B.locs = A.locs ++ L ∧ B.cells = A.cells + kc ∧ B.slots = A.slots + ks)) (hn : y.name = "<init>") (hy : y.cls ≠ "java/lang/invoke/MethodHandle" ∧ y.cls ≠ "java/lang/invoke/VarHandle") (pd : parseMethodDescriptor y.desc = some sig) (hg : g.method = m) {b : Addr} (has : (Value.ref b :: argsL).toArray = as') (hlen : argsL.length = sig.parameters.length)
    (hst : g.stack = argsL.reverse ++ .ref b :: rest) (hd : decode c.code g.pc = .ok (.invokespecial index, 3)) (hW : 2 * g.monitorRoom + (rest.map fun v => v.category).sum = W0) (hc : cells + kc ≤ R.cells) (hs : slots + ks ≤ R.slots)
    (k : ∀ v T' h' L, Stand p l e R s m args below meth c T' (locs ++ L) (cells + kc) (slots + ks) → T'.heap = h' → Q v h' L → W p e below F (T'.setTop { g with pc := g.pc + 3, stack := v.toList ++ rest })) : W p e below F (T.setTop g) := by
  obtain ⟨v, _, ⟨T', L', k', n'⟩, -, X', ⟨L, hQ, e1, e2, e3⟩, st⟩ := X.specialBack hx hn hown (mvT hZ w1) (mvT hZ w2) (mvT hZ w4) hy hK hg hml (Steps.refl _) (a := b) (argsL := argsL) (rest := rest) (fun sg q => by cases pd.symm.trans q; exact hlen) hst (Nat.le_of_eq hW) hd (fun _ _ => ⟨has, eT, hc, hs⟩)
  dsimp only [Pt.U, Pt.locs, Pt.cells, Pt.slots] at X' e1 e2 e3 hQ st
  subst e1 e2 e3
  exact W.via st (k v T' _ L X' rfl hQ)
/-- a constructor by its contract -/
theorem W.callI (X : Stand p l e R s m args below meth c T locs cells slots) (hx : p.tables.exec = Jvm.exec) (hZ : Z.Warmed39 s.vm) (hown : s.vm.findClass own = some m.cls) (hml : g.locals.size = c.maxLocals)
    (w1 : (Jvm.Cond.methodLink own index y).before a0 Z = true) (w2 : (Jvm.Cond.instanceMethod y).before a0 Z = true) (w3 : (Jvm.Cond.initialized y.cls).before a0 Z = true) (w4 : (Jvm.Cond.code y bytes maxL none).before a0 Z = true) (eT : T.heap = h)
    (hM : Ctr l Z y bytes maxL none rm as' h Q) (hn : y.name = "<init>") (hy : y.cls ≠ "java/lang/invoke/MethodHandle" ∧ y.cls ≠ "java/lang/invoke/VarHandle") (pd : parseMethodDescriptor y.desc = some sig) (hg : g.method = m) {b : Addr} (has : (Value.ref b :: argsL).toArray = as') (hlen : argsL.length = sig.parameters.length)
    (hst : g.stack = argsL.reverse ++ .ref b :: rest) (hd : decode c.code g.pc = .ok (.invokespecial index, 3)) (hW : 2 * g.monitorRoom + (rest.map fun v => v.category).sum = W0) (hf : rm.frames + 1 ≤ R.frames) (hl : W0 + (maxL + 11) + rm.locals ≤ R.locals) (hc : cells + rm.cells ≤ R.cells) (hs : slots + rm.slots ≤ R.slots)
    (k : ∀ v T' h' L, Stand p l e R s m args below meth c T' (locs ++ L) (cells + rm.cells) (slots + rm.slots) → T'.heap = h' → Q v h' L → W p e below F (T'.setTop { g with pc := g.pc + 3, stack := v.toList ++ rest })) : W p e below F (T.setTop g) := by
  obtain ⟨v, _, ⟨T', L', k', n'⟩, -, X', ⟨L, hQ, e1, e2, e3⟩, st⟩ := X.specialBack hx hn hown (mvT hZ w1) (mvT hZ w2) (mvT hZ w4) hy (hM.back hZ w4 w3 hf hl) hg hml (Steps.refl _) (a := b) (argsL := argsL) (rest := rest) (fun sg q => by cases pd.symm.trans q; exact hlen) hst (Nat.le_of_eq hW) hd (fun _ _ => ⟨has, eT, hc, hs⟩)
  dsimp only [Pt.U, Pt.locs, Pt.cells, Pt.slots] at X' e1 e2 e3 hQ st
  subst e1 e2 e3
  exact W.via st (k v T' _ L X' rfl hQ)
/-- an instance method, whoever pays it -/
theorem W.callVK {kc ks : Nat} {C : String} (X : Stand p l e R s m args below meth c T locs cells slots) (hx : p.tables.exec = Jvm.exec) (hZ : Z.Warmed39 s.vm) (hown : s.vm.findClass own = some m.cls) (hml : g.locals.size = c.maxLocals)
    (w1 : (Jvm.Cond.methodLink own index y0).before a0 Z = true) (w5 : (Jvm.Cond.declares y0).before a0 Z = true) (w6 : (Jvm.Cond.selects C y0 y).before a0 Z = true) (w2 : (Jvm.Cond.instanceMethod y).before a0 Z = true) (eT : T.heap = h)
    (hK : Back l R p e below s args y 3 W0 (fun A a => a = as' ∧ A.U.heap = h ∧ A.cells + kc ≤ R.cells ∧ A.slots + ks ≤ R.slots) (fun A _ v B => ∃ L, Q v B.U.heap L ∧ B.locs = A.locs ++ L ∧ B.cells = A.cells + kc ∧ B.slots = A.slots + ks)) (hnf : NotFace s y0) (hy : y0.cls ≠ "java/lang/invoke/MethodHandle" ∧ y0.cls ≠ "java/lang/invoke/VarHandle") (pd : parseMethodDescriptor y0.desc = some sig) (hg : g.method = m) {b : Addr} (E : Exa Z h b C) (has : (Value.ref b :: argsL).toArray = as') (hlen : argsL.length = sig.parameters.length)
    (hst : g.stack = argsL.reverse ++ .ref b :: rest) (hd : decode c.code g.pc = .ok (.invokevirtual index, 3)) (hW : 2 * g.monitorRoom + (rest.map fun v => v.category).sum = W0) (hc : cells + kc ≤ R.cells) (hs : slots + ks ≤ R.slots)
    (k : ∀ v T' h' L, Stand p l e R s m args below meth c T' (locs ++ L) (cells + kc) (slots + ks) → T'.heap = h' → Q v h' L → W p e below F (T'.setTop { g with pc := g.pc + 3, stack := v.toList ++ rest })) : W p e below F (T.setTop g) := by
  obtain ⟨cq, kq, qa, qb, qc⟩ := isOf hZ eT E
  obtain ⟨v, _, ⟨T', L', k', n'⟩, -, X', ⟨L, hQ, e1, e2, e3⟩, st⟩ := X.virtualBack hx hown (mvT hZ w1) (mvT hZ w5) hnf (mvT hZ w6) (mvT hZ w2) hy hK qa qc hg hml (Steps.refl _) (argsL := argsL) (rest := rest) (fun sg q => by cases pd.symm.trans q; exact hlen) hst (Nat.le_of_eq hW) hd (fun _ _ => ⟨has, eT, hc, hs⟩)
  dsimp only [Pt.U, Pt.locs, Pt.cells, Pt.slots] at X' e1 e2 e3 hQ st
  subst e1 e2 e3
  exact W.via st (k v T' _ L X' rfl hQ)
/-- an instance method by its contract -/
theorem W.callV {C : String} (X : Stand p l e R s m args below meth c T locs cells slots) (hx : p.tables.exec = Jvm.exec) (hZ : Z.Warmed39 s.vm) (hown : s.vm.findClass own = some m.cls) (hml : g.locals.size = c.maxLocals)
    (w1 : (Jvm.Cond.methodLink own index y0).before a0 Z = true) (w5 : (Jvm.Cond.declares y0).before a0 Z = true) (w6 : (Jvm.Cond.selects C y0 y).before a0 Z = true) (w2 : (Jvm.Cond.instanceMethod y).before a0 Z = true) (w3 : (Jvm.Cond.initialized y.cls).before a0 Z = true) (w4 : (Jvm.Cond.code y bytes maxL ret).before a0 Z = true) (eT : T.heap = h)
    (hM : Ctr l Z y bytes maxL ret rm as' h Q) (hnf : NotFace s y0) (hy : y0.cls ≠ "java/lang/invoke/MethodHandle" ∧ y0.cls ≠ "java/lang/invoke/VarHandle") (pd : parseMethodDescriptor y0.desc = some sig) (hg : g.method = m) {b : Addr} (E : Exa Z h b C) (has : (Value.ref b :: argsL).toArray = as') (hlen : argsL.length = sig.parameters.length)
    (hst : g.stack = argsL.reverse ++ .ref b :: rest) (hd : decode c.code g.pc = .ok (.invokevirtual index, 3)) (hW : 2 * g.monitorRoom + (rest.map fun v => v.category).sum = W0) (hf : rm.frames + 1 ≤ R.frames) (hl : W0 + (maxL + 11) + rm.locals ≤ R.locals) (hc : cells + rm.cells ≤ R.cells) (hs : slots + rm.slots ≤ R.slots)
    (k : ∀ v T' h' L, Stand p l e R s m args below meth c T' (locs ++ L) (cells + rm.cells) (slots + rm.slots) → T'.heap = h' → Q v h' L → W p e below F (T'.setTop { g with pc := g.pc + 3, stack := v.toList ++ rest })) : W p e below F (T.setTop g) := by
  obtain ⟨cq, kq, qa, qb, qc⟩ := isOf hZ eT E
  obtain ⟨v, _, ⟨T', L', k', n'⟩, -, X', ⟨L, hQ, e1, e2, e3⟩, st⟩ := X.virtualBack hx hown (mvT hZ w1) (mvT hZ w5) hnf (mvT hZ w6) (mvT hZ w2) hy (hM.back hZ w4 w3 hf hl) qa qc hg hml (Steps.refl _) (argsL := argsL) (rest := rest) (fun sg q => by cases pd.symm.trans q; exact hlen) hst (Nat.le_of_eq hW) hd (fun _ _ => ⟨has, eT, hc, hs⟩)
  dsimp only [Pt.U, Pt.locs, Pt.cells, Pt.slots] at X' e1 e2 e3 hQ st
  subst e1 e2 e3
  exact W.via st (k v T' _ L X' rfl hQ)
/-- the same, the method declared further up -/
theorem W.callU {C owner : String} (X : Stand p l e R s m args below meth c T locs cells slots) (hx : p.tables.exec = Jvm.exec) (hZ : Z.Warmed39 s.vm) (hown : s.vm.findClass own = some m.cls) (hml : g.locals.size = c.maxLocals)
    (w1 : (Jvm.Cond.methodLink own index y0).before a0 Z = true) (w7 : (Jvm.Cond.sameMethod y0.cls owner y0.name y0.desc).before a0 Z = true) (w5 : (Jvm.Cond.declares ⟨owner, y0.name, y0.desc⟩).before a0 Z = true) (w6 : (Jvm.Cond.selects C y0 y).before a0 Z = true) (w2 : (Jvm.Cond.instanceMethod y).before a0 Z = true) (w3 : (Jvm.Cond.initialized y.cls).before a0 Z = true) (w4 : (Jvm.Cond.code y bytes maxL ret).before a0 Z = true) (eT : T.heap = h)
    (hM : Ctr l Z y bytes maxL ret rm as' h Q) (hy : owner ≠ "java/lang/invoke/MethodHandle" ∧ owner ≠ "java/lang/invoke/VarHandle") (pd : parseMethodDescriptor y0.desc = some sig) (hg : g.method = m) {b : Addr} (E : Exa Z h b C) (has : (Value.ref b :: argsL).toArray = as') (hlen : argsL.length = sig.parameters.length)
    (hst : g.stack = argsL.reverse ++ .ref b :: rest) (hd : decode c.code g.pc = .ok (.invokevirtual index, 3)) (hW : 2 * g.monitorRoom + (rest.map fun v => v.category).sum = W0) (hf : rm.frames + 1 ≤ R.frames) (hl : W0 + (maxL + 11) + rm.locals ≤ R.locals) (hc : cells + rm.cells ≤ R.cells) (hs : slots + rm.slots ≤ R.slots)
    (k : ∀ v T' h' L, Stand p l e R s m args below meth c T' (locs ++ L) (cells + rm.cells) (slots + rm.slots) → T'.heap = h' → Q v h' L → W p e below F (T'.setTop { g with pc := g.pc + 3, stack := v.toList ++ rest })) : W p e below F (T.setTop g) := by
  obtain ⟨cq, kq, qa, qb, qc⟩ := isOf hZ eT E
  obtain ⟨v, _, ⟨T', L', k', n'⟩, -, X', ⟨L, hQ, e1, e2, e3⟩, st⟩ := X.virtualBackUp hx hown (mvT hZ w1) (mvT hZ w7) (mvT hZ w5) hy (mvT hZ w6) (mvT hZ w2) (hM.back hZ w4 w3 hf hl) qa qc hg hml (Steps.refl _) (argsL := argsL) (rest := rest) (fun sg q => by cases pd.symm.trans q; exact hlen) hst (Nat.le_of_eq hW) hd (fun _ _ => ⟨has, eT, hc, hs⟩)
  dsimp only [Pt.U, Pt.locs, Pt.cells, Pt.slots] at X' e1 e2 e3 hQ st
  subst e1 e2 e3
  exact W.via st (k v T' _ L X' rfl hQ)
/-- a method that lands in a default of an interface -/
theorem W.callD {C owner : String} (X : Stand p l e R s m args below meth c T locs cells slots) (hx : p.tables.exec = Jvm.exec) (hZ : Z.Warmed39 s.vm) (hown : s.vm.findClass own = some m.cls) (hml : g.locals.size = c.maxLocals)
    (w1 : (Jvm.Cond.methodLink own index y0).before a0 Z = true) (w7 : (Jvm.Cond.sameMethod y0.cls owner y0.name y0.desc).before a0 Z = true) (w5 : (Jvm.Cond.declares ⟨owner, y0.name, y0.desc⟩).before a0 Z = true) (w6 : (Jvm.Cond.landsInDefault C y0 y).before a0 Z = true) (w2 : (Jvm.Cond.instanceMethod y).before a0 Z = true) (w3 : (Jvm.Cond.initialized y.cls).before a0 Z = true) (w4 : (Jvm.Cond.code y bytes maxL ret).before a0 Z = true) (eT : T.heap = h)
    (hM : Ctr l Z y bytes maxL ret rm as' h Q) (hy : owner ≠ "java/lang/invoke/MethodHandle" ∧ owner ≠ "java/lang/invoke/VarHandle") (pd : parseMethodDescriptor y0.desc = some sig) (hg : g.method = m) {b : Addr} (E : Exa Z h b C) (has : (Value.ref b :: argsL).toArray = as') (hlen : argsL.length = sig.parameters.length)
    (hst : g.stack = argsL.reverse ++ .ref b :: rest) (hd : decode c.code g.pc = .ok (.invokevirtual index, 3)) (hW : 2 * g.monitorRoom + (rest.map fun v => v.category).sum = W0) (hf : rm.frames + 1 ≤ R.frames) (hl : W0 + (maxL + 11) + rm.locals ≤ R.locals) (hc : cells + rm.cells ≤ R.cells) (hs : slots + rm.slots ≤ R.slots)
    (k : ∀ v T' h' L, Stand p l e R s m args below meth c T' (locs ++ L) (cells + rm.cells) (slots + rm.slots) → T'.heap = h' → Q v h' L → W p e below F (T'.setTop { g with pc := g.pc + 3, stack := v.toList ++ rest })) : W p e below F (T.setTop g) := by
  obtain ⟨cq, kq, qa, qb, qc⟩ := isOf hZ eT E
  obtain ⟨v, _, ⟨T', L', k', n'⟩, -, X', ⟨L, hQ, e1, e2, e3⟩, st⟩ := X.virtualBackUpD hx hown (mvT hZ w1) (mvT hZ w7) (mvT hZ w5) hy (mvD hZ w6) (mvT hZ w2) (hM.back hZ w4 w3 hf hl) qa qc hg hml (Steps.refl _) (argsL := argsL) (rest := rest) (fun sg q => by cases pd.symm.trans q; exact hlen) hst (Nat.le_of_eq hW) hd (fun _ _ => ⟨has, eT, hc, hs⟩)
  dsimp only [Pt.U, Pt.locs, Pt.cells, Pt.slots] at X' e1 e2 e3 hQ st
  subst e1 e2 e3
  exact W.via st (k v T' _ L X' rfl hQ)
/-- a call through an interface -/
theorem W.callF {C : String} {count : Nat} (X : Stand p l e R s m args below meth c T locs cells slots) (hx : p.tables.exec = Jvm.exec) (hZ : Z.Warmed39 s.vm) (hown : s.vm.findClass own = some m.cls) (hml : g.locals.size = c.maxLocals)
    (w1 : (Jvm.Cond.methodLink own index y0).before a0 Z = true) (w5 : (Jvm.Cond.declares y0).before a0 Z = true) (w7 : (Jvm.Cond.interfaceMethod y0.cls y0.cls y0.name y0.desc).before args s = true) (w6 : (Jvm.Cond.selects C y0 y).before a0 Z = true) (w2 : (Jvm.Cond.instanceMethod y).before a0 Z = true) (w8 : (Jvm.Cond.publicMethod y).before a0 Z = true) (w9 : (Jvm.Cond.unhidden C y0.name y0.desc).before a0 Z = true) (w10 : (Jvm.Cond.castable C y0.cls).before a0 Z = true) (w3 : (Jvm.Cond.initialized y.cls).before a0 Z = true) (w4 : (Jvm.Cond.code y bytes maxL ret).before a0 Z = true) (eT : T.heap = h)
    (hM : Ctr l Z y bytes maxL ret rm as' h Q) (hy : y0.cls ≠ "java/lang/invoke/MethodHandle" ∧ y0.cls ≠ "java/lang/invoke/VarHandle") (pd : parseMethodDescriptor y0.desc = some sig) (hg : g.method = m) {b : Addr} (E : Exa Z h b C) (has : (Value.ref b :: argsL).toArray = as') (hlen : argsL.length = sig.parameters.length)
    (hst : g.stack = argsL.reverse ++ .ref b :: rest) (hd : decode c.code g.pc = .ok (.invokeinterface index count, 5)) (hW : 2 * g.monitorRoom + (rest.map fun v => v.category).sum = W0) (hf : rm.frames + 1 ≤ R.frames) (hl : W0 + (maxL + 11) + rm.locals ≤ R.locals) (hc : cells + rm.cells ≤ R.cells) (hs : slots + rm.slots ≤ R.slots)
    (k : ∀ v T' h' L, Stand p l e R s m args below meth c T' (locs ++ L) (cells + rm.cells) (slots + rm.slots) → T'.heap = h' → Q v h' L → W p e below F (T'.setTop { g with pc := g.pc + 5, stack := v.toList ++ rest })) : W p e below F (T.setTop g) := by
  obtain ⟨cq, kq, qa, qb, qc⟩ := isOf hZ eT E
  obtain ⟨v, _, ⟨T', L', k', n'⟩, -, X', ⟨L, hQ, e1, e2, e3⟩, st⟩ := X.interfaceBack hx hown (mvT hZ w1) (mvT hZ w5) w7 (mvT hZ w6) (mvT hZ w2) (mvT hZ w8) (mvT hZ w9) (mvT hZ w10) hy (hM.back hZ w4 w3 hf hl) qa qb qc hg hml (Steps.refl _) (argsL := argsL) (rest := rest) (fun sg q => by cases pd.symm.trans q; exact hlen) hst (Nat.le_of_eq hW) hd (fun _ _ => ⟨has, eT, hc, hs⟩)
  dsimp only [Pt.U, Pt.locs, Pt.cells, Pt.slots] at X' e1 e2 e3 hQ st
  subst e1 e2 e3
  exact W.via st (k v T' _ L X' rfl hQ)
/-- super.m(..) -/
theorem W.callSup {K : String} (X : Stand p l e R s m args below meth c T locs cells slots) (hx : p.tables.exec = Jvm.exec) (hZ : Z.Warmed39 s.vm) (hown : s.vm.findClass own = some m.cls) (hml : g.locals.size = c.maxLocals)
    (w1 : (Jvm.Cond.methodLink own index y).before a0 Z = true) (w5 : (Jvm.Cond.sameMethod y.cls y.cls y.name y.desc).before a0 Z = true) (w2 : (Jvm.Cond.instanceMethod y).before a0 Z = true) (w6 : (Jvm.Cond.superclass own y.cls).before a0 Z = true) (w3 : (Jvm.Cond.initialized y.cls).before a0 Z = true) (w4 : (Jvm.Cond.code y bytes maxL ret).before a0 Z = true) (eT : T.heap = h)
    (hM : Ctr l Z y bytes maxL ret rm as' h Q) (hn : y.name ≠ "<init>") (pd : parseMethodDescriptor y.desc = some sig) (hg : g.method = m) {b : Addr} (E : Exa Z h b K) (has : (Value.ref b :: argsL).toArray = as') (hlen : argsL.length = sig.parameters.length)
    (hst : g.stack = argsL.reverse ++ .ref b :: rest) (hd : decode c.code g.pc = .ok (.invokespecial index, 3)) (hW : 2 * g.monitorRoom + (rest.map fun v => v.category).sum = W0) (hf : rm.frames + 1 ≤ R.frames) (hl : W0 + (maxL + 11) + rm.locals ≤ R.locals) (hc : cells + rm.cells ≤ R.cells) (hs : slots + rm.slots ≤ R.slots)
    (k : ∀ v T' h' L, Stand p l e R s m args below meth c T' (locs ++ L) (cells + rm.cells) (slots + rm.slots) → T'.heap = h' → Q v h' L → W p e below F (T'.setTop { g with pc := g.pc + 3, stack := v.toList ++ rest })) : W p e below F (T.setTop g) := by
  obtain ⟨v, _, ⟨T', L', k', n'⟩, -, X', ⟨L, hQ, e1, e2, e3⟩, st⟩ := superBack X hx hZ hown w1 w5 w2 w6 hn (hM.back hZ w4 w3 hf hl) eT (Ins.self E) hg hml w4 (argsL := argsL) (rest := rest) (fun sg q => by cases pd.symm.trans q; exact hlen) hst (Nat.le_of_eq hW) hd (fun _ _ => ⟨has, eT, hc, hs⟩)
  dsimp only [Pt.U, Pt.locs, Pt.cells, Pt.slots] at X' e1 e2 e3 hQ st
  subst e1 e2 e3
  exact W.via st (k v T' _ L X' rfl hQ)
theorem nfOf {C : String} {x z : MethodName} (w6 : (Jvm.Cond.selects C x z).before args s = true) (hz : z.cls = y.cls) : NotFace s y := fun r0 h0 => by
  obtain ⟨c1, r1, m1, -, -, hm, -, kP, hkP, hni⟩ := Cond.selects_spec w6
  have hc := findClass_of_methodNamed h0
  have hc2 := findClass_of_methodNamed hm
  rw [hz] at hc2
  have q : r0.cls = m1.cls := Option.some.inj (hc.symm.trans hc2)
  exact ⟨kP, by rw [q]; exact hkP, hni⟩
/-- a class that declares a method finds it; that she is no interface is read off a 'selects' word that ends in her -/
theorem sameDecl {C : String} {x z : MethodName} (w5 : (Jvm.Cond.declares y).before a0 Z = true) (w6 : (Jvm.Cond.selects C x z).before a0 Z = true) (hz : z.cls = y.cls) (hy : y.cls ≠ "java/lang/invoke/MethodHandle" ∧ y.cls ≠ "java/lang/invoke/VarHandle") : (Jvm.Cond.sameMethod y.cls y.cls y.name y.desc).before a0 Z = true := by
  obtain ⟨r0, r, hn, hrm, -, -⟩ := Cond.declares_spec w5
  have hf : Z.methodFound? y.cls y.name y.desc = some r0 := State.methodFound?_of_named hn hy
  have hc := findClass_of_methodNamed hn
  obtain ⟨c1, r1, m1, -, -, hm, -, kP, hkP, hni⟩ := Cond.selects_spec w6
  have hc2 := findClass_of_methodNamed hm
  rw [hz] at hc2
  have q : r0.cls = m1.cls := Option.some.inj (hc.symm.trans hc2)
  have hn' : Z.methodNamed? ⟨y.cls, y.name, y.desc⟩ = some r0 := hn
  have hk : Z.vm.classes[r0.cls]? = some kP := by rw [q]; exact hkP
  simp [Jvm.Cond.before, Jvm.Cond.holds, Jvm.Cond.value, hc, hf, hn', hk, hni]
/-- a private method by its contract -/
theorem W.callP (X : Stand p l e R s m args below meth c T locs cells slots) (hx : p.tables.exec = Jvm.exec) (hZ : Z.Warmed39 s.vm) (hown : s.vm.findClass own = some m.cls) (hml : g.locals.size = c.maxLocals)
    (w1 : (Jvm.Cond.methodLink own index y).before a0 Z = true) (w5 : (Jvm.Cond.privateMethod y).before a0 Z = true) (w6 : (Jvm.Cond.selects y.cls y y).before args s = true) (w2 : (Jvm.Cond.instanceMethod y).before a0 Z = true) (w3 : (Jvm.Cond.initialized y.cls).before a0 Z = true) (w4 : (Jvm.Cond.code y bytes maxL ret).before a0 Z = true) (eT : T.heap = h)
    (hM : Ctr l Z y bytes maxL ret rm as' h Q) (hy : y.cls ≠ "java/lang/invoke/MethodHandle" ∧ y.cls ≠ "java/lang/invoke/VarHandle") (pd : parseMethodDescriptor y.desc = some sig) (hg : g.method = m) {b : Addr} {C : String} (E : Exa Z h b C) (has : (Value.ref b :: argsL).toArray = as') (hlen : argsL.length = sig.parameters.length)
    (hst : g.stack = argsL.reverse ++ .ref b :: rest) (hd : decode c.code g.pc = .ok (.invokevirtual index, 3)) (hW : 2 * g.monitorRoom + (rest.map fun v => v.category).sum = W0) (hf : rm.frames + 1 ≤ R.frames) (hl : W0 + (maxL + 11) + rm.locals ≤ R.locals) (hc : cells + rm.cells ≤ R.cells) (hs : slots + rm.slots ≤ R.slots)
    (k : ∀ v T' h' L, Stand p l e R s m args below meth c T' (locs ++ L) (cells + rm.cells) (slots + rm.slots) → T'.heap = h' → Q v h' L → W p e below F (T'.setTop { g with pc := g.pc + 3, stack := v.toList ++ rest })) : W p e below F (T.setTop g) := by
  obtain ⟨cq, q1, q2⟩ := E.cell
  obtain ⟨v, _, ⟨T', L', k', n'⟩, -, X', ⟨L, hQ, e1, e2, e3⟩, st⟩ := X.privateBack hx hown (mvT hZ w1) (mvT hZ w2) w6 (Cond.privateMethod_at (mvP hZ w5 (args := #[]))) (mvT hZ w4) hy (hM.back hZ w4 w3 hf hl) hg hml (Steps.refl _) (a := b) (by rw [eT]; exact q1) q2 (argsL := argsL) (rest := rest) (fun sg q => by cases pd.symm.trans q; exact hlen) hst (Nat.le_of_eq hW) hd (fun _ _ => ⟨has, eT, hc, hs⟩)
  dsimp only [Pt.U, Pt.locs, Pt.cells, Pt.slots] at X' e1 e2 e3 hQ st
  subst e1 e2 e3
  exact W.via st (k v T' _ L X' rfl hQ)
/-- 'selects' of a private method -/
theorem selPriv {n : Nat} (hZ : Z.Warmed39 s.vm) (wi : (Jvm.Cond.instantiable y.cls n).before a0 Z = true) (w5 : (Jvm.Cond.privateMethod y).before a0 Z = true) (w2 : (Jvm.Cond.instanceMethod y).before a0 Z = true) (hy : y.cls ≠ "java/lang/invoke/MethodHandle" ∧ y.cls ≠ "java/lang/invoke/VarHandle") : (Jvm.Cond.selects y.cls y y).before args s = true := by
  obtain ⟨c2, k2, i1, i2, -, i4, -⟩ := Cond.instantiable_spec (mvT (args := args) hZ wi)
  exact selects_self_of_private i1 i2 (Bool.or_eq_false_iff.mp i4).1 (Cond.privateMethod_at (mvP hZ w5 (args := #[]))) (mvT hZ w2) hy
end Calls
theorem Sta.keep {h' : Heap} {C n d : String} {v : Value} {ws : List Addr} (F : Sta Z h C n d v) (K : Keep h h' ws) (hw : ∀ x ∈ ws, ∀ cell : Cell, h[x]? = some cell → cell.vm.isStatics = false) : Sta Z h' C n d v := by
  obtain ⟨cf, i, k, f, st, cell, h1, h2, h3, h4, h5, h6, h7⟩ := F
  refine ⟨cf, i, k, f, st, cell, h1, h2, h3, h4, K.2.1 st cell h5 fun hm => ?_, h6, h7⟩
  rw [hw st hm cell h5] at h6; cases h6
theorem eqI_v {t : Term} {k : Int32} {first : State} {o : Option Outcome} {idx : List Nat} (hk : (Jvm.Cond.eq t (.int k)).value args first o s idx = some true) : t.eval args first o idx s = some (.int k) := by
  simp only [Jvm.Cond.value, Term.eval] at hk
  cases ht : t.eval args first o idx s with
  | none => simp [ht] at hk
  | some x => cases x <;> simp [ht] at hk ⊢; exact hk
theorem lenI_v {t : Term} {a : Addr} {cl : Cell} {ty : FieldType} {k : Int32} (A : Arr s s.heap a cl ty) (ev : t.eval args s none [] s = some (.ref a)) (hk : (Jvm.Cond.eq (.length t) (.int k)).value args s none s [] = some true) : cl.slots.size < 2 ^ 31 ∧ cl.slots.size.toInt32 = k := by
  have q := eqI_v hk
  have r : s.arrayAt? a = some cl := A.fin (Vm.Alike.refl _)
  simp only [Term.eval, ev, r, Option.bind_eq_bind, Option.bind_some] at q
  split at q
  · rename_i z; cases q; exact ⟨z, rfl⟩
  · cases q
theorem rngM (x n : Int32) (hn : 0 < n.toInt) : 0 ≤ ((x &&& 2147483647) % n).toInt ∧ ((x &&& 2147483647) % n).toInt < n.toInt := by
  have q := c_mask x 2147483647 31 (by decide) (by decide)
  have q0 : 0 ≤ (x &&& 2147483647).toInt := by rw [q]; exact Int.emod_nonneg _ (by decide)
  have r := (c_iremV (x &&& 2147483647) n).1 q0 hn
  exact ⟨r.1, r.2.1⟩
end Own
end Jvm.OwnKit
namespace Jvm.Pilot.@@N@@
open Jvm Jvm.ClassFile Sem Op Lib Jvm.Free Jvm.Stand Jvm.LawKit Jvm.RoadKit Bundle Jvm.OwnKit Jvm.Pilot.@@N@@.Jvm.D
def Pages (Z : State) (h : Heap) (n0 : Nat) (o : Addr) (n : Int32) (F : Nat → Int32) : Prop :=
  ∃ (pa : Addr) (kp : ClassId) (P : Int32) (vs : List Value), Fld Z h o "com/example/parleyd/parleyd/core/IntPages" "pages" "[[I" (.ref pa) ∧ Fld Z h o "com/example/parleyd/parleyd/core/IntPages" "size" "I" (.int n) ∧ Arv Z h pa kp (.array .int) P vs .null ∧ n.toNatClampNeg ≤ P.toNatClampNeg * 16384 ∧
    (∀ q, q < P.toNatClampNeg → ∃ (b : Addr) (cl : Cell), vs.getD q .null = .ref b ∧ n0 ≤ b ∧ b ≠ pa ∧ b ≠ o ∧ Arr Z h b cl .int ∧ ∀ j, j < 16384 → q * 16384 + j < n.toNatClampNeg → cl.slots[j]? = some (.int (F (q * 16384 + j)))) ∧
    (∀ q1 q2, q1 < P.toNatClampNeg → q2 < P.toNatClampNeg → vs.getD q1 .null = vs.getD q2 .null → q1 = q2)
theorem own_idx (i : Int32) (hi : 0 ≤ i.toInt) : ((i.toUInt32 >>> ((14 : Int32) &&& 31).toUInt32).toInt32).toNatClampNeg = i.toNatClampNeg / 16384 ∧ (i &&& (16383 : Int32)).toNatClampNeg = i.toNatClampNeg % 16384 ∧ ¬ ((i.toUInt32 >>> ((14 : Int32) &&& 31).toUInt32).toInt32) < 0 ∧ ¬ (i &&& (16383 : Int32)) < 0 := by
  have q1 := c_iushr i 14 14 (by decide) (by decide)
  have q2 := c_mask i 16383 14 (by decide) (by decide)
  have r := rng32 i
  simp only [Int32.lt_iff_toInt_lt, Int32.reduceToInt, Int32.toNatClampNeg, q1, q2]
  omega
theorem Pages.at {Z : State} {h : Heap} {n0 : Nat} {o : Addr} {n : Int32} {F : Nat → Int32} (H : Pages Z h n0 o n F) (i : Int32) (hi : 0 ≤ i.toInt ∧ i.toInt < n.toInt) :
    ∃ (pa : Addr) (kp : ClassId) (P : Int32) (vs : List Value) (b : Addr) (cl : Cell), Fld Z h o "com/example/parleyd/parleyd/core/IntPages" "pages" "[[I" (.ref pa) ∧ Arv Z h pa kp (.array .int) P vs .null ∧
      (¬ ((i.toUInt32 >>> ((14 : Int32) &&& 31).toUInt32).toInt32) < 0 ∧ ((i.toUInt32 >>> ((14 : Int32) &&& 31).toUInt32).toInt32) < P) ∧ vs.getD ((i.toUInt32 >>> ((14 : Int32) &&& 31).toUInt32).toInt32).toNatClampNeg .null = .ref b ∧ n0 ≤ b ∧ Arr Z h b cl .int ∧
      ¬ ((i &&& (16383 : Int32)) < 0 ∨ cl.slots.size ≤ (i &&& (16383 : Int32)).toNatClampNeg) ∧ cl.slots[(i &&& (16383 : Int32)).toNatClampNeg]? = some (.int (F i.toNatClampNeg)) ∧
      ∀ (h' : Heap) (v : Int32), Wr h h' b (i &&& (16383 : Int32)).toNatClampNeg (.int v) → Pages Z h' n0 o n (fun x => if x = i.toNatClampNeg then v else F x) := by
  obtain ⟨pa, kp, P, vs, Fp, Fs, V, hcap, HA, HB⟩ := H
  obtain ⟨i1, i2, i3, i4⟩ := own_idx i hi.1
  have hn : i.toNatClampNeg < n.toNatClampNeg := by simp only [Int32.toNatClampNeg]; omega
  have hq : i.toNatClampNeg / 16384 < P.toNatClampNeg := by omega
  obtain ⟨b, cl, hb, gb, nbp, nbo, Ab, Hc⟩ := HA _ hq
  have hc := Hc (i.toNatClampNeg % 16384) (by omega) (by omega)
  have ei : i.toNatClampNeg / 16384 * 16384 + i.toNatClampNeg % 16384 = i.toNatClampNeg := by omega
  rw [ei] at hc
  refine ⟨pa, kp, P, vs, b, cl, Fp, V, ⟨i3, ?_⟩, by rw [i1]; exact hb, gb, Ab, ?_, by rw [i2]; exact hc, fun h' v W => ?_⟩
  · rw [Int32.lt_iff_toInt_lt] at i3 ⊢
    simp only [Int32.toNatClampNeg, Int32.reduceToInt] at i1 hq i3
    have e0 : 0 ≤ P.toInt ∨ P.toInt < 0 := by omega
    omega
  · intro q
    rcases q with q | q
    · exact i4 q
    · rw [i2] at q
      exact absurd (Array.getElem?_eq_some_iff.mp hc).1 (Nat.not_lt.mpr q)
  · rw [i2] at W
    refine ⟨pa, kp, P, vs, Fp.other W (Or.inl (Ne.symm nbo)), Fs.other W (Or.inl (Ne.symm nbo)), V.other W (Ne.symm nbp), hcap, fun q hq' => ?_, HB⟩
    obtain ⟨b', cl', hb', gb', nbp', nbo', Ab', Hc'⟩ := HA q hq'
    by_cases e : q = i.toNatClampNeg / 16384
    · subst e
      have eb : b' = b := Value.ref.inj (hb'.symm.trans hb)
      subst eb
      have ec : cl' = cl := Option.some.inj (Ab'.1.symm.trans Ab.1)
      subst ec
      refine ⟨b', _, hb', gb', nbp', nbo', Ab'.same W, fun j hj hjn => ?_⟩
      by_cases ej : i.toNatClampNeg % 16384 = j
      · subst ej
        show _ = some (Value.int (if _ = i.toNatClampNeg then v else F _))
        rw [ei, if_pos rfl]
        simp [Cell.setSlot, (Array.getElem?_eq_some_iff.mp hc).1]
      · have ne : ¬ (i.toNatClampNeg / 16384 * 16384 + j = i.toNatClampNeg) := by omega
        show _ = some (Value.int (if _ = i.toNatClampNeg then v else F _))
        rw [if_neg ne]
        show (cl'.slots.setIfInBounds _ _)[j]? = _
        rw [Array.getElem?_setIfInBounds_ne ej]
        exact Hc' j hj hjn
    · have nb : b' ≠ b := fun eb => e (HB q _ hq' hq (by rw [hb', hb, eb]))
      refine ⟨b', cl', hb', gb', nbp', nbo', Ab'.other W nb, fun j hj hjn => ?_⟩
      have ne : ¬ (q * 16384 + j = i.toNatClampNeg) := by omega
      show _ = some (Value.int (if _ = i.toNatClampNeg then v else F _))
      rw [if_neg ne]
      exact Hc' j hj hjn
/-- pages that hold one value each -/
def Pg (Z : State) (h : Heap) (n0 : Nat) (o pa : Addr) (n f : Int32) (q : Nat) (v : Value) : Prop := ∃ (b : Addr) (k : ClassId) (ln : Int32), v = .ref b ∧ n0 ≤ b ∧ b ≠ pa ∧ b ≠ o ∧ Arv Z h b k .int ln [] (.int f) ∧ (16384 ≤ ln.toInt ∨ n.toInt ≤ q * 16384 + ln.toInt)
theorem Pg.use {Z : State} {h : Heap} {n0 : Nat} {o pa : Addr} {n f : Int32} {q : Nat} {v : Value} (hn : 0 ≤ n.toInt) (H : Pg Z h n0 o pa n f q v) : ∃ (b : Addr) (cl : Cell), v = .ref b ∧ n0 ≤ b ∧ b ≠ pa ∧ b ≠ o ∧ Arr Z h b cl .int ∧ ∀ j, j < 16384 → q * 16384 + j < n.toNatClampNeg → cl.slots[j]? = some (.int f) := by
  obtain ⟨b, k, ln, e1, e2, e3, e4, ⟨cl, A, -, S, N, H, -⟩, e6⟩ := H
  refine ⟨b, cl, e1, e2, e3, e4, A, fun j hj hjn => ?_⟩
  have hs : j < cl.slots.size := by
    rw [S]
    simp only [Int32.lt_iff_toInt_lt, Int32.reduceToInt, Int32.toNatClampNeg] at *
    omega
  exact H j hs

theorem d3_0 : decode jdk_29_method_69_code 0 = .ok (.iload_n 0, 1) := by decide +kernel
theorem d3_1 : decode jdk_29_method_69_code 1 = .ok (.iload_n 1, 1) := by decide +kernel
theorem d3_2 : decode jdk_29_method_69_code 2 = .ok (.if_icmp .gt 7, 3) := by decide +kernel
theorem d3_9 : decode jdk_29_method_69_code 9 = .ok (.iload_n 1, 1) := by decide +kernel
theorem d3_10 : decode jdk_29_method_69_code 10 = .ok (.ireturn, 1) := by decide +kernel
theorem d3_5 : decode jdk_29_method_69_code 5 = .ok (.iload_n 0, 1) := by decide +kernel
theorem d3_6 : decode jdk_29_method_69_code 6 = .ok (.goto 4, 3) := by decide +kernel
def Q_rm3 (Z : State) (p0 : Int32) (p1 : Int32) (z : Int32) (h0 : Heap) (n0 : Nat) (v : Option Value) (h : Heap) (L : List Loc) : Prop := v = some (.int z) ∧ Fr n0 L ∧ h = h0
set_option maxRecDepth 65536 in
set_option maxHeartbeats 40000000 in
theorem rm3 (l : Launch) (Z : State) (a0 : Array Value) (hw : ∀ d ∈ tables_1, d.before a0 Z = true) (p0 : Int32) (p1 : Int32) (z : Int32) (h0 : Heap) (n0 : Nat) (Z0 : n0 ≤ h0.size) (hz : z = if p1 < p0 then p1 else p0) :
    Ctr l Z (⟨"java/lang/Math", "min", "(II)I"⟩ : MethodName) jdk_29_method_69_code 2 (some .int) ({ frames := 0, cells := 0, slots := 0, locals := 0 } : Room) #[(.int p0), (.int p1)] h0 (Q_rm3 Z p0 p1 z h0 n0) := by
  refine Ctr.body (fr := fun m => mkF m 0 #[.val (.int p0), .val (.int p1)] []) (Jvm.Free.JP.mathPlain rfl (by decide +kernel)) (fun m => by first | (simp [entryFrame, mkF, argsToLocals, Value.category]; done) | rfl) fun p e s m below meth c s₁ hx hby hml hZ hown hnm hret hlk X0 e0 => ?_
  have N0 := Fr.nil n0
  have hown : s.vm.findClass "java/lang/Math" = some m.cls := hown
  show W p e below _ (s₁.setTop (mkF m 0 #[.val (.int p0), .val (.int p1)] []))
  refine W.go (fun _ hr => XS.iloadN X0.here hx rfl (hb hby d3_0) rfl hr) ?_
  show W p e below _ (s₁.setTop (mkF m 1 #[.val (.int p0), .val (.int p1)] [(.int p0)]))
  refine W.go (fun _ hr => XS.iloadN X0.here hx rfl (hb hby d3_1) rfl hr) ?_
  show W p e below _ (s₁.setTop (mkF m 2 #[.val (.int p0), .val (.int p1)] [(.int p1), (.int p0)]))
  by_cases hc2_1 : p1 < p0
  · refine W.go (fun _ hr => XS.icmpYes X0.here hx rfl (pc0 := 2) (pc' := 9) rfl (hb hby d3_2) rfl (tlt hc2_1).2.2.1 (by decide) (by decide) hr) ?_
    show W p e below _ (s₁.setTop (mkF m 9 #[.val (.int p0), .val (.int p1)] []))
    refine W.go (fun _ hr => XS.iloadN X0.here hx rfl (hb hby d3_9) rfl hr) ?_
    show W p e below _ (s₁.setTop (mkF m 10 #[.val (.int p0), .val (.int p1)] [(.int p1)]))
    exact W.retI X0 hx hlk hret (hb hby d3_10) (by decide) (by decide) e0 ⟨by rw [hz]; simp [*], N0, rfl⟩
  · refine W.go (fun _ hr => XS.icmpNo X0.here hx rfl (hb hby d3_2) rfl (flt hc2_1).2.2.1 hr) ?_
    show W p e below _ (s₁.setTop (mkF m 5 #[.val (.int p0), .val (.int p1)] []))
    refine W.go (fun _ hr => XS.iloadN X0.here hx rfl (hb hby d3_5) rfl hr) ?_
    show W p e below _ (s₁.setTop (mkF m 6 #[.val (.int p0), .val (.int p1)] [(.int p0)]))
    refine W.go (fun _ hr => XS.goto X0.here hx rfl (pc0 := 6) (pc' := 10) rfl (hb hby d3_6) (by decide) (by decide) hr) ?_
    show W p e below _ (s₁.setTop (mkF m 10 #[.val (.int p0), .val (.int p1)] [(.int p0)]))
    exact W.retI X0 hx hlk hret (hb hby d3_10) (by decide) (by decide) e0 ⟨by rw [hz]; simp [*], N0, rfl⟩
theorem own_fits {f : Int32} (vs : List Value) (h : ∀ v ∈ vs, v = .int f) (i : Nat) : fits .int (vs.getD i (.int f)) = true := by
  by_cases q : i < vs.length
  · rw [List.getD_eq_getElem?_getD, List.getElem?_eq_getElem q]; rw [Option.getD_some, h _ (List.getElem_mem q)]; rfl
  · rw [List.getD_eq_getElem?_getD, List.getElem?_eq_none (Nat.le_of_not_lt q)]; rfl
theorem own_step {Z : State} {h h' : Heap} {a : Addr} {k : ClassId} {n i f : Int32} {cl : Cell} {vs : List Value} (hl : vs.length = i.toNatClampNeg) (hv : ∀ v ∈ vs, v = .int f) (A : Arr Z h a cl .int) (q : cl.cls = k) (S : cl.slots.size = n.toNatClampNeg) (N : ¬ n < 0) (H : Has cl vs (.int 0)) (G : ∀ i, i < cl.slots.size → fits .int (vs.getD i (.int 0)) = true) (W : Wr h h' a i.toNatClampNeg (.int f)) :
    Arv Z h' a k .int n (vs ++ [.int f]) (.int 0) := by
  have P : Arv Z h a k .int n (vs ++ [.int 0]) (.int 0) := Arv.pad ⟨cl, A, q, S, N, H, G⟩ (pad_rep vs (.int 0) 1)
  obtain ⟨cl2, A2, q2, S2, N2, H2, G2⟩ := P
  have r := Arv.set A2 q2 S2 N2 H2 G2 (v := .int f) rfl W vs.length hl.symm (by simp)
  have e : (vs ++ [Value.int 0]).set vs.length (.int f) = vs ++ [.int f] := by simp
  rwa [e] at r
theorem own_done {Z : State} {h : Heap} {a : Addr} {k : ClassId} {n f : Int32} {vs : List Value} (hl : n.toNatClampNeg ≤ vs.length) (hv : ∀ v ∈ vs, v = .int f) (V : Arv Z h a k .int n vs (.int 0)) : Arv Z h a k .int n [] (.int f) := by
  obtain ⟨cl, A, q, S, N, H, G⟩ := V
  have e : ∀ i, i < cl.slots.size → vs.getD i (.int 0) = .int f := fun i hi => by
    have hi' : i < vs.length := by omega
    rw [List.getD_eq_getElem?_getD, List.getElem?_eq_getElem hi', Option.getD_some]; exact hv _ (List.getElem_mem hi')
  exact ⟨cl, A, q, S, N, fun i hi => by rw [H i hi, e i hi]; rfl, fun i hi => rfl⟩
theorem d4_0 : decode jdk_65_method_103_code 0 = .ok (.iconst 0, 1) := by decide +kernel
theorem d4_1 : decode jdk_65_method_103_code 1 = .ok (.istore_n 2, 1) := by decide +kernel
theorem d4_2 : decode jdk_65_method_103_code 2 = .ok (.aload_n 0, 1) := by decide +kernel
theorem d4_3 : decode jdk_65_method_103_code 3 = .ok (.arraylength, 1) := by decide +kernel
theorem d4_4 : decode jdk_65_method_103_code 4 = .ok (.istore_n 3, 1) := by decide +kernel
theorem d4_5 : decode jdk_65_method_103_code 5 = .ok (.iload_n 2, 1) := by decide +kernel
theorem d4_6 : decode jdk_65_method_103_code 6 = .ok (.iload_n 3, 1) := by decide +kernel
theorem d4_7 : decode jdk_65_method_103_code 7 = .ok (.if_icmp .ge 13, 3) := by decide +kernel
theorem d4_20 : decode jdk_65_method_103_code 20 = .ok (.return_, 1) := by decide +kernel
theorem d4_10 : decode jdk_65_method_103_code 10 = .ok (.aload_n 0, 1) := by decide +kernel
theorem d4_11 : decode jdk_65_method_103_code 11 = .ok (.iload_n 2, 1) := by decide +kernel
theorem d4_12 : decode jdk_65_method_103_code 12 = .ok (.iload_n 1, 1) := by decide +kernel
theorem d4_13 : decode jdk_65_method_103_code 13 = .ok (.iastore, 1) := by decide +kernel
theorem d4_14 : decode jdk_65_method_103_code 14 = .ok (.iinc 2 1, 3) := by decide +kernel
theorem d4_17 : decode jdk_65_method_103_code 17 = .ok (.goto (-12), 3) := by decide +kernel
theorem pn_java_util_Arrays : plainName "java/util/Arrays" = true := by first | (simp [plainName, overriddenIn]; done) | decide +kernel
def Q_rm4 (Z : State) (r0 : Addr) (p1 : Int32) (n : Int32) (k0 : ClassId) (h0 : Heap) (n0 : Nat) (v : Option Value) (h : Heap) (L : List Loc) : Prop := v = none ∧ Fr n0 L ∧ Keep h0 h [r0] ∧ Exa Z h r0 "[I" ∧ Arv Z h r0 k0 .int n [] (.int p1)
set_option maxRecDepth 65536 in
set_option maxHeartbeats 40000000 in
theorem rm4 (l : Launch) (Z : State) (a0 : Array Value) (hw : ∀ d ∈ tables_1, d.before a0 Z = true) (r0 : Addr) (p1 : Int32) (n : Int32) (k0 : ClassId) (h0 : Heap) (n0 : Nat) (Z0 : n0 ≤ h0.size) (E_r0 : Exa Z h0 r0 "[I") (V_r0 : Arv Z h0 r0 k0 .int n [] (.int (0 : Int32))) (hn0 : ¬ n < 0) (g_r0 : n0 ≤ r0) :
    Ctr l Z (⟨"java/util/Arrays", "fill", "([II)V"⟩ : MethodName) jdk_65_method_103_code 4 none ({ frames := 0, cells := 0, slots := 0, locals := 0 } : Room) #[(.ref r0), (.int p1)] h0 (Q_rm4 Z r0 p1 n k0 h0 n0) := by
  refine Ctr.body (fr := fun m => mkF m 0 #[.val (.ref r0), .val (.int p1), .unset, .unset] []) (plainFor_of_name pn_java_util_Arrays) (fun m => by first | (simp [entryFrame, mkF, argsToLocals, Value.category]; done) | rfl) fun p e s m below meth c s₁ hx hby hml hZ hown hnm hret hlk X0 e0 => ?_
  have N0 := Fr.nil n0
  have hown : s.vm.findClass "java/util/Arrays" = some m.cls := hown
  have KC : Keep h0 h0 [r0] := Keep.refl _ _
  show W p e below _ (s₁.setTop (mkF m 0 #[.val (.ref r0), .val (.int p1), .unset, .unset] []))
  refine W.go (fun _ hr => XS.iconst X0.here hx rfl (hb hby d4_0) hr) ?_
  show W p e below _ (s₁.setTop (mkF m 1 #[.val (.ref r0), .val (.int p1), .unset, .unset] [(.int (0 : Int32))]))
  refine W.go (fun _ hr => XS.istoreN X0.here hx rfl (hb hby d4_1) rfl (l' := #[.val (.ref r0), .val (.int p1), .val (.int (0 : Int32)), .unset]) rfl hr) ?_
  show W p e below _ (s₁.setTop (mkF m 2 #[.val (.ref r0), .val (.int p1), .val (.int (0 : Int32)), .unset] []))
  refine W.go (fun _ hr => XS.aloadN X0.here hx rfl (hb hby d4_2) rfl rfl hr) ?_
  show W p e below _ (s₁.setTop (mkF m 3 #[.val (.ref r0), .val (.int p1), .val (.int (0 : Int32)), .unset] [(.ref r0)]))
  obtain ⟨cl1, Ar1, q1, S1, Nn1, H1, G1⟩ := id V_r0
  refine W.go (X0.arraylength hx (by rw [e0]; exact Ar1.1) (State.isArrayOf_alike hZ.alike Ar1.2.1) (g := (mkF m 3 #[.val (.ref r0), .val (.int p1), .val (.int (0 : Int32)), .unset] [(.ref r0)])) rfl rfl (hb hby d4_3)) ?_
  rw [len_of S1 Nn1]
  show W p e below _ (s₁.setTop (mkF m 4 #[.val (.ref r0), .val (.int p1), .val (.int (0 : Int32)), .unset] [(.int n)]))
  refine W.go (fun _ hr => XS.istoreN X0.here hx rfl (hb hby d4_4) rfl (l' := #[.val (.ref r0), .val (.int p1), .val (.int (0 : Int32)), .val (.int n)]) rfl hr) ?_
  show W p e below _ (s₁.setTop (mkF m 5 #[.val (.ref r0), .val (.int p1), .val (.int (0 : Int32)), .val (.int n)] []))
  have loop : ∀ (k : Nat) (T : State) (h : Heap) (i : Int32) (vs : List Value) (locs : List Loc), Stand p l e ({ frames := 0, cells := 0, slots := 0, locals := 0 } : Room) s m #[(.ref r0), (.int p1)] below meth c T locs 0 0 → T.heap = h → Fr n0 locs → Keep h0 h [r0] → vs.length = i.toNatClampNeg → (∀ v ∈ vs, v = .int p1) → 0 ≤ i.toInt → i.toInt + k = n.toInt → Arv Z h r0 k0 .int n vs (.int (0 : Int32)) → Exa Z h r0 "[I" →
      W p e below (Fin s (Q_rm4 Z r0 p1 n k0 h0 n0) ({ frames := 0, cells := 0, slots := 0, locals := 0 } : Room).cells ({ frames := 0, cells := 0, slots := 0, locals := 0 } : Room).slots) (T.setTop (mkF m 5 #[.val (.ref r0), .val (.int p1), .val (.int i), .val (.int n)] [])) := by
    intro k
    induction k with
    | zero =>
      intro T h i vs locs X0 e0 N0 KC hvl hva hi0 hik V_r0 E_r0
      show W p e below _ (T.setTop (mkF m 5 #[.val (.ref r0), .val (.int p1), .val (.int i), .val (.int n)] []))
      refine W.go (fun _ hr => XS.iloadN X0.here hx rfl (hb hby d4_5) rfl hr) ?_
      show W p e below _ (T.setTop (mkF m 6 #[.val (.ref r0), .val (.int p1), .val (.int i), .val (.int n)] [(.int i)]))
      refine W.go (fun _ hr => XS.iloadN X0.here hx rfl (hb hby d4_6) rfl hr) ?_
      show W p e below _ (T.setTop (mkF m 7 #[.val (.ref r0), .val (.int p1), .val (.int i), .val (.int n)] [(.int n), (.int i)]))
      refine W.go (fun _ hr => XS.icmpYes X0.here hx rfl (pc0 := 7) (pc' := 20) rfl (hb hby d4_7) rfl (flt ((by rw [Int32.lt_iff_toInt_lt]; omega) : ¬ (i < n))).2.1 (by decide) (by decide) hr) ?_
      show W p e below _ (T.setTop (mkF m 20 #[.val (.ref r0), .val (.int p1), .val (.int i), .val (.int n)] []))
      exact W.retV X0 hx hlk hret (hb hby d4_20) (by decide) (by decide) e0 ⟨rfl, N0, KC, E_r0, own_done (by rw [hvl]; simp only [Int32.toNatClampNeg]; omega) hva V_r0⟩
    | succ k ih =>
      intro T h i vs locs X0 e0 N0 KC hvl hva hi0 hik V_r0 E_r0
      have Z1 : n0 ≤ h.size := Nat.le_trans Z0 KC.1
      show W p e below _ (T.setTop (mkF m 5 #[.val (.ref r0), .val (.int p1), .val (.int i), .val (.int n)] []))
      refine W.go (fun _ hr => XS.iloadN X0.here hx rfl (hb hby d4_5) rfl hr) ?_
      show W p e below _ (T.setTop (mkF m 6 #[.val (.ref r0), .val (.int p1), .val (.int i), .val (.int n)] [(.int i)]))
      refine W.go (fun _ hr => XS.iloadN X0.here hx rfl (hb hby d4_6) rfl hr) ?_
      show W p e below _ (T.setTop (mkF m 7 #[.val (.ref r0), .val (.int p1), .val (.int i), .val (.int n)] [(.int n), (.int i)]))
      refine W.go (fun _ hr => XS.icmpNo X0.here hx rfl (hb hby d4_7) rfl (tlt ((by rw [Int32.lt_iff_toInt_lt]; omega) : (i < n))).2.1 hr) ?_
      show W p e below _ (T.setTop (mkF m 10 #[.val (.ref r0), .val (.int p1), .val (.int i), .val (.int n)] []))
      refine W.go (fun _ hr => XS.aloadN X0.here hx rfl (hb hby d4_10) rfl rfl hr) ?_
      show W p e below _ (T.setTop (mkF m 11 #[.val (.ref r0), .val (.int p1), .val (.int i), .val (.int n)] [(.ref r0)]))
      refine W.go (fun _ hr => XS.iloadN X0.here hx rfl (hb hby d4_11) rfl hr) ?_
      show W p e below _ (T.setTop (mkF m 12 #[.val (.ref r0), .val (.int p1), .val (.int i), .val (.int n)] [(.int i), (.ref r0)]))
      refine W.go (fun _ hr => XS.iloadN X0.here hx rfl (hb hby d4_12) rfl hr) ?_
      show W p e below _ (T.setTop (mkF m 13 #[.val (.ref r0), .val (.int p1), .val (.int i), .val (.int n)] [(.int p1), (.int i), (.ref r0)]))
      have hi1 : ¬ i < 0 ∧ i < n := by
        simp only [Int32.lt_iff_toInt_lt, Int32.reduceToInt]; omega
      obtain ⟨cl, Ar, qk, Sn, Nn, Hh, Gg⟩ := V_r0
      have hin : ¬ (i < 0 ∨ cl.slots.size ≤ i.toNatClampNeg) := inb_of Sn hi1
      obtain ⟨T', h', X', e', Wr', st'⟩ := stI X0 hx hZ e0 Ar (j := i) hin (g := (mkF m 13 #[.val (.ref r0), .val (.int p1), .val (.int i), .val (.int n)] [(.int p1), (.int i), (.ref r0)])) rfl rfl (hb hby d4_13)
      have V' := own_step hvl hva Ar qk Sn Nn Hh Gg Wr'
      have N' := Fr.snoc X' N0 g_r0
      have KC' := KC.wr Wr' (Or.inl (List.mem_of_getElem? (i := 0) rfl))
      refine W.go st' ?_
      show W p e below _ (T'.setTop (mkF m 14 #[.val (.ref r0), .val (.int p1), .val (.int i), .val (.int n)] []))
      refine W.go (fun _ hr => XS.iinc X'.here hx rfl (hb hby d4_14) rfl (l' := #[.val (.ref r0), .val (.int p1), .val (.int (i + (1 : Int32))), .val (.int n)]) rfl hr) ?_
      show W p e below _ (T'.setTop (mkF m 17 #[.val (.ref r0), .val (.int p1), .val (.int (i + (1 : Int32))), .val (.int n)] []))
      refine W.go (fun _ hr => XS.goto X'.here hx rfl (pc0 := 17) (pc' := 5) rfl (hb hby d4_17) (by decide) (by decide) hr) ?_
      show W p e below _ (T'.setTop (mkF m 5 #[.val (.ref r0), .val (.int p1), .val (.int (i + (1 : Int32))), .val (.int n)] []))
      have ei : (i + (1 : Int32)).toInt = i.toInt + 1 := by
        have c1 := c_iadd i 1
        have r1 := rng32 (i + 1)
        have r2 := rng32 n
        have e1 : (1 : Int32).toInt = 1 := rfl
        omega
      exact ih T' h' (i + (1 : Int32)) (vs ++ [.int p1]) _ X' e' N' KC' (by rw [List.length_append, hvl]; simp only [Int32.toNatClampNeg, List.length_singleton]; omega) (fun v hv => by rcases List.mem_append.mp hv with q | q; exact hva v q; exact List.mem_singleton.mp q) (by omega) (by omega) V' (E_r0.wr Wr')
  exact loop n.toNatClampNeg s₁ h0 (0 : Int32) [] [] X0 e0 N0 KC rfl (fun v hv => nomatch hv) (by decide) (by have q := hn0; rw [Int32.lt_iff_toInt_lt] at q; have e0 : (0 : Int32).toInt = 0 := rfl; simp only [Int32.toNatClampNeg]; omega) V_r0 E_r0
theorem d7_0 : decode prog_2_method_2_code 0 = .ok (.aload_n 0, 1) := by decide +kernel
theorem d7_1 : decode prog_2_method_2_code 1 = .ok (.getfield 16, 3) := by decide +kernel
theorem d7_4 : decode prog_2_method_2_code 4 = .ok (.ireturn, 1) := by decide +kernel
theorem pn_com_example_parleyd_parleyd_core_IntPages : plainName "com/example/parleyd/parleyd/core/IntPages" = true := by first | (simp [plainName, overriddenIn]; done) | decide +kernel
def Q_rm7 (Z : State) (r0 : Addr) (n : Int32) (F : Nat → Int32) (h0 : Heap) (n0 : Nat) (v : Option Value) (h : Heap) (L : List Loc) : Prop := v = some (.int n) ∧ Fr n0 L ∧ h = h0
set_option maxRecDepth 65536 in
set_option maxHeartbeats 40000000 in
theorem rm7 (l : Launch) (Z : State) (a0 : Array Value) (hw : ∀ d ∈ tables_1, d.before a0 Z = true) (r0 : Addr) (n : Int32) (F : Nat → Int32) (h0 : Heap) (n0 : Nat) (Z0 : n0 ≤ h0.size) (H : Pages Z h0 n0 r0 n F) :
    Ctr l Z (⟨"com/example/parleyd/parleyd/core/IntPages", "size", "()I"⟩ : MethodName) prog_2_method_2_code 1 (some .int) ({ frames := 0, cells := 0, slots := 0, locals := 0 } : Room) #[(.ref r0)] h0 (Q_rm7 Z r0 n F h0 n0) := by
  refine Ctr.body (fr := fun m => mkF m 0 #[.val (.ref r0)] []) (plainFor_of_name pn_com_example_parleyd_parleyd_core_IntPages) (fun m => by first | (simp [entryFrame, mkF, argsToLocals, Value.category]; done) | rfl) fun p e s m below meth c s₁ hx hby hml hZ hown hnm hret hlk X0 e0 => ?_
  have N0 := Fr.nil n0
  have hown : s.vm.findClass "com/example/parleyd/parleyd/core/IntPages" = some m.cls := hown
  obtain ⟨pa, kp, P, vs, Fp, F_size_r0, -⟩ := H
  show W p e below _ (s₁.setTop (mkF m 0 #[.val (.ref r0)] []))
  refine W.go (fun _ hr => XS.aloadN X0.here hx rfl (hb hby d7_0) rfl rfl hr) ?_
  show W p e below _ (s₁.setTop (mkF m 1 #[.val (.ref r0)] [(.ref r0)]))
  obtain ⟨T1, X1, e1, st1⟩ := getF X0 hx hZ hown (host := "") (Or.inl (hw _ (List.mem_of_getElem? (i := 11) rfl))) Via.refl e0 F_size_r0 (g := (mkF m 1 #[.val (.ref r0)] [(.ref r0)])) rfl rfl (hb hby d7_1)
  refine W.go st1 ?_
  show W p e below _ (T1.setTop (mkF m 4 #[.val (.ref r0)] [(.int n)]))
  exact W.retI X1 hx hlk hret (hb hby d7_4) (by decide) (by decide) e1 ⟨rfl, N0, rfl⟩
theorem d6_0 : decode prog_2_method_3_code 0 = .ok (.aload_n 0, 1) := by decide +kernel
theorem d6_1 : decode prog_2_method_3_code 1 = .ok (.getfield 29, 3) := by decide +kernel
theorem d6_4 : decode prog_2_method_3_code 4 = .ok (.iload_n 1, 1) := by decide +kernel
theorem d6_5 : decode prog_2_method_3_code 5 = .ok (.getstatic 24, 3) := by decide +kernel
theorem d6_8 : decode prog_2_method_3_code 8 = .ok (.iushr, 1) := by decide +kernel
theorem d6_9 : decode prog_2_method_3_code 9 = .ok (.aaload, 1) := by decide +kernel
theorem d6_10 : decode prog_2_method_3_code 10 = .ok (.iload_n 1, 1) := by decide +kernel
theorem d6_11 : decode prog_2_method_3_code 11 = .ok (.sipush 16383, 3) := by decide +kernel
theorem d6_14 : decode prog_2_method_3_code 14 = .ok (.iand, 1) := by decide +kernel
theorem d6_15 : decode prog_2_method_3_code 15 = .ok (.iaload, 1) := by decide +kernel
theorem d6_16 : decode prog_2_method_3_code 16 = .ok (.ireturn, 1) := by decide +kernel
def Q_rm6 (Z : State) (r0 : Addr) (p1 : Int32) (n : Int32) (F : Nat → Int32) (z : Int32) (h0 : Heap) (n0 : Nat) (v : Option Value) (h : Heap) (L : List Loc) : Prop := v = some (.int z) ∧ Fr n0 L ∧ h = h0
set_option maxRecDepth 65536 in
set_option maxHeartbeats 40000000 in
theorem rm6 (l : Launch) (Z : State) (a0 : Array Value) (hw : ∀ d ∈ tables_1, d.before a0 Z = true) (r0 : Addr) (p1 : Int32) (n : Int32) (F : Nat → Int32) (z : Int32) (h0 : Heap) (n0 : Nat) (Z0 : n0 ≤ h0.size) (H : Pages Z h0 n0 r0 n F) (hi : 0 ≤ p1.toInt ∧ p1.toInt < n.toInt) (S_SHIFT : Sta Z h0 "com/example/parleyd/parleyd/core/IntPages" "SHIFT" "I" (.int (14 : Int32))) (hz : F p1.toNatClampNeg = z) :
    Ctr l Z (⟨"com/example/parleyd/parleyd/core/IntPages", "get", "(I)I"⟩ : MethodName) prog_2_method_3_code 2 (some .int) ({ frames := 0, cells := 0, slots := 0, locals := 0 } : Room) #[(.ref r0), (.int p1)] h0 (Q_rm6 Z r0 p1 n F z h0 n0) := by
  refine Ctr.body (fr := fun m => mkF m 0 #[.val (.ref r0), .val (.int p1)] []) (plainFor_of_name pn_com_example_parleyd_parleyd_core_IntPages) (fun m => by first | (simp [entryFrame, mkF, argsToLocals, Value.category]; done) | rfl) fun p e s m below meth c s₁ hx hby hml hZ hown hnm hret hlk X0 e0 => ?_
  have N0 := Fr.nil n0
  have hown : s.vm.findClass "com/example/parleyd/parleyd/core/IntPages" = some m.cls := hown
  obtain ⟨pa, kp, P, vs, b, cl, F_pages_r0, V_pa, hq, hbb, gb, Ab, hin, hat, hset⟩ := H.at p1 hi
  rw [hz] at hat
  show W p e below _ (s₁.setTop (mkF m 0 #[.val (.ref r0), .val (.int p1)] []))
  refine W.go (fun _ hr => XS.aloadN X0.here hx rfl (hb hby d6_0) rfl rfl hr) ?_
  show W p e below _ (s₁.setTop (mkF m 1 #[.val (.ref r0), .val (.int p1)] [(.ref r0)]))
  obtain ⟨T1, X1, e1, st1⟩ := getF X0 hx hZ hown (host := "") (Or.inl (hw _ (List.mem_of_getElem? (i := 18) rfl))) Via.refl e0 F_pages_r0 (g := (mkF m 1 #[.val (.ref r0), .val (.int p1)] [(.ref r0)])) rfl rfl (hb hby d6_1)
  refine W.go st1 ?_
  show W p e below _ (T1.setTop (mkF m 4 #[.val (.ref r0), .val (.int p1)] [(.ref pa)]))
  refine W.go (fun _ hr => XS.iloadN X1.here hx rfl (hb hby d6_4) rfl hr) ?_
  show W p e below _ (T1.setTop (mkF m 5 #[.val (.ref r0), .val (.int p1)] [(.int p1), (.ref pa)]))
  obtain ⟨T2, X2, e2, st2⟩ := getS2 X1 hx hZ hown (host := "") (Or.inl (hw _ (List.mem_of_getElem? (i := 14) rfl))) Via.refl e1 S_SHIFT (g := (mkF m 5 #[.val (.ref r0), .val (.int p1)] [(.int p1), (.ref pa)])) rfl (hb hby d6_5)
  refine W.go st2 ?_
  show W p e below _ (T2.setTop (mkF m 8 #[.val (.ref r0), .val (.int p1)] [(.int (14 : Int32)), (.int p1), (.ref pa)]))
  refine W.go (fun _ hr => XS.iushr X2.here hx rfl (hb hby d6_8) rfl hr) ?_
  show W p e below _ (T2.setTop (mkF m 9 #[.val (.ref r0), .val (.int p1)] [(.int ((p1.toUInt32 >>> ((14 : Int32) &&& 31).toUInt32).toInt32)), (.ref pa)]))
  obtain ⟨cl3, Ar3, q3, S3, Nn3, H3, G3⟩ := id V_pa
  have hin3 : ¬ (((p1.toUInt32 >>> ((14 : Int32) &&& 31).toUInt32).toInt32) < 0 ∨ cl3.slots.size ≤ (((p1.toUInt32 >>> ((14 : Int32) &&& 31).toUInt32).toInt32)).toNatClampNeg) := inb_of S3 hq
  have hat3 : cl3.slots[(((p1.toUInt32 >>> ((14 : Int32) &&& 31).toUInt32).toInt32)).toNatClampNeg]? = some (.ref b) := H3.at hin3 hbb
  refine W.go (X2.aaload hx (j := ((p1.toUInt32 >>> ((14 : Int32) &&& 31).toUInt32).toInt32)) (v := (.ref b)) (by rw [e2]; exact Ar3.1) (State.isArrayOf_alike hZ.alike Ar3.2.1) rfl Ar3.2.2 hin3 hat3 (g := (mkF m 9 #[.val (.ref r0), .val (.int p1)] [(.int ((p1.toUInt32 >>> ((14 : Int32) &&& 31).toUInt32).toInt32)), (.ref pa)])) rfl rfl (hb hby d6_9)) ?_
  show W p e below _ (T2.setTop (mkF m 10 #[.val (.ref r0), .val (.int p1)] [(.ref b)]))
  refine W.go (fun _ hr => XS.iloadN X2.here hx rfl (hb hby d6_10) rfl hr) ?_
  show W p e below _ (T2.setTop (mkF m 11 #[.val (.ref r0), .val (.int p1)] [(.int p1), (.ref b)]))
  refine W.go (fun _ hr => XS.sipush X2.here hx rfl (hb hby d6_11) hr) ?_
  show W p e below _ (T2.setTop (mkF m 14 #[.val (.ref r0), .val (.int p1)] [(.int (16383 : Int32)), (.int p1), (.ref b)]))
  refine W.go (fun _ hr => XS.iand X2.here hx rfl (hb hby d6_14) rfl hr) ?_
  show W p e below _ (T2.setTop (mkF m 15 #[.val (.ref r0), .val (.int p1)] [(.int (p1 &&& (16383 : Int32))), (.ref b)]))
  refine W.go (X2.iaload hx (j := (p1 &&& (16383 : Int32))) (v := (.int z)) (by rw [e2]; exact Ab.1) (State.isArrayOf_alike hZ.alike Ab.2.1) Ab.2.2 hin hat (g := (mkF m 15 #[.val (.ref r0), .val (.int p1)] [(.int (p1 &&& (16383 : Int32))), (.ref b)])) rfl rfl (hb hby d6_15)) ?_
  show W p e below _ (T2.setTop (mkF m 16 #[.val (.ref r0), .val (.int p1)] [(.int z)]))
  exact W.retI X2 hx hlk hret (hb hby d6_16) (by decide) (by decide) e2 ⟨rfl, N0, rfl⟩
theorem d5_0 : decode prog_2_method_4_code 0 = .ok (.aload_n 0, 1) := by decide +kernel
theorem d5_1 : decode prog_2_method_4_code 1 = .ok (.getfield 29, 3) := by decide +kernel
theorem d5_4 : decode prog_2_method_4_code 4 = .ok (.iload_n 1, 1) := by decide +kernel
theorem d5_5 : decode prog_2_method_4_code 5 = .ok (.getstatic 24, 3) := by decide +kernel
theorem d5_8 : decode prog_2_method_4_code 8 = .ok (.iushr, 1) := by decide +kernel
theorem d5_9 : decode prog_2_method_4_code 9 = .ok (.aaload, 1) := by decide +kernel
theorem d5_10 : decode prog_2_method_4_code 10 = .ok (.iload_n 1, 1) := by decide +kernel
theorem d5_11 : decode prog_2_method_4_code 11 = .ok (.sipush 16383, 3) := by decide +kernel
theorem d5_14 : decode prog_2_method_4_code 14 = .ok (.iand, 1) := by decide +kernel
theorem d5_15 : decode prog_2_method_4_code 15 = .ok (.iload_n 2, 1) := by decide +kernel
theorem d5_16 : decode prog_2_method_4_code 16 = .ok (.iastore, 1) := by decide +kernel
theorem d5_17 : decode prog_2_method_4_code 17 = .ok (.return_, 1) := by decide +kernel
def Q_rm5 (Z : State) (r0 : Addr) (p1 : Int32) (p2 : Int32) (n : Int32) (F : Nat → Int32) (h0 : Heap) (n0 : Nat) (v : Option Value) (h : Heap) (L : List Loc) : Prop := v = none ∧ Fr n0 L ∧ Exa Z h r0 "com/example/parleyd/parleyd/core/IntPages" ∧ Sta Z h "com/example/parleyd/parleyd/core/IntPages" "SHIFT" "I" (.int (14 : Int32)) ∧ h0.size ≤ h.size ∧ Pages Z h n0 r0 n (fun x => if x = p1.toNatClampNeg then p2 else F x)
set_option maxRecDepth 65536 in
set_option maxHeartbeats 40000000 in
theorem rm5 (l : Launch) (Z : State) (a0 : Array Value) (hw : ∀ d ∈ tables_1, d.before a0 Z = true) (r0 : Addr) (p1 : Int32) (p2 : Int32) (n : Int32) (F : Nat → Int32) (h0 : Heap) (n0 : Nat) (Z0 : n0 ≤ h0.size) (H : Pages Z h0 n0 r0 n F) (hi : 0 ≤ p1.toInt ∧ p1.toInt < n.toInt) (E_r0 : Exa Z h0 r0 "com/example/parleyd/parleyd/core/IntPages") (S_SHIFT : Sta Z h0 "com/example/parleyd/parleyd/core/IntPages" "SHIFT" "I" (.int (14 : Int32))) :
    Ctr l Z (⟨"com/example/parleyd/parleyd/core/IntPages", "set", "(II)V"⟩ : MethodName) prog_2_method_4_code 3 none ({ frames := 0, cells := 0, slots := 0, locals := 0 } : Room) #[(.ref r0), (.int p1), (.int p2)] h0 (Q_rm5 Z r0 p1 p2 n F h0 n0) := by
  refine Ctr.body (fr := fun m => mkF m 0 #[.val (.ref r0), .val (.int p1), .val (.int p2)] []) (plainFor_of_name pn_com_example_parleyd_parleyd_core_IntPages) (fun m => by first | (simp [entryFrame, mkF, argsToLocals, Value.category]; done) | rfl) fun p e s m below meth c s₁ hx hby hml hZ hown hnm hret hlk X0 e0 => ?_
  have N0 := Fr.nil n0
  have hown : s.vm.findClass "com/example/parleyd/parleyd/core/IntPages" = some m.cls := hown
  obtain ⟨pa, kp, P, vs, b, cl, F_pages_r0, V_pa, hq, hbb, gb, Ab, hin, hat, hset⟩ := H.at p1 hi
  show W p e below _ (s₁.setTop (mkF m 0 #[.val (.ref r0), .val (.int p1), .val (.int p2)] []))
  refine W.go (fun _ hr => XS.aloadN X0.here hx rfl (hb hby d5_0) rfl rfl hr) ?_
  show W p e below _ (s₁.setTop (mkF m 1 #[.val (.ref r0), .val (.int p1), .val (.int p2)] [(.ref r0)]))
  obtain ⟨T1, X1, e1, st1⟩ := getF X0 hx hZ hown (host := "") (Or.inl (hw _ (List.mem_of_getElem? (i := 18) rfl))) Via.refl e0 F_pages_r0 (g := (mkF m 1 #[.val (.ref r0), .val (.int p1), .val (.int p2)] [(.ref r0)])) rfl rfl (hb hby d5_1)
  refine W.go st1 ?_
  show W p e below _ (T1.setTop (mkF m 4 #[.val (.ref r0), .val (.int p1), .val (.int p2)] [(.ref pa)]))
  refine W.go (fun _ hr => XS.iloadN X1.here hx rfl (hb hby d5_4) rfl hr) ?_
  show W p e below _ (T1.setTop (mkF m 5 #[.val (.ref r0), .val (.int p1), .val (.int p2)] [(.int p1), (.ref pa)]))
  obtain ⟨T2, X2, e2, st2⟩ := getS2 X1 hx hZ hown (host := "") (Or.inl (hw _ (List.mem_of_getElem? (i := 14) rfl))) Via.refl e1 S_SHIFT (g := (mkF m 5 #[.val (.ref r0), .val (.int p1), .val (.int p2)] [(.int p1), (.ref pa)])) rfl (hb hby d5_5)
  refine W.go st2 ?_
  show W p e below _ (T2.setTop (mkF m 8 #[.val (.ref r0), .val (.int p1), .val (.int p2)] [(.int (14 : Int32)), (.int p1), (.ref pa)]))
  refine W.go (fun _ hr => XS.iushr X2.here hx rfl (hb hby d5_8) rfl hr) ?_
  show W p e below _ (T2.setTop (mkF m 9 #[.val (.ref r0), .val (.int p1), .val (.int p2)] [(.int ((p1.toUInt32 >>> ((14 : Int32) &&& 31).toUInt32).toInt32)), (.ref pa)]))
  obtain ⟨cl3, Ar3, q3, S3, Nn3, H3, G3⟩ := id V_pa
  have hin3 : ¬ (((p1.toUInt32 >>> ((14 : Int32) &&& 31).toUInt32).toInt32) < 0 ∨ cl3.slots.size ≤ (((p1.toUInt32 >>> ((14 : Int32) &&& 31).toUInt32).toInt32)).toNatClampNeg) := inb_of S3 hq
  have hat3 : cl3.slots[(((p1.toUInt32 >>> ((14 : Int32) &&& 31).toUInt32).toInt32)).toNatClampNeg]? = some (.ref b) := H3.at hin3 hbb
  refine W.go (X2.aaload hx (j := ((p1.toUInt32 >>> ((14 : Int32) &&& 31).toUInt32).toInt32)) (v := (.ref b)) (by rw [e2]; exact Ar3.1) (State.isArrayOf_alike hZ.alike Ar3.2.1) rfl Ar3.2.2 hin3 hat3 (g := (mkF m 9 #[.val (.ref r0), .val (.int p1), .val (.int p2)] [(.int ((p1.toUInt32 >>> ((14 : Int32) &&& 31).toUInt32).toInt32)), (.ref pa)])) rfl rfl (hb hby d5_9)) ?_
  show W p e below _ (T2.setTop (mkF m 10 #[.val (.ref r0), .val (.int p1), .val (.int p2)] [(.ref b)]))
  refine W.go (fun _ hr => XS.iloadN X2.here hx rfl (hb hby d5_10) rfl hr) ?_
  show W p e below _ (T2.setTop (mkF m 11 #[.val (.ref r0), .val (.int p1), .val (.int p2)] [(.int p1), (.ref b)]))
  refine W.go (fun _ hr => XS.sipush X2.here hx rfl (hb hby d5_11) hr) ?_
  show W p e below _ (T2.setTop (mkF m 14 #[.val (.ref r0), .val (.int p1), .val (.int p2)] [(.int (16383 : Int32)), (.int p1), (.ref b)]))
  refine W.go (fun _ hr => XS.iand X2.here hx rfl (hb hby d5_14) rfl hr) ?_
  show W p e below _ (T2.setTop (mkF m 15 #[.val (.ref r0), .val (.int p1), .val (.int p2)] [(.int (p1 &&& (16383 : Int32))), (.ref b)]))
  refine W.go (fun _ hr => XS.iloadN X2.here hx rfl (hb hby d5_15) rfl hr) ?_
  show W p e below _ (T2.setTop (mkF m 16 #[.val (.ref r0), .val (.int p1), .val (.int p2)] [(.int p2), (.int (p1 &&& (16383 : Int32))), (.ref b)]))
  obtain ⟨T', h', X', e', Wr', st'⟩ := stI X2 hx hZ e2 Ab (j := (p1 &&& (16383 : Int32))) hin (g := (mkF m 16 #[.val (.ref r0), .val (.int p1), .val (.int p2)] [(.int p2), (.int (p1 &&& (16383 : Int32))), (.ref b)])) rfl rfl (hb hby d5_16)
  have N' := Fr.snoc X' N0 gb
  refine W.go st' ?_
  show W p e below _ (T'.setTop (mkF m 17 #[.val (.ref r0), .val (.int p1), .val (.int p2)] []))
  exact W.retV X' hx hlk hret (hb hby d5_17) (by decide) (by decide) e' ⟨rfl, N', E_r0.wr Wr', S_SHIFT.wr Wr', (Keep.of_wr Wr').1, hset _ _ Wr'⟩
theorem own_pages1 {Z : State} {h : Heap} {n0 : Nat} {o pa : Addr} {n f : Int32} {kp : ClassId} {b0 : Addr} (hn : 0 ≤ n.toInt ∧ n.toInt ≤ 16384) (Fp : Fld Z h o "com/example/parleyd/parleyd/core/IntPages" "pages" "[[I" (.ref pa)) (Fs : Fld Z h o "com/example/parleyd/parleyd/core/IntPages" "size" "I" (.int n)) (V : Arv Z h pa kp (.array .int) (1 : Int32) [(.ref b0)] .null) (H0 : Pg Z h n0 o pa n f 0 (.ref b0))  : Pages Z h n0 o n (fun _ => f) := by
  have hcap : n.toNatClampNeg ≤ (1 : Int32).toNatClampNeg * 16384 := by
    have e : (1 : Int32).toNatClampNeg = 1 := by decide
    rw [e]; simp only [Int32.toNatClampNeg]; omega
  refine ⟨pa, kp, _, _, Fp, Fs, V, hcap, fun q hq => ?_, fun q1 q2 h1 h2 => ?_⟩
  · have e : (1 : Int32).toNatClampNeg = 1 := by decide
    rw [e] at hq
    match q, hq with
    | 0, _ => exact H0.use hn.1
  · have e : (1 : Int32).toNatClampNeg = 1 := by decide
    rw [e] at h1 h2
    match q1, q2, h1, h2 with
    | 0, 0, _, _ => exact fun _ => rfl

theorem own_pages2 {Z : State} {h : Heap} {n0 : Nat} {o pa : Addr} {n f : Int32} {kp : ClassId} {b0 b1 : Addr} (hn : 0 ≤ n.toInt ∧ n.toInt ≤ 32768) (Fp : Fld Z h o "com/example/parleyd/parleyd/core/IntPages" "pages" "[[I" (.ref pa)) (Fs : Fld Z h o "com/example/parleyd/parleyd/core/IntPages" "size" "I" (.int n)) (V : Arv Z h pa kp (.array .int) (2 : Int32) [(.ref b0), (.ref b1)] .null) (H0 : Pg Z h n0 o pa n f 0 (.ref b0)) (H1 : Pg Z h n0 o pa n f 1 (.ref b1)) (ne0_1 : b0 ≠ b1) : Pages Z h n0 o n (fun _ => f) := by
  have hcap : n.toNatClampNeg ≤ (2 : Int32).toNatClampNeg * 16384 := by
    have e : (2 : Int32).toNatClampNeg = 2 := by decide
    rw [e]; simp only [Int32.toNatClampNeg]; omega
  refine ⟨pa, kp, _, _, Fp, Fs, V, hcap, fun q hq => ?_, fun q1 q2 h1 h2 => ?_⟩
  · have e : (2 : Int32).toNatClampNeg = 2 := by decide
    rw [e] at hq
    match q, hq with
    | 0, _ => exact H0.use hn.1
    | 1, _ => exact H1.use hn.1
  · have e : (2 : Int32).toNatClampNeg = 2 := by decide
    rw [e] at h1 h2
    match q1, q2, h1, h2 with
    | 0, 0, _, _ => exact fun _ => rfl
    | 0, 1, _, _ => exact fun q => absurd (Value.ref.inj q) ne0_1
    | 1, 0, _, _ => exact fun q => absurd (Value.ref.inj q) (Ne.symm ne0_1)
    | 1, 1, _, _ => exact fun _ => rfl

theorem own_pages3 {Z : State} {h : Heap} {n0 : Nat} {o pa : Addr} {n f : Int32} {kp : ClassId} {b0 b1 b2 : Addr} (hn : 0 ≤ n.toInt ∧ n.toInt ≤ 49152) (Fp : Fld Z h o "com/example/parleyd/parleyd/core/IntPages" "pages" "[[I" (.ref pa)) (Fs : Fld Z h o "com/example/parleyd/parleyd/core/IntPages" "size" "I" (.int n)) (V : Arv Z h pa kp (.array .int) (3 : Int32) [(.ref b0), (.ref b1), (.ref b2)] .null) (H0 : Pg Z h n0 o pa n f 0 (.ref b0)) (H1 : Pg Z h n0 o pa n f 1 (.ref b1)) (H2 : Pg Z h n0 o pa n f 2 (.ref b2)) (ne0_1 : b0 ≠ b1) (ne0_2 : b0 ≠ b2) (ne1_2 : b1 ≠ b2) : Pages Z h n0 o n (fun _ => f) := by
  have hcap : n.toNatClampNeg ≤ (3 : Int32).toNatClampNeg * 16384 := by
    have e : (3 : Int32).toNatClampNeg = 3 := by decide
    rw [e]; simp only [Int32.toNatClampNeg]; omega
  refine ⟨pa, kp, _, _, Fp, Fs, V, hcap, fun q hq => ?_, fun q1 q2 h1 h2 => ?_⟩
  · have e : (3 : Int32).toNatClampNeg = 3 := by decide
    rw [e] at hq
    match q, hq with
    | 0, _ => exact H0.use hn.1
    | 1, _ => exact H1.use hn.1
    | 2, _ => exact H2.use hn.1
  · have e : (3 : Int32).toNatClampNeg = 3 := by decide
    rw [e] at h1 h2
    match q1, q2, h1, h2 with
    | 0, 0, _, _ => exact fun _ => rfl
    | 0, 1, _, _ => exact fun q => absurd (Value.ref.inj q) ne0_1
    | 0, 2, _, _ => exact fun q => absurd (Value.ref.inj q) ne0_2
    | 1, 0, _, _ => exact fun q => absurd (Value.ref.inj q) (Ne.symm ne0_1)
    | 1, 1, _, _ => exact fun _ => rfl
    | 1, 2, _, _ => exact fun q => absurd (Value.ref.inj q) ne1_2
    | 2, 0, _, _ => exact fun q => absurd (Value.ref.inj q) (Ne.symm ne0_2)
    | 2, 1, _, _ => exact fun q => absurd (Value.ref.inj q) (Ne.symm ne1_2)
    | 2, 2, _, _ => exact fun _ => rfl

theorem own_np (p1 : Int32) (h : 1 ≤ p1.toInt ∧ p1.toInt ≤ 32775) : ((((((p1.toInt64) + (16384 : Int64)) - (1 : Int64)).toUInt64 >>> ((14 : Int32) &&& 0x3f).toInt64.toUInt64).toInt64.toInt32) = 1 ∧ 1 ≤ p1.toInt ∧ p1.toInt ≤ 16384) ∨ ((((((p1.toInt64) + (16384 : Int64)) - (1 : Int64)).toUInt64 >>> ((14 : Int32) &&& 0x3f).toInt64.toUInt64).toInt64.toInt32) = 2 ∧ 16385 ≤ p1.toInt ∧ p1.toInt ≤ 32768) ∨ ((((((p1.toInt64) + (16384 : Int64)) - (1 : Int64)).toUInt64 >>> ((14 : Int32) &&& 0x3f).toInt64.toUInt64).toInt64.toInt32) = 3 ∧ 32769 ≤ p1.toInt ∧ p1.toInt ≤ 49152) := by
  have q1 := c_lushr (((p1.toInt64) + (16384 : Int64)) - (1 : Int64)) 14 14 (by decide) (by decide)
  have q2 := c_lsub ((p1.toInt64) + (16384 : Int64)) 1
  have q3 := c_ladd (p1.toInt64) 16384
  have q4 := c_i2l p1
  have q5 := c_l2i ((((p1.toInt64) + (16384 : Int64)) - (1 : Int64)).toUInt64 >>> ((14 : Int32) &&& 0x3f).toInt64.toUInt64).toInt64
  have r1 := rng64 (((p1.toInt64) + (16384 : Int64)) - (1 : Int64))
  have r2 := rng64 ((p1.toInt64) + (16384 : Int64))
  have r3 := rng32 (((((p1.toInt64) + (16384 : Int64)) - (1 : Int64)).toUInt64 >>> ((14 : Int32) &&& 0x3f).toInt64.toUInt64).toInt64.toInt32)
  have e1 : (16384 : Int64).toInt = 16384 := rfl
  have e2 : (1 : Int64).toInt = 1 := rfl
  have f1 : (1 : Int32).toInt = 1 := rfl
  have f2 : (2 : Int32).toInt = 2 := rfl
  have f3 : (3 : Int32).toInt = 3 := rfl
  simp only [← Int32.toInt_inj, f1, f2, f3]
  generalize (((((p1.toInt64) + (16384 : Int64)) - (1 : Int64)).toUInt64 >>> ((14 : Int32) &&& 0x3f).toInt64.toUInt64).toInt64.toInt32).toInt = a at *
  generalize (((((p1.toInt64) + (16384 : Int64)) - (1 : Int64)).toUInt64 >>> ((14 : Int32) &&& 0x3f).toInt64.toUInt64).toInt64).toInt = b at *
  generalize ((((p1.toInt64) + (16384 : Int64)) - (1 : Int64))).toInt = c at *
  generalize ((p1.toInt64) + (16384 : Int64)).toInt = d at *
  omega
theorem own_minF (x : Int32) (h : 16384 ≤ x.toInt) : (16384 : Int32) = if x < (16384 : Int32) then x else (16384 : Int32) := by
  rw [if_neg]; rw [Int32.lt_iff_toInt_lt]; have e : (16384 : Int32).toInt = 16384 := rfl; omega
theorem own_minL (x : Int32) (h : x.toInt ≤ 16384) : x = if x < (16384 : Int32) then x else (16384 : Int32) := by
  have e : (16384 : Int32).toInt = 16384 := rfl
  by_cases q : x < (16384 : Int32)
  · rw [if_pos q]
  · rw [if_neg q]; rw [Int32.lt_iff_toInt_lt] at q; exact Int32.toInt_inj.mp (by omega)
theorem own_sub (p c : Int32) (h1 : 0 ≤ c.toInt ∧ c.toInt ≤ p.toInt) : (p - c).toInt = p.toInt - c.toInt := by
  have q := c_isub p c
  have r := rng32 (p - c)
  have r2 := rng32 p
  omega
theorem own_cap (x : Int32) (h : 0 ≤ x.toInt ∧ x.toInt ≤ 16384) : ¬ x < 0 ∧ x.toNatClampNeg ≤ 16384 := by
  simp only [Int32.lt_iff_toInt_lt, Int32.reduceToInt, Int32.toNatClampNeg]; omega
theorem d1_0 : decode prog_2_method_1_code 0 = .ok (.aload_n 0, 1) := by decide +kernel
theorem d1_1 : decode prog_2_method_1_code 1 = .ok (.invokespecial 1, 3) := by decide +kernel
theorem d1_4 : decode prog_2_method_1_code 4 = .ok (.iload_n 1, 1) := by decide +kernel
theorem d1_5 : decode prog_2_method_1_code 5 = .ok (.ifCond .ge 17, 3) := by decide +kernel
theorem d1_22 : decode prog_2_method_1_code 22 = .ok (.aload_n 0, 1) := by decide +kernel
theorem d1_23 : decode prog_2_method_1_code 23 = .ok (.iload_n 1, 1) := by decide +kernel
theorem d1_24 : decode prog_2_method_1_code 24 = .ok (.putfield 16, 3) := by decide +kernel
theorem d1_27 : decode prog_2_method_1_code 27 = .ok (.aload_n 0, 1) := by decide +kernel
theorem d1_28 : decode prog_2_method_1_code 28 = .ok (.iload_n 1, 1) := by decide +kernel
theorem d1_29 : decode prog_2_method_1_code 29 = .ok (.i2l, 1) := by decide +kernel
theorem d1_30 : decode prog_2_method_1_code 30 = .ok (.ldc2_w 22, 3) := by decide +kernel
theorem d1_33 : decode prog_2_method_1_code 33 = .ok (.ladd, 1) := by decide +kernel
theorem d1_34 : decode prog_2_method_1_code 34 = .ok (.lconst 1, 1) := by decide +kernel
theorem d1_35 : decode prog_2_method_1_code 35 = .ok (.lsub, 1) := by decide +kernel
theorem d1_36 : decode prog_2_method_1_code 36 = .ok (.getstatic 24, 3) := by decide +kernel
theorem d1_39 : decode prog_2_method_1_code 39 = .ok (.lushr, 1) := by decide +kernel
theorem d1_40 : decode prog_2_method_1_code 40 = .ok (.l2i, 1) := by decide +kernel
theorem d1_41 : decode prog_2_method_1_code 41 = .ok (.anewarray 27, 3) := by decide +kernel
theorem d1_44 : decode prog_2_method_1_code 44 = .ok (.putfield 29, 3) := by decide +kernel
theorem d1_47 : decode prog_2_method_1_code 47 = .ok (.iconst 0, 1) := by decide +kernel
theorem d1_48 : decode prog_2_method_1_code 48 = .ok (.istore_n 3, 1) := by decide +kernel
theorem d1_49 : decode prog_2_method_1_code 49 = .ok (.iload_n 3, 1) := by decide +kernel
theorem d1_50 : decode prog_2_method_1_code 50 = .ok (.aload_n 0, 1) := by decide +kernel
theorem d1_51 : decode prog_2_method_1_code 51 = .ok (.getfield 29, 3) := by decide +kernel
theorem d1_54 : decode prog_2_method_1_code 54 = .ok (.arraylength, 1) := by decide +kernel
theorem d1_55 : decode prog_2_method_1_code 55 = .ok (.if_icmp .ge 44, 3) := by decide +kernel
theorem d1_58 : decode prog_2_method_1_code 58 = .ok (.aload_n 0, 1) := by decide +kernel
theorem d1_59 : decode prog_2_method_1_code 59 = .ok (.getfield 29, 3) := by decide +kernel
theorem d1_62 : decode prog_2_method_1_code 62 = .ok (.iload_n 3, 1) := by decide +kernel
theorem d1_63 : decode prog_2_method_1_code 63 = .ok (.sipush 16384, 3) := by decide +kernel
theorem d1_66 : decode prog_2_method_1_code 66 = .ok (.iload_n 1, 1) := by decide +kernel
theorem d1_67 : decode prog_2_method_1_code 67 = .ok (.iload_n 3, 1) := by decide +kernel
theorem d1_68 : decode prog_2_method_1_code 68 = .ok (.getstatic 24, 3) := by decide +kernel
theorem d1_71 : decode prog_2_method_1_code 71 = .ok (.ishl, 1) := by decide +kernel
theorem d1_72 : decode prog_2_method_1_code 72 = .ok (.isub, 1) := by decide +kernel
theorem d1_73 : decode prog_2_method_1_code 73 = .ok (.invokestatic 33, 3) := by decide +kernel
theorem pd_86 : parseMethodDescriptor "(II)I" = some ⟨[.int, .int], some .int⟩ := by decide +kernel
theorem d1_76 : decode prog_2_method_1_code 76 = .ok (.newarray .int, 2) := by decide +kernel
theorem d1_78 : decode prog_2_method_1_code 78 = .ok (.aastore, 1) := by decide +kernel
theorem d1_79 : decode prog_2_method_1_code 79 = .ok (.iload_n 2, 1) := by decide +kernel
theorem d1_80 : decode prog_2_method_1_code 80 = .ok (.ifCond .eq 13, 3) := by decide +kernel
theorem d1_93 : decode prog_2_method_1_code 93 = .ok (.iinc 3 1, 3) := by decide +kernel
theorem d1_96 : decode prog_2_method_1_code 96 = .ok (.goto (-47), 3) := by decide +kernel
theorem d1_99 : decode prog_2_method_1_code 99 = .ok (.return_, 1) := by decide +kernel
theorem d1_83 : decode prog_2_method_1_code 83 = .ok (.aload_n 0, 1) := by decide +kernel
theorem d1_84 : decode prog_2_method_1_code 84 = .ok (.getfield 29, 3) := by decide +kernel
theorem d1_87 : decode prog_2_method_1_code 87 = .ok (.iload_n 3, 1) := by decide +kernel
theorem d1_88 : decode prog_2_method_1_code 88 = .ok (.aaload, 1) := by decide +kernel
theorem d1_89 : decode prog_2_method_1_code 89 = .ok (.iload_n 2, 1) := by decide +kernel
theorem d1_90 : decode prog_2_method_1_code 90 = .ok (.invokestatic 39, 3) := by decide +kernel
theorem pd_100 : parseMethodDescriptor "([II)V" = some ⟨[(.array .int), .int], none⟩ := by decide +kernel
def Q_rm1 (Z : State) (r0 : Addr) (p1 : Int32) (p2 : Int32) (h0 : Heap) (n0 : Nat) (v : Option Value) (h : Heap) (L : List Loc) : Prop := v = none ∧ Fr n0 L ∧ Exa Z h r0 "com/example/parleyd/parleyd/core/IntPages" ∧ Sta Z h "com/example/parleyd/parleyd/core/IntPages" "SHIFT" "I" (.int (14 : Int32)) ∧ h0.size ≤ h.size ∧ Pages Z h n0 r0 p1 (fun _ => p2)
set_option maxRecDepth 65536 in
set_option maxHeartbeats 40000000 in
theorem rm1 (l : Launch) (Z : State) (a0 : Array Value) (hw : ∀ d ∈ tables_1, d.before a0 Z = true) (r0 : Addr) (p1 : Int32) (p2 : Int32) (h0 : Heap) (n0 : Nat) (Z0 : n0 ≤ h0.size) (E_r0 : Exa Z h0 r0 "com/example/parleyd/parleyd/core/IntPages") (F_size_r0 : Fld Z h0 r0 "com/example/parleyd/parleyd/core/IntPages" "size" "I" (.int (0 : Int32))) (F_pages_r0 : Fld Z h0 r0 "com/example/parleyd/parleyd/core/IntPages" "pages" "[[I" .null) (g_r0 : n0 ≤ r0) (S_SHIFT : Sta Z h0 "com/example/parleyd/parleyd/core/IntPages" "SHIFT" "I" (.int (14 : Int32))) (hp : 1 ≤ p1.toInt ∧ p1.toInt ≤ 32775) :
    Ctr l Z (⟨"com/example/parleyd/parleyd/core/IntPages", "<init>", "(II)V"⟩ : MethodName) prog_2_method_1_code 4 none ({ frames := 1, cells := 4, slots := 49155, locals := 15 } : Room) #[(.ref r0), (.int p1), (.int p2)] h0 (Q_rm1 Z r0 p1 p2 h0 n0) := by
  refine Ctr.body (fr := fun m => mkF m 0 #[.val (.ref r0), .val (.int p1), .val (.int p2), .unset] []) (plainFor_of_name pn_com_example_parleyd_parleyd_core_IntPages) (fun m => by first | (simp [entryFrame, mkF, argsToLocals, Value.category]; done) | rfl) fun p e s m below meth c s₁ hx hby hml hZ hown hnm hret hlk X0 e0 => ?_
  have N0 := Fr.nil n0
  have hown : s.vm.findClass "com/example/parleyd/parleyd/core/IntPages" = some m.cls := hown
  have KC : Keep h0 h0 [r0] := Keep.refl _ _
  show W p e below _ (s₁.setTop (mkF m 0 #[.val (.ref r0), .val (.int p1), .val (.int p2), .unset] []))
  refine W.go (fun _ hr => XS.aloadN X0.here hx rfl (hb hby d1_0) rfl rfl hr) ?_
  show W p e below _ (s₁.setTop (mkF m 1 #[.val (.ref r0), .val (.int p1), .val (.int p2), .unset] [(.ref r0)]))
  obtain ⟨T1, X1, e1, st1⟩ := initO X0 hx hZ hown (hw _ (List.mem_of_getElem? (i := 8) rfl)) (hw _ (List.mem_of_getElem? (i := 9) rfl)) (hw _ (List.mem_of_getElem? (i := 10) rfl)) e0 (g := (mkF m 1 #[.val (.ref r0), .val (.int p1), .val (.int p2), .unset] [(.ref r0)])) rfl (by rw [hml]; rfl) rfl (hb hby d1_1) (by decide) (W := 0) (by show 2 * 0 + _ ≤ _; exact Nat.le_of_eq rfl) (by decide)
  refine W.go st1 ?_
  show W p e below _ (T1.setTop (mkF m 4 #[.val (.ref r0), .val (.int p1), .val (.int p2), .unset] []))
  refine W.go (fun _ hr => XS.iloadN X1.here hx rfl (hb hby d1_4) rfl hr) ?_
  show W p e below _ (T1.setTop (mkF m 5 #[.val (.ref r0), .val (.int p1), .val (.int p2), .unset] [(.int p1)]))
  refine W.go (fun _ hr => XS.ifYes X1.here hx rfl (pc0 := 5) (pc' := 22) rfl (hb hby d1_5) rfl ((if0 _ _).trans (flt ((by rw [Int32.lt_iff_toInt_lt]; have e0 : (0 : Int32).toInt = 0 := rfl; omega) : ¬ (p1 < (0 : Int32)))).2.1) (by decide) (by decide) hr) ?_
  show W p e below _ (T1.setTop (mkF m 22 #[.val (.ref r0), .val (.int p1), .val (.int p2), .unset] []))
  refine W.go (fun _ hr => XS.aloadN X1.here hx rfl (hb hby d1_22) rfl rfl hr) ?_
  show W p e below _ (T1.setTop (mkF m 23 #[.val (.ref r0), .val (.int p1), .val (.int p2), .unset] [(.ref r0)]))
  refine W.go (fun _ hr => XS.iloadN X1.here hx rfl (hb hby d1_23) rfl hr) ?_
  show W p e below _ (T1.setTop (mkF m 24 #[.val (.ref r0), .val (.int p1), .val (.int p2), .unset] [(.int p1), (.ref r0)]))
  obtain ⟨T2, h2, X2, e2, W2, st2⟩ := putF X1 hx hZ hown (host := "") (Or.inl (hw _ (List.mem_of_getElem? (i := 11) rfl))) Via.refl e1 F_size_r0 E_r0 (Or.inr ⟨(hw _ (List.mem_of_getElem? (i := 12) rfl)), rfl, hnm⟩) (hw _ (List.mem_of_getElem? (i := 3) rfl)) (ty := .int) (by decide) rfl rfl (g := (mkF m 24 #[.val (.ref r0), .val (.int p1), .val (.int p2), .unset] [(.int p1), (.ref r0)])) rfl rfl (hb hby d1_24)
  refine W.go st2 ?_
  replace E_r0 := E_r0.wr W2
  replace F_size_r0 := F_size_r0.same W2
  replace F_pages_r0 := F_pages_r0.other W2 (Or.inr (slot_ne (Or.inr (hw _ (List.mem_of_getElem? (i := 19) rfl))) (Or.inr (hw _ (List.mem_of_getElem? (i := 12) rfl))) (by decide) (t := (.array (.array .int))) (t' := .int) (by decide) (by decide)))
  replace S_SHIFT := Sta.wr W2 S_SHIFT
  have Z3 : n0 ≤ h2.size := Nat.le_trans Z0 (Keep.of_wr W2).1
  replace KC := KC.wr W2 (Or.inl (List.mem_of_getElem? (i := 0) rfl))
  have N2 := Fr.snoc X2 N0 g_r0
  show W p e below _ (T2.setTop (mkF m 27 #[.val (.ref r0), .val (.int p1), .val (.int p2), .unset] []))
  refine W.go (fun _ hr => XS.aloadN X2.here hx rfl (hb hby d1_27) rfl rfl hr) ?_
  show W p e below _ (T2.setTop (mkF m 28 #[.val (.ref r0), .val (.int p1), .val (.int p2), .unset] [(.ref r0)]))
  refine W.go (fun _ hr => XS.iloadN X2.here hx rfl (hb hby d1_28) rfl hr) ?_
  show W p e below _ (T2.setTop (mkF m 29 #[.val (.ref r0), .val (.int p1), .val (.int p2), .unset] [(.int p1), (.ref r0)]))
  refine W.go (fun _ hr => XS.i2l X2.here hx rfl (hb hby d1_29) rfl hr) ?_
  show W p e below _ (T2.setTop (mkF m 30 #[.val (.ref r0), .val (.int p1), .val (.int p2), .unset] [(.long (p1.toInt64)), (.ref r0)]))
  refine W.go (X2.ldc2Long hx hown (mvT hZ (hw _ (List.mem_of_getElem? (i := 13) rfl))) (g := (mkF m 30 #[.val (.ref r0), .val (.int p1), .val (.int p2), .unset] [(.long (p1.toInt64)), (.ref r0)])) rfl (hb hby d1_30)) ?_
  show W p e below _ (T2.setTop (mkF m 33 #[.val (.ref r0), .val (.int p1), .val (.int p2), .unset] [(.long (16384 : Int64)), (.long (p1.toInt64)), (.ref r0)]))
  refine W.go (fun _ hr => XS.ladd X2.here hx rfl (hb hby d1_33) rfl hr) ?_
  show W p e below _ (T2.setTop (mkF m 34 #[.val (.ref r0), .val (.int p1), .val (.int p2), .unset] [(.long ((p1.toInt64) + (16384 : Int64))), (.ref r0)]))
  refine W.go (fun _ hr => XS.lconst X2.here hx rfl (hb hby d1_34) hr) ?_
  show W p e below _ (T2.setTop (mkF m 35 #[.val (.ref r0), .val (.int p1), .val (.int p2), .unset] [(.long (1 : Int64)), (.long ((p1.toInt64) + (16384 : Int64))), (.ref r0)]))
  refine W.go (fun _ hr => XS.lsub X2.here hx rfl (hb hby d1_35) rfl hr) ?_
  show W p e below _ (T2.setTop (mkF m 36 #[.val (.ref r0), .val (.int p1), .val (.int p2), .unset] [(.long (((p1.toInt64) + (16384 : Int64)) - (1 : Int64))), (.ref r0)]))
  obtain ⟨T4, X4, e4, st4⟩ := getS2 X2 hx hZ hown (host := "") (Or.inl (hw _ (List.mem_of_getElem? (i := 14) rfl))) Via.refl e2 S_SHIFT (g := (mkF m 36 #[.val (.ref r0), .val (.int p1), .val (.int p2), .unset] [(.long (((p1.toInt64) + (16384 : Int64)) - (1 : Int64))), (.ref r0)])) rfl (hb hby d1_36)
  refine W.go st4 ?_
  show W p e below _ (T4.setTop (mkF m 39 #[.val (.ref r0), .val (.int p1), .val (.int p2), .unset] [(.int (14 : Int32)), (.long (((p1.toInt64) + (16384 : Int64)) - (1 : Int64))), (.ref r0)]))
  refine W.go (fun _ hr => XS.lushr X4.here hx rfl (hb hby d1_39) rfl hr) ?_
  show W p e below _ (T4.setTop (mkF m 40 #[.val (.ref r0), .val (.int p1), .val (.int p2), .unset] [(.long (((((p1.toInt64) + (16384 : Int64)) - (1 : Int64)).toUInt64 >>> ((14 : Int32) &&& 0x3f).toInt64.toUInt64).toInt64)), (.ref r0)]))
  refine W.go (fun _ hr => XS.l2i X4.here hx rfl (hb hby d1_40) rfl hr) ?_
  show W p e below _ (T4.setTop (mkF m 41 #[.val (.ref r0), .val (.int p1), .val (.int p2), .unset] [(.int ((((((p1.toInt64) + (16384 : Int64)) - (1 : Int64)).toUInt64 >>> ((14 : Int32) &&& 0x3f).toInt64.toUInt64).toInt64).toInt32)), (.ref r0)]))
  rcases own_np p1 hp with ⟨qP, l1, l2⟩ | ⟨qP, l1, l2⟩ | ⟨qP, l1, l2⟩
  · rw [qP]
    show W p e below _ (T4.setTop (mkF m 41 #[.val (.ref r0), .val (.int p1), .val (.int p2), .unset] [(.int (1 : Int32)), (.ref r0)]))
    obtain ⟨T5, h5, k5, X5, e5, E5, A5, E_b5, O_b5, st5⟩ := newRA X4 hx hZ (ty := .int) hown rfl (hw _ (List.mem_of_getElem? (i := 16) rfl)) (hw _ (List.mem_of_getElem? (i := 17) rfl)) e4 (g := (mkF m 41 #[.val (.ref r0), .val (.int p1), .val (.int p2), .unset] [(.int (1 : Int32)), (.ref r0)])) rfl (hb hby d1_41) rfl (by decide) (cap := 1) (by decide) (by decide) (by decide) (by decide) (ad := "[[I") (by decide)
    obtain ⟨b5, g5⟩ : ∃ z, z = h2.size := ⟨_, rfl⟩
    rw [← g5] at A5 E_b5 st5
    have ne_r0_b5 : r0 ≠ b5 := Nat.ne_of_lt (Nat.lt_of_lt_of_le E_r0.lt (Nat.le_of_eq g5.symm))
    have g_b5 : n0 ≤ b5 := Nat.le_trans Z3 (Nat.le_of_eq g5.symm)
    have sz_b5 : h0.size ≤ b5 := Nat.le_trans KC.1 (Nat.le_of_eq g5.symm)
    replace E_r0 := E_r0.ext E5
    replace F_size_r0 := F_size_r0.ext E5
    replace F_pages_r0 := F_pages_r0.ext E5
    replace S_SHIFT := Sta.ext E5 S_SHIFT
    have Z6 : n0 ≤ h5.size := Nat.le_trans Z3 E5.1
    replace KC := KC.ext E5
    have V_b5 : Arv Z h5 b5 k5 (.array .int) (1 : Int32) [.null] .null := (Arv.new A5 (by decide)).pad (pad_rep [] .null 1)
    refine W.go st5 ?_
    show W p e below _ (T5.setTop (mkF m 44 #[.val (.ref r0), .val (.int p1), .val (.int p2), .unset] [(.ref b5), (.ref r0)]))
    obtain ⟨T7, h7, X7, e7, W7, st7⟩ := putF X5 hx hZ hown (host := "") (Or.inl (hw _ (List.mem_of_getElem? (i := 18) rfl))) Via.refl e5 F_pages_r0 E_r0 (Or.inr ⟨(hw _ (List.mem_of_getElem? (i := 19) rfl)), rfl, hnm⟩) (hw _ (List.mem_of_getElem? (i := 3) rfl)) (ty := (.array (.array .int))) (by decide) rfl rfl (g := (mkF m 44 #[.val (.ref r0), .val (.int p1), .val (.int p2), .unset] [(.ref b5), (.ref r0)])) rfl rfl (hb hby d1_44)
    refine W.go st7 ?_
    replace E_r0 := E_r0.wr W7
    replace F_size_r0 := F_size_r0.other W7 (Or.inr (slot_ne (Or.inr (hw _ (List.mem_of_getElem? (i := 12) rfl))) (Or.inr (hw _ (List.mem_of_getElem? (i := 19) rfl))) (by decide) (t := .int) (t' := (.array (.array .int))) (by decide) (by decide)))
    replace F_pages_r0 := F_pages_r0.same W7
    replace S_SHIFT := Sta.wr W7 S_SHIFT
    replace E_b5 := E_b5.wr W7
    replace V_b5 := V_b5.other W7 (Ne.symm ne_r0_b5)
    have Z8 : n0 ≤ h7.size := Nat.le_trans Z6 (Keep.of_wr W7).1
    replace KC := KC.wr W7 (Or.inl (List.mem_of_getElem? (i := 0) rfl))
    have N7 := Fr.snoc X7 N2 g_r0
    show W p e below _ (T7.setTop (mkF m 47 #[.val (.ref r0), .val (.int p1), .val (.int p2), .unset] []))
    refine W.go (fun _ hr => XS.iconst X7.here hx rfl (hb hby d1_47) hr) ?_
    show W p e below _ (T7.setTop (mkF m 48 #[.val (.ref r0), .val (.int p1), .val (.int p2), .unset] [(.int (0 : Int32))]))
    refine W.go (fun _ hr => XS.istoreN X7.here hx rfl (hb hby d1_48) rfl (l' := #[.val (.ref r0), .val (.int p1), .val (.int p2), .val (.int (0 : Int32))]) rfl hr) ?_
    show W p e below _ (T7.setTop (mkF m 49 #[.val (.ref r0), .val (.int p1), .val (.int p2), .val (.int (0 : Int32))] []))
    refine W.go (fun _ hr => XS.iloadN X7.here hx rfl (hb hby d1_49) rfl hr) ?_
    show W p e below _ (T7.setTop (mkF m 50 #[.val (.ref r0), .val (.int p1), .val (.int p2), .val (.int (0 : Int32))] [(.int (0 : Int32))]))
    refine W.go (fun _ hr => XS.aloadN X7.here hx rfl (hb hby d1_50) rfl rfl hr) ?_
    show W p e below _ (T7.setTop (mkF m 51 #[.val (.ref r0), .val (.int p1), .val (.int p2), .val (.int (0 : Int32))] [(.ref r0), (.int (0 : Int32))]))
    obtain ⟨T9, X9, e9, st9⟩ := getF X7 hx hZ hown (host := "") (Or.inl (hw _ (List.mem_of_getElem? (i := 18) rfl))) Via.refl e7 F_pages_r0 (g := (mkF m 51 #[.val (.ref r0), .val (.int p1), .val (.int p2), .val (.int (0 : Int32))] [(.ref r0), (.int (0 : Int32))])) rfl rfl (hb hby d1_51)
    refine W.go st9 ?_
    show W p e below _ (T9.setTop (mkF m 54 #[.val (.ref r0), .val (.int p1), .val (.int p2), .val (.int (0 : Int32))] [(.ref b5), (.int (0 : Int32))]))
    obtain ⟨cl10, Ar10, q10, S10, Nn10, H10, G10⟩ := id V_b5
    refine W.go (X9.arraylength hx (by rw [e9]; exact Ar10.1) (State.isArrayOf_alike hZ.alike Ar10.2.1) (g := (mkF m 54 #[.val (.ref r0), .val (.int p1), .val (.int p2), .val (.int (0 : Int32))] [(.ref b5), (.int (0 : Int32))])) rfl rfl (hb hby d1_54)) ?_
    rw [len_of S10 Nn10]
    show W p e below _ (T9.setTop (mkF m 55 #[.val (.ref r0), .val (.int p1), .val (.int p2), .val (.int (0 : Int32))] [(.int (1 : Int32)), (.int (0 : Int32))]))
    refine W.go (fun _ hr => XS.icmpNo X9.here hx rfl (hb hby d1_55) rfl (tlt (by decide : ((0 : Int32) < (1 : Int32)))).2.1 hr) ?_
    show W p e below _ (T9.setTop (mkF m 58 #[.val (.ref r0), .val (.int p1), .val (.int p2), .val (.int (0 : Int32))] []))
    refine W.go (fun _ hr => XS.aloadN X9.here hx rfl (hb hby d1_58) rfl rfl hr) ?_
    show W p e below _ (T9.setTop (mkF m 59 #[.val (.ref r0), .val (.int p1), .val (.int p2), .val (.int (0 : Int32))] [(.ref r0)]))
    obtain ⟨T11, X11, e11, st11⟩ := getF X9 hx hZ hown (host := "") (Or.inl (hw _ (List.mem_of_getElem? (i := 18) rfl))) Via.refl e9 F_pages_r0 (g := (mkF m 59 #[.val (.ref r0), .val (.int p1), .val (.int p2), .val (.int (0 : Int32))] [(.ref r0)])) rfl rfl (hb hby d1_59)
    refine W.go st11 ?_
    show W p e below _ (T11.setTop (mkF m 62 #[.val (.ref r0), .val (.int p1), .val (.int p2), .val (.int (0 : Int32))] [(.ref b5)]))
    refine W.go (fun _ hr => XS.iloadN X11.here hx rfl (hb hby d1_62) rfl hr) ?_
    show W p e below _ (T11.setTop (mkF m 63 #[.val (.ref r0), .val (.int p1), .val (.int p2), .val (.int (0 : Int32))] [(.int (0 : Int32)), (.ref b5)]))
    refine W.go (fun _ hr => XS.sipush X11.here hx rfl (hb hby d1_63) hr) ?_
    show W p e below _ (T11.setTop (mkF m 66 #[.val (.ref r0), .val (.int p1), .val (.int p2), .val (.int (0 : Int32))] [(.int (16384 : Int32)), (.int (0 : Int32)), (.ref b5)]))
    refine W.go (fun _ hr => XS.iloadN X11.here hx rfl (hb hby d1_66) rfl hr) ?_
    show W p e below _ (T11.setTop (mkF m 67 #[.val (.ref r0), .val (.int p1), .val (.int p2), .val (.int (0 : Int32))] [(.int p1), (.int (16384 : Int32)), (.int (0 : Int32)), (.ref b5)]))
    refine W.go (fun _ hr => XS.iloadN X11.here hx rfl (hb hby d1_67) rfl hr) ?_
    show W p e below _ (T11.setTop (mkF m 68 #[.val (.ref r0), .val (.int p1), .val (.int p2), .val (.int (0 : Int32))] [(.int (0 : Int32)), (.int p1), (.int (16384 : Int32)), (.int (0 : Int32)), (.ref b5)]))
    obtain ⟨T12, X12, e12, st12⟩ := getS2 X11 hx hZ hown (host := "") (Or.inl (hw _ (List.mem_of_getElem? (i := 14) rfl))) Via.refl e11 S_SHIFT (g := (mkF m 68 #[.val (.ref r0), .val (.int p1), .val (.int p2), .val (.int (0 : Int32))] [(.int (0 : Int32)), (.int p1), (.int (16384 : Int32)), (.int (0 : Int32)), (.ref b5)])) rfl (hb hby d1_68)
    refine W.go st12 ?_
    show W p e below _ (T12.setTop (mkF m 71 #[.val (.ref r0), .val (.int p1), .val (.int p2), .val (.int (0 : Int32))] [(.int (14 : Int32)), (.int (0 : Int32)), (.int p1), (.int (16384 : Int32)), (.int (0 : Int32)), (.ref b5)]))
    refine W.go (fun _ hr => XS.ishl X12.here hx rfl (hb hby d1_71) rfl hr) ?_
    show W p e below _ (T12.setTop (mkF m 72 #[.val (.ref r0), .val (.int p1), .val (.int p2), .val (.int (0 : Int32))] [(.int ((0 : Int32) <<< ((14 : Int32) &&& 31))), (.int p1), (.int (16384 : Int32)), (.int (0 : Int32)), (.ref b5)]))
    rw [show ((0 : Int32) <<< ((14 : Int32) &&& 31)) = (0 : Int32) from by decide]
    show W p e below _ (T12.setTop (mkF m 72 #[.val (.ref r0), .val (.int p1), .val (.int p2), .val (.int (0 : Int32))] [(.int (0 : Int32)), (.int p1), (.int (16384 : Int32)), (.int (0 : Int32)), (.ref b5)]))
    refine W.go (fun _ hr => XS.isub X12.here hx rfl (hb hby d1_72) rfl hr) ?_
    show W p e below _ (T12.setTop (mkF m 73 #[.val (.ref r0), .val (.int p1), .val (.int p2), .val (.int (0 : Int32))] [(.int (p1 - (0 : Int32))), (.int (16384 : Int32)), (.int (0 : Int32)), (.ref b5)]))
    rw [show (p1 - (0 : Int32)) = p1 from by simp]
    show W p e below _ (T12.setTop (mkF m 73 #[.val (.ref r0), .val (.int p1), .val (.int p2), .val (.int (0 : Int32))] [(.int p1), (.int (16384 : Int32)), (.int (0 : Int32)), (.ref b5)]))
    have sb0 : (p1).toInt = p1.toInt - 0 := by omega
    refine W.callS X12 hx hZ hown (g := (mkF m 73 #[.val (.ref r0), .val (.int p1), .val (.int p2), .val (.int (0 : Int32))] [(.int p1), (.int (16384 : Int32)), (.int (0 : Int32)), (.ref b5)])) (by rw [hml]; rfl) (hw _ (List.mem_of_getElem? (i := 20) rfl)) (hw _ (List.mem_of_getElem? (i := 21) rfl)) (hw _ (List.mem_of_getElem? (i := 22) rfl)) (hw _ (List.mem_of_getElem? (i := 23) rfl)) e12 (rm3 l Z a0 hw (16384 : Int32) p1 p1 h7 n0 Z8 (own_minL _ (by omega))) (by decide) pd_86 rfl (argsL := [(.int (16384 : Int32)), (.int p1)]) (rest := [(.int (0 : Int32)), (.ref b5)]) rfl rfl rfl (hb hby d1_73) (W0 := 2) rfl (by decide) (by decide) (by decide) (by decide) (fun v13 T13 h13 L13 X13 e13 hQ13 => ?_)
    obtain ⟨rfl, N13q, hh13⟩ := hQ13
    obtain rfl := hh13.symm
    have N13 := Fr.app N7 N13q
    show W p e below _ (T13.setTop (mkF m 76 #[.val (.ref r0), .val (.int p1), .val (.int p2), .val (.int (0 : Int32))] [(.int p1), (.int (0 : Int32)), (.ref b5)]))
    obtain ⟨T14, h14, k14, X14, e14, E14, A14, E_b14, st14⟩ := newPE X13 hx hZ (hw _ (List.mem_of_getElem? (i := 24) rfl)) e13 (g := (mkF m 76 #[.val (.ref r0), .val (.int p1), .val (.int p2), .val (.int (0 : Int32))] [(.int p1), (.int (0 : Int32)), (.ref b5)])) rfl (hb hby d1_76) rfl (own_cap _ (by omega)).1 (cap := 16384) (own_cap _ (by omega)).2 (by decide) (by decide) (by decide) (ad := "[I") (by decide)
    obtain ⟨b14, g14⟩ : ∃ z, z = h7.size := ⟨_, rfl⟩
    rw [← g14] at A14 E_b14 st14
    have ne_r0_b14 : r0 ≠ b14 := Nat.ne_of_lt (Nat.lt_of_lt_of_le E_r0.lt (Nat.le_of_eq g14.symm))
    have ne_b5_b14 : b5 ≠ b14 := Nat.ne_of_lt (Nat.lt_of_lt_of_le E_b5.lt (Nat.le_of_eq g14.symm))
    have g_b14 : n0 ≤ b14 := Nat.le_trans Z8 (Nat.le_of_eq g14.symm)
    have sz_b14 : h0.size ≤ b14 := Nat.le_trans KC.1 (Nat.le_of_eq g14.symm)
    replace E_r0 := E_r0.ext E14
    replace F_size_r0 := F_size_r0.ext E14
    replace F_pages_r0 := F_pages_r0.ext E14
    replace S_SHIFT := Sta.ext E14 S_SHIFT
    replace E_b5 := E_b5.ext E14
    replace V_b5 := V_b5.ext E14
    have Z15 : n0 ≤ h14.size := Nat.le_trans Z8 E14.1
    replace KC := KC.ext E14
    have V_b14 : Arv Z h14 b14 k14 .int p1 [] (.int (0 : Int32)) := Arv.new A14 (own_cap _ (by omega)).1
    refine W.go st14 ?_
    show W p e below _ (T14.setTop (mkF m 78 #[.val (.ref r0), .val (.int p1), .val (.int p2), .val (.int (0 : Int32))] [(.ref b14), (.int (0 : Int32)), (.ref b5)]))
    obtain ⟨cl16, Ar16, q16, S16, Nn16, H16, G16⟩ := V_b5
    have hin16 : ¬ ((0 : Int32) < 0 ∨ cl16.slots.size ≤ ((0 : Int32)).toNatClampNeg) := inb_of S16 ⟨by decide, by decide⟩
    obtain ⟨T16, h16, X16, e16, W16, st16⟩ := stR X14 hx hZ e14 Ar16 (j := (0 : Int32)) hin16 rfl (Sto.ofVA Ar16 q16 O_b5 (Ins.self E_b14)) (g := (mkF m 78 #[.val (.ref r0), .val (.int p1), .val (.int p2), .val (.int (0 : Int32))] [(.ref b14), (.int (0 : Int32)), (.ref b5)])) rfl rfl (hb hby d1_78)
    replace V_b5 : Arv Z h16 b5 k5 (.array .int) (1 : Int32) [(.ref b14)] .null := Arv.set Ar16 q16 S16 Nn16 H16 G16 rfl W16 0 rfl (Nat.le_of_ble_eq_true rfl)
    replace E_r0 := E_r0.wr W16
    replace F_size_r0 := F_size_r0.other W16 (Or.inl ne_r0_b5)
    replace F_pages_r0 := F_pages_r0.other W16 (Or.inl ne_r0_b5)
    replace S_SHIFT := Sta.wr W16 S_SHIFT
    replace E_b5 := E_b5.wr W16
    replace E_b14 := E_b14.wr W16
    replace V_b14 := V_b14.other W16 (Ne.symm ne_b5_b14)
    have Z17 : n0 ≤ h16.size := Nat.le_trans Z15 (Keep.of_wr W16).1
    replace KC := KC.wr W16 (Or.inr sz_b5)
    refine W.go st16 ?_
    have N16 := Fr.snoc X16 N13 g_b5
    show W p e below _ (T16.setTop (mkF m 79 #[.val (.ref r0), .val (.int p1), .val (.int p2), .val (.int (0 : Int32))] []))
    refine W.go (fun _ hr => XS.iloadN X16.here hx rfl (hb hby d1_79) rfl hr) ?_
    show W p e below _ (T16.setTop (mkF m 80 #[.val (.ref r0), .val (.int p1), .val (.int p2), .val (.int (0 : Int32))] [(.int p2)]))
    by_cases hc80_18 : p2 = (0 : Int32)
    · refine W.go (fun _ hr => XS.ifYes X16.here hx rfl (pc0 := 80) (pc' := 93) rfl (hb hby d1_80) rfl ((if0 _ _).trans (teq hc80_18).1) (by decide) (by decide) hr) ?_
      show W p e below _ (T16.setTop (mkF m 93 #[.val (.ref r0), .val (.int p1), .val (.int p2), .val (.int (0 : Int32))] []))
      refine W.go (fun _ hr => XS.iinc X16.here hx rfl (hb hby d1_93) rfl (l' := #[.val (.ref r0), .val (.int p1), .val (.int p2), .val (.int (1 : Int32))]) (by rfl) hr) ?_
      show W p e below _ (T16.setTop (mkF m 96 #[.val (.ref r0), .val (.int p1), .val (.int p2), .val (.int (1 : Int32))] []))
      refine W.go (fun _ hr => XS.goto X16.here hx rfl (pc0 := 96) (pc' := 49) rfl (hb hby d1_96) (by decide) (by decide) hr) ?_
      show W p e below _ (T16.setTop (mkF m 49 #[.val (.ref r0), .val (.int p1), .val (.int p2), .val (.int (1 : Int32))] []))
      refine W.go (fun _ hr => XS.iloadN X16.here hx rfl (hb hby d1_49) rfl hr) ?_
      show W p e below _ (T16.setTop (mkF m 50 #[.val (.ref r0), .val (.int p1), .val (.int p2), .val (.int (1 : Int32))] [(.int (1 : Int32))]))
      refine W.go (fun _ hr => XS.aloadN X16.here hx rfl (hb hby d1_50) rfl rfl hr) ?_
      show W p e below _ (T16.setTop (mkF m 51 #[.val (.ref r0), .val (.int p1), .val (.int p2), .val (.int (1 : Int32))] [(.ref r0), (.int (1 : Int32))]))
      obtain ⟨T19, X19, e19, st19⟩ := getF X16 hx hZ hown (host := "") (Or.inl (hw _ (List.mem_of_getElem? (i := 18) rfl))) Via.refl e16 F_pages_r0 (g := (mkF m 51 #[.val (.ref r0), .val (.int p1), .val (.int p2), .val (.int (1 : Int32))] [(.ref r0), (.int (1 : Int32))])) rfl rfl (hb hby d1_51)
      refine W.go st19 ?_
      show W p e below _ (T19.setTop (mkF m 54 #[.val (.ref r0), .val (.int p1), .val (.int p2), .val (.int (1 : Int32))] [(.ref b5), (.int (1 : Int32))]))
      obtain ⟨cl20, Ar20, q20, S20, Nn20, H20, G20⟩ := id V_b5
      refine W.go (X19.arraylength hx (by rw [e19]; exact Ar20.1) (State.isArrayOf_alike hZ.alike Ar20.2.1) (g := (mkF m 54 #[.val (.ref r0), .val (.int p1), .val (.int p2), .val (.int (1 : Int32))] [(.ref b5), (.int (1 : Int32))])) rfl rfl (hb hby d1_54)) ?_
      rw [len_of S20 Nn20]
      show W p e below _ (T19.setTop (mkF m 55 #[.val (.ref r0), .val (.int p1), .val (.int p2), .val (.int (1 : Int32))] [(.int (1 : Int32)), (.int (1 : Int32))]))
      refine W.go (fun _ hr => XS.icmpYes X19.here hx rfl (pc0 := 55) (pc' := 99) rfl (hb hby d1_55) rfl (flt (by decide : ¬ ((1 : Int32) < (1 : Int32)))).2.1 (by decide) (by decide) hr) ?_
      show W p e below _ (T19.setTop (mkF m 99 #[.val (.ref r0), .val (.int p1), .val (.int p2), .val (.int (1 : Int32))] []))
      subst hc80_18
      exact W.retV X19 hx hlk hret (hb hby d1_99) (by decide) (by decide) e19 ⟨rfl, N16, E_r0, S_SHIFT, KC.1, own_pages1 (by omega) F_pages_r0 F_size_r0 V_b5 ⟨_, _, _, rfl, g_b14, (Ne.symm ne_b5_b14), (Ne.symm ne_r0_b14), V_b14, Or.inr (by omega)⟩ ⟩
    · refine W.go (fun _ hr => XS.ifNo X16.here hx rfl (hb hby d1_80) rfl ((if0 _ _).trans (feq hc80_18).1) hr) ?_
      show W p e below _ (T16.setTop (mkF m 83 #[.val (.ref r0), .val (.int p1), .val (.int p2), .val (.int (0 : Int32))] []))
      refine W.go (fun _ hr => XS.aloadN X16.here hx rfl (hb hby d1_83) rfl rfl hr) ?_
      show W p e below _ (T16.setTop (mkF m 84 #[.val (.ref r0), .val (.int p1), .val (.int p2), .val (.int (0 : Int32))] [(.ref r0)]))
      obtain ⟨T21, X21, e21, st21⟩ := getF X16 hx hZ hown (host := "") (Or.inl (hw _ (List.mem_of_getElem? (i := 18) rfl))) Via.refl e16 F_pages_r0 (g := (mkF m 84 #[.val (.ref r0), .val (.int p1), .val (.int p2), .val (.int (0 : Int32))] [(.ref r0)])) rfl rfl (hb hby d1_84)
      refine W.go st21 ?_
      show W p e below _ (T21.setTop (mkF m 87 #[.val (.ref r0), .val (.int p1), .val (.int p2), .val (.int (0 : Int32))] [(.ref b5)]))
      refine W.go (fun _ hr => XS.iloadN X21.here hx rfl (hb hby d1_87) rfl hr) ?_
      show W p e below _ (T21.setTop (mkF m 88 #[.val (.ref r0), .val (.int p1), .val (.int p2), .val (.int (0 : Int32))] [(.int (0 : Int32)), (.ref b5)]))
      obtain ⟨cl22, Ar22, q22, S22, Nn22, H22, G22⟩ := id V_b5
      have hin22 : ¬ ((0 : Int32) < 0 ∨ cl22.slots.size ≤ ((0 : Int32)).toNatClampNeg) := inb_of S22 ⟨by decide, by decide⟩
      have hat22 : cl22.slots[((0 : Int32)).toNatClampNeg]? = some (.ref b14) := H22.at hin22 rfl
      refine W.go (X21.aaload hx (j := (0 : Int32)) (v := (.ref b14)) (by rw [e21]; exact Ar22.1) (State.isArrayOf_alike hZ.alike Ar22.2.1) rfl Ar22.2.2 hin22 hat22 (g := (mkF m 88 #[.val (.ref r0), .val (.int p1), .val (.int p2), .val (.int (0 : Int32))] [(.int (0 : Int32)), (.ref b5)])) rfl rfl (hb hby d1_88)) ?_
      show W p e below _ (T21.setTop (mkF m 89 #[.val (.ref r0), .val (.int p1), .val (.int p2), .val (.int (0 : Int32))] [(.ref b14)]))
      refine W.go (fun _ hr => XS.iloadN X21.here hx rfl (hb hby d1_89) rfl hr) ?_
      show W p e below _ (T21.setTop (mkF m 90 #[.val (.ref r0), .val (.int p1), .val (.int p2), .val (.int (0 : Int32))] [(.int p2), (.ref b14)]))
      refine W.callS X21 hx hZ hown (g := (mkF m 90 #[.val (.ref r0), .val (.int p1), .val (.int p2), .val (.int (0 : Int32))] [(.int p2), (.ref b14)])) (by rw [hml]; rfl) (hw _ (List.mem_of_getElem? (i := 26) rfl)) (hw _ (List.mem_of_getElem? (i := 27) rfl)) (hw _ (List.mem_of_getElem? (i := 28) rfl)) (hw _ (List.mem_of_getElem? (i := 29) rfl)) e21 (rm4 l Z a0 hw b14 p2 p1 k14 h16 n0 Z17 E_b14 V_b14 (own_cap _ (by omega)).1 g_b14) (by decide) pd_100 rfl (argsL := [(.ref b14), (.int p2)]) (rest := []) rfl rfl rfl (hb hby d1_90) (W0 := 0) rfl (by decide) (by decide) (by decide) (by decide) (fun v23 T23 h23 L23 X23 e23 hQ23 => ?_)
      obtain ⟨rfl, N23q, K23, Ee23, Vf23⟩ := hQ23
      have N23 := Fr.app N16 N23q
      have nsK23 := (nsS E_b14.nostat ns0)
      replace E_r0 := E_r0.keep K23
      replace F_size_r0 := F_size_r0.keep K23 (ninS ne_r0_b14 nin0)
      replace F_pages_r0 := F_pages_r0.keep K23 (ninS ne_r0_b14 nin0)
      replace S_SHIFT := Sta.keep S_SHIFT K23 nsK23
      replace E_b5 := E_b5.keep K23
      replace V_b5 := V_b5.keep K23 (ninS ne_b5_b14 nin0)
      replace E_b14 := E_b14.keep K23
      have Z24 : n0 ≤ h23.size := Nat.le_trans Z17 K23.1
      replace KC := KC.trans K23 (allS (Or.inr sz_b14) all0)
      show W p e below _ (T23.setTop (mkF m 93 #[.val (.ref r0), .val (.int p1), .val (.int p2), .val (.int (0 : Int32))] []))
      refine W.go (fun _ hr => XS.iinc X23.here hx rfl (hb hby d1_93) rfl (l' := #[.val (.ref r0), .val (.int p1), .val (.int p2), .val (.int (1 : Int32))]) (by rfl) hr) ?_
      show W p e below _ (T23.setTop (mkF m 96 #[.val (.ref r0), .val (.int p1), .val (.int p2), .val (.int (1 : Int32))] []))
      refine W.go (fun _ hr => XS.goto X23.here hx rfl (pc0 := 96) (pc' := 49) rfl (hb hby d1_96) (by decide) (by decide) hr) ?_
      show W p e below _ (T23.setTop (mkF m 49 #[.val (.ref r0), .val (.int p1), .val (.int p2), .val (.int (1 : Int32))] []))
      refine W.go (fun _ hr => XS.iloadN X23.here hx rfl (hb hby d1_49) rfl hr) ?_
      show W p e below _ (T23.setTop (mkF m 50 #[.val (.ref r0), .val (.int p1), .val (.int p2), .val (.int (1 : Int32))] [(.int (1 : Int32))]))
      refine W.go (fun _ hr => XS.aloadN X23.here hx rfl (hb hby d1_50) rfl rfl hr) ?_
      show W p e below _ (T23.setTop (mkF m 51 #[.val (.ref r0), .val (.int p1), .val (.int p2), .val (.int (1 : Int32))] [(.ref r0), (.int (1 : Int32))]))
      obtain ⟨T25, X25, e25, st25⟩ := getF X23 hx hZ hown (host := "") (Or.inl (hw _ (List.mem_of_getElem? (i := 18) rfl))) Via.refl e23 F_pages_r0 (g := (mkF m 51 #[.val (.ref r0), .val (.int p1), .val (.int p2), .val (.int (1 : Int32))] [(.ref r0), (.int (1 : Int32))])) rfl rfl (hb hby d1_51)
      refine W.go st25 ?_
      show W p e below _ (T25.setTop (mkF m 54 #[.val (.ref r0), .val (.int p1), .val (.int p2), .val (.int (1 : Int32))] [(.ref b5), (.int (1 : Int32))]))
      obtain ⟨cl26, Ar26, q26, S26, Nn26, H26, G26⟩ := id V_b5
      refine W.go (X25.arraylength hx (by rw [e25]; exact Ar26.1) (State.isArrayOf_alike hZ.alike Ar26.2.1) (g := (mkF m 54 #[.val (.ref r0), .val (.int p1), .val (.int p2), .val (.int (1 : Int32))] [(.ref b5), (.int (1 : Int32))])) rfl rfl (hb hby d1_54)) ?_
      rw [len_of S26 Nn26]
      show W p e below _ (T25.setTop (mkF m 55 #[.val (.ref r0), .val (.int p1), .val (.int p2), .val (.int (1 : Int32))] [(.int (1 : Int32)), (.int (1 : Int32))]))
      refine W.go (fun _ hr => XS.icmpYes X25.here hx rfl (pc0 := 55) (pc' := 99) rfl (hb hby d1_55) rfl (flt (by decide : ¬ ((1 : Int32) < (1 : Int32)))).2.1 (by decide) (by decide) hr) ?_
      show W p e below _ (T25.setTop (mkF m 99 #[.val (.ref r0), .val (.int p1), .val (.int p2), .val (.int (1 : Int32))] []))
      exact W.retV X25 hx hlk hret (hb hby d1_99) (by decide) (by decide) e25 ⟨rfl, N23, E_r0, S_SHIFT, KC.1, own_pages1 (by omega) F_pages_r0 F_size_r0 V_b5 ⟨_, _, _, rfl, g_b14, (Ne.symm ne_b5_b14), (Ne.symm ne_r0_b14), Vf23, Or.inr (by omega)⟩ ⟩
  · rw [qP]
    show W p e below _ (T4.setTop (mkF m 41 #[.val (.ref r0), .val (.int p1), .val (.int p2), .unset] [(.int (2 : Int32)), (.ref r0)]))
    obtain ⟨T27, h27, k27, X27, e27, E27, A27, E_b27, O_b27, st27⟩ := newRA X4 hx hZ (ty := .int) hown rfl (hw _ (List.mem_of_getElem? (i := 16) rfl)) (hw _ (List.mem_of_getElem? (i := 17) rfl)) e4 (g := (mkF m 41 #[.val (.ref r0), .val (.int p1), .val (.int p2), .unset] [(.int (2 : Int32)), (.ref r0)])) rfl (hb hby d1_41) rfl (by decide) (cap := 2) (by decide) (by decide) (by decide) (by decide) (ad := "[[I") (by decide)
    obtain ⟨b27, g27⟩ : ∃ z, z = h2.size := ⟨_, rfl⟩
    rw [← g27] at A27 E_b27 st27
    have ne_r0_b27 : r0 ≠ b27 := Nat.ne_of_lt (Nat.lt_of_lt_of_le E_r0.lt (Nat.le_of_eq g27.symm))
    have g_b27 : n0 ≤ b27 := Nat.le_trans Z3 (Nat.le_of_eq g27.symm)
    have sz_b27 : h0.size ≤ b27 := Nat.le_trans KC.1 (Nat.le_of_eq g27.symm)
    replace E_r0 := E_r0.ext E27
    replace F_size_r0 := F_size_r0.ext E27
    replace F_pages_r0 := F_pages_r0.ext E27
    replace S_SHIFT := Sta.ext E27 S_SHIFT
    have Z28 : n0 ≤ h27.size := Nat.le_trans Z3 E27.1
    replace KC := KC.ext E27
    have V_b27 : Arv Z h27 b27 k27 (.array .int) (2 : Int32) [.null, .null] .null := (Arv.new A27 (by decide)).pad (pad_rep [] .null 2)
    refine W.go st27 ?_
    show W p e below _ (T27.setTop (mkF m 44 #[.val (.ref r0), .val (.int p1), .val (.int p2), .unset] [(.ref b27), (.ref r0)]))
    obtain ⟨T29, h29, X29, e29, W29, st29⟩ := putF X27 hx hZ hown (host := "") (Or.inl (hw _ (List.mem_of_getElem? (i := 18) rfl))) Via.refl e27 F_pages_r0 E_r0 (Or.inr ⟨(hw _ (List.mem_of_getElem? (i := 19) rfl)), rfl, hnm⟩) (hw _ (List.mem_of_getElem? (i := 3) rfl)) (ty := (.array (.array .int))) (by decide) rfl rfl (g := (mkF m 44 #[.val (.ref r0), .val (.int p1), .val (.int p2), .unset] [(.ref b27), (.ref r0)])) rfl rfl (hb hby d1_44)
    refine W.go st29 ?_
    replace E_r0 := E_r0.wr W29
    replace F_size_r0 := F_size_r0.other W29 (Or.inr (slot_ne (Or.inr (hw _ (List.mem_of_getElem? (i := 12) rfl))) (Or.inr (hw _ (List.mem_of_getElem? (i := 19) rfl))) (by decide) (t := .int) (t' := (.array (.array .int))) (by decide) (by decide)))
    replace F_pages_r0 := F_pages_r0.same W29
    replace S_SHIFT := Sta.wr W29 S_SHIFT
    replace E_b27 := E_b27.wr W29
    replace V_b27 := V_b27.other W29 (Ne.symm ne_r0_b27)
    have Z30 : n0 ≤ h29.size := Nat.le_trans Z28 (Keep.of_wr W29).1
    replace KC := KC.wr W29 (Or.inl (List.mem_of_getElem? (i := 0) rfl))
    have N29 := Fr.snoc X29 N2 g_r0
    show W p e below _ (T29.setTop (mkF m 47 #[.val (.ref r0), .val (.int p1), .val (.int p2), .unset] []))
    refine W.go (fun _ hr => XS.iconst X29.here hx rfl (hb hby d1_47) hr) ?_
    show W p e below _ (T29.setTop (mkF m 48 #[.val (.ref r0), .val (.int p1), .val (.int p2), .unset] [(.int (0 : Int32))]))
    refine W.go (fun _ hr => XS.istoreN X29.here hx rfl (hb hby d1_48) rfl (l' := #[.val (.ref r0), .val (.int p1), .val (.int p2), .val (.int (0 : Int32))]) rfl hr) ?_
    show W p e below _ (T29.setTop (mkF m 49 #[.val (.ref r0), .val (.int p1), .val (.int p2), .val (.int (0 : Int32))] []))
    refine W.go (fun _ hr => XS.iloadN X29.here hx rfl (hb hby d1_49) rfl hr) ?_
    show W p e below _ (T29.setTop (mkF m 50 #[.val (.ref r0), .val (.int p1), .val (.int p2), .val (.int (0 : Int32))] [(.int (0 : Int32))]))
    refine W.go (fun _ hr => XS.aloadN X29.here hx rfl (hb hby d1_50) rfl rfl hr) ?_
    show W p e below _ (T29.setTop (mkF m 51 #[.val (.ref r0), .val (.int p1), .val (.int p2), .val (.int (0 : Int32))] [(.ref r0), (.int (0 : Int32))]))
    obtain ⟨T31, X31, e31, st31⟩ := getF X29 hx hZ hown (host := "") (Or.inl (hw _ (List.mem_of_getElem? (i := 18) rfl))) Via.refl e29 F_pages_r0 (g := (mkF m 51 #[.val (.ref r0), .val (.int p1), .val (.int p2), .val (.int (0 : Int32))] [(.ref r0), (.int (0 : Int32))])) rfl rfl (hb hby d1_51)
    refine W.go st31 ?_
    show W p e below _ (T31.setTop (mkF m 54 #[.val (.ref r0), .val (.int p1), .val (.int p2), .val (.int (0 : Int32))] [(.ref b27), (.int (0 : Int32))]))
    obtain ⟨cl32, Ar32, q32, S32, Nn32, H32, G32⟩ := id V_b27
    refine W.go (X31.arraylength hx (by rw [e31]; exact Ar32.1) (State.isArrayOf_alike hZ.alike Ar32.2.1) (g := (mkF m 54 #[.val (.ref r0), .val (.int p1), .val (.int p2), .val (.int (0 : Int32))] [(.ref b27), (.int (0 : Int32))])) rfl rfl (hb hby d1_54)) ?_
    rw [len_of S32 Nn32]
    show W p e below _ (T31.setTop (mkF m 55 #[.val (.ref r0), .val (.int p1), .val (.int p2), .val (.int (0 : Int32))] [(.int (2 : Int32)), (.int (0 : Int32))]))
    refine W.go (fun _ hr => XS.icmpNo X31.here hx rfl (hb hby d1_55) rfl (tlt (by decide : ((0 : Int32) < (2 : Int32)))).2.1 hr) ?_
    show W p e below _ (T31.setTop (mkF m 58 #[.val (.ref r0), .val (.int p1), .val (.int p2), .val (.int (0 : Int32))] []))
    refine W.go (fun _ hr => XS.aloadN X31.here hx rfl (hb hby d1_58) rfl rfl hr) ?_
    show W p e below _ (T31.setTop (mkF m 59 #[.val (.ref r0), .val (.int p1), .val (.int p2), .val (.int (0 : Int32))] [(.ref r0)]))
    obtain ⟨T33, X33, e33, st33⟩ := getF X31 hx hZ hown (host := "") (Or.inl (hw _ (List.mem_of_getElem? (i := 18) rfl))) Via.refl e31 F_pages_r0 (g := (mkF m 59 #[.val (.ref r0), .val (.int p1), .val (.int p2), .val (.int (0 : Int32))] [(.ref r0)])) rfl rfl (hb hby d1_59)
    refine W.go st33 ?_
    show W p e below _ (T33.setTop (mkF m 62 #[.val (.ref r0), .val (.int p1), .val (.int p2), .val (.int (0 : Int32))] [(.ref b27)]))
    refine W.go (fun _ hr => XS.iloadN X33.here hx rfl (hb hby d1_62) rfl hr) ?_
    show W p e below _ (T33.setTop (mkF m 63 #[.val (.ref r0), .val (.int p1), .val (.int p2), .val (.int (0 : Int32))] [(.int (0 : Int32)), (.ref b27)]))
    refine W.go (fun _ hr => XS.sipush X33.here hx rfl (hb hby d1_63) hr) ?_
    show W p e below _ (T33.setTop (mkF m 66 #[.val (.ref r0), .val (.int p1), .val (.int p2), .val (.int (0 : Int32))] [(.int (16384 : Int32)), (.int (0 : Int32)), (.ref b27)]))
    refine W.go (fun _ hr => XS.iloadN X33.here hx rfl (hb hby d1_66) rfl hr) ?_
    show W p e below _ (T33.setTop (mkF m 67 #[.val (.ref r0), .val (.int p1), .val (.int p2), .val (.int (0 : Int32))] [(.int p1), (.int (16384 : Int32)), (.int (0 : Int32)), (.ref b27)]))
    refine W.go (fun _ hr => XS.iloadN X33.here hx rfl (hb hby d1_67) rfl hr) ?_
    show W p e below _ (T33.setTop (mkF m 68 #[.val (.ref r0), .val (.int p1), .val (.int p2), .val (.int (0 : Int32))] [(.int (0 : Int32)), (.int p1), (.int (16384 : Int32)), (.int (0 : Int32)), (.ref b27)]))
    obtain ⟨T34, X34, e34, st34⟩ := getS2 X33 hx hZ hown (host := "") (Or.inl (hw _ (List.mem_of_getElem? (i := 14) rfl))) Via.refl e33 S_SHIFT (g := (mkF m 68 #[.val (.ref r0), .val (.int p1), .val (.int p2), .val (.int (0 : Int32))] [(.int (0 : Int32)), (.int p1), (.int (16384 : Int32)), (.int (0 : Int32)), (.ref b27)])) rfl (hb hby d1_68)
    refine W.go st34 ?_
    show W p e below _ (T34.setTop (mkF m 71 #[.val (.ref r0), .val (.int p1), .val (.int p2), .val (.int (0 : Int32))] [(.int (14 : Int32)), (.int (0 : Int32)), (.int p1), (.int (16384 : Int32)), (.int (0 : Int32)), (.ref b27)]))
    refine W.go (fun _ hr => XS.ishl X34.here hx rfl (hb hby d1_71) rfl hr) ?_
    show W p e below _ (T34.setTop (mkF m 72 #[.val (.ref r0), .val (.int p1), .val (.int p2), .val (.int (0 : Int32))] [(.int ((0 : Int32) <<< ((14 : Int32) &&& 31))), (.int p1), (.int (16384 : Int32)), (.int (0 : Int32)), (.ref b27)]))
    rw [show ((0 : Int32) <<< ((14 : Int32) &&& 31)) = (0 : Int32) from by decide]
    show W p e below _ (T34.setTop (mkF m 72 #[.val (.ref r0), .val (.int p1), .val (.int p2), .val (.int (0 : Int32))] [(.int (0 : Int32)), (.int p1), (.int (16384 : Int32)), (.int (0 : Int32)), (.ref b27)]))
    refine W.go (fun _ hr => XS.isub X34.here hx rfl (hb hby d1_72) rfl hr) ?_
    show W p e below _ (T34.setTop (mkF m 73 #[.val (.ref r0), .val (.int p1), .val (.int p2), .val (.int (0 : Int32))] [(.int (p1 - (0 : Int32))), (.int (16384 : Int32)), (.int (0 : Int32)), (.ref b27)]))
    rw [show (p1 - (0 : Int32)) = p1 from by simp]
    show W p e below _ (T34.setTop (mkF m 73 #[.val (.ref r0), .val (.int p1), .val (.int p2), .val (.int (0 : Int32))] [(.int p1), (.int (16384 : Int32)), (.int (0 : Int32)), (.ref b27)]))
    have sb0 : (p1).toInt = p1.toInt - 0 := by omega
    refine W.callS X34 hx hZ hown (g := (mkF m 73 #[.val (.ref r0), .val (.int p1), .val (.int p2), .val (.int (0 : Int32))] [(.int p1), (.int (16384 : Int32)), (.int (0 : Int32)), (.ref b27)])) (by rw [hml]; rfl) (hw _ (List.mem_of_getElem? (i := 20) rfl)) (hw _ (List.mem_of_getElem? (i := 21) rfl)) (hw _ (List.mem_of_getElem? (i := 22) rfl)) (hw _ (List.mem_of_getElem? (i := 23) rfl)) e34 (rm3 l Z a0 hw (16384 : Int32) p1 (16384 : Int32) h29 n0 Z30 (own_minF _ (by omega))) (by decide) pd_86 rfl (argsL := [(.int (16384 : Int32)), (.int p1)]) (rest := [(.int (0 : Int32)), (.ref b27)]) rfl rfl rfl (hb hby d1_73) (W0 := 2) rfl (by decide) (by decide) (by decide) (by decide) (fun v35 T35 h35 L35 X35 e35 hQ35 => ?_)
    obtain ⟨rfl, N35q, hh35⟩ := hQ35
    obtain rfl := hh35.symm
    have N35 := Fr.app N29 N35q
    show W p e below _ (T35.setTop (mkF m 76 #[.val (.ref r0), .val (.int p1), .val (.int p2), .val (.int (0 : Int32))] [(.int (16384 : Int32)), (.int (0 : Int32)), (.ref b27)]))
    obtain ⟨T36, h36, k36, X36, e36, E36, A36, E_b36, st36⟩ := newPE X35 hx hZ (hw _ (List.mem_of_getElem? (i := 24) rfl)) e35 (g := (mkF m 76 #[.val (.ref r0), .val (.int p1), .val (.int p2), .val (.int (0 : Int32))] [(.int (16384 : Int32)), (.int (0 : Int32)), (.ref b27)])) rfl (hb hby d1_76) rfl (by decide) (cap := 16384) (by decide) (by decide) (by decide) (by decide) (ad := "[I") (by decide)
    obtain ⟨b36, g36⟩ : ∃ z, z = h29.size := ⟨_, rfl⟩
    rw [← g36] at A36 E_b36 st36
    have ne_r0_b36 : r0 ≠ b36 := Nat.ne_of_lt (Nat.lt_of_lt_of_le E_r0.lt (Nat.le_of_eq g36.symm))
    have ne_b27_b36 : b27 ≠ b36 := Nat.ne_of_lt (Nat.lt_of_lt_of_le E_b27.lt (Nat.le_of_eq g36.symm))
    have g_b36 : n0 ≤ b36 := Nat.le_trans Z30 (Nat.le_of_eq g36.symm)
    have sz_b36 : h0.size ≤ b36 := Nat.le_trans KC.1 (Nat.le_of_eq g36.symm)
    replace E_r0 := E_r0.ext E36
    replace F_size_r0 := F_size_r0.ext E36
    replace F_pages_r0 := F_pages_r0.ext E36
    replace S_SHIFT := Sta.ext E36 S_SHIFT
    replace E_b27 := E_b27.ext E36
    replace V_b27 := V_b27.ext E36
    have Z37 : n0 ≤ h36.size := Nat.le_trans Z30 E36.1
    replace KC := KC.ext E36
    have V_b36 : Arv Z h36 b36 k36 .int (16384 : Int32) [] (.int (0 : Int32)) := Arv.new A36 (by decide)
    refine W.go st36 ?_
    show W p e below _ (T36.setTop (mkF m 78 #[.val (.ref r0), .val (.int p1), .val (.int p2), .val (.int (0 : Int32))] [(.ref b36), (.int (0 : Int32)), (.ref b27)]))
    obtain ⟨cl38, Ar38, q38, S38, Nn38, H38, G38⟩ := V_b27
    have hin38 : ¬ ((0 : Int32) < 0 ∨ cl38.slots.size ≤ ((0 : Int32)).toNatClampNeg) := inb_of S38 ⟨by decide, by decide⟩
    obtain ⟨T38, h38, X38, e38, W38, st38⟩ := stR X36 hx hZ e36 Ar38 (j := (0 : Int32)) hin38 rfl (Sto.ofVA Ar38 q38 O_b27 (Ins.self E_b36)) (g := (mkF m 78 #[.val (.ref r0), .val (.int p1), .val (.int p2), .val (.int (0 : Int32))] [(.ref b36), (.int (0 : Int32)), (.ref b27)])) rfl rfl (hb hby d1_78)
    replace V_b27 : Arv Z h38 b27 k27 (.array .int) (2 : Int32) [(.ref b36), .null] .null := Arv.set Ar38 q38 S38 Nn38 H38 G38 rfl W38 0 rfl (Nat.le_of_ble_eq_true rfl)
    replace E_r0 := E_r0.wr W38
    replace F_size_r0 := F_size_r0.other W38 (Or.inl ne_r0_b27)
    replace F_pages_r0 := F_pages_r0.other W38 (Or.inl ne_r0_b27)
    replace S_SHIFT := Sta.wr W38 S_SHIFT
    replace E_b27 := E_b27.wr W38
    replace E_b36 := E_b36.wr W38
    replace V_b36 := V_b36.other W38 (Ne.symm ne_b27_b36)
    have Z39 : n0 ≤ h38.size := Nat.le_trans Z37 (Keep.of_wr W38).1
    replace KC := KC.wr W38 (Or.inr sz_b27)
    refine W.go st38 ?_
    have N38 := Fr.snoc X38 N35 g_b27
    show W p e below _ (T38.setTop (mkF m 79 #[.val (.ref r0), .val (.int p1), .val (.int p2), .val (.int (0 : Int32))] []))
    refine W.go (fun _ hr => XS.iloadN X38.here hx rfl (hb hby d1_79) rfl hr) ?_
    show W p e below _ (T38.setTop (mkF m 80 #[.val (.ref r0), .val (.int p1), .val (.int p2), .val (.int (0 : Int32))] [(.int p2)]))
    by_cases hc80_40 : p2 = (0 : Int32)
    · refine W.go (fun _ hr => XS.ifYes X38.here hx rfl (pc0 := 80) (pc' := 93) rfl (hb hby d1_80) rfl ((if0 _ _).trans (teq hc80_40).1) (by decide) (by decide) hr) ?_
      show W p e below _ (T38.setTop (mkF m 93 #[.val (.ref r0), .val (.int p1), .val (.int p2), .val (.int (0 : Int32))] []))
      refine W.go (fun _ hr => XS.iinc X38.here hx rfl (hb hby d1_93) rfl (l' := #[.val (.ref r0), .val (.int p1), .val (.int p2), .val (.int (1 : Int32))]) (by rfl) hr) ?_
      show W p e below _ (T38.setTop (mkF m 96 #[.val (.ref r0), .val (.int p1), .val (.int p2), .val (.int (1 : Int32))] []))
      refine W.go (fun _ hr => XS.goto X38.here hx rfl (pc0 := 96) (pc' := 49) rfl (hb hby d1_96) (by decide) (by decide) hr) ?_
      show W p e below _ (T38.setTop (mkF m 49 #[.val (.ref r0), .val (.int p1), .val (.int p2), .val (.int (1 : Int32))] []))
      refine W.go (fun _ hr => XS.iloadN X38.here hx rfl (hb hby d1_49) rfl hr) ?_
      show W p e below _ (T38.setTop (mkF m 50 #[.val (.ref r0), .val (.int p1), .val (.int p2), .val (.int (1 : Int32))] [(.int (1 : Int32))]))
      refine W.go (fun _ hr => XS.aloadN X38.here hx rfl (hb hby d1_50) rfl rfl hr) ?_
      show W p e below _ (T38.setTop (mkF m 51 #[.val (.ref r0), .val (.int p1), .val (.int p2), .val (.int (1 : Int32))] [(.ref r0), (.int (1 : Int32))]))
      obtain ⟨T41, X41, e41, st41⟩ := getF X38 hx hZ hown (host := "") (Or.inl (hw _ (List.mem_of_getElem? (i := 18) rfl))) Via.refl e38 F_pages_r0 (g := (mkF m 51 #[.val (.ref r0), .val (.int p1), .val (.int p2), .val (.int (1 : Int32))] [(.ref r0), (.int (1 : Int32))])) rfl rfl (hb hby d1_51)
      refine W.go st41 ?_
      show W p e below _ (T41.setTop (mkF m 54 #[.val (.ref r0), .val (.int p1), .val (.int p2), .val (.int (1 : Int32))] [(.ref b27), (.int (1 : Int32))]))
      obtain ⟨cl42, Ar42, q42, S42, Nn42, H42, G42⟩ := id V_b27
      refine W.go (X41.arraylength hx (by rw [e41]; exact Ar42.1) (State.isArrayOf_alike hZ.alike Ar42.2.1) (g := (mkF m 54 #[.val (.ref r0), .val (.int p1), .val (.int p2), .val (.int (1 : Int32))] [(.ref b27), (.int (1 : Int32))])) rfl rfl (hb hby d1_54)) ?_
      rw [len_of S42 Nn42]
      show W p e below _ (T41.setTop (mkF m 55 #[.val (.ref r0), .val (.int p1), .val (.int p2), .val (.int (1 : Int32))] [(.int (2 : Int32)), (.int (1 : Int32))]))
      refine W.go (fun _ hr => XS.icmpNo X41.here hx rfl (hb hby d1_55) rfl (tlt (by decide : ((1 : Int32) < (2 : Int32)))).2.1 hr) ?_
      show W p e below _ (T41.setTop (mkF m 58 #[.val (.ref r0), .val (.int p1), .val (.int p2), .val (.int (1 : Int32))] []))
      refine W.go (fun _ hr => XS.aloadN X41.here hx rfl (hb hby d1_58) rfl rfl hr) ?_
      show W p e below _ (T41.setTop (mkF m 59 #[.val (.ref r0), .val (.int p1), .val (.int p2), .val (.int (1 : Int32))] [(.ref r0)]))
      obtain ⟨T43, X43, e43, st43⟩ := getF X41 hx hZ hown (host := "") (Or.inl (hw _ (List.mem_of_getElem? (i := 18) rfl))) Via.refl e41 F_pages_r0 (g := (mkF m 59 #[.val (.ref r0), .val (.int p1), .val (.int p2), .val (.int (1 : Int32))] [(.ref r0)])) rfl rfl (hb hby d1_59)
      refine W.go st43 ?_
      show W p e below _ (T43.setTop (mkF m 62 #[.val (.ref r0), .val (.int p1), .val (.int p2), .val (.int (1 : Int32))] [(.ref b27)]))
      refine W.go (fun _ hr => XS.iloadN X43.here hx rfl (hb hby d1_62) rfl hr) ?_
      show W p e below _ (T43.setTop (mkF m 63 #[.val (.ref r0), .val (.int p1), .val (.int p2), .val (.int (1 : Int32))] [(.int (1 : Int32)), (.ref b27)]))
      refine W.go (fun _ hr => XS.sipush X43.here hx rfl (hb hby d1_63) hr) ?_
      show W p e below _ (T43.setTop (mkF m 66 #[.val (.ref r0), .val (.int p1), .val (.int p2), .val (.int (1 : Int32))] [(.int (16384 : Int32)), (.int (1 : Int32)), (.ref b27)]))
      refine W.go (fun _ hr => XS.iloadN X43.here hx rfl (hb hby d1_66) rfl hr) ?_
      show W p e below _ (T43.setTop (mkF m 67 #[.val (.ref r0), .val (.int p1), .val (.int p2), .val (.int (1 : Int32))] [(.int p1), (.int (16384 : Int32)), (.int (1 : Int32)), (.ref b27)]))
      refine W.go (fun _ hr => XS.iloadN X43.here hx rfl (hb hby d1_67) rfl hr) ?_
      show W p e below _ (T43.setTop (mkF m 68 #[.val (.ref r0), .val (.int p1), .val (.int p2), .val (.int (1 : Int32))] [(.int (1 : Int32)), (.int p1), (.int (16384 : Int32)), (.int (1 : Int32)), (.ref b27)]))
      obtain ⟨T44, X44, e44, st44⟩ := getS2 X43 hx hZ hown (host := "") (Or.inl (hw _ (List.mem_of_getElem? (i := 14) rfl))) Via.refl e43 S_SHIFT (g := (mkF m 68 #[.val (.ref r0), .val (.int p1), .val (.int p2), .val (.int (1 : Int32))] [(.int (1 : Int32)), (.int p1), (.int (16384 : Int32)), (.int (1 : Int32)), (.ref b27)])) rfl (hb hby d1_68)
      refine W.go st44 ?_
      show W p e below _ (T44.setTop (mkF m 71 #[.val (.ref r0), .val (.int p1), .val (.int p2), .val (.int (1 : Int32))] [(.int (14 : Int32)), (.int (1 : Int32)), (.int p1), (.int (16384 : Int32)), (.int (1 : Int32)), (.ref b27)]))
      refine W.go (fun _ hr => XS.ishl X44.here hx rfl (hb hby d1_71) rfl hr) ?_
      show W p e below _ (T44.setTop (mkF m 72 #[.val (.ref r0), .val (.int p1), .val (.int p2), .val (.int (1 : Int32))] [(.int ((1 : Int32) <<< ((14 : Int32) &&& 31))), (.int p1), (.int (16384 : Int32)), (.int (1 : Int32)), (.ref b27)]))
      rw [show ((1 : Int32) <<< ((14 : Int32) &&& 31)) = (16384 : Int32) from by decide]
      show W p e below _ (T44.setTop (mkF m 72 #[.val (.ref r0), .val (.int p1), .val (.int p2), .val (.int (1 : Int32))] [(.int (16384 : Int32)), (.int p1), (.int (16384 : Int32)), (.int (1 : Int32)), (.ref b27)]))
      refine W.go (fun _ hr => XS.isub X44.here hx rfl (hb hby d1_72) rfl hr) ?_
      show W p e below _ (T44.setTop (mkF m 73 #[.val (.ref r0), .val (.int p1), .val (.int p2), .val (.int (1 : Int32))] [(.int (p1 - (16384 : Int32))), (.int (16384 : Int32)), (.int (1 : Int32)), (.ref b27)]))
      have sb1 : ((p1 - (16384 : Int32))).toInt = p1.toInt - 16384 := own_sub p1 (16384 : Int32) (by have e0 : (16384 : Int32).toInt = 16384 := rfl; omega)
      refine W.callS X44 hx hZ hown (g := (mkF m 73 #[.val (.ref r0), .val (.int p1), .val (.int p2), .val (.int (1 : Int32))] [(.int (p1 - (16384 : Int32))), (.int (16384 : Int32)), (.int (1 : Int32)), (.ref b27)])) (by rw [hml]; rfl) (hw _ (List.mem_of_getElem? (i := 20) rfl)) (hw _ (List.mem_of_getElem? (i := 21) rfl)) (hw _ (List.mem_of_getElem? (i := 22) rfl)) (hw _ (List.mem_of_getElem? (i := 23) rfl)) e44 (rm3 l Z a0 hw (16384 : Int32) (p1 - (16384 : Int32)) (p1 - (16384 : Int32)) h38 n0 Z39 (own_minL _ (by omega))) (by decide) pd_86 rfl (argsL := [(.int (16384 : Int32)), (.int (p1 - (16384 : Int32)))]) (rest := [(.int (1 : Int32)), (.ref b27)]) rfl rfl rfl (hb hby d1_73) (W0 := 2) rfl (by decide) (by decide) (by decide) (by decide) (fun v45 T45 h45 L45 X45 e45 hQ45 => ?_)
      obtain ⟨rfl, N45q, hh45⟩ := hQ45
      obtain rfl := hh45.symm
      have N45 := Fr.app N38 N45q
      show W p e below _ (T45.setTop (mkF m 76 #[.val (.ref r0), .val (.int p1), .val (.int p2), .val (.int (1 : Int32))] [(.int (p1 - (16384 : Int32))), (.int (1 : Int32)), (.ref b27)]))
      obtain ⟨T46, h46, k46, X46, e46, E46, A46, E_b46, st46⟩ := newPE X45 hx hZ (hw _ (List.mem_of_getElem? (i := 24) rfl)) e45 (g := (mkF m 76 #[.val (.ref r0), .val (.int p1), .val (.int p2), .val (.int (1 : Int32))] [(.int (p1 - (16384 : Int32))), (.int (1 : Int32)), (.ref b27)])) rfl (hb hby d1_76) rfl (own_cap _ (by omega)).1 (cap := 16384) (own_cap _ (by omega)).2 (by decide) (by decide) (by decide) (ad := "[I") (by decide)
      obtain ⟨b46, g46⟩ : ∃ z, z = h38.size := ⟨_, rfl⟩
      rw [← g46] at A46 E_b46 st46
      have ne_r0_b46 : r0 ≠ b46 := Nat.ne_of_lt (Nat.lt_of_lt_of_le E_r0.lt (Nat.le_of_eq g46.symm))
      have ne_b27_b46 : b27 ≠ b46 := Nat.ne_of_lt (Nat.lt_of_lt_of_le E_b27.lt (Nat.le_of_eq g46.symm))
      have ne_b36_b46 : b36 ≠ b46 := Nat.ne_of_lt (Nat.lt_of_lt_of_le E_b36.lt (Nat.le_of_eq g46.symm))
      have g_b46 : n0 ≤ b46 := Nat.le_trans Z39 (Nat.le_of_eq g46.symm)
      have sz_b46 : h0.size ≤ b46 := Nat.le_trans KC.1 (Nat.le_of_eq g46.symm)
      replace E_r0 := E_r0.ext E46
      replace F_size_r0 := F_size_r0.ext E46
      replace F_pages_r0 := F_pages_r0.ext E46
      replace S_SHIFT := Sta.ext E46 S_SHIFT
      replace E_b27 := E_b27.ext E46
      replace V_b27 := V_b27.ext E46
      replace E_b36 := E_b36.ext E46
      replace V_b36 := V_b36.ext E46
      have Z47 : n0 ≤ h46.size := Nat.le_trans Z39 E46.1
      replace KC := KC.ext E46
      have V_b46 : Arv Z h46 b46 k46 .int (p1 - (16384 : Int32)) [] (.int (0 : Int32)) := Arv.new A46 (own_cap _ (by omega)).1
      refine W.go st46 ?_
      show W p e below _ (T46.setTop (mkF m 78 #[.val (.ref r0), .val (.int p1), .val (.int p2), .val (.int (1 : Int32))] [(.ref b46), (.int (1 : Int32)), (.ref b27)]))
      obtain ⟨cl48, Ar48, q48, S48, Nn48, H48, G48⟩ := V_b27
      have hin48 : ¬ ((1 : Int32) < 0 ∨ cl48.slots.size ≤ ((1 : Int32)).toNatClampNeg) := inb_of S48 ⟨by decide, by decide⟩
      obtain ⟨T48, h48, X48, e48, W48, st48⟩ := stR X46 hx hZ e46 Ar48 (j := (1 : Int32)) hin48 rfl (Sto.ofVA Ar48 q48 O_b27 (Ins.self E_b46)) (g := (mkF m 78 #[.val (.ref r0), .val (.int p1), .val (.int p2), .val (.int (1 : Int32))] [(.ref b46), (.int (1 : Int32)), (.ref b27)])) rfl rfl (hb hby d1_78)
      replace V_b27 : Arv Z h48 b27 k27 (.array .int) (2 : Int32) [(.ref b36), (.ref b46)] .null := Arv.set Ar48 q48 S48 Nn48 H48 G48 rfl W48 1 rfl (Nat.le_of_ble_eq_true rfl)
      replace E_r0 := E_r0.wr W48
      replace F_size_r0 := F_size_r0.other W48 (Or.inl ne_r0_b27)
      replace F_pages_r0 := F_pages_r0.other W48 (Or.inl ne_r0_b27)
      replace S_SHIFT := Sta.wr W48 S_SHIFT
      replace E_b27 := E_b27.wr W48
      replace E_b36 := E_b36.wr W48
      replace V_b36 := V_b36.other W48 (Ne.symm ne_b27_b36)
      replace E_b46 := E_b46.wr W48
      replace V_b46 := V_b46.other W48 (Ne.symm ne_b27_b46)
      have Z49 : n0 ≤ h48.size := Nat.le_trans Z47 (Keep.of_wr W48).1
      replace KC := KC.wr W48 (Or.inr sz_b27)
      refine W.go st48 ?_
      have N48 := Fr.snoc X48 N45 g_b27
      show W p e below _ (T48.setTop (mkF m 79 #[.val (.ref r0), .val (.int p1), .val (.int p2), .val (.int (1 : Int32))] []))
      refine W.go (fun _ hr => XS.iloadN X48.here hx rfl (hb hby d1_79) rfl hr) ?_
      show W p e below _ (T48.setTop (mkF m 80 #[.val (.ref r0), .val (.int p1), .val (.int p2), .val (.int (1 : Int32))] [(.int p2)]))
      refine W.go (fun _ hr => XS.ifYes X48.here hx rfl (pc0 := 80) (pc' := 93) rfl (hb hby d1_80) rfl ((if0 _ _).trans (teq hc80_40).1) (by decide) (by decide) hr) ?_
      show W p e below _ (T48.setTop (mkF m 93 #[.val (.ref r0), .val (.int p1), .val (.int p2), .val (.int (1 : Int32))] []))
      refine W.go (fun _ hr => XS.iinc X48.here hx rfl (hb hby d1_93) rfl (l' := #[.val (.ref r0), .val (.int p1), .val (.int p2), .val (.int (2 : Int32))]) (by rfl) hr) ?_
      show W p e below _ (T48.setTop (mkF m 96 #[.val (.ref r0), .val (.int p1), .val (.int p2), .val (.int (2 : Int32))] []))
      refine W.go (fun _ hr => XS.goto X48.here hx rfl (pc0 := 96) (pc' := 49) rfl (hb hby d1_96) (by decide) (by decide) hr) ?_
      show W p e below _ (T48.setTop (mkF m 49 #[.val (.ref r0), .val (.int p1), .val (.int p2), .val (.int (2 : Int32))] []))
      refine W.go (fun _ hr => XS.iloadN X48.here hx rfl (hb hby d1_49) rfl hr) ?_
      show W p e below _ (T48.setTop (mkF m 50 #[.val (.ref r0), .val (.int p1), .val (.int p2), .val (.int (2 : Int32))] [(.int (2 : Int32))]))
      refine W.go (fun _ hr => XS.aloadN X48.here hx rfl (hb hby d1_50) rfl rfl hr) ?_
      show W p e below _ (T48.setTop (mkF m 51 #[.val (.ref r0), .val (.int p1), .val (.int p2), .val (.int (2 : Int32))] [(.ref r0), (.int (2 : Int32))]))
      obtain ⟨T50, X50, e50, st50⟩ := getF X48 hx hZ hown (host := "") (Or.inl (hw _ (List.mem_of_getElem? (i := 18) rfl))) Via.refl e48 F_pages_r0 (g := (mkF m 51 #[.val (.ref r0), .val (.int p1), .val (.int p2), .val (.int (2 : Int32))] [(.ref r0), (.int (2 : Int32))])) rfl rfl (hb hby d1_51)
      refine W.go st50 ?_
      show W p e below _ (T50.setTop (mkF m 54 #[.val (.ref r0), .val (.int p1), .val (.int p2), .val (.int (2 : Int32))] [(.ref b27), (.int (2 : Int32))]))
      obtain ⟨cl51, Ar51, q51, S51, Nn51, H51, G51⟩ := id V_b27
      refine W.go (X50.arraylength hx (by rw [e50]; exact Ar51.1) (State.isArrayOf_alike hZ.alike Ar51.2.1) (g := (mkF m 54 #[.val (.ref r0), .val (.int p1), .val (.int p2), .val (.int (2 : Int32))] [(.ref b27), (.int (2 : Int32))])) rfl rfl (hb hby d1_54)) ?_
      rw [len_of S51 Nn51]
      show W p e below _ (T50.setTop (mkF m 55 #[.val (.ref r0), .val (.int p1), .val (.int p2), .val (.int (2 : Int32))] [(.int (2 : Int32)), (.int (2 : Int32))]))
      refine W.go (fun _ hr => XS.icmpYes X50.here hx rfl (pc0 := 55) (pc' := 99) rfl (hb hby d1_55) rfl (flt (by decide : ¬ ((2 : Int32) < (2 : Int32)))).2.1 (by decide) (by decide) hr) ?_
      show W p e below _ (T50.setTop (mkF m 99 #[.val (.ref r0), .val (.int p1), .val (.int p2), .val (.int (2 : Int32))] []))
      subst hc80_40
      exact W.retV X50 hx hlk hret (hb hby d1_99) (by decide) (by decide) e50 ⟨rfl, N48, E_r0, S_SHIFT, KC.1, own_pages2 (by omega) F_pages_r0 F_size_r0 V_b27 ⟨_, _, _, rfl, g_b36, (Ne.symm ne_b27_b36), (Ne.symm ne_r0_b36), V_b36, Or.inl (by decide)⟩ ⟨_, _, _, rfl, g_b46, (Ne.symm ne_b27_b46), (Ne.symm ne_r0_b46), V_b46, Or.inr (by omega)⟩ ne_b36_b46⟩
    · refine W.go (fun _ hr => XS.ifNo X38.here hx rfl (hb hby d1_80) rfl ((if0 _ _).trans (feq hc80_40).1) hr) ?_
      show W p e below _ (T38.setTop (mkF m 83 #[.val (.ref r0), .val (.int p1), .val (.int p2), .val (.int (0 : Int32))] []))
      refine W.go (fun _ hr => XS.aloadN X38.here hx rfl (hb hby d1_83) rfl rfl hr) ?_
      show W p e below _ (T38.setTop (mkF m 84 #[.val (.ref r0), .val (.int p1), .val (.int p2), .val (.int (0 : Int32))] [(.ref r0)]))
      obtain ⟨T52, X52, e52, st52⟩ := getF X38 hx hZ hown (host := "") (Or.inl (hw _ (List.mem_of_getElem? (i := 18) rfl))) Via.refl e38 F_pages_r0 (g := (mkF m 84 #[.val (.ref r0), .val (.int p1), .val (.int p2), .val (.int (0 : Int32))] [(.ref r0)])) rfl rfl (hb hby d1_84)
      refine W.go st52 ?_
      show W p e below _ (T52.setTop (mkF m 87 #[.val (.ref r0), .val (.int p1), .val (.int p2), .val (.int (0 : Int32))] [(.ref b27)]))
      refine W.go (fun _ hr => XS.iloadN X52.here hx rfl (hb hby d1_87) rfl hr) ?_
      show W p e below _ (T52.setTop (mkF m 88 #[.val (.ref r0), .val (.int p1), .val (.int p2), .val (.int (0 : Int32))] [(.int (0 : Int32)), (.ref b27)]))
      obtain ⟨cl53, Ar53, q53, S53, Nn53, H53, G53⟩ := id V_b27
      have hin53 : ¬ ((0 : Int32) < 0 ∨ cl53.slots.size ≤ ((0 : Int32)).toNatClampNeg) := inb_of S53 ⟨by decide, by decide⟩
      have hat53 : cl53.slots[((0 : Int32)).toNatClampNeg]? = some (.ref b36) := H53.at hin53 rfl
      refine W.go (X52.aaload hx (j := (0 : Int32)) (v := (.ref b36)) (by rw [e52]; exact Ar53.1) (State.isArrayOf_alike hZ.alike Ar53.2.1) rfl Ar53.2.2 hin53 hat53 (g := (mkF m 88 #[.val (.ref r0), .val (.int p1), .val (.int p2), .val (.int (0 : Int32))] [(.int (0 : Int32)), (.ref b27)])) rfl rfl (hb hby d1_88)) ?_
      show W p e below _ (T52.setTop (mkF m 89 #[.val (.ref r0), .val (.int p1), .val (.int p2), .val (.int (0 : Int32))] [(.ref b36)]))
      refine W.go (fun _ hr => XS.iloadN X52.here hx rfl (hb hby d1_89) rfl hr) ?_
      show W p e below _ (T52.setTop (mkF m 90 #[.val (.ref r0), .val (.int p1), .val (.int p2), .val (.int (0 : Int32))] [(.int p2), (.ref b36)]))
      refine W.callS X52 hx hZ hown (g := (mkF m 90 #[.val (.ref r0), .val (.int p1), .val (.int p2), .val (.int (0 : Int32))] [(.int p2), (.ref b36)])) (by rw [hml]; rfl) (hw _ (List.mem_of_getElem? (i := 26) rfl)) (hw _ (List.mem_of_getElem? (i := 27) rfl)) (hw _ (List.mem_of_getElem? (i := 28) rfl)) (hw _ (List.mem_of_getElem? (i := 29) rfl)) e52 (rm4 l Z a0 hw b36 p2 (16384 : Int32) k36 h38 n0 Z39 E_b36 V_b36 (by decide) g_b36) (by decide) pd_100 rfl (argsL := [(.ref b36), (.int p2)]) (rest := []) rfl rfl rfl (hb hby d1_90) (W0 := 0) rfl (by decide) (by decide) (by decide) (by decide) (fun v54 T54 h54 L54 X54 e54 hQ54 => ?_)
      obtain ⟨rfl, N54q, K54, Ee54, Vf54⟩ := hQ54
      have N54 := Fr.app N38 N54q
      have nsK54 := (nsS E_b36.nostat ns0)
      replace E_r0 := E_r0.keep K54
      replace F_size_r0 := F_size_r0.keep K54 (ninS ne_r0_b36 nin0)
      replace F_pages_r0 := F_pages_r0.keep K54 (ninS ne_r0_b36 nin0)
      replace S_SHIFT := Sta.keep S_SHIFT K54 nsK54
      replace E_b27 := E_b27.keep K54
      replace V_b27 := V_b27.keep K54 (ninS ne_b27_b36 nin0)
      replace E_b36 := E_b36.keep K54
      have Z55 : n0 ≤ h54.size := Nat.le_trans Z39 K54.1
      replace KC := KC.trans K54 (allS (Or.inr sz_b36) all0)
      show W p e below _ (T54.setTop (mkF m 93 #[.val (.ref r0), .val (.int p1), .val (.int p2), .val (.int (0 : Int32))] []))
      refine W.go (fun _ hr => XS.iinc X54.here hx rfl (hb hby d1_93) rfl (l' := #[.val (.ref r0), .val (.int p1), .val (.int p2), .val (.int (1 : Int32))]) (by rfl) hr) ?_
      show W p e below _ (T54.setTop (mkF m 96 #[.val (.ref r0), .val (.int p1), .val (.int p2), .val (.int (1 : Int32))] []))
      refine W.go (fun _ hr => XS.goto X54.here hx rfl (pc0 := 96) (pc' := 49) rfl (hb hby d1_96) (by decide) (by decide) hr) ?_
      show W p e below _ (T54.setTop (mkF m 49 #[.val (.ref r0), .val (.int p1), .val (.int p2), .val (.int (1 : Int32))] []))
      refine W.go (fun _ hr => XS.iloadN X54.here hx rfl (hb hby d1_49) rfl hr) ?_
      show W p e below _ (T54.setTop (mkF m 50 #[.val (.ref r0), .val (.int p1), .val (.int p2), .val (.int (1 : Int32))] [(.int (1 : Int32))]))
      refine W.go (fun _ hr => XS.aloadN X54.here hx rfl (hb hby d1_50) rfl rfl hr) ?_
      show W p e below _ (T54.setTop (mkF m 51 #[.val (.ref r0), .val (.int p1), .val (.int p2), .val (.int (1 : Int32))] [(.ref r0), (.int (1 : Int32))]))
      obtain ⟨T56, X56, e56, st56⟩ := getF X54 hx hZ hown (host := "") (Or.inl (hw _ (List.mem_of_getElem? (i := 18) rfl))) Via.refl e54 F_pages_r0 (g := (mkF m 51 #[.val (.ref r0), .val (.int p1), .val (.int p2), .val (.int (1 : Int32))] [(.ref r0), (.int (1 : Int32))])) rfl rfl (hb hby d1_51)
      refine W.go st56 ?_
      show W p e below _ (T56.setTop (mkF m 54 #[.val (.ref r0), .val (.int p1), .val (.int p2), .val (.int (1 : Int32))] [(.ref b27), (.int (1 : Int32))]))
      obtain ⟨cl57, Ar57, q57, S57, Nn57, H57, G57⟩ := id V_b27
      refine W.go (X56.arraylength hx (by rw [e56]; exact Ar57.1) (State.isArrayOf_alike hZ.alike Ar57.2.1) (g := (mkF m 54 #[.val (.ref r0), .val (.int p1), .val (.int p2), .val (.int (1 : Int32))] [(.ref b27), (.int (1 : Int32))])) rfl rfl (hb hby d1_54)) ?_
      rw [len_of S57 Nn57]
      show W p e below _ (T56.setTop (mkF m 55 #[.val (.ref r0), .val (.int p1), .val (.int p2), .val (.int (1 : Int32))] [(.int (2 : Int32)), (.int (1 : Int32))]))
      refine W.go (fun _ hr => XS.icmpNo X56.here hx rfl (hb hby d1_55) rfl (tlt (by decide : ((1 : Int32) < (2 : Int32)))).2.1 hr) ?_
      show W p e below _ (T56.setTop (mkF m 58 #[.val (.ref r0), .val (.int p1), .val (.int p2), .val (.int (1 : Int32))] []))
      refine W.go (fun _ hr => XS.aloadN X56.here hx rfl (hb hby d1_58) rfl rfl hr) ?_
      show W p e below _ (T56.setTop (mkF m 59 #[.val (.ref r0), .val (.int p1), .val (.int p2), .val (.int (1 : Int32))] [(.ref r0)]))
      obtain ⟨T58, X58, e58, st58⟩ := getF X56 hx hZ hown (host := "") (Or.inl (hw _ (List.mem_of_getElem? (i := 18) rfl))) Via.refl e56 F_pages_r0 (g := (mkF m 59 #[.val (.ref r0), .val (.int p1), .val (.int p2), .val (.int (1 : Int32))] [(.ref r0)])) rfl rfl (hb hby d1_59)
      refine W.go st58 ?_
      show W p e below _ (T58.setTop (mkF m 62 #[.val (.ref r0), .val (.int p1), .val (.int p2), .val (.int (1 : Int32))] [(.ref b27)]))
      refine W.go (fun _ hr => XS.iloadN X58.here hx rfl (hb hby d1_62) rfl hr) ?_
      show W p e below _ (T58.setTop (mkF m 63 #[.val (.ref r0), .val (.int p1), .val (.int p2), .val (.int (1 : Int32))] [(.int (1 : Int32)), (.ref b27)]))
      refine W.go (fun _ hr => XS.sipush X58.here hx rfl (hb hby d1_63) hr) ?_
      show W p e below _ (T58.setTop (mkF m 66 #[.val (.ref r0), .val (.int p1), .val (.int p2), .val (.int (1 : Int32))] [(.int (16384 : Int32)), (.int (1 : Int32)), (.ref b27)]))
      refine W.go (fun _ hr => XS.iloadN X58.here hx rfl (hb hby d1_66) rfl hr) ?_
      show W p e below _ (T58.setTop (mkF m 67 #[.val (.ref r0), .val (.int p1), .val (.int p2), .val (.int (1 : Int32))] [(.int p1), (.int (16384 : Int32)), (.int (1 : Int32)), (.ref b27)]))
      refine W.go (fun _ hr => XS.iloadN X58.here hx rfl (hb hby d1_67) rfl hr) ?_
      show W p e below _ (T58.setTop (mkF m 68 #[.val (.ref r0), .val (.int p1), .val (.int p2), .val (.int (1 : Int32))] [(.int (1 : Int32)), (.int p1), (.int (16384 : Int32)), (.int (1 : Int32)), (.ref b27)]))
      obtain ⟨T59, X59, e59, st59⟩ := getS2 X58 hx hZ hown (host := "") (Or.inl (hw _ (List.mem_of_getElem? (i := 14) rfl))) Via.refl e58 S_SHIFT (g := (mkF m 68 #[.val (.ref r0), .val (.int p1), .val (.int p2), .val (.int (1 : Int32))] [(.int (1 : Int32)), (.int p1), (.int (16384 : Int32)), (.int (1 : Int32)), (.ref b27)])) rfl (hb hby d1_68)
      refine W.go st59 ?_
      show W p e below _ (T59.setTop (mkF m 71 #[.val (.ref r0), .val (.int p1), .val (.int p2), .val (.int (1 : Int32))] [(.int (14 : Int32)), (.int (1 : Int32)), (.int p1), (.int (16384 : Int32)), (.int (1 : Int32)), (.ref b27)]))
      refine W.go (fun _ hr => XS.ishl X59.here hx rfl (hb hby d1_71) rfl hr) ?_
      show W p e below _ (T59.setTop (mkF m 72 #[.val (.ref r0), .val (.int p1), .val (.int p2), .val (.int (1 : Int32))] [(.int ((1 : Int32) <<< ((14 : Int32) &&& 31))), (.int p1), (.int (16384 : Int32)), (.int (1 : Int32)), (.ref b27)]))
      rw [show ((1 : Int32) <<< ((14 : Int32) &&& 31)) = (16384 : Int32) from by decide]
      show W p e below _ (T59.setTop (mkF m 72 #[.val (.ref r0), .val (.int p1), .val (.int p2), .val (.int (1 : Int32))] [(.int (16384 : Int32)), (.int p1), (.int (16384 : Int32)), (.int (1 : Int32)), (.ref b27)]))
      refine W.go (fun _ hr => XS.isub X59.here hx rfl (hb hby d1_72) rfl hr) ?_
      show W p e below _ (T59.setTop (mkF m 73 #[.val (.ref r0), .val (.int p1), .val (.int p2), .val (.int (1 : Int32))] [(.int (p1 - (16384 : Int32))), (.int (16384 : Int32)), (.int (1 : Int32)), (.ref b27)]))
      have sb1 : ((p1 - (16384 : Int32))).toInt = p1.toInt - 16384 := own_sub p1 (16384 : Int32) (by have e0 : (16384 : Int32).toInt = 16384 := rfl; omega)
      refine W.callS X59 hx hZ hown (g := (mkF m 73 #[.val (.ref r0), .val (.int p1), .val (.int p2), .val (.int (1 : Int32))] [(.int (p1 - (16384 : Int32))), (.int (16384 : Int32)), (.int (1 : Int32)), (.ref b27)])) (by rw [hml]; rfl) (hw _ (List.mem_of_getElem? (i := 20) rfl)) (hw _ (List.mem_of_getElem? (i := 21) rfl)) (hw _ (List.mem_of_getElem? (i := 22) rfl)) (hw _ (List.mem_of_getElem? (i := 23) rfl)) e59 (rm3 l Z a0 hw (16384 : Int32) (p1 - (16384 : Int32)) (p1 - (16384 : Int32)) h54 n0 Z55 (own_minL _ (by omega))) (by decide) pd_86 rfl (argsL := [(.int (16384 : Int32)), (.int (p1 - (16384 : Int32)))]) (rest := [(.int (1 : Int32)), (.ref b27)]) rfl rfl rfl (hb hby d1_73) (W0 := 2) rfl (by decide) (by decide) (by decide) (by decide) (fun v60 T60 h60 L60 X60 e60 hQ60 => ?_)
      obtain ⟨rfl, N60q, hh60⟩ := hQ60
      obtain rfl := hh60.symm
      have N60 := Fr.app N54 N60q
      show W p e below _ (T60.setTop (mkF m 76 #[.val (.ref r0), .val (.int p1), .val (.int p2), .val (.int (1 : Int32))] [(.int (p1 - (16384 : Int32))), (.int (1 : Int32)), (.ref b27)]))
      obtain ⟨T61, h61, k61, X61, e61, E61, A61, E_b61, st61⟩ := newPE X60 hx hZ (hw _ (List.mem_of_getElem? (i := 24) rfl)) e60 (g := (mkF m 76 #[.val (.ref r0), .val (.int p1), .val (.int p2), .val (.int (1 : Int32))] [(.int (p1 - (16384 : Int32))), (.int (1 : Int32)), (.ref b27)])) rfl (hb hby d1_76) rfl (own_cap _ (by omega)).1 (cap := 16384) (own_cap _ (by omega)).2 (by decide) (by decide) (by decide) (ad := "[I") (by decide)
      obtain ⟨b61, g61⟩ : ∃ z, z = h54.size := ⟨_, rfl⟩
      rw [← g61] at A61 E_b61 st61
      have ne_r0_b61 : r0 ≠ b61 := Nat.ne_of_lt (Nat.lt_of_lt_of_le E_r0.lt (Nat.le_of_eq g61.symm))
      have ne_b27_b61 : b27 ≠ b61 := Nat.ne_of_lt (Nat.lt_of_lt_of_le E_b27.lt (Nat.le_of_eq g61.symm))
      have ne_b36_b61 : b36 ≠ b61 := Nat.ne_of_lt (Nat.lt_of_lt_of_le E_b36.lt (Nat.le_of_eq g61.symm))
      have g_b61 : n0 ≤ b61 := Nat.le_trans Z55 (Nat.le_of_eq g61.symm)
      have sz_b61 : h0.size ≤ b61 := Nat.le_trans KC.1 (Nat.le_of_eq g61.symm)
      replace E_r0 := E_r0.ext E61
      replace F_size_r0 := F_size_r0.ext E61
      replace F_pages_r0 := F_pages_r0.ext E61
      replace S_SHIFT := Sta.ext E61 S_SHIFT
      replace E_b27 := E_b27.ext E61
      replace V_b27 := V_b27.ext E61
      replace E_b36 := E_b36.ext E61
      replace Vf54 := Vf54.ext E61
      have Z62 : n0 ≤ h61.size := Nat.le_trans Z55 E61.1
      replace KC := KC.ext E61
      have V_b61 : Arv Z h61 b61 k61 .int (p1 - (16384 : Int32)) [] (.int (0 : Int32)) := Arv.new A61 (own_cap _ (by omega)).1
      refine W.go st61 ?_
      show W p e below _ (T61.setTop (mkF m 78 #[.val (.ref r0), .val (.int p1), .val (.int p2), .val (.int (1 : Int32))] [(.ref b61), (.int (1 : Int32)), (.ref b27)]))
      obtain ⟨cl63, Ar63, q63, S63, Nn63, H63, G63⟩ := V_b27
      have hin63 : ¬ ((1 : Int32) < 0 ∨ cl63.slots.size ≤ ((1 : Int32)).toNatClampNeg) := inb_of S63 ⟨by decide, by decide⟩
      obtain ⟨T63, h63, X63, e63, W63, st63⟩ := stR X61 hx hZ e61 Ar63 (j := (1 : Int32)) hin63 rfl (Sto.ofVA Ar63 q63 O_b27 (Ins.self E_b61)) (g := (mkF m 78 #[.val (.ref r0), .val (.int p1), .val (.int p2), .val (.int (1 : Int32))] [(.ref b61), (.int (1 : Int32)), (.ref b27)])) rfl rfl (hb hby d1_78)
      replace V_b27 : Arv Z h63 b27 k27 (.array .int) (2 : Int32) [(.ref b36), (.ref b61)] .null := Arv.set Ar63 q63 S63 Nn63 H63 G63 rfl W63 1 rfl (Nat.le_of_ble_eq_true rfl)
      replace E_r0 := E_r0.wr W63
      replace F_size_r0 := F_size_r0.other W63 (Or.inl ne_r0_b27)
      replace F_pages_r0 := F_pages_r0.other W63 (Or.inl ne_r0_b27)
      replace S_SHIFT := Sta.wr W63 S_SHIFT
      replace E_b27 := E_b27.wr W63
      replace E_b36 := E_b36.wr W63
      replace Vf54 := Vf54.other W63 (Ne.symm ne_b27_b36)
      replace E_b61 := E_b61.wr W63
      replace V_b61 := V_b61.other W63 (Ne.symm ne_b27_b61)
      have Z64 : n0 ≤ h63.size := Nat.le_trans Z62 (Keep.of_wr W63).1
      replace KC := KC.wr W63 (Or.inr sz_b27)
      refine W.go st63 ?_
      have N63 := Fr.snoc X63 N60 g_b27
      show W p e below _ (T63.setTop (mkF m 79 #[.val (.ref r0), .val (.int p1), .val (.int p2), .val (.int (1 : Int32))] []))
      refine W.go (fun _ hr => XS.iloadN X63.here hx rfl (hb hby d1_79) rfl hr) ?_
      show W p e below _ (T63.setTop (mkF m 80 #[.val (.ref r0), .val (.int p1), .val (.int p2), .val (.int (1 : Int32))] [(.int p2)]))
      refine W.go (fun _ hr => XS.ifNo X63.here hx rfl (hb hby d1_80) rfl ((if0 _ _).trans (feq hc80_40).1) hr) ?_
      show W p e below _ (T63.setTop (mkF m 83 #[.val (.ref r0), .val (.int p1), .val (.int p2), .val (.int (1 : Int32))] []))
      refine W.go (fun _ hr => XS.aloadN X63.here hx rfl (hb hby d1_83) rfl rfl hr) ?_
      show W p e below _ (T63.setTop (mkF m 84 #[.val (.ref r0), .val (.int p1), .val (.int p2), .val (.int (1 : Int32))] [(.ref r0)]))
      obtain ⟨T65, X65, e65, st65⟩ := getF X63 hx hZ hown (host := "") (Or.inl (hw _ (List.mem_of_getElem? (i := 18) rfl))) Via.refl e63 F_pages_r0 (g := (mkF m 84 #[.val (.ref r0), .val (.int p1), .val (.int p2), .val (.int (1 : Int32))] [(.ref r0)])) rfl rfl (hb hby d1_84)
      refine W.go st65 ?_
      show W p e below _ (T65.setTop (mkF m 87 #[.val (.ref r0), .val (.int p1), .val (.int p2), .val (.int (1 : Int32))] [(.ref b27)]))
      refine W.go (fun _ hr => XS.iloadN X65.here hx rfl (hb hby d1_87) rfl hr) ?_
      show W p e below _ (T65.setTop (mkF m 88 #[.val (.ref r0), .val (.int p1), .val (.int p2), .val (.int (1 : Int32))] [(.int (1 : Int32)), (.ref b27)]))
      obtain ⟨cl66, Ar66, q66, S66, Nn66, H66, G66⟩ := id V_b27
      have hin66 : ¬ ((1 : Int32) < 0 ∨ cl66.slots.size ≤ ((1 : Int32)).toNatClampNeg) := inb_of S66 ⟨by decide, by decide⟩
      have hat66 : cl66.slots[((1 : Int32)).toNatClampNeg]? = some (.ref b61) := H66.at hin66 rfl
      refine W.go (X65.aaload hx (j := (1 : Int32)) (v := (.ref b61)) (by rw [e65]; exact Ar66.1) (State.isArrayOf_alike hZ.alike Ar66.2.1) rfl Ar66.2.2 hin66 hat66 (g := (mkF m 88 #[.val (.ref r0), .val (.int p1), .val (.int p2), .val (.int (1 : Int32))] [(.int (1 : Int32)), (.ref b27)])) rfl rfl (hb hby d1_88)) ?_
      show W p e below _ (T65.setTop (mkF m 89 #[.val (.ref r0), .val (.int p1), .val (.int p2), .val (.int (1 : Int32))] [(.ref b61)]))
      refine W.go (fun _ hr => XS.iloadN X65.here hx rfl (hb hby d1_89) rfl hr) ?_
      show W p e below _ (T65.setTop (mkF m 90 #[.val (.ref r0), .val (.int p1), .val (.int p2), .val (.int (1 : Int32))] [(.int p2), (.ref b61)]))
      refine W.callS X65 hx hZ hown (g := (mkF m 90 #[.val (.ref r0), .val (.int p1), .val (.int p2), .val (.int (1 : Int32))] [(.int p2), (.ref b61)])) (by rw [hml]; rfl) (hw _ (List.mem_of_getElem? (i := 26) rfl)) (hw _ (List.mem_of_getElem? (i := 27) rfl)) (hw _ (List.mem_of_getElem? (i := 28) rfl)) (hw _ (List.mem_of_getElem? (i := 29) rfl)) e65 (rm4 l Z a0 hw b61 p2 (p1 - (16384 : Int32)) k61 h63 n0 Z64 E_b61 V_b61 (own_cap _ (by omega)).1 g_b61) (by decide) pd_100 rfl (argsL := [(.ref b61), (.int p2)]) (rest := []) rfl rfl rfl (hb hby d1_90) (W0 := 0) rfl (by decide) (by decide) (by decide) (by decide) (fun v67 T67 h67 L67 X67 e67 hQ67 => ?_)
      obtain ⟨rfl, N67q, K67, Ee67, Vf67⟩ := hQ67
      have N67 := Fr.app N63 N67q
      have nsK67 := (nsS E_b61.nostat ns0)
      replace E_r0 := E_r0.keep K67
      replace F_size_r0 := F_size_r0.keep K67 (ninS ne_r0_b61 nin0)
      replace F_pages_r0 := F_pages_r0.keep K67 (ninS ne_r0_b61 nin0)
      replace S_SHIFT := Sta.keep S_SHIFT K67 nsK67
      replace E_b27 := E_b27.keep K67
      replace V_b27 := V_b27.keep K67 (ninS ne_b27_b61 nin0)
      replace E_b36 := E_b36.keep K67
      replace Vf54 := Vf54.keep K67 (ninS ne_b36_b61 nin0)
      replace E_b61 := E_b61.keep K67
      have Z68 : n0 ≤ h67.size := Nat.le_trans Z64 K67.1
      replace KC := KC.trans K67 (allS (Or.inr sz_b61) all0)
      show W p e below _ (T67.setTop (mkF m 93 #[.val (.ref r0), .val (.int p1), .val (.int p2), .val (.int (1 : Int32))] []))
      refine W.go (fun _ hr => XS.iinc X67.here hx rfl (hb hby d1_93) rfl (l' := #[.val (.ref r0), .val (.int p1), .val (.int p2), .val (.int (2 : Int32))]) (by rfl) hr) ?_
      show W p e below _ (T67.setTop (mkF m 96 #[.val (.ref r0), .val (.int p1), .val (.int p2), .val (.int (2 : Int32))] []))
      refine W.go (fun _ hr => XS.goto X67.here hx rfl (pc0 := 96) (pc' := 49) rfl (hb hby d1_96) (by decide) (by decide) hr) ?_
      show W p e below _ (T67.setTop (mkF m 49 #[.val (.ref r0), .val (.int p1), .val (.int p2), .val (.int (2 : Int32))] []))
      refine W.go (fun _ hr => XS.iloadN X67.here hx rfl (hb hby d1_49) rfl hr) ?_
      show W p e below _ (T67.setTop (mkF m 50 #[.val (.ref r0), .val (.int p1), .val (.int p2), .val (.int (2 : Int32))] [(.int (2 : Int32))]))
      refine W.go (fun _ hr => XS.aloadN X67.here hx rfl (hb hby d1_50) rfl rfl hr) ?_
      show W p e below _ (T67.setTop (mkF m 51 #[.val (.ref r0), .val (.int p1), .val (.int p2), .val (.int (2 : Int32))] [(.ref r0), (.int (2 : Int32))]))
      obtain ⟨T69, X69, e69, st69⟩ := getF X67 hx hZ hown (host := "") (Or.inl (hw _ (List.mem_of_getElem? (i := 18) rfl))) Via.refl e67 F_pages_r0 (g := (mkF m 51 #[.val (.ref r0), .val (.int p1), .val (.int p2), .val (.int (2 : Int32))] [(.ref r0), (.int (2 : Int32))])) rfl rfl (hb hby d1_51)
      refine W.go st69 ?_
      show W p e below _ (T69.setTop (mkF m 54 #[.val (.ref r0), .val (.int p1), .val (.int p2), .val (.int (2 : Int32))] [(.ref b27), (.int (2 : Int32))]))
      obtain ⟨cl70, Ar70, q70, S70, Nn70, H70, G70⟩ := id V_b27
      refine W.go (X69.arraylength hx (by rw [e69]; exact Ar70.1) (State.isArrayOf_alike hZ.alike Ar70.2.1) (g := (mkF m 54 #[.val (.ref r0), .val (.int p1), .val (.int p2), .val (.int (2 : Int32))] [(.ref b27), (.int (2 : Int32))])) rfl rfl (hb hby d1_54)) ?_
      rw [len_of S70 Nn70]
      show W p e below _ (T69.setTop (mkF m 55 #[.val (.ref r0), .val (.int p1), .val (.int p2), .val (.int (2 : Int32))] [(.int (2 : Int32)), (.int (2 : Int32))]))
      refine W.go (fun _ hr => XS.icmpYes X69.here hx rfl (pc0 := 55) (pc' := 99) rfl (hb hby d1_55) rfl (flt (by decide : ¬ ((2 : Int32) < (2 : Int32)))).2.1 (by decide) (by decide) hr) ?_
      show W p e below _ (T69.setTop (mkF m 99 #[.val (.ref r0), .val (.int p1), .val (.int p2), .val (.int (2 : Int32))] []))
      exact W.retV X69 hx hlk hret (hb hby d1_99) (by decide) (by decide) e69 ⟨rfl, N67, E_r0, S_SHIFT, KC.1, own_pages2 (by omega) F_pages_r0 F_size_r0 V_b27 ⟨_, _, _, rfl, g_b36, (Ne.symm ne_b27_b36), (Ne.symm ne_r0_b36), Vf54, Or.inl (by decide)⟩ ⟨_, _, _, rfl, g_b61, (Ne.symm ne_b27_b61), (Ne.symm ne_r0_b61), Vf67, Or.inr (by omega)⟩ ne_b36_b61⟩
  · rw [qP]
    show W p e below _ (T4.setTop (mkF m 41 #[.val (.ref r0), .val (.int p1), .val (.int p2), .unset] [(.int (3 : Int32)), (.ref r0)]))
    obtain ⟨T71, h71, k71, X71, e71, E71, A71, E_b71, O_b71, st71⟩ := newRA X4 hx hZ (ty := .int) hown rfl (hw _ (List.mem_of_getElem? (i := 16) rfl)) (hw _ (List.mem_of_getElem? (i := 17) rfl)) e4 (g := (mkF m 41 #[.val (.ref r0), .val (.int p1), .val (.int p2), .unset] [(.int (3 : Int32)), (.ref r0)])) rfl (hb hby d1_41) rfl (by decide) (cap := 3) (by decide) (by decide) (by decide) (by decide) (ad := "[[I") (by decide)
    obtain ⟨b71, g71⟩ : ∃ z, z = h2.size := ⟨_, rfl⟩
    rw [← g71] at A71 E_b71 st71
    have ne_r0_b71 : r0 ≠ b71 := Nat.ne_of_lt (Nat.lt_of_lt_of_le E_r0.lt (Nat.le_of_eq g71.symm))
    have g_b71 : n0 ≤ b71 := Nat.le_trans Z3 (Nat.le_of_eq g71.symm)
    have sz_b71 : h0.size ≤ b71 := Nat.le_trans KC.1 (Nat.le_of_eq g71.symm)
    replace E_r0 := E_r0.ext E71
    replace F_size_r0 := F_size_r0.ext E71
    replace F_pages_r0 := F_pages_r0.ext E71
    replace S_SHIFT := Sta.ext E71 S_SHIFT
    have Z72 : n0 ≤ h71.size := Nat.le_trans Z3 E71.1
    replace KC := KC.ext E71
    have V_b71 : Arv Z h71 b71 k71 (.array .int) (3 : Int32) [.null, .null, .null] .null := (Arv.new A71 (by decide)).pad (pad_rep [] .null 3)
    refine W.go st71 ?_
    show W p e below _ (T71.setTop (mkF m 44 #[.val (.ref r0), .val (.int p1), .val (.int p2), .unset] [(.ref b71), (.ref r0)]))
    obtain ⟨T73, h73, X73, e73, W73, st73⟩ := putF X71 hx hZ hown (host := "") (Or.inl (hw _ (List.mem_of_getElem? (i := 18) rfl))) Via.refl e71 F_pages_r0 E_r0 (Or.inr ⟨(hw _ (List.mem_of_getElem? (i := 19) rfl)), rfl, hnm⟩) (hw _ (List.mem_of_getElem? (i := 3) rfl)) (ty := (.array (.array .int))) (by decide) rfl rfl (g := (mkF m 44 #[.val (.ref r0), .val (.int p1), .val (.int p2), .unset] [(.ref b71), (.ref r0)])) rfl rfl (hb hby d1_44)
    refine W.go st73 ?_
    replace E_r0 := E_r0.wr W73
    replace F_size_r0 := F_size_r0.other W73 (Or.inr (slot_ne (Or.inr (hw _ (List.mem_of_getElem? (i := 12) rfl))) (Or.inr (hw _ (List.mem_of_getElem? (i := 19) rfl))) (by decide) (t := .int) (t' := (.array (.array .int))) (by decide) (by decide)))
    replace F_pages_r0 := F_pages_r0.same W73
    replace S_SHIFT := Sta.wr W73 S_SHIFT
    replace E_b71 := E_b71.wr W73
    replace V_b71 := V_b71.other W73 (Ne.symm ne_r0_b71)
    have Z74 : n0 ≤ h73.size := Nat.le_trans Z72 (Keep.of_wr W73).1
    replace KC := KC.wr W73 (Or.inl (List.mem_of_getElem? (i := 0) rfl))
    have N73 := Fr.snoc X73 N2 g_r0
    show W p e below _ (T73.setTop (mkF m 47 #[.val (.ref r0), .val (.int p1), .val (.int p2), .unset] []))
    refine W.go (fun _ hr => XS.iconst X73.here hx rfl (hb hby d1_47) hr) ?_
    show W p e below _ (T73.setTop (mkF m 48 #[.val (.ref r0), .val (.int p1), .val (.int p2), .unset] [(.int (0 : Int32))]))
    refine W.go (fun _ hr => XS.istoreN X73.here hx rfl (hb hby d1_48) rfl (l' := #[.val (.ref r0), .val (.int p1), .val (.int p2), .val (.int (0 : Int32))]) rfl hr) ?_
    show W p e below _ (T73.setTop (mkF m 49 #[.val (.ref r0), .val (.int p1), .val (.int p2), .val (.int (0 : Int32))] []))
    refine W.go (fun _ hr => XS.iloadN X73.here hx rfl (hb hby d1_49) rfl hr) ?_
    show W p e below _ (T73.setTop (mkF m 50 #[.val (.ref r0), .val (.int p1), .val (.int p2), .val (.int (0 : Int32))] [(.int (0 : Int32))]))
    refine W.go (fun _ hr => XS.aloadN X73.here hx rfl (hb hby d1_50) rfl rfl hr) ?_
    show W p e below _ (T73.setTop (mkF m 51 #[.val (.ref r0), .val (.int p1), .val (.int p2), .val (.int (0 : Int32))] [(.ref r0), (.int (0 : Int32))]))
    obtain ⟨T75, X75, e75, st75⟩ := getF X73 hx hZ hown (host := "") (Or.inl (hw _ (List.mem_of_getElem? (i := 18) rfl))) Via.refl e73 F_pages_r0 (g := (mkF m 51 #[.val (.ref r0), .val (.int p1), .val (.int p2), .val (.int (0 : Int32))] [(.ref r0), (.int (0 : Int32))])) rfl rfl (hb hby d1_51)
    refine W.go st75 ?_
    show W p e below _ (T75.setTop (mkF m 54 #[.val (.ref r0), .val (.int p1), .val (.int p2), .val (.int (0 : Int32))] [(.ref b71), (.int (0 : Int32))]))
    obtain ⟨cl76, Ar76, q76, S76, Nn76, H76, G76⟩ := id V_b71
    refine W.go (X75.arraylength hx (by rw [e75]; exact Ar76.1) (State.isArrayOf_alike hZ.alike Ar76.2.1) (g := (mkF m 54 #[.val (.ref r0), .val (.int p1), .val (.int p2), .val (.int (0 : Int32))] [(.ref b71), (.int (0 : Int32))])) rfl rfl (hb hby d1_54)) ?_
    rw [len_of S76 Nn76]
    show W p e below _ (T75.setTop (mkF m 55 #[.val (.ref r0), .val (.int p1), .val (.int p2), .val (.int (0 : Int32))] [(.int (3 : Int32)), (.int (0 : Int32))]))
    refine W.go (fun _ hr => XS.icmpNo X75.here hx rfl (hb hby d1_55) rfl (tlt (by decide : ((0 : Int32) < (3 : Int32)))).2.1 hr) ?_
    show W p e below _ (T75.setTop (mkF m 58 #[.val (.ref r0), .val (.int p1), .val (.int p2), .val (.int (0 : Int32))] []))
    refine W.go (fun _ hr => XS.aloadN X75.here hx rfl (hb hby d1_58) rfl rfl hr) ?_
    show W p e below _ (T75.setTop (mkF m 59 #[.val (.ref r0), .val (.int p1), .val (.int p2), .val (.int (0 : Int32))] [(.ref r0)]))
    obtain ⟨T77, X77, e77, st77⟩ := getF X75 hx hZ hown (host := "") (Or.inl (hw _ (List.mem_of_getElem? (i := 18) rfl))) Via.refl e75 F_pages_r0 (g := (mkF m 59 #[.val (.ref r0), .val (.int p1), .val (.int p2), .val (.int (0 : Int32))] [(.ref r0)])) rfl rfl (hb hby d1_59)
    refine W.go st77 ?_
    show W p e below _ (T77.setTop (mkF m 62 #[.val (.ref r0), .val (.int p1), .val (.int p2), .val (.int (0 : Int32))] [(.ref b71)]))
    refine W.go (fun _ hr => XS.iloadN X77.here hx rfl (hb hby d1_62) rfl hr) ?_
    show W p e below _ (T77.setTop (mkF m 63 #[.val (.ref r0), .val (.int p1), .val (.int p2), .val (.int (0 : Int32))] [(.int (0 : Int32)), (.ref b71)]))
    refine W.go (fun _ hr => XS.sipush X77.here hx rfl (hb hby d1_63) hr) ?_
    show W p e below _ (T77.setTop (mkF m 66 #[.val (.ref r0), .val (.int p1), .val (.int p2), .val (.int (0 : Int32))] [(.int (16384 : Int32)), (.int (0 : Int32)), (.ref b71)]))
    refine W.go (fun _ hr => XS.iloadN X77.here hx rfl (hb hby d1_66) rfl hr) ?_
    show W p e below _ (T77.setTop (mkF m 67 #[.val (.ref r0), .val (.int p1), .val (.int p2), .val (.int (0 : Int32))] [(.int p1), (.int (16384 : Int32)), (.int (0 : Int32)), (.ref b71)]))
    refine W.go (fun _ hr => XS.iloadN X77.here hx rfl (hb hby d1_67) rfl hr) ?_
    show W p e below _ (T77.setTop (mkF m 68 #[.val (.ref r0), .val (.int p1), .val (.int p2), .val (.int (0 : Int32))] [(.int (0 : Int32)), (.int p1), (.int (16384 : Int32)), (.int (0 : Int32)), (.ref b71)]))
    obtain ⟨T78, X78, e78, st78⟩ := getS2 X77 hx hZ hown (host := "") (Or.inl (hw _ (List.mem_of_getElem? (i := 14) rfl))) Via.refl e77 S_SHIFT (g := (mkF m 68 #[.val (.ref r0), .val (.int p1), .val (.int p2), .val (.int (0 : Int32))] [(.int (0 : Int32)), (.int p1), (.int (16384 : Int32)), (.int (0 : Int32)), (.ref b71)])) rfl (hb hby d1_68)
    refine W.go st78 ?_
    show W p e below _ (T78.setTop (mkF m 71 #[.val (.ref r0), .val (.int p1), .val (.int p2), .val (.int (0 : Int32))] [(.int (14 : Int32)), (.int (0 : Int32)), (.int p1), (.int (16384 : Int32)), (.int (0 : Int32)), (.ref b71)]))
    refine W.go (fun _ hr => XS.ishl X78.here hx rfl (hb hby d1_71) rfl hr) ?_
    show W p e below _ (T78.setTop (mkF m 72 #[.val (.ref r0), .val (.int p1), .val (.int p2), .val (.int (0 : Int32))] [(.int ((0 : Int32) <<< ((14 : Int32) &&& 31))), (.int p1), (.int (16384 : Int32)), (.int (0 : Int32)), (.ref b71)]))
    rw [show ((0 : Int32) <<< ((14 : Int32) &&& 31)) = (0 : Int32) from by decide]
    show W p e below _ (T78.setTop (mkF m 72 #[.val (.ref r0), .val (.int p1), .val (.int p2), .val (.int (0 : Int32))] [(.int (0 : Int32)), (.int p1), (.int (16384 : Int32)), (.int (0 : Int32)), (.ref b71)]))
    refine W.go (fun _ hr => XS.isub X78.here hx rfl (hb hby d1_72) rfl hr) ?_
    show W p e below _ (T78.setTop (mkF m 73 #[.val (.ref r0), .val (.int p1), .val (.int p2), .val (.int (0 : Int32))] [(.int (p1 - (0 : Int32))), (.int (16384 : Int32)), (.int (0 : Int32)), (.ref b71)]))
    rw [show (p1 - (0 : Int32)) = p1 from by simp]
    show W p e below _ (T78.setTop (mkF m 73 #[.val (.ref r0), .val (.int p1), .val (.int p2), .val (.int (0 : Int32))] [(.int p1), (.int (16384 : Int32)), (.int (0 : Int32)), (.ref b71)]))
    have sb0 : (p1).toInt = p1.toInt - 0 := by omega
    refine W.callS X78 hx hZ hown (g := (mkF m 73 #[.val (.ref r0), .val (.int p1), .val (.int p2), .val (.int (0 : Int32))] [(.int p1), (.int (16384 : Int32)), (.int (0 : Int32)), (.ref b71)])) (by rw [hml]; rfl) (hw _ (List.mem_of_getElem? (i := 20) rfl)) (hw _ (List.mem_of_getElem? (i := 21) rfl)) (hw _ (List.mem_of_getElem? (i := 22) rfl)) (hw _ (List.mem_of_getElem? (i := 23) rfl)) e78 (rm3 l Z a0 hw (16384 : Int32) p1 (16384 : Int32) h73 n0 Z74 (own_minF _ (by omega))) (by decide) pd_86 rfl (argsL := [(.int (16384 : Int32)), (.int p1)]) (rest := [(.int (0 : Int32)), (.ref b71)]) rfl rfl rfl (hb hby d1_73) (W0 := 2) rfl (by decide) (by decide) (by decide) (by decide) (fun v79 T79 h79 L79 X79 e79 hQ79 => ?_)
    obtain ⟨rfl, N79q, hh79⟩ := hQ79
    obtain rfl := hh79.symm
    have N79 := Fr.app N73 N79q
    show W p e below _ (T79.setTop (mkF m 76 #[.val (.ref r0), .val (.int p1), .val (.int p2), .val (.int (0 : Int32))] [(.int (16384 : Int32)), (.int (0 : Int32)), (.ref b71)]))
    obtain ⟨T80, h80, k80, X80, e80, E80, A80, E_b80, st80⟩ := newPE X79 hx hZ (hw _ (List.mem_of_getElem? (i := 24) rfl)) e79 (g := (mkF m 76 #[.val (.ref r0), .val (.int p1), .val (.int p2), .val (.int (0 : Int32))] [(.int (16384 : Int32)), (.int (0 : Int32)), (.ref b71)])) rfl (hb hby d1_76) rfl (by decide) (cap := 16384) (by decide) (by decide) (by decide) (by decide) (ad := "[I") (by decide)
    obtain ⟨b80, g80⟩ : ∃ z, z = h73.size := ⟨_, rfl⟩
    rw [← g80] at A80 E_b80 st80
    have ne_r0_b80 : r0 ≠ b80 := Nat.ne_of_lt (Nat.lt_of_lt_of_le E_r0.lt (Nat.le_of_eq g80.symm))
    have ne_b71_b80 : b71 ≠ b80 := Nat.ne_of_lt (Nat.lt_of_lt_of_le E_b71.lt (Nat.le_of_eq g80.symm))
    have g_b80 : n0 ≤ b80 := Nat.le_trans Z74 (Nat.le_of_eq g80.symm)
    have sz_b80 : h0.size ≤ b80 := Nat.le_trans KC.1 (Nat.le_of_eq g80.symm)
    replace E_r0 := E_r0.ext E80
    replace F_size_r0 := F_size_r0.ext E80
    replace F_pages_r0 := F_pages_r0.ext E80
    replace S_SHIFT := Sta.ext E80 S_SHIFT
    replace E_b71 := E_b71.ext E80
    replace V_b71 := V_b71.ext E80
    have Z81 : n0 ≤ h80.size := Nat.le_trans Z74 E80.1
    replace KC := KC.ext E80
    have V_b80 : Arv Z h80 b80 k80 .int (16384 : Int32) [] (.int (0 : Int32)) := Arv.new A80 (by decide)
    refine W.go st80 ?_
    show W p e below _ (T80.setTop (mkF m 78 #[.val (.ref r0), .val (.int p1), .val (.int p2), .val (.int (0 : Int32))] [(.ref b80), (.int (0 : Int32)), (.ref b71)]))
    obtain ⟨cl82, Ar82, q82, S82, Nn82, H82, G82⟩ := V_b71
    have hin82 : ¬ ((0 : Int32) < 0 ∨ cl82.slots.size ≤ ((0 : Int32)).toNatClampNeg) := inb_of S82 ⟨by decide, by decide⟩
    obtain ⟨T82, h82, X82, e82, W82, st82⟩ := stR X80 hx hZ e80 Ar82 (j := (0 : Int32)) hin82 rfl (Sto.ofVA Ar82 q82 O_b71 (Ins.self E_b80)) (g := (mkF m 78 #[.val (.ref r0), .val (.int p1), .val (.int p2), .val (.int (0 : Int32))] [(.ref b80), (.int (0 : Int32)), (.ref b71)])) rfl rfl (hb hby d1_78)
    replace V_b71 : Arv Z h82 b71 k71 (.array .int) (3 : Int32) [(.ref b80), .null, .null] .null := Arv.set Ar82 q82 S82 Nn82 H82 G82 rfl W82 0 rfl (Nat.le_of_ble_eq_true rfl)
    replace E_r0 := E_r0.wr W82
    replace F_size_r0 := F_size_r0.other W82 (Or.inl ne_r0_b71)
    replace F_pages_r0 := F_pages_r0.other W82 (Or.inl ne_r0_b71)
    replace S_SHIFT := Sta.wr W82 S_SHIFT
    replace E_b71 := E_b71.wr W82
    replace E_b80 := E_b80.wr W82
    replace V_b80 := V_b80.other W82 (Ne.symm ne_b71_b80)
    have Z83 : n0 ≤ h82.size := Nat.le_trans Z81 (Keep.of_wr W82).1
    replace KC := KC.wr W82 (Or.inr sz_b71)
    refine W.go st82 ?_
    have N82 := Fr.snoc X82 N79 g_b71
    show W p e below _ (T82.setTop (mkF m 79 #[.val (.ref r0), .val (.int p1), .val (.int p2), .val (.int (0 : Int32))] []))
    refine W.go (fun _ hr => XS.iloadN X82.here hx rfl (hb hby d1_79) rfl hr) ?_
    show W p e below _ (T82.setTop (mkF m 80 #[.val (.ref r0), .val (.int p1), .val (.int p2), .val (.int (0 : Int32))] [(.int p2)]))
    by_cases hc80_84 : p2 = (0 : Int32)
    · refine W.go (fun _ hr => XS.ifYes X82.here hx rfl (pc0 := 80) (pc' := 93) rfl (hb hby d1_80) rfl ((if0 _ _).trans (teq hc80_84).1) (by decide) (by decide) hr) ?_
      show W p e below _ (T82.setTop (mkF m 93 #[.val (.ref r0), .val (.int p1), .val (.int p2), .val (.int (0 : Int32))] []))
      refine W.go (fun _ hr => XS.iinc X82.here hx rfl (hb hby d1_93) rfl (l' := #[.val (.ref r0), .val (.int p1), .val (.int p2), .val (.int (1 : Int32))]) (by rfl) hr) ?_
      show W p e below _ (T82.setTop (mkF m 96 #[.val (.ref r0), .val (.int p1), .val (.int p2), .val (.int (1 : Int32))] []))
      refine W.go (fun _ hr => XS.goto X82.here hx rfl (pc0 := 96) (pc' := 49) rfl (hb hby d1_96) (by decide) (by decide) hr) ?_
      show W p e below _ (T82.setTop (mkF m 49 #[.val (.ref r0), .val (.int p1), .val (.int p2), .val (.int (1 : Int32))] []))
      refine W.go (fun _ hr => XS.iloadN X82.here hx rfl (hb hby d1_49) rfl hr) ?_
      show W p e below _ (T82.setTop (mkF m 50 #[.val (.ref r0), .val (.int p1), .val (.int p2), .val (.int (1 : Int32))] [(.int (1 : Int32))]))
      refine W.go (fun _ hr => XS.aloadN X82.here hx rfl (hb hby d1_50) rfl rfl hr) ?_
      show W p e below _ (T82.setTop (mkF m 51 #[.val (.ref r0), .val (.int p1), .val (.int p2), .val (.int (1 : Int32))] [(.ref r0), (.int (1 : Int32))]))
      obtain ⟨T85, X85, e85, st85⟩ := getF X82 hx hZ hown (host := "") (Or.inl (hw _ (List.mem_of_getElem? (i := 18) rfl))) Via.refl e82 F_pages_r0 (g := (mkF m 51 #[.val (.ref r0), .val (.int p1), .val (.int p2), .val (.int (1 : Int32))] [(.ref r0), (.int (1 : Int32))])) rfl rfl (hb hby d1_51)
      refine W.go st85 ?_
      show W p e below _ (T85.setTop (mkF m 54 #[.val (.ref r0), .val (.int p1), .val (.int p2), .val (.int (1 : Int32))] [(.ref b71), (.int (1 : Int32))]))
      obtain ⟨cl86, Ar86, q86, S86, Nn86, H86, G86⟩ := id V_b71
      refine W.go (X85.arraylength hx (by rw [e85]; exact Ar86.1) (State.isArrayOf_alike hZ.alike Ar86.2.1) (g := (mkF m 54 #[.val (.ref r0), .val (.int p1), .val (.int p2), .val (.int (1 : Int32))] [(.ref b71), (.int (1 : Int32))])) rfl rfl (hb hby d1_54)) ?_
      rw [len_of S86 Nn86]
      show W p e below _ (T85.setTop (mkF m 55 #[.val (.ref r0), .val (.int p1), .val (.int p2), .val (.int (1 : Int32))] [(.int (3 : Int32)), (.int (1 : Int32))]))
      refine W.go (fun _ hr => XS.icmpNo X85.here hx rfl (hb hby d1_55) rfl (tlt (by decide : ((1 : Int32) < (3 : Int32)))).2.1 hr) ?_
      show W p e below _ (T85.setTop (mkF m 58 #[.val (.ref r0), .val (.int p1), .val (.int p2), .val (.int (1 : Int32))] []))
      refine W.go (fun _ hr => XS.aloadN X85.here hx rfl (hb hby d1_58) rfl rfl hr) ?_
      show W p e below _ (T85.setTop (mkF m 59 #[.val (.ref r0), .val (.int p1), .val (.int p2), .val (.int (1 : Int32))] [(.ref r0)]))
      obtain ⟨T87, X87, e87, st87⟩ := getF X85 hx hZ hown (host := "") (Or.inl (hw _ (List.mem_of_getElem? (i := 18) rfl))) Via.refl e85 F_pages_r0 (g := (mkF m 59 #[.val (.ref r0), .val (.int p1), .val (.int p2), .val (.int (1 : Int32))] [(.ref r0)])) rfl rfl (hb hby d1_59)
      refine W.go st87 ?_
      show W p e below _ (T87.setTop (mkF m 62 #[.val (.ref r0), .val (.int p1), .val (.int p2), .val (.int (1 : Int32))] [(.ref b71)]))
      refine W.go (fun _ hr => XS.iloadN X87.here hx rfl (hb hby d1_62) rfl hr) ?_
      show W p e below _ (T87.setTop (mkF m 63 #[.val (.ref r0), .val (.int p1), .val (.int p2), .val (.int (1 : Int32))] [(.int (1 : Int32)), (.ref b71)]))
      refine W.go (fun _ hr => XS.sipush X87.here hx rfl (hb hby d1_63) hr) ?_
      show W p e below _ (T87.setTop (mkF m 66 #[.val (.ref r0), .val (.int p1), .val (.int p2), .val (.int (1 : Int32))] [(.int (16384 : Int32)), (.int (1 : Int32)), (.ref b71)]))
      refine W.go (fun _ hr => XS.iloadN X87.here hx rfl (hb hby d1_66) rfl hr) ?_
      show W p e below _ (T87.setTop (mkF m 67 #[.val (.ref r0), .val (.int p1), .val (.int p2), .val (.int (1 : Int32))] [(.int p1), (.int (16384 : Int32)), (.int (1 : Int32)), (.ref b71)]))
      refine W.go (fun _ hr => XS.iloadN X87.here hx rfl (hb hby d1_67) rfl hr) ?_
      show W p e below _ (T87.setTop (mkF m 68 #[.val (.ref r0), .val (.int p1), .val (.int p2), .val (.int (1 : Int32))] [(.int (1 : Int32)), (.int p1), (.int (16384 : Int32)), (.int (1 : Int32)), (.ref b71)]))
      obtain ⟨T88, X88, e88, st88⟩ := getS2 X87 hx hZ hown (host := "") (Or.inl (hw _ (List.mem_of_getElem? (i := 14) rfl))) Via.refl e87 S_SHIFT (g := (mkF m 68 #[.val (.ref r0), .val (.int p1), .val (.int p2), .val (.int (1 : Int32))] [(.int (1 : Int32)), (.int p1), (.int (16384 : Int32)), (.int (1 : Int32)), (.ref b71)])) rfl (hb hby d1_68)
      refine W.go st88 ?_
      show W p e below _ (T88.setTop (mkF m 71 #[.val (.ref r0), .val (.int p1), .val (.int p2), .val (.int (1 : Int32))] [(.int (14 : Int32)), (.int (1 : Int32)), (.int p1), (.int (16384 : Int32)), (.int (1 : Int32)), (.ref b71)]))
      refine W.go (fun _ hr => XS.ishl X88.here hx rfl (hb hby d1_71) rfl hr) ?_
      show W p e below _ (T88.setTop (mkF m 72 #[.val (.ref r0), .val (.int p1), .val (.int p2), .val (.int (1 : Int32))] [(.int ((1 : Int32) <<< ((14 : Int32) &&& 31))), (.int p1), (.int (16384 : Int32)), (.int (1 : Int32)), (.ref b71)]))
      rw [show ((1 : Int32) <<< ((14 : Int32) &&& 31)) = (16384 : Int32) from by decide]
      show W p e below _ (T88.setTop (mkF m 72 #[.val (.ref r0), .val (.int p1), .val (.int p2), .val (.int (1 : Int32))] [(.int (16384 : Int32)), (.int p1), (.int (16384 : Int32)), (.int (1 : Int32)), (.ref b71)]))
      refine W.go (fun _ hr => XS.isub X88.here hx rfl (hb hby d1_72) rfl hr) ?_
      show W p e below _ (T88.setTop (mkF m 73 #[.val (.ref r0), .val (.int p1), .val (.int p2), .val (.int (1 : Int32))] [(.int (p1 - (16384 : Int32))), (.int (16384 : Int32)), (.int (1 : Int32)), (.ref b71)]))
      have sb1 : ((p1 - (16384 : Int32))).toInt = p1.toInt - 16384 := own_sub p1 (16384 : Int32) (by have e0 : (16384 : Int32).toInt = 16384 := rfl; omega)
      refine W.callS X88 hx hZ hown (g := (mkF m 73 #[.val (.ref r0), .val (.int p1), .val (.int p2), .val (.int (1 : Int32))] [(.int (p1 - (16384 : Int32))), (.int (16384 : Int32)), (.int (1 : Int32)), (.ref b71)])) (by rw [hml]; rfl) (hw _ (List.mem_of_getElem? (i := 20) rfl)) (hw _ (List.mem_of_getElem? (i := 21) rfl)) (hw _ (List.mem_of_getElem? (i := 22) rfl)) (hw _ (List.mem_of_getElem? (i := 23) rfl)) e88 (rm3 l Z a0 hw (16384 : Int32) (p1 - (16384 : Int32)) (16384 : Int32) h82 n0 Z83 (own_minF _ (by omega))) (by decide) pd_86 rfl (argsL := [(.int (16384 : Int32)), (.int (p1 - (16384 : Int32)))]) (rest := [(.int (1 : Int32)), (.ref b71)]) rfl rfl rfl (hb hby d1_73) (W0 := 2) rfl (by decide) (by decide) (by decide) (by decide) (fun v89 T89 h89 L89 X89 e89 hQ89 => ?_)
      obtain ⟨rfl, N89q, hh89⟩ := hQ89
      obtain rfl := hh89.symm
      have N89 := Fr.app N82 N89q
      show W p e below _ (T89.setTop (mkF m 76 #[.val (.ref r0), .val (.int p1), .val (.int p2), .val (.int (1 : Int32))] [(.int (16384 : Int32)), (.int (1 : Int32)), (.ref b71)]))
      obtain ⟨T90, h90, k90, X90, e90, E90, A90, E_b90, st90⟩ := newPE X89 hx hZ (hw _ (List.mem_of_getElem? (i := 24) rfl)) e89 (g := (mkF m 76 #[.val (.ref r0), .val (.int p1), .val (.int p2), .val (.int (1 : Int32))] [(.int (16384 : Int32)), (.int (1 : Int32)), (.ref b71)])) rfl (hb hby d1_76) rfl (by decide) (cap := 16384) (by decide) (by decide) (by decide) (by decide) (ad := "[I") (by decide)
      obtain ⟨b90, g90⟩ : ∃ z, z = h82.size := ⟨_, rfl⟩
      rw [← g90] at A90 E_b90 st90
      have ne_r0_b90 : r0 ≠ b90 := Nat.ne_of_lt (Nat.lt_of_lt_of_le E_r0.lt (Nat.le_of_eq g90.symm))
      have ne_b71_b90 : b71 ≠ b90 := Nat.ne_of_lt (Nat.lt_of_lt_of_le E_b71.lt (Nat.le_of_eq g90.symm))
      have ne_b80_b90 : b80 ≠ b90 := Nat.ne_of_lt (Nat.lt_of_lt_of_le E_b80.lt (Nat.le_of_eq g90.symm))
      have g_b90 : n0 ≤ b90 := Nat.le_trans Z83 (Nat.le_of_eq g90.symm)
      have sz_b90 : h0.size ≤ b90 := Nat.le_trans KC.1 (Nat.le_of_eq g90.symm)
      replace E_r0 := E_r0.ext E90
      replace F_size_r0 := F_size_r0.ext E90
      replace F_pages_r0 := F_pages_r0.ext E90
      replace S_SHIFT := Sta.ext E90 S_SHIFT
      replace E_b71 := E_b71.ext E90
      replace V_b71 := V_b71.ext E90
      replace E_b80 := E_b80.ext E90
      replace V_b80 := V_b80.ext E90
      have Z91 : n0 ≤ h90.size := Nat.le_trans Z83 E90.1
      replace KC := KC.ext E90
      have V_b90 : Arv Z h90 b90 k90 .int (16384 : Int32) [] (.int (0 : Int32)) := Arv.new A90 (by decide)
      refine W.go st90 ?_
      show W p e below _ (T90.setTop (mkF m 78 #[.val (.ref r0), .val (.int p1), .val (.int p2), .val (.int (1 : Int32))] [(.ref b90), (.int (1 : Int32)), (.ref b71)]))
      obtain ⟨cl92, Ar92, q92, S92, Nn92, H92, G92⟩ := V_b71
      have hin92 : ¬ ((1 : Int32) < 0 ∨ cl92.slots.size ≤ ((1 : Int32)).toNatClampNeg) := inb_of S92 ⟨by decide, by decide⟩
      obtain ⟨T92, h92, X92, e92, W92, st92⟩ := stR X90 hx hZ e90 Ar92 (j := (1 : Int32)) hin92 rfl (Sto.ofVA Ar92 q92 O_b71 (Ins.self E_b90)) (g := (mkF m 78 #[.val (.ref r0), .val (.int p1), .val (.int p2), .val (.int (1 : Int32))] [(.ref b90), (.int (1 : Int32)), (.ref b71)])) rfl rfl (hb hby d1_78)
      replace V_b71 : Arv Z h92 b71 k71 (.array .int) (3 : Int32) [(.ref b80), (.ref b90), .null] .null := Arv.set Ar92 q92 S92 Nn92 H92 G92 rfl W92 1 rfl (Nat.le_of_ble_eq_true rfl)
      replace E_r0 := E_r0.wr W92
      replace F_size_r0 := F_size_r0.other W92 (Or.inl ne_r0_b71)
      replace F_pages_r0 := F_pages_r0.other W92 (Or.inl ne_r0_b71)
      replace S_SHIFT := Sta.wr W92 S_SHIFT
      replace E_b71 := E_b71.wr W92
      replace E_b80 := E_b80.wr W92
      replace V_b80 := V_b80.other W92 (Ne.symm ne_b71_b80)
      replace E_b90 := E_b90.wr W92
      replace V_b90 := V_b90.other W92 (Ne.symm ne_b71_b90)
      have Z93 : n0 ≤ h92.size := Nat.le_trans Z91 (Keep.of_wr W92).1
      replace KC := KC.wr W92 (Or.inr sz_b71)
      refine W.go st92 ?_
      have N92 := Fr.snoc X92 N89 g_b71
      show W p e below _ (T92.setTop (mkF m 79 #[.val (.ref r0), .val (.int p1), .val (.int p2), .val (.int (1 : Int32))] []))
      refine W.go (fun _ hr => XS.iloadN X92.here hx rfl (hb hby d1_79) rfl hr) ?_
      show W p e below _ (T92.setTop (mkF m 80 #[.val (.ref r0), .val (.int p1), .val (.int p2), .val (.int (1 : Int32))] [(.int p2)]))
      refine W.go (fun _ hr => XS.ifYes X92.here hx rfl (pc0 := 80) (pc' := 93) rfl (hb hby d1_80) rfl ((if0 _ _).trans (teq hc80_84).1) (by decide) (by decide) hr) ?_
      show W p e below _ (T92.setTop (mkF m 93 #[.val (.ref r0), .val (.int p1), .val (.int p2), .val (.int (1 : Int32))] []))
      refine W.go (fun _ hr => XS.iinc X92.here hx rfl (hb hby d1_93) rfl (l' := #[.val (.ref r0), .val (.int p1), .val (.int p2), .val (.int (2 : Int32))]) (by rfl) hr) ?_
      show W p e below _ (T92.setTop (mkF m 96 #[.val (.ref r0), .val (.int p1), .val (.int p2), .val (.int (2 : Int32))] []))
      refine W.go (fun _ hr => XS.goto X92.here hx rfl (pc0 := 96) (pc' := 49) rfl (hb hby d1_96) (by decide) (by decide) hr) ?_
      show W p e below _ (T92.setTop (mkF m 49 #[.val (.ref r0), .val (.int p1), .val (.int p2), .val (.int (2 : Int32))] []))
      refine W.go (fun _ hr => XS.iloadN X92.here hx rfl (hb hby d1_49) rfl hr) ?_
      show W p e below _ (T92.setTop (mkF m 50 #[.val (.ref r0), .val (.int p1), .val (.int p2), .val (.int (2 : Int32))] [(.int (2 : Int32))]))
      refine W.go (fun _ hr => XS.aloadN X92.here hx rfl (hb hby d1_50) rfl rfl hr) ?_
      show W p e below _ (T92.setTop (mkF m 51 #[.val (.ref r0), .val (.int p1), .val (.int p2), .val (.int (2 : Int32))] [(.ref r0), (.int (2 : Int32))]))
      obtain ⟨T94, X94, e94, st94⟩ := getF X92 hx hZ hown (host := "") (Or.inl (hw _ (List.mem_of_getElem? (i := 18) rfl))) Via.refl e92 F_pages_r0 (g := (mkF m 51 #[.val (.ref r0), .val (.int p1), .val (.int p2), .val (.int (2 : Int32))] [(.ref r0), (.int (2 : Int32))])) rfl rfl (hb hby d1_51)
      refine W.go st94 ?_
      show W p e below _ (T94.setTop (mkF m 54 #[.val (.ref r0), .val (.int p1), .val (.int p2), .val (.int (2 : Int32))] [(.ref b71), (.int (2 : Int32))]))
      obtain ⟨cl95, Ar95, q95, S95, Nn95, H95, G95⟩ := id V_b71
      refine W.go (X94.arraylength hx (by rw [e94]; exact Ar95.1) (State.isArrayOf_alike hZ.alike Ar95.2.1) (g := (mkF m 54 #[.val (.ref r0), .val (.int p1), .val (.int p2), .val (.int (2 : Int32))] [(.ref b71), (.int (2 : Int32))])) rfl rfl (hb hby d1_54)) ?_
      rw [len_of S95 Nn95]
      show W p e below _ (T94.setTop (mkF m 55 #[.val (.ref r0), .val (.int p1), .val (.int p2), .val (.int (2 : Int32))] [(.int (3 : Int32)), (.int (2 : Int32))]))
      refine W.go (fun _ hr => XS.icmpNo X94.here hx rfl (hb hby d1_55) rfl (tlt (by decide : ((2 : Int32) < (3 : Int32)))).2.1 hr) ?_
      show W p e below _ (T94.setTop (mkF m 58 #[.val (.ref r0), .val (.int p1), .val (.int p2), .val (.int (2 : Int32))] []))
      refine W.go (fun _ hr => XS.aloadN X94.here hx rfl (hb hby d1_58) rfl rfl hr) ?_
      show W p e below _ (T94.setTop (mkF m 59 #[.val (.ref r0), .val (.int p1), .val (.int p2), .val (.int (2 : Int32))] [(.ref r0)]))
      obtain ⟨T96, X96, e96, st96⟩ := getF X94 hx hZ hown (host := "") (Or.inl (hw _ (List.mem_of_getElem? (i := 18) rfl))) Via.refl e94 F_pages_r0 (g := (mkF m 59 #[.val (.ref r0), .val (.int p1), .val (.int p2), .val (.int (2 : Int32))] [(.ref r0)])) rfl rfl (hb hby d1_59)
      refine W.go st96 ?_
      show W p e below _ (T96.setTop (mkF m 62 #[.val (.ref r0), .val (.int p1), .val (.int p2), .val (.int (2 : Int32))] [(.ref b71)]))
      refine W.go (fun _ hr => XS.iloadN X96.here hx rfl (hb hby d1_62) rfl hr) ?_
      show W p e below _ (T96.setTop (mkF m 63 #[.val (.ref r0), .val (.int p1), .val (.int p2), .val (.int (2 : Int32))] [(.int (2 : Int32)), (.ref b71)]))
      refine W.go (fun _ hr => XS.sipush X96.here hx rfl (hb hby d1_63) hr) ?_
      show W p e below _ (T96.setTop (mkF m 66 #[.val (.ref r0), .val (.int p1), .val (.int p2), .val (.int (2 : Int32))] [(.int (16384 : Int32)), (.int (2 : Int32)), (.ref b71)]))
      refine W.go (fun _ hr => XS.iloadN X96.here hx rfl (hb hby d1_66) rfl hr) ?_
      show W p e below _ (T96.setTop (mkF m 67 #[.val (.ref r0), .val (.int p1), .val (.int p2), .val (.int (2 : Int32))] [(.int p1), (.int (16384 : Int32)), (.int (2 : Int32)), (.ref b71)]))
      refine W.go (fun _ hr => XS.iloadN X96.here hx rfl (hb hby d1_67) rfl hr) ?_
      show W p e below _ (T96.setTop (mkF m 68 #[.val (.ref r0), .val (.int p1), .val (.int p2), .val (.int (2 : Int32))] [(.int (2 : Int32)), (.int p1), (.int (16384 : Int32)), (.int (2 : Int32)), (.ref b71)]))
      obtain ⟨T97, X97, e97, st97⟩ := getS2 X96 hx hZ hown (host := "") (Or.inl (hw _ (List.mem_of_getElem? (i := 14) rfl))) Via.refl e96 S_SHIFT (g := (mkF m 68 #[.val (.ref r0), .val (.int p1), .val (.int p2), .val (.int (2 : Int32))] [(.int (2 : Int32)), (.int p1), (.int (16384 : Int32)), (.int (2 : Int32)), (.ref b71)])) rfl (hb hby d1_68)
      refine W.go st97 ?_
      show W p e below _ (T97.setTop (mkF m 71 #[.val (.ref r0), .val (.int p1), .val (.int p2), .val (.int (2 : Int32))] [(.int (14 : Int32)), (.int (2 : Int32)), (.int p1), (.int (16384 : Int32)), (.int (2 : Int32)), (.ref b71)]))
      refine W.go (fun _ hr => XS.ishl X97.here hx rfl (hb hby d1_71) rfl hr) ?_
      show W p e below _ (T97.setTop (mkF m 72 #[.val (.ref r0), .val (.int p1), .val (.int p2), .val (.int (2 : Int32))] [(.int ((2 : Int32) <<< ((14 : Int32) &&& 31))), (.int p1), (.int (16384 : Int32)), (.int (2 : Int32)), (.ref b71)]))
      rw [show ((2 : Int32) <<< ((14 : Int32) &&& 31)) = (32768 : Int32) from by decide]
      show W p e below _ (T97.setTop (mkF m 72 #[.val (.ref r0), .val (.int p1), .val (.int p2), .val (.int (2 : Int32))] [(.int (32768 : Int32)), (.int p1), (.int (16384 : Int32)), (.int (2 : Int32)), (.ref b71)]))
      refine W.go (fun _ hr => XS.isub X97.here hx rfl (hb hby d1_72) rfl hr) ?_
      show W p e below _ (T97.setTop (mkF m 73 #[.val (.ref r0), .val (.int p1), .val (.int p2), .val (.int (2 : Int32))] [(.int (p1 - (32768 : Int32))), (.int (16384 : Int32)), (.int (2 : Int32)), (.ref b71)]))
      have sb2 : ((p1 - (32768 : Int32))).toInt = p1.toInt - 32768 := own_sub p1 (32768 : Int32) (by have e0 : (32768 : Int32).toInt = 32768 := rfl; omega)
      refine W.callS X97 hx hZ hown (g := (mkF m 73 #[.val (.ref r0), .val (.int p1), .val (.int p2), .val (.int (2 : Int32))] [(.int (p1 - (32768 : Int32))), (.int (16384 : Int32)), (.int (2 : Int32)), (.ref b71)])) (by rw [hml]; rfl) (hw _ (List.mem_of_getElem? (i := 20) rfl)) (hw _ (List.mem_of_getElem? (i := 21) rfl)) (hw _ (List.mem_of_getElem? (i := 22) rfl)) (hw _ (List.mem_of_getElem? (i := 23) rfl)) e97 (rm3 l Z a0 hw (16384 : Int32) (p1 - (32768 : Int32)) (p1 - (32768 : Int32)) h92 n0 Z93 (own_minL _ (by omega))) (by decide) pd_86 rfl (argsL := [(.int (16384 : Int32)), (.int (p1 - (32768 : Int32)))]) (rest := [(.int (2 : Int32)), (.ref b71)]) rfl rfl rfl (hb hby d1_73) (W0 := 2) rfl (by decide) (by decide) (by decide) (by decide) (fun v98 T98 h98 L98 X98 e98 hQ98 => ?_)
      obtain ⟨rfl, N98q, hh98⟩ := hQ98
      obtain rfl := hh98.symm
      have N98 := Fr.app N92 N98q
      show W p e below _ (T98.setTop (mkF m 76 #[.val (.ref r0), .val (.int p1), .val (.int p2), .val (.int (2 : Int32))] [(.int (p1 - (32768 : Int32))), (.int (2 : Int32)), (.ref b71)]))
      obtain ⟨T99, h99, k99, X99, e99, E99, A99, E_b99, st99⟩ := newPE X98 hx hZ (hw _ (List.mem_of_getElem? (i := 24) rfl)) e98 (g := (mkF m 76 #[.val (.ref r0), .val (.int p1), .val (.int p2), .val (.int (2 : Int32))] [(.int (p1 - (32768 : Int32))), (.int (2 : Int32)), (.ref b71)])) rfl (hb hby d1_76) rfl (own_cap _ (by omega)).1 (cap := 16384) (own_cap _ (by omega)).2 (by decide) (by decide) (by decide) (ad := "[I") (by decide)
      obtain ⟨b99, g99⟩ : ∃ z, z = h92.size := ⟨_, rfl⟩
      rw [← g99] at A99 E_b99 st99
      have ne_r0_b99 : r0 ≠ b99 := Nat.ne_of_lt (Nat.lt_of_lt_of_le E_r0.lt (Nat.le_of_eq g99.symm))
      have ne_b71_b99 : b71 ≠ b99 := Nat.ne_of_lt (Nat.lt_of_lt_of_le E_b71.lt (Nat.le_of_eq g99.symm))
      have ne_b80_b99 : b80 ≠ b99 := Nat.ne_of_lt (Nat.lt_of_lt_of_le E_b80.lt (Nat.le_of_eq g99.symm))
      have ne_b90_b99 : b90 ≠ b99 := Nat.ne_of_lt (Nat.lt_of_lt_of_le E_b90.lt (Nat.le_of_eq g99.symm))
      have g_b99 : n0 ≤ b99 := Nat.le_trans Z93 (Nat.le_of_eq g99.symm)
      have sz_b99 : h0.size ≤ b99 := Nat.le_trans KC.1 (Nat.le_of_eq g99.symm)
      replace E_r0 := E_r0.ext E99
      replace F_size_r0 := F_size_r0.ext E99
      replace F_pages_r0 := F_pages_r0.ext E99
      replace S_SHIFT := Sta.ext E99 S_SHIFT
      replace E_b71 := E_b71.ext E99
      replace V_b71 := V_b71.ext E99
      replace E_b80 := E_b80.ext E99
      replace V_b80 := V_b80.ext E99
      replace E_b90 := E_b90.ext E99
      replace V_b90 := V_b90.ext E99
      have Z100 : n0 ≤ h99.size := Nat.le_trans Z93 E99.1
      replace KC := KC.ext E99
      have V_b99 : Arv Z h99 b99 k99 .int (p1 - (32768 : Int32)) [] (.int (0 : Int32)) := Arv.new A99 (own_cap _ (by omega)).1
      refine W.go st99 ?_
      show W p e below _ (T99.setTop (mkF m 78 #[.val (.ref r0), .val (.int p1), .val (.int p2), .val (.int (2 : Int32))] [(.ref b99), (.int (2 : Int32)), (.ref b71)]))
      obtain ⟨cl101, Ar101, q101, S101, Nn101, H101, G101⟩ := V_b71
      have hin101 : ¬ ((2 : Int32) < 0 ∨ cl101.slots.size ≤ ((2 : Int32)).toNatClampNeg) := inb_of S101 ⟨by decide, by decide⟩
      obtain ⟨T101, h101, X101, e101, W101, st101⟩ := stR X99 hx hZ e99 Ar101 (j := (2 : Int32)) hin101 rfl (Sto.ofVA Ar101 q101 O_b71 (Ins.self E_b99)) (g := (mkF m 78 #[.val (.ref r0), .val (.int p1), .val (.int p2), .val (.int (2 : Int32))] [(.ref b99), (.int (2 : Int32)), (.ref b71)])) rfl rfl (hb hby d1_78)
      replace V_b71 : Arv Z h101 b71 k71 (.array .int) (3 : Int32) [(.ref b80), (.ref b90), (.ref b99)] .null := Arv.set Ar101 q101 S101 Nn101 H101 G101 rfl W101 2 rfl (Nat.le_of_ble_eq_true rfl)
      replace E_r0 := E_r0.wr W101
      replace F_size_r0 := F_size_r0.other W101 (Or.inl ne_r0_b71)
      replace F_pages_r0 := F_pages_r0.other W101 (Or.inl ne_r0_b71)
      replace S_SHIFT := Sta.wr W101 S_SHIFT
      replace E_b71 := E_b71.wr W101
      replace E_b80 := E_b80.wr W101
      replace V_b80 := V_b80.other W101 (Ne.symm ne_b71_b80)
      replace E_b90 := E_b90.wr W101
      replace V_b90 := V_b90.other W101 (Ne.symm ne_b71_b90)
      replace E_b99 := E_b99.wr W101
      replace V_b99 := V_b99.other W101 (Ne.symm ne_b71_b99)
      have Z102 : n0 ≤ h101.size := Nat.le_trans Z100 (Keep.of_wr W101).1
      replace KC := KC.wr W101 (Or.inr sz_b71)
      refine W.go st101 ?_
      have N101 := Fr.snoc X101 N98 g_b71
      show W p e below _ (T101.setTop (mkF m 79 #[.val (.ref r0), .val (.int p1), .val (.int p2), .val (.int (2 : Int32))] []))
      refine W.go (fun _ hr => XS.iloadN X101.here hx rfl (hb hby d1_79) rfl hr) ?_
      show W p e below _ (T101.setTop (mkF m 80 #[.val (.ref r0), .val (.int p1), .val (.int p2), .val (.int (2 : Int32))] [(.int p2)]))
      refine W.go (fun _ hr => XS.ifYes X101.here hx rfl (pc0 := 80) (pc' := 93) rfl (hb hby d1_80) rfl ((if0 _ _).trans (teq hc80_84).1) (by decide) (by decide) hr) ?_
      show W p e below _ (T101.setTop (mkF m 93 #[.val (.ref r0), .val (.int p1), .val (.int p2), .val (.int (2 : Int32))] []))
      refine W.go (fun _ hr => XS.iinc X101.here hx rfl (hb hby d1_93) rfl (l' := #[.val (.ref r0), .val (.int p1), .val (.int p2), .val (.int (3 : Int32))]) (by rfl) hr) ?_
      show W p e below _ (T101.setTop (mkF m 96 #[.val (.ref r0), .val (.int p1), .val (.int p2), .val (.int (3 : Int32))] []))
      refine W.go (fun _ hr => XS.goto X101.here hx rfl (pc0 := 96) (pc' := 49) rfl (hb hby d1_96) (by decide) (by decide) hr) ?_
      show W p e below _ (T101.setTop (mkF m 49 #[.val (.ref r0), .val (.int p1), .val (.int p2), .val (.int (3 : Int32))] []))
      refine W.go (fun _ hr => XS.iloadN X101.here hx rfl (hb hby d1_49) rfl hr) ?_
      show W p e below _ (T101.setTop (mkF m 50 #[.val (.ref r0), .val (.int p1), .val (.int p2), .val (.int (3 : Int32))] [(.int (3 : Int32))]))
      refine W.go (fun _ hr => XS.aloadN X101.here hx rfl (hb hby d1_50) rfl rfl hr) ?_
      show W p e below _ (T101.setTop (mkF m 51 #[.val (.ref r0), .val (.int p1), .val (.int p2), .val (.int (3 : Int32))] [(.ref r0), (.int (3 : Int32))]))
      obtain ⟨T103, X103, e103, st103⟩ := getF X101 hx hZ hown (host := "") (Or.inl (hw _ (List.mem_of_getElem? (i := 18) rfl))) Via.refl e101 F_pages_r0 (g := (mkF m 51 #[.val (.ref r0), .val (.int p1), .val (.int p2), .val (.int (3 : Int32))] [(.ref r0), (.int (3 : Int32))])) rfl rfl (hb hby d1_51)
      refine W.go st103 ?_
      show W p e below _ (T103.setTop (mkF m 54 #[.val (.ref r0), .val (.int p1), .val (.int p2), .val (.int (3 : Int32))] [(.ref b71), (.int (3 : Int32))]))
      obtain ⟨cl104, Ar104, q104, S104, Nn104, H104, G104⟩ := id V_b71
      refine W.go (X103.arraylength hx (by rw [e103]; exact Ar104.1) (State.isArrayOf_alike hZ.alike Ar104.2.1) (g := (mkF m 54 #[.val (.ref r0), .val (.int p1), .val (.int p2), .val (.int (3 : Int32))] [(.ref b71), (.int (3 : Int32))])) rfl rfl (hb hby d1_54)) ?_
      rw [len_of S104 Nn104]
      show W p e below _ (T103.setTop (mkF m 55 #[.val (.ref r0), .val (.int p1), .val (.int p2), .val (.int (3 : Int32))] [(.int (3 : Int32)), (.int (3 : Int32))]))
      refine W.go (fun _ hr => XS.icmpYes X103.here hx rfl (pc0 := 55) (pc' := 99) rfl (hb hby d1_55) rfl (flt (by decide : ¬ ((3 : Int32) < (3 : Int32)))).2.1 (by decide) (by decide) hr) ?_
      show W p e below _ (T103.setTop (mkF m 99 #[.val (.ref r0), .val (.int p1), .val (.int p2), .val (.int (3 : Int32))] []))
      subst hc80_84
      exact W.retV X103 hx hlk hret (hb hby d1_99) (by decide) (by decide) e103 ⟨rfl, N101, E_r0, S_SHIFT, KC.1, own_pages3 (by omega) F_pages_r0 F_size_r0 V_b71 ⟨_, _, _, rfl, g_b80, (Ne.symm ne_b71_b80), (Ne.symm ne_r0_b80), V_b80, Or.inl (by decide)⟩ ⟨_, _, _, rfl, g_b90, (Ne.symm ne_b71_b90), (Ne.symm ne_r0_b90), V_b90, Or.inl (by decide)⟩ ⟨_, _, _, rfl, g_b99, (Ne.symm ne_b71_b99), (Ne.symm ne_r0_b99), V_b99, Or.inr (by omega)⟩ ne_b80_b90 ne_b80_b99 ne_b90_b99⟩
    · refine W.go (fun _ hr => XS.ifNo X82.here hx rfl (hb hby d1_80) rfl ((if0 _ _).trans (feq hc80_84).1) hr) ?_
      show W p e below _ (T82.setTop (mkF m 83 #[.val (.ref r0), .val (.int p1), .val (.int p2), .val (.int (0 : Int32))] []))
      refine W.go (fun _ hr => XS.aloadN X82.here hx rfl (hb hby d1_83) rfl rfl hr) ?_
      show W p e below _ (T82.setTop (mkF m 84 #[.val (.ref r0), .val (.int p1), .val (.int p2), .val (.int (0 : Int32))] [(.ref r0)]))
      obtain ⟨T105, X105, e105, st105⟩ := getF X82 hx hZ hown (host := "") (Or.inl (hw _ (List.mem_of_getElem? (i := 18) rfl))) Via.refl e82 F_pages_r0 (g := (mkF m 84 #[.val (.ref r0), .val (.int p1), .val (.int p2), .val (.int (0 : Int32))] [(.ref r0)])) rfl rfl (hb hby d1_84)
      refine W.go st105 ?_
      show W p e below _ (T105.setTop (mkF m 87 #[.val (.ref r0), .val (.int p1), .val (.int p2), .val (.int (0 : Int32))] [(.ref b71)]))
      refine W.go (fun _ hr => XS.iloadN X105.here hx rfl (hb hby d1_87) rfl hr) ?_
      show W p e below _ (T105.setTop (mkF m 88 #[.val (.ref r0), .val (.int p1), .val (.int p2), .val (.int (0 : Int32))] [(.int (0 : Int32)), (.ref b71)]))
      obtain ⟨cl106, Ar106, q106, S106, Nn106, H106, G106⟩ := id V_b71
      have hin106 : ¬ ((0 : Int32) < 0 ∨ cl106.slots.size ≤ ((0 : Int32)).toNatClampNeg) := inb_of S106 ⟨by decide, by decide⟩
      have hat106 : cl106.slots[((0 : Int32)).toNatClampNeg]? = some (.ref b80) := H106.at hin106 rfl
      refine W.go (X105.aaload hx (j := (0 : Int32)) (v := (.ref b80)) (by rw [e105]; exact Ar106.1) (State.isArrayOf_alike hZ.alike Ar106.2.1) rfl Ar106.2.2 hin106 hat106 (g := (mkF m 88 #[.val (.ref r0), .val (.int p1), .val (.int p2), .val (.int (0 : Int32))] [(.int (0 : Int32)), (.ref b71)])) rfl rfl (hb hby d1_88)) ?_
      show W p e below _ (T105.setTop (mkF m 89 #[.val (.ref r0), .val (.int p1), .val (.int p2), .val (.int (0 : Int32))] [(.ref b80)]))
      refine W.go (fun _ hr => XS.iloadN X105.here hx rfl (hb hby d1_89) rfl hr) ?_
      show W p e below _ (T105.setTop (mkF m 90 #[.val (.ref r0), .val (.int p1), .val (.int p2), .val (.int (0 : Int32))] [(.int p2), (.ref b80)]))
      refine W.callS X105 hx hZ hown (g := (mkF m 90 #[.val (.ref r0), .val (.int p1), .val (.int p2), .val (.int (0 : Int32))] [(.int p2), (.ref b80)])) (by rw [hml]; rfl) (hw _ (List.mem_of_getElem? (i := 26) rfl)) (hw _ (List.mem_of_getElem? (i := 27) rfl)) (hw _ (List.mem_of_getElem? (i := 28) rfl)) (hw _ (List.mem_of_getElem? (i := 29) rfl)) e105 (rm4 l Z a0 hw b80 p2 (16384 : Int32) k80 h82 n0 Z83 E_b80 V_b80 (by decide) g_b80) (by decide) pd_100 rfl (argsL := [(.ref b80), (.int p2)]) (rest := []) rfl rfl rfl (hb hby d1_90) (W0 := 0) rfl (by decide) (by decide) (by decide) (by decide) (fun v107 T107 h107 L107 X107 e107 hQ107 => ?_)
      obtain ⟨rfl, N107q, K107, Ee107, Vf107⟩ := hQ107
      have N107 := Fr.app N82 N107q
      have nsK107 := (nsS E_b80.nostat ns0)
      replace E_r0 := E_r0.keep K107
      replace F_size_r0 := F_size_r0.keep K107 (ninS ne_r0_b80 nin0)
      replace F_pages_r0 := F_pages_r0.keep K107 (ninS ne_r0_b80 nin0)
      replace S_SHIFT := Sta.keep S_SHIFT K107 nsK107
      replace E_b71 := E_b71.keep K107
      replace V_b71 := V_b71.keep K107 (ninS ne_b71_b80 nin0)
      replace E_b80 := E_b80.keep K107
      have Z108 : n0 ≤ h107.size := Nat.le_trans Z83 K107.1
      replace KC := KC.trans K107 (allS (Or.inr sz_b80) all0)
      show W p e below _ (T107.setTop (mkF m 93 #[.val (.ref r0), .val (.int p1), .val (.int p2), .val (.int (0 : Int32))] []))
      refine W.go (fun _ hr => XS.iinc X107.here hx rfl (hb hby d1_93) rfl (l' := #[.val (.ref r0), .val (.int p1), .val (.int p2), .val (.int (1 : Int32))]) (by rfl) hr) ?_
      show W p e below _ (T107.setTop (mkF m 96 #[.val (.ref r0), .val (.int p1), .val (.int p2), .val (.int (1 : Int32))] []))
      refine W.go (fun _ hr => XS.goto X107.here hx rfl (pc0 := 96) (pc' := 49) rfl (hb hby d1_96) (by decide) (by decide) hr) ?_
      show W p e below _ (T107.setTop (mkF m 49 #[.val (.ref r0), .val (.int p1), .val (.int p2), .val (.int (1 : Int32))] []))
      refine W.go (fun _ hr => XS.iloadN X107.here hx rfl (hb hby d1_49) rfl hr) ?_
      show W p e below _ (T107.setTop (mkF m 50 #[.val (.ref r0), .val (.int p1), .val (.int p2), .val (.int (1 : Int32))] [(.int (1 : Int32))]))
      refine W.go (fun _ hr => XS.aloadN X107.here hx rfl (hb hby d1_50) rfl rfl hr) ?_
      show W p e below _ (T107.setTop (mkF m 51 #[.val (.ref r0), .val (.int p1), .val (.int p2), .val (.int (1 : Int32))] [(.ref r0), (.int (1 : Int32))]))
      obtain ⟨T109, X109, e109, st109⟩ := getF X107 hx hZ hown (host := "") (Or.inl (hw _ (List.mem_of_getElem? (i := 18) rfl))) Via.refl e107 F_pages_r0 (g := (mkF m 51 #[.val (.ref r0), .val (.int p1), .val (.int p2), .val (.int (1 : Int32))] [(.ref r0), (.int (1 : Int32))])) rfl rfl (hb hby d1_51)
      refine W.go st109 ?_
      show W p e below _ (T109.setTop (mkF m 54 #[.val (.ref r0), .val (.int p1), .val (.int p2), .val (.int (1 : Int32))] [(.ref b71), (.int (1 : Int32))]))
      obtain ⟨cl110, Ar110, q110, S110, Nn110, H110, G110⟩ := id V_b71
      refine W.go (X109.arraylength hx (by rw [e109]; exact Ar110.1) (State.isArrayOf_alike hZ.alike Ar110.2.1) (g := (mkF m 54 #[.val (.ref r0), .val (.int p1), .val (.int p2), .val (.int (1 : Int32))] [(.ref b71), (.int (1 : Int32))])) rfl rfl (hb hby d1_54)) ?_
      rw [len_of S110 Nn110]
      show W p e below _ (T109.setTop (mkF m 55 #[.val (.ref r0), .val (.int p1), .val (.int p2), .val (.int (1 : Int32))] [(.int (3 : Int32)), (.int (1 : Int32))]))
      refine W.go (fun _ hr => XS.icmpNo X109.here hx rfl (hb hby d1_55) rfl (tlt (by decide : ((1 : Int32) < (3 : Int32)))).2.1 hr) ?_
      show W p e below _ (T109.setTop (mkF m 58 #[.val (.ref r0), .val (.int p1), .val (.int p2), .val (.int (1 : Int32))] []))
      refine W.go (fun _ hr => XS.aloadN X109.here hx rfl (hb hby d1_58) rfl rfl hr) ?_
      show W p e below _ (T109.setTop (mkF m 59 #[.val (.ref r0), .val (.int p1), .val (.int p2), .val (.int (1 : Int32))] [(.ref r0)]))
      obtain ⟨T111, X111, e111, st111⟩ := getF X109 hx hZ hown (host := "") (Or.inl (hw _ (List.mem_of_getElem? (i := 18) rfl))) Via.refl e109 F_pages_r0 (g := (mkF m 59 #[.val (.ref r0), .val (.int p1), .val (.int p2), .val (.int (1 : Int32))] [(.ref r0)])) rfl rfl (hb hby d1_59)
      refine W.go st111 ?_
      show W p e below _ (T111.setTop (mkF m 62 #[.val (.ref r0), .val (.int p1), .val (.int p2), .val (.int (1 : Int32))] [(.ref b71)]))
      refine W.go (fun _ hr => XS.iloadN X111.here hx rfl (hb hby d1_62) rfl hr) ?_
      show W p e below _ (T111.setTop (mkF m 63 #[.val (.ref r0), .val (.int p1), .val (.int p2), .val (.int (1 : Int32))] [(.int (1 : Int32)), (.ref b71)]))
      refine W.go (fun _ hr => XS.sipush X111.here hx rfl (hb hby d1_63) hr) ?_
      show W p e below _ (T111.setTop (mkF m 66 #[.val (.ref r0), .val (.int p1), .val (.int p2), .val (.int (1 : Int32))] [(.int (16384 : Int32)), (.int (1 : Int32)), (.ref b71)]))
      refine W.go (fun _ hr => XS.iloadN X111.here hx rfl (hb hby d1_66) rfl hr) ?_
      show W p e below _ (T111.setTop (mkF m 67 #[.val (.ref r0), .val (.int p1), .val (.int p2), .val (.int (1 : Int32))] [(.int p1), (.int (16384 : Int32)), (.int (1 : Int32)), (.ref b71)]))
      refine W.go (fun _ hr => XS.iloadN X111.here hx rfl (hb hby d1_67) rfl hr) ?_
      show W p e below _ (T111.setTop (mkF m 68 #[.val (.ref r0), .val (.int p1), .val (.int p2), .val (.int (1 : Int32))] [(.int (1 : Int32)), (.int p1), (.int (16384 : Int32)), (.int (1 : Int32)), (.ref b71)]))
      obtain ⟨T112, X112, e112, st112⟩ := getS2 X111 hx hZ hown (host := "") (Or.inl (hw _ (List.mem_of_getElem? (i := 14) rfl))) Via.refl e111 S_SHIFT (g := (mkF m 68 #[.val (.ref r0), .val (.int p1), .val (.int p2), .val (.int (1 : Int32))] [(.int (1 : Int32)), (.int p1), (.int (16384 : Int32)), (.int (1 : Int32)), (.ref b71)])) rfl (hb hby d1_68)
      refine W.go st112 ?_
      show W p e below _ (T112.setTop (mkF m 71 #[.val (.ref r0), .val (.int p1), .val (.int p2), .val (.int (1 : Int32))] [(.int (14 : Int32)), (.int (1 : Int32)), (.int p1), (.int (16384 : Int32)), (.int (1 : Int32)), (.ref b71)]))
      refine W.go (fun _ hr => XS.ishl X112.here hx rfl (hb hby d1_71) rfl hr) ?_
      show W p e below _ (T112.setTop (mkF m 72 #[.val (.ref r0), .val (.int p1), .val (.int p2), .val (.int (1 : Int32))] [(.int ((1 : Int32) <<< ((14 : Int32) &&& 31))), (.int p1), (.int (16384 : Int32)), (.int (1 : Int32)), (.ref b71)]))
      rw [show ((1 : Int32) <<< ((14 : Int32) &&& 31)) = (16384 : Int32) from by decide]
      show W p e below _ (T112.setTop (mkF m 72 #[.val (.ref r0), .val (.int p1), .val (.int p2), .val (.int (1 : Int32))] [(.int (16384 : Int32)), (.int p1), (.int (16384 : Int32)), (.int (1 : Int32)), (.ref b71)]))
      refine W.go (fun _ hr => XS.isub X112.here hx rfl (hb hby d1_72) rfl hr) ?_
      show W p e below _ (T112.setTop (mkF m 73 #[.val (.ref r0), .val (.int p1), .val (.int p2), .val (.int (1 : Int32))] [(.int (p1 - (16384 : Int32))), (.int (16384 : Int32)), (.int (1 : Int32)), (.ref b71)]))
      have sb1 : ((p1 - (16384 : Int32))).toInt = p1.toInt - 16384 := own_sub p1 (16384 : Int32) (by have e0 : (16384 : Int32).toInt = 16384 := rfl; omega)
      refine W.callS X112 hx hZ hown (g := (mkF m 73 #[.val (.ref r0), .val (.int p1), .val (.int p2), .val (.int (1 : Int32))] [(.int (p1 - (16384 : Int32))), (.int (16384 : Int32)), (.int (1 : Int32)), (.ref b71)])) (by rw [hml]; rfl) (hw _ (List.mem_of_getElem? (i := 20) rfl)) (hw _ (List.mem_of_getElem? (i := 21) rfl)) (hw _ (List.mem_of_getElem? (i := 22) rfl)) (hw _ (List.mem_of_getElem? (i := 23) rfl)) e112 (rm3 l Z a0 hw (16384 : Int32) (p1 - (16384 : Int32)) (16384 : Int32) h107 n0 Z108 (own_minF _ (by omega))) (by decide) pd_86 rfl (argsL := [(.int (16384 : Int32)), (.int (p1 - (16384 : Int32)))]) (rest := [(.int (1 : Int32)), (.ref b71)]) rfl rfl rfl (hb hby d1_73) (W0 := 2) rfl (by decide) (by decide) (by decide) (by decide) (fun v113 T113 h113 L113 X113 e113 hQ113 => ?_)
      obtain ⟨rfl, N113q, hh113⟩ := hQ113
      obtain rfl := hh113.symm
      have N113 := Fr.app N107 N113q
      show W p e below _ (T113.setTop (mkF m 76 #[.val (.ref r0), .val (.int p1), .val (.int p2), .val (.int (1 : Int32))] [(.int (16384 : Int32)), (.int (1 : Int32)), (.ref b71)]))
      obtain ⟨T114, h114, k114, X114, e114, E114, A114, E_b114, st114⟩ := newPE X113 hx hZ (hw _ (List.mem_of_getElem? (i := 24) rfl)) e113 (g := (mkF m 76 #[.val (.ref r0), .val (.int p1), .val (.int p2), .val (.int (1 : Int32))] [(.int (16384 : Int32)), (.int (1 : Int32)), (.ref b71)])) rfl (hb hby d1_76) rfl (by decide) (cap := 16384) (by decide) (by decide) (by decide) (by decide) (ad := "[I") (by decide)
      obtain ⟨b114, g114⟩ : ∃ z, z = h107.size := ⟨_, rfl⟩
      rw [← g114] at A114 E_b114 st114
      have ne_r0_b114 : r0 ≠ b114 := Nat.ne_of_lt (Nat.lt_of_lt_of_le E_r0.lt (Nat.le_of_eq g114.symm))
      have ne_b71_b114 : b71 ≠ b114 := Nat.ne_of_lt (Nat.lt_of_lt_of_le E_b71.lt (Nat.le_of_eq g114.symm))
      have ne_b80_b114 : b80 ≠ b114 := Nat.ne_of_lt (Nat.lt_of_lt_of_le E_b80.lt (Nat.le_of_eq g114.symm))
      have g_b114 : n0 ≤ b114 := Nat.le_trans Z108 (Nat.le_of_eq g114.symm)
      have sz_b114 : h0.size ≤ b114 := Nat.le_trans KC.1 (Nat.le_of_eq g114.symm)
      replace E_r0 := E_r0.ext E114
      replace F_size_r0 := F_size_r0.ext E114
      replace F_pages_r0 := F_pages_r0.ext E114
      replace S_SHIFT := Sta.ext E114 S_SHIFT
      replace E_b71 := E_b71.ext E114
      replace V_b71 := V_b71.ext E114
      replace E_b80 := E_b80.ext E114
      replace Vf107 := Vf107.ext E114
      have Z115 : n0 ≤ h114.size := Nat.le_trans Z108 E114.1
      replace KC := KC.ext E114
      have V_b114 : Arv Z h114 b114 k114 .int (16384 : Int32) [] (.int (0 : Int32)) := Arv.new A114 (by decide)
      refine W.go st114 ?_
      show W p e below _ (T114.setTop (mkF m 78 #[.val (.ref r0), .val (.int p1), .val (.int p2), .val (.int (1 : Int32))] [(.ref b114), (.int (1 : Int32)), (.ref b71)]))
      obtain ⟨cl116, Ar116, q116, S116, Nn116, H116, G116⟩ := V_b71
      have hin116 : ¬ ((1 : Int32) < 0 ∨ cl116.slots.size ≤ ((1 : Int32)).toNatClampNeg) := inb_of S116 ⟨by decide, by decide⟩
      obtain ⟨T116, h116, X116, e116, W116, st116⟩ := stR X114 hx hZ e114 Ar116 (j := (1 : Int32)) hin116 rfl (Sto.ofVA Ar116 q116 O_b71 (Ins.self E_b114)) (g := (mkF m 78 #[.val (.ref r0), .val (.int p1), .val (.int p2), .val (.int (1 : Int32))] [(.ref b114), (.int (1 : Int32)), (.ref b71)])) rfl rfl (hb hby d1_78)
      replace V_b71 : Arv Z h116 b71 k71 (.array .int) (3 : Int32) [(.ref b80), (.ref b114), .null] .null := Arv.set Ar116 q116 S116 Nn116 H116 G116 rfl W116 1 rfl (Nat.le_of_ble_eq_true rfl)
      replace E_r0 := E_r0.wr W116
      replace F_size_r0 := F_size_r0.other W116 (Or.inl ne_r0_b71)
      replace F_pages_r0 := F_pages_r0.other W116 (Or.inl ne_r0_b71)
      replace S_SHIFT := Sta.wr W116 S_SHIFT
      replace E_b71 := E_b71.wr W116
      replace E_b80 := E_b80.wr W116
      replace Vf107 := Vf107.other W116 (Ne.symm ne_b71_b80)
      replace E_b114 := E_b114.wr W116
      replace V_b114 := V_b114.other W116 (Ne.symm ne_b71_b114)
      have Z117 : n0 ≤ h116.size := Nat.le_trans Z115 (Keep.of_wr W116).1
      replace KC := KC.wr W116 (Or.inr sz_b71)
      refine W.go st116 ?_
      have N116 := Fr.snoc X116 N113 g_b71
      show W p e below _ (T116.setTop (mkF m 79 #[.val (.ref r0), .val (.int p1), .val (.int p2), .val (.int (1 : Int32))] []))
      refine W.go (fun _ hr => XS.iloadN X116.here hx rfl (hb hby d1_79) rfl hr) ?_
      show W p e below _ (T116.setTop (mkF m 80 #[.val (.ref r0), .val (.int p1), .val (.int p2), .val (.int (1 : Int32))] [(.int p2)]))
      refine W.go (fun _ hr => XS.ifNo X116.here hx rfl (hb hby d1_80) rfl ((if0 _ _).trans (feq hc80_84).1) hr) ?_
      show W p e below _ (T116.setTop (mkF m 83 #[.val (.ref r0), .val (.int p1), .val (.int p2), .val (.int (1 : Int32))] []))
      refine W.go (fun _ hr => XS.aloadN X116.here hx rfl (hb hby d1_83) rfl rfl hr) ?_
      show W p e below _ (T116.setTop (mkF m 84 #[.val (.ref r0), .val (.int p1), .val (.int p2), .val (.int (1 : Int32))] [(.ref r0)]))
      obtain ⟨T118, X118, e118, st118⟩ := getF X116 hx hZ hown (host := "") (Or.inl (hw _ (List.mem_of_getElem? (i := 18) rfl))) Via.refl e116 F_pages_r0 (g := (mkF m 84 #[.val (.ref r0), .val (.int p1), .val (.int p2), .val (.int (1 : Int32))] [(.ref r0)])) rfl rfl (hb hby d1_84)
      refine W.go st118 ?_
      show W p e below _ (T118.setTop (mkF m 87 #[.val (.ref r0), .val (.int p1), .val (.int p2), .val (.int (1 : Int32))] [(.ref b71)]))
      refine W.go (fun _ hr => XS.iloadN X118.here hx rfl (hb hby d1_87) rfl hr) ?_
      show W p e below _ (T118.setTop (mkF m 88 #[.val (.ref r0), .val (.int p1), .val (.int p2), .val (.int (1 : Int32))] [(.int (1 : Int32)), (.ref b71)]))
      obtain ⟨cl119, Ar119, q119, S119, Nn119, H119, G119⟩ := id V_b71
      have hin119 : ¬ ((1 : Int32) < 0 ∨ cl119.slots.size ≤ ((1 : Int32)).toNatClampNeg) := inb_of S119 ⟨by decide, by decide⟩
      have hat119 : cl119.slots[((1 : Int32)).toNatClampNeg]? = some (.ref b114) := H119.at hin119 rfl
      refine W.go (X118.aaload hx (j := (1 : Int32)) (v := (.ref b114)) (by rw [e118]; exact Ar119.1) (State.isArrayOf_alike hZ.alike Ar119.2.1) rfl Ar119.2.2 hin119 hat119 (g := (mkF m 88 #[.val (.ref r0), .val (.int p1), .val (.int p2), .val (.int (1 : Int32))] [(.int (1 : Int32)), (.ref b71)])) rfl rfl (hb hby d1_88)) ?_
      show W p e below _ (T118.setTop (mkF m 89 #[.val (.ref r0), .val (.int p1), .val (.int p2), .val (.int (1 : Int32))] [(.ref b114)]))
      refine W.go (fun _ hr => XS.iloadN X118.here hx rfl (hb hby d1_89) rfl hr) ?_
      show W p e below _ (T118.setTop (mkF m 90 #[.val (.ref r0), .val (.int p1), .val (.int p2), .val (.int (1 : Int32))] [(.int p2), (.ref b114)]))
      refine W.callS X118 hx hZ hown (g := (mkF m 90 #[.val (.ref r0), .val (.int p1), .val (.int p2), .val (.int (1 : Int32))] [(.int p2), (.ref b114)])) (by rw [hml]; rfl) (hw _ (List.mem_of_getElem? (i := 26) rfl)) (hw _ (List.mem_of_getElem? (i := 27) rfl)) (hw _ (List.mem_of_getElem? (i := 28) rfl)) (hw _ (List.mem_of_getElem? (i := 29) rfl)) e118 (rm4 l Z a0 hw b114 p2 (16384 : Int32) k114 h116 n0 Z117 E_b114 V_b114 (by decide) g_b114) (by decide) pd_100 rfl (argsL := [(.ref b114), (.int p2)]) (rest := []) rfl rfl rfl (hb hby d1_90) (W0 := 0) rfl (by decide) (by decide) (by decide) (by decide) (fun v120 T120 h120 L120 X120 e120 hQ120 => ?_)
      obtain ⟨rfl, N120q, K120, Ee120, Vf120⟩ := hQ120
      have N120 := Fr.app N116 N120q
      have nsK120 := (nsS E_b114.nostat ns0)
      replace E_r0 := E_r0.keep K120
      replace F_size_r0 := F_size_r0.keep K120 (ninS ne_r0_b114 nin0)
      replace F_pages_r0 := F_pages_r0.keep K120 (ninS ne_r0_b114 nin0)
      replace S_SHIFT := Sta.keep S_SHIFT K120 nsK120
      replace E_b71 := E_b71.keep K120
      replace V_b71 := V_b71.keep K120 (ninS ne_b71_b114 nin0)
      replace E_b80 := E_b80.keep K120
      replace Vf107 := Vf107.keep K120 (ninS ne_b80_b114 nin0)
      replace E_b114 := E_b114.keep K120
      have Z121 : n0 ≤ h120.size := Nat.le_trans Z117 K120.1
      replace KC := KC.trans K120 (allS (Or.inr sz_b114) all0)
      show W p e below _ (T120.setTop (mkF m 93 #[.val (.ref r0), .val (.int p1), .val (.int p2), .val (.int (1 : Int32))] []))
      refine W.go (fun _ hr => XS.iinc X120.here hx rfl (hb hby d1_93) rfl (l' := #[.val (.ref r0), .val (.int p1), .val (.int p2), .val (.int (2 : Int32))]) (by rfl) hr) ?_
      show W p e below _ (T120.setTop (mkF m 96 #[.val (.ref r0), .val (.int p1), .val (.int p2), .val (.int (2 : Int32))] []))
      refine W.go (fun _ hr => XS.goto X120.here hx rfl (pc0 := 96) (pc' := 49) rfl (hb hby d1_96) (by decide) (by decide) hr) ?_
      show W p e below _ (T120.setTop (mkF m 49 #[.val (.ref r0), .val (.int p1), .val (.int p2), .val (.int (2 : Int32))] []))
      refine W.go (fun _ hr => XS.iloadN X120.here hx rfl (hb hby d1_49) rfl hr) ?_
      show W p e below _ (T120.setTop (mkF m 50 #[.val (.ref r0), .val (.int p1), .val (.int p2), .val (.int (2 : Int32))] [(.int (2 : Int32))]))
      refine W.go (fun _ hr => XS.aloadN X120.here hx rfl (hb hby d1_50) rfl rfl hr) ?_
      show W p e below _ (T120.setTop (mkF m 51 #[.val (.ref r0), .val (.int p1), .val (.int p2), .val (.int (2 : Int32))] [(.ref r0), (.int (2 : Int32))]))
      obtain ⟨T122, X122, e122, st122⟩ := getF X120 hx hZ hown (host := "") (Or.inl (hw _ (List.mem_of_getElem? (i := 18) rfl))) Via.refl e120 F_pages_r0 (g := (mkF m 51 #[.val (.ref r0), .val (.int p1), .val (.int p2), .val (.int (2 : Int32))] [(.ref r0), (.int (2 : Int32))])) rfl rfl (hb hby d1_51)
      refine W.go st122 ?_
      show W p e below _ (T122.setTop (mkF m 54 #[.val (.ref r0), .val (.int p1), .val (.int p2), .val (.int (2 : Int32))] [(.ref b71), (.int (2 : Int32))]))
      obtain ⟨cl123, Ar123, q123, S123, Nn123, H123, G123⟩ := id V_b71
      refine W.go (X122.arraylength hx (by rw [e122]; exact Ar123.1) (State.isArrayOf_alike hZ.alike Ar123.2.1) (g := (mkF m 54 #[.val (.ref r0), .val (.int p1), .val (.int p2), .val (.int (2 : Int32))] [(.ref b71), (.int (2 : Int32))])) rfl rfl (hb hby d1_54)) ?_
      rw [len_of S123 Nn123]
      show W p e below _ (T122.setTop (mkF m 55 #[.val (.ref r0), .val (.int p1), .val (.int p2), .val (.int (2 : Int32))] [(.int (3 : Int32)), (.int (2 : Int32))]))
      refine W.go (fun _ hr => XS.icmpNo X122.here hx rfl (hb hby d1_55) rfl (tlt (by decide : ((2 : Int32) < (3 : Int32)))).2.1 hr) ?_
      show W p e below _ (T122.setTop (mkF m 58 #[.val (.ref r0), .val (.int p1), .val (.int p2), .val (.int (2 : Int32))] []))
      refine W.go (fun _ hr => XS.aloadN X122.here hx rfl (hb hby d1_58) rfl rfl hr) ?_
      show W p e below _ (T122.setTop (mkF m 59 #[.val (.ref r0), .val (.int p1), .val (.int p2), .val (.int (2 : Int32))] [(.ref r0)]))
      obtain ⟨T124, X124, e124, st124⟩ := getF X122 hx hZ hown (host := "") (Or.inl (hw _ (List.mem_of_getElem? (i := 18) rfl))) Via.refl e122 F_pages_r0 (g := (mkF m 59 #[.val (.ref r0), .val (.int p1), .val (.int p2), .val (.int (2 : Int32))] [(.ref r0)])) rfl rfl (hb hby d1_59)
      refine W.go st124 ?_
      show W p e below _ (T124.setTop (mkF m 62 #[.val (.ref r0), .val (.int p1), .val (.int p2), .val (.int (2 : Int32))] [(.ref b71)]))
      refine W.go (fun _ hr => XS.iloadN X124.here hx rfl (hb hby d1_62) rfl hr) ?_
      show W p e below _ (T124.setTop (mkF m 63 #[.val (.ref r0), .val (.int p1), .val (.int p2), .val (.int (2 : Int32))] [(.int (2 : Int32)), (.ref b71)]))
      refine W.go (fun _ hr => XS.sipush X124.here hx rfl (hb hby d1_63) hr) ?_
      show W p e below _ (T124.setTop (mkF m 66 #[.val (.ref r0), .val (.int p1), .val (.int p2), .val (.int (2 : Int32))] [(.int (16384 : Int32)), (.int (2 : Int32)), (.ref b71)]))
      refine W.go (fun _ hr => XS.iloadN X124.here hx rfl (hb hby d1_66) rfl hr) ?_
      show W p e below _ (T124.setTop (mkF m 67 #[.val (.ref r0), .val (.int p1), .val (.int p2), .val (.int (2 : Int32))] [(.int p1), (.int (16384 : Int32)), (.int (2 : Int32)), (.ref b71)]))
      refine W.go (fun _ hr => XS.iloadN X124.here hx rfl (hb hby d1_67) rfl hr) ?_
      show W p e below _ (T124.setTop (mkF m 68 #[.val (.ref r0), .val (.int p1), .val (.int p2), .val (.int (2 : Int32))] [(.int (2 : Int32)), (.int p1), (.int (16384 : Int32)), (.int (2 : Int32)), (.ref b71)]))
      obtain ⟨T125, X125, e125, st125⟩ := getS2 X124 hx hZ hown (host := "") (Or.inl (hw _ (List.mem_of_getElem? (i := 14) rfl))) Via.refl e124 S_SHIFT (g := (mkF m 68 #[.val (.ref r0), .val (.int p1), .val (.int p2), .val (.int (2 : Int32))] [(.int (2 : Int32)), (.int p1), (.int (16384 : Int32)), (.int (2 : Int32)), (.ref b71)])) rfl (hb hby d1_68)
      refine W.go st125 ?_
      show W p e below _ (T125.setTop (mkF m 71 #[.val (.ref r0), .val (.int p1), .val (.int p2), .val (.int (2 : Int32))] [(.int (14 : Int32)), (.int (2 : Int32)), (.int p1), (.int (16384 : Int32)), (.int (2 : Int32)), (.ref b71)]))
      refine W.go (fun _ hr => XS.ishl X125.here hx rfl (hb hby d1_71) rfl hr) ?_
      show W p e below _ (T125.setTop (mkF m 72 #[.val (.ref r0), .val (.int p1), .val (.int p2), .val (.int (2 : Int32))] [(.int ((2 : Int32) <<< ((14 : Int32) &&& 31))), (.int p1), (.int (16384 : Int32)), (.int (2 : Int32)), (.ref b71)]))
      rw [show ((2 : Int32) <<< ((14 : Int32) &&& 31)) = (32768 : Int32) from by decide]
      show W p e below _ (T125.setTop (mkF m 72 #[.val (.ref r0), .val (.int p1), .val (.int p2), .val (.int (2 : Int32))] [(.int (32768 : Int32)), (.int p1), (.int (16384 : Int32)), (.int (2 : Int32)), (.ref b71)]))
      refine W.go (fun _ hr => XS.isub X125.here hx rfl (hb hby d1_72) rfl hr) ?_
      show W p e below _ (T125.setTop (mkF m 73 #[.val (.ref r0), .val (.int p1), .val (.int p2), .val (.int (2 : Int32))] [(.int (p1 - (32768 : Int32))), (.int (16384 : Int32)), (.int (2 : Int32)), (.ref b71)]))
      have sb2 : ((p1 - (32768 : Int32))).toInt = p1.toInt - 32768 := own_sub p1 (32768 : Int32) (by have e0 : (32768 : Int32).toInt = 32768 := rfl; omega)
      refine W.callS X125 hx hZ hown (g := (mkF m 73 #[.val (.ref r0), .val (.int p1), .val (.int p2), .val (.int (2 : Int32))] [(.int (p1 - (32768 : Int32))), (.int (16384 : Int32)), (.int (2 : Int32)), (.ref b71)])) (by rw [hml]; rfl) (hw _ (List.mem_of_getElem? (i := 20) rfl)) (hw _ (List.mem_of_getElem? (i := 21) rfl)) (hw _ (List.mem_of_getElem? (i := 22) rfl)) (hw _ (List.mem_of_getElem? (i := 23) rfl)) e125 (rm3 l Z a0 hw (16384 : Int32) (p1 - (32768 : Int32)) (p1 - (32768 : Int32)) h120 n0 Z121 (own_minL _ (by omega))) (by decide) pd_86 rfl (argsL := [(.int (16384 : Int32)), (.int (p1 - (32768 : Int32)))]) (rest := [(.int (2 : Int32)), (.ref b71)]) rfl rfl rfl (hb hby d1_73) (W0 := 2) rfl (by decide) (by decide) (by decide) (by decide) (fun v126 T126 h126 L126 X126 e126 hQ126 => ?_)
      obtain ⟨rfl, N126q, hh126⟩ := hQ126
      obtain rfl := hh126.symm
      have N126 := Fr.app N120 N126q
      show W p e below _ (T126.setTop (mkF m 76 #[.val (.ref r0), .val (.int p1), .val (.int p2), .val (.int (2 : Int32))] [(.int (p1 - (32768 : Int32))), (.int (2 : Int32)), (.ref b71)]))
      obtain ⟨T127, h127, k127, X127, e127, E127, A127, E_b127, st127⟩ := newPE X126 hx hZ (hw _ (List.mem_of_getElem? (i := 24) rfl)) e126 (g := (mkF m 76 #[.val (.ref r0), .val (.int p1), .val (.int p2), .val (.int (2 : Int32))] [(.int (p1 - (32768 : Int32))), (.int (2 : Int32)), (.ref b71)])) rfl (hb hby d1_76) rfl (own_cap _ (by omega)).1 (cap := 16384) (own_cap _ (by omega)).2 (by decide) (by decide) (by decide) (ad := "[I") (by decide)
      obtain ⟨b127, g127⟩ : ∃ z, z = h120.size := ⟨_, rfl⟩
      rw [← g127] at A127 E_b127 st127
      have ne_r0_b127 : r0 ≠ b127 := Nat.ne_of_lt (Nat.lt_of_lt_of_le E_r0.lt (Nat.le_of_eq g127.symm))
      have ne_b71_b127 : b71 ≠ b127 := Nat.ne_of_lt (Nat.lt_of_lt_of_le E_b71.lt (Nat.le_of_eq g127.symm))
      have ne_b80_b127 : b80 ≠ b127 := Nat.ne_of_lt (Nat.lt_of_lt_of_le E_b80.lt (Nat.le_of_eq g127.symm))
      have ne_b114_b127 : b114 ≠ b127 := Nat.ne_of_lt (Nat.lt_of_lt_of_le E_b114.lt (Nat.le_of_eq g127.symm))
      have g_b127 : n0 ≤ b127 := Nat.le_trans Z121 (Nat.le_of_eq g127.symm)
      have sz_b127 : h0.size ≤ b127 := Nat.le_trans KC.1 (Nat.le_of_eq g127.symm)
      replace E_r0 := E_r0.ext E127
      replace F_size_r0 := F_size_r0.ext E127
      replace F_pages_r0 := F_pages_r0.ext E127
      replace S_SHIFT := Sta.ext E127 S_SHIFT
      replace E_b71 := E_b71.ext E127
      replace V_b71 := V_b71.ext E127
      replace E_b80 := E_b80.ext E127
      replace Vf107 := Vf107.ext E127
      replace E_b114 := E_b114.ext E127
      replace Vf120 := Vf120.ext E127
      have Z128 : n0 ≤ h127.size := Nat.le_trans Z121 E127.1
      replace KC := KC.ext E127
      have V_b127 : Arv Z h127 b127 k127 .int (p1 - (32768 : Int32)) [] (.int (0 : Int32)) := Arv.new A127 (own_cap _ (by omega)).1
      refine W.go st127 ?_
      show W p e below _ (T127.setTop (mkF m 78 #[.val (.ref r0), .val (.int p1), .val (.int p2), .val (.int (2 : Int32))] [(.ref b127), (.int (2 : Int32)), (.ref b71)]))
      obtain ⟨cl129, Ar129, q129, S129, Nn129, H129, G129⟩ := V_b71
      have hin129 : ¬ ((2 : Int32) < 0 ∨ cl129.slots.size ≤ ((2 : Int32)).toNatClampNeg) := inb_of S129 ⟨by decide, by decide⟩
      obtain ⟨T129, h129, X129, e129, W129, st129⟩ := stR X127 hx hZ e127 Ar129 (j := (2 : Int32)) hin129 rfl (Sto.ofVA Ar129 q129 O_b71 (Ins.self E_b127)) (g := (mkF m 78 #[.val (.ref r0), .val (.int p1), .val (.int p2), .val (.int (2 : Int32))] [(.ref b127), (.int (2 : Int32)), (.ref b71)])) rfl rfl (hb hby d1_78)
      replace V_b71 : Arv Z h129 b71 k71 (.array .int) (3 : Int32) [(.ref b80), (.ref b114), (.ref b127)] .null := Arv.set Ar129 q129 S129 Nn129 H129 G129 rfl W129 2 rfl (Nat.le_of_ble_eq_true rfl)
      replace E_r0 := E_r0.wr W129
      replace F_size_r0 := F_size_r0.other W129 (Or.inl ne_r0_b71)
      replace F_pages_r0 := F_pages_r0.other W129 (Or.inl ne_r0_b71)
      replace S_SHIFT := Sta.wr W129 S_SHIFT
      replace E_b71 := E_b71.wr W129
      replace E_b80 := E_b80.wr W129
      replace Vf107 := Vf107.other W129 (Ne.symm ne_b71_b80)
      replace E_b114 := E_b114.wr W129
      replace Vf120 := Vf120.other W129 (Ne.symm ne_b71_b114)
      replace E_b127 := E_b127.wr W129
      replace V_b127 := V_b127.other W129 (Ne.symm ne_b71_b127)
      have Z130 : n0 ≤ h129.size := Nat.le_trans Z128 (Keep.of_wr W129).1
      replace KC := KC.wr W129 (Or.inr sz_b71)
      refine W.go st129 ?_
      have N129 := Fr.snoc X129 N126 g_b71
      show W p e below _ (T129.setTop (mkF m 79 #[.val (.ref r0), .val (.int p1), .val (.int p2), .val (.int (2 : Int32))] []))
      refine W.go (fun _ hr => XS.iloadN X129.here hx rfl (hb hby d1_79) rfl hr) ?_
      show W p e below _ (T129.setTop (mkF m 80 #[.val (.ref r0), .val (.int p1), .val (.int p2), .val (.int (2 : Int32))] [(.int p2)]))
      refine W.go (fun _ hr => XS.ifNo X129.here hx rfl (hb hby d1_80) rfl ((if0 _ _).trans (feq hc80_84).1) hr) ?_
      show W p e below _ (T129.setTop (mkF m 83 #[.val (.ref r0), .val (.int p1), .val (.int p2), .val (.int (2 : Int32))] []))
      refine W.go (fun _ hr => XS.aloadN X129.here hx rfl (hb hby d1_83) rfl rfl hr) ?_
      show W p e below _ (T129.setTop (mkF m 84 #[.val (.ref r0), .val (.int p1), .val (.int p2), .val (.int (2 : Int32))] [(.ref r0)]))
      obtain ⟨T131, X131, e131, st131⟩ := getF X129 hx hZ hown (host := "") (Or.inl (hw _ (List.mem_of_getElem? (i := 18) rfl))) Via.refl e129 F_pages_r0 (g := (mkF m 84 #[.val (.ref r0), .val (.int p1), .val (.int p2), .val (.int (2 : Int32))] [(.ref r0)])) rfl rfl (hb hby d1_84)
      refine W.go st131 ?_
      show W p e below _ (T131.setTop (mkF m 87 #[.val (.ref r0), .val (.int p1), .val (.int p2), .val (.int (2 : Int32))] [(.ref b71)]))
      refine W.go (fun _ hr => XS.iloadN X131.here hx rfl (hb hby d1_87) rfl hr) ?_
      show W p e below _ (T131.setTop (mkF m 88 #[.val (.ref r0), .val (.int p1), .val (.int p2), .val (.int (2 : Int32))] [(.int (2 : Int32)), (.ref b71)]))
      obtain ⟨cl132, Ar132, q132, S132, Nn132, H132, G132⟩ := id V_b71
      have hin132 : ¬ ((2 : Int32) < 0 ∨ cl132.slots.size ≤ ((2 : Int32)).toNatClampNeg) := inb_of S132 ⟨by decide, by decide⟩
      have hat132 : cl132.slots[((2 : Int32)).toNatClampNeg]? = some (.ref b127) := H132.at hin132 rfl
      refine W.go (X131.aaload hx (j := (2 : Int32)) (v := (.ref b127)) (by rw [e131]; exact Ar132.1) (State.isArrayOf_alike hZ.alike Ar132.2.1) rfl Ar132.2.2 hin132 hat132 (g := (mkF m 88 #[.val (.ref r0), .val (.int p1), .val (.int p2), .val (.int (2 : Int32))] [(.int (2 : Int32)), (.ref b71)])) rfl rfl (hb hby d1_88)) ?_
      show W p e below _ (T131.setTop (mkF m 89 #[.val (.ref r0), .val (.int p1), .val (.int p2), .val (.int (2 : Int32))] [(.ref b127)]))
      refine W.go (fun _ hr => XS.iloadN X131.here hx rfl (hb hby d1_89) rfl hr) ?_
      show W p e below _ (T131.setTop (mkF m 90 #[.val (.ref r0), .val (.int p1), .val (.int p2), .val (.int (2 : Int32))] [(.int p2), (.ref b127)]))
      refine W.callS X131 hx hZ hown (g := (mkF m 90 #[.val (.ref r0), .val (.int p1), .val (.int p2), .val (.int (2 : Int32))] [(.int p2), (.ref b127)])) (by rw [hml]; rfl) (hw _ (List.mem_of_getElem? (i := 26) rfl)) (hw _ (List.mem_of_getElem? (i := 27) rfl)) (hw _ (List.mem_of_getElem? (i := 28) rfl)) (hw _ (List.mem_of_getElem? (i := 29) rfl)) e131 (rm4 l Z a0 hw b127 p2 (p1 - (32768 : Int32)) k127 h129 n0 Z130 E_b127 V_b127 (own_cap _ (by omega)).1 g_b127) (by decide) pd_100 rfl (argsL := [(.ref b127), (.int p2)]) (rest := []) rfl rfl rfl (hb hby d1_90) (W0 := 0) rfl (by decide) (by decide) (by decide) (by decide) (fun v133 T133 h133 L133 X133 e133 hQ133 => ?_)
      obtain ⟨rfl, N133q, K133, Ee133, Vf133⟩ := hQ133
      have N133 := Fr.app N129 N133q
      have nsK133 := (nsS E_b127.nostat ns0)
      replace E_r0 := E_r0.keep K133
      replace F_size_r0 := F_size_r0.keep K133 (ninS ne_r0_b127 nin0)
      replace F_pages_r0 := F_pages_r0.keep K133 (ninS ne_r0_b127 nin0)
      replace S_SHIFT := Sta.keep S_SHIFT K133 nsK133
      replace E_b71 := E_b71.keep K133
      replace V_b71 := V_b71.keep K133 (ninS ne_b71_b127 nin0)
      replace E_b80 := E_b80.keep K133
      replace Vf107 := Vf107.keep K133 (ninS ne_b80_b127 nin0)
      replace E_b114 := E_b114.keep K133
      replace Vf120 := Vf120.keep K133 (ninS ne_b114_b127 nin0)
      replace E_b127 := E_b127.keep K133
      have Z134 : n0 ≤ h133.size := Nat.le_trans Z130 K133.1
      replace KC := KC.trans K133 (allS (Or.inr sz_b127) all0)
      show W p e below _ (T133.setTop (mkF m 93 #[.val (.ref r0), .val (.int p1), .val (.int p2), .val (.int (2 : Int32))] []))
      refine W.go (fun _ hr => XS.iinc X133.here hx rfl (hb hby d1_93) rfl (l' := #[.val (.ref r0), .val (.int p1), .val (.int p2), .val (.int (3 : Int32))]) (by rfl) hr) ?_
      show W p e below _ (T133.setTop (mkF m 96 #[.val (.ref r0), .val (.int p1), .val (.int p2), .val (.int (3 : Int32))] []))
      refine W.go (fun _ hr => XS.goto X133.here hx rfl (pc0 := 96) (pc' := 49) rfl (hb hby d1_96) (by decide) (by decide) hr) ?_
      show W p e below _ (T133.setTop (mkF m 49 #[.val (.ref r0), .val (.int p1), .val (.int p2), .val (.int (3 : Int32))] []))
      refine W.go (fun _ hr => XS.iloadN X133.here hx rfl (hb hby d1_49) rfl hr) ?_
      show W p e below _ (T133.setTop (mkF m 50 #[.val (.ref r0), .val (.int p1), .val (.int p2), .val (.int (3 : Int32))] [(.int (3 : Int32))]))
      refine W.go (fun _ hr => XS.aloadN X133.here hx rfl (hb hby d1_50) rfl rfl hr) ?_
      show W p e below _ (T133.setTop (mkF m 51 #[.val (.ref r0), .val (.int p1), .val (.int p2), .val (.int (3 : Int32))] [(.ref r0), (.int (3 : Int32))]))
      obtain ⟨T135, X135, e135, st135⟩ := getF X133 hx hZ hown (host := "") (Or.inl (hw _ (List.mem_of_getElem? (i := 18) rfl))) Via.refl e133 F_pages_r0 (g := (mkF m 51 #[.val (.ref r0), .val (.int p1), .val (.int p2), .val (.int (3 : Int32))] [(.ref r0), (.int (3 : Int32))])) rfl rfl (hb hby d1_51)
      refine W.go st135 ?_
      show W p e below _ (T135.setTop (mkF m 54 #[.val (.ref r0), .val (.int p1), .val (.int p2), .val (.int (3 : Int32))] [(.ref b71), (.int (3 : Int32))]))
      obtain ⟨cl136, Ar136, q136, S136, Nn136, H136, G136⟩ := id V_b71
      refine W.go (X135.arraylength hx (by rw [e135]; exact Ar136.1) (State.isArrayOf_alike hZ.alike Ar136.2.1) (g := (mkF m 54 #[.val (.ref r0), .val (.int p1), .val (.int p2), .val (.int (3 : Int32))] [(.ref b71), (.int (3 : Int32))])) rfl rfl (hb hby d1_54)) ?_
      rw [len_of S136 Nn136]
      show W p e below _ (T135.setTop (mkF m 55 #[.val (.ref r0), .val (.int p1), .val (.int p2), .val (.int (3 : Int32))] [(.int (3 : Int32)), (.int (3 : Int32))]))
      refine W.go (fun _ hr => XS.icmpYes X135.here hx rfl (pc0 := 55) (pc' := 99) rfl (hb hby d1_55) rfl (flt (by decide : ¬ ((3 : Int32) < (3 : Int32)))).2.1 (by decide) (by decide) hr) ?_
      show W p e below _ (T135.setTop (mkF m 99 #[.val (.ref r0), .val (.int p1), .val (.int p2), .val (.int (3 : Int32))] []))
      exact W.retV X135 hx hlk hret (hb hby d1_99) (by decide) (by decide) e135 ⟨rfl, N133, E_r0, S_SHIFT, KC.1, own_pages3 (by omega) F_pages_r0 F_size_r0 V_b71 ⟨_, _, _, rfl, g_b80, (Ne.symm ne_b71_b80), (Ne.symm ne_r0_b80), Vf107, Or.inl (by decide)⟩ ⟨_, _, _, rfl, g_b114, (Ne.symm ne_b71_b114), (Ne.symm ne_r0_b114), Vf120, Or.inl (by decide)⟩ ⟨_, _, _, rfl, g_b127, (Ne.symm ne_b71_b127), (Ne.symm ne_r0_b127), Vf133, Or.inr (by omega)⟩ ne_b80_b114 ne_b80_b127 ne_b114_b127⟩
theorem own_size (x n : Int32) (hn : 1 ≤ n.toInt ∧ n.toInt ≤ 60000) : 1 ≤ ((1 : Int32) + ((x &&& 2147483647) % n)).toInt ∧ ((1 : Int32) + ((x &&& 2147483647) % n)).toInt ≤ n.toInt := by
  have q := rngM x n (by omega)
  have c1 := c_iadd 1 ((x &&& 2147483647) % n)
  have r1 := rng32 ((1 : Int32) + ((x &&& 2147483647) % n))
  have e1 : (1 : Int32).toInt = 1 := rfl
  omega
theorem own_trip (i j k : Int32) : (i = j ∧ i = k) ∨ (i = j ∧ ¬ i = k) ∨ (¬ i = j ∧ i = k) ∨ (¬ i = j ∧ j = k) ∨ (¬ i = j ∧ ¬ i = k ∧ ¬ j = k) := by
  by_cases h1 : i = j <;> by_cases h2 : i = k <;> by_cases h3 : j = k <;> simp_all
theorem own_nat {i j : Int32} (hi : 0 ≤ i.toInt) (hj : 0 ≤ j.toInt) (h : ¬ i = j) : ¬ i.toNatClampNeg = j.toNatClampNeg := fun q => h (Int32.toInt_inj.mp (by simp only [Int32.toNatClampNeg] at q; omega))
theorem pd_101 : parseMethodDescriptor "(II)V" = some ⟨[.int, .int], none⟩ := by decide +kernel
theorem pd_102 : parseMethodDescriptor "(I)I" = some ⟨[.int], some .int⟩ := by decide +kernel
theorem pd_103 : parseMethodDescriptor "()I" = some ⟨[], some .int⟩ := by decide +kernel
theorem pn_com_example_parleyd_parleyd_core_IntPagesGetPinLaw : plainName "com/example/parleyd/parleyd/core/IntPagesGetPinLaw" = true := by first | (simp [plainName, overriddenIn]; done) | decide +kernel
def Q_rm0 (Z : State) (p0 : Int32) (p1 : Int32) (p2 : Int32) (p3 : Int32) (p4 : Int32) (p5 : Int32) (h0 : Heap) (n0 : Nat) (v : Option Value) (h : Heap) (L : List Loc) : Prop := v = some (.int (1 : Int32)) ∧ Fr n0 L
set_option maxRecDepth 65536 in
set_option maxHeartbeats 40000000 in
theorem rm0 (l : Launch) (Z : State) (a0 : Array Value) (hw : ∀ d ∈ tables_1, d.before a0 Z = true) (p0 : Int32) (p1 : Int32) (p2 : Int32) (p3 : Int32) (p4 : Int32) (p5 : Int32) (h0 : Heap) (n0 : Nat) (Z0 : n0 ≤ h0.size) (S_SHIFT : Sta Z h0 "com/example/parleyd/parleyd/core/IntPages" "SHIFT" "I" (.int (14 : Int32))) :
    Ctr l Z x code maxLocals ret room_1 #[(.int p0), (.int p1), (.int p2), (.int p3), (.int p4), (.int p5)] h0 (Q_rm0 Z p0 p1 p2 p3 p4 p5 h0 n0) := by
  refine Ctr.body (fr := fun m => mkF m 0 #[.val (.int p0), .val (.int p1), .val (.int p2), .val (.int p3), .val (.int p4), .val (.int p5), .unset, .unset, .unset, .unset, .unset, .unset, .unset, .unset, .unset, .unset, .unset] []) (plainFor_of_name pn_com_example_parleyd_parleyd_core_IntPagesGetPinLaw) (fun m => by first | (simp [entryFrame, mkF, argsToLocals, Value.category, maxLocals]; done) | rfl) fun p e s m below meth c s₁ hx hby hml hZ hown hnm hret hlk X0 e0 => ?_
  have N0 := Fr.nil n0
  have hown : s.vm.findClass "com/example/parleyd/parleyd/core/IntPagesGetPinLaw" = some m.cls := hown
  show W p e below _ (s₁.setTop (mkF m 0 #[.val (.int p0), .val (.int p1), .val (.int p2), .val (.int p3), .val (.int p4), .val (.int p5), .unset, .unset, .unset, .unset, .unset, .unset, .unset, .unset, .unset, .unset, .unset] []))
  refine W.go (fun _ hr => XS.iconst X0.here hx rfl (hb hby at_0) hr) ?_
  show W p e below _ (s₁.setTop (mkF m 1 #[.val (.int p0), .val (.int p1), .val (.int p2), .val (.int p3), .val (.int p4), .val (.int p5), .unset, .unset, .unset, .unset, .unset, .unset, .unset, .unset, .unset, .unset, .unset] [(.int (1 : Int32))]))
  refine W.go (fun _ hr => XS.iloadN X0.here hx rfl (hb hby at_1) rfl hr) ?_
  show W p e below _ (s₁.setTop (mkF m 2 #[.val (.int p0), .val (.int p1), .val (.int p2), .val (.int p3), .val (.int p4), .val (.int p5), .unset, .unset, .unset, .unset, .unset, .unset, .unset, .unset, .unset, .unset, .unset] [(.int p0), (.int (1 : Int32))]))
  refine W.go (X0.ldcInt hx hown (mvT hZ (hw _ (List.mem_of_getElem? (i := 0) rfl))) (g := (mkF m 2 #[.val (.int p0), .val (.int p1), .val (.int p2), .val (.int p3), .val (.int p4), .val (.int p5), .unset, .unset, .unset, .unset, .unset, .unset, .unset, .unset, .unset, .unset, .unset] [(.int p0), (.int (1 : Int32))])) rfl (hb hby at_2)) ?_
  show W p e below _ (s₁.setTop (mkF m 4 #[.val (.int p0), .val (.int p1), .val (.int p2), .val (.int p3), .val (.int p4), .val (.int p5), .unset, .unset, .unset, .unset, .unset, .unset, .unset, .unset, .unset, .unset, .unset] [(.int (2147483647 : Int32)), (.int p0), (.int (1 : Int32))]))
  refine W.go (fun _ hr => XS.iand X0.here hx rfl (hb hby at_4) rfl hr) ?_
  show W p e below _ (s₁.setTop (mkF m 5 #[.val (.int p0), .val (.int p1), .val (.int p2), .val (.int p3), .val (.int p4), .val (.int p5), .unset, .unset, .unset, .unset, .unset, .unset, .unset, .unset, .unset, .unset, .unset] [(.int (p0 &&& (2147483647 : Int32))), (.int (1 : Int32))]))
  refine W.go (X0.ldcInt hx hown (mvT hZ (hw _ (List.mem_of_getElem? (i := 1) rfl))) (g := (mkF m 5 #[.val (.int p0), .val (.int p1), .val (.int p2), .val (.int p3), .val (.int p4), .val (.int p5), .unset, .unset, .unset, .unset, .unset, .unset, .unset, .unset, .unset, .unset, .unset] [(.int (p0 &&& (2147483647 : Int32))), (.int (1 : Int32))])) rfl (hb hby at_5)) ?_
  show W p e below _ (s₁.setTop (mkF m 7 #[.val (.int p0), .val (.int p1), .val (.int p2), .val (.int p3), .val (.int p4), .val (.int p5), .unset, .unset, .unset, .unset, .unset, .unset, .unset, .unset, .unset, .unset, .unset] [(.int (32775 : Int32)), (.int (p0 &&& (2147483647 : Int32))), (.int (1 : Int32))]))
  refine W.go (fun _ hr => iremM X0 hx rfl (hb hby at_7) rfl (by decide) hr) ?_
  show W p e below _ (s₁.setTop (mkF m 8 #[.val (.int p0), .val (.int p1), .val (.int p2), .val (.int p3), .val (.int p4), .val (.int p5), .unset, .unset, .unset, .unset, .unset, .unset, .unset, .unset, .unset, .unset, .unset] [(.int ((p0 &&& (2147483647 : Int32)) % (32775 : Int32))), (.int (1 : Int32))]))
  refine W.go (fun _ hr => XS.iadd X0.here hx rfl (hb hby at_8) rfl hr) ?_
  show W p e below _ (s₁.setTop (mkF m 9 #[.val (.int p0), .val (.int p1), .val (.int p2), .val (.int p3), .val (.int p4), .val (.int p5), .unset, .unset, .unset, .unset, .unset, .unset, .unset, .unset, .unset, .unset, .unset] [(.int ((1 : Int32) + ((p0 &&& (2147483647 : Int32)) % (32775 : Int32))))]))
  generalize e_n : ((1 : Int32) + ((p0 &&& (2147483647 : Int32)) % (32775 : Int32))) = n
  have hn : 1 ≤ n.toInt ∧ n.toInt ≤ 32775 := by
    have q := own_size p0 (32775 : Int32) (by decide)
    rw [e_n] at q
    exact q
  have nz : n ≠ 0 := fun q => by subst q; have e0 : (0 : Int32).toInt = 0 := rfl; omega
  refine W.go (fun _ hr => XS.istore X0.here hx rfl (hb hby at_9) rfl (l' := #[.val (.int p0), .val (.int p1), .val (.int p2), .val (.int p3), .val (.int p4), .val (.int p5), .val (.int n), .unset, .unset, .unset, .unset, .unset, .unset, .unset, .unset, .unset, .unset]) rfl hr) ?_
  show W p e below _ (s₁.setTop (mkF m 11 #[.val (.int p0), .val (.int p1), .val (.int p2), .val (.int p3), .val (.int p4), .val (.int p5), .val (.int n), .unset, .unset, .unset, .unset, .unset, .unset, .unset, .unset, .unset, .unset] []))
  refine W.go (fun _ hr => XS.iloadN X0.here hx rfl (hb hby at_11) rfl hr) ?_
  show W p e below _ (s₁.setTop (mkF m 12 #[.val (.int p0), .val (.int p1), .val (.int p2), .val (.int p3), .val (.int p4), .val (.int p5), .val (.int n), .unset, .unset, .unset, .unset, .unset, .unset, .unset, .unset, .unset, .unset] [(.int p2)]))
  refine W.go (X0.ldcInt hx hown (mvT hZ (hw _ (List.mem_of_getElem? (i := 0) rfl))) (g := (mkF m 12 #[.val (.int p0), .val (.int p1), .val (.int p2), .val (.int p3), .val (.int p4), .val (.int p5), .val (.int n), .unset, .unset, .unset, .unset, .unset, .unset, .unset, .unset, .unset, .unset] [(.int p2)])) rfl (hb hby at_12)) ?_
  show W p e below _ (s₁.setTop (mkF m 14 #[.val (.int p0), .val (.int p1), .val (.int p2), .val (.int p3), .val (.int p4), .val (.int p5), .val (.int n), .unset, .unset, .unset, .unset, .unset, .unset, .unset, .unset, .unset, .unset] [(.int (2147483647 : Int32)), (.int p2)]))
  refine W.go (fun _ hr => XS.iand X0.here hx rfl (hb hby at_14) rfl hr) ?_
  show W p e below _ (s₁.setTop (mkF m 15 #[.val (.int p0), .val (.int p1), .val (.int p2), .val (.int p3), .val (.int p4), .val (.int p5), .val (.int n), .unset, .unset, .unset, .unset, .unset, .unset, .unset, .unset, .unset, .unset] [(.int (p2 &&& (2147483647 : Int32)))]))
  refine W.go (fun _ hr => XS.iload X0.here hx rfl (hb hby at_15) rfl hr) ?_
  show W p e below _ (s₁.setTop (mkF m 17 #[.val (.int p0), .val (.int p1), .val (.int p2), .val (.int p3), .val (.int p4), .val (.int p5), .val (.int n), .unset, .unset, .unset, .unset, .unset, .unset, .unset, .unset, .unset, .unset] [(.int n), (.int (p2 &&& (2147483647 : Int32)))]))
  refine W.go (fun _ hr => iremM X0 hx rfl (hb hby at_17) rfl nz hr) ?_
  show W p e below _ (s₁.setTop (mkF m 18 #[.val (.int p0), .val (.int p1), .val (.int p2), .val (.int p3), .val (.int p4), .val (.int p5), .val (.int n), .unset, .unset, .unset, .unset, .unset, .unset, .unset, .unset, .unset, .unset] [(.int ((p2 &&& (2147483647 : Int32)) % n))]))
  generalize e_i : ((p2 &&& (2147483647 : Int32)) % n) = i
  have hi : 0 ≤ i.toInt ∧ i.toInt < n.toInt := by
    have q := rngM p2 n (by omega)
    rw [e_i] at q
    exact q
  refine W.go (fun _ hr => XS.istore X0.here hx rfl (hb hby at_18) rfl (l' := #[.val (.int p0), .val (.int p1), .val (.int p2), .val (.int p3), .val (.int p4), .val (.int p5), .val (.int n), .val (.int i), .unset, .unset, .unset, .unset, .unset, .unset, .unset, .unset, .unset]) rfl hr) ?_
  show W p e below _ (s₁.setTop (mkF m 20 #[.val (.int p0), .val (.int p1), .val (.int p2), .val (.int p3), .val (.int p4), .val (.int p5), .val (.int n), .val (.int i), .unset, .unset, .unset, .unset, .unset, .unset, .unset, .unset, .unset] []))
  refine W.go (fun _ hr => XS.iloadN X0.here hx rfl (hb hby at_20) rfl hr) ?_
  show W p e below _ (s₁.setTop (mkF m 21 #[.val (.int p0), .val (.int p1), .val (.int p2), .val (.int p3), .val (.int p4), .val (.int p5), .val (.int n), .val (.int i), .unset, .unset, .unset, .unset, .unset, .unset, .unset, .unset, .unset] [(.int p3)]))
  refine W.go (X0.ldcInt hx hown (mvT hZ (hw _ (List.mem_of_getElem? (i := 0) rfl))) (g := (mkF m 21 #[.val (.int p0), .val (.int p1), .val (.int p2), .val (.int p3), .val (.int p4), .val (.int p5), .val (.int n), .val (.int i), .unset, .unset, .unset, .unset, .unset, .unset, .unset, .unset, .unset] [(.int p3)])) rfl (hb hby at_21)) ?_
  show W p e below _ (s₁.setTop (mkF m 23 #[.val (.int p0), .val (.int p1), .val (.int p2), .val (.int p3), .val (.int p4), .val (.int p5), .val (.int n), .val (.int i), .unset, .unset, .unset, .unset, .unset, .unset, .unset, .unset, .unset] [(.int (2147483647 : Int32)), (.int p3)]))
  refine W.go (fun _ hr => XS.iand X0.here hx rfl (hb hby at_23) rfl hr) ?_
  show W p e below _ (s₁.setTop (mkF m 24 #[.val (.int p0), .val (.int p1), .val (.int p2), .val (.int p3), .val (.int p4), .val (.int p5), .val (.int n), .val (.int i), .unset, .unset, .unset, .unset, .unset, .unset, .unset, .unset, .unset] [(.int (p3 &&& (2147483647 : Int32)))]))
  refine W.go (fun _ hr => XS.iload X0.here hx rfl (hb hby at_24) rfl hr) ?_
  show W p e below _ (s₁.setTop (mkF m 26 #[.val (.int p0), .val (.int p1), .val (.int p2), .val (.int p3), .val (.int p4), .val (.int p5), .val (.int n), .val (.int i), .unset, .unset, .unset, .unset, .unset, .unset, .unset, .unset, .unset] [(.int n), (.int (p3 &&& (2147483647 : Int32)))]))
  refine W.go (fun _ hr => iremM X0 hx rfl (hb hby at_26) rfl nz hr) ?_
  show W p e below _ (s₁.setTop (mkF m 27 #[.val (.int p0), .val (.int p1), .val (.int p2), .val (.int p3), .val (.int p4), .val (.int p5), .val (.int n), .val (.int i), .unset, .unset, .unset, .unset, .unset, .unset, .unset, .unset, .unset] [(.int ((p3 &&& (2147483647 : Int32)) % n))]))
  generalize e_j : ((p3 &&& (2147483647 : Int32)) % n) = j
  have hj : 0 ≤ j.toInt ∧ j.toInt < n.toInt := by
    have q := rngM p3 n (by omega)
    rw [e_j] at q
    exact q
  refine W.go (fun _ hr => XS.istore X0.here hx rfl (hb hby at_27) rfl (l' := #[.val (.int p0), .val (.int p1), .val (.int p2), .val (.int p3), .val (.int p4), .val (.int p5), .val (.int n), .val (.int i), .val (.int j), .unset, .unset, .unset, .unset, .unset, .unset, .unset, .unset]) rfl hr) ?_
  show W p e below _ (s₁.setTop (mkF m 29 #[.val (.int p0), .val (.int p1), .val (.int p2), .val (.int p3), .val (.int p4), .val (.int p5), .val (.int n), .val (.int i), .val (.int j), .unset, .unset, .unset, .unset, .unset, .unset, .unset, .unset] []))
  refine W.go (fun _ hr => XS.iload X0.here hx rfl (hb hby at_29) rfl hr) ?_
  show W p e below _ (s₁.setTop (mkF m 31 #[.val (.int p0), .val (.int p1), .val (.int p2), .val (.int p3), .val (.int p4), .val (.int p5), .val (.int n), .val (.int i), .val (.int j), .unset, .unset, .unset, .unset, .unset, .unset, .unset, .unset] [(.int p4)]))
  refine W.go (X0.ldcInt hx hown (mvT hZ (hw _ (List.mem_of_getElem? (i := 0) rfl))) (g := (mkF m 31 #[.val (.int p0), .val (.int p1), .val (.int p2), .val (.int p3), .val (.int p4), .val (.int p5), .val (.int n), .val (.int i), .val (.int j), .unset, .unset, .unset, .unset, .unset, .unset, .unset, .unset] [(.int p4)])) rfl (hb hby at_31)) ?_
  show W p e below _ (s₁.setTop (mkF m 33 #[.val (.int p0), .val (.int p1), .val (.int p2), .val (.int p3), .val (.int p4), .val (.int p5), .val (.int n), .val (.int i), .val (.int j), .unset, .unset, .unset, .unset, .unset, .unset, .unset, .unset] [(.int (2147483647 : Int32)), (.int p4)]))
  refine W.go (fun _ hr => XS.iand X0.here hx rfl (hb hby at_33) rfl hr) ?_
  show W p e below _ (s₁.setTop (mkF m 34 #[.val (.int p0), .val (.int p1), .val (.int p2), .val (.int p3), .val (.int p4), .val (.int p5), .val (.int n), .val (.int i), .val (.int j), .unset, .unset, .unset, .unset, .unset, .unset, .unset, .unset] [(.int (p4 &&& (2147483647 : Int32)))]))
  refine W.go (fun _ hr => XS.iload X0.here hx rfl (hb hby at_34) rfl hr) ?_
  show W p e below _ (s₁.setTop (mkF m 36 #[.val (.int p0), .val (.int p1), .val (.int p2), .val (.int p3), .val (.int p4), .val (.int p5), .val (.int n), .val (.int i), .val (.int j), .unset, .unset, .unset, .unset, .unset, .unset, .unset, .unset] [(.int n), (.int (p4 &&& (2147483647 : Int32)))]))
  refine W.go (fun _ hr => iremM X0 hx rfl (hb hby at_36) rfl nz hr) ?_
  show W p e below _ (s₁.setTop (mkF m 37 #[.val (.int p0), .val (.int p1), .val (.int p2), .val (.int p3), .val (.int p4), .val (.int p5), .val (.int n), .val (.int i), .val (.int j), .unset, .unset, .unset, .unset, .unset, .unset, .unset, .unset] [(.int ((p4 &&& (2147483647 : Int32)) % n))]))
  generalize e_k : ((p4 &&& (2147483647 : Int32)) % n) = k
  have hk : 0 ≤ k.toInt ∧ k.toInt < n.toInt := by
    have q := rngM p4 n (by omega)
    rw [e_k] at q
    exact q
  refine W.go (fun _ hr => XS.istore X0.here hx rfl (hb hby at_37) rfl (l' := #[.val (.int p0), .val (.int p1), .val (.int p2), .val (.int p3), .val (.int p4), .val (.int p5), .val (.int n), .val (.int i), .val (.int j), .val (.int k), .unset, .unset, .unset, .unset, .unset, .unset, .unset]) rfl hr) ?_
  show W p e below _ (s₁.setTop (mkF m 39 #[.val (.int p0), .val (.int p1), .val (.int p2), .val (.int p3), .val (.int p4), .val (.int p5), .val (.int n), .val (.int i), .val (.int j), .val (.int k), .unset, .unset, .unset, .unset, .unset, .unset, .unset] []))
  refine W.go (fun _ hr => XS.iload X0.here hx rfl (hb hby at_39) rfl hr) ?_
  show W p e below _ (s₁.setTop (mkF m 41 #[.val (.int p0), .val (.int p1), .val (.int p2), .val (.int p3), .val (.int p4), .val (.int p5), .val (.int n), .val (.int i), .val (.int j), .val (.int k), .unset, .unset, .unset, .unset, .unset, .unset, .unset] [(.int p5)]))
  refine W.go (fun _ hr => XS.iconst X0.here hx rfl (hb hby at_41) hr) ?_
  show W p e below _ (s₁.setTop (mkF m 42 #[.val (.int p0), .val (.int p1), .val (.int p2), .val (.int p3), .val (.int p4), .val (.int p5), .val (.int n), .val (.int i), .val (.int j), .val (.int k), .unset, .unset, .unset, .unset, .unset, .unset, .unset] [(.int (-1 : Int32)), (.int p5)]))
  refine W.go (fun _ hr => XS.ixor X0.here hx rfl (hb hby at_42) rfl hr) ?_
  show W p e below _ (s₁.setTop (mkF m 43 #[.val (.int p0), .val (.int p1), .val (.int p2), .val (.int p3), .val (.int p4), .val (.int p5), .val (.int n), .val (.int i), .val (.int j), .val (.int k), .unset, .unset, .unset, .unset, .unset, .unset, .unset] [(.int (p5 ^^^ (-1 : Int32)))]))
  refine W.go (fun _ hr => XS.istore X0.here hx rfl (hb hby at_43) rfl (l' := #[.val (.int p0), .val (.int p1), .val (.int p2), .val (.int p3), .val (.int p4), .val (.int p5), .val (.int n), .val (.int i), .val (.int j), .val (.int k), .val (.int (p5 ^^^ (-1 : Int32))), .unset, .unset, .unset, .unset, .unset, .unset]) rfl hr) ?_
  show W p e below _ (s₁.setTop (mkF m 45 #[.val (.int p0), .val (.int p1), .val (.int p2), .val (.int p3), .val (.int p4), .val (.int p5), .val (.int n), .val (.int i), .val (.int j), .val (.int k), .val (.int (p5 ^^^ (-1 : Int32))), .unset, .unset, .unset, .unset, .unset, .unset] []))
  rcases own_trip i j k with ⟨rfl, rfl⟩ | ⟨rfl, neik⟩ | ⟨neij, rfl⟩ | ⟨neij, rfl⟩ | ⟨neij, neik, nejk⟩
  · obtain ⟨T1, h1, X1, e1, E1, E_b1, D1, U1, st1⟩ := newO X0 hx hZ hown (hw _ (List.mem_of_getElem? (i := 2) rfl)) (hw _ (List.mem_of_getElem? (i := 3) rfl)) (hw _ (List.mem_of_getElem? (i := 4) rfl)) e0 (g := (mkF m 45 #[.val (.int p0), .val (.int p1), .val (.int p2), .val (.int p3), .val (.int p4), .val (.int p5), .val (.int n), .val (.int i), .val (.int i), .val (.int i), .val (.int (p5 ^^^ (-1 : Int32))), .unset, .unset, .unset, .unset, .unset, .unset] [])) rfl (hb hby at_45) (by decide) (by decide)
    obtain ⟨b1, g1⟩ : ∃ z, z = h0.size := ⟨_, rfl⟩
    rw [← g1] at E_b1 D1 U1 st1
    have g_b1 : n0 ≤ b1 := Nat.le_trans Z0 (Nat.le_of_eq g1.symm)
    replace S_SHIFT := Sta.ext E1 S_SHIFT
    have Z2 : n0 ≤ h1.size := Nat.le_trans Z0 E1.1
    have F_size_b1 : Fld Z h1 b1 "com/example/parleyd/parleyd/core/IntPages" "size" "I" (.int (0 : Int32)) := D1 (Or.inr (hw _ (List.mem_of_getElem? (i := 12) rfl))) (ty := .int) (by decide)
    have F_pages_b1 : Fld Z h1 b1 "com/example/parleyd/parleyd/core/IntPages" "pages" "[[I" .null := D1 (Or.inr (hw _ (List.mem_of_getElem? (i := 19) rfl))) (ty := (.array (.array .int))) (by decide)
    refine W.go st1 ?_
    show W p e below _ (T1.setTop (mkF m 48 #[.val (.int p0), .val (.int p1), .val (.int p2), .val (.int p3), .val (.int p4), .val (.int p5), .val (.int n), .val (.int i), .val (.int i), .val (.int i), .val (.int (p5 ^^^ (-1 : Int32))), .unset, .unset, .unset, .unset, .unset, .unset] [(.ref b1)]))
    refine W.go (fun _ hr => XS.dup X1.here hx rfl (hb hby at_48) rfl rfl hr) ?_
    show W p e below _ (T1.setTop (mkF m 49 #[.val (.int p0), .val (.int p1), .val (.int p2), .val (.int p3), .val (.int p4), .val (.int p5), .val (.int n), .val (.int i), .val (.int i), .val (.int i), .val (.int (p5 ^^^ (-1 : Int32))), .unset, .unset, .unset, .unset, .unset, .unset] [(.ref b1), (.ref b1)]))
    refine W.go (fun _ hr => XS.iload X1.here hx rfl (hb hby at_49) rfl hr) ?_
    show W p e below _ (T1.setTop (mkF m 51 #[.val (.int p0), .val (.int p1), .val (.int p2), .val (.int p3), .val (.int p4), .val (.int p5), .val (.int n), .val (.int i), .val (.int i), .val (.int i), .val (.int (p5 ^^^ (-1 : Int32))), .unset, .unset, .unset, .unset, .unset, .unset] [(.int n), (.ref b1), (.ref b1)]))
    refine W.go (fun _ hr => XS.iloadN X1.here hx rfl (hb hby at_51) rfl hr) ?_
    show W p e below _ (T1.setTop (mkF m 52 #[.val (.int p0), .val (.int p1), .val (.int p2), .val (.int p3), .val (.int p4), .val (.int p5), .val (.int n), .val (.int i), .val (.int i), .val (.int i), .val (.int (p5 ^^^ (-1 : Int32))), .unset, .unset, .unset, .unset, .unset, .unset] [(.int p1), (.int n), (.ref b1), (.ref b1)]))
    refine W.callI X1 hx hZ hown (g := (mkF m 52 #[.val (.int p0), .val (.int p1), .val (.int p2), .val (.int p3), .val (.int p4), .val (.int p5), .val (.int n), .val (.int i), .val (.int i), .val (.int i), .val (.int (p5 ^^^ (-1 : Int32))), .unset, .unset, .unset, .unset, .unset, .unset] [(.int p1), (.int n), (.ref b1), (.ref b1)])) (by rw [hml]; rfl) (hw _ (List.mem_of_getElem? (i := 5) rfl)) (hw _ (List.mem_of_getElem? (i := 6) rfl)) (hw _ (List.mem_of_getElem? (i := 4) rfl)) (hw _ (List.mem_of_getElem? (i := 7) rfl)) e1 (rm1 l Z a0 hw b1 n p1 h1 n0 Z2 E_b1 F_size_b1 F_pages_b1 g_b1 S_SHIFT hn) rfl (by decide) pd_101 rfl (b := b1) (argsL := [(.int n), (.int p1)]) (rest := [(.ref b1)]) rfl rfl rfl (hb hby at_52) (W0 := 1) rfl (by decide) (by decide) (by decide) (by decide) (fun v3 T3 h3 L3 X3 e3 hQ3 => ?_)
    obtain ⟨rfl, N3q, E_3, S_3, Z_3, H_3⟩ := hQ3
    have N3 := Fr.app N0 N3q
    replace E_b1 := E_3
    replace S_SHIFT := S_3
    have Z4 : n0 ≤ h3.size := Nat.le_trans Z2 Z_3
    show W p e below _ (T3.setTop (mkF m 55 #[.val (.int p0), .val (.int p1), .val (.int p2), .val (.int p3), .val (.int p4), .val (.int p5), .val (.int n), .val (.int i), .val (.int i), .val (.int i), .val (.int (p5 ^^^ (-1 : Int32))), .unset, .unset, .unset, .unset, .unset, .unset] [(.ref b1)]))
    refine W.go (fun _ hr => XS.astore X3.here hx rfl (hb hby at_55) rfl rfl (l' := #[.val (.int p0), .val (.int p1), .val (.int p2), .val (.int p3), .val (.int p4), .val (.int p5), .val (.int n), .val (.int i), .val (.int i), .val (.int i), .val (.int (p5 ^^^ (-1 : Int32))), .val (.ref b1), .unset, .unset, .unset, .unset, .unset]) rfl hr) ?_
    show W p e below _ (T3.setTop (mkF m 57 #[.val (.int p0), .val (.int p1), .val (.int p2), .val (.int p3), .val (.int p4), .val (.int p5), .val (.int n), .val (.int i), .val (.int i), .val (.int i), .val (.int (p5 ^^^ (-1 : Int32))), .val (.ref b1), .unset, .unset, .unset, .unset, .unset] []))
    refine W.go (fun _ hr => XS.aload X3.here hx rfl (hb hby at_57) rfl rfl hr) ?_
    show W p e below _ (T3.setTop (mkF m 59 #[.val (.int p0), .val (.int p1), .val (.int p2), .val (.int p3), .val (.int p4), .val (.int p5), .val (.int n), .val (.int i), .val (.int i), .val (.int i), .val (.int (p5 ^^^ (-1 : Int32))), .val (.ref b1), .unset, .unset, .unset, .unset, .unset] [(.ref b1)]))
    refine W.go (fun _ hr => XS.iload X3.here hx rfl (hb hby at_59) rfl hr) ?_
    show W p e below _ (T3.setTop (mkF m 61 #[.val (.int p0), .val (.int p1), .val (.int p2), .val (.int p3), .val (.int p4), .val (.int p5), .val (.int n), .val (.int i), .val (.int i), .val (.int i), .val (.int (p5 ^^^ (-1 : Int32))), .val (.ref b1), .unset, .unset, .unset, .unset, .unset] [(.int i), (.ref b1)]))
    refine W.go (fun _ hr => XS.iload X3.here hx rfl (hb hby at_61) rfl hr) ?_
    show W p e below _ (T3.setTop (mkF m 63 #[.val (.int p0), .val (.int p1), .val (.int p2), .val (.int p3), .val (.int p4), .val (.int p5), .val (.int n), .val (.int i), .val (.int i), .val (.int i), .val (.int (p5 ^^^ (-1 : Int32))), .val (.ref b1), .unset, .unset, .unset, .unset, .unset] [(.int p5), (.int i), (.ref b1)]))
    refine W.callV X3 hx hZ hown (g := (mkF m 63 #[.val (.int p0), .val (.int p1), .val (.int p2), .val (.int p3), .val (.int p4), .val (.int p5), .val (.int n), .val (.int i), .val (.int i), .val (.int i), .val (.int (p5 ^^^ (-1 : Int32))), .val (.ref b1), .unset, .unset, .unset, .unset, .unset] [(.int p5), (.int i), (.ref b1)])) (by rw [hml]; rfl) (hw _ (List.mem_of_getElem? (i := 30) rfl)) (hw _ (List.mem_of_getElem? (i := 31) rfl)) (hw _ (List.mem_of_getElem? (i := 33) rfl)) (hw _ (List.mem_of_getElem? (i := 32) rfl)) (hw _ (List.mem_of_getElem? (i := 4) rfl)) (hw _ (List.mem_of_getElem? (i := 34) rfl)) e3 (rm5 l Z a0 hw b1 i p5 n (fun _ => p1) h3 n0 Z4 H_3 hi E_b1 S_SHIFT) (notFace_of_selects (args := #[]) (mvT hZ (hw _ (List.mem_of_getElem? (i := 33) rfl)))) (by decide) pd_101 rfl E_b1 (argsL := [(.int i), (.int p5)]) (rest := []) rfl rfl rfl (hb hby at_63) (W0 := 0) rfl (by decide) (by decide) (by decide) (by decide) (fun v5 T5 h5 L5 X5 e5 hQ5 => ?_)
    obtain ⟨rfl, N5q, E_5, S_5, Z_5, H_5⟩ := hQ5
    have N5 := Fr.app N3 N5q
    replace E_b1 := E_5
    replace S_SHIFT := S_5
    have Z6 : n0 ≤ h5.size := Nat.le_trans Z4 Z_5
    show W p e below _ (T5.setTop (mkF m 66 #[.val (.int p0), .val (.int p1), .val (.int p2), .val (.int p3), .val (.int p4), .val (.int p5), .val (.int n), .val (.int i), .val (.int i), .val (.int i), .val (.int (p5 ^^^ (-1 : Int32))), .val (.ref b1), .unset, .unset, .unset, .unset, .unset] []))
    refine W.go (fun _ hr => XS.aload X5.here hx rfl (hb hby at_66) rfl rfl hr) ?_
    show W p e below _ (T5.setTop (mkF m 68 #[.val (.int p0), .val (.int p1), .val (.int p2), .val (.int p3), .val (.int p4), .val (.int p5), .val (.int n), .val (.int i), .val (.int i), .val (.int i), .val (.int (p5 ^^^ (-1 : Int32))), .val (.ref b1), .unset, .unset, .unset, .unset, .unset] [(.ref b1)]))
    refine W.go (fun _ hr => XS.iload X5.here hx rfl (hb hby at_68) rfl hr) ?_
    show W p e below _ (T5.setTop (mkF m 70 #[.val (.int p0), .val (.int p1), .val (.int p2), .val (.int p3), .val (.int p4), .val (.int p5), .val (.int n), .val (.int i), .val (.int i), .val (.int i), .val (.int (p5 ^^^ (-1 : Int32))), .val (.ref b1), .unset, .unset, .unset, .unset, .unset] [(.int i), (.ref b1)]))
    refine W.go (fun _ hr => XS.iload X5.here hx rfl (hb hby at_70) rfl hr) ?_
    show W p e below _ (T5.setTop (mkF m 72 #[.val (.int p0), .val (.int p1), .val (.int p2), .val (.int p3), .val (.int p4), .val (.int p5), .val (.int n), .val (.int i), .val (.int i), .val (.int i), .val (.int (p5 ^^^ (-1 : Int32))), .val (.ref b1), .unset, .unset, .unset, .unset, .unset] [(.int (p5 ^^^ (-1 : Int32))), (.int i), (.ref b1)]))
    refine W.callV X5 hx hZ hown (g := (mkF m 72 #[.val (.int p0), .val (.int p1), .val (.int p2), .val (.int p3), .val (.int p4), .val (.int p5), .val (.int n), .val (.int i), .val (.int i), .val (.int i), .val (.int (p5 ^^^ (-1 : Int32))), .val (.ref b1), .unset, .unset, .unset, .unset, .unset] [(.int (p5 ^^^ (-1 : Int32))), (.int i), (.ref b1)])) (by rw [hml]; rfl) (hw _ (List.mem_of_getElem? (i := 30) rfl)) (hw _ (List.mem_of_getElem? (i := 31) rfl)) (hw _ (List.mem_of_getElem? (i := 33) rfl)) (hw _ (List.mem_of_getElem? (i := 32) rfl)) (hw _ (List.mem_of_getElem? (i := 4) rfl)) (hw _ (List.mem_of_getElem? (i := 34) rfl)) e5 (rm5 l Z a0 hw b1 i (p5 ^^^ (-1 : Int32)) n (fun x => if x = i.toNatClampNeg then p5 else (fun _ => p1) x) h5 n0 Z6 H_5 hi E_b1 S_SHIFT) (notFace_of_selects (args := #[]) (mvT hZ (hw _ (List.mem_of_getElem? (i := 33) rfl)))) (by decide) pd_101 rfl E_b1 (argsL := [(.int i), (.int (p5 ^^^ (-1 : Int32)))]) (rest := []) rfl rfl rfl (hb hby at_72) (W0 := 0) rfl (by decide) (by decide) (by decide) (by decide) (fun v7 T7 h7 L7 X7 e7 hQ7 => ?_)
    obtain ⟨rfl, N7q, E_7, S_7, Z_7, H_7⟩ := hQ7
    have N7 := Fr.app N5 N7q
    replace E_b1 := E_7
    replace S_SHIFT := S_7
    have Z8 : n0 ≤ h7.size := Nat.le_trans Z6 Z_7
    show W p e below _ (T7.setTop (mkF m 75 #[.val (.int p0), .val (.int p1), .val (.int p2), .val (.int p3), .val (.int p4), .val (.int p5), .val (.int n), .val (.int i), .val (.int i), .val (.int i), .val (.int (p5 ^^^ (-1 : Int32))), .val (.ref b1), .unset, .unset, .unset, .unset, .unset] []))
    refine W.go (fun _ hr => XS.aload X7.here hx rfl (hb hby at_75) rfl rfl hr) ?_
    show W p e below _ (T7.setTop (mkF m 77 #[.val (.int p0), .val (.int p1), .val (.int p2), .val (.int p3), .val (.int p4), .val (.int p5), .val (.int n), .val (.int i), .val (.int i), .val (.int i), .val (.int (p5 ^^^ (-1 : Int32))), .val (.ref b1), .unset, .unset, .unset, .unset, .unset] [(.ref b1)]))
    refine W.go (fun _ hr => XS.iload X7.here hx rfl (hb hby at_77) rfl hr) ?_
    show W p e below _ (T7.setTop (mkF m 79 #[.val (.int p0), .val (.int p1), .val (.int p2), .val (.int p3), .val (.int p4), .val (.int p5), .val (.int n), .val (.int i), .val (.int i), .val (.int i), .val (.int (p5 ^^^ (-1 : Int32))), .val (.ref b1), .unset, .unset, .unset, .unset, .unset] [(.int i), (.ref b1)]))
    refine W.callV X7 hx hZ hown (g := (mkF m 79 #[.val (.int p0), .val (.int p1), .val (.int p2), .val (.int p3), .val (.int p4), .val (.int p5), .val (.int n), .val (.int i), .val (.int i), .val (.int i), .val (.int (p5 ^^^ (-1 : Int32))), .val (.ref b1), .unset, .unset, .unset, .unset, .unset] [(.int i), (.ref b1)])) (by rw [hml]; rfl) (hw _ (List.mem_of_getElem? (i := 35) rfl)) (hw _ (List.mem_of_getElem? (i := 36) rfl)) (hw _ (List.mem_of_getElem? (i := 38) rfl)) (hw _ (List.mem_of_getElem? (i := 37) rfl)) (hw _ (List.mem_of_getElem? (i := 4) rfl)) (hw _ (List.mem_of_getElem? (i := 39) rfl)) e7 (rm6 l Z a0 hw b1 i n (fun x => if x = i.toNatClampNeg then (p5 ^^^ (-1 : Int32)) else (fun x => if x = i.toNatClampNeg then p5 else (fun _ => p1) x) x) (p5 ^^^ (-1 : Int32)) h7 n0 Z8 H_7 hi S_SHIFT (by simp)) (notFace_of_selects (args := #[]) (mvT hZ (hw _ (List.mem_of_getElem? (i := 38) rfl)))) (by decide) pd_102 rfl E_b1 (argsL := [(.int i)]) (rest := []) rfl rfl rfl (hb hby at_79) (W0 := 0) rfl (by decide) (by decide) (by decide) (by decide) (fun v9 T9 h9 L9 X9 e9 hQ9 => ?_)
    obtain ⟨rfl, N9q, hh9⟩ := hQ9
    obtain rfl := hh9.symm
    have N9 := Fr.app N7 N9q
    show W p e below _ (T9.setTop (mkF m 82 #[.val (.int p0), .val (.int p1), .val (.int p2), .val (.int p3), .val (.int p4), .val (.int p5), .val (.int n), .val (.int i), .val (.int i), .val (.int i), .val (.int (p5 ^^^ (-1 : Int32))), .val (.ref b1), .unset, .unset, .unset, .unset, .unset] [(.int (p5 ^^^ (-1 : Int32)))]))
    refine W.go (fun _ hr => XS.istore X9.here hx rfl (hb hby at_82) rfl (l' := #[.val (.int p0), .val (.int p1), .val (.int p2), .val (.int p3), .val (.int p4), .val (.int p5), .val (.int n), .val (.int i), .val (.int i), .val (.int i), .val (.int (p5 ^^^ (-1 : Int32))), .val (.ref b1), .val (.int (p5 ^^^ (-1 : Int32))), .unset, .unset, .unset, .unset]) rfl hr) ?_
    show W p e below _ (T9.setTop (mkF m 84 #[.val (.int p0), .val (.int p1), .val (.int p2), .val (.int p3), .val (.int p4), .val (.int p5), .val (.int n), .val (.int i), .val (.int i), .val (.int i), .val (.int (p5 ^^^ (-1 : Int32))), .val (.ref b1), .val (.int (p5 ^^^ (-1 : Int32))), .unset, .unset, .unset, .unset] []))
    refine W.go (fun _ hr => XS.aload X9.here hx rfl (hb hby at_84) rfl rfl hr) ?_
    show W p e below _ (T9.setTop (mkF m 86 #[.val (.int p0), .val (.int p1), .val (.int p2), .val (.int p3), .val (.int p4), .val (.int p5), .val (.int n), .val (.int i), .val (.int i), .val (.int i), .val (.int (p5 ^^^ (-1 : Int32))), .val (.ref b1), .val (.int (p5 ^^^ (-1 : Int32))), .unset, .unset, .unset, .unset] [(.ref b1)]))
    refine W.go (fun _ hr => XS.iload X9.here hx rfl (hb hby at_86) rfl hr) ?_
    show W p e below _ (T9.setTop (mkF m 88 #[.val (.int p0), .val (.int p1), .val (.int p2), .val (.int p3), .val (.int p4), .val (.int p5), .val (.int n), .val (.int i), .val (.int i), .val (.int i), .val (.int (p5 ^^^ (-1 : Int32))), .val (.ref b1), .val (.int (p5 ^^^ (-1 : Int32))), .unset, .unset, .unset, .unset] [(.int i), (.ref b1)]))
    refine W.callV X9 hx hZ hown (g := (mkF m 88 #[.val (.int p0), .val (.int p1), .val (.int p2), .val (.int p3), .val (.int p4), .val (.int p5), .val (.int n), .val (.int i), .val (.int i), .val (.int i), .val (.int (p5 ^^^ (-1 : Int32))), .val (.ref b1), .val (.int (p5 ^^^ (-1 : Int32))), .unset, .unset, .unset, .unset] [(.int i), (.ref b1)])) (by rw [hml]; rfl) (hw _ (List.mem_of_getElem? (i := 35) rfl)) (hw _ (List.mem_of_getElem? (i := 36) rfl)) (hw _ (List.mem_of_getElem? (i := 38) rfl)) (hw _ (List.mem_of_getElem? (i := 37) rfl)) (hw _ (List.mem_of_getElem? (i := 4) rfl)) (hw _ (List.mem_of_getElem? (i := 39) rfl)) e9 (rm6 l Z a0 hw b1 i n (fun x => if x = i.toNatClampNeg then (p5 ^^^ (-1 : Int32)) else (fun x => if x = i.toNatClampNeg then p5 else (fun _ => p1) x) x) (p5 ^^^ (-1 : Int32)) h7 n0 Z8 H_7 hi S_SHIFT (by simp)) (notFace_of_selects (args := #[]) (mvT hZ (hw _ (List.mem_of_getElem? (i := 38) rfl)))) (by decide) pd_102 rfl E_b1 (argsL := [(.int i)]) (rest := []) rfl rfl rfl (hb hby at_88) (W0 := 0) rfl (by decide) (by decide) (by decide) (by decide) (fun v10 T10 h10 L10 X10 e10 hQ10 => ?_)
    obtain ⟨rfl, N10q, hh10⟩ := hQ10
    obtain rfl := hh10.symm
    have N10 := Fr.app N9 N10q
    show W p e below _ (T10.setTop (mkF m 91 #[.val (.int p0), .val (.int p1), .val (.int p2), .val (.int p3), .val (.int p4), .val (.int p5), .val (.int n), .val (.int i), .val (.int i), .val (.int i), .val (.int (p5 ^^^ (-1 : Int32))), .val (.ref b1), .val (.int (p5 ^^^ (-1 : Int32))), .unset, .unset, .unset, .unset] [(.int (p5 ^^^ (-1 : Int32)))]))
    refine W.go (fun _ hr => XS.istore X10.here hx rfl (hb hby at_91) rfl (l' := #[.val (.int p0), .val (.int p1), .val (.int p2), .val (.int p3), .val (.int p4), .val (.int p5), .val (.int n), .val (.int i), .val (.int i), .val (.int i), .val (.int (p5 ^^^ (-1 : Int32))), .val (.ref b1), .val (.int (p5 ^^^ (-1 : Int32))), .val (.int (p5 ^^^ (-1 : Int32))), .unset, .unset, .unset]) rfl hr) ?_
    show W p e below _ (T10.setTop (mkF m 93 #[.val (.int p0), .val (.int p1), .val (.int p2), .val (.int p3), .val (.int p4), .val (.int p5), .val (.int n), .val (.int i), .val (.int i), .val (.int i), .val (.int (p5 ^^^ (-1 : Int32))), .val (.ref b1), .val (.int (p5 ^^^ (-1 : Int32))), .val (.int (p5 ^^^ (-1 : Int32))), .unset, .unset, .unset] []))
    refine W.go (fun _ hr => XS.aload X10.here hx rfl (hb hby at_93) rfl rfl hr) ?_
    show W p e below _ (T10.setTop (mkF m 95 #[.val (.int p0), .val (.int p1), .val (.int p2), .val (.int p3), .val (.int p4), .val (.int p5), .val (.int n), .val (.int i), .val (.int i), .val (.int i), .val (.int (p5 ^^^ (-1 : Int32))), .val (.ref b1), .val (.int (p5 ^^^ (-1 : Int32))), .val (.int (p5 ^^^ (-1 : Int32))), .unset, .unset, .unset] [(.ref b1)]))
    refine W.go (fun _ hr => XS.iload X10.here hx rfl (hb hby at_95) rfl hr) ?_
    show W p e below _ (T10.setTop (mkF m 97 #[.val (.int p0), .val (.int p1), .val (.int p2), .val (.int p3), .val (.int p4), .val (.int p5), .val (.int n), .val (.int i), .val (.int i), .val (.int i), .val (.int (p5 ^^^ (-1 : Int32))), .val (.ref b1), .val (.int (p5 ^^^ (-1 : Int32))), .val (.int (p5 ^^^ (-1 : Int32))), .unset, .unset, .unset] [(.int i), (.ref b1)]))
    refine W.callV X10 hx hZ hown (g := (mkF m 97 #[.val (.int p0), .val (.int p1), .val (.int p2), .val (.int p3), .val (.int p4), .val (.int p5), .val (.int n), .val (.int i), .val (.int i), .val (.int i), .val (.int (p5 ^^^ (-1 : Int32))), .val (.ref b1), .val (.int (p5 ^^^ (-1 : Int32))), .val (.int (p5 ^^^ (-1 : Int32))), .unset, .unset, .unset] [(.int i), (.ref b1)])) (by rw [hml]; rfl) (hw _ (List.mem_of_getElem? (i := 35) rfl)) (hw _ (List.mem_of_getElem? (i := 36) rfl)) (hw _ (List.mem_of_getElem? (i := 38) rfl)) (hw _ (List.mem_of_getElem? (i := 37) rfl)) (hw _ (List.mem_of_getElem? (i := 4) rfl)) (hw _ (List.mem_of_getElem? (i := 39) rfl)) e10 (rm6 l Z a0 hw b1 i n (fun x => if x = i.toNatClampNeg then (p5 ^^^ (-1 : Int32)) else (fun x => if x = i.toNatClampNeg then p5 else (fun _ => p1) x) x) (p5 ^^^ (-1 : Int32)) h7 n0 Z8 H_7 hi S_SHIFT (by simp)) (notFace_of_selects (args := #[]) (mvT hZ (hw _ (List.mem_of_getElem? (i := 38) rfl)))) (by decide) pd_102 rfl E_b1 (argsL := [(.int i)]) (rest := []) rfl rfl rfl (hb hby at_97) (W0 := 0) rfl (by decide) (by decide) (by decide) (by decide) (fun v11 T11 h11 L11 X11 e11 hQ11 => ?_)
    obtain ⟨rfl, N11q, hh11⟩ := hQ11
    obtain rfl := hh11.symm
    have N11 := Fr.app N10 N11q
    show W p e below _ (T11.setTop (mkF m 100 #[.val (.int p0), .val (.int p1), .val (.int p2), .val (.int p3), .val (.int p4), .val (.int p5), .val (.int n), .val (.int i), .val (.int i), .val (.int i), .val (.int (p5 ^^^ (-1 : Int32))), .val (.ref b1), .val (.int (p5 ^^^ (-1 : Int32))), .val (.int (p5 ^^^ (-1 : Int32))), .unset, .unset, .unset] [(.int (p5 ^^^ (-1 : Int32)))]))
    refine W.go (fun _ hr => XS.istore X11.here hx rfl (hb hby at_100) rfl (l' := #[.val (.int p0), .val (.int p1), .val (.int p2), .val (.int p3), .val (.int p4), .val (.int p5), .val (.int n), .val (.int i), .val (.int i), .val (.int i), .val (.int (p5 ^^^ (-1 : Int32))), .val (.ref b1), .val (.int (p5 ^^^ (-1 : Int32))), .val (.int (p5 ^^^ (-1 : Int32))), .val (.int (p5 ^^^ (-1 : Int32))), .unset, .unset]) rfl hr) ?_
    show W p e below _ (T11.setTop (mkF m 102 #[.val (.int p0), .val (.int p1), .val (.int p2), .val (.int p3), .val (.int p4), .val (.int p5), .val (.int n), .val (.int i), .val (.int i), .val (.int i), .val (.int (p5 ^^^ (-1 : Int32))), .val (.ref b1), .val (.int (p5 ^^^ (-1 : Int32))), .val (.int (p5 ^^^ (-1 : Int32))), .val (.int (p5 ^^^ (-1 : Int32))), .unset, .unset] []))
    refine W.go (fun _ hr => XS.iload X11.here hx rfl (hb hby at_102) rfl hr) ?_
    show W p e below _ (T11.setTop (mkF m 104 #[.val (.int p0), .val (.int p1), .val (.int p2), .val (.int p3), .val (.int p4), .val (.int p5), .val (.int n), .val (.int i), .val (.int i), .val (.int i), .val (.int (p5 ^^^ (-1 : Int32))), .val (.ref b1), .val (.int (p5 ^^^ (-1 : Int32))), .val (.int (p5 ^^^ (-1 : Int32))), .val (.int (p5 ^^^ (-1 : Int32))), .unset, .unset] [(.int i)]))
    refine W.go (fun _ hr => XS.iload X11.here hx rfl (hb hby at_104) rfl hr) ?_
    show W p e below _ (T11.setTop (mkF m 106 #[.val (.int p0), .val (.int p1), .val (.int p2), .val (.int p3), .val (.int p4), .val (.int p5), .val (.int n), .val (.int i), .val (.int i), .val (.int i), .val (.int (p5 ^^^ (-1 : Int32))), .val (.ref b1), .val (.int (p5 ^^^ (-1 : Int32))), .val (.int (p5 ^^^ (-1 : Int32))), .val (.int (p5 ^^^ (-1 : Int32))), .unset, .unset] [(.int i), (.int i)]))
    refine W.go (fun _ hr => XS.icmpNo X11.here hx rfl (hb hby at_106) rfl (teq (rfl : i = i)).2 hr) ?_
    show W p e below _ (T11.setTop (mkF m 109 #[.val (.int p0), .val (.int p1), .val (.int p2), .val (.int p3), .val (.int p4), .val (.int p5), .val (.int n), .val (.int i), .val (.int i), .val (.int i), .val (.int (p5 ^^^ (-1 : Int32))), .val (.ref b1), .val (.int (p5 ^^^ (-1 : Int32))), .val (.int (p5 ^^^ (-1 : Int32))), .val (.int (p5 ^^^ (-1 : Int32))), .unset, .unset] []))
    refine W.go (fun _ hr => XS.iload X11.here hx rfl (hb hby at_109) rfl hr) ?_
    show W p e below _ (T11.setTop (mkF m 111 #[.val (.int p0), .val (.int p1), .val (.int p2), .val (.int p3), .val (.int p4), .val (.int p5), .val (.int n), .val (.int i), .val (.int i), .val (.int i), .val (.int (p5 ^^^ (-1 : Int32))), .val (.ref b1), .val (.int (p5 ^^^ (-1 : Int32))), .val (.int (p5 ^^^ (-1 : Int32))), .val (.int (p5 ^^^ (-1 : Int32))), .unset, .unset] [(.int (p5 ^^^ (-1 : Int32)))]))
    refine W.go (fun _ hr => XS.goto X11.here hx rfl (pc0 := 111) (pc' := 116) rfl (hb hby at_111) (by decide) (by decide) hr) ?_
    show W p e below _ (T11.setTop (mkF m 116 #[.val (.int p0), .val (.int p1), .val (.int p2), .val (.int p3), .val (.int p4), .val (.int p5), .val (.int n), .val (.int i), .val (.int i), .val (.int i), .val (.int (p5 ^^^ (-1 : Int32))), .val (.ref b1), .val (.int (p5 ^^^ (-1 : Int32))), .val (.int (p5 ^^^ (-1 : Int32))), .val (.int (p5 ^^^ (-1 : Int32))), .unset, .unset] [(.int (p5 ^^^ (-1 : Int32)))]))
    refine W.go (fun _ hr => XS.istore X11.here hx rfl (hb hby at_116) rfl (l' := #[.val (.int p0), .val (.int p1), .val (.int p2), .val (.int p3), .val (.int p4), .val (.int p5), .val (.int n), .val (.int i), .val (.int i), .val (.int i), .val (.int (p5 ^^^ (-1 : Int32))), .val (.ref b1), .val (.int (p5 ^^^ (-1 : Int32))), .val (.int (p5 ^^^ (-1 : Int32))), .val (.int (p5 ^^^ (-1 : Int32))), .val (.int (p5 ^^^ (-1 : Int32))), .unset]) rfl hr) ?_
    show W p e below _ (T11.setTop (mkF m 118 #[.val (.int p0), .val (.int p1), .val (.int p2), .val (.int p3), .val (.int p4), .val (.int p5), .val (.int n), .val (.int i), .val (.int i), .val (.int i), .val (.int (p5 ^^^ (-1 : Int32))), .val (.ref b1), .val (.int (p5 ^^^ (-1 : Int32))), .val (.int (p5 ^^^ (-1 : Int32))), .val (.int (p5 ^^^ (-1 : Int32))), .val (.int (p5 ^^^ (-1 : Int32))), .unset] []))
    refine W.go (fun _ hr => XS.iload X11.here hx rfl (hb hby at_118) rfl hr) ?_
    show W p e below _ (T11.setTop (mkF m 120 #[.val (.int p0), .val (.int p1), .val (.int p2), .val (.int p3), .val (.int p4), .val (.int p5), .val (.int n), .val (.int i), .val (.int i), .val (.int i), .val (.int (p5 ^^^ (-1 : Int32))), .val (.ref b1), .val (.int (p5 ^^^ (-1 : Int32))), .val (.int (p5 ^^^ (-1 : Int32))), .val (.int (p5 ^^^ (-1 : Int32))), .val (.int (p5 ^^^ (-1 : Int32))), .unset] [(.int i)]))
    refine W.go (fun _ hr => XS.iload X11.here hx rfl (hb hby at_120) rfl hr) ?_
    show W p e below _ (T11.setTop (mkF m 122 #[.val (.int p0), .val (.int p1), .val (.int p2), .val (.int p3), .val (.int p4), .val (.int p5), .val (.int n), .val (.int i), .val (.int i), .val (.int i), .val (.int (p5 ^^^ (-1 : Int32))), .val (.ref b1), .val (.int (p5 ^^^ (-1 : Int32))), .val (.int (p5 ^^^ (-1 : Int32))), .val (.int (p5 ^^^ (-1 : Int32))), .val (.int (p5 ^^^ (-1 : Int32))), .unset] [(.int i), (.int i)]))
    refine W.go (fun _ hr => XS.icmpNo X11.here hx rfl (hb hby at_122) rfl (teq (rfl : i = i)).2 hr) ?_
    show W p e below _ (T11.setTop (mkF m 125 #[.val (.int p0), .val (.int p1), .val (.int p2), .val (.int p3), .val (.int p4), .val (.int p5), .val (.int n), .val (.int i), .val (.int i), .val (.int i), .val (.int (p5 ^^^ (-1 : Int32))), .val (.ref b1), .val (.int (p5 ^^^ (-1 : Int32))), .val (.int (p5 ^^^ (-1 : Int32))), .val (.int (p5 ^^^ (-1 : Int32))), .val (.int (p5 ^^^ (-1 : Int32))), .unset] []))
    refine W.go (fun _ hr => XS.iload X11.here hx rfl (hb hby at_125) rfl hr) ?_
    show W p e below _ (T11.setTop (mkF m 127 #[.val (.int p0), .val (.int p1), .val (.int p2), .val (.int p3), .val (.int p4), .val (.int p5), .val (.int n), .val (.int i), .val (.int i), .val (.int i), .val (.int (p5 ^^^ (-1 : Int32))), .val (.ref b1), .val (.int (p5 ^^^ (-1 : Int32))), .val (.int (p5 ^^^ (-1 : Int32))), .val (.int (p5 ^^^ (-1 : Int32))), .val (.int (p5 ^^^ (-1 : Int32))), .unset] [(.int (p5 ^^^ (-1 : Int32)))]))
    refine W.go (fun _ hr => XS.goto X11.here hx rfl (pc0 := 127) (pc' := 143) rfl (hb hby at_127) (by decide) (by decide) hr) ?_
    show W p e below _ (T11.setTop (mkF m 143 #[.val (.int p0), .val (.int p1), .val (.int p2), .val (.int p3), .val (.int p4), .val (.int p5), .val (.int n), .val (.int i), .val (.int i), .val (.int i), .val (.int (p5 ^^^ (-1 : Int32))), .val (.ref b1), .val (.int (p5 ^^^ (-1 : Int32))), .val (.int (p5 ^^^ (-1 : Int32))), .val (.int (p5 ^^^ (-1 : Int32))), .val (.int (p5 ^^^ (-1 : Int32))), .unset] [(.int (p5 ^^^ (-1 : Int32)))]))
    refine W.go (fun _ hr => XS.istore X11.here hx rfl (hb hby at_143) rfl (l' := #[.val (.int p0), .val (.int p1), .val (.int p2), .val (.int p3), .val (.int p4), .val (.int p5), .val (.int n), .val (.int i), .val (.int i), .val (.int i), .val (.int (p5 ^^^ (-1 : Int32))), .val (.ref b1), .val (.int (p5 ^^^ (-1 : Int32))), .val (.int (p5 ^^^ (-1 : Int32))), .val (.int (p5 ^^^ (-1 : Int32))), .val (.int (p5 ^^^ (-1 : Int32))), .val (.int (p5 ^^^ (-1 : Int32)))]) rfl hr) ?_
    show W p e below _ (T11.setTop (mkF m 145 #[.val (.int p0), .val (.int p1), .val (.int p2), .val (.int p3), .val (.int p4), .val (.int p5), .val (.int n), .val (.int i), .val (.int i), .val (.int i), .val (.int (p5 ^^^ (-1 : Int32))), .val (.ref b1), .val (.int (p5 ^^^ (-1 : Int32))), .val (.int (p5 ^^^ (-1 : Int32))), .val (.int (p5 ^^^ (-1 : Int32))), .val (.int (p5 ^^^ (-1 : Int32))), .val (.int (p5 ^^^ (-1 : Int32)))] []))
    refine W.go (fun _ hr => XS.aload X11.here hx rfl (hb hby at_145) rfl rfl hr) ?_
    show W p e below _ (T11.setTop (mkF m 147 #[.val (.int p0), .val (.int p1), .val (.int p2), .val (.int p3), .val (.int p4), .val (.int p5), .val (.int n), .val (.int i), .val (.int i), .val (.int i), .val (.int (p5 ^^^ (-1 : Int32))), .val (.ref b1), .val (.int (p5 ^^^ (-1 : Int32))), .val (.int (p5 ^^^ (-1 : Int32))), .val (.int (p5 ^^^ (-1 : Int32))), .val (.int (p5 ^^^ (-1 : Int32))), .val (.int (p5 ^^^ (-1 : Int32)))] [(.ref b1)]))
    refine W.callV X11 hx hZ hown (g := (mkF m 147 #[.val (.int p0), .val (.int p1), .val (.int p2), .val (.int p3), .val (.int p4), .val (.int p5), .val (.int n), .val (.int i), .val (.int i), .val (.int i), .val (.int (p5 ^^^ (-1 : Int32))), .val (.ref b1), .val (.int (p5 ^^^ (-1 : Int32))), .val (.int (p5 ^^^ (-1 : Int32))), .val (.int (p5 ^^^ (-1 : Int32))), .val (.int (p5 ^^^ (-1 : Int32))), .val (.int (p5 ^^^ (-1 : Int32)))] [(.ref b1)])) (by rw [hml]; rfl) (hw _ (List.mem_of_getElem? (i := 40) rfl)) (hw _ (List.mem_of_getElem? (i := 41) rfl)) (hw _ (List.mem_of_getElem? (i := 43) rfl)) (hw _ (List.mem_of_getElem? (i := 42) rfl)) (hw _ (List.mem_of_getElem? (i := 4) rfl)) (hw _ (List.mem_of_getElem? (i := 44) rfl)) e11 (rm7 l Z a0 hw b1 n (fun x => if x = i.toNatClampNeg then (p5 ^^^ (-1 : Int32)) else (fun x => if x = i.toNatClampNeg then p5 else (fun _ => p1) x) x) h7 n0 Z8 H_7) (notFace_of_selects (args := #[]) (mvT hZ (hw _ (List.mem_of_getElem? (i := 43) rfl)))) (by decide) pd_103 rfl E_b1 (argsL := []) (rest := []) rfl rfl rfl (hb hby at_147) (W0 := 0) rfl (by decide) (by decide) (by decide) (by decide) (fun v12 T12 h12 L12 X12 e12 hQ12 => ?_)
    obtain ⟨rfl, N12q, hh12⟩ := hQ12
    obtain rfl := hh12.symm
    have N12 := Fr.app N11 N12q
    show W p e below _ (T12.setTop (mkF m 150 #[.val (.int p0), .val (.int p1), .val (.int p2), .val (.int p3), .val (.int p4), .val (.int p5), .val (.int n), .val (.int i), .val (.int i), .val (.int i), .val (.int (p5 ^^^ (-1 : Int32))), .val (.ref b1), .val (.int (p5 ^^^ (-1 : Int32))), .val (.int (p5 ^^^ (-1 : Int32))), .val (.int (p5 ^^^ (-1 : Int32))), .val (.int (p5 ^^^ (-1 : Int32))), .val (.int (p5 ^^^ (-1 : Int32)))] [(.int n)]))
    refine W.go (fun _ hr => XS.iload X12.here hx rfl (hb hby at_150) rfl hr) ?_
    show W p e below _ (T12.setTop (mkF m 152 #[.val (.int p0), .val (.int p1), .val (.int p2), .val (.int p3), .val (.int p4), .val (.int p5), .val (.int n), .val (.int i), .val (.int i), .val (.int i), .val (.int (p5 ^^^ (-1 : Int32))), .val (.ref b1), .val (.int (p5 ^^^ (-1 : Int32))), .val (.int (p5 ^^^ (-1 : Int32))), .val (.int (p5 ^^^ (-1 : Int32))), .val (.int (p5 ^^^ (-1 : Int32))), .val (.int (p5 ^^^ (-1 : Int32)))] [(.int n), (.int n)]))
    refine W.go (fun _ hr => XS.icmpNo X12.here hx rfl (hb hby at_152) rfl (teq (rfl : n = n)).2 hr) ?_
    show W p e below _ (T12.setTop (mkF m 155 #[.val (.int p0), .val (.int p1), .val (.int p2), .val (.int p3), .val (.int p4), .val (.int p5), .val (.int n), .val (.int i), .val (.int i), .val (.int i), .val (.int (p5 ^^^ (-1 : Int32))), .val (.ref b1), .val (.int (p5 ^^^ (-1 : Int32))), .val (.int (p5 ^^^ (-1 : Int32))), .val (.int (p5 ^^^ (-1 : Int32))), .val (.int (p5 ^^^ (-1 : Int32))), .val (.int (p5 ^^^ (-1 : Int32)))] []))
    refine W.go (fun _ hr => XS.iload X12.here hx rfl (hb hby at_155) rfl hr) ?_
    show W p e below _ (T12.setTop (mkF m 157 #[.val (.int p0), .val (.int p1), .val (.int p2), .val (.int p3), .val (.int p4), .val (.int p5), .val (.int n), .val (.int i), .val (.int i), .val (.int i), .val (.int (p5 ^^^ (-1 : Int32))), .val (.ref b1), .val (.int (p5 ^^^ (-1 : Int32))), .val (.int (p5 ^^^ (-1 : Int32))), .val (.int (p5 ^^^ (-1 : Int32))), .val (.int (p5 ^^^ (-1 : Int32))), .val (.int (p5 ^^^ (-1 : Int32)))] [(.int (p5 ^^^ (-1 : Int32)))]))
    refine W.go (fun _ hr => XS.iload X12.here hx rfl (hb hby at_157) rfl hr) ?_
    show W p e below _ (T12.setTop (mkF m 159 #[.val (.int p0), .val (.int p1), .val (.int p2), .val (.int p3), .val (.int p4), .val (.int p5), .val (.int n), .val (.int i), .val (.int i), .val (.int i), .val (.int (p5 ^^^ (-1 : Int32))), .val (.ref b1), .val (.int (p5 ^^^ (-1 : Int32))), .val (.int (p5 ^^^ (-1 : Int32))), .val (.int (p5 ^^^ (-1 : Int32))), .val (.int (p5 ^^^ (-1 : Int32))), .val (.int (p5 ^^^ (-1 : Int32)))] [(.int (p5 ^^^ (-1 : Int32))), (.int (p5 ^^^ (-1 : Int32)))]))
    refine W.go (fun _ hr => XS.icmpNo X12.here hx rfl (hb hby at_159) rfl (teq (rfl : (p5 ^^^ (-1 : Int32)) = (p5 ^^^ (-1 : Int32)))).2 hr) ?_
    show W p e below _ (T12.setTop (mkF m 162 #[.val (.int p0), .val (.int p1), .val (.int p2), .val (.int p3), .val (.int p4), .val (.int p5), .val (.int n), .val (.int i), .val (.int i), .val (.int i), .val (.int (p5 ^^^ (-1 : Int32))), .val (.ref b1), .val (.int (p5 ^^^ (-1 : Int32))), .val (.int (p5 ^^^ (-1 : Int32))), .val (.int (p5 ^^^ (-1 : Int32))), .val (.int (p5 ^^^ (-1 : Int32))), .val (.int (p5 ^^^ (-1 : Int32)))] []))
    refine W.go (fun _ hr => XS.iload X12.here hx rfl (hb hby at_162) rfl hr) ?_
    show W p e below _ (T12.setTop (mkF m 164 #[.val (.int p0), .val (.int p1), .val (.int p2), .val (.int p3), .val (.int p4), .val (.int p5), .val (.int n), .val (.int i), .val (.int i), .val (.int i), .val (.int (p5 ^^^ (-1 : Int32))), .val (.ref b1), .val (.int (p5 ^^^ (-1 : Int32))), .val (.int (p5 ^^^ (-1 : Int32))), .val (.int (p5 ^^^ (-1 : Int32))), .val (.int (p5 ^^^ (-1 : Int32))), .val (.int (p5 ^^^ (-1 : Int32)))] [(.int (p5 ^^^ (-1 : Int32)))]))
    refine W.go (fun _ hr => XS.iload X12.here hx rfl (hb hby at_164) rfl hr) ?_
    show W p e below _ (T12.setTop (mkF m 166 #[.val (.int p0), .val (.int p1), .val (.int p2), .val (.int p3), .val (.int p4), .val (.int p5), .val (.int n), .val (.int i), .val (.int i), .val (.int i), .val (.int (p5 ^^^ (-1 : Int32))), .val (.ref b1), .val (.int (p5 ^^^ (-1 : Int32))), .val (.int (p5 ^^^ (-1 : Int32))), .val (.int (p5 ^^^ (-1 : Int32))), .val (.int (p5 ^^^ (-1 : Int32))), .val (.int (p5 ^^^ (-1 : Int32)))] [(.int (p5 ^^^ (-1 : Int32))), (.int (p5 ^^^ (-1 : Int32)))]))
    refine W.go (fun _ hr => XS.icmpNo X12.here hx rfl (hb hby at_166) rfl (teq (rfl : (p5 ^^^ (-1 : Int32)) = (p5 ^^^ (-1 : Int32)))).2 hr) ?_
    show W p e below _ (T12.setTop (mkF m 169 #[.val (.int p0), .val (.int p1), .val (.int p2), .val (.int p3), .val (.int p4), .val (.int p5), .val (.int n), .val (.int i), .val (.int i), .val (.int i), .val (.int (p5 ^^^ (-1 : Int32))), .val (.ref b1), .val (.int (p5 ^^^ (-1 : Int32))), .val (.int (p5 ^^^ (-1 : Int32))), .val (.int (p5 ^^^ (-1 : Int32))), .val (.int (p5 ^^^ (-1 : Int32))), .val (.int (p5 ^^^ (-1 : Int32)))] []))
    refine W.go (fun _ hr => XS.iload X12.here hx rfl (hb hby at_169) rfl hr) ?_
    show W p e below _ (T12.setTop (mkF m 171 #[.val (.int p0), .val (.int p1), .val (.int p2), .val (.int p3), .val (.int p4), .val (.int p5), .val (.int n), .val (.int i), .val (.int i), .val (.int i), .val (.int (p5 ^^^ (-1 : Int32))), .val (.ref b1), .val (.int (p5 ^^^ (-1 : Int32))), .val (.int (p5 ^^^ (-1 : Int32))), .val (.int (p5 ^^^ (-1 : Int32))), .val (.int (p5 ^^^ (-1 : Int32))), .val (.int (p5 ^^^ (-1 : Int32)))] [(.int (p5 ^^^ (-1 : Int32)))]))
    refine W.go (fun _ hr => XS.iload X12.here hx rfl (hb hby at_171) rfl hr) ?_
    show W p e below _ (T12.setTop (mkF m 173 #[.val (.int p0), .val (.int p1), .val (.int p2), .val (.int p3), .val (.int p4), .val (.int p5), .val (.int n), .val (.int i), .val (.int i), .val (.int i), .val (.int (p5 ^^^ (-1 : Int32))), .val (.ref b1), .val (.int (p5 ^^^ (-1 : Int32))), .val (.int (p5 ^^^ (-1 : Int32))), .val (.int (p5 ^^^ (-1 : Int32))), .val (.int (p5 ^^^ (-1 : Int32))), .val (.int (p5 ^^^ (-1 : Int32)))] [(.int (p5 ^^^ (-1 : Int32))), (.int (p5 ^^^ (-1 : Int32)))]))
    refine W.go (fun _ hr => XS.icmpNo X12.here hx rfl (hb hby at_173) rfl (teq (rfl : (p5 ^^^ (-1 : Int32)) = (p5 ^^^ (-1 : Int32)))).2 hr) ?_
    show W p e below _ (T12.setTop (mkF m 176 #[.val (.int p0), .val (.int p1), .val (.int p2), .val (.int p3), .val (.int p4), .val (.int p5), .val (.int n), .val (.int i), .val (.int i), .val (.int i), .val (.int (p5 ^^^ (-1 : Int32))), .val (.ref b1), .val (.int (p5 ^^^ (-1 : Int32))), .val (.int (p5 ^^^ (-1 : Int32))), .val (.int (p5 ^^^ (-1 : Int32))), .val (.int (p5 ^^^ (-1 : Int32))), .val (.int (p5 ^^^ (-1 : Int32)))] []))
    refine W.go (fun _ hr => XS.iconst X12.here hx rfl (hb hby at_176) hr) ?_
    show W p e below _ (T12.setTop (mkF m 177 #[.val (.int p0), .val (.int p1), .val (.int p2), .val (.int p3), .val (.int p4), .val (.int p5), .val (.int n), .val (.int i), .val (.int i), .val (.int i), .val (.int (p5 ^^^ (-1 : Int32))), .val (.ref b1), .val (.int (p5 ^^^ (-1 : Int32))), .val (.int (p5 ^^^ (-1 : Int32))), .val (.int (p5 ^^^ (-1 : Int32))), .val (.int (p5 ^^^ (-1 : Int32))), .val (.int (p5 ^^^ (-1 : Int32)))] [(.int (1 : Int32))]))
    refine W.go (fun _ hr => XS.goto X12.here hx rfl (pc0 := 177) (pc' := 181) rfl (hb hby at_177) (by decide) (by decide) hr) ?_
    show W p e below _ (T12.setTop (mkF m 181 #[.val (.int p0), .val (.int p1), .val (.int p2), .val (.int p3), .val (.int p4), .val (.int p5), .val (.int n), .val (.int i), .val (.int i), .val (.int i), .val (.int (p5 ^^^ (-1 : Int32))), .val (.ref b1), .val (.int (p5 ^^^ (-1 : Int32))), .val (.int (p5 ^^^ (-1 : Int32))), .val (.int (p5 ^^^ (-1 : Int32))), .val (.int (p5 ^^^ (-1 : Int32))), .val (.int (p5 ^^^ (-1 : Int32)))] [(.int (1 : Int32))]))
    exact W.retB X12 hx hlk (t := .boolean) hret (by simp) (hb hby at_181) (by decide) (by decide) e12 ⟨rfl, N12⟩
  · have tik := own_nat hi.1 hk.1 neik
    have tki := own_nat hk.1 hi.1 (fun q => neik q.symm)
    obtain ⟨T13, h13, X13, e13, E13, E_b13, D13, U13, st13⟩ := newO X0 hx hZ hown (hw _ (List.mem_of_getElem? (i := 2) rfl)) (hw _ (List.mem_of_getElem? (i := 3) rfl)) (hw _ (List.mem_of_getElem? (i := 4) rfl)) e0 (g := (mkF m 45 #[.val (.int p0), .val (.int p1), .val (.int p2), .val (.int p3), .val (.int p4), .val (.int p5), .val (.int n), .val (.int i), .val (.int i), .val (.int k), .val (.int (p5 ^^^ (-1 : Int32))), .unset, .unset, .unset, .unset, .unset, .unset] [])) rfl (hb hby at_45) (by decide) (by decide)
    obtain ⟨b13, g13⟩ : ∃ z, z = h0.size := ⟨_, rfl⟩
    rw [← g13] at E_b13 D13 U13 st13
    have g_b13 : n0 ≤ b13 := Nat.le_trans Z0 (Nat.le_of_eq g13.symm)
    replace S_SHIFT := Sta.ext E13 S_SHIFT
    have Z14 : n0 ≤ h13.size := Nat.le_trans Z0 E13.1
    have F_size_b13 : Fld Z h13 b13 "com/example/parleyd/parleyd/core/IntPages" "size" "I" (.int (0 : Int32)) := D13 (Or.inr (hw _ (List.mem_of_getElem? (i := 12) rfl))) (ty := .int) (by decide)
    have F_pages_b13 : Fld Z h13 b13 "com/example/parleyd/parleyd/core/IntPages" "pages" "[[I" .null := D13 (Or.inr (hw _ (List.mem_of_getElem? (i := 19) rfl))) (ty := (.array (.array .int))) (by decide)
    refine W.go st13 ?_
    show W p e below _ (T13.setTop (mkF m 48 #[.val (.int p0), .val (.int p1), .val (.int p2), .val (.int p3), .val (.int p4), .val (.int p5), .val (.int n), .val (.int i), .val (.int i), .val (.int k), .val (.int (p5 ^^^ (-1 : Int32))), .unset, .unset, .unset, .unset, .unset, .unset] [(.ref b13)]))
    refine W.go (fun _ hr => XS.dup X13.here hx rfl (hb hby at_48) rfl rfl hr) ?_
    show W p e below _ (T13.setTop (mkF m 49 #[.val (.int p0), .val (.int p1), .val (.int p2), .val (.int p3), .val (.int p4), .val (.int p5), .val (.int n), .val (.int i), .val (.int i), .val (.int k), .val (.int (p5 ^^^ (-1 : Int32))), .unset, .unset, .unset, .unset, .unset, .unset] [(.ref b13), (.ref b13)]))
    refine W.go (fun _ hr => XS.iload X13.here hx rfl (hb hby at_49) rfl hr) ?_
    show W p e below _ (T13.setTop (mkF m 51 #[.val (.int p0), .val (.int p1), .val (.int p2), .val (.int p3), .val (.int p4), .val (.int p5), .val (.int n), .val (.int i), .val (.int i), .val (.int k), .val (.int (p5 ^^^ (-1 : Int32))), .unset, .unset, .unset, .unset, .unset, .unset] [(.int n), (.ref b13), (.ref b13)]))
    refine W.go (fun _ hr => XS.iloadN X13.here hx rfl (hb hby at_51) rfl hr) ?_
    show W p e below _ (T13.setTop (mkF m 52 #[.val (.int p0), .val (.int p1), .val (.int p2), .val (.int p3), .val (.int p4), .val (.int p5), .val (.int n), .val (.int i), .val (.int i), .val (.int k), .val (.int (p5 ^^^ (-1 : Int32))), .unset, .unset, .unset, .unset, .unset, .unset] [(.int p1), (.int n), (.ref b13), (.ref b13)]))
    refine W.callI X13 hx hZ hown (g := (mkF m 52 #[.val (.int p0), .val (.int p1), .val (.int p2), .val (.int p3), .val (.int p4), .val (.int p5), .val (.int n), .val (.int i), .val (.int i), .val (.int k), .val (.int (p5 ^^^ (-1 : Int32))), .unset, .unset, .unset, .unset, .unset, .unset] [(.int p1), (.int n), (.ref b13), (.ref b13)])) (by rw [hml]; rfl) (hw _ (List.mem_of_getElem? (i := 5) rfl)) (hw _ (List.mem_of_getElem? (i := 6) rfl)) (hw _ (List.mem_of_getElem? (i := 4) rfl)) (hw _ (List.mem_of_getElem? (i := 7) rfl)) e13 (rm1 l Z a0 hw b13 n p1 h13 n0 Z14 E_b13 F_size_b13 F_pages_b13 g_b13 S_SHIFT hn) rfl (by decide) pd_101 rfl (b := b13) (argsL := [(.int n), (.int p1)]) (rest := [(.ref b13)]) rfl rfl rfl (hb hby at_52) (W0 := 1) rfl (by decide) (by decide) (by decide) (by decide) (fun v15 T15 h15 L15 X15 e15 hQ15 => ?_)
    obtain ⟨rfl, N15q, E_15, S_15, Z_15, H_15⟩ := hQ15
    have N15 := Fr.app N0 N15q
    replace E_b13 := E_15
    replace S_SHIFT := S_15
    have Z16 : n0 ≤ h15.size := Nat.le_trans Z14 Z_15
    show W p e below _ (T15.setTop (mkF m 55 #[.val (.int p0), .val (.int p1), .val (.int p2), .val (.int p3), .val (.int p4), .val (.int p5), .val (.int n), .val (.int i), .val (.int i), .val (.int k), .val (.int (p5 ^^^ (-1 : Int32))), .unset, .unset, .unset, .unset, .unset, .unset] [(.ref b13)]))
    refine W.go (fun _ hr => XS.astore X15.here hx rfl (hb hby at_55) rfl rfl (l' := #[.val (.int p0), .val (.int p1), .val (.int p2), .val (.int p3), .val (.int p4), .val (.int p5), .val (.int n), .val (.int i), .val (.int i), .val (.int k), .val (.int (p5 ^^^ (-1 : Int32))), .val (.ref b13), .unset, .unset, .unset, .unset, .unset]) rfl hr) ?_
    show W p e below _ (T15.setTop (mkF m 57 #[.val (.int p0), .val (.int p1), .val (.int p2), .val (.int p3), .val (.int p4), .val (.int p5), .val (.int n), .val (.int i), .val (.int i), .val (.int k), .val (.int (p5 ^^^ (-1 : Int32))), .val (.ref b13), .unset, .unset, .unset, .unset, .unset] []))
    refine W.go (fun _ hr => XS.aload X15.here hx rfl (hb hby at_57) rfl rfl hr) ?_
    show W p e below _ (T15.setTop (mkF m 59 #[.val (.int p0), .val (.int p1), .val (.int p2), .val (.int p3), .val (.int p4), .val (.int p5), .val (.int n), .val (.int i), .val (.int i), .val (.int k), .val (.int (p5 ^^^ (-1 : Int32))), .val (.ref b13), .unset, .unset, .unset, .unset, .unset] [(.ref b13)]))
    refine W.go (fun _ hr => XS.iload X15.here hx rfl (hb hby at_59) rfl hr) ?_
    show W p e below _ (T15.setTop (mkF m 61 #[.val (.int p0), .val (.int p1), .val (.int p2), .val (.int p3), .val (.int p4), .val (.int p5), .val (.int n), .val (.int i), .val (.int i), .val (.int k), .val (.int (p5 ^^^ (-1 : Int32))), .val (.ref b13), .unset, .unset, .unset, .unset, .unset] [(.int i), (.ref b13)]))
    refine W.go (fun _ hr => XS.iload X15.here hx rfl (hb hby at_61) rfl hr) ?_
    show W p e below _ (T15.setTop (mkF m 63 #[.val (.int p0), .val (.int p1), .val (.int p2), .val (.int p3), .val (.int p4), .val (.int p5), .val (.int n), .val (.int i), .val (.int i), .val (.int k), .val (.int (p5 ^^^ (-1 : Int32))), .val (.ref b13), .unset, .unset, .unset, .unset, .unset] [(.int p5), (.int i), (.ref b13)]))
    refine W.callV X15 hx hZ hown (g := (mkF m 63 #[.val (.int p0), .val (.int p1), .val (.int p2), .val (.int p3), .val (.int p4), .val (.int p5), .val (.int n), .val (.int i), .val (.int i), .val (.int k), .val (.int (p5 ^^^ (-1 : Int32))), .val (.ref b13), .unset, .unset, .unset, .unset, .unset] [(.int p5), (.int i), (.ref b13)])) (by rw [hml]; rfl) (hw _ (List.mem_of_getElem? (i := 30) rfl)) (hw _ (List.mem_of_getElem? (i := 31) rfl)) (hw _ (List.mem_of_getElem? (i := 33) rfl)) (hw _ (List.mem_of_getElem? (i := 32) rfl)) (hw _ (List.mem_of_getElem? (i := 4) rfl)) (hw _ (List.mem_of_getElem? (i := 34) rfl)) e15 (rm5 l Z a0 hw b13 i p5 n (fun _ => p1) h15 n0 Z16 H_15 hi E_b13 S_SHIFT) (notFace_of_selects (args := #[]) (mvT hZ (hw _ (List.mem_of_getElem? (i := 33) rfl)))) (by decide) pd_101 rfl E_b13 (argsL := [(.int i), (.int p5)]) (rest := []) rfl rfl rfl (hb hby at_63) (W0 := 0) rfl (by decide) (by decide) (by decide) (by decide) (fun v17 T17 h17 L17 X17 e17 hQ17 => ?_)
    obtain ⟨rfl, N17q, E_17, S_17, Z_17, H_17⟩ := hQ17
    have N17 := Fr.app N15 N17q
    replace E_b13 := E_17
    replace S_SHIFT := S_17
    have Z18 : n0 ≤ h17.size := Nat.le_trans Z16 Z_17
    show W p e below _ (T17.setTop (mkF m 66 #[.val (.int p0), .val (.int p1), .val (.int p2), .val (.int p3), .val (.int p4), .val (.int p5), .val (.int n), .val (.int i), .val (.int i), .val (.int k), .val (.int (p5 ^^^ (-1 : Int32))), .val (.ref b13), .unset, .unset, .unset, .unset, .unset] []))
    refine W.go (fun _ hr => XS.aload X17.here hx rfl (hb hby at_66) rfl rfl hr) ?_
    show W p e below _ (T17.setTop (mkF m 68 #[.val (.int p0), .val (.int p1), .val (.int p2), .val (.int p3), .val (.int p4), .val (.int p5), .val (.int n), .val (.int i), .val (.int i), .val (.int k), .val (.int (p5 ^^^ (-1 : Int32))), .val (.ref b13), .unset, .unset, .unset, .unset, .unset] [(.ref b13)]))
    refine W.go (fun _ hr => XS.iload X17.here hx rfl (hb hby at_68) rfl hr) ?_
    show W p e below _ (T17.setTop (mkF m 70 #[.val (.int p0), .val (.int p1), .val (.int p2), .val (.int p3), .val (.int p4), .val (.int p5), .val (.int n), .val (.int i), .val (.int i), .val (.int k), .val (.int (p5 ^^^ (-1 : Int32))), .val (.ref b13), .unset, .unset, .unset, .unset, .unset] [(.int i), (.ref b13)]))
    refine W.go (fun _ hr => XS.iload X17.here hx rfl (hb hby at_70) rfl hr) ?_
    show W p e below _ (T17.setTop (mkF m 72 #[.val (.int p0), .val (.int p1), .val (.int p2), .val (.int p3), .val (.int p4), .val (.int p5), .val (.int n), .val (.int i), .val (.int i), .val (.int k), .val (.int (p5 ^^^ (-1 : Int32))), .val (.ref b13), .unset, .unset, .unset, .unset, .unset] [(.int (p5 ^^^ (-1 : Int32))), (.int i), (.ref b13)]))
    refine W.callV X17 hx hZ hown (g := (mkF m 72 #[.val (.int p0), .val (.int p1), .val (.int p2), .val (.int p3), .val (.int p4), .val (.int p5), .val (.int n), .val (.int i), .val (.int i), .val (.int k), .val (.int (p5 ^^^ (-1 : Int32))), .val (.ref b13), .unset, .unset, .unset, .unset, .unset] [(.int (p5 ^^^ (-1 : Int32))), (.int i), (.ref b13)])) (by rw [hml]; rfl) (hw _ (List.mem_of_getElem? (i := 30) rfl)) (hw _ (List.mem_of_getElem? (i := 31) rfl)) (hw _ (List.mem_of_getElem? (i := 33) rfl)) (hw _ (List.mem_of_getElem? (i := 32) rfl)) (hw _ (List.mem_of_getElem? (i := 4) rfl)) (hw _ (List.mem_of_getElem? (i := 34) rfl)) e17 (rm5 l Z a0 hw b13 i (p5 ^^^ (-1 : Int32)) n (fun x => if x = i.toNatClampNeg then p5 else (fun _ => p1) x) h17 n0 Z18 H_17 hi E_b13 S_SHIFT) (notFace_of_selects (args := #[]) (mvT hZ (hw _ (List.mem_of_getElem? (i := 33) rfl)))) (by decide) pd_101 rfl E_b13 (argsL := [(.int i), (.int (p5 ^^^ (-1 : Int32)))]) (rest := []) rfl rfl rfl (hb hby at_72) (W0 := 0) rfl (by decide) (by decide) (by decide) (by decide) (fun v19 T19 h19 L19 X19 e19 hQ19 => ?_)
    obtain ⟨rfl, N19q, E_19, S_19, Z_19, H_19⟩ := hQ19
    have N19 := Fr.app N17 N19q
    replace E_b13 := E_19
    replace S_SHIFT := S_19
    have Z20 : n0 ≤ h19.size := Nat.le_trans Z18 Z_19
    show W p e below _ (T19.setTop (mkF m 75 #[.val (.int p0), .val (.int p1), .val (.int p2), .val (.int p3), .val (.int p4), .val (.int p5), .val (.int n), .val (.int i), .val (.int i), .val (.int k), .val (.int (p5 ^^^ (-1 : Int32))), .val (.ref b13), .unset, .unset, .unset, .unset, .unset] []))
    refine W.go (fun _ hr => XS.aload X19.here hx rfl (hb hby at_75) rfl rfl hr) ?_
    show W p e below _ (T19.setTop (mkF m 77 #[.val (.int p0), .val (.int p1), .val (.int p2), .val (.int p3), .val (.int p4), .val (.int p5), .val (.int n), .val (.int i), .val (.int i), .val (.int k), .val (.int (p5 ^^^ (-1 : Int32))), .val (.ref b13), .unset, .unset, .unset, .unset, .unset] [(.ref b13)]))
    refine W.go (fun _ hr => XS.iload X19.here hx rfl (hb hby at_77) rfl hr) ?_
    show W p e below _ (T19.setTop (mkF m 79 #[.val (.int p0), .val (.int p1), .val (.int p2), .val (.int p3), .val (.int p4), .val (.int p5), .val (.int n), .val (.int i), .val (.int i), .val (.int k), .val (.int (p5 ^^^ (-1 : Int32))), .val (.ref b13), .unset, .unset, .unset, .unset, .unset] [(.int i), (.ref b13)]))
    refine W.callV X19 hx hZ hown (g := (mkF m 79 #[.val (.int p0), .val (.int p1), .val (.int p2), .val (.int p3), .val (.int p4), .val (.int p5), .val (.int n), .val (.int i), .val (.int i), .val (.int k), .val (.int (p5 ^^^ (-1 : Int32))), .val (.ref b13), .unset, .unset, .unset, .unset, .unset] [(.int i), (.ref b13)])) (by rw [hml]; rfl) (hw _ (List.mem_of_getElem? (i := 35) rfl)) (hw _ (List.mem_of_getElem? (i := 36) rfl)) (hw _ (List.mem_of_getElem? (i := 38) rfl)) (hw _ (List.mem_of_getElem? (i := 37) rfl)) (hw _ (List.mem_of_getElem? (i := 4) rfl)) (hw _ (List.mem_of_getElem? (i := 39) rfl)) e19 (rm6 l Z a0 hw b13 i n (fun x => if x = i.toNatClampNeg then (p5 ^^^ (-1 : Int32)) else (fun x => if x = i.toNatClampNeg then p5 else (fun _ => p1) x) x) (p5 ^^^ (-1 : Int32)) h19 n0 Z20 H_19 hi S_SHIFT (by simp [tik, tki])) (notFace_of_selects (args := #[]) (mvT hZ (hw _ (List.mem_of_getElem? (i := 38) rfl)))) (by decide) pd_102 rfl E_b13 (argsL := [(.int i)]) (rest := []) rfl rfl rfl (hb hby at_79) (W0 := 0) rfl (by decide) (by decide) (by decide) (by decide) (fun v21 T21 h21 L21 X21 e21 hQ21 => ?_)
    obtain ⟨rfl, N21q, hh21⟩ := hQ21
    obtain rfl := hh21.symm
    have N21 := Fr.app N19 N21q
    show W p e below _ (T21.setTop (mkF m 82 #[.val (.int p0), .val (.int p1), .val (.int p2), .val (.int p3), .val (.int p4), .val (.int p5), .val (.int n), .val (.int i), .val (.int i), .val (.int k), .val (.int (p5 ^^^ (-1 : Int32))), .val (.ref b13), .unset, .unset, .unset, .unset, .unset] [(.int (p5 ^^^ (-1 : Int32)))]))
    refine W.go (fun _ hr => XS.istore X21.here hx rfl (hb hby at_82) rfl (l' := #[.val (.int p0), .val (.int p1), .val (.int p2), .val (.int p3), .val (.int p4), .val (.int p5), .val (.int n), .val (.int i), .val (.int i), .val (.int k), .val (.int (p5 ^^^ (-1 : Int32))), .val (.ref b13), .val (.int (p5 ^^^ (-1 : Int32))), .unset, .unset, .unset, .unset]) rfl hr) ?_
    show W p e below _ (T21.setTop (mkF m 84 #[.val (.int p0), .val (.int p1), .val (.int p2), .val (.int p3), .val (.int p4), .val (.int p5), .val (.int n), .val (.int i), .val (.int i), .val (.int k), .val (.int (p5 ^^^ (-1 : Int32))), .val (.ref b13), .val (.int (p5 ^^^ (-1 : Int32))), .unset, .unset, .unset, .unset] []))
    refine W.go (fun _ hr => XS.aload X21.here hx rfl (hb hby at_84) rfl rfl hr) ?_
    show W p e below _ (T21.setTop (mkF m 86 #[.val (.int p0), .val (.int p1), .val (.int p2), .val (.int p3), .val (.int p4), .val (.int p5), .val (.int n), .val (.int i), .val (.int i), .val (.int k), .val (.int (p5 ^^^ (-1 : Int32))), .val (.ref b13), .val (.int (p5 ^^^ (-1 : Int32))), .unset, .unset, .unset, .unset] [(.ref b13)]))
    refine W.go (fun _ hr => XS.iload X21.here hx rfl (hb hby at_86) rfl hr) ?_
    show W p e below _ (T21.setTop (mkF m 88 #[.val (.int p0), .val (.int p1), .val (.int p2), .val (.int p3), .val (.int p4), .val (.int p5), .val (.int n), .val (.int i), .val (.int i), .val (.int k), .val (.int (p5 ^^^ (-1 : Int32))), .val (.ref b13), .val (.int (p5 ^^^ (-1 : Int32))), .unset, .unset, .unset, .unset] [(.int i), (.ref b13)]))
    refine W.callV X21 hx hZ hown (g := (mkF m 88 #[.val (.int p0), .val (.int p1), .val (.int p2), .val (.int p3), .val (.int p4), .val (.int p5), .val (.int n), .val (.int i), .val (.int i), .val (.int k), .val (.int (p5 ^^^ (-1 : Int32))), .val (.ref b13), .val (.int (p5 ^^^ (-1 : Int32))), .unset, .unset, .unset, .unset] [(.int i), (.ref b13)])) (by rw [hml]; rfl) (hw _ (List.mem_of_getElem? (i := 35) rfl)) (hw _ (List.mem_of_getElem? (i := 36) rfl)) (hw _ (List.mem_of_getElem? (i := 38) rfl)) (hw _ (List.mem_of_getElem? (i := 37) rfl)) (hw _ (List.mem_of_getElem? (i := 4) rfl)) (hw _ (List.mem_of_getElem? (i := 39) rfl)) e21 (rm6 l Z a0 hw b13 i n (fun x => if x = i.toNatClampNeg then (p5 ^^^ (-1 : Int32)) else (fun x => if x = i.toNatClampNeg then p5 else (fun _ => p1) x) x) (p5 ^^^ (-1 : Int32)) h19 n0 Z20 H_19 hi S_SHIFT (by simp [tik, tki])) (notFace_of_selects (args := #[]) (mvT hZ (hw _ (List.mem_of_getElem? (i := 38) rfl)))) (by decide) pd_102 rfl E_b13 (argsL := [(.int i)]) (rest := []) rfl rfl rfl (hb hby at_88) (W0 := 0) rfl (by decide) (by decide) (by decide) (by decide) (fun v22 T22 h22 L22 X22 e22 hQ22 => ?_)
    obtain ⟨rfl, N22q, hh22⟩ := hQ22
    obtain rfl := hh22.symm
    have N22 := Fr.app N21 N22q
    show W p e below _ (T22.setTop (mkF m 91 #[.val (.int p0), .val (.int p1), .val (.int p2), .val (.int p3), .val (.int p4), .val (.int p5), .val (.int n), .val (.int i), .val (.int i), .val (.int k), .val (.int (p5 ^^^ (-1 : Int32))), .val (.ref b13), .val (.int (p5 ^^^ (-1 : Int32))), .unset, .unset, .unset, .unset] [(.int (p5 ^^^ (-1 : Int32)))]))
    refine W.go (fun _ hr => XS.istore X22.here hx rfl (hb hby at_91) rfl (l' := #[.val (.int p0), .val (.int p1), .val (.int p2), .val (.int p3), .val (.int p4), .val (.int p5), .val (.int n), .val (.int i), .val (.int i), .val (.int k), .val (.int (p5 ^^^ (-1 : Int32))), .val (.ref b13), .val (.int (p5 ^^^ (-1 : Int32))), .val (.int (p5 ^^^ (-1 : Int32))), .unset, .unset, .unset]) rfl hr) ?_
    show W p e below _ (T22.setTop (mkF m 93 #[.val (.int p0), .val (.int p1), .val (.int p2), .val (.int p3), .val (.int p4), .val (.int p5), .val (.int n), .val (.int i), .val (.int i), .val (.int k), .val (.int (p5 ^^^ (-1 : Int32))), .val (.ref b13), .val (.int (p5 ^^^ (-1 : Int32))), .val (.int (p5 ^^^ (-1 : Int32))), .unset, .unset, .unset] []))
    refine W.go (fun _ hr => XS.aload X22.here hx rfl (hb hby at_93) rfl rfl hr) ?_
    show W p e below _ (T22.setTop (mkF m 95 #[.val (.int p0), .val (.int p1), .val (.int p2), .val (.int p3), .val (.int p4), .val (.int p5), .val (.int n), .val (.int i), .val (.int i), .val (.int k), .val (.int (p5 ^^^ (-1 : Int32))), .val (.ref b13), .val (.int (p5 ^^^ (-1 : Int32))), .val (.int (p5 ^^^ (-1 : Int32))), .unset, .unset, .unset] [(.ref b13)]))
    refine W.go (fun _ hr => XS.iload X22.here hx rfl (hb hby at_95) rfl hr) ?_
    show W p e below _ (T22.setTop (mkF m 97 #[.val (.int p0), .val (.int p1), .val (.int p2), .val (.int p3), .val (.int p4), .val (.int p5), .val (.int n), .val (.int i), .val (.int i), .val (.int k), .val (.int (p5 ^^^ (-1 : Int32))), .val (.ref b13), .val (.int (p5 ^^^ (-1 : Int32))), .val (.int (p5 ^^^ (-1 : Int32))), .unset, .unset, .unset] [(.int k), (.ref b13)]))
    refine W.callV X22 hx hZ hown (g := (mkF m 97 #[.val (.int p0), .val (.int p1), .val (.int p2), .val (.int p3), .val (.int p4), .val (.int p5), .val (.int n), .val (.int i), .val (.int i), .val (.int k), .val (.int (p5 ^^^ (-1 : Int32))), .val (.ref b13), .val (.int (p5 ^^^ (-1 : Int32))), .val (.int (p5 ^^^ (-1 : Int32))), .unset, .unset, .unset] [(.int k), (.ref b13)])) (by rw [hml]; rfl) (hw _ (List.mem_of_getElem? (i := 35) rfl)) (hw _ (List.mem_of_getElem? (i := 36) rfl)) (hw _ (List.mem_of_getElem? (i := 38) rfl)) (hw _ (List.mem_of_getElem? (i := 37) rfl)) (hw _ (List.mem_of_getElem? (i := 4) rfl)) (hw _ (List.mem_of_getElem? (i := 39) rfl)) e22 (rm6 l Z a0 hw b13 k n (fun x => if x = i.toNatClampNeg then (p5 ^^^ (-1 : Int32)) else (fun x => if x = i.toNatClampNeg then p5 else (fun _ => p1) x) x) p1 h19 n0 Z20 H_19 hk S_SHIFT (by simp [tik, tki])) (notFace_of_selects (args := #[]) (mvT hZ (hw _ (List.mem_of_getElem? (i := 38) rfl)))) (by decide) pd_102 rfl E_b13 (argsL := [(.int k)]) (rest := []) rfl rfl rfl (hb hby at_97) (W0 := 0) rfl (by decide) (by decide) (by decide) (by decide) (fun v23 T23 h23 L23 X23 e23 hQ23 => ?_)
    obtain ⟨rfl, N23q, hh23⟩ := hQ23
    obtain rfl := hh23.symm
    have N23 := Fr.app N22 N23q
    show W p e below _ (T23.setTop (mkF m 100 #[.val (.int p0), .val (.int p1), .val (.int p2), .val (.int p3), .val (.int p4), .val (.int p5), .val (.int n), .val (.int i), .val (.int i), .val (.int k), .val (.int (p5 ^^^ (-1 : Int32))), .val (.ref b13), .val (.int (p5 ^^^ (-1 : Int32))), .val (.int (p5 ^^^ (-1 : Int32))), .unset, .unset, .unset] [(.int p1)]))
    refine W.go (fun _ hr => XS.istore X23.here hx rfl (hb hby at_100) rfl (l' := #[.val (.int p0), .val (.int p1), .val (.int p2), .val (.int p3), .val (.int p4), .val (.int p5), .val (.int n), .val (.int i), .val (.int i), .val (.int k), .val (.int (p5 ^^^ (-1 : Int32))), .val (.ref b13), .val (.int (p5 ^^^ (-1 : Int32))), .val (.int (p5 ^^^ (-1 : Int32))), .val (.int p1), .unset, .unset]) rfl hr) ?_
    show W p e below _ (T23.setTop (mkF m 102 #[.val (.int p0), .val (.int p1), .val (.int p2), .val (.int p3), .val (.int p4), .val (.int p5), .val (.int n), .val (.int i), .val (.int i), .val (.int k), .val (.int (p5 ^^^ (-1 : Int32))), .val (.ref b13), .val (.int (p5 ^^^ (-1 : Int32))), .val (.int (p5 ^^^ (-1 : Int32))), .val (.int p1), .unset, .unset] []))
    refine W.go (fun _ hr => XS.iload X23.here hx rfl (hb hby at_102) rfl hr) ?_
    show W p e below _ (T23.setTop (mkF m 104 #[.val (.int p0), .val (.int p1), .val (.int p2), .val (.int p3), .val (.int p4), .val (.int p5), .val (.int n), .val (.int i), .val (.int i), .val (.int k), .val (.int (p5 ^^^ (-1 : Int32))), .val (.ref b13), .val (.int (p5 ^^^ (-1 : Int32))), .val (.int (p5 ^^^ (-1 : Int32))), .val (.int p1), .unset, .unset] [(.int i)]))
    refine W.go (fun _ hr => XS.iload X23.here hx rfl (hb hby at_104) rfl hr) ?_
    show W p e below _ (T23.setTop (mkF m 106 #[.val (.int p0), .val (.int p1), .val (.int p2), .val (.int p3), .val (.int p4), .val (.int p5), .val (.int n), .val (.int i), .val (.int i), .val (.int k), .val (.int (p5 ^^^ (-1 : Int32))), .val (.ref b13), .val (.int (p5 ^^^ (-1 : Int32))), .val (.int (p5 ^^^ (-1 : Int32))), .val (.int p1), .unset, .unset] [(.int i), (.int i)]))
    refine W.go (fun _ hr => XS.icmpNo X23.here hx rfl (hb hby at_106) rfl (teq (rfl : i = i)).2 hr) ?_
    show W p e below _ (T23.setTop (mkF m 109 #[.val (.int p0), .val (.int p1), .val (.int p2), .val (.int p3), .val (.int p4), .val (.int p5), .val (.int n), .val (.int i), .val (.int i), .val (.int k), .val (.int (p5 ^^^ (-1 : Int32))), .val (.ref b13), .val (.int (p5 ^^^ (-1 : Int32))), .val (.int (p5 ^^^ (-1 : Int32))), .val (.int p1), .unset, .unset] []))
    refine W.go (fun _ hr => XS.iload X23.here hx rfl (hb hby at_109) rfl hr) ?_
    show W p e below _ (T23.setTop (mkF m 111 #[.val (.int p0), .val (.int p1), .val (.int p2), .val (.int p3), .val (.int p4), .val (.int p5), .val (.int n), .val (.int i), .val (.int i), .val (.int k), .val (.int (p5 ^^^ (-1 : Int32))), .val (.ref b13), .val (.int (p5 ^^^ (-1 : Int32))), .val (.int (p5 ^^^ (-1 : Int32))), .val (.int p1), .unset, .unset] [(.int (p5 ^^^ (-1 : Int32)))]))
    refine W.go (fun _ hr => XS.goto X23.here hx rfl (pc0 := 111) (pc' := 116) rfl (hb hby at_111) (by decide) (by decide) hr) ?_
    show W p e below _ (T23.setTop (mkF m 116 #[.val (.int p0), .val (.int p1), .val (.int p2), .val (.int p3), .val (.int p4), .val (.int p5), .val (.int n), .val (.int i), .val (.int i), .val (.int k), .val (.int (p5 ^^^ (-1 : Int32))), .val (.ref b13), .val (.int (p5 ^^^ (-1 : Int32))), .val (.int (p5 ^^^ (-1 : Int32))), .val (.int p1), .unset, .unset] [(.int (p5 ^^^ (-1 : Int32)))]))
    refine W.go (fun _ hr => XS.istore X23.here hx rfl (hb hby at_116) rfl (l' := #[.val (.int p0), .val (.int p1), .val (.int p2), .val (.int p3), .val (.int p4), .val (.int p5), .val (.int n), .val (.int i), .val (.int i), .val (.int k), .val (.int (p5 ^^^ (-1 : Int32))), .val (.ref b13), .val (.int (p5 ^^^ (-1 : Int32))), .val (.int (p5 ^^^ (-1 : Int32))), .val (.int p1), .val (.int (p5 ^^^ (-1 : Int32))), .unset]) rfl hr) ?_
    show W p e below _ (T23.setTop (mkF m 118 #[.val (.int p0), .val (.int p1), .val (.int p2), .val (.int p3), .val (.int p4), .val (.int p5), .val (.int n), .val (.int i), .val (.int i), .val (.int k), .val (.int (p5 ^^^ (-1 : Int32))), .val (.ref b13), .val (.int (p5 ^^^ (-1 : Int32))), .val (.int (p5 ^^^ (-1 : Int32))), .val (.int p1), .val (.int (p5 ^^^ (-1 : Int32))), .unset] []))
    refine W.go (fun _ hr => XS.iload X23.here hx rfl (hb hby at_118) rfl hr) ?_
    show W p e below _ (T23.setTop (mkF m 120 #[.val (.int p0), .val (.int p1), .val (.int p2), .val (.int p3), .val (.int p4), .val (.int p5), .val (.int n), .val (.int i), .val (.int i), .val (.int k), .val (.int (p5 ^^^ (-1 : Int32))), .val (.ref b13), .val (.int (p5 ^^^ (-1 : Int32))), .val (.int (p5 ^^^ (-1 : Int32))), .val (.int p1), .val (.int (p5 ^^^ (-1 : Int32))), .unset] [(.int k)]))
    refine W.go (fun _ hr => XS.iload X23.here hx rfl (hb hby at_120) rfl hr) ?_
    show W p e below _ (T23.setTop (mkF m 122 #[.val (.int p0), .val (.int p1), .val (.int p2), .val (.int p3), .val (.int p4), .val (.int p5), .val (.int n), .val (.int i), .val (.int i), .val (.int k), .val (.int (p5 ^^^ (-1 : Int32))), .val (.ref b13), .val (.int (p5 ^^^ (-1 : Int32))), .val (.int (p5 ^^^ (-1 : Int32))), .val (.int p1), .val (.int (p5 ^^^ (-1 : Int32))), .unset] [(.int i), (.int k)]))
    refine W.go (fun _ hr => XS.icmpYes X23.here hx rfl (pc0 := 122) (pc' := 130) rfl (hb hby at_122) rfl (feq (fun q => neik q.symm)).2 (by decide) (by decide) hr) ?_
    show W p e below _ (T23.setTop (mkF m 130 #[.val (.int p0), .val (.int p1), .val (.int p2), .val (.int p3), .val (.int p4), .val (.int p5), .val (.int n), .val (.int i), .val (.int i), .val (.int k), .val (.int (p5 ^^^ (-1 : Int32))), .val (.ref b13), .val (.int (p5 ^^^ (-1 : Int32))), .val (.int (p5 ^^^ (-1 : Int32))), .val (.int p1), .val (.int (p5 ^^^ (-1 : Int32))), .unset] []))
    refine W.go (fun _ hr => XS.iload X23.here hx rfl (hb hby at_130) rfl hr) ?_
    show W p e below _ (T23.setTop (mkF m 132 #[.val (.int p0), .val (.int p1), .val (.int p2), .val (.int p3), .val (.int p4), .val (.int p5), .val (.int n), .val (.int i), .val (.int i), .val (.int k), .val (.int (p5 ^^^ (-1 : Int32))), .val (.ref b13), .val (.int (p5 ^^^ (-1 : Int32))), .val (.int (p5 ^^^ (-1 : Int32))), .val (.int p1), .val (.int (p5 ^^^ (-1 : Int32))), .unset] [(.int k)]))
    refine W.go (fun _ hr => XS.iload X23.here hx rfl (hb hby at_132) rfl hr) ?_
    show W p e below _ (T23.setTop (mkF m 134 #[.val (.int p0), .val (.int p1), .val (.int p2), .val (.int p3), .val (.int p4), .val (.int p5), .val (.int n), .val (.int i), .val (.int i), .val (.int k), .val (.int (p5 ^^^ (-1 : Int32))), .val (.ref b13), .val (.int (p5 ^^^ (-1 : Int32))), .val (.int (p5 ^^^ (-1 : Int32))), .val (.int p1), .val (.int (p5 ^^^ (-1 : Int32))), .unset] [(.int i), (.int k)]))
    refine W.go (fun _ hr => XS.icmpYes X23.here hx rfl (pc0 := 134) (pc' := 142) rfl (hb hby at_134) rfl (feq (fun q => neik q.symm)).2 (by decide) (by decide) hr) ?_
    show W p e below _ (T23.setTop (mkF m 142 #[.val (.int p0), .val (.int p1), .val (.int p2), .val (.int p3), .val (.int p4), .val (.int p5), .val (.int n), .val (.int i), .val (.int i), .val (.int k), .val (.int (p5 ^^^ (-1 : Int32))), .val (.ref b13), .val (.int (p5 ^^^ (-1 : Int32))), .val (.int (p5 ^^^ (-1 : Int32))), .val (.int p1), .val (.int (p5 ^^^ (-1 : Int32))), .unset] []))
    refine W.go (fun _ hr => XS.iloadN X23.here hx rfl (hb hby at_142) rfl hr) ?_
    show W p e below _ (T23.setTop (mkF m 143 #[.val (.int p0), .val (.int p1), .val (.int p2), .val (.int p3), .val (.int p4), .val (.int p5), .val (.int n), .val (.int i), .val (.int i), .val (.int k), .val (.int (p5 ^^^ (-1 : Int32))), .val (.ref b13), .val (.int (p5 ^^^ (-1 : Int32))), .val (.int (p5 ^^^ (-1 : Int32))), .val (.int p1), .val (.int (p5 ^^^ (-1 : Int32))), .unset] [(.int p1)]))
    refine W.go (fun _ hr => XS.istore X23.here hx rfl (hb hby at_143) rfl (l' := #[.val (.int p0), .val (.int p1), .val (.int p2), .val (.int p3), .val (.int p4), .val (.int p5), .val (.int n), .val (.int i), .val (.int i), .val (.int k), .val (.int (p5 ^^^ (-1 : Int32))), .val (.ref b13), .val (.int (p5 ^^^ (-1 : Int32))), .val (.int (p5 ^^^ (-1 : Int32))), .val (.int p1), .val (.int (p5 ^^^ (-1 : Int32))), .val (.int p1)]) rfl hr) ?_
    show W p e below _ (T23.setTop (mkF m 145 #[.val (.int p0), .val (.int p1), .val (.int p2), .val (.int p3), .val (.int p4), .val (.int p5), .val (.int n), .val (.int i), .val (.int i), .val (.int k), .val (.int (p5 ^^^ (-1 : Int32))), .val (.ref b13), .val (.int (p5 ^^^ (-1 : Int32))), .val (.int (p5 ^^^ (-1 : Int32))), .val (.int p1), .val (.int (p5 ^^^ (-1 : Int32))), .val (.int p1)] []))
    refine W.go (fun _ hr => XS.aload X23.here hx rfl (hb hby at_145) rfl rfl hr) ?_
    show W p e below _ (T23.setTop (mkF m 147 #[.val (.int p0), .val (.int p1), .val (.int p2), .val (.int p3), .val (.int p4), .val (.int p5), .val (.int n), .val (.int i), .val (.int i), .val (.int k), .val (.int (p5 ^^^ (-1 : Int32))), .val (.ref b13), .val (.int (p5 ^^^ (-1 : Int32))), .val (.int (p5 ^^^ (-1 : Int32))), .val (.int p1), .val (.int (p5 ^^^ (-1 : Int32))), .val (.int p1)] [(.ref b13)]))
    refine W.callV X23 hx hZ hown (g := (mkF m 147 #[.val (.int p0), .val (.int p1), .val (.int p2), .val (.int p3), .val (.int p4), .val (.int p5), .val (.int n), .val (.int i), .val (.int i), .val (.int k), .val (.int (p5 ^^^ (-1 : Int32))), .val (.ref b13), .val (.int (p5 ^^^ (-1 : Int32))), .val (.int (p5 ^^^ (-1 : Int32))), .val (.int p1), .val (.int (p5 ^^^ (-1 : Int32))), .val (.int p1)] [(.ref b13)])) (by rw [hml]; rfl) (hw _ (List.mem_of_getElem? (i := 40) rfl)) (hw _ (List.mem_of_getElem? (i := 41) rfl)) (hw _ (List.mem_of_getElem? (i := 43) rfl)) (hw _ (List.mem_of_getElem? (i := 42) rfl)) (hw _ (List.mem_of_getElem? (i := 4) rfl)) (hw _ (List.mem_of_getElem? (i := 44) rfl)) e23 (rm7 l Z a0 hw b13 n (fun x => if x = i.toNatClampNeg then (p5 ^^^ (-1 : Int32)) else (fun x => if x = i.toNatClampNeg then p5 else (fun _ => p1) x) x) h19 n0 Z20 H_19) (notFace_of_selects (args := #[]) (mvT hZ (hw _ (List.mem_of_getElem? (i := 43) rfl)))) (by decide) pd_103 rfl E_b13 (argsL := []) (rest := []) rfl rfl rfl (hb hby at_147) (W0 := 0) rfl (by decide) (by decide) (by decide) (by decide) (fun v24 T24 h24 L24 X24 e24 hQ24 => ?_)
    obtain ⟨rfl, N24q, hh24⟩ := hQ24
    obtain rfl := hh24.symm
    have N24 := Fr.app N23 N24q
    show W p e below _ (T24.setTop (mkF m 150 #[.val (.int p0), .val (.int p1), .val (.int p2), .val (.int p3), .val (.int p4), .val (.int p5), .val (.int n), .val (.int i), .val (.int i), .val (.int k), .val (.int (p5 ^^^ (-1 : Int32))), .val (.ref b13), .val (.int (p5 ^^^ (-1 : Int32))), .val (.int (p5 ^^^ (-1 : Int32))), .val (.int p1), .val (.int (p5 ^^^ (-1 : Int32))), .val (.int p1)] [(.int n)]))
    refine W.go (fun _ hr => XS.iload X24.here hx rfl (hb hby at_150) rfl hr) ?_
    show W p e below _ (T24.setTop (mkF m 152 #[.val (.int p0), .val (.int p1), .val (.int p2), .val (.int p3), .val (.int p4), .val (.int p5), .val (.int n), .val (.int i), .val (.int i), .val (.int k), .val (.int (p5 ^^^ (-1 : Int32))), .val (.ref b13), .val (.int (p5 ^^^ (-1 : Int32))), .val (.int (p5 ^^^ (-1 : Int32))), .val (.int p1), .val (.int (p5 ^^^ (-1 : Int32))), .val (.int p1)] [(.int n), (.int n)]))
    refine W.go (fun _ hr => XS.icmpNo X24.here hx rfl (hb hby at_152) rfl (teq (rfl : n = n)).2 hr) ?_
    show W p e below _ (T24.setTop (mkF m 155 #[.val (.int p0), .val (.int p1), .val (.int p2), .val (.int p3), .val (.int p4), .val (.int p5), .val (.int n), .val (.int i), .val (.int i), .val (.int k), .val (.int (p5 ^^^ (-1 : Int32))), .val (.ref b13), .val (.int (p5 ^^^ (-1 : Int32))), .val (.int (p5 ^^^ (-1 : Int32))), .val (.int p1), .val (.int (p5 ^^^ (-1 : Int32))), .val (.int p1)] []))
    refine W.go (fun _ hr => XS.iload X24.here hx rfl (hb hby at_155) rfl hr) ?_
    show W p e below _ (T24.setTop (mkF m 157 #[.val (.int p0), .val (.int p1), .val (.int p2), .val (.int p3), .val (.int p4), .val (.int p5), .val (.int n), .val (.int i), .val (.int i), .val (.int k), .val (.int (p5 ^^^ (-1 : Int32))), .val (.ref b13), .val (.int (p5 ^^^ (-1 : Int32))), .val (.int (p5 ^^^ (-1 : Int32))), .val (.int p1), .val (.int (p5 ^^^ (-1 : Int32))), .val (.int p1)] [(.int (p5 ^^^ (-1 : Int32)))]))
    refine W.go (fun _ hr => XS.iload X24.here hx rfl (hb hby at_157) rfl hr) ?_
    show W p e below _ (T24.setTop (mkF m 159 #[.val (.int p0), .val (.int p1), .val (.int p2), .val (.int p3), .val (.int p4), .val (.int p5), .val (.int n), .val (.int i), .val (.int i), .val (.int k), .val (.int (p5 ^^^ (-1 : Int32))), .val (.ref b13), .val (.int (p5 ^^^ (-1 : Int32))), .val (.int (p5 ^^^ (-1 : Int32))), .val (.int p1), .val (.int (p5 ^^^ (-1 : Int32))), .val (.int p1)] [(.int (p5 ^^^ (-1 : Int32))), (.int (p5 ^^^ (-1 : Int32)))]))
    refine W.go (fun _ hr => XS.icmpNo X24.here hx rfl (hb hby at_159) rfl (teq (rfl : (p5 ^^^ (-1 : Int32)) = (p5 ^^^ (-1 : Int32)))).2 hr) ?_
    show W p e below _ (T24.setTop (mkF m 162 #[.val (.int p0), .val (.int p1), .val (.int p2), .val (.int p3), .val (.int p4), .val (.int p5), .val (.int n), .val (.int i), .val (.int i), .val (.int k), .val (.int (p5 ^^^ (-1 : Int32))), .val (.ref b13), .val (.int (p5 ^^^ (-1 : Int32))), .val (.int (p5 ^^^ (-1 : Int32))), .val (.int p1), .val (.int (p5 ^^^ (-1 : Int32))), .val (.int p1)] []))
    refine W.go (fun _ hr => XS.iload X24.here hx rfl (hb hby at_162) rfl hr) ?_
    show W p e below _ (T24.setTop (mkF m 164 #[.val (.int p0), .val (.int p1), .val (.int p2), .val (.int p3), .val (.int p4), .val (.int p5), .val (.int n), .val (.int i), .val (.int i), .val (.int k), .val (.int (p5 ^^^ (-1 : Int32))), .val (.ref b13), .val (.int (p5 ^^^ (-1 : Int32))), .val (.int (p5 ^^^ (-1 : Int32))), .val (.int p1), .val (.int (p5 ^^^ (-1 : Int32))), .val (.int p1)] [(.int (p5 ^^^ (-1 : Int32)))]))
    refine W.go (fun _ hr => XS.iload X24.here hx rfl (hb hby at_164) rfl hr) ?_
    show W p e below _ (T24.setTop (mkF m 166 #[.val (.int p0), .val (.int p1), .val (.int p2), .val (.int p3), .val (.int p4), .val (.int p5), .val (.int n), .val (.int i), .val (.int i), .val (.int k), .val (.int (p5 ^^^ (-1 : Int32))), .val (.ref b13), .val (.int (p5 ^^^ (-1 : Int32))), .val (.int (p5 ^^^ (-1 : Int32))), .val (.int p1), .val (.int (p5 ^^^ (-1 : Int32))), .val (.int p1)] [(.int (p5 ^^^ (-1 : Int32))), (.int (p5 ^^^ (-1 : Int32)))]))
    refine W.go (fun _ hr => XS.icmpNo X24.here hx rfl (hb hby at_166) rfl (teq (rfl : (p5 ^^^ (-1 : Int32)) = (p5 ^^^ (-1 : Int32)))).2 hr) ?_
    show W p e below _ (T24.setTop (mkF m 169 #[.val (.int p0), .val (.int p1), .val (.int p2), .val (.int p3), .val (.int p4), .val (.int p5), .val (.int n), .val (.int i), .val (.int i), .val (.int k), .val (.int (p5 ^^^ (-1 : Int32))), .val (.ref b13), .val (.int (p5 ^^^ (-1 : Int32))), .val (.int (p5 ^^^ (-1 : Int32))), .val (.int p1), .val (.int (p5 ^^^ (-1 : Int32))), .val (.int p1)] []))
    refine W.go (fun _ hr => XS.iload X24.here hx rfl (hb hby at_169) rfl hr) ?_
    show W p e below _ (T24.setTop (mkF m 171 #[.val (.int p0), .val (.int p1), .val (.int p2), .val (.int p3), .val (.int p4), .val (.int p5), .val (.int n), .val (.int i), .val (.int i), .val (.int k), .val (.int (p5 ^^^ (-1 : Int32))), .val (.ref b13), .val (.int (p5 ^^^ (-1 : Int32))), .val (.int (p5 ^^^ (-1 : Int32))), .val (.int p1), .val (.int (p5 ^^^ (-1 : Int32))), .val (.int p1)] [(.int p1)]))
    refine W.go (fun _ hr => XS.iload X24.here hx rfl (hb hby at_171) rfl hr) ?_
    show W p e below _ (T24.setTop (mkF m 173 #[.val (.int p0), .val (.int p1), .val (.int p2), .val (.int p3), .val (.int p4), .val (.int p5), .val (.int n), .val (.int i), .val (.int i), .val (.int k), .val (.int (p5 ^^^ (-1 : Int32))), .val (.ref b13), .val (.int (p5 ^^^ (-1 : Int32))), .val (.int (p5 ^^^ (-1 : Int32))), .val (.int p1), .val (.int (p5 ^^^ (-1 : Int32))), .val (.int p1)] [(.int p1), (.int p1)]))
    refine W.go (fun _ hr => XS.icmpNo X24.here hx rfl (hb hby at_173) rfl (teq (rfl : p1 = p1)).2 hr) ?_
    show W p e below _ (T24.setTop (mkF m 176 #[.val (.int p0), .val (.int p1), .val (.int p2), .val (.int p3), .val (.int p4), .val (.int p5), .val (.int n), .val (.int i), .val (.int i), .val (.int k), .val (.int (p5 ^^^ (-1 : Int32))), .val (.ref b13), .val (.int (p5 ^^^ (-1 : Int32))), .val (.int (p5 ^^^ (-1 : Int32))), .val (.int p1), .val (.int (p5 ^^^ (-1 : Int32))), .val (.int p1)] []))
    refine W.go (fun _ hr => XS.iconst X24.here hx rfl (hb hby at_176) hr) ?_
    show W p e below _ (T24.setTop (mkF m 177 #[.val (.int p0), .val (.int p1), .val (.int p2), .val (.int p3), .val (.int p4), .val (.int p5), .val (.int n), .val (.int i), .val (.int i), .val (.int k), .val (.int (p5 ^^^ (-1 : Int32))), .val (.ref b13), .val (.int (p5 ^^^ (-1 : Int32))), .val (.int (p5 ^^^ (-1 : Int32))), .val (.int p1), .val (.int (p5 ^^^ (-1 : Int32))), .val (.int p1)] [(.int (1 : Int32))]))
    refine W.go (fun _ hr => XS.goto X24.here hx rfl (pc0 := 177) (pc' := 181) rfl (hb hby at_177) (by decide) (by decide) hr) ?_
    show W p e below _ (T24.setTop (mkF m 181 #[.val (.int p0), .val (.int p1), .val (.int p2), .val (.int p3), .val (.int p4), .val (.int p5), .val (.int n), .val (.int i), .val (.int i), .val (.int k), .val (.int (p5 ^^^ (-1 : Int32))), .val (.ref b13), .val (.int (p5 ^^^ (-1 : Int32))), .val (.int (p5 ^^^ (-1 : Int32))), .val (.int p1), .val (.int (p5 ^^^ (-1 : Int32))), .val (.int p1)] [(.int (1 : Int32))]))
    exact W.retB X24 hx hlk (t := .boolean) hret (by simp) (hb hby at_181) (by decide) (by decide) e24 ⟨rfl, N24⟩
  · have tij := own_nat hi.1 hj.1 neij
    have tji := own_nat hj.1 hi.1 (fun q => neij q.symm)
    obtain ⟨T25, h25, X25, e25, E25, E_b25, D25, U25, st25⟩ := newO X0 hx hZ hown (hw _ (List.mem_of_getElem? (i := 2) rfl)) (hw _ (List.mem_of_getElem? (i := 3) rfl)) (hw _ (List.mem_of_getElem? (i := 4) rfl)) e0 (g := (mkF m 45 #[.val (.int p0), .val (.int p1), .val (.int p2), .val (.int p3), .val (.int p4), .val (.int p5), .val (.int n), .val (.int i), .val (.int j), .val (.int i), .val (.int (p5 ^^^ (-1 : Int32))), .unset, .unset, .unset, .unset, .unset, .unset] [])) rfl (hb hby at_45) (by decide) (by decide)
    obtain ⟨b25, g25⟩ : ∃ z, z = h0.size := ⟨_, rfl⟩
    rw [← g25] at E_b25 D25 U25 st25
    have g_b25 : n0 ≤ b25 := Nat.le_trans Z0 (Nat.le_of_eq g25.symm)
    replace S_SHIFT := Sta.ext E25 S_SHIFT
    have Z26 : n0 ≤ h25.size := Nat.le_trans Z0 E25.1
    have F_size_b25 : Fld Z h25 b25 "com/example/parleyd/parleyd/core/IntPages" "size" "I" (.int (0 : Int32)) := D25 (Or.inr (hw _ (List.mem_of_getElem? (i := 12) rfl))) (ty := .int) (by decide)
    have F_pages_b25 : Fld Z h25 b25 "com/example/parleyd/parleyd/core/IntPages" "pages" "[[I" .null := D25 (Or.inr (hw _ (List.mem_of_getElem? (i := 19) rfl))) (ty := (.array (.array .int))) (by decide)
    refine W.go st25 ?_
    show W p e below _ (T25.setTop (mkF m 48 #[.val (.int p0), .val (.int p1), .val (.int p2), .val (.int p3), .val (.int p4), .val (.int p5), .val (.int n), .val (.int i), .val (.int j), .val (.int i), .val (.int (p5 ^^^ (-1 : Int32))), .unset, .unset, .unset, .unset, .unset, .unset] [(.ref b25)]))
    refine W.go (fun _ hr => XS.dup X25.here hx rfl (hb hby at_48) rfl rfl hr) ?_
    show W p e below _ (T25.setTop (mkF m 49 #[.val (.int p0), .val (.int p1), .val (.int p2), .val (.int p3), .val (.int p4), .val (.int p5), .val (.int n), .val (.int i), .val (.int j), .val (.int i), .val (.int (p5 ^^^ (-1 : Int32))), .unset, .unset, .unset, .unset, .unset, .unset] [(.ref b25), (.ref b25)]))
    refine W.go (fun _ hr => XS.iload X25.here hx rfl (hb hby at_49) rfl hr) ?_
    show W p e below _ (T25.setTop (mkF m 51 #[.val (.int p0), .val (.int p1), .val (.int p2), .val (.int p3), .val (.int p4), .val (.int p5), .val (.int n), .val (.int i), .val (.int j), .val (.int i), .val (.int (p5 ^^^ (-1 : Int32))), .unset, .unset, .unset, .unset, .unset, .unset] [(.int n), (.ref b25), (.ref b25)]))
    refine W.go (fun _ hr => XS.iloadN X25.here hx rfl (hb hby at_51) rfl hr) ?_
    show W p e below _ (T25.setTop (mkF m 52 #[.val (.int p0), .val (.int p1), .val (.int p2), .val (.int p3), .val (.int p4), .val (.int p5), .val (.int n), .val (.int i), .val (.int j), .val (.int i), .val (.int (p5 ^^^ (-1 : Int32))), .unset, .unset, .unset, .unset, .unset, .unset] [(.int p1), (.int n), (.ref b25), (.ref b25)]))
    refine W.callI X25 hx hZ hown (g := (mkF m 52 #[.val (.int p0), .val (.int p1), .val (.int p2), .val (.int p3), .val (.int p4), .val (.int p5), .val (.int n), .val (.int i), .val (.int j), .val (.int i), .val (.int (p5 ^^^ (-1 : Int32))), .unset, .unset, .unset, .unset, .unset, .unset] [(.int p1), (.int n), (.ref b25), (.ref b25)])) (by rw [hml]; rfl) (hw _ (List.mem_of_getElem? (i := 5) rfl)) (hw _ (List.mem_of_getElem? (i := 6) rfl)) (hw _ (List.mem_of_getElem? (i := 4) rfl)) (hw _ (List.mem_of_getElem? (i := 7) rfl)) e25 (rm1 l Z a0 hw b25 n p1 h25 n0 Z26 E_b25 F_size_b25 F_pages_b25 g_b25 S_SHIFT hn) rfl (by decide) pd_101 rfl (b := b25) (argsL := [(.int n), (.int p1)]) (rest := [(.ref b25)]) rfl rfl rfl (hb hby at_52) (W0 := 1) rfl (by decide) (by decide) (by decide) (by decide) (fun v27 T27 h27 L27 X27 e27 hQ27 => ?_)
    obtain ⟨rfl, N27q, E_27, S_27, Z_27, H_27⟩ := hQ27
    have N27 := Fr.app N0 N27q
    replace E_b25 := E_27
    replace S_SHIFT := S_27
    have Z28 : n0 ≤ h27.size := Nat.le_trans Z26 Z_27
    show W p e below _ (T27.setTop (mkF m 55 #[.val (.int p0), .val (.int p1), .val (.int p2), .val (.int p3), .val (.int p4), .val (.int p5), .val (.int n), .val (.int i), .val (.int j), .val (.int i), .val (.int (p5 ^^^ (-1 : Int32))), .unset, .unset, .unset, .unset, .unset, .unset] [(.ref b25)]))
    refine W.go (fun _ hr => XS.astore X27.here hx rfl (hb hby at_55) rfl rfl (l' := #[.val (.int p0), .val (.int p1), .val (.int p2), .val (.int p3), .val (.int p4), .val (.int p5), .val (.int n), .val (.int i), .val (.int j), .val (.int i), .val (.int (p5 ^^^ (-1 : Int32))), .val (.ref b25), .unset, .unset, .unset, .unset, .unset]) rfl hr) ?_
    show W p e below _ (T27.setTop (mkF m 57 #[.val (.int p0), .val (.int p1), .val (.int p2), .val (.int p3), .val (.int p4), .val (.int p5), .val (.int n), .val (.int i), .val (.int j), .val (.int i), .val (.int (p5 ^^^ (-1 : Int32))), .val (.ref b25), .unset, .unset, .unset, .unset, .unset] []))
    refine W.go (fun _ hr => XS.aload X27.here hx rfl (hb hby at_57) rfl rfl hr) ?_
    show W p e below _ (T27.setTop (mkF m 59 #[.val (.int p0), .val (.int p1), .val (.int p2), .val (.int p3), .val (.int p4), .val (.int p5), .val (.int n), .val (.int i), .val (.int j), .val (.int i), .val (.int (p5 ^^^ (-1 : Int32))), .val (.ref b25), .unset, .unset, .unset, .unset, .unset] [(.ref b25)]))
    refine W.go (fun _ hr => XS.iload X27.here hx rfl (hb hby at_59) rfl hr) ?_
    show W p e below _ (T27.setTop (mkF m 61 #[.val (.int p0), .val (.int p1), .val (.int p2), .val (.int p3), .val (.int p4), .val (.int p5), .val (.int n), .val (.int i), .val (.int j), .val (.int i), .val (.int (p5 ^^^ (-1 : Int32))), .val (.ref b25), .unset, .unset, .unset, .unset, .unset] [(.int i), (.ref b25)]))
    refine W.go (fun _ hr => XS.iload X27.here hx rfl (hb hby at_61) rfl hr) ?_
    show W p e below _ (T27.setTop (mkF m 63 #[.val (.int p0), .val (.int p1), .val (.int p2), .val (.int p3), .val (.int p4), .val (.int p5), .val (.int n), .val (.int i), .val (.int j), .val (.int i), .val (.int (p5 ^^^ (-1 : Int32))), .val (.ref b25), .unset, .unset, .unset, .unset, .unset] [(.int p5), (.int i), (.ref b25)]))
    refine W.callV X27 hx hZ hown (g := (mkF m 63 #[.val (.int p0), .val (.int p1), .val (.int p2), .val (.int p3), .val (.int p4), .val (.int p5), .val (.int n), .val (.int i), .val (.int j), .val (.int i), .val (.int (p5 ^^^ (-1 : Int32))), .val (.ref b25), .unset, .unset, .unset, .unset, .unset] [(.int p5), (.int i), (.ref b25)])) (by rw [hml]; rfl) (hw _ (List.mem_of_getElem? (i := 30) rfl)) (hw _ (List.mem_of_getElem? (i := 31) rfl)) (hw _ (List.mem_of_getElem? (i := 33) rfl)) (hw _ (List.mem_of_getElem? (i := 32) rfl)) (hw _ (List.mem_of_getElem? (i := 4) rfl)) (hw _ (List.mem_of_getElem? (i := 34) rfl)) e27 (rm5 l Z a0 hw b25 i p5 n (fun _ => p1) h27 n0 Z28 H_27 hi E_b25 S_SHIFT) (notFace_of_selects (args := #[]) (mvT hZ (hw _ (List.mem_of_getElem? (i := 33) rfl)))) (by decide) pd_101 rfl E_b25 (argsL := [(.int i), (.int p5)]) (rest := []) rfl rfl rfl (hb hby at_63) (W0 := 0) rfl (by decide) (by decide) (by decide) (by decide) (fun v29 T29 h29 L29 X29 e29 hQ29 => ?_)
    obtain ⟨rfl, N29q, E_29, S_29, Z_29, H_29⟩ := hQ29
    have N29 := Fr.app N27 N29q
    replace E_b25 := E_29
    replace S_SHIFT := S_29
    have Z30 : n0 ≤ h29.size := Nat.le_trans Z28 Z_29
    show W p e below _ (T29.setTop (mkF m 66 #[.val (.int p0), .val (.int p1), .val (.int p2), .val (.int p3), .val (.int p4), .val (.int p5), .val (.int n), .val (.int i), .val (.int j), .val (.int i), .val (.int (p5 ^^^ (-1 : Int32))), .val (.ref b25), .unset, .unset, .unset, .unset, .unset] []))
    refine W.go (fun _ hr => XS.aload X29.here hx rfl (hb hby at_66) rfl rfl hr) ?_
    show W p e below _ (T29.setTop (mkF m 68 #[.val (.int p0), .val (.int p1), .val (.int p2), .val (.int p3), .val (.int p4), .val (.int p5), .val (.int n), .val (.int i), .val (.int j), .val (.int i), .val (.int (p5 ^^^ (-1 : Int32))), .val (.ref b25), .unset, .unset, .unset, .unset, .unset] [(.ref b25)]))
    refine W.go (fun _ hr => XS.iload X29.here hx rfl (hb hby at_68) rfl hr) ?_
    show W p e below _ (T29.setTop (mkF m 70 #[.val (.int p0), .val (.int p1), .val (.int p2), .val (.int p3), .val (.int p4), .val (.int p5), .val (.int n), .val (.int i), .val (.int j), .val (.int i), .val (.int (p5 ^^^ (-1 : Int32))), .val (.ref b25), .unset, .unset, .unset, .unset, .unset] [(.int j), (.ref b25)]))
    refine W.go (fun _ hr => XS.iload X29.here hx rfl (hb hby at_70) rfl hr) ?_
    show W p e below _ (T29.setTop (mkF m 72 #[.val (.int p0), .val (.int p1), .val (.int p2), .val (.int p3), .val (.int p4), .val (.int p5), .val (.int n), .val (.int i), .val (.int j), .val (.int i), .val (.int (p5 ^^^ (-1 : Int32))), .val (.ref b25), .unset, .unset, .unset, .unset, .unset] [(.int (p5 ^^^ (-1 : Int32))), (.int j), (.ref b25)]))
    refine W.callV X29 hx hZ hown (g := (mkF m 72 #[.val (.int p0), .val (.int p1), .val (.int p2), .val (.int p3), .val (.int p4), .val (.int p5), .val (.int n), .val (.int i), .val (.int j), .val (.int i), .val (.int (p5 ^^^ (-1 : Int32))), .val (.ref b25), .unset, .unset, .unset, .unset, .unset] [(.int (p5 ^^^ (-1 : Int32))), (.int j), (.ref b25)])) (by rw [hml]; rfl) (hw _ (List.mem_of_getElem? (i := 30) rfl)) (hw _ (List.mem_of_getElem? (i := 31) rfl)) (hw _ (List.mem_of_getElem? (i := 33) rfl)) (hw _ (List.mem_of_getElem? (i := 32) rfl)) (hw _ (List.mem_of_getElem? (i := 4) rfl)) (hw _ (List.mem_of_getElem? (i := 34) rfl)) e29 (rm5 l Z a0 hw b25 j (p5 ^^^ (-1 : Int32)) n (fun x => if x = i.toNatClampNeg then p5 else (fun _ => p1) x) h29 n0 Z30 H_29 hj E_b25 S_SHIFT) (notFace_of_selects (args := #[]) (mvT hZ (hw _ (List.mem_of_getElem? (i := 33) rfl)))) (by decide) pd_101 rfl E_b25 (argsL := [(.int j), (.int (p5 ^^^ (-1 : Int32)))]) (rest := []) rfl rfl rfl (hb hby at_72) (W0 := 0) rfl (by decide) (by decide) (by decide) (by decide) (fun v31 T31 h31 L31 X31 e31 hQ31 => ?_)
    obtain ⟨rfl, N31q, E_31, S_31, Z_31, H_31⟩ := hQ31
    have N31 := Fr.app N29 N31q
    replace E_b25 := E_31
    replace S_SHIFT := S_31
    have Z32 : n0 ≤ h31.size := Nat.le_trans Z30 Z_31
    show W p e below _ (T31.setTop (mkF m 75 #[.val (.int p0), .val (.int p1), .val (.int p2), .val (.int p3), .val (.int p4), .val (.int p5), .val (.int n), .val (.int i), .val (.int j), .val (.int i), .val (.int (p5 ^^^ (-1 : Int32))), .val (.ref b25), .unset, .unset, .unset, .unset, .unset] []))
    refine W.go (fun _ hr => XS.aload X31.here hx rfl (hb hby at_75) rfl rfl hr) ?_
    show W p e below _ (T31.setTop (mkF m 77 #[.val (.int p0), .val (.int p1), .val (.int p2), .val (.int p3), .val (.int p4), .val (.int p5), .val (.int n), .val (.int i), .val (.int j), .val (.int i), .val (.int (p5 ^^^ (-1 : Int32))), .val (.ref b25), .unset, .unset, .unset, .unset, .unset] [(.ref b25)]))
    refine W.go (fun _ hr => XS.iload X31.here hx rfl (hb hby at_77) rfl hr) ?_
    show W p e below _ (T31.setTop (mkF m 79 #[.val (.int p0), .val (.int p1), .val (.int p2), .val (.int p3), .val (.int p4), .val (.int p5), .val (.int n), .val (.int i), .val (.int j), .val (.int i), .val (.int (p5 ^^^ (-1 : Int32))), .val (.ref b25), .unset, .unset, .unset, .unset, .unset] [(.int i), (.ref b25)]))
    refine W.callV X31 hx hZ hown (g := (mkF m 79 #[.val (.int p0), .val (.int p1), .val (.int p2), .val (.int p3), .val (.int p4), .val (.int p5), .val (.int n), .val (.int i), .val (.int j), .val (.int i), .val (.int (p5 ^^^ (-1 : Int32))), .val (.ref b25), .unset, .unset, .unset, .unset, .unset] [(.int i), (.ref b25)])) (by rw [hml]; rfl) (hw _ (List.mem_of_getElem? (i := 35) rfl)) (hw _ (List.mem_of_getElem? (i := 36) rfl)) (hw _ (List.mem_of_getElem? (i := 38) rfl)) (hw _ (List.mem_of_getElem? (i := 37) rfl)) (hw _ (List.mem_of_getElem? (i := 4) rfl)) (hw _ (List.mem_of_getElem? (i := 39) rfl)) e31 (rm6 l Z a0 hw b25 i n (fun x => if x = j.toNatClampNeg then (p5 ^^^ (-1 : Int32)) else (fun x => if x = i.toNatClampNeg then p5 else (fun _ => p1) x) x) p5 h31 n0 Z32 H_31 hi S_SHIFT (by simp [tij, tji])) (notFace_of_selects (args := #[]) (mvT hZ (hw _ (List.mem_of_getElem? (i := 38) rfl)))) (by decide) pd_102 rfl E_b25 (argsL := [(.int i)]) (rest := []) rfl rfl rfl (hb hby at_79) (W0 := 0) rfl (by decide) (by decide) (by decide) (by decide) (fun v33 T33 h33 L33 X33 e33 hQ33 => ?_)
    obtain ⟨rfl, N33q, hh33⟩ := hQ33
    obtain rfl := hh33.symm
    have N33 := Fr.app N31 N33q
    show W p e below _ (T33.setTop (mkF m 82 #[.val (.int p0), .val (.int p1), .val (.int p2), .val (.int p3), .val (.int p4), .val (.int p5), .val (.int n), .val (.int i), .val (.int j), .val (.int i), .val (.int (p5 ^^^ (-1 : Int32))), .val (.ref b25), .unset, .unset, .unset, .unset, .unset] [(.int p5)]))
    refine W.go (fun _ hr => XS.istore X33.here hx rfl (hb hby at_82) rfl (l' := #[.val (.int p0), .val (.int p1), .val (.int p2), .val (.int p3), .val (.int p4), .val (.int p5), .val (.int n), .val (.int i), .val (.int j), .val (.int i), .val (.int (p5 ^^^ (-1 : Int32))), .val (.ref b25), .val (.int p5), .unset, .unset, .unset, .unset]) rfl hr) ?_
    show W p e below _ (T33.setTop (mkF m 84 #[.val (.int p0), .val (.int p1), .val (.int p2), .val (.int p3), .val (.int p4), .val (.int p5), .val (.int n), .val (.int i), .val (.int j), .val (.int i), .val (.int (p5 ^^^ (-1 : Int32))), .val (.ref b25), .val (.int p5), .unset, .unset, .unset, .unset] []))
    refine W.go (fun _ hr => XS.aload X33.here hx rfl (hb hby at_84) rfl rfl hr) ?_
    show W p e below _ (T33.setTop (mkF m 86 #[.val (.int p0), .val (.int p1), .val (.int p2), .val (.int p3), .val (.int p4), .val (.int p5), .val (.int n), .val (.int i), .val (.int j), .val (.int i), .val (.int (p5 ^^^ (-1 : Int32))), .val (.ref b25), .val (.int p5), .unset, .unset, .unset, .unset] [(.ref b25)]))
    refine W.go (fun _ hr => XS.iload X33.here hx rfl (hb hby at_86) rfl hr) ?_
    show W p e below _ (T33.setTop (mkF m 88 #[.val (.int p0), .val (.int p1), .val (.int p2), .val (.int p3), .val (.int p4), .val (.int p5), .val (.int n), .val (.int i), .val (.int j), .val (.int i), .val (.int (p5 ^^^ (-1 : Int32))), .val (.ref b25), .val (.int p5), .unset, .unset, .unset, .unset] [(.int j), (.ref b25)]))
    refine W.callV X33 hx hZ hown (g := (mkF m 88 #[.val (.int p0), .val (.int p1), .val (.int p2), .val (.int p3), .val (.int p4), .val (.int p5), .val (.int n), .val (.int i), .val (.int j), .val (.int i), .val (.int (p5 ^^^ (-1 : Int32))), .val (.ref b25), .val (.int p5), .unset, .unset, .unset, .unset] [(.int j), (.ref b25)])) (by rw [hml]; rfl) (hw _ (List.mem_of_getElem? (i := 35) rfl)) (hw _ (List.mem_of_getElem? (i := 36) rfl)) (hw _ (List.mem_of_getElem? (i := 38) rfl)) (hw _ (List.mem_of_getElem? (i := 37) rfl)) (hw _ (List.mem_of_getElem? (i := 4) rfl)) (hw _ (List.mem_of_getElem? (i := 39) rfl)) e33 (rm6 l Z a0 hw b25 j n (fun x => if x = j.toNatClampNeg then (p5 ^^^ (-1 : Int32)) else (fun x => if x = i.toNatClampNeg then p5 else (fun _ => p1) x) x) (p5 ^^^ (-1 : Int32)) h31 n0 Z32 H_31 hj S_SHIFT (by simp [tij, tji])) (notFace_of_selects (args := #[]) (mvT hZ (hw _ (List.mem_of_getElem? (i := 38) rfl)))) (by decide) pd_102 rfl E_b25 (argsL := [(.int j)]) (rest := []) rfl rfl rfl (hb hby at_88) (W0 := 0) rfl (by decide) (by decide) (by decide) (by decide) (fun v34 T34 h34 L34 X34 e34 hQ34 => ?_)
    obtain ⟨rfl, N34q, hh34⟩ := hQ34
    obtain rfl := hh34.symm
    have N34 := Fr.app N33 N34q
    show W p e below _ (T34.setTop (mkF m 91 #[.val (.int p0), .val (.int p1), .val (.int p2), .val (.int p3), .val (.int p4), .val (.int p5), .val (.int n), .val (.int i), .val (.int j), .val (.int i), .val (.int (p5 ^^^ (-1 : Int32))), .val (.ref b25), .val (.int p5), .unset, .unset, .unset, .unset] [(.int (p5 ^^^ (-1 : Int32)))]))
    refine W.go (fun _ hr => XS.istore X34.here hx rfl (hb hby at_91) rfl (l' := #[.val (.int p0), .val (.int p1), .val (.int p2), .val (.int p3), .val (.int p4), .val (.int p5), .val (.int n), .val (.int i), .val (.int j), .val (.int i), .val (.int (p5 ^^^ (-1 : Int32))), .val (.ref b25), .val (.int p5), .val (.int (p5 ^^^ (-1 : Int32))), .unset, .unset, .unset]) rfl hr) ?_
    show W p e below _ (T34.setTop (mkF m 93 #[.val (.int p0), .val (.int p1), .val (.int p2), .val (.int p3), .val (.int p4), .val (.int p5), .val (.int n), .val (.int i), .val (.int j), .val (.int i), .val (.int (p5 ^^^ (-1 : Int32))), .val (.ref b25), .val (.int p5), .val (.int (p5 ^^^ (-1 : Int32))), .unset, .unset, .unset] []))
    refine W.go (fun _ hr => XS.aload X34.here hx rfl (hb hby at_93) rfl rfl hr) ?_
    show W p e below _ (T34.setTop (mkF m 95 #[.val (.int p0), .val (.int p1), .val (.int p2), .val (.int p3), .val (.int p4), .val (.int p5), .val (.int n), .val (.int i), .val (.int j), .val (.int i), .val (.int (p5 ^^^ (-1 : Int32))), .val (.ref b25), .val (.int p5), .val (.int (p5 ^^^ (-1 : Int32))), .unset, .unset, .unset] [(.ref b25)]))
    refine W.go (fun _ hr => XS.iload X34.here hx rfl (hb hby at_95) rfl hr) ?_
    show W p e below _ (T34.setTop (mkF m 97 #[.val (.int p0), .val (.int p1), .val (.int p2), .val (.int p3), .val (.int p4), .val (.int p5), .val (.int n), .val (.int i), .val (.int j), .val (.int i), .val (.int (p5 ^^^ (-1 : Int32))), .val (.ref b25), .val (.int p5), .val (.int (p5 ^^^ (-1 : Int32))), .unset, .unset, .unset] [(.int i), (.ref b25)]))
    refine W.callV X34 hx hZ hown (g := (mkF m 97 #[.val (.int p0), .val (.int p1), .val (.int p2), .val (.int p3), .val (.int p4), .val (.int p5), .val (.int n), .val (.int i), .val (.int j), .val (.int i), .val (.int (p5 ^^^ (-1 : Int32))), .val (.ref b25), .val (.int p5), .val (.int (p5 ^^^ (-1 : Int32))), .unset, .unset, .unset] [(.int i), (.ref b25)])) (by rw [hml]; rfl) (hw _ (List.mem_of_getElem? (i := 35) rfl)) (hw _ (List.mem_of_getElem? (i := 36) rfl)) (hw _ (List.mem_of_getElem? (i := 38) rfl)) (hw _ (List.mem_of_getElem? (i := 37) rfl)) (hw _ (List.mem_of_getElem? (i := 4) rfl)) (hw _ (List.mem_of_getElem? (i := 39) rfl)) e34 (rm6 l Z a0 hw b25 i n (fun x => if x = j.toNatClampNeg then (p5 ^^^ (-1 : Int32)) else (fun x => if x = i.toNatClampNeg then p5 else (fun _ => p1) x) x) p5 h31 n0 Z32 H_31 hi S_SHIFT (by simp [tij, tji])) (notFace_of_selects (args := #[]) (mvT hZ (hw _ (List.mem_of_getElem? (i := 38) rfl)))) (by decide) pd_102 rfl E_b25 (argsL := [(.int i)]) (rest := []) rfl rfl rfl (hb hby at_97) (W0 := 0) rfl (by decide) (by decide) (by decide) (by decide) (fun v35 T35 h35 L35 X35 e35 hQ35 => ?_)
    obtain ⟨rfl, N35q, hh35⟩ := hQ35
    obtain rfl := hh35.symm
    have N35 := Fr.app N34 N35q
    show W p e below _ (T35.setTop (mkF m 100 #[.val (.int p0), .val (.int p1), .val (.int p2), .val (.int p3), .val (.int p4), .val (.int p5), .val (.int n), .val (.int i), .val (.int j), .val (.int i), .val (.int (p5 ^^^ (-1 : Int32))), .val (.ref b25), .val (.int p5), .val (.int (p5 ^^^ (-1 : Int32))), .unset, .unset, .unset] [(.int p5)]))
    refine W.go (fun _ hr => XS.istore X35.here hx rfl (hb hby at_100) rfl (l' := #[.val (.int p0), .val (.int p1), .val (.int p2), .val (.int p3), .val (.int p4), .val (.int p5), .val (.int n), .val (.int i), .val (.int j), .val (.int i), .val (.int (p5 ^^^ (-1 : Int32))), .val (.ref b25), .val (.int p5), .val (.int (p5 ^^^ (-1 : Int32))), .val (.int p5), .unset, .unset]) rfl hr) ?_
    show W p e below _ (T35.setTop (mkF m 102 #[.val (.int p0), .val (.int p1), .val (.int p2), .val (.int p3), .val (.int p4), .val (.int p5), .val (.int n), .val (.int i), .val (.int j), .val (.int i), .val (.int (p5 ^^^ (-1 : Int32))), .val (.ref b25), .val (.int p5), .val (.int (p5 ^^^ (-1 : Int32))), .val (.int p5), .unset, .unset] []))
    refine W.go (fun _ hr => XS.iload X35.here hx rfl (hb hby at_102) rfl hr) ?_
    show W p e below _ (T35.setTop (mkF m 104 #[.val (.int p0), .val (.int p1), .val (.int p2), .val (.int p3), .val (.int p4), .val (.int p5), .val (.int n), .val (.int i), .val (.int j), .val (.int i), .val (.int (p5 ^^^ (-1 : Int32))), .val (.ref b25), .val (.int p5), .val (.int (p5 ^^^ (-1 : Int32))), .val (.int p5), .unset, .unset] [(.int i)]))
    refine W.go (fun _ hr => XS.iload X35.here hx rfl (hb hby at_104) rfl hr) ?_
    show W p e below _ (T35.setTop (mkF m 106 #[.val (.int p0), .val (.int p1), .val (.int p2), .val (.int p3), .val (.int p4), .val (.int p5), .val (.int n), .val (.int i), .val (.int j), .val (.int i), .val (.int (p5 ^^^ (-1 : Int32))), .val (.ref b25), .val (.int p5), .val (.int (p5 ^^^ (-1 : Int32))), .val (.int p5), .unset, .unset] [(.int j), (.int i)]))
    refine W.go (fun _ hr => XS.icmpYes X35.here hx rfl (pc0 := 106) (pc' := 114) rfl (hb hby at_106) rfl (feq neij).2 (by decide) (by decide) hr) ?_
    show W p e below _ (T35.setTop (mkF m 114 #[.val (.int p0), .val (.int p1), .val (.int p2), .val (.int p3), .val (.int p4), .val (.int p5), .val (.int n), .val (.int i), .val (.int j), .val (.int i), .val (.int (p5 ^^^ (-1 : Int32))), .val (.ref b25), .val (.int p5), .val (.int (p5 ^^^ (-1 : Int32))), .val (.int p5), .unset, .unset] []))
    refine W.go (fun _ hr => XS.iload X35.here hx rfl (hb hby at_114) rfl hr) ?_
    show W p e below _ (T35.setTop (mkF m 116 #[.val (.int p0), .val (.int p1), .val (.int p2), .val (.int p3), .val (.int p4), .val (.int p5), .val (.int n), .val (.int i), .val (.int j), .val (.int i), .val (.int (p5 ^^^ (-1 : Int32))), .val (.ref b25), .val (.int p5), .val (.int (p5 ^^^ (-1 : Int32))), .val (.int p5), .unset, .unset] [(.int p5)]))
    refine W.go (fun _ hr => XS.istore X35.here hx rfl (hb hby at_116) rfl (l' := #[.val (.int p0), .val (.int p1), .val (.int p2), .val (.int p3), .val (.int p4), .val (.int p5), .val (.int n), .val (.int i), .val (.int j), .val (.int i), .val (.int (p5 ^^^ (-1 : Int32))), .val (.ref b25), .val (.int p5), .val (.int (p5 ^^^ (-1 : Int32))), .val (.int p5), .val (.int p5), .unset]) rfl hr) ?_
    show W p e below _ (T35.setTop (mkF m 118 #[.val (.int p0), .val (.int p1), .val (.int p2), .val (.int p3), .val (.int p4), .val (.int p5), .val (.int n), .val (.int i), .val (.int j), .val (.int i), .val (.int (p5 ^^^ (-1 : Int32))), .val (.ref b25), .val (.int p5), .val (.int (p5 ^^^ (-1 : Int32))), .val (.int p5), .val (.int p5), .unset] []))
    refine W.go (fun _ hr => XS.iload X35.here hx rfl (hb hby at_118) rfl hr) ?_
    show W p e below _ (T35.setTop (mkF m 120 #[.val (.int p0), .val (.int p1), .val (.int p2), .val (.int p3), .val (.int p4), .val (.int p5), .val (.int n), .val (.int i), .val (.int j), .val (.int i), .val (.int (p5 ^^^ (-1 : Int32))), .val (.ref b25), .val (.int p5), .val (.int (p5 ^^^ (-1 : Int32))), .val (.int p5), .val (.int p5), .unset] [(.int i)]))
    refine W.go (fun _ hr => XS.iload X35.here hx rfl (hb hby at_120) rfl hr) ?_
    show W p e below _ (T35.setTop (mkF m 122 #[.val (.int p0), .val (.int p1), .val (.int p2), .val (.int p3), .val (.int p4), .val (.int p5), .val (.int n), .val (.int i), .val (.int j), .val (.int i), .val (.int (p5 ^^^ (-1 : Int32))), .val (.ref b25), .val (.int p5), .val (.int (p5 ^^^ (-1 : Int32))), .val (.int p5), .val (.int p5), .unset] [(.int j), (.int i)]))
    refine W.go (fun _ hr => XS.icmpYes X35.here hx rfl (pc0 := 122) (pc' := 130) rfl (hb hby at_122) rfl (feq neij).2 (by decide) (by decide) hr) ?_
    show W p e below _ (T35.setTop (mkF m 130 #[.val (.int p0), .val (.int p1), .val (.int p2), .val (.int p3), .val (.int p4), .val (.int p5), .val (.int n), .val (.int i), .val (.int j), .val (.int i), .val (.int (p5 ^^^ (-1 : Int32))), .val (.ref b25), .val (.int p5), .val (.int (p5 ^^^ (-1 : Int32))), .val (.int p5), .val (.int p5), .unset] []))
    refine W.go (fun _ hr => XS.iload X35.here hx rfl (hb hby at_130) rfl hr) ?_
    show W p e below _ (T35.setTop (mkF m 132 #[.val (.int p0), .val (.int p1), .val (.int p2), .val (.int p3), .val (.int p4), .val (.int p5), .val (.int n), .val (.int i), .val (.int j), .val (.int i), .val (.int (p5 ^^^ (-1 : Int32))), .val (.ref b25), .val (.int p5), .val (.int (p5 ^^^ (-1 : Int32))), .val (.int p5), .val (.int p5), .unset] [(.int i)]))
    refine W.go (fun _ hr => XS.iload X35.here hx rfl (hb hby at_132) rfl hr) ?_
    show W p e below _ (T35.setTop (mkF m 134 #[.val (.int p0), .val (.int p1), .val (.int p2), .val (.int p3), .val (.int p4), .val (.int p5), .val (.int n), .val (.int i), .val (.int j), .val (.int i), .val (.int (p5 ^^^ (-1 : Int32))), .val (.ref b25), .val (.int p5), .val (.int (p5 ^^^ (-1 : Int32))), .val (.int p5), .val (.int p5), .unset] [(.int i), (.int i)]))
    refine W.go (fun _ hr => XS.icmpNo X35.here hx rfl (hb hby at_134) rfl (teq (rfl : i = i)).2 hr) ?_
    show W p e below _ (T35.setTop (mkF m 137 #[.val (.int p0), .val (.int p1), .val (.int p2), .val (.int p3), .val (.int p4), .val (.int p5), .val (.int n), .val (.int i), .val (.int j), .val (.int i), .val (.int (p5 ^^^ (-1 : Int32))), .val (.ref b25), .val (.int p5), .val (.int (p5 ^^^ (-1 : Int32))), .val (.int p5), .val (.int p5), .unset] []))
    refine W.go (fun _ hr => XS.iload X35.here hx rfl (hb hby at_137) rfl hr) ?_
    show W p e below _ (T35.setTop (mkF m 139 #[.val (.int p0), .val (.int p1), .val (.int p2), .val (.int p3), .val (.int p4), .val (.int p5), .val (.int n), .val (.int i), .val (.int j), .val (.int i), .val (.int (p5 ^^^ (-1 : Int32))), .val (.ref b25), .val (.int p5), .val (.int (p5 ^^^ (-1 : Int32))), .val (.int p5), .val (.int p5), .unset] [(.int p5)]))
    refine W.go (fun _ hr => XS.goto X35.here hx rfl (pc0 := 139) (pc' := 143) rfl (hb hby at_139) (by decide) (by decide) hr) ?_
    show W p e below _ (T35.setTop (mkF m 143 #[.val (.int p0), .val (.int p1), .val (.int p2), .val (.int p3), .val (.int p4), .val (.int p5), .val (.int n), .val (.int i), .val (.int j), .val (.int i), .val (.int (p5 ^^^ (-1 : Int32))), .val (.ref b25), .val (.int p5), .val (.int (p5 ^^^ (-1 : Int32))), .val (.int p5), .val (.int p5), .unset] [(.int p5)]))
    refine W.go (fun _ hr => XS.istore X35.here hx rfl (hb hby at_143) rfl (l' := #[.val (.int p0), .val (.int p1), .val (.int p2), .val (.int p3), .val (.int p4), .val (.int p5), .val (.int n), .val (.int i), .val (.int j), .val (.int i), .val (.int (p5 ^^^ (-1 : Int32))), .val (.ref b25), .val (.int p5), .val (.int (p5 ^^^ (-1 : Int32))), .val (.int p5), .val (.int p5), .val (.int p5)]) rfl hr) ?_
    show W p e below _ (T35.setTop (mkF m 145 #[.val (.int p0), .val (.int p1), .val (.int p2), .val (.int p3), .val (.int p4), .val (.int p5), .val (.int n), .val (.int i), .val (.int j), .val (.int i), .val (.int (p5 ^^^ (-1 : Int32))), .val (.ref b25), .val (.int p5), .val (.int (p5 ^^^ (-1 : Int32))), .val (.int p5), .val (.int p5), .val (.int p5)] []))
    refine W.go (fun _ hr => XS.aload X35.here hx rfl (hb hby at_145) rfl rfl hr) ?_
    show W p e below _ (T35.setTop (mkF m 147 #[.val (.int p0), .val (.int p1), .val (.int p2), .val (.int p3), .val (.int p4), .val (.int p5), .val (.int n), .val (.int i), .val (.int j), .val (.int i), .val (.int (p5 ^^^ (-1 : Int32))), .val (.ref b25), .val (.int p5), .val (.int (p5 ^^^ (-1 : Int32))), .val (.int p5), .val (.int p5), .val (.int p5)] [(.ref b25)]))
    refine W.callV X35 hx hZ hown (g := (mkF m 147 #[.val (.int p0), .val (.int p1), .val (.int p2), .val (.int p3), .val (.int p4), .val (.int p5), .val (.int n), .val (.int i), .val (.int j), .val (.int i), .val (.int (p5 ^^^ (-1 : Int32))), .val (.ref b25), .val (.int p5), .val (.int (p5 ^^^ (-1 : Int32))), .val (.int p5), .val (.int p5), .val (.int p5)] [(.ref b25)])) (by rw [hml]; rfl) (hw _ (List.mem_of_getElem? (i := 40) rfl)) (hw _ (List.mem_of_getElem? (i := 41) rfl)) (hw _ (List.mem_of_getElem? (i := 43) rfl)) (hw _ (List.mem_of_getElem? (i := 42) rfl)) (hw _ (List.mem_of_getElem? (i := 4) rfl)) (hw _ (List.mem_of_getElem? (i := 44) rfl)) e35 (rm7 l Z a0 hw b25 n (fun x => if x = j.toNatClampNeg then (p5 ^^^ (-1 : Int32)) else (fun x => if x = i.toNatClampNeg then p5 else (fun _ => p1) x) x) h31 n0 Z32 H_31) (notFace_of_selects (args := #[]) (mvT hZ (hw _ (List.mem_of_getElem? (i := 43) rfl)))) (by decide) pd_103 rfl E_b25 (argsL := []) (rest := []) rfl rfl rfl (hb hby at_147) (W0 := 0) rfl (by decide) (by decide) (by decide) (by decide) (fun v36 T36 h36 L36 X36 e36 hQ36 => ?_)
    obtain ⟨rfl, N36q, hh36⟩ := hQ36
    obtain rfl := hh36.symm
    have N36 := Fr.app N35 N36q
    show W p e below _ (T36.setTop (mkF m 150 #[.val (.int p0), .val (.int p1), .val (.int p2), .val (.int p3), .val (.int p4), .val (.int p5), .val (.int n), .val (.int i), .val (.int j), .val (.int i), .val (.int (p5 ^^^ (-1 : Int32))), .val (.ref b25), .val (.int p5), .val (.int (p5 ^^^ (-1 : Int32))), .val (.int p5), .val (.int p5), .val (.int p5)] [(.int n)]))
    refine W.go (fun _ hr => XS.iload X36.here hx rfl (hb hby at_150) rfl hr) ?_
    show W p e below _ (T36.setTop (mkF m 152 #[.val (.int p0), .val (.int p1), .val (.int p2), .val (.int p3), .val (.int p4), .val (.int p5), .val (.int n), .val (.int i), .val (.int j), .val (.int i), .val (.int (p5 ^^^ (-1 : Int32))), .val (.ref b25), .val (.int p5), .val (.int (p5 ^^^ (-1 : Int32))), .val (.int p5), .val (.int p5), .val (.int p5)] [(.int n), (.int n)]))
    refine W.go (fun _ hr => XS.icmpNo X36.here hx rfl (hb hby at_152) rfl (teq (rfl : n = n)).2 hr) ?_
    show W p e below _ (T36.setTop (mkF m 155 #[.val (.int p0), .val (.int p1), .val (.int p2), .val (.int p3), .val (.int p4), .val (.int p5), .val (.int n), .val (.int i), .val (.int j), .val (.int i), .val (.int (p5 ^^^ (-1 : Int32))), .val (.ref b25), .val (.int p5), .val (.int (p5 ^^^ (-1 : Int32))), .val (.int p5), .val (.int p5), .val (.int p5)] []))
    refine W.go (fun _ hr => XS.iload X36.here hx rfl (hb hby at_155) rfl hr) ?_
    show W p e below _ (T36.setTop (mkF m 157 #[.val (.int p0), .val (.int p1), .val (.int p2), .val (.int p3), .val (.int p4), .val (.int p5), .val (.int n), .val (.int i), .val (.int j), .val (.int i), .val (.int (p5 ^^^ (-1 : Int32))), .val (.ref b25), .val (.int p5), .val (.int (p5 ^^^ (-1 : Int32))), .val (.int p5), .val (.int p5), .val (.int p5)] [(.int p5)]))
    refine W.go (fun _ hr => XS.iload X36.here hx rfl (hb hby at_157) rfl hr) ?_
    show W p e below _ (T36.setTop (mkF m 159 #[.val (.int p0), .val (.int p1), .val (.int p2), .val (.int p3), .val (.int p4), .val (.int p5), .val (.int n), .val (.int i), .val (.int j), .val (.int i), .val (.int (p5 ^^^ (-1 : Int32))), .val (.ref b25), .val (.int p5), .val (.int (p5 ^^^ (-1 : Int32))), .val (.int p5), .val (.int p5), .val (.int p5)] [(.int p5), (.int p5)]))
    refine W.go (fun _ hr => XS.icmpNo X36.here hx rfl (hb hby at_159) rfl (teq (rfl : p5 = p5)).2 hr) ?_
    show W p e below _ (T36.setTop (mkF m 162 #[.val (.int p0), .val (.int p1), .val (.int p2), .val (.int p3), .val (.int p4), .val (.int p5), .val (.int n), .val (.int i), .val (.int j), .val (.int i), .val (.int (p5 ^^^ (-1 : Int32))), .val (.ref b25), .val (.int p5), .val (.int (p5 ^^^ (-1 : Int32))), .val (.int p5), .val (.int p5), .val (.int p5)] []))
    refine W.go (fun _ hr => XS.iload X36.here hx rfl (hb hby at_162) rfl hr) ?_
    show W p e below _ (T36.setTop (mkF m 164 #[.val (.int p0), .val (.int p1), .val (.int p2), .val (.int p3), .val (.int p4), .val (.int p5), .val (.int n), .val (.int i), .val (.int j), .val (.int i), .val (.int (p5 ^^^ (-1 : Int32))), .val (.ref b25), .val (.int p5), .val (.int (p5 ^^^ (-1 : Int32))), .val (.int p5), .val (.int p5), .val (.int p5)] [(.int (p5 ^^^ (-1 : Int32)))]))
    refine W.go (fun _ hr => XS.iload X36.here hx rfl (hb hby at_164) rfl hr) ?_
    show W p e below _ (T36.setTop (mkF m 166 #[.val (.int p0), .val (.int p1), .val (.int p2), .val (.int p3), .val (.int p4), .val (.int p5), .val (.int n), .val (.int i), .val (.int j), .val (.int i), .val (.int (p5 ^^^ (-1 : Int32))), .val (.ref b25), .val (.int p5), .val (.int (p5 ^^^ (-1 : Int32))), .val (.int p5), .val (.int p5), .val (.int p5)] [(.int (p5 ^^^ (-1 : Int32))), (.int (p5 ^^^ (-1 : Int32)))]))
    refine W.go (fun _ hr => XS.icmpNo X36.here hx rfl (hb hby at_166) rfl (teq (rfl : (p5 ^^^ (-1 : Int32)) = (p5 ^^^ (-1 : Int32)))).2 hr) ?_
    show W p e below _ (T36.setTop (mkF m 169 #[.val (.int p0), .val (.int p1), .val (.int p2), .val (.int p3), .val (.int p4), .val (.int p5), .val (.int n), .val (.int i), .val (.int j), .val (.int i), .val (.int (p5 ^^^ (-1 : Int32))), .val (.ref b25), .val (.int p5), .val (.int (p5 ^^^ (-1 : Int32))), .val (.int p5), .val (.int p5), .val (.int p5)] []))
    refine W.go (fun _ hr => XS.iload X36.here hx rfl (hb hby at_169) rfl hr) ?_
    show W p e below _ (T36.setTop (mkF m 171 #[.val (.int p0), .val (.int p1), .val (.int p2), .val (.int p3), .val (.int p4), .val (.int p5), .val (.int n), .val (.int i), .val (.int j), .val (.int i), .val (.int (p5 ^^^ (-1 : Int32))), .val (.ref b25), .val (.int p5), .val (.int (p5 ^^^ (-1 : Int32))), .val (.int p5), .val (.int p5), .val (.int p5)] [(.int p5)]))
    refine W.go (fun _ hr => XS.iload X36.here hx rfl (hb hby at_171) rfl hr) ?_
    show W p e below _ (T36.setTop (mkF m 173 #[.val (.int p0), .val (.int p1), .val (.int p2), .val (.int p3), .val (.int p4), .val (.int p5), .val (.int n), .val (.int i), .val (.int j), .val (.int i), .val (.int (p5 ^^^ (-1 : Int32))), .val (.ref b25), .val (.int p5), .val (.int (p5 ^^^ (-1 : Int32))), .val (.int p5), .val (.int p5), .val (.int p5)] [(.int p5), (.int p5)]))
    refine W.go (fun _ hr => XS.icmpNo X36.here hx rfl (hb hby at_173) rfl (teq (rfl : p5 = p5)).2 hr) ?_
    show W p e below _ (T36.setTop (mkF m 176 #[.val (.int p0), .val (.int p1), .val (.int p2), .val (.int p3), .val (.int p4), .val (.int p5), .val (.int n), .val (.int i), .val (.int j), .val (.int i), .val (.int (p5 ^^^ (-1 : Int32))), .val (.ref b25), .val (.int p5), .val (.int (p5 ^^^ (-1 : Int32))), .val (.int p5), .val (.int p5), .val (.int p5)] []))
    refine W.go (fun _ hr => XS.iconst X36.here hx rfl (hb hby at_176) hr) ?_
    show W p e below _ (T36.setTop (mkF m 177 #[.val (.int p0), .val (.int p1), .val (.int p2), .val (.int p3), .val (.int p4), .val (.int p5), .val (.int n), .val (.int i), .val (.int j), .val (.int i), .val (.int (p5 ^^^ (-1 : Int32))), .val (.ref b25), .val (.int p5), .val (.int (p5 ^^^ (-1 : Int32))), .val (.int p5), .val (.int p5), .val (.int p5)] [(.int (1 : Int32))]))
    refine W.go (fun _ hr => XS.goto X36.here hx rfl (pc0 := 177) (pc' := 181) rfl (hb hby at_177) (by decide) (by decide) hr) ?_
    show W p e below _ (T36.setTop (mkF m 181 #[.val (.int p0), .val (.int p1), .val (.int p2), .val (.int p3), .val (.int p4), .val (.int p5), .val (.int n), .val (.int i), .val (.int j), .val (.int i), .val (.int (p5 ^^^ (-1 : Int32))), .val (.ref b25), .val (.int p5), .val (.int (p5 ^^^ (-1 : Int32))), .val (.int p5), .val (.int p5), .val (.int p5)] [(.int (1 : Int32))]))
    exact W.retB X36 hx hlk (t := .boolean) hret (by simp) (hb hby at_181) (by decide) (by decide) e36 ⟨rfl, N36⟩
  · have tij := own_nat hi.1 hj.1 neij
    have tji := own_nat hj.1 hi.1 (fun q => neij q.symm)
    obtain ⟨T37, h37, X37, e37, E37, E_b37, D37, U37, st37⟩ := newO X0 hx hZ hown (hw _ (List.mem_of_getElem? (i := 2) rfl)) (hw _ (List.mem_of_getElem? (i := 3) rfl)) (hw _ (List.mem_of_getElem? (i := 4) rfl)) e0 (g := (mkF m 45 #[.val (.int p0), .val (.int p1), .val (.int p2), .val (.int p3), .val (.int p4), .val (.int p5), .val (.int n), .val (.int i), .val (.int j), .val (.int j), .val (.int (p5 ^^^ (-1 : Int32))), .unset, .unset, .unset, .unset, .unset, .unset] [])) rfl (hb hby at_45) (by decide) (by decide)
    obtain ⟨b37, g37⟩ : ∃ z, z = h0.size := ⟨_, rfl⟩
    rw [← g37] at E_b37 D37 U37 st37
    have g_b37 : n0 ≤ b37 := Nat.le_trans Z0 (Nat.le_of_eq g37.symm)
    replace S_SHIFT := Sta.ext E37 S_SHIFT
    have Z38 : n0 ≤ h37.size := Nat.le_trans Z0 E37.1
    have F_size_b37 : Fld Z h37 b37 "com/example/parleyd/parleyd/core/IntPages" "size" "I" (.int (0 : Int32)) := D37 (Or.inr (hw _ (List.mem_of_getElem? (i := 12) rfl))) (ty := .int) (by decide)
    have F_pages_b37 : Fld Z h37 b37 "com/example/parleyd/parleyd/core/IntPages" "pages" "[[I" .null := D37 (Or.inr (hw _ (List.mem_of_getElem? (i := 19) rfl))) (ty := (.array (.array .int))) (by decide)
    refine W.go st37 ?_
    show W p e below _ (T37.setTop (mkF m 48 #[.val (.int p0), .val (.int p1), .val (.int p2), .val (.int p3), .val (.int p4), .val (.int p5), .val (.int n), .val (.int i), .val (.int j), .val (.int j), .val (.int (p5 ^^^ (-1 : Int32))), .unset, .unset, .unset, .unset, .unset, .unset] [(.ref b37)]))
    refine W.go (fun _ hr => XS.dup X37.here hx rfl (hb hby at_48) rfl rfl hr) ?_
    show W p e below _ (T37.setTop (mkF m 49 #[.val (.int p0), .val (.int p1), .val (.int p2), .val (.int p3), .val (.int p4), .val (.int p5), .val (.int n), .val (.int i), .val (.int j), .val (.int j), .val (.int (p5 ^^^ (-1 : Int32))), .unset, .unset, .unset, .unset, .unset, .unset] [(.ref b37), (.ref b37)]))
    refine W.go (fun _ hr => XS.iload X37.here hx rfl (hb hby at_49) rfl hr) ?_
    show W p e below _ (T37.setTop (mkF m 51 #[.val (.int p0), .val (.int p1), .val (.int p2), .val (.int p3), .val (.int p4), .val (.int p5), .val (.int n), .val (.int i), .val (.int j), .val (.int j), .val (.int (p5 ^^^ (-1 : Int32))), .unset, .unset, .unset, .unset, .unset, .unset] [(.int n), (.ref b37), (.ref b37)]))
    refine W.go (fun _ hr => XS.iloadN X37.here hx rfl (hb hby at_51) rfl hr) ?_
    show W p e below _ (T37.setTop (mkF m 52 #[.val (.int p0), .val (.int p1), .val (.int p2), .val (.int p3), .val (.int p4), .val (.int p5), .val (.int n), .val (.int i), .val (.int j), .val (.int j), .val (.int (p5 ^^^ (-1 : Int32))), .unset, .unset, .unset, .unset, .unset, .unset] [(.int p1), (.int n), (.ref b37), (.ref b37)]))
    refine W.callI X37 hx hZ hown (g := (mkF m 52 #[.val (.int p0), .val (.int p1), .val (.int p2), .val (.int p3), .val (.int p4), .val (.int p5), .val (.int n), .val (.int i), .val (.int j), .val (.int j), .val (.int (p5 ^^^ (-1 : Int32))), .unset, .unset, .unset, .unset, .unset, .unset] [(.int p1), (.int n), (.ref b37), (.ref b37)])) (by rw [hml]; rfl) (hw _ (List.mem_of_getElem? (i := 5) rfl)) (hw _ (List.mem_of_getElem? (i := 6) rfl)) (hw _ (List.mem_of_getElem? (i := 4) rfl)) (hw _ (List.mem_of_getElem? (i := 7) rfl)) e37 (rm1 l Z a0 hw b37 n p1 h37 n0 Z38 E_b37 F_size_b37 F_pages_b37 g_b37 S_SHIFT hn) rfl (by decide) pd_101 rfl (b := b37) (argsL := [(.int n), (.int p1)]) (rest := [(.ref b37)]) rfl rfl rfl (hb hby at_52) (W0 := 1) rfl (by decide) (by decide) (by decide) (by decide) (fun v39 T39 h39 L39 X39 e39 hQ39 => ?_)
    obtain ⟨rfl, N39q, E_39, S_39, Z_39, H_39⟩ := hQ39
    have N39 := Fr.app N0 N39q
    replace E_b37 := E_39
    replace S_SHIFT := S_39
    have Z40 : n0 ≤ h39.size := Nat.le_trans Z38 Z_39
    show W p e below _ (T39.setTop (mkF m 55 #[.val (.int p0), .val (.int p1), .val (.int p2), .val (.int p3), .val (.int p4), .val (.int p5), .val (.int n), .val (.int i), .val (.int j), .val (.int j), .val (.int (p5 ^^^ (-1 : Int32))), .unset, .unset, .unset, .unset, .unset, .unset] [(.ref b37)]))
    refine W.go (fun _ hr => XS.astore X39.here hx rfl (hb hby at_55) rfl rfl (l' := #[.val (.int p0), .val (.int p1), .val (.int p2), .val (.int p3), .val (.int p4), .val (.int p5), .val (.int n), .val (.int i), .val (.int j), .val (.int j), .val (.int (p5 ^^^ (-1 : Int32))), .val (.ref b37), .unset, .unset, .unset, .unset, .unset]) rfl hr) ?_
    show W p e below _ (T39.setTop (mkF m 57 #[.val (.int p0), .val (.int p1), .val (.int p2), .val (.int p3), .val (.int p4), .val (.int p5), .val (.int n), .val (.int i), .val (.int j), .val (.int j), .val (.int (p5 ^^^ (-1 : Int32))), .val (.ref b37), .unset, .unset, .unset, .unset, .unset] []))
    refine W.go (fun _ hr => XS.aload X39.here hx rfl (hb hby at_57) rfl rfl hr) ?_
    show W p e below _ (T39.setTop (mkF m 59 #[.val (.int p0), .val (.int p1), .val (.int p2), .val (.int p3), .val (.int p4), .val (.int p5), .val (.int n), .val (.int i), .val (.int j), .val (.int j), .val (.int (p5 ^^^ (-1 : Int32))), .val (.ref b37), .unset, .unset, .unset, .unset, .unset] [(.ref b37)]))
    refine W.go (fun _ hr => XS.iload X39.here hx rfl (hb hby at_59) rfl hr) ?_
    show W p e below _ (T39.setTop (mkF m 61 #[.val (.int p0), .val (.int p1), .val (.int p2), .val (.int p3), .val (.int p4), .val (.int p5), .val (.int n), .val (.int i), .val (.int j), .val (.int j), .val (.int (p5 ^^^ (-1 : Int32))), .val (.ref b37), .unset, .unset, .unset, .unset, .unset] [(.int i), (.ref b37)]))
    refine W.go (fun _ hr => XS.iload X39.here hx rfl (hb hby at_61) rfl hr) ?_
    show W p e below _ (T39.setTop (mkF m 63 #[.val (.int p0), .val (.int p1), .val (.int p2), .val (.int p3), .val (.int p4), .val (.int p5), .val (.int n), .val (.int i), .val (.int j), .val (.int j), .val (.int (p5 ^^^ (-1 : Int32))), .val (.ref b37), .unset, .unset, .unset, .unset, .unset] [(.int p5), (.int i), (.ref b37)]))
    refine W.callV X39 hx hZ hown (g := (mkF m 63 #[.val (.int p0), .val (.int p1), .val (.int p2), .val (.int p3), .val (.int p4), .val (.int p5), .val (.int n), .val (.int i), .val (.int j), .val (.int j), .val (.int (p5 ^^^ (-1 : Int32))), .val (.ref b37), .unset, .unset, .unset, .unset, .unset] [(.int p5), (.int i), (.ref b37)])) (by rw [hml]; rfl) (hw _ (List.mem_of_getElem? (i := 30) rfl)) (hw _ (List.mem_of_getElem? (i := 31) rfl)) (hw _ (List.mem_of_getElem? (i := 33) rfl)) (hw _ (List.mem_of_getElem? (i := 32) rfl)) (hw _ (List.mem_of_getElem? (i := 4) rfl)) (hw _ (List.mem_of_getElem? (i := 34) rfl)) e39 (rm5 l Z a0 hw b37 i p5 n (fun _ => p1) h39 n0 Z40 H_39 hi E_b37 S_SHIFT) (notFace_of_selects (args := #[]) (mvT hZ (hw _ (List.mem_of_getElem? (i := 33) rfl)))) (by decide) pd_101 rfl E_b37 (argsL := [(.int i), (.int p5)]) (rest := []) rfl rfl rfl (hb hby at_63) (W0 := 0) rfl (by decide) (by decide) (by decide) (by decide) (fun v41 T41 h41 L41 X41 e41 hQ41 => ?_)
    obtain ⟨rfl, N41q, E_41, S_41, Z_41, H_41⟩ := hQ41
    have N41 := Fr.app N39 N41q
    replace E_b37 := E_41
    replace S_SHIFT := S_41
    have Z42 : n0 ≤ h41.size := Nat.le_trans Z40 Z_41
    show W p e below _ (T41.setTop (mkF m 66 #[.val (.int p0), .val (.int p1), .val (.int p2), .val (.int p3), .val (.int p4), .val (.int p5), .val (.int n), .val (.int i), .val (.int j), .val (.int j), .val (.int (p5 ^^^ (-1 : Int32))), .val (.ref b37), .unset, .unset, .unset, .unset, .unset] []))
    refine W.go (fun _ hr => XS.aload X41.here hx rfl (hb hby at_66) rfl rfl hr) ?_
    show W p e below _ (T41.setTop (mkF m 68 #[.val (.int p0), .val (.int p1), .val (.int p2), .val (.int p3), .val (.int p4), .val (.int p5), .val (.int n), .val (.int i), .val (.int j), .val (.int j), .val (.int (p5 ^^^ (-1 : Int32))), .val (.ref b37), .unset, .unset, .unset, .unset, .unset] [(.ref b37)]))
    refine W.go (fun _ hr => XS.iload X41.here hx rfl (hb hby at_68) rfl hr) ?_
    show W p e below _ (T41.setTop (mkF m 70 #[.val (.int p0), .val (.int p1), .val (.int p2), .val (.int p3), .val (.int p4), .val (.int p5), .val (.int n), .val (.int i), .val (.int j), .val (.int j), .val (.int (p5 ^^^ (-1 : Int32))), .val (.ref b37), .unset, .unset, .unset, .unset, .unset] [(.int j), (.ref b37)]))
    refine W.go (fun _ hr => XS.iload X41.here hx rfl (hb hby at_70) rfl hr) ?_
    show W p e below _ (T41.setTop (mkF m 72 #[.val (.int p0), .val (.int p1), .val (.int p2), .val (.int p3), .val (.int p4), .val (.int p5), .val (.int n), .val (.int i), .val (.int j), .val (.int j), .val (.int (p5 ^^^ (-1 : Int32))), .val (.ref b37), .unset, .unset, .unset, .unset, .unset] [(.int (p5 ^^^ (-1 : Int32))), (.int j), (.ref b37)]))
    refine W.callV X41 hx hZ hown (g := (mkF m 72 #[.val (.int p0), .val (.int p1), .val (.int p2), .val (.int p3), .val (.int p4), .val (.int p5), .val (.int n), .val (.int i), .val (.int j), .val (.int j), .val (.int (p5 ^^^ (-1 : Int32))), .val (.ref b37), .unset, .unset, .unset, .unset, .unset] [(.int (p5 ^^^ (-1 : Int32))), (.int j), (.ref b37)])) (by rw [hml]; rfl) (hw _ (List.mem_of_getElem? (i := 30) rfl)) (hw _ (List.mem_of_getElem? (i := 31) rfl)) (hw _ (List.mem_of_getElem? (i := 33) rfl)) (hw _ (List.mem_of_getElem? (i := 32) rfl)) (hw _ (List.mem_of_getElem? (i := 4) rfl)) (hw _ (List.mem_of_getElem? (i := 34) rfl)) e41 (rm5 l Z a0 hw b37 j (p5 ^^^ (-1 : Int32)) n (fun x => if x = i.toNatClampNeg then p5 else (fun _ => p1) x) h41 n0 Z42 H_41 hj E_b37 S_SHIFT) (notFace_of_selects (args := #[]) (mvT hZ (hw _ (List.mem_of_getElem? (i := 33) rfl)))) (by decide) pd_101 rfl E_b37 (argsL := [(.int j), (.int (p5 ^^^ (-1 : Int32)))]) (rest := []) rfl rfl rfl (hb hby at_72) (W0 := 0) rfl (by decide) (by decide) (by decide) (by decide) (fun v43 T43 h43 L43 X43 e43 hQ43 => ?_)
    obtain ⟨rfl, N43q, E_43, S_43, Z_43, H_43⟩ := hQ43
    have N43 := Fr.app N41 N43q
    replace E_b37 := E_43
    replace S_SHIFT := S_43
    have Z44 : n0 ≤ h43.size := Nat.le_trans Z42 Z_43
    show W p e below _ (T43.setTop (mkF m 75 #[.val (.int p0), .val (.int p1), .val (.int p2), .val (.int p3), .val (.int p4), .val (.int p5), .val (.int n), .val (.int i), .val (.int j), .val (.int j), .val (.int (p5 ^^^ (-1 : Int32))), .val (.ref b37), .unset, .unset, .unset, .unset, .unset] []))
    refine W.go (fun _ hr => XS.aload X43.here hx rfl (hb hby at_75) rfl rfl hr) ?_
    show W p e below _ (T43.setTop (mkF m 77 #[.val (.int p0), .val (.int p1), .val (.int p2), .val (.int p3), .val (.int p4), .val (.int p5), .val (.int n), .val (.int i), .val (.int j), .val (.int j), .val (.int (p5 ^^^ (-1 : Int32))), .val (.ref b37), .unset, .unset, .unset, .unset, .unset] [(.ref b37)]))
    refine W.go (fun _ hr => XS.iload X43.here hx rfl (hb hby at_77) rfl hr) ?_
    show W p e below _ (T43.setTop (mkF m 79 #[.val (.int p0), .val (.int p1), .val (.int p2), .val (.int p3), .val (.int p4), .val (.int p5), .val (.int n), .val (.int i), .val (.int j), .val (.int j), .val (.int (p5 ^^^ (-1 : Int32))), .val (.ref b37), .unset, .unset, .unset, .unset, .unset] [(.int i), (.ref b37)]))
    refine W.callV X43 hx hZ hown (g := (mkF m 79 #[.val (.int p0), .val (.int p1), .val (.int p2), .val (.int p3), .val (.int p4), .val (.int p5), .val (.int n), .val (.int i), .val (.int j), .val (.int j), .val (.int (p5 ^^^ (-1 : Int32))), .val (.ref b37), .unset, .unset, .unset, .unset, .unset] [(.int i), (.ref b37)])) (by rw [hml]; rfl) (hw _ (List.mem_of_getElem? (i := 35) rfl)) (hw _ (List.mem_of_getElem? (i := 36) rfl)) (hw _ (List.mem_of_getElem? (i := 38) rfl)) (hw _ (List.mem_of_getElem? (i := 37) rfl)) (hw _ (List.mem_of_getElem? (i := 4) rfl)) (hw _ (List.mem_of_getElem? (i := 39) rfl)) e43 (rm6 l Z a0 hw b37 i n (fun x => if x = j.toNatClampNeg then (p5 ^^^ (-1 : Int32)) else (fun x => if x = i.toNatClampNeg then p5 else (fun _ => p1) x) x) p5 h43 n0 Z44 H_43 hi S_SHIFT (by simp [tij, tji])) (notFace_of_selects (args := #[]) (mvT hZ (hw _ (List.mem_of_getElem? (i := 38) rfl)))) (by decide) pd_102 rfl E_b37 (argsL := [(.int i)]) (rest := []) rfl rfl rfl (hb hby at_79) (W0 := 0) rfl (by decide) (by decide) (by decide) (by decide) (fun v45 T45 h45 L45 X45 e45 hQ45 => ?_)
    obtain ⟨rfl, N45q, hh45⟩ := hQ45
    obtain rfl := hh45.symm
    have N45 := Fr.app N43 N45q
    show W p e below _ (T45.setTop (mkF m 82 #[.val (.int p0), .val (.int p1), .val (.int p2), .val (.int p3), .val (.int p4), .val (.int p5), .val (.int n), .val (.int i), .val (.int j), .val (.int j), .val (.int (p5 ^^^ (-1 : Int32))), .val (.ref b37), .unset, .unset, .unset, .unset, .unset] [(.int p5)]))
    refine W.go (fun _ hr => XS.istore X45.here hx rfl (hb hby at_82) rfl (l' := #[.val (.int p0), .val (.int p1), .val (.int p2), .val (.int p3), .val (.int p4), .val (.int p5), .val (.int n), .val (.int i), .val (.int j), .val (.int j), .val (.int (p5 ^^^ (-1 : Int32))), .val (.ref b37), .val (.int p5), .unset, .unset, .unset, .unset]) rfl hr) ?_
    show W p e below _ (T45.setTop (mkF m 84 #[.val (.int p0), .val (.int p1), .val (.int p2), .val (.int p3), .val (.int p4), .val (.int p5), .val (.int n), .val (.int i), .val (.int j), .val (.int j), .val (.int (p5 ^^^ (-1 : Int32))), .val (.ref b37), .val (.int p5), .unset, .unset, .unset, .unset] []))
    refine W.go (fun _ hr => XS.aload X45.here hx rfl (hb hby at_84) rfl rfl hr) ?_
    show W p e below _ (T45.setTop (mkF m 86 #[.val (.int p0), .val (.int p1), .val (.int p2), .val (.int p3), .val (.int p4), .val (.int p5), .val (.int n), .val (.int i), .val (.int j), .val (.int j), .val (.int (p5 ^^^ (-1 : Int32))), .val (.ref b37), .val (.int p5), .unset, .unset, .unset, .unset] [(.ref b37)]))
    refine W.go (fun _ hr => XS.iload X45.here hx rfl (hb hby at_86) rfl hr) ?_
    show W p e below _ (T45.setTop (mkF m 88 #[.val (.int p0), .val (.int p1), .val (.int p2), .val (.int p3), .val (.int p4), .val (.int p5), .val (.int n), .val (.int i), .val (.int j), .val (.int j), .val (.int (p5 ^^^ (-1 : Int32))), .val (.ref b37), .val (.int p5), .unset, .unset, .unset, .unset] [(.int j), (.ref b37)]))
    refine W.callV X45 hx hZ hown (g := (mkF m 88 #[.val (.int p0), .val (.int p1), .val (.int p2), .val (.int p3), .val (.int p4), .val (.int p5), .val (.int n), .val (.int i), .val (.int j), .val (.int j), .val (.int (p5 ^^^ (-1 : Int32))), .val (.ref b37), .val (.int p5), .unset, .unset, .unset, .unset] [(.int j), (.ref b37)])) (by rw [hml]; rfl) (hw _ (List.mem_of_getElem? (i := 35) rfl)) (hw _ (List.mem_of_getElem? (i := 36) rfl)) (hw _ (List.mem_of_getElem? (i := 38) rfl)) (hw _ (List.mem_of_getElem? (i := 37) rfl)) (hw _ (List.mem_of_getElem? (i := 4) rfl)) (hw _ (List.mem_of_getElem? (i := 39) rfl)) e45 (rm6 l Z a0 hw b37 j n (fun x => if x = j.toNatClampNeg then (p5 ^^^ (-1 : Int32)) else (fun x => if x = i.toNatClampNeg then p5 else (fun _ => p1) x) x) (p5 ^^^ (-1 : Int32)) h43 n0 Z44 H_43 hj S_SHIFT (by simp [tij, tji])) (notFace_of_selects (args := #[]) (mvT hZ (hw _ (List.mem_of_getElem? (i := 38) rfl)))) (by decide) pd_102 rfl E_b37 (argsL := [(.int j)]) (rest := []) rfl rfl rfl (hb hby at_88) (W0 := 0) rfl (by decide) (by decide) (by decide) (by decide) (fun v46 T46 h46 L46 X46 e46 hQ46 => ?_)
    obtain ⟨rfl, N46q, hh46⟩ := hQ46
    obtain rfl := hh46.symm
    have N46 := Fr.app N45 N46q
    show W p e below _ (T46.setTop (mkF m 91 #[.val (.int p0), .val (.int p1), .val (.int p2), .val (.int p3), .val (.int p4), .val (.int p5), .val (.int n), .val (.int i), .val (.int j), .val (.int j), .val (.int (p5 ^^^ (-1 : Int32))), .val (.ref b37), .val (.int p5), .unset, .unset, .unset, .unset] [(.int (p5 ^^^ (-1 : Int32)))]))
    refine W.go (fun _ hr => XS.istore X46.here hx rfl (hb hby at_91) rfl (l' := #[.val (.int p0), .val (.int p1), .val (.int p2), .val (.int p3), .val (.int p4), .val (.int p5), .val (.int n), .val (.int i), .val (.int j), .val (.int j), .val (.int (p5 ^^^ (-1 : Int32))), .val (.ref b37), .val (.int p5), .val (.int (p5 ^^^ (-1 : Int32))), .unset, .unset, .unset]) rfl hr) ?_
    show W p e below _ (T46.setTop (mkF m 93 #[.val (.int p0), .val (.int p1), .val (.int p2), .val (.int p3), .val (.int p4), .val (.int p5), .val (.int n), .val (.int i), .val (.int j), .val (.int j), .val (.int (p5 ^^^ (-1 : Int32))), .val (.ref b37), .val (.int p5), .val (.int (p5 ^^^ (-1 : Int32))), .unset, .unset, .unset] []))
    refine W.go (fun _ hr => XS.aload X46.here hx rfl (hb hby at_93) rfl rfl hr) ?_
    show W p e below _ (T46.setTop (mkF m 95 #[.val (.int p0), .val (.int p1), .val (.int p2), .val (.int p3), .val (.int p4), .val (.int p5), .val (.int n), .val (.int i), .val (.int j), .val (.int j), .val (.int (p5 ^^^ (-1 : Int32))), .val (.ref b37), .val (.int p5), .val (.int (p5 ^^^ (-1 : Int32))), .unset, .unset, .unset] [(.ref b37)]))
    refine W.go (fun _ hr => XS.iload X46.here hx rfl (hb hby at_95) rfl hr) ?_
    show W p e below _ (T46.setTop (mkF m 97 #[.val (.int p0), .val (.int p1), .val (.int p2), .val (.int p3), .val (.int p4), .val (.int p5), .val (.int n), .val (.int i), .val (.int j), .val (.int j), .val (.int (p5 ^^^ (-1 : Int32))), .val (.ref b37), .val (.int p5), .val (.int (p5 ^^^ (-1 : Int32))), .unset, .unset, .unset] [(.int j), (.ref b37)]))
    refine W.callV X46 hx hZ hown (g := (mkF m 97 #[.val (.int p0), .val (.int p1), .val (.int p2), .val (.int p3), .val (.int p4), .val (.int p5), .val (.int n), .val (.int i), .val (.int j), .val (.int j), .val (.int (p5 ^^^ (-1 : Int32))), .val (.ref b37), .val (.int p5), .val (.int (p5 ^^^ (-1 : Int32))), .unset, .unset, .unset] [(.int j), (.ref b37)])) (by rw [hml]; rfl) (hw _ (List.mem_of_getElem? (i := 35) rfl)) (hw _ (List.mem_of_getElem? (i := 36) rfl)) (hw _ (List.mem_of_getElem? (i := 38) rfl)) (hw _ (List.mem_of_getElem? (i := 37) rfl)) (hw _ (List.mem_of_getElem? (i := 4) rfl)) (hw _ (List.mem_of_getElem? (i := 39) rfl)) e46 (rm6 l Z a0 hw b37 j n (fun x => if x = j.toNatClampNeg then (p5 ^^^ (-1 : Int32)) else (fun x => if x = i.toNatClampNeg then p5 else (fun _ => p1) x) x) (p5 ^^^ (-1 : Int32)) h43 n0 Z44 H_43 hj S_SHIFT (by simp [tij, tji])) (notFace_of_selects (args := #[]) (mvT hZ (hw _ (List.mem_of_getElem? (i := 38) rfl)))) (by decide) pd_102 rfl E_b37 (argsL := [(.int j)]) (rest := []) rfl rfl rfl (hb hby at_97) (W0 := 0) rfl (by decide) (by decide) (by decide) (by decide) (fun v47 T47 h47 L47 X47 e47 hQ47 => ?_)
    obtain ⟨rfl, N47q, hh47⟩ := hQ47
    obtain rfl := hh47.symm
    have N47 := Fr.app N46 N47q
    show W p e below _ (T47.setTop (mkF m 100 #[.val (.int p0), .val (.int p1), .val (.int p2), .val (.int p3), .val (.int p4), .val (.int p5), .val (.int n), .val (.int i), .val (.int j), .val (.int j), .val (.int (p5 ^^^ (-1 : Int32))), .val (.ref b37), .val (.int p5), .val (.int (p5 ^^^ (-1 : Int32))), .unset, .unset, .unset] [(.int (p5 ^^^ (-1 : Int32)))]))
    refine W.go (fun _ hr => XS.istore X47.here hx rfl (hb hby at_100) rfl (l' := #[.val (.int p0), .val (.int p1), .val (.int p2), .val (.int p3), .val (.int p4), .val (.int p5), .val (.int n), .val (.int i), .val (.int j), .val (.int j), .val (.int (p5 ^^^ (-1 : Int32))), .val (.ref b37), .val (.int p5), .val (.int (p5 ^^^ (-1 : Int32))), .val (.int (p5 ^^^ (-1 : Int32))), .unset, .unset]) rfl hr) ?_
    show W p e below _ (T47.setTop (mkF m 102 #[.val (.int p0), .val (.int p1), .val (.int p2), .val (.int p3), .val (.int p4), .val (.int p5), .val (.int n), .val (.int i), .val (.int j), .val (.int j), .val (.int (p5 ^^^ (-1 : Int32))), .val (.ref b37), .val (.int p5), .val (.int (p5 ^^^ (-1 : Int32))), .val (.int (p5 ^^^ (-1 : Int32))), .unset, .unset] []))
    refine W.go (fun _ hr => XS.iload X47.here hx rfl (hb hby at_102) rfl hr) ?_
    show W p e below _ (T47.setTop (mkF m 104 #[.val (.int p0), .val (.int p1), .val (.int p2), .val (.int p3), .val (.int p4), .val (.int p5), .val (.int n), .val (.int i), .val (.int j), .val (.int j), .val (.int (p5 ^^^ (-1 : Int32))), .val (.ref b37), .val (.int p5), .val (.int (p5 ^^^ (-1 : Int32))), .val (.int (p5 ^^^ (-1 : Int32))), .unset, .unset] [(.int i)]))
    refine W.go (fun _ hr => XS.iload X47.here hx rfl (hb hby at_104) rfl hr) ?_
    show W p e below _ (T47.setTop (mkF m 106 #[.val (.int p0), .val (.int p1), .val (.int p2), .val (.int p3), .val (.int p4), .val (.int p5), .val (.int n), .val (.int i), .val (.int j), .val (.int j), .val (.int (p5 ^^^ (-1 : Int32))), .val (.ref b37), .val (.int p5), .val (.int (p5 ^^^ (-1 : Int32))), .val (.int (p5 ^^^ (-1 : Int32))), .unset, .unset] [(.int j), (.int i)]))
    refine W.go (fun _ hr => XS.icmpYes X47.here hx rfl (pc0 := 106) (pc' := 114) rfl (hb hby at_106) rfl (feq neij).2 (by decide) (by decide) hr) ?_
    show W p e below _ (T47.setTop (mkF m 114 #[.val (.int p0), .val (.int p1), .val (.int p2), .val (.int p3), .val (.int p4), .val (.int p5), .val (.int n), .val (.int i), .val (.int j), .val (.int j), .val (.int (p5 ^^^ (-1 : Int32))), .val (.ref b37), .val (.int p5), .val (.int (p5 ^^^ (-1 : Int32))), .val (.int (p5 ^^^ (-1 : Int32))), .unset, .unset] []))
    refine W.go (fun _ hr => XS.iload X47.here hx rfl (hb hby at_114) rfl hr) ?_
    show W p e below _ (T47.setTop (mkF m 116 #[.val (.int p0), .val (.int p1), .val (.int p2), .val (.int p3), .val (.int p4), .val (.int p5), .val (.int n), .val (.int i), .val (.int j), .val (.int j), .val (.int (p5 ^^^ (-1 : Int32))), .val (.ref b37), .val (.int p5), .val (.int (p5 ^^^ (-1 : Int32))), .val (.int (p5 ^^^ (-1 : Int32))), .unset, .unset] [(.int p5)]))
    refine W.go (fun _ hr => XS.istore X47.here hx rfl (hb hby at_116) rfl (l' := #[.val (.int p0), .val (.int p1), .val (.int p2), .val (.int p3), .val (.int p4), .val (.int p5), .val (.int n), .val (.int i), .val (.int j), .val (.int j), .val (.int (p5 ^^^ (-1 : Int32))), .val (.ref b37), .val (.int p5), .val (.int (p5 ^^^ (-1 : Int32))), .val (.int (p5 ^^^ (-1 : Int32))), .val (.int p5), .unset]) rfl hr) ?_
    show W p e below _ (T47.setTop (mkF m 118 #[.val (.int p0), .val (.int p1), .val (.int p2), .val (.int p3), .val (.int p4), .val (.int p5), .val (.int n), .val (.int i), .val (.int j), .val (.int j), .val (.int (p5 ^^^ (-1 : Int32))), .val (.ref b37), .val (.int p5), .val (.int (p5 ^^^ (-1 : Int32))), .val (.int (p5 ^^^ (-1 : Int32))), .val (.int p5), .unset] []))
    refine W.go (fun _ hr => XS.iload X47.here hx rfl (hb hby at_118) rfl hr) ?_
    show W p e below _ (T47.setTop (mkF m 120 #[.val (.int p0), .val (.int p1), .val (.int p2), .val (.int p3), .val (.int p4), .val (.int p5), .val (.int n), .val (.int i), .val (.int j), .val (.int j), .val (.int (p5 ^^^ (-1 : Int32))), .val (.ref b37), .val (.int p5), .val (.int (p5 ^^^ (-1 : Int32))), .val (.int (p5 ^^^ (-1 : Int32))), .val (.int p5), .unset] [(.int j)]))
    refine W.go (fun _ hr => XS.iload X47.here hx rfl (hb hby at_120) rfl hr) ?_
    show W p e below _ (T47.setTop (mkF m 122 #[.val (.int p0), .val (.int p1), .val (.int p2), .val (.int p3), .val (.int p4), .val (.int p5), .val (.int n), .val (.int i), .val (.int j), .val (.int j), .val (.int (p5 ^^^ (-1 : Int32))), .val (.ref b37), .val (.int p5), .val (.int (p5 ^^^ (-1 : Int32))), .val (.int (p5 ^^^ (-1 : Int32))), .val (.int p5), .unset] [(.int j), (.int j)]))
    refine W.go (fun _ hr => XS.icmpNo X47.here hx rfl (hb hby at_122) rfl (teq (rfl : j = j)).2 hr) ?_
    show W p e below _ (T47.setTop (mkF m 125 #[.val (.int p0), .val (.int p1), .val (.int p2), .val (.int p3), .val (.int p4), .val (.int p5), .val (.int n), .val (.int i), .val (.int j), .val (.int j), .val (.int (p5 ^^^ (-1 : Int32))), .val (.ref b37), .val (.int p5), .val (.int (p5 ^^^ (-1 : Int32))), .val (.int (p5 ^^^ (-1 : Int32))), .val (.int p5), .unset] []))
    refine W.go (fun _ hr => XS.iload X47.here hx rfl (hb hby at_125) rfl hr) ?_
    show W p e below _ (T47.setTop (mkF m 127 #[.val (.int p0), .val (.int p1), .val (.int p2), .val (.int p3), .val (.int p4), .val (.int p5), .val (.int n), .val (.int i), .val (.int j), .val (.int j), .val (.int (p5 ^^^ (-1 : Int32))), .val (.ref b37), .val (.int p5), .val (.int (p5 ^^^ (-1 : Int32))), .val (.int (p5 ^^^ (-1 : Int32))), .val (.int p5), .unset] [(.int (p5 ^^^ (-1 : Int32)))]))
    refine W.go (fun _ hr => XS.goto X47.here hx rfl (pc0 := 127) (pc' := 143) rfl (hb hby at_127) (by decide) (by decide) hr) ?_
    show W p e below _ (T47.setTop (mkF m 143 #[.val (.int p0), .val (.int p1), .val (.int p2), .val (.int p3), .val (.int p4), .val (.int p5), .val (.int n), .val (.int i), .val (.int j), .val (.int j), .val (.int (p5 ^^^ (-1 : Int32))), .val (.ref b37), .val (.int p5), .val (.int (p5 ^^^ (-1 : Int32))), .val (.int (p5 ^^^ (-1 : Int32))), .val (.int p5), .unset] [(.int (p5 ^^^ (-1 : Int32)))]))
    refine W.go (fun _ hr => XS.istore X47.here hx rfl (hb hby at_143) rfl (l' := #[.val (.int p0), .val (.int p1), .val (.int p2), .val (.int p3), .val (.int p4), .val (.int p5), .val (.int n), .val (.int i), .val (.int j), .val (.int j), .val (.int (p5 ^^^ (-1 : Int32))), .val (.ref b37), .val (.int p5), .val (.int (p5 ^^^ (-1 : Int32))), .val (.int (p5 ^^^ (-1 : Int32))), .val (.int p5), .val (.int (p5 ^^^ (-1 : Int32)))]) rfl hr) ?_
    show W p e below _ (T47.setTop (mkF m 145 #[.val (.int p0), .val (.int p1), .val (.int p2), .val (.int p3), .val (.int p4), .val (.int p5), .val (.int n), .val (.int i), .val (.int j), .val (.int j), .val (.int (p5 ^^^ (-1 : Int32))), .val (.ref b37), .val (.int p5), .val (.int (p5 ^^^ (-1 : Int32))), .val (.int (p5 ^^^ (-1 : Int32))), .val (.int p5), .val (.int (p5 ^^^ (-1 : Int32)))] []))
    refine W.go (fun _ hr => XS.aload X47.here hx rfl (hb hby at_145) rfl rfl hr) ?_
    show W p e below _ (T47.setTop (mkF m 147 #[.val (.int p0), .val (.int p1), .val (.int p2), .val (.int p3), .val (.int p4), .val (.int p5), .val (.int n), .val (.int i), .val (.int j), .val (.int j), .val (.int (p5 ^^^ (-1 : Int32))), .val (.ref b37), .val (.int p5), .val (.int (p5 ^^^ (-1 : Int32))), .val (.int (p5 ^^^ (-1 : Int32))), .val (.int p5), .val (.int (p5 ^^^ (-1 : Int32)))] [(.ref b37)]))
    refine W.callV X47 hx hZ hown (g := (mkF m 147 #[.val (.int p0), .val (.int p1), .val (.int p2), .val (.int p3), .val (.int p4), .val (.int p5), .val (.int n), .val (.int i), .val (.int j), .val (.int j), .val (.int (p5 ^^^ (-1 : Int32))), .val (.ref b37), .val (.int p5), .val (.int (p5 ^^^ (-1 : Int32))), .val (.int (p5 ^^^ (-1 : Int32))), .val (.int p5), .val (.int (p5 ^^^ (-1 : Int32)))] [(.ref b37)])) (by rw [hml]; rfl) (hw _ (List.mem_of_getElem? (i := 40) rfl)) (hw _ (List.mem_of_getElem? (i := 41) rfl)) (hw _ (List.mem_of_getElem? (i := 43) rfl)) (hw _ (List.mem_of_getElem? (i := 42) rfl)) (hw _ (List.mem_of_getElem? (i := 4) rfl)) (hw _ (List.mem_of_getElem? (i := 44) rfl)) e47 (rm7 l Z a0 hw b37 n (fun x => if x = j.toNatClampNeg then (p5 ^^^ (-1 : Int32)) else (fun x => if x = i.toNatClampNeg then p5 else (fun _ => p1) x) x) h43 n0 Z44 H_43) (notFace_of_selects (args := #[]) (mvT hZ (hw _ (List.mem_of_getElem? (i := 43) rfl)))) (by decide) pd_103 rfl E_b37 (argsL := []) (rest := []) rfl rfl rfl (hb hby at_147) (W0 := 0) rfl (by decide) (by decide) (by decide) (by decide) (fun v48 T48 h48 L48 X48 e48 hQ48 => ?_)
    obtain ⟨rfl, N48q, hh48⟩ := hQ48
    obtain rfl := hh48.symm
    have N48 := Fr.app N47 N48q
    show W p e below _ (T48.setTop (mkF m 150 #[.val (.int p0), .val (.int p1), .val (.int p2), .val (.int p3), .val (.int p4), .val (.int p5), .val (.int n), .val (.int i), .val (.int j), .val (.int j), .val (.int (p5 ^^^ (-1 : Int32))), .val (.ref b37), .val (.int p5), .val (.int (p5 ^^^ (-1 : Int32))), .val (.int (p5 ^^^ (-1 : Int32))), .val (.int p5), .val (.int (p5 ^^^ (-1 : Int32)))] [(.int n)]))
    refine W.go (fun _ hr => XS.iload X48.here hx rfl (hb hby at_150) rfl hr) ?_
    show W p e below _ (T48.setTop (mkF m 152 #[.val (.int p0), .val (.int p1), .val (.int p2), .val (.int p3), .val (.int p4), .val (.int p5), .val (.int n), .val (.int i), .val (.int j), .val (.int j), .val (.int (p5 ^^^ (-1 : Int32))), .val (.ref b37), .val (.int p5), .val (.int (p5 ^^^ (-1 : Int32))), .val (.int (p5 ^^^ (-1 : Int32))), .val (.int p5), .val (.int (p5 ^^^ (-1 : Int32)))] [(.int n), (.int n)]))
    refine W.go (fun _ hr => XS.icmpNo X48.here hx rfl (hb hby at_152) rfl (teq (rfl : n = n)).2 hr) ?_
    show W p e below _ (T48.setTop (mkF m 155 #[.val (.int p0), .val (.int p1), .val (.int p2), .val (.int p3), .val (.int p4), .val (.int p5), .val (.int n), .val (.int i), .val (.int j), .val (.int j), .val (.int (p5 ^^^ (-1 : Int32))), .val (.ref b37), .val (.int p5), .val (.int (p5 ^^^ (-1 : Int32))), .val (.int (p5 ^^^ (-1 : Int32))), .val (.int p5), .val (.int (p5 ^^^ (-1 : Int32)))] []))
    refine W.go (fun _ hr => XS.iload X48.here hx rfl (hb hby at_155) rfl hr) ?_
    show W p e below _ (T48.setTop (mkF m 157 #[.val (.int p0), .val (.int p1), .val (.int p2), .val (.int p3), .val (.int p4), .val (.int p5), .val (.int n), .val (.int i), .val (.int j), .val (.int j), .val (.int (p5 ^^^ (-1 : Int32))), .val (.ref b37), .val (.int p5), .val (.int (p5 ^^^ (-1 : Int32))), .val (.int (p5 ^^^ (-1 : Int32))), .val (.int p5), .val (.int (p5 ^^^ (-1 : Int32)))] [(.int p5)]))
    refine W.go (fun _ hr => XS.iload X48.here hx rfl (hb hby at_157) rfl hr) ?_
    show W p e below _ (T48.setTop (mkF m 159 #[.val (.int p0), .val (.int p1), .val (.int p2), .val (.int p3), .val (.int p4), .val (.int p5), .val (.int n), .val (.int i), .val (.int j), .val (.int j), .val (.int (p5 ^^^ (-1 : Int32))), .val (.ref b37), .val (.int p5), .val (.int (p5 ^^^ (-1 : Int32))), .val (.int (p5 ^^^ (-1 : Int32))), .val (.int p5), .val (.int (p5 ^^^ (-1 : Int32)))] [(.int p5), (.int p5)]))
    refine W.go (fun _ hr => XS.icmpNo X48.here hx rfl (hb hby at_159) rfl (teq (rfl : p5 = p5)).2 hr) ?_
    show W p e below _ (T48.setTop (mkF m 162 #[.val (.int p0), .val (.int p1), .val (.int p2), .val (.int p3), .val (.int p4), .val (.int p5), .val (.int n), .val (.int i), .val (.int j), .val (.int j), .val (.int (p5 ^^^ (-1 : Int32))), .val (.ref b37), .val (.int p5), .val (.int (p5 ^^^ (-1 : Int32))), .val (.int (p5 ^^^ (-1 : Int32))), .val (.int p5), .val (.int (p5 ^^^ (-1 : Int32)))] []))
    refine W.go (fun _ hr => XS.iload X48.here hx rfl (hb hby at_162) rfl hr) ?_
    show W p e below _ (T48.setTop (mkF m 164 #[.val (.int p0), .val (.int p1), .val (.int p2), .val (.int p3), .val (.int p4), .val (.int p5), .val (.int n), .val (.int i), .val (.int j), .val (.int j), .val (.int (p5 ^^^ (-1 : Int32))), .val (.ref b37), .val (.int p5), .val (.int (p5 ^^^ (-1 : Int32))), .val (.int (p5 ^^^ (-1 : Int32))), .val (.int p5), .val (.int (p5 ^^^ (-1 : Int32)))] [(.int (p5 ^^^ (-1 : Int32)))]))
    refine W.go (fun _ hr => XS.iload X48.here hx rfl (hb hby at_164) rfl hr) ?_
    show W p e below _ (T48.setTop (mkF m 166 #[.val (.int p0), .val (.int p1), .val (.int p2), .val (.int p3), .val (.int p4), .val (.int p5), .val (.int n), .val (.int i), .val (.int j), .val (.int j), .val (.int (p5 ^^^ (-1 : Int32))), .val (.ref b37), .val (.int p5), .val (.int (p5 ^^^ (-1 : Int32))), .val (.int (p5 ^^^ (-1 : Int32))), .val (.int p5), .val (.int (p5 ^^^ (-1 : Int32)))] [(.int (p5 ^^^ (-1 : Int32))), (.int (p5 ^^^ (-1 : Int32)))]))
    refine W.go (fun _ hr => XS.icmpNo X48.here hx rfl (hb hby at_166) rfl (teq (rfl : (p5 ^^^ (-1 : Int32)) = (p5 ^^^ (-1 : Int32)))).2 hr) ?_
    show W p e below _ (T48.setTop (mkF m 169 #[.val (.int p0), .val (.int p1), .val (.int p2), .val (.int p3), .val (.int p4), .val (.int p5), .val (.int n), .val (.int i), .val (.int j), .val (.int j), .val (.int (p5 ^^^ (-1 : Int32))), .val (.ref b37), .val (.int p5), .val (.int (p5 ^^^ (-1 : Int32))), .val (.int (p5 ^^^ (-1 : Int32))), .val (.int p5), .val (.int (p5 ^^^ (-1 : Int32)))] []))
    refine W.go (fun _ hr => XS.iload X48.here hx rfl (hb hby at_169) rfl hr) ?_
    show W p e below _ (T48.setTop (mkF m 171 #[.val (.int p0), .val (.int p1), .val (.int p2), .val (.int p3), .val (.int p4), .val (.int p5), .val (.int n), .val (.int i), .val (.int j), .val (.int j), .val (.int (p5 ^^^ (-1 : Int32))), .val (.ref b37), .val (.int p5), .val (.int (p5 ^^^ (-1 : Int32))), .val (.int (p5 ^^^ (-1 : Int32))), .val (.int p5), .val (.int (p5 ^^^ (-1 : Int32)))] [(.int (p5 ^^^ (-1 : Int32)))]))
    refine W.go (fun _ hr => XS.iload X48.here hx rfl (hb hby at_171) rfl hr) ?_
    show W p e below _ (T48.setTop (mkF m 173 #[.val (.int p0), .val (.int p1), .val (.int p2), .val (.int p3), .val (.int p4), .val (.int p5), .val (.int n), .val (.int i), .val (.int j), .val (.int j), .val (.int (p5 ^^^ (-1 : Int32))), .val (.ref b37), .val (.int p5), .val (.int (p5 ^^^ (-1 : Int32))), .val (.int (p5 ^^^ (-1 : Int32))), .val (.int p5), .val (.int (p5 ^^^ (-1 : Int32)))] [(.int (p5 ^^^ (-1 : Int32))), (.int (p5 ^^^ (-1 : Int32)))]))
    refine W.go (fun _ hr => XS.icmpNo X48.here hx rfl (hb hby at_173) rfl (teq (rfl : (p5 ^^^ (-1 : Int32)) = (p5 ^^^ (-1 : Int32)))).2 hr) ?_
    show W p e below _ (T48.setTop (mkF m 176 #[.val (.int p0), .val (.int p1), .val (.int p2), .val (.int p3), .val (.int p4), .val (.int p5), .val (.int n), .val (.int i), .val (.int j), .val (.int j), .val (.int (p5 ^^^ (-1 : Int32))), .val (.ref b37), .val (.int p5), .val (.int (p5 ^^^ (-1 : Int32))), .val (.int (p5 ^^^ (-1 : Int32))), .val (.int p5), .val (.int (p5 ^^^ (-1 : Int32)))] []))
    refine W.go (fun _ hr => XS.iconst X48.here hx rfl (hb hby at_176) hr) ?_
    show W p e below _ (T48.setTop (mkF m 177 #[.val (.int p0), .val (.int p1), .val (.int p2), .val (.int p3), .val (.int p4), .val (.int p5), .val (.int n), .val (.int i), .val (.int j), .val (.int j), .val (.int (p5 ^^^ (-1 : Int32))), .val (.ref b37), .val (.int p5), .val (.int (p5 ^^^ (-1 : Int32))), .val (.int (p5 ^^^ (-1 : Int32))), .val (.int p5), .val (.int (p5 ^^^ (-1 : Int32)))] [(.int (1 : Int32))]))
    refine W.go (fun _ hr => XS.goto X48.here hx rfl (pc0 := 177) (pc' := 181) rfl (hb hby at_177) (by decide) (by decide) hr) ?_
    show W p e below _ (T48.setTop (mkF m 181 #[.val (.int p0), .val (.int p1), .val (.int p2), .val (.int p3), .val (.int p4), .val (.int p5), .val (.int n), .val (.int i), .val (.int j), .val (.int j), .val (.int (p5 ^^^ (-1 : Int32))), .val (.ref b37), .val (.int p5), .val (.int (p5 ^^^ (-1 : Int32))), .val (.int (p5 ^^^ (-1 : Int32))), .val (.int p5), .val (.int (p5 ^^^ (-1 : Int32)))] [(.int (1 : Int32))]))
    exact W.retB X48 hx hlk (t := .boolean) hret (by simp) (hb hby at_181) (by decide) (by decide) e48 ⟨rfl, N48⟩
  · have tij := own_nat hi.1 hj.1 neij
    have tji := own_nat hj.1 hi.1 (fun q => neij q.symm)
    have tik := own_nat hi.1 hk.1 neik
    have tki := own_nat hk.1 hi.1 (fun q => neik q.symm)
    have tjk := own_nat hj.1 hk.1 nejk
    have tkj := own_nat hk.1 hj.1 (fun q => nejk q.symm)
    obtain ⟨T49, h49, X49, e49, E49, E_b49, D49, U49, st49⟩ := newO X0 hx hZ hown (hw _ (List.mem_of_getElem? (i := 2) rfl)) (hw _ (List.mem_of_getElem? (i := 3) rfl)) (hw _ (List.mem_of_getElem? (i := 4) rfl)) e0 (g := (mkF m 45 #[.val (.int p0), .val (.int p1), .val (.int p2), .val (.int p3), .val (.int p4), .val (.int p5), .val (.int n), .val (.int i), .val (.int j), .val (.int k), .val (.int (p5 ^^^ (-1 : Int32))), .unset, .unset, .unset, .unset, .unset, .unset] [])) rfl (hb hby at_45) (by decide) (by decide)
    obtain ⟨b49, g49⟩ : ∃ z, z = h0.size := ⟨_, rfl⟩
    rw [← g49] at E_b49 D49 U49 st49
    have g_b49 : n0 ≤ b49 := Nat.le_trans Z0 (Nat.le_of_eq g49.symm)
    replace S_SHIFT := Sta.ext E49 S_SHIFT
    have Z50 : n0 ≤ h49.size := Nat.le_trans Z0 E49.1
    have F_size_b49 : Fld Z h49 b49 "com/example/parleyd/parleyd/core/IntPages" "size" "I" (.int (0 : Int32)) := D49 (Or.inr (hw _ (List.mem_of_getElem? (i := 12) rfl))) (ty := .int) (by decide)
    have F_pages_b49 : Fld Z h49 b49 "com/example/parleyd/parleyd/core/IntPages" "pages" "[[I" .null := D49 (Or.inr (hw _ (List.mem_of_getElem? (i := 19) rfl))) (ty := (.array (.array .int))) (by decide)
    refine W.go st49 ?_
    show W p e below _ (T49.setTop (mkF m 48 #[.val (.int p0), .val (.int p1), .val (.int p2), .val (.int p3), .val (.int p4), .val (.int p5), .val (.int n), .val (.int i), .val (.int j), .val (.int k), .val (.int (p5 ^^^ (-1 : Int32))), .unset, .unset, .unset, .unset, .unset, .unset] [(.ref b49)]))
    refine W.go (fun _ hr => XS.dup X49.here hx rfl (hb hby at_48) rfl rfl hr) ?_
    show W p e below _ (T49.setTop (mkF m 49 #[.val (.int p0), .val (.int p1), .val (.int p2), .val (.int p3), .val (.int p4), .val (.int p5), .val (.int n), .val (.int i), .val (.int j), .val (.int k), .val (.int (p5 ^^^ (-1 : Int32))), .unset, .unset, .unset, .unset, .unset, .unset] [(.ref b49), (.ref b49)]))
    refine W.go (fun _ hr => XS.iload X49.here hx rfl (hb hby at_49) rfl hr) ?_
    show W p e below _ (T49.setTop (mkF m 51 #[.val (.int p0), .val (.int p1), .val (.int p2), .val (.int p3), .val (.int p4), .val (.int p5), .val (.int n), .val (.int i), .val (.int j), .val (.int k), .val (.int (p5 ^^^ (-1 : Int32))), .unset, .unset, .unset, .unset, .unset, .unset] [(.int n), (.ref b49), (.ref b49)]))
    refine W.go (fun _ hr => XS.iloadN X49.here hx rfl (hb hby at_51) rfl hr) ?_
    show W p e below _ (T49.setTop (mkF m 52 #[.val (.int p0), .val (.int p1), .val (.int p2), .val (.int p3), .val (.int p4), .val (.int p5), .val (.int n), .val (.int i), .val (.int j), .val (.int k), .val (.int (p5 ^^^ (-1 : Int32))), .unset, .unset, .unset, .unset, .unset, .unset] [(.int p1), (.int n), (.ref b49), (.ref b49)]))
    refine W.callI X49 hx hZ hown (g := (mkF m 52 #[.val (.int p0), .val (.int p1), .val (.int p2), .val (.int p3), .val (.int p4), .val (.int p5), .val (.int n), .val (.int i), .val (.int j), .val (.int k), .val (.int (p5 ^^^ (-1 : Int32))), .unset, .unset, .unset, .unset, .unset, .unset] [(.int p1), (.int n), (.ref b49), (.ref b49)])) (by rw [hml]; rfl) (hw _ (List.mem_of_getElem? (i := 5) rfl)) (hw _ (List.mem_of_getElem? (i := 6) rfl)) (hw _ (List.mem_of_getElem? (i := 4) rfl)) (hw _ (List.mem_of_getElem? (i := 7) rfl)) e49 (rm1 l Z a0 hw b49 n p1 h49 n0 Z50 E_b49 F_size_b49 F_pages_b49 g_b49 S_SHIFT hn) rfl (by decide) pd_101 rfl (b := b49) (argsL := [(.int n), (.int p1)]) (rest := [(.ref b49)]) rfl rfl rfl (hb hby at_52) (W0 := 1) rfl (by decide) (by decide) (by decide) (by decide) (fun v51 T51 h51 L51 X51 e51 hQ51 => ?_)
    obtain ⟨rfl, N51q, E_51, S_51, Z_51, H_51⟩ := hQ51
    have N51 := Fr.app N0 N51q
    replace E_b49 := E_51
    replace S_SHIFT := S_51
    have Z52 : n0 ≤ h51.size := Nat.le_trans Z50 Z_51
    show W p e below _ (T51.setTop (mkF m 55 #[.val (.int p0), .val (.int p1), .val (.int p2), .val (.int p3), .val (.int p4), .val (.int p5), .val (.int n), .val (.int i), .val (.int j), .val (.int k), .val (.int (p5 ^^^ (-1 : Int32))), .unset, .unset, .unset, .unset, .unset, .unset] [(.ref b49)]))
    refine W.go (fun _ hr => XS.astore X51.here hx rfl (hb hby at_55) rfl rfl (l' := #[.val (.int p0), .val (.int p1), .val (.int p2), .val (.int p3), .val (.int p4), .val (.int p5), .val (.int n), .val (.int i), .val (.int j), .val (.int k), .val (.int (p5 ^^^ (-1 : Int32))), .val (.ref b49), .unset, .unset, .unset, .unset, .unset]) rfl hr) ?_
    show W p e below _ (T51.setTop (mkF m 57 #[.val (.int p0), .val (.int p1), .val (.int p2), .val (.int p3), .val (.int p4), .val (.int p5), .val (.int n), .val (.int i), .val (.int j), .val (.int k), .val (.int (p5 ^^^ (-1 : Int32))), .val (.ref b49), .unset, .unset, .unset, .unset, .unset] []))
    refine W.go (fun _ hr => XS.aload X51.here hx rfl (hb hby at_57) rfl rfl hr) ?_
    show W p e below _ (T51.setTop (mkF m 59 #[.val (.int p0), .val (.int p1), .val (.int p2), .val (.int p3), .val (.int p4), .val (.int p5), .val (.int n), .val (.int i), .val (.int j), .val (.int k), .val (.int (p5 ^^^ (-1 : Int32))), .val (.ref b49), .unset, .unset, .unset, .unset, .unset] [(.ref b49)]))
    refine W.go (fun _ hr => XS.iload X51.here hx rfl (hb hby at_59) rfl hr) ?_
    show W p e below _ (T51.setTop (mkF m 61 #[.val (.int p0), .val (.int p1), .val (.int p2), .val (.int p3), .val (.int p4), .val (.int p5), .val (.int n), .val (.int i), .val (.int j), .val (.int k), .val (.int (p5 ^^^ (-1 : Int32))), .val (.ref b49), .unset, .unset, .unset, .unset, .unset] [(.int i), (.ref b49)]))
    refine W.go (fun _ hr => XS.iload X51.here hx rfl (hb hby at_61) rfl hr) ?_
    show W p e below _ (T51.setTop (mkF m 63 #[.val (.int p0), .val (.int p1), .val (.int p2), .val (.int p3), .val (.int p4), .val (.int p5), .val (.int n), .val (.int i), .val (.int j), .val (.int k), .val (.int (p5 ^^^ (-1 : Int32))), .val (.ref b49), .unset, .unset, .unset, .unset, .unset] [(.int p5), (.int i), (.ref b49)]))
    refine W.callV X51 hx hZ hown (g := (mkF m 63 #[.val (.int p0), .val (.int p1), .val (.int p2), .val (.int p3), .val (.int p4), .val (.int p5), .val (.int n), .val (.int i), .val (.int j), .val (.int k), .val (.int (p5 ^^^ (-1 : Int32))), .val (.ref b49), .unset, .unset, .unset, .unset, .unset] [(.int p5), (.int i), (.ref b49)])) (by rw [hml]; rfl) (hw _ (List.mem_of_getElem? (i := 30) rfl)) (hw _ (List.mem_of_getElem? (i := 31) rfl)) (hw _ (List.mem_of_getElem? (i := 33) rfl)) (hw _ (List.mem_of_getElem? (i := 32) rfl)) (hw _ (List.mem_of_getElem? (i := 4) rfl)) (hw _ (List.mem_of_getElem? (i := 34) rfl)) e51 (rm5 l Z a0 hw b49 i p5 n (fun _ => p1) h51 n0 Z52 H_51 hi E_b49 S_SHIFT) (notFace_of_selects (args := #[]) (mvT hZ (hw _ (List.mem_of_getElem? (i := 33) rfl)))) (by decide) pd_101 rfl E_b49 (argsL := [(.int i), (.int p5)]) (rest := []) rfl rfl rfl (hb hby at_63) (W0 := 0) rfl (by decide) (by decide) (by decide) (by decide) (fun v53 T53 h53 L53 X53 e53 hQ53 => ?_)
    obtain ⟨rfl, N53q, E_53, S_53, Z_53, H_53⟩ := hQ53
    have N53 := Fr.app N51 N53q
    replace E_b49 := E_53
    replace S_SHIFT := S_53
    have Z54 : n0 ≤ h53.size := Nat.le_trans Z52 Z_53
    show W p e below _ (T53.setTop (mkF m 66 #[.val (.int p0), .val (.int p1), .val (.int p2), .val (.int p3), .val (.int p4), .val (.int p5), .val (.int n), .val (.int i), .val (.int j), .val (.int k), .val (.int (p5 ^^^ (-1 : Int32))), .val (.ref b49), .unset, .unset, .unset, .unset, .unset] []))
    refine W.go (fun _ hr => XS.aload X53.here hx rfl (hb hby at_66) rfl rfl hr) ?_
    show W p e below _ (T53.setTop (mkF m 68 #[.val (.int p0), .val (.int p1), .val (.int p2), .val (.int p3), .val (.int p4), .val (.int p5), .val (.int n), .val (.int i), .val (.int j), .val (.int k), .val (.int (p5 ^^^ (-1 : Int32))), .val (.ref b49), .unset, .unset, .unset, .unset, .unset] [(.ref b49)]))
    refine W.go (fun _ hr => XS.iload X53.here hx rfl (hb hby at_68) rfl hr) ?_
    show W p e below _ (T53.setTop (mkF m 70 #[.val (.int p0), .val (.int p1), .val (.int p2), .val (.int p3), .val (.int p4), .val (.int p5), .val (.int n), .val (.int i), .val (.int j), .val (.int k), .val (.int (p5 ^^^ (-1 : Int32))), .val (.ref b49), .unset, .unset, .unset, .unset, .unset] [(.int j), (.ref b49)]))
    refine W.go (fun _ hr => XS.iload X53.here hx rfl (hb hby at_70) rfl hr) ?_
    show W p e below _ (T53.setTop (mkF m 72 #[.val (.int p0), .val (.int p1), .val (.int p2), .val (.int p3), .val (.int p4), .val (.int p5), .val (.int n), .val (.int i), .val (.int j), .val (.int k), .val (.int (p5 ^^^ (-1 : Int32))), .val (.ref b49), .unset, .unset, .unset, .unset, .unset] [(.int (p5 ^^^ (-1 : Int32))), (.int j), (.ref b49)]))
    refine W.callV X53 hx hZ hown (g := (mkF m 72 #[.val (.int p0), .val (.int p1), .val (.int p2), .val (.int p3), .val (.int p4), .val (.int p5), .val (.int n), .val (.int i), .val (.int j), .val (.int k), .val (.int (p5 ^^^ (-1 : Int32))), .val (.ref b49), .unset, .unset, .unset, .unset, .unset] [(.int (p5 ^^^ (-1 : Int32))), (.int j), (.ref b49)])) (by rw [hml]; rfl) (hw _ (List.mem_of_getElem? (i := 30) rfl)) (hw _ (List.mem_of_getElem? (i := 31) rfl)) (hw _ (List.mem_of_getElem? (i := 33) rfl)) (hw _ (List.mem_of_getElem? (i := 32) rfl)) (hw _ (List.mem_of_getElem? (i := 4) rfl)) (hw _ (List.mem_of_getElem? (i := 34) rfl)) e53 (rm5 l Z a0 hw b49 j (p5 ^^^ (-1 : Int32)) n (fun x => if x = i.toNatClampNeg then p5 else (fun _ => p1) x) h53 n0 Z54 H_53 hj E_b49 S_SHIFT) (notFace_of_selects (args := #[]) (mvT hZ (hw _ (List.mem_of_getElem? (i := 33) rfl)))) (by decide) pd_101 rfl E_b49 (argsL := [(.int j), (.int (p5 ^^^ (-1 : Int32)))]) (rest := []) rfl rfl rfl (hb hby at_72) (W0 := 0) rfl (by decide) (by decide) (by decide) (by decide) (fun v55 T55 h55 L55 X55 e55 hQ55 => ?_)
    obtain ⟨rfl, N55q, E_55, S_55, Z_55, H_55⟩ := hQ55
    have N55 := Fr.app N53 N55q
    replace E_b49 := E_55
    replace S_SHIFT := S_55
    have Z56 : n0 ≤ h55.size := Nat.le_trans Z54 Z_55
    show W p e below _ (T55.setTop (mkF m 75 #[.val (.int p0), .val (.int p1), .val (.int p2), .val (.int p3), .val (.int p4), .val (.int p5), .val (.int n), .val (.int i), .val (.int j), .val (.int k), .val (.int (p5 ^^^ (-1 : Int32))), .val (.ref b49), .unset, .unset, .unset, .unset, .unset] []))
    refine W.go (fun _ hr => XS.aload X55.here hx rfl (hb hby at_75) rfl rfl hr) ?_
    show W p e below _ (T55.setTop (mkF m 77 #[.val (.int p0), .val (.int p1), .val (.int p2), .val (.int p3), .val (.int p4), .val (.int p5), .val (.int n), .val (.int i), .val (.int j), .val (.int k), .val (.int (p5 ^^^ (-1 : Int32))), .val (.ref b49), .unset, .unset, .unset, .unset, .unset] [(.ref b49)]))
    refine W.go (fun _ hr => XS.iload X55.here hx rfl (hb hby at_77) rfl hr) ?_
    show W p e below _ (T55.setTop (mkF m 79 #[.val (.int p0), .val (.int p1), .val (.int p2), .val (.int p3), .val (.int p4), .val (.int p5), .val (.int n), .val (.int i), .val (.int j), .val (.int k), .val (.int (p5 ^^^ (-1 : Int32))), .val (.ref b49), .unset, .unset, .unset, .unset, .unset] [(.int i), (.ref b49)]))
    refine W.callV X55 hx hZ hown (g := (mkF m 79 #[.val (.int p0), .val (.int p1), .val (.int p2), .val (.int p3), .val (.int p4), .val (.int p5), .val (.int n), .val (.int i), .val (.int j), .val (.int k), .val (.int (p5 ^^^ (-1 : Int32))), .val (.ref b49), .unset, .unset, .unset, .unset, .unset] [(.int i), (.ref b49)])) (by rw [hml]; rfl) (hw _ (List.mem_of_getElem? (i := 35) rfl)) (hw _ (List.mem_of_getElem? (i := 36) rfl)) (hw _ (List.mem_of_getElem? (i := 38) rfl)) (hw _ (List.mem_of_getElem? (i := 37) rfl)) (hw _ (List.mem_of_getElem? (i := 4) rfl)) (hw _ (List.mem_of_getElem? (i := 39) rfl)) e55 (rm6 l Z a0 hw b49 i n (fun x => if x = j.toNatClampNeg then (p5 ^^^ (-1 : Int32)) else (fun x => if x = i.toNatClampNeg then p5 else (fun _ => p1) x) x) p5 h55 n0 Z56 H_55 hi S_SHIFT (by simp [tij, tji, tik, tki, tjk, tkj])) (notFace_of_selects (args := #[]) (mvT hZ (hw _ (List.mem_of_getElem? (i := 38) rfl)))) (by decide) pd_102 rfl E_b49 (argsL := [(.int i)]) (rest := []) rfl rfl rfl (hb hby at_79) (W0 := 0) rfl (by decide) (by decide) (by decide) (by decide) (fun v57 T57 h57 L57 X57 e57 hQ57 => ?_)
    obtain ⟨rfl, N57q, hh57⟩ := hQ57
    obtain rfl := hh57.symm
    have N57 := Fr.app N55 N57q
    show W p e below _ (T57.setTop (mkF m 82 #[.val (.int p0), .val (.int p1), .val (.int p2), .val (.int p3), .val (.int p4), .val (.int p5), .val (.int n), .val (.int i), .val (.int j), .val (.int k), .val (.int (p5 ^^^ (-1 : Int32))), .val (.ref b49), .unset, .unset, .unset, .unset, .unset] [(.int p5)]))
    refine W.go (fun _ hr => XS.istore X57.here hx rfl (hb hby at_82) rfl (l' := #[.val (.int p0), .val (.int p1), .val (.int p2), .val (.int p3), .val (.int p4), .val (.int p5), .val (.int n), .val (.int i), .val (.int j), .val (.int k), .val (.int (p5 ^^^ (-1 : Int32))), .val (.ref b49), .val (.int p5), .unset, .unset, .unset, .unset]) rfl hr) ?_
    show W p e below _ (T57.setTop (mkF m 84 #[.val (.int p0), .val (.int p1), .val (.int p2), .val (.int p3), .val (.int p4), .val (.int p5), .val (.int n), .val (.int i), .val (.int j), .val (.int k), .val (.int (p5 ^^^ (-1 : Int32))), .val (.ref b49), .val (.int p5), .unset, .unset, .unset, .unset] []))
    refine W.go (fun _ hr => XS.aload X57.here hx rfl (hb hby at_84) rfl rfl hr) ?_
    show W p e below _ (T57.setTop (mkF m 86 #[.val (.int p0), .val (.int p1), .val (.int p2), .val (.int p3), .val (.int p4), .val (.int p5), .val (.int n), .val (.int i), .val (.int j), .val (.int k), .val (.int (p5 ^^^ (-1 : Int32))), .val (.ref b49), .val (.int p5), .unset, .unset, .unset, .unset] [(.ref b49)]))
    refine W.go (fun _ hr => XS.iload X57.here hx rfl (hb hby at_86) rfl hr) ?_
    show W p e below _ (T57.setTop (mkF m 88 #[.val (.int p0), .val (.int p1), .val (.int p2), .val (.int p3), .val (.int p4), .val (.int p5), .val (.int n), .val (.int i), .val (.int j), .val (.int k), .val (.int (p5 ^^^ (-1 : Int32))), .val (.ref b49), .val (.int p5), .unset, .unset, .unset, .unset] [(.int j), (.ref b49)]))
    refine W.callV X57 hx hZ hown (g := (mkF m 88 #[.val (.int p0), .val (.int p1), .val (.int p2), .val (.int p3), .val (.int p4), .val (.int p5), .val (.int n), .val (.int i), .val (.int j), .val (.int k), .val (.int (p5 ^^^ (-1 : Int32))), .val (.ref b49), .val (.int p5), .unset, .unset, .unset, .unset] [(.int j), (.ref b49)])) (by rw [hml]; rfl) (hw _ (List.mem_of_getElem? (i := 35) rfl)) (hw _ (List.mem_of_getElem? (i := 36) rfl)) (hw _ (List.mem_of_getElem? (i := 38) rfl)) (hw _ (List.mem_of_getElem? (i := 37) rfl)) (hw _ (List.mem_of_getElem? (i := 4) rfl)) (hw _ (List.mem_of_getElem? (i := 39) rfl)) e57 (rm6 l Z a0 hw b49 j n (fun x => if x = j.toNatClampNeg then (p5 ^^^ (-1 : Int32)) else (fun x => if x = i.toNatClampNeg then p5 else (fun _ => p1) x) x) (p5 ^^^ (-1 : Int32)) h55 n0 Z56 H_55 hj S_SHIFT (by simp [tij, tji, tik, tki, tjk, tkj])) (notFace_of_selects (args := #[]) (mvT hZ (hw _ (List.mem_of_getElem? (i := 38) rfl)))) (by decide) pd_102 rfl E_b49 (argsL := [(.int j)]) (rest := []) rfl rfl rfl (hb hby at_88) (W0 := 0) rfl (by decide) (by decide) (by decide) (by decide) (fun v58 T58 h58 L58 X58 e58 hQ58 => ?_)
    obtain ⟨rfl, N58q, hh58⟩ := hQ58
    obtain rfl := hh58.symm
    have N58 := Fr.app N57 N58q
    show W p e below _ (T58.setTop (mkF m 91 #[.val (.int p0), .val (.int p1), .val (.int p2), .val (.int p3), .val (.int p4), .val (.int p5), .val (.int n), .val (.int i), .val (.int j), .val (.int k), .val (.int (p5 ^^^ (-1 : Int32))), .val (.ref b49), .val (.int p5), .unset, .unset, .unset, .unset] [(.int (p5 ^^^ (-1 : Int32)))]))
    refine W.go (fun _ hr => XS.istore X58.here hx rfl (hb hby at_91) rfl (l' := #[.val (.int p0), .val (.int p1), .val (.int p2), .val (.int p3), .val (.int p4), .val (.int p5), .val (.int n), .val (.int i), .val (.int j), .val (.int k), .val (.int (p5 ^^^ (-1 : Int32))), .val (.ref b49), .val (.int p5), .val (.int (p5 ^^^ (-1 : Int32))), .unset, .unset, .unset]) rfl hr) ?_
    show W p e below _ (T58.setTop (mkF m 93 #[.val (.int p0), .val (.int p1), .val (.int p2), .val (.int p3), .val (.int p4), .val (.int p5), .val (.int n), .val (.int i), .val (.int j), .val (.int k), .val (.int (p5 ^^^ (-1 : Int32))), .val (.ref b49), .val (.int p5), .val (.int (p5 ^^^ (-1 : Int32))), .unset, .unset, .unset] []))
    refine W.go (fun _ hr => XS.aload X58.here hx rfl (hb hby at_93) rfl rfl hr) ?_
    show W p e below _ (T58.setTop (mkF m 95 #[.val (.int p0), .val (.int p1), .val (.int p2), .val (.int p3), .val (.int p4), .val (.int p5), .val (.int n), .val (.int i), .val (.int j), .val (.int k), .val (.int (p5 ^^^ (-1 : Int32))), .val (.ref b49), .val (.int p5), .val (.int (p5 ^^^ (-1 : Int32))), .unset, .unset, .unset] [(.ref b49)]))
    refine W.go (fun _ hr => XS.iload X58.here hx rfl (hb hby at_95) rfl hr) ?_
    show W p e below _ (T58.setTop (mkF m 97 #[.val (.int p0), .val (.int p1), .val (.int p2), .val (.int p3), .val (.int p4), .val (.int p5), .val (.int n), .val (.int i), .val (.int j), .val (.int k), .val (.int (p5 ^^^ (-1 : Int32))), .val (.ref b49), .val (.int p5), .val (.int (p5 ^^^ (-1 : Int32))), .unset, .unset, .unset] [(.int k), (.ref b49)]))
    refine W.callV X58 hx hZ hown (g := (mkF m 97 #[.val (.int p0), .val (.int p1), .val (.int p2), .val (.int p3), .val (.int p4), .val (.int p5), .val (.int n), .val (.int i), .val (.int j), .val (.int k), .val (.int (p5 ^^^ (-1 : Int32))), .val (.ref b49), .val (.int p5), .val (.int (p5 ^^^ (-1 : Int32))), .unset, .unset, .unset] [(.int k), (.ref b49)])) (by rw [hml]; rfl) (hw _ (List.mem_of_getElem? (i := 35) rfl)) (hw _ (List.mem_of_getElem? (i := 36) rfl)) (hw _ (List.mem_of_getElem? (i := 38) rfl)) (hw _ (List.mem_of_getElem? (i := 37) rfl)) (hw _ (List.mem_of_getElem? (i := 4) rfl)) (hw _ (List.mem_of_getElem? (i := 39) rfl)) e58 (rm6 l Z a0 hw b49 k n (fun x => if x = j.toNatClampNeg then (p5 ^^^ (-1 : Int32)) else (fun x => if x = i.toNatClampNeg then p5 else (fun _ => p1) x) x) p1 h55 n0 Z56 H_55 hk S_SHIFT (by simp [tij, tji, tik, tki, tjk, tkj])) (notFace_of_selects (args := #[]) (mvT hZ (hw _ (List.mem_of_getElem? (i := 38) rfl)))) (by decide) pd_102 rfl E_b49 (argsL := [(.int k)]) (rest := []) rfl rfl rfl (hb hby at_97) (W0 := 0) rfl (by decide) (by decide) (by decide) (by decide) (fun v59 T59 h59 L59 X59 e59 hQ59 => ?_)
    obtain ⟨rfl, N59q, hh59⟩ := hQ59
    obtain rfl := hh59.symm
    have N59 := Fr.app N58 N59q
    show W p e below _ (T59.setTop (mkF m 100 #[.val (.int p0), .val (.int p1), .val (.int p2), .val (.int p3), .val (.int p4), .val (.int p5), .val (.int n), .val (.int i), .val (.int j), .val (.int k), .val (.int (p5 ^^^ (-1 : Int32))), .val (.ref b49), .val (.int p5), .val (.int (p5 ^^^ (-1 : Int32))), .unset, .unset, .unset] [(.int p1)]))
    refine W.go (fun _ hr => XS.istore X59.here hx rfl (hb hby at_100) rfl (l' := #[.val (.int p0), .val (.int p1), .val (.int p2), .val (.int p3), .val (.int p4), .val (.int p5), .val (.int n), .val (.int i), .val (.int j), .val (.int k), .val (.int (p5 ^^^ (-1 : Int32))), .val (.ref b49), .val (.int p5), .val (.int (p5 ^^^ (-1 : Int32))), .val (.int p1), .unset, .unset]) rfl hr) ?_
    show W p e below _ (T59.setTop (mkF m 102 #[.val (.int p0), .val (.int p1), .val (.int p2), .val (.int p3), .val (.int p4), .val (.int p5), .val (.int n), .val (.int i), .val (.int j), .val (.int k), .val (.int (p5 ^^^ (-1 : Int32))), .val (.ref b49), .val (.int p5), .val (.int (p5 ^^^ (-1 : Int32))), .val (.int p1), .unset, .unset] []))
    refine W.go (fun _ hr => XS.iload X59.here hx rfl (hb hby at_102) rfl hr) ?_
    show W p e below _ (T59.setTop (mkF m 104 #[.val (.int p0), .val (.int p1), .val (.int p2), .val (.int p3), .val (.int p4), .val (.int p5), .val (.int n), .val (.int i), .val (.int j), .val (.int k), .val (.int (p5 ^^^ (-1 : Int32))), .val (.ref b49), .val (.int p5), .val (.int (p5 ^^^ (-1 : Int32))), .val (.int p1), .unset, .unset] [(.int i)]))
    refine W.go (fun _ hr => XS.iload X59.here hx rfl (hb hby at_104) rfl hr) ?_
    show W p e below _ (T59.setTop (mkF m 106 #[.val (.int p0), .val (.int p1), .val (.int p2), .val (.int p3), .val (.int p4), .val (.int p5), .val (.int n), .val (.int i), .val (.int j), .val (.int k), .val (.int (p5 ^^^ (-1 : Int32))), .val (.ref b49), .val (.int p5), .val (.int (p5 ^^^ (-1 : Int32))), .val (.int p1), .unset, .unset] [(.int j), (.int i)]))
    refine W.go (fun _ hr => XS.icmpYes X59.here hx rfl (pc0 := 106) (pc' := 114) rfl (hb hby at_106) rfl (feq neij).2 (by decide) (by decide) hr) ?_
    show W p e below _ (T59.setTop (mkF m 114 #[.val (.int p0), .val (.int p1), .val (.int p2), .val (.int p3), .val (.int p4), .val (.int p5), .val (.int n), .val (.int i), .val (.int j), .val (.int k), .val (.int (p5 ^^^ (-1 : Int32))), .val (.ref b49), .val (.int p5), .val (.int (p5 ^^^ (-1 : Int32))), .val (.int p1), .unset, .unset] []))
    refine W.go (fun _ hr => XS.iload X59.here hx rfl (hb hby at_114) rfl hr) ?_
    show W p e below _ (T59.setTop (mkF m 116 #[.val (.int p0), .val (.int p1), .val (.int p2), .val (.int p3), .val (.int p4), .val (.int p5), .val (.int n), .val (.int i), .val (.int j), .val (.int k), .val (.int (p5 ^^^ (-1 : Int32))), .val (.ref b49), .val (.int p5), .val (.int (p5 ^^^ (-1 : Int32))), .val (.int p1), .unset, .unset] [(.int p5)]))
    refine W.go (fun _ hr => XS.istore X59.here hx rfl (hb hby at_116) rfl (l' := #[.val (.int p0), .val (.int p1), .val (.int p2), .val (.int p3), .val (.int p4), .val (.int p5), .val (.int n), .val (.int i), .val (.int j), .val (.int k), .val (.int (p5 ^^^ (-1 : Int32))), .val (.ref b49), .val (.int p5), .val (.int (p5 ^^^ (-1 : Int32))), .val (.int p1), .val (.int p5), .unset]) rfl hr) ?_
    show W p e below _ (T59.setTop (mkF m 118 #[.val (.int p0), .val (.int p1), .val (.int p2), .val (.int p3), .val (.int p4), .val (.int p5), .val (.int n), .val (.int i), .val (.int j), .val (.int k), .val (.int (p5 ^^^ (-1 : Int32))), .val (.ref b49), .val (.int p5), .val (.int (p5 ^^^ (-1 : Int32))), .val (.int p1), .val (.int p5), .unset] []))
    refine W.go (fun _ hr => XS.iload X59.here hx rfl (hb hby at_118) rfl hr) ?_
    show W p e below _ (T59.setTop (mkF m 120 #[.val (.int p0), .val (.int p1), .val (.int p2), .val (.int p3), .val (.int p4), .val (.int p5), .val (.int n), .val (.int i), .val (.int j), .val (.int k), .val (.int (p5 ^^^ (-1 : Int32))), .val (.ref b49), .val (.int p5), .val (.int (p5 ^^^ (-1 : Int32))), .val (.int p1), .val (.int p5), .unset] [(.int k)]))
    refine W.go (fun _ hr => XS.iload X59.here hx rfl (hb hby at_120) rfl hr) ?_
    show W p e below _ (T59.setTop (mkF m 122 #[.val (.int p0), .val (.int p1), .val (.int p2), .val (.int p3), .val (.int p4), .val (.int p5), .val (.int n), .val (.int i), .val (.int j), .val (.int k), .val (.int (p5 ^^^ (-1 : Int32))), .val (.ref b49), .val (.int p5), .val (.int (p5 ^^^ (-1 : Int32))), .val (.int p1), .val (.int p5), .unset] [(.int j), (.int k)]))
    refine W.go (fun _ hr => XS.icmpYes X59.here hx rfl (pc0 := 122) (pc' := 130) rfl (hb hby at_122) rfl (feq (fun q => nejk q.symm)).2 (by decide) (by decide) hr) ?_
    show W p e below _ (T59.setTop (mkF m 130 #[.val (.int p0), .val (.int p1), .val (.int p2), .val (.int p3), .val (.int p4), .val (.int p5), .val (.int n), .val (.int i), .val (.int j), .val (.int k), .val (.int (p5 ^^^ (-1 : Int32))), .val (.ref b49), .val (.int p5), .val (.int (p5 ^^^ (-1 : Int32))), .val (.int p1), .val (.int p5), .unset] []))
    refine W.go (fun _ hr => XS.iload X59.here hx rfl (hb hby at_130) rfl hr) ?_
    show W p e below _ (T59.setTop (mkF m 132 #[.val (.int p0), .val (.int p1), .val (.int p2), .val (.int p3), .val (.int p4), .val (.int p5), .val (.int n), .val (.int i), .val (.int j), .val (.int k), .val (.int (p5 ^^^ (-1 : Int32))), .val (.ref b49), .val (.int p5), .val (.int (p5 ^^^ (-1 : Int32))), .val (.int p1), .val (.int p5), .unset] [(.int k)]))
    refine W.go (fun _ hr => XS.iload X59.here hx rfl (hb hby at_132) rfl hr) ?_
    show W p e below _ (T59.setTop (mkF m 134 #[.val (.int p0), .val (.int p1), .val (.int p2), .val (.int p3), .val (.int p4), .val (.int p5), .val (.int n), .val (.int i), .val (.int j), .val (.int k), .val (.int (p5 ^^^ (-1 : Int32))), .val (.ref b49), .val (.int p5), .val (.int (p5 ^^^ (-1 : Int32))), .val (.int p1), .val (.int p5), .unset] [(.int i), (.int k)]))
    refine W.go (fun _ hr => XS.icmpYes X59.here hx rfl (pc0 := 134) (pc' := 142) rfl (hb hby at_134) rfl (feq (fun q => neik q.symm)).2 (by decide) (by decide) hr) ?_
    show W p e below _ (T59.setTop (mkF m 142 #[.val (.int p0), .val (.int p1), .val (.int p2), .val (.int p3), .val (.int p4), .val (.int p5), .val (.int n), .val (.int i), .val (.int j), .val (.int k), .val (.int (p5 ^^^ (-1 : Int32))), .val (.ref b49), .val (.int p5), .val (.int (p5 ^^^ (-1 : Int32))), .val (.int p1), .val (.int p5), .unset] []))
    refine W.go (fun _ hr => XS.iloadN X59.here hx rfl (hb hby at_142) rfl hr) ?_
    show W p e below _ (T59.setTop (mkF m 143 #[.val (.int p0), .val (.int p1), .val (.int p2), .val (.int p3), .val (.int p4), .val (.int p5), .val (.int n), .val (.int i), .val (.int j), .val (.int k), .val (.int (p5 ^^^ (-1 : Int32))), .val (.ref b49), .val (.int p5), .val (.int (p5 ^^^ (-1 : Int32))), .val (.int p1), .val (.int p5), .unset] [(.int p1)]))
    refine W.go (fun _ hr => XS.istore X59.here hx rfl (hb hby at_143) rfl (l' := #[.val (.int p0), .val (.int p1), .val (.int p2), .val (.int p3), .val (.int p4), .val (.int p5), .val (.int n), .val (.int i), .val (.int j), .val (.int k), .val (.int (p5 ^^^ (-1 : Int32))), .val (.ref b49), .val (.int p5), .val (.int (p5 ^^^ (-1 : Int32))), .val (.int p1), .val (.int p5), .val (.int p1)]) rfl hr) ?_
    show W p e below _ (T59.setTop (mkF m 145 #[.val (.int p0), .val (.int p1), .val (.int p2), .val (.int p3), .val (.int p4), .val (.int p5), .val (.int n), .val (.int i), .val (.int j), .val (.int k), .val (.int (p5 ^^^ (-1 : Int32))), .val (.ref b49), .val (.int p5), .val (.int (p5 ^^^ (-1 : Int32))), .val (.int p1), .val (.int p5), .val (.int p1)] []))
    refine W.go (fun _ hr => XS.aload X59.here hx rfl (hb hby at_145) rfl rfl hr) ?_
    show W p e below _ (T59.setTop (mkF m 147 #[.val (.int p0), .val (.int p1), .val (.int p2), .val (.int p3), .val (.int p4), .val (.int p5), .val (.int n), .val (.int i), .val (.int j), .val (.int k), .val (.int (p5 ^^^ (-1 : Int32))), .val (.ref b49), .val (.int p5), .val (.int (p5 ^^^ (-1 : Int32))), .val (.int p1), .val (.int p5), .val (.int p1)] [(.ref b49)]))
    refine W.callV X59 hx hZ hown (g := (mkF m 147 #[.val (.int p0), .val (.int p1), .val (.int p2), .val (.int p3), .val (.int p4), .val (.int p5), .val (.int n), .val (.int i), .val (.int j), .val (.int k), .val (.int (p5 ^^^ (-1 : Int32))), .val (.ref b49), .val (.int p5), .val (.int (p5 ^^^ (-1 : Int32))), .val (.int p1), .val (.int p5), .val (.int p1)] [(.ref b49)])) (by rw [hml]; rfl) (hw _ (List.mem_of_getElem? (i := 40) rfl)) (hw _ (List.mem_of_getElem? (i := 41) rfl)) (hw _ (List.mem_of_getElem? (i := 43) rfl)) (hw _ (List.mem_of_getElem? (i := 42) rfl)) (hw _ (List.mem_of_getElem? (i := 4) rfl)) (hw _ (List.mem_of_getElem? (i := 44) rfl)) e59 (rm7 l Z a0 hw b49 n (fun x => if x = j.toNatClampNeg then (p5 ^^^ (-1 : Int32)) else (fun x => if x = i.toNatClampNeg then p5 else (fun _ => p1) x) x) h55 n0 Z56 H_55) (notFace_of_selects (args := #[]) (mvT hZ (hw _ (List.mem_of_getElem? (i := 43) rfl)))) (by decide) pd_103 rfl E_b49 (argsL := []) (rest := []) rfl rfl rfl (hb hby at_147) (W0 := 0) rfl (by decide) (by decide) (by decide) (by decide) (fun v60 T60 h60 L60 X60 e60 hQ60 => ?_)
    obtain ⟨rfl, N60q, hh60⟩ := hQ60
    obtain rfl := hh60.symm
    have N60 := Fr.app N59 N60q
    show W p e below _ (T60.setTop (mkF m 150 #[.val (.int p0), .val (.int p1), .val (.int p2), .val (.int p3), .val (.int p4), .val (.int p5), .val (.int n), .val (.int i), .val (.int j), .val (.int k), .val (.int (p5 ^^^ (-1 : Int32))), .val (.ref b49), .val (.int p5), .val (.int (p5 ^^^ (-1 : Int32))), .val (.int p1), .val (.int p5), .val (.int p1)] [(.int n)]))
    refine W.go (fun _ hr => XS.iload X60.here hx rfl (hb hby at_150) rfl hr) ?_
    show W p e below _ (T60.setTop (mkF m 152 #[.val (.int p0), .val (.int p1), .val (.int p2), .val (.int p3), .val (.int p4), .val (.int p5), .val (.int n), .val (.int i), .val (.int j), .val (.int k), .val (.int (p5 ^^^ (-1 : Int32))), .val (.ref b49), .val (.int p5), .val (.int (p5 ^^^ (-1 : Int32))), .val (.int p1), .val (.int p5), .val (.int p1)] [(.int n), (.int n)]))
    refine W.go (fun _ hr => XS.icmpNo X60.here hx rfl (hb hby at_152) rfl (teq (rfl : n = n)).2 hr) ?_
    show W p e below _ (T60.setTop (mkF m 155 #[.val (.int p0), .val (.int p1), .val (.int p2), .val (.int p3), .val (.int p4), .val (.int p5), .val (.int n), .val (.int i), .val (.int j), .val (.int k), .val (.int (p5 ^^^ (-1 : Int32))), .val (.ref b49), .val (.int p5), .val (.int (p5 ^^^ (-1 : Int32))), .val (.int p1), .val (.int p5), .val (.int p1)] []))
    refine W.go (fun _ hr => XS.iload X60.here hx rfl (hb hby at_155) rfl hr) ?_
    show W p e below _ (T60.setTop (mkF m 157 #[.val (.int p0), .val (.int p1), .val (.int p2), .val (.int p3), .val (.int p4), .val (.int p5), .val (.int n), .val (.int i), .val (.int j), .val (.int k), .val (.int (p5 ^^^ (-1 : Int32))), .val (.ref b49), .val (.int p5), .val (.int (p5 ^^^ (-1 : Int32))), .val (.int p1), .val (.int p5), .val (.int p1)] [(.int p5)]))
    refine W.go (fun _ hr => XS.iload X60.here hx rfl (hb hby at_157) rfl hr) ?_
    show W p e below _ (T60.setTop (mkF m 159 #[.val (.int p0), .val (.int p1), .val (.int p2), .val (.int p3), .val (.int p4), .val (.int p5), .val (.int n), .val (.int i), .val (.int j), .val (.int k), .val (.int (p5 ^^^ (-1 : Int32))), .val (.ref b49), .val (.int p5), .val (.int (p5 ^^^ (-1 : Int32))), .val (.int p1), .val (.int p5), .val (.int p1)] [(.int p5), (.int p5)]))
    refine W.go (fun _ hr => XS.icmpNo X60.here hx rfl (hb hby at_159) rfl (teq (rfl : p5 = p5)).2 hr) ?_
    show W p e below _ (T60.setTop (mkF m 162 #[.val (.int p0), .val (.int p1), .val (.int p2), .val (.int p3), .val (.int p4), .val (.int p5), .val (.int n), .val (.int i), .val (.int j), .val (.int k), .val (.int (p5 ^^^ (-1 : Int32))), .val (.ref b49), .val (.int p5), .val (.int (p5 ^^^ (-1 : Int32))), .val (.int p1), .val (.int p5), .val (.int p1)] []))
    refine W.go (fun _ hr => XS.iload X60.here hx rfl (hb hby at_162) rfl hr) ?_
    show W p e below _ (T60.setTop (mkF m 164 #[.val (.int p0), .val (.int p1), .val (.int p2), .val (.int p3), .val (.int p4), .val (.int p5), .val (.int n), .val (.int i), .val (.int j), .val (.int k), .val (.int (p5 ^^^ (-1 : Int32))), .val (.ref b49), .val (.int p5), .val (.int (p5 ^^^ (-1 : Int32))), .val (.int p1), .val (.int p5), .val (.int p1)] [(.int (p5 ^^^ (-1 : Int32)))]))
    refine W.go (fun _ hr => XS.iload X60.here hx rfl (hb hby at_164) rfl hr) ?_
    show W p e below _ (T60.setTop (mkF m 166 #[.val (.int p0), .val (.int p1), .val (.int p2), .val (.int p3), .val (.int p4), .val (.int p5), .val (.int n), .val (.int i), .val (.int j), .val (.int k), .val (.int (p5 ^^^ (-1 : Int32))), .val (.ref b49), .val (.int p5), .val (.int (p5 ^^^ (-1 : Int32))), .val (.int p1), .val (.int p5), .val (.int p1)] [(.int (p5 ^^^ (-1 : Int32))), (.int (p5 ^^^ (-1 : Int32)))]))
    refine W.go (fun _ hr => XS.icmpNo X60.here hx rfl (hb hby at_166) rfl (teq (rfl : (p5 ^^^ (-1 : Int32)) = (p5 ^^^ (-1 : Int32)))).2 hr) ?_
    show W p e below _ (T60.setTop (mkF m 169 #[.val (.int p0), .val (.int p1), .val (.int p2), .val (.int p3), .val (.int p4), .val (.int p5), .val (.int n), .val (.int i), .val (.int j), .val (.int k), .val (.int (p5 ^^^ (-1 : Int32))), .val (.ref b49), .val (.int p5), .val (.int (p5 ^^^ (-1 : Int32))), .val (.int p1), .val (.int p5), .val (.int p1)] []))
    refine W.go (fun _ hr => XS.iload X60.here hx rfl (hb hby at_169) rfl hr) ?_
    show W p e below _ (T60.setTop (mkF m 171 #[.val (.int p0), .val (.int p1), .val (.int p2), .val (.int p3), .val (.int p4), .val (.int p5), .val (.int n), .val (.int i), .val (.int j), .val (.int k), .val (.int (p5 ^^^ (-1 : Int32))), .val (.ref b49), .val (.int p5), .val (.int (p5 ^^^ (-1 : Int32))), .val (.int p1), .val (.int p5), .val (.int p1)] [(.int p1)]))
    refine W.go (fun _ hr => XS.iload X60.here hx rfl (hb hby at_171) rfl hr) ?_
    show W p e below _ (T60.setTop (mkF m 173 #[.val (.int p0), .val (.int p1), .val (.int p2), .val (.int p3), .val (.int p4), .val (.int p5), .val (.int n), .val (.int i), .val (.int j), .val (.int k), .val (.int (p5 ^^^ (-1 : Int32))), .val (.ref b49), .val (.int p5), .val (.int (p5 ^^^ (-1 : Int32))), .val (.int p1), .val (.int p5), .val (.int p1)] [(.int p1), (.int p1)]))
    refine W.go (fun _ hr => XS.icmpNo X60.here hx rfl (hb hby at_173) rfl (teq (rfl : p1 = p1)).2 hr) ?_
    show W p e below _ (T60.setTop (mkF m 176 #[.val (.int p0), .val (.int p1), .val (.int p2), .val (.int p3), .val (.int p4), .val (.int p5), .val (.int n), .val (.int i), .val (.int j), .val (.int k), .val (.int (p5 ^^^ (-1 : Int32))), .val (.ref b49), .val (.int p5), .val (.int (p5 ^^^ (-1 : Int32))), .val (.int p1), .val (.int p5), .val (.int p1)] []))
    refine W.go (fun _ hr => XS.iconst X60.here hx rfl (hb hby at_176) hr) ?_
    show W p e below _ (T60.setTop (mkF m 177 #[.val (.int p0), .val (.int p1), .val (.int p2), .val (.int p3), .val (.int p4), .val (.int p5), .val (.int n), .val (.int i), .val (.int j), .val (.int k), .val (.int (p5 ^^^ (-1 : Int32))), .val (.ref b49), .val (.int p5), .val (.int (p5 ^^^ (-1 : Int32))), .val (.int p1), .val (.int p5), .val (.int p1)] [(.int (1 : Int32))]))
    refine W.go (fun _ hr => XS.goto X60.here hx rfl (pc0 := 177) (pc' := 181) rfl (hb hby at_177) (by decide) (by decide) hr) ?_
    show W p e below _ (T60.setTop (mkF m 181 #[.val (.int p0), .val (.int p1), .val (.int p2), .val (.int p3), .val (.int p4), .val (.int p5), .val (.int n), .val (.int i), .val (.int j), .val (.int k), .val (.int (p5 ^^^ (-1 : Int32))), .val (.ref b49), .val (.int p5), .val (.int (p5 ^^^ (-1 : Int32))), .val (.int p1), .val (.int p5), .val (.int p1)] [(.int (1 : Int32))]))
    exact W.retB X60 hx hlk (t := .boolean) hret (by simp) (hb hby at_181) (by decide) (by decide) e60 ⟨rfl, N60⟩
set_option maxRecDepth 65536 in
set_option maxHeartbeats 40000000 in
theorem comes_1 {Post : Tables → Env → Array Value → State → Outcome → State → Prop} (hpost : ∀ tb e args s v u, (limb_1_1.after args s (.returned v) u = true ∧ limb_1_2.after args s (.returned v) u = true ∧ True) → FrameEnd s (.returned v) u (Jvm.fieldLocs frame_1_writes args s ++ Jvm.arrayLocs frame_1_arrays args s ++ Jvm.staticLocs frame_1_statics s) 16 65600 → Post tb e args s (.returned v) u) :
    ArmFor flags0 classFile x code maxLocals ret World_1 tables_1 room_1 Calls_1 rest_1 Pre_1 Post := by
  intro l hfl _ _ p e ha hc hk s m args below hf hA hF happ hP
  obtain ⟨hcalls, hrest, hpre⟩ := hP
  obtain ⟨-, -, -, hnamed, -, -, -, hat⟩ := (Spec.applies_iff hf).mp happ
  obtain ⟨hg, hn⟩ := and_e (Cond.before_iff.mp (show (Jvm.Cond.and given_1 narrow_1).before args s = true from hpre))
  obtain ⟨c1, c2⟩ := and_e hg
  obtain ⟨c3, c4⟩ := and_e c2
  obtain ⟨c5, c6⟩ := and_e c4
  obtain ⟨c7, c8⟩ := and_e c6
  obtain ⟨c9, c10⟩ := and_e c8
  obtain ⟨c11, c12⟩ := and_e c10
  obtain ⟨w0, w1, w2, w3, w4, w5, rfl⟩ : ∃ w0 w1 w2 w3 w4 w5 : Value, args = #[w0, w1, w2, w3, w4, w5] := by
    have hs : args.size = 6 := by simpa [Cond.value, given_1] using c1
    obtain ⟨L⟩ := args
    match L, hs with
    | [w0, w1, w2, w3, w4, w5], _ => exact ⟨w0, w1, w2, w3, w4, w5, rfl⟩
  have hw := fun d (hd : d ∈ tables_1) => atoms_spec (ws := Jvm.Cond.code x code maxLocals ret :: tables_1) hat d (List.mem_cons_of_mem _ hd)
  have hfit : Fit s := fun {y c} hc i hi => by
    obtain ⟨ha, rfl⟩ := Array.getElem?_eq_some_iff.mp hc
    have q := List.all_eq_true.mp ((Array.all_eq_true_iff_forall_mem.mp hF) _ (Array.getElem_mem ha)) i (List.mem_range.mpr hi)
    simpa [Array.getElem?_eq_getElem hi] using q
  obtain ⟨i0, ei0⟩ := is_v c3
  obtain rfl : w0 = (.int i0) := Option.some.inj ei0
  obtain ⟨i1, ei1⟩ := is_v c5
  obtain rfl : w1 = (.int i1) := Option.some.inj ei1
  obtain ⟨i2, ei2⟩ := is_v c7
  obtain rfl : w2 = (.int i2) := Option.some.inj ei2
  obtain ⟨i3, ei3⟩ := is_v c9
  obtain rfl : w3 = (.int i3) := Option.some.inj ei3
  obtain ⟨i4, ei4⟩ := is_v c11
  obtain rfl : w4 = (.int i4) := Option.some.inj ei4
  obtain ⟨i5, ei5⟩ := is_v c12
  obtain rfl : w5 = (.int i5) := Option.some.inj ei5
  have S_SHIFT := Sta.start (eqI_v hn) (Or.inr ⟨(hw _ (List.mem_of_getElem? (i := 4) rfl)), (hw _ (List.mem_of_getElem? (i := 15) rfl))⟩)
  obtain ⟨n, o, h1, h2, h3, _, L, rfl, ⟨rfl, N⟩, hq⟩ := rm0 l s _ hw i0 i1 i2 i3 i4 i5  s.heap s.heap.size (Nat.le_refl _) S_SHIFT tables_1 p e ha hc hk s m _ below hf ((Spec.applies_iff_loose hf).mp happ).1 ⟨rfl, State.Warmed39.refl s, rfl⟩ trivial
  refine ⟨n, _, h1, h2, h3, hpost _ _ _ _ _ _ ⟨Cond.after_iff.mpr rfl, Cond.after_iff.mpr (eq_i res_at (Term.int_eval (1)) rfl), trivial⟩ ⟨hq.1, hq.2.1, (hq.2.2.sift fun y hy => Or.inr (N y hy)).mono (by decide) (by decide)⟩⟩
theorem main_1_1 : Claimed_1_1 := comes_1 fun _ _ _ _ _ _ h hF => ⟨h.1, hF⟩
theorem main_1_2 : Claimed_1_2 := comes_1 fun _ _ _ _ _ _ h hF => ⟨h.2.1, hF⟩
end Jvm.Pilot.@@N@@
namespace Jvm.Pilot.@@N@@
open Jvm Jvm.ClassFile Sem Op Lib Jvm.Free Jvm.Stand Jvm.Pilot.@@N@@.Jvm.D
/-! MADE BY PROGRAM (witnessworld.py) out of the Statement's table words and the real class files: 11 classes; the members and pool entries that the words name. The judged class is class 1, her method 1. -/
namespace start1
open Jvm.ClassFile
def u (s : String) : CpInfo := .utf8 (stringToUtf16 s)
/-- a pool by its gaps: so many unusable entries, then the entry; so many at the end -/
def gap : Nat → List CpInfo → List CpInfo
  | 0, r => r
  | n + 1, r => .unusable :: gap n r
def poolList (es : List (Nat × CpInfo)) (last : Nat) : List CpInfo := es.foldr (fun e r => gap e.1 (e.2 :: r)) (gap last [])
def pool (es : List (Nat × CpInfo)) (last : Nat) : Array CpInfo := ⟨poolList es last⟩
def fileOf (pool : Array CpInfo) (this : Nat) (attrs : Array Attribute := #[]) (ms : Array MethodInfo := #[]) (fl : Nat := 33) (sup : Nat := 0) (ifs : Array Nat := #[]) (fds : Array FieldInfo := #[]) : ClassFile where
  minorVersion := 0
  majorVersion := 65
  constantPool := pool
  accessFlags := fl
  thisClass := this
  superClass := sup
  interfaces := ifs
  fields := fds
  methods := ms
  attributes := attrs
def plain (name : String) (sup : Option ClassId) : Class where
  name := name
  kind := .ordinary
  loader := none
  accessFlags := 33
  super := sup
  interfaces := #[]
  cf := none
  fields := #[]
  methods := #[]
  instanceTypes := #[]
  staticTypes := #[]
  resolved := #[]
  callSites := []
  init := .initialized
  statics := none
  mirror := none

def pool0 : Array CpInfo := pool [(5, u "<init>"), (0, u "()V"), (1, .class_ 10), (1, u "java/lang/Object")] 113

def k0c0 : Code := { maxStack := 0, maxLocals := 1, code := object_method_1_code, exceptionTable := #[], attributes := #[] }
def k0m0 : Method := { name := "<init>", desc := "()V", sig := { parameters := [], returnType := none }, accessFlags := 1, code := some k0c0 }
/-- java/lang/Object -/
def k0 : Class := { plain "java/lang/Object" none with
  accessFlags := 33
  interfaces := #[]
  cf := some (fileOf pool0 8 #[] #[{ accessFlags := 1, nameIndex := 5, descriptorIndex := 6, attributes := #[] }] 33 0 #[] #[])
  fields := #[]
  methods := #[k0m0]
  instanceTypes := #[]
  staticTypes := #[]
  resolved := Array.replicate 124 none
  statics := none }

def pool1 : Array CpInfo := pool [(2, .class_ 4), (1, u "java/lang/Object"), (0, u "<init>"), (0, u "()V"), (0, .integer 2147483647), (0, .integer 32775), (0, .class_ 10), (0, u "com/example/parleyd/parleyd/core/IntPages"), (0, .methodref 9 12), (0, .nameAndType 5 13), (0, u "(II)V"), (0, .methodref 9 15), (0, .nameAndType 16 13), (0, u "set"), (0, .methodref 9 18), (0, .nameAndType 19 20), (0, u "get"), (0, u "(I)I"), (0, .methodref 9 22), (0, .nameAndType 23 24), (0, u "size"), (0, u "()I"), (0, .class_ 26), (0, u "com/example/parleyd/parleyd/core/IntPagesGetPinLaw"), (2, u "law"), (0, u "(IIIIII)Z")] 3

def k1m0 : Method := { name := "<init>", desc := "()V", sig := { parameters := [], returnType := none }, accessFlags := 1, code := none }
def k1c1 : Code := { maxStack := 4, maxLocals := 17, code := code, exceptionTable := #[], attributes := #[] }
def k1m1 : Method := { name := "law", desc := "(IIIIII)Z", sig := { parameters := [.int, .int, .int, .int, .int, .int], returnType := some .boolean }, accessFlags := 9, code := some k1c1 }
/-- com/example/parleyd/parleyd/core/IntPagesGetPinLaw -/
def k1 : Class := { plain "com/example/parleyd/parleyd/core/IntPagesGetPinLaw" (some 0) with
  accessFlags := 49
  interfaces := #[]
  cf := some (fileOf pool1 25 #[] #[{ accessFlags := 1, nameIndex := 5, descriptorIndex := 6, attributes := #[] }, { accessFlags := 9, nameIndex := 29, descriptorIndex := 30, attributes := #[] }] 49 2 #[] #[])
  fields := #[]
  methods := #[k1m0, k1m1]
  instanceTypes := #[]
  staticTypes := #[]
  resolved := Array.replicate 34 none
  statics := none }

def pool2 : Array CpInfo := pool [(1, .methodref 2 3), (0, .class_ 4), (0, .nameAndType 5 6), (0, u "java/lang/Object"), (0, u "<init>"), (0, u "()V"), (9, .fieldref 17 18), (0, .class_ 19), (0, .nameAndType 20 21), (0, u "com/example/parleyd/parleyd/core/IntPages"), (0, u "size"), (0, u "I"), (0, .long 16384), (1, .fieldref 17 25), (0, .nameAndType 26 21), (0, u "SHIFT"), (0, .class_ 28), (0, u "[I"), (0, .fieldref 17 30), (0, .nameAndType 31 32), (0, u "pages"), (0, u "[[I"), (0, .methodref 34 35), (0, .class_ 36), (0, .nameAndType 37 38), (0, u "java/lang/Math"), (0, u "min"), (0, u "(II)I"), (0, .methodref 40 41), (0, .class_ 42), (0, .nameAndType 43 44), (0, u "java/util/Arrays"), (0, u "fill"), (0, u "([II)V"), (5, u "(I)I"), (0, u "PAGE_INTS"), (2, u "(II)V"), (3, u "()I"), (0, u "get"), (0, u "set")] 18

def k2c0 : Code := { maxStack := 6, maxLocals := 4, code := prog_2_method_1_code, exceptionTable := #[], attributes := #[] }
def k2m0 : Method := { name := "<init>", desc := "(II)V", sig := { parameters := [.int, .int], returnType := none }, accessFlags := 1, code := some k2c0 }
def k2c1 : Code := { maxStack := 1, maxLocals := 1, code := prog_2_method_2_code, exceptionTable := #[], attributes := #[] }
def k2m1 : Method := { name := "size", desc := "()I", sig := { parameters := [], returnType := some .int }, accessFlags := 1, code := some k2c1 }
def k2c2 : Code := { maxStack := 3, maxLocals := 2, code := prog_2_method_3_code, exceptionTable := #[], attributes := #[] }
def k2m2 : Method := { name := "get", desc := "(I)I", sig := { parameters := [.int], returnType := some .int }, accessFlags := 1, code := some k2c2 }
def k2c3 : Code := { maxStack := 3, maxLocals := 3, code := prog_2_method_4_code, exceptionTable := #[], attributes := #[] }
def k2m3 : Method := { name := "set", desc := "(II)V", sig := { parameters := [.int, .int], returnType := none }, accessFlags := 1, code := some k2c3 }
/-- com/example/parleyd/parleyd/core/IntPages -/
def k2 : Class := { plain "com/example/parleyd/parleyd/core/IntPages" (some 0) with
  accessFlags := 33
  interfaces := #[]
  cf := some (fileOf pool2 17 #[] #[{ accessFlags := 1, nameIndex := 5, descriptorIndex := 54, attributes := #[] }, { accessFlags := 1, nameIndex := 20, descriptorIndex := 58, attributes := #[] }, { accessFlags := 1, nameIndex := 59, descriptorIndex := 50, attributes := #[] }, { accessFlags := 1, nameIndex := 60, descriptorIndex := 54, attributes := #[] }] 33 2 #[] #[{ accessFlags := 24, nameIndex := 51, descriptorIndex := 21, attributes := #[] }, { accessFlags := 26, nameIndex := 26, descriptorIndex := 21, attributes := #[] }, { accessFlags := 18, nameIndex := 20, descriptorIndex := 21, attributes := #[] }, { accessFlags := 18, nameIndex := 31, descriptorIndex := 32, attributes := #[] }])
  fields := #[{ name := "PAGE_INTS", type := .int, accessFlags := 24, slot := 0, constantValue := 0 }, { name := "SHIFT", type := .int, accessFlags := 26, slot := 1, constantValue := 0 }, { name := "size", type := .int, accessFlags := 18, slot := 0, constantValue := 0 }, { name := "pages", type := (.array (.array .int)), accessFlags := 18, slot := 1, constantValue := 0 }]
  methods := #[k2m0, k2m1, k2m2, k2m3]
  instanceTypes := #[.int, (.array (.array .int))]
  staticTypes := #[.int, .int]
  resolved := Array.replicate 79 none
  statics := some 0 }

def pool3 : Array CpInfo := pool [(1, .class_ 2), (0, u "java/lang/Math"), (1, .class_ 6), (1, u "java/lang/Object"), (0, u "<init>"), (0, u "()V"), (89, .class_ 100), (1, u "java/lang/Math$RandomNumberGeneratorHolder"), (71, u "negativeZeroFloatBits"), (0, u "J"), (2, u "negativeZeroDoubleBits"), (24, u "min"), (43, u "$assertionsDisabled"), (0, u "Z"), (88, u "(II)I"), (2, u "twoToTheDoubleScaleDown"), (0, u "D"), (4, u "twoToTheDoubleScaleUp"), (9, u "E"), (3, u "PI"), (2, u "TAU"), (2, u "DEGREES_TO_RADIANS"), (0, u "RADIANS_TO_DEGREES")] 94

def k3m0 : Method := { name := "<init>", desc := "()V", sig := { parameters := [], returnType := none }, accessFlags := 2, code := none }
def k3c1 : Code := { maxStack := 2, maxLocals := 2, code := jdk_29_method_69_code, exceptionTable := #[], attributes := #[] }
def k3m1 : Method := { name := "min", desc := "(II)I", sig := { parameters := [.int, .int], returnType := some .int }, accessFlags := 9, code := some k3c1 }
/-- java/lang/Math -/
def k3 : Class := { plain "java/lang/Math" (some 0) with
  accessFlags := 49
  interfaces := #[]
  cf := some (fileOf pool3 1 #[.nestMembers #[98]] #[{ accessFlags := 2, nameIndex := 7, descriptorIndex := 8, attributes := #[] }, { accessFlags := 9, nameIndex := 201, descriptorIndex := 335, attributes := #[] }] 49 4 #[] #[{ accessFlags := 25, nameIndex := 354, descriptorIndex := 339, attributes := #[] }, { accessFlags := 25, nameIndex := 358, descriptorIndex := 339, attributes := #[] }, { accessFlags := 25, nameIndex := 361, descriptorIndex := 339, attributes := #[] }, { accessFlags := 26, nameIndex := 364, descriptorIndex := 339, attributes := #[] }, { accessFlags := 26, nameIndex := 365, descriptorIndex := 339, attributes := #[] }, { accessFlags := 26, nameIndex := 172, descriptorIndex := 173, attributes := #[] }, { accessFlags := 26, nameIndex := 176, descriptorIndex := 173, attributes := #[] }, { accessFlags := 8, nameIndex := 344, descriptorIndex := 339, attributes := #[] }, { accessFlags := 8, nameIndex := 338, descriptorIndex := 339, attributes := #[] }, { accessFlags := 4120, nameIndex := 245, descriptorIndex := 246, attributes := #[] }])
  fields := #[{ name := "E", type := .double, accessFlags := 25, slot := 0, constantValue := 0 }, { name := "PI", type := .double, accessFlags := 25, slot := 1, constantValue := 0 }, { name := "TAU", type := .double, accessFlags := 25, slot := 2, constantValue := 0 }, { name := "DEGREES_TO_RADIANS", type := .double, accessFlags := 26, slot := 3, constantValue := 0 }, { name := "RADIANS_TO_DEGREES", type := .double, accessFlags := 26, slot := 4, constantValue := 0 }, { name := "negativeZeroFloatBits", type := .long, accessFlags := 26, slot := 5, constantValue := 0 }, { name := "negativeZeroDoubleBits", type := .long, accessFlags := 26, slot := 6, constantValue := 0 }, { name := "twoToTheDoubleScaleUp", type := .double, accessFlags := 8, slot := 7, constantValue := 0 }, { name := "twoToTheDoubleScaleDown", type := .double, accessFlags := 8, slot := 8, constantValue := 0 }, { name := "$assertionsDisabled", type := .boolean, accessFlags := 4120, slot := 9, constantValue := 0 }]
  methods := #[k3m0, k3m1]
  instanceTypes := #[]
  staticTypes := #[.double, .double, .double, .double, .double, .long, .long, .double, .double, .boolean]
  resolved := Array.replicate 460 none
  statics := none }

def pool4 : Array CpInfo := pool [(2, .class_ 4), (1, u "java/lang/Object"), (0, u "<init>"), (0, u "()V"), (7, .class_ 16), (1, u "java/util/Arrays"), (57, .class_ 76), (1, u "java/util/Arrays$NaturalOrder"), (36, .class_ 115), (1, u "java/util/Arrays$LegacyMergeSort"), (1, u "Z"), (257, .class_ 376), (0, u "java/util/Arrays$ArrayList"), (68, u "$assertionsDisabled"), (269, u "MIN_ARRAY_SORT_GRAN"), (0, u "I"), (2, u "INSERTIONSORT_THRESHOLD"), (120, u "fill"), (4, u "([II)V"), (129, .class_ 976), (0, u "java/util/Arrays$ArrayItr")] 52

def k4m0 : Method := { name := "<init>", desc := "()V", sig := { parameters := [], returnType := none }, accessFlags := 2, code := none }
def k4c1 : Code := { maxStack := 3, maxLocals := 4, code := jdk_65_method_103_code, exceptionTable := #[], attributes := #[] }
def k4m1 : Method := { name := "fill", desc := "([II)V", sig := { parameters := [(.array .int), .int], returnType := none }, accessFlags := 9, code := some k4c1 }
/-- java/util/Arrays -/
def k4 : Class := { plain "java/util/Arrays" (some 0) with
  accessFlags := 49
  interfaces := #[]
  cf := some (fileOf pool4 14 #[.nestMembers #[975, 375, 113, 74]] #[{ accessFlags := 2, nameIndex := 5, descriptorIndex := 6, attributes := #[] }, { accessFlags := 9, nameIndex := 840, descriptorIndex := 845, attributes := #[] }] 49 2 #[] #[{ accessFlags := 26, nameIndex := 715, descriptorIndex := 716, attributes := #[] }, { accessFlags := 26, nameIndex := 719, descriptorIndex := 716, attributes := #[] }, { accessFlags := 4120, nameIndex := 445, descriptorIndex := 117, attributes := #[] }])
  fields := #[{ name := "MIN_ARRAY_SORT_GRAN", type := .int, accessFlags := 26, slot := 0, constantValue := 0 }, { name := "INSERTIONSORT_THRESHOLD", type := .int, accessFlags := 26, slot := 1, constantValue := 0 }, { name := "$assertionsDisabled", type := .boolean, accessFlags := 4120, slot := 2, constantValue := 0 }]
  methods := #[k4m0, k4m1]
  instanceTypes := #[]
  staticTypes := #[.int, .int, .boolean]
  resolved := Array.replicate 1029 none
  statics := none }

def pool5 : Array CpInfo := pool [(1, u "java/lang/Cloneable"), (0, .class_ 1), (0, u "java/lang/Object"), (0, .class_ 3)] 3

/-- java/lang/Cloneable -/
def k5 : Class := { plain "java/lang/Cloneable" (some 0) with
  accessFlags := 1537
  interfaces := #[]
  cf := some (fileOf pool5 2 #[] #[] 1537 4 #[] #[])
  fields := #[]
  methods := #[]
  instanceTypes := #[]
  staticTypes := #[]
  resolved := Array.replicate 8 none
  statics := none }

def pool6 : Array CpInfo := pool [(1, u "java/io/Serializable"), (0, .class_ 1), (0, u "java/lang/Object"), (0, .class_ 3)] 3

/-- java/io/Serializable -/
def k6 : Class := { plain "java/io/Serializable" (some 0) with
  accessFlags := 1537
  interfaces := #[]
  cf := some (fileOf pool6 2 #[] #[] 1537 4 #[] #[])
  fields := #[]
  methods := #[]
  instanceTypes := #[]
  staticTypes := #[]
  resolved := Array.replicate 8 none
  statics := none }

/-- the primitive byte -/
def k7 : Class := { plain "byte" none with kind := .primitive 'B', accessFlags := 0x411 }
/-- [B -/
def k8 : Class := { plain "[B" (some 0) with kind := .array 7 .byte, interfaces := #[5, 6], accessFlags := 1041 }

/-- the primitive int -/
def k9 : Class := { plain "int" none with kind := .primitive 'I', accessFlags := 0x411 }
/-- [I -/
def k10 : Class := { plain "[I" (some 0) with kind := .array 9 .int, interfaces := #[5, 6], accessFlags := 1041 }
/-- [[I -/
def kgrid : Class := { plain "[[I" (some 0) with kind := .array 10 (.array .int), interfaces := #[5, 6], accessFlags := 1041 }

def heap : Heap := #[{ cls := 2, slots := #[.int 0, .int 14], vm := .statics 2 }]
def classes : Array Class := #[k0, k1, k2, k3, k4, k5, k6, k7, k8, k9, k10, kgrid]
def interned : List (Array UInt16 × Addr) := []
def slotsUsed : Nat := 2
def theMethod : MethodId := ⟨1, 1⟩
def args0 : Array Value := #[.int 5, .int 3, .int 2, .int 6, .int 8, .int 9]
def aboutOver (below : List Frame) : State where
  vm := { classes := classes, interned := interned.toArray }
  heap := heap
  slotsUsed := slotsUsed
  threads := #[{ frames := .invoking theMethod args0 :: below }]
def below0 : List Frame := [.native { method := ⟨0, 0⟩, args := #[] }]
def about1 : State := aboutOver below0
def p0 : Program := .bare "" "" ""
def e0 : Env := launch0.env 0 0 0
theorem w_frames : about1.frames = Frame.invoking theMethod args0 :: below0 := rfl
set_option maxRecDepth 65536 in
theorem w_args : argsFit about1.vm theMethod args0 = true := by decide +kernel
set_option maxRecDepth 65536 in
theorem w_heap : heapFits about1 = true := by decide +kernel
set_option maxRecDepth 65536 in
theorem w_runnable : about1.curStatus? = some .runnable := by decide +kernel
set_option maxRecDepth 65536 in
theorem w_alone : about1.alone = true := by decide +kernel
set_option maxRecDepth 65536 in
theorem w_named : about1.methodNamed? x = some theMethod := by decide +kernel
set_option maxRecDepth 65536 in
theorem w_hears : about1.hears theMethod below0 = true := by decide +kernel
set_option maxRecDepth 65536 in
theorem w_ripe : about1.ripe theMethod args0 below0 = true := by decide +kernel
theorem w_running : about1.status = .running := rfl
set_option maxRecDepth 65536 in
theorem w_room : about1.hasRoom e0.platform room_1 = true :=
  launch0.hasRoom_least _ room_1 (by decide +kernel) (by decide +kernel) (by decide +kernel) (by decide +kernel) (by decide +kernel) (by decide +kernel)
theorem allAtoms_all (ts : List Jvm.Cond) (a : Array Jvm.Value) (st : Jvm.State) : (allAtoms ts).before a st = ts.all (fun c => c.before a st) := by
  induction ts with
  | nil => rfl
  | cons c t ih =>
    show (Jvm.Cond.and c (allAtoms t)).before a st = _
    rw [Jvm.Cond.before_and, ih, List.all_cons]
def words1 : List Jvm.Cond := Jvm.Cond.code x code maxLocals ret :: tables_1
/-- a 'code' word, met by the world's own term for the bytes: nothing is compared byte by byte -/
theorem code_word {y : MethodName} {bytes : ByteArray} {mx : Nat} {rt : Option FieldType} {a : Array Value} {s : State} {m : MethodId} {meth : Method} {c : Code} (h1 : s.methodNamed? y = some m) (h2 : s.vm.method? m = some meth) (h3 : meth.code = some c) (h4 : c.code = bytes)
    (h5 : (c.maxLocals == mx && c.exceptionTable.isEmpty && decide (c.maxStack ≤ mostOperands) && decide (meth.sig.returnType = rt) && !meth.locks && decide (parseMethodDescriptor y.desc = some meth.sig)) = true) : (Jvm.Cond.code y bytes mx rt).before a s = true := by
  simp only [Bool.and_eq_true, beq_iff_eq, Bool.not_eq_true', decide_eq_true_eq] at h5
  obtain ⟨⟨⟨⟨⟨g1, g2⟩, g3⟩, g4⟩, g5⟩, g6⟩ := h5
  simp [Cond.before, Cond.holds, Cond.value, h1, h2, h3, h4, g1, g2, g3, g4, g5, g6]
def isCode : Jvm.Cond → Bool
  | .code _ _ _ _ => true
  | _ => false
theorem all_split {L : List Jvm.Cond} {P : Jvm.Cond → Bool} (h1 : L.all (fun c => isCode c || P c) = true) (h2 : ∀ c ∈ L.filter isCode, P c = true) : L.all P = true := by
  refine List.all_eq_true.mpr fun c hc => ?_
  have h := List.all_eq_true.mp h1 c hc
  rcases Bool.eq_false_or_eq_true (isCode c) with hi | hi
  · exact h2 c (List.mem_filter.mpr ⟨hc, hi⟩)
  · simpa [hi] using h
set_option maxRecDepth 65536 in
theorem w_c0 : (Jvm.Cond.code x code maxLocals ret).before args0 about1 = true := code_word (m := ⟨1, 1⟩) (meth := k1m1) (c := k1c1) (by decide +kernel) rfl rfl rfl (by decide +kernel)
set_option maxRecDepth 65536 in
theorem w_c1 : (Jvm.Cond.code ({ cls := "com/example/parleyd/parleyd/core/IntPages", name := "<init>", desc := "(II)V" } : Jvm.MethodName) prog_2_method_1_code (4 : Nat) (Option.none : Option Jvm.ClassFile.FieldType)).before args0 about1 = true := code_word (m := ⟨2, 0⟩) (meth := k2m0) (c := k2c0) (by decide +kernel) rfl rfl rfl (by decide +kernel)
set_option maxRecDepth 65536 in
theorem w_c2 : (Jvm.Cond.code ({ cls := "java/lang/Object", name := "<init>", desc := "()V" } : Jvm.MethodName) object_method_1_code (1 : Nat) (Option.none : Option Jvm.ClassFile.FieldType)).before args0 about1 = true := code_word (m := ⟨0, 0⟩) (meth := k0m0) (c := k0c0) (by decide +kernel) rfl rfl rfl (by decide +kernel)
set_option maxRecDepth 65536 in
theorem w_c3 : (Jvm.Cond.code ({ cls := "java/lang/Math", name := "min", desc := "(II)I" } : Jvm.MethodName) jdk_29_method_69_code (2 : Nat) (Option.some Jvm.ClassFile.FieldType.int)).before args0 about1 = true := code_word (m := ⟨3, 1⟩) (meth := k3m1) (c := k3c1) (by decide +kernel) rfl rfl rfl (by decide +kernel)
set_option maxRecDepth 65536 in
theorem w_c4 : (Jvm.Cond.code ({ cls := "java/util/Arrays", name := "fill", desc := "([II)V" } : Jvm.MethodName) jdk_65_method_103_code (4 : Nat) (Option.none : Option Jvm.ClassFile.FieldType)).before args0 about1 = true := code_word (m := ⟨4, 1⟩) (meth := k4m1) (c := k4c1) (by decide +kernel) rfl rfl rfl (by decide +kernel)
set_option maxRecDepth 65536 in
theorem w_c5 : (Jvm.Cond.code ({ cls := "com/example/parleyd/parleyd/core/IntPages", name := "set", desc := "(II)V" } : Jvm.MethodName) prog_2_method_4_code (3 : Nat) (Option.none : Option Jvm.ClassFile.FieldType)).before args0 about1 = true := code_word (m := ⟨2, 3⟩) (meth := k2m3) (c := k2c3) (by decide +kernel) rfl rfl rfl (by decide +kernel)
set_option maxRecDepth 65536 in
theorem w_c6 : (Jvm.Cond.code ({ cls := "com/example/parleyd/parleyd/core/IntPages", name := "get", desc := "(I)I" } : Jvm.MethodName) prog_2_method_3_code (2 : Nat) (Option.some Jvm.ClassFile.FieldType.int)).before args0 about1 = true := code_word (m := ⟨2, 2⟩) (meth := k2m2) (c := k2c2) (by decide +kernel) rfl rfl rfl (by decide +kernel)
set_option maxRecDepth 65536 in
theorem w_c7 : (Jvm.Cond.code ({ cls := "com/example/parleyd/parleyd/core/IntPages", name := "size", desc := "()I" } : Jvm.MethodName) prog_2_method_2_code (1 : Nat) (Option.some Jvm.ClassFile.FieldType.int)).before args0 about1 = true := code_word (m := ⟨2, 1⟩) (meth := k2m1) (c := k2c1) (by decide +kernel) rfl rfl rfl (by decide +kernel)
def codes1 : List Jvm.Cond := [Jvm.Cond.code x code maxLocals ret, Jvm.Cond.code ({ cls := "com/example/parleyd/parleyd/core/IntPages", name := "<init>", desc := "(II)V" } : Jvm.MethodName) prog_2_method_1_code (4 : Nat) (Option.none : Option Jvm.ClassFile.FieldType), Jvm.Cond.code ({ cls := "java/lang/Object", name := "<init>", desc := "()V" } : Jvm.MethodName) object_method_1_code (1 : Nat) (Option.none : Option Jvm.ClassFile.FieldType), Jvm.Cond.code ({ cls := "java/lang/Math", name := "min", desc := "(II)I" } : Jvm.MethodName) jdk_29_method_69_code (2 : Nat) (Option.some Jvm.ClassFile.FieldType.int), Jvm.Cond.code ({ cls := "java/util/Arrays", name := "fill", desc := "([II)V" } : Jvm.MethodName) jdk_65_method_103_code (4 : Nat) (Option.none : Option Jvm.ClassFile.FieldType), Jvm.Cond.code ({ cls := "com/example/parleyd/parleyd/core/IntPages", name := "set", desc := "(II)V" } : Jvm.MethodName) prog_2_method_4_code (3 : Nat) (Option.none : Option Jvm.ClassFile.FieldType), Jvm.Cond.code ({ cls := "com/example/parleyd/parleyd/core/IntPages", name := "get", desc := "(I)I" } : Jvm.MethodName) prog_2_method_3_code (2 : Nat) (Option.some Jvm.ClassFile.FieldType.int), Jvm.Cond.code ({ cls := "com/example/parleyd/parleyd/core/IntPages", name := "size", desc := "()I" } : Jvm.MethodName) prog_2_method_2_code (1 : Nat) (Option.some Jvm.ClassFile.FieldType.int)]
set_option maxRecDepth 65536 in
theorem codes_eq : words1.filter isCode = codes1 := rfl
theorem w_codes : ∀ c ∈ words1.filter isCode, c.before args0 about1 = true := by
  rw [codes_eq]
  intro c hc
  simp only [codes1, List.mem_cons, List.not_mem_nil, or_false] at hc
  rcases hc with rfl | rfl | rfl | rfl | rfl | rfl | rfl | rfl
  · exact w_c0
  · exact w_c1
  · exact w_c2
  · exact w_c3
  · exact w_c4
  · exact w_c5
  · exact w_c6
  · exact w_c7
set_option maxRecDepth 65536 in
theorem w_t1 : (words1.take 24).all (fun c => isCode c || c.before args0 about1) = true := by decide +kernel
set_option maxRecDepth 65536 in
theorem w_t2 : (words1.drop 24).all (fun c => isCode c || c.before args0 about1) = true := by decide +kernel
theorem w_tables : (allAtoms (Jvm.Cond.code x code maxLocals ret :: tables_1)).before args0 about1 = true := by
  rw [allAtoms_all]
  show words1.all (fun c => c.before args0 about1) = true
  refine all_split ?_ w_codes
  rw [← List.take_append_drop 24 words1, List.all_append, w_t1, w_t2]
  rfl
set_option maxRecDepth 65536 in
theorem w_case : (Jvm.Cond.and given_1 narrow_1).before args0 about1 = true := by decide +kernel
theorem w_applies : (headSpec (Jvm.Cond.code x code maxLocals ret :: tables_1) room_1).applies x e0.platform about1 = true :=
  (Spec.applies_iff w_frames).mpr ⟨w_running, w_runnable, w_alone, w_named, w_hears, w_ripe, w_room, w_tables⟩
theorem atStart : AtStart classFile x code maxLocals ret World_1 tables_1 room_1 Calls_1 rest_1 Pre_1 launch0 p0 e0 about1 theMethod args0 below0 :=
  ⟨lists_1, trivial, launch0.admits_env _ _ _, launch0.least_env, fairChoices_fair.cas, fairChoices_fair.clock, w_frames, w_args, w_heap, w_applies, trivial, trivial, w_case⟩
end start1
theorem witness_1 : WitnessClaimed_1 := ⟨start1.p0, start1.e0, start1.about1, start1.theMethod, start1.args0, start1.below0, start1.atStart⟩
end Jvm.Pilot.@@N@@
