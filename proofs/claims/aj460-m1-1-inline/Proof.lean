import JvmDerived
import JvmDerived.Pilot.@@N@@Statement
import JvmDerived.Pilot.@@N@@Code
set_option linter.unusedVariables false
set_option linter.unusedSimpArgs false
@@BLOCK:TracedD.lean.txt@@
namespace Jvm.Pilot.@@N@@
open Jvm Jvm.ClassFile Sem Op Lib Jvm.Free Jvm.Stand Jvm.LawKit Jvm.RoadKit Bundle Jvm.Pilot.@@N@@.Jvm.D
/-! own prelude: a walk as one chain of steps that ends well (Go), contracts (Mt), calls and returns in that form -/
abbrev jv (x : Int64) : Slot := .val (.long x)
section Own
variable {p : Program} {l : Launch} {e : Env} {R : Room} {s : State} {m : MethodId} {args : Array Value} {below : List Frame} {meth : Method} {c : Code} {T T' : State} {locs : List Loc} {cells slots : Nat} {Z : State} {a0 : Array Value} {h : Heap}
theorem own_retI (X : Stand p l e R s m args below meth c T locs cells slots) (hx : p.tables.exec = Jvm.exec) {pc : Nat} {Ls : Array Slot} {z : Int32} {rest : List Value} (hret : meth.sig.returnType = some .int) (hd : decode c.code pc = .ok (.ireturn, 1)) {fs : List Frame}
    (hl : ∀ (f : JFrame) (acts : List Action), f.method = m → f.locked = none → f.entered = [] → (doReturn e (T.setTop f) acts (some (.int z))).1 = T.setFrames fs) : Steps p.tables e below (T.setTop (mkF m pc Ls (.int z :: rest))) (T.setFrames fs) := by
  have hm' : T.vm.method? m = some meth := X.method'
  have hn : narrow .int (.int z) = .int z := rfl
  show Steps p.tables e below (T.setTop { method := m, pc := pc, locals := Ls, stack := _ :: rest, locked := none }) _
  jvm_step X.here [X.here.top, hx, hd, hm', hret, hn]
  first | (intro acts; rw [hl _ acts rfl rfl rfl]) | rw [hl _ _ rfl rfl rfl]
  exact Steps.refl _
theorem own_retL (X : Stand p l e R s m args below meth c T locs cells slots) (hx : p.tables.exec = Jvm.exec) {pc : Nat} {Ls : Array Slot} {z : Int64} {rest : List Value} (hret : meth.sig.returnType = some .long) (hd : decode c.code pc = .ok (.lreturn, 1)) {fs : List Frame}
    (hl : ∀ (f : JFrame) (acts : List Action), f.method = m → f.locked = none → f.entered = [] → (doReturn e (T.setTop f) acts (some (.long z))).1 = T.setFrames fs) : Steps p.tables e below (T.setTop (mkF m pc Ls (.long z :: rest))) (T.setFrames fs) := by
  have hm' : T.vm.method? m = some meth := X.method'
  show Steps p.tables e below (T.setTop { method := m, pc := pc, locals := Ls, stack := _ :: rest, locked := none }) _
  jvm_step X.here [X.here.top, hx, hd, hm', hret, narrow]
  first | (intro acts; rw [hl _ acts rfl rfl rfl]) | rw [hl _ _ rfl rfl rfl]
  exact Steps.refl _
theorem own_retA (X : Stand p l e R s m args below meth c T locs cells slots) (hx : p.tables.exec = Jvm.exec) {pc : Nat} {Ls : Array Slot} {v : Value} {rest : List Value} (hv : v.isRef = true) {t : FieldType} (hret : meth.sig.returnType = some t) (ht : t.isReference = true) (hd : decode c.code pc = .ok (.areturn, 1)) {fs : List Frame}
    (hl : ∀ (f : JFrame) (acts : List Action), f.method = m → f.locked = none → f.entered = [] → (doReturn e (T.setTop f) acts (some v)).1 = T.setFrames fs) : Steps p.tables e below (T.setTop (mkF m pc Ls (v :: rest))) (T.setFrames fs) := by
  have hm' : T.vm.method? m = some meth := X.method'
  show Steps p.tables e below (T.setTop { method := m, pc := pc, locals := Ls, stack := _ :: rest, locked := none }) _
  rcases ref_cases hv with rfl | ⟨a, rfl⟩
  · jvm_step X.here [X.here.top, hx, hd, hm', hret, ht, Value.isRef]
    first | (intro acts; rw [hl _ acts rfl rfl rfl]) | rw [hl _ _ rfl rfl rfl]
    exact Steps.refl _
  · jvm_step X.here [X.here.top, hx, hd, hm', hret, ht, Value.isRef]
    first | (intro acts; rw [hl _ acts rfl rfl rfl]) | rw [hl _ _ rfl rfl rfl]
    exact Steps.refl _
/-- from this frame the walk ends, and W holds of its end -/
def Go (p : Program) (e : Env) (below : List Frame) (W : Outcome → State → Prop) (T : State) (g : JFrame) : Prop := ∃ s₂ o, Steps p.tables e below (T.setTop g) s₂ ∧ s₂.status = .running ∧ Ended s₂ below o ∧ W o s₂
def Wf (s : State) (rc rs : Nat) (Q : Option Value → Heap → List Loc → Prop) (o : Outcome) (t : State) : Prop := ∃ v L, o = .returned v ∧ Q v t.heap L ∧ FrameEnd s o t L rc rs
/-- a method's contract: from these arguments and this heap it returns, and Q -/
def Mt (l : Launch) (Z : State) (y : MethodName) (bytes : ByteArray) (ml : Nat) (ret : Option FieldType) (ws : List Jvm.Cond) (rm : Room) (as' : Array Value) (h0 : Heap) (Q : Option Value → Heap → List Loc → Prop) : Prop :=
  MetFree l y (head1 (Jvm.Cond.code y bytes ml ret :: ws) rm) (fun a U => a = as' ∧ Z.Warmed39 U.vm ∧ U.heap = h0) (fun _ _ _ _ _ => True) (fun _ U o U' => ∃ v L, o = .returned v ∧ Q v U'.heap L ∧ FrameEnd U o U' L rm.cells rm.slots)
variable {W : Outcome → State → Prop} {g g' : JFrame} {Q : Option Value → Heap → List Loc → Prop} {rc rs : Nat}
theorem Go.st (k : Go p e below W T' g') (st : ∀ t, Steps p.tables e below (T'.setTop g') t → Steps p.tables e below (T.setTop g) t) : Go p e below W T g := by
  obtain ⟨s₂, o, h1, h2⟩ := k
  exact ⟨s₂, o, st _ h1, h2⟩
theorem Go.cast (q : g = g') (k : Go p e below W T g') : Go p e below W T g := q ▸ k
theorem Go.mono {W' : Outcome → State → Prop} (k : Go p e below W T g) (q : ∀ o t, W o t → W' o t) : Go p e below W' T g := by
  obtain ⟨s₂, o, h1, h2, h3, h4⟩ := k
  exact ⟨s₂, o, h1, h2, h3, q _ _ h4⟩
theorem Mt.body {y : MethodName} {bytes : ByteArray} {ml : Nat} {ret : Option FieldType} {ws : List Jvm.Cond} {rm : Room} {as' : Array Value} {h0 : Heap} (hpn : plainFor y = true)
    (body : ∀ (p : Program) (e : Env) (s : State) (m : MethodId) (below : List Frame) (meth : Method) (c : Code) (s₁ : State), p.tables.exec = Jvm.exec → c.code = bytes → c.maxLocals = ml → s.vm.findClass y.cls = some m.cls → meth.name = y.name → meth.sig.returnType = ret → meth.locks = false →
      Z.Warmed39 s.vm → Stand p l e rm s m as' below meth c s₁ [] 0 0 → s₁.heap = h0 → Go p e below (Wf s rm.cells rm.slots Q) s₁ (entryFrame m as' ml)) : Mt l Z y bytes ml ret ws rm as' h0 Q := by
  refine MetFree.of_bodySF hpn hisR ?_
  intro p e s m args below meth c s₁ Bd hml0 hP hK
  obtain ⟨rfl, hZ, hh⟩ := hP
  have := body p e s m below meth c s₁ Bd.exec Bd.bytes hml0 (findClass_of_methodNamed Bd.named) (name_of_methodNamed Bd.named Bd.method).1 Bd.returns Bd.notSynchronized hZ (Stand.of_body Bd) (by rw [← hh, Bd.state]; rfl)
  obtain ⟨s₂, o, h1, h2, h3, v, L, h4, h5, h6⟩ := this
  exact ⟨s₂, o, h1, h2, h3, v, L, h4, h5, h6⟩
theorem Go.retV (X : Stand p l e R s m args below meth c T locs cells slots) (hx : p.tables.exec = Jvm.exec) (hlk : meth.locks = false) (hret : meth.sig.returnType = none) {pc : Nat} {Ls : Array Slot} (hd : decode c.code pc = .ok (.return_, 1)) (hc : cells ≤ rc) (hs : slots ≤ rs) (hq : Q none T.heap locs) : Go p e below (Wf s rc rs Q) T (mkF m pc Ls []) := by
  obtain ⟨fs, hr, hrun, hended, hW, hsame⟩ := X.leave (v := none) (fun _ => rfl) hlk
  exact ⟨_, _, X.returnOut hx hret hd hr, hrun, hended, _, _, rfl, hq, ⟨_, rfl⟩, hW, hsame.mono hc hs⟩
theorem Go.retI (X : Stand p l e R s m args below meth c T locs cells slots) (hx : p.tables.exec = Jvm.exec) (hlk : meth.locks = false) (hret : meth.sig.returnType = some .int) {pc : Nat} {Ls : Array Slot} {z : Int32} {st : List Value} (hd : decode c.code pc = .ok (.ireturn, 1)) (hc : cells ≤ rc) (hs : slots ≤ rs) (hq : Q (some (.int z)) T.heap locs) : Go p e below (Wf s rc rs Q) T (mkF m pc Ls (.int z :: st)) := by
  obtain ⟨fs, hr, hrun, hended, hW, hsame⟩ := X.leave (v := some (.int z)) (fun h => by rw [hret] at h; cases h) hlk
  exact ⟨_, _, own_retI X hx hret hd hr, hrun, hended, _, _, rfl, hq, ⟨_, rfl⟩, hW, hsame.mono hc hs⟩
theorem Go.retL (X : Stand p l e R s m args below meth c T locs cells slots) (hx : p.tables.exec = Jvm.exec) (hlk : meth.locks = false) (hret : meth.sig.returnType = some .long) {pc : Nat} {Ls : Array Slot} {z : Int64} {st : List Value} (hd : decode c.code pc = .ok (.lreturn, 1)) (hc : cells ≤ rc) (hs : slots ≤ rs) (hq : Q (some (.long z)) T.heap locs) : Go p e below (Wf s rc rs Q) T (mkF m pc Ls (.long z :: st)) := by
  obtain ⟨fs, hr, hrun, hended, hW, hsame⟩ := X.leave (v := some (.long z)) (fun h => by rw [hret] at h; cases h) hlk
  exact ⟨_, _, own_retL X hx hret hd hr, hrun, hended, _, _, rfl, hq, ⟨_, rfl⟩, hW, hsame.mono hc hs⟩
theorem Go.retA (X : Stand p l e R s m args below meth c T locs cells slots) (hx : p.tables.exec = Jvm.exec) (hlk : meth.locks = false) {t : FieldType} (hret : meth.sig.returnType = some t) (ht : t.isReference = true) {pc : Nat} {Ls : Array Slot} {v : Value} (hv : v.isRef = true) {st : List Value} (hd : decode c.code pc = .ok (.areturn, 1)) (hc : cells ≤ rc) (hs : slots ≤ rs) (hq : Q (some v) T.heap locs) : Go p e below (Wf s rc rs Q) T (mkF m pc Ls (v :: st)) := by
  obtain ⟨fs, hr, hrun, hended, hW, hsame⟩ := X.leave (v := some v) (fun h => by rw [hret] at h; cases h) hlk
  exact ⟨_, _, own_retA X hx hv hret ht hd hr, hrun, hended, _, _, rfl, hq, ⟨_, rfl⟩, hW, hsame.mono hc hs⟩
theorem Go.retN (X : Stand p l e R s m args below meth c T locs cells slots) (hx : p.tables.exec = Jvm.exec) (hlk : meth.locks = false) {t : FieldType} (hret : meth.sig.returnType = some t) (ht : t = .boolean ∨ t = .byte ∨ t = .char ∨ t = .short) {pc : Nat} {Ls : Array Slot} {z z' : Int32} {st : List Value} (hn : narrow t (.int z) = .int z') (hd : decode c.code pc = .ok (.ireturn, 1)) (hc : cells ≤ rc) (hs : slots ≤ rs) (hq : Q (some (.int z')) T.heap locs) : Go p e below (Wf s rc rs Q) T (mkF m pc Ls (.int z :: st)) := by
  obtain ⟨fs, hr, hrun, hended, hW, hsame⟩ := X.leave (v := some (.int z')) (fun h => by rw [hret] at h; cases h) hlk
  refine ⟨_, _, ?_, hrun, hended, _, _, rfl, hq, ⟨_, rfl⟩, hW, hsame.mono hc hs⟩
  have hm' : T.vm.method? m = some meth := X.method'
  show Steps p.tables e below (T.setTop { method := m, pc := pc, locals := Ls, stack := _ :: st, locked := none }) _
  rcases ht with rfl | rfl | rfl | rfl
  all_goals
    jvm_step X.here [X.here.top, hx, hd, hm', hret, hn]
    first | (intro acts; rw [hr _ acts rfl rfl rfl]) | rw [hr _ _ rfl rfl rfl]
    exact Steps.refl _
/-! calls, paid by any Back -/
theorem Go.callSB (X : Stand p l e R s m args below meth c T locs cells slots) (hx : p.tables.exec = Jvm.exec) (hZ : Z.Warmed39 s.vm) {own : String} {index : Nat} {y : MethodName} {bytes : ByteArray} {maxL : Nat} {ret : Option FieldType} (hown : s.vm.findClass own = some m.cls)
    (w1 : (Jvm.Cond.methodLink own index y).before a0 Z = true) (w2 : (Jvm.Cond.static y).before a0 Z = true) (w3 : (Jvm.Cond.initialized y.cls).before a0 Z = true) (w4 : (Jvm.Cond.code y bytes maxL ret).before a0 Z = true) (hy : y.cls ≠ "java/lang/invoke/MethodHandle" ∧ y.cls ≠ "java/lang/invoke/VarHandle")
    {Wd : Nat} {Pre : Pt → Array Value → Prop} {Post : Pt → Array Value → Option Value → Pt → Prop} (hK : Back l R p e below s args y 3 Wd Pre Post)
    {argsL rest : List Value} (hg : g.method = m) (hsize : g.locals.size = c.maxLocals) (hlen : ∀ sig, parseMethodDescriptor y.desc = some sig → argsL.length = sig.parameters.length) (hstack : g.stack = argsL.reverse ++ rest) (hWd : 2 * g.monitorRoom + (rest.map fun v => v.category).sum ≤ Wd) (hd : decode c.code g.pc = .ok (.invokestatic index, 3))
    (hpre : ∀ vm₁, Pre ⟨T.setVm vm₁, locs, cells, slots⟩ argsL.toArray)
    (k : ∀ (v : Option Value) (vm₁ : Vm) (B : Pt), Stand p l e R s m args below meth c B.U B.locs B.cells B.slots → Post ⟨T.setVm vm₁, locs, cells, slots⟩ argsL.toArray v B → Go p e below W B.U { g with pc := g.pc + 3, stack := v.toList ++ rest }) : Go p e below W T g := by
  obtain ⟨v, vm₁, B, -, X', hP, st⟩ := Jvm.LawKit.callS X hx hown (mvT hZ w1) (mvT hZ w2) (mvT hZ w3) (mvT hZ w4) hy hK hg hsize hlen hstack hWd hd (fun vm₁ _ => hpre vm₁)
  exact (k v vm₁ B X' hP).st st
theorem Go.callNB (X : Stand p l e R s m args below meth c T locs cells slots) (hx : p.tables.exec = Jvm.exec) (hZ : Z.Warmed39 s.vm) {own : String} {index : Nat} {y : MethodName} {bytes : ByteArray} {maxL : Nat} (hy1 : y.name = "<init>") (hown : s.vm.findClass own = some m.cls)
    (w1 : (Jvm.Cond.methodLink own index y).before a0 Z = true) (w2 : (Jvm.Cond.instanceMethod y).before a0 Z = true) (w4 : (Jvm.Cond.code y bytes maxL none).before a0 Z = true) (hy : y.cls ≠ "java/lang/invoke/MethodHandle" ∧ y.cls ≠ "java/lang/invoke/VarHandle")
    {Wd : Nat} {Pre : Pt → Array Value → Prop} {Post : Pt → Array Value → Option Value → Pt → Prop} (hK : Back l R p e below s args y 3 Wd Pre Post)
    {a : Addr} {argsL rest : List Value} (hg : g.method = m) (hsize : g.locals.size = c.maxLocals) (hlen : ∀ sig, parseMethodDescriptor y.desc = some sig → argsL.length = sig.parameters.length) (hstack : g.stack = argsL.reverse ++ .ref a :: rest) (hWd : 2 * g.monitorRoom + (rest.map fun v => v.category).sum ≤ Wd) (hd : decode c.code g.pc = .ok (.invokespecial index, 3))
    (hpre : ∀ vm₁, Pre ⟨T.setVm vm₁, locs, cells, slots⟩ (.ref a :: argsL).toArray)
    (k : ∀ (v : Option Value) (vm₁ : Vm) (B : Pt), Stand p l e R s m args below meth c B.U B.locs B.cells B.slots → Post ⟨T.setVm vm₁, locs, cells, slots⟩ (.ref a :: argsL).toArray v B → Go p e below W B.U { g with pc := g.pc + 3, stack := v.toList ++ rest }) : Go p e below W T g := by
  obtain ⟨v, vm₁, B, -, X', hP, st⟩ := X.specialBack hx hy1 hown (mvT hZ w1) (mvT hZ w2) (mvT hZ w4) hy hK hg hsize (Steps.refl _) hlen hstack hWd hd (fun vm₁ _ => hpre vm₁)
  exact (k v vm₁ B X' hP).st fun _ q => st.trans q
theorem Go.callVB (X : Stand p l e R s m args below meth c T locs cells slots) (hx : p.tables.exec = Jvm.exec) (hZ : Z.Warmed39 s.vm) {own C : String} {index : Nat} {y z : MethodName} (hown : s.vm.findClass own = some m.cls)
    (w1 : (Jvm.Cond.methodLink own index y).before a0 Z = true) (w2 : (Jvm.Cond.declares y).before a0 Z = true) (hnf : NotFace s y) (w3 : (Jvm.Cond.selects C y z).before a0 Z = true) (w4 : (Jvm.Cond.instanceMethod z).before a0 Z = true) (hy : y.cls ≠ "java/lang/invoke/MethodHandle" ∧ y.cls ≠ "java/lang/invoke/VarHandle")
    {Wd : Nat} {Pre : Pt → Array Value → Prop} {Post : Pt → Array Value → Option Value → Pt → Prop} (hK : Back l R p e below s args z 3 Wd Pre Post)
    (eT : T.heap = h) {b : Addr} (E : Exa Z h b C) {argsL rest : List Value} (hg : g.method = m) (hsize : g.locals.size = c.maxLocals) (hlen : ∀ sig, parseMethodDescriptor y.desc = some sig → argsL.length = sig.parameters.length) (hstack : g.stack = argsL.reverse ++ .ref b :: rest) (hWd : 2 * g.monitorRoom + (rest.map fun v => v.category).sum ≤ Wd) (hd : decode c.code g.pc = .ok (.invokevirtual index, 3))
    (hpre : ∀ vm₁, Pre ⟨T.setVm vm₁, locs, cells, slots⟩ (.ref b :: argsL).toArray)
    (k : ∀ (v : Option Value) (vm₁ : Vm) (B : Pt), Stand p l e R s m args below meth c B.U B.locs B.cells B.slots → Post ⟨T.setVm vm₁, locs, cells, slots⟩ (.ref b :: argsL).toArray v B → Go p e below W B.U { g with pc := g.pc + 3, stack := v.toList ++ rest }) : Go p e below W T g := by
  obtain ⟨cB, kB, q1, q2, q3⟩ := isOf hZ eT E
  obtain ⟨v, vm₁, B, -, X', hP, st⟩ := X.virtualBack hx hown (mvT hZ w1) (mvT hZ w2) hnf (mvT hZ w3) (mvT hZ w4) hy hK q1 q3 hg hsize (Steps.refl _) hlen hstack hWd hd (fun vm₁ _ => hpre vm₁)
  exact (k v vm₁ B X' hP).st fun _ q => st.trans q
/-! calls, paid by a contract of one's own (Mt) -/
variable {Q' : Option Value → Heap → List Loc → Prop} {rm : Room} {as' : Array Value}
theorem Go.callS (X : Stand p l e R s m args below meth c T locs cells slots) (hx : p.tables.exec = Jvm.exec) (hZ : Z.Warmed39 s.vm) {own : String} {index : Nat} {y : MethodName} {bytes : ByteArray} {maxL : Nat} {ret : Option FieldType} (hown : s.vm.findClass own = some m.cls)
    (w1 : (Jvm.Cond.methodLink own index y).before a0 Z = true) (w2 : (Jvm.Cond.static y).before a0 Z = true) (w3 : (Jvm.Cond.initialized y.cls).before a0 Z = true) (w4 : (Jvm.Cond.code y bytes maxL ret).before a0 Z = true) (hy : y.cls ≠ "java/lang/invoke/MethodHandle" ∧ y.cls ≠ "java/lang/invoke/VarHandle") (Wd : Nat)
    (hM : Mt l Z y bytes maxL ret [] rm as' h Q') (eT : T.heap = h) (hf : rm.frames + 1 ≤ R.frames) (hl : Wd + (maxL + 11) + rm.locals ≤ R.locals) (hc : cells + rm.cells ≤ R.cells) (hs : slots + rm.slots ≤ R.slots)
    {argsL rest : List Value} (hg : g.method = m) (hsize : g.locals.size = c.maxLocals) (hlen : ∀ sig, parseMethodDescriptor y.desc = some sig → argsL.length = sig.parameters.length) (hstack : g.stack = argsL.reverse ++ rest) (ha : argsL.toArray = as') (hWd : 2 * g.monitorRoom + (rest.map fun v => v.category).sum ≤ Wd) (hd : decode c.code g.pc = .ok (.invokestatic index, 3))
    (k : ∀ (v : Option Value) (T' : State) (L : List Loc), Stand p l e R s m args below meth c T' (locs ++ L) (cells + rm.cells) (slots + rm.slots) → Q' v T'.heap L → Go p e below W T' { g with pc := g.pc + 3, stack := v.toList ++ rest }) : Go p e below W T g := by
  refine Go.callSB X hx hZ hown w1 w2 w3 w4 hy (backOf (W := Wd) hM hZ w4 w3 hf hl) hg hsize hlen hstack hWd hd (fun _ => ⟨ha, eT, hc, hs⟩) ?_
  rintro v vm₁ ⟨T1, L1, c1, n1⟩ X1 ⟨L, hQ, e1, e2, e3⟩
  dsimp only [Pt.U, Pt.locs, Pt.cells, Pt.slots] at X1 e1 e2 e3 hQ ⊢
  subst e1 e2 e3
  exact k v T1 L X1 hQ
theorem Go.callN (X : Stand p l e R s m args below meth c T locs cells slots) (hx : p.tables.exec = Jvm.exec) (hZ : Z.Warmed39 s.vm) {own : String} {index : Nat} {y : MethodName} {bytes : ByteArray} {maxL : Nat} (hy1 : y.name = "<init>") (hown : s.vm.findClass own = some m.cls)
    (w1 : (Jvm.Cond.methodLink own index y).before a0 Z = true) (w2 : (Jvm.Cond.instanceMethod y).before a0 Z = true) (w3 : (Jvm.Cond.initialized y.cls).before a0 Z = true) (w4 : (Jvm.Cond.code y bytes maxL none).before a0 Z = true) (hy : y.cls ≠ "java/lang/invoke/MethodHandle" ∧ y.cls ≠ "java/lang/invoke/VarHandle") (Wd : Nat)
    (hM : Mt l Z y bytes maxL none [] rm as' h Q') (eT : T.heap = h) (hf : rm.frames + 1 ≤ R.frames) (hl : Wd + (maxL + 11) + rm.locals ≤ R.locals) (hc : cells + rm.cells ≤ R.cells) (hs : slots + rm.slots ≤ R.slots)
    {a : Addr} {argsL rest : List Value} (hg : g.method = m) (hsize : g.locals.size = c.maxLocals) (hlen : ∀ sig, parseMethodDescriptor y.desc = some sig → argsL.length = sig.parameters.length) (hstack : g.stack = argsL.reverse ++ .ref a :: rest) (ha : (Value.ref a :: argsL).toArray = as') (hWd : 2 * g.monitorRoom + (rest.map fun v => v.category).sum ≤ Wd) (hd : decode c.code g.pc = .ok (.invokespecial index, 3))
    (k : ∀ (v : Option Value) (T' : State) (L : List Loc), Stand p l e R s m args below meth c T' (locs ++ L) (cells + rm.cells) (slots + rm.slots) → Q' v T'.heap L → Go p e below W T' { g with pc := g.pc + 3, stack := v.toList ++ rest }) : Go p e below W T g := by
  refine Go.callNB X hx hZ hy1 hown w1 w2 w4 hy (backOf (W := Wd) hM hZ w4 w3 hf hl) hg hsize hlen hstack hWd hd (fun _ => ⟨ha, eT, hc, hs⟩) ?_
  rintro v vm₁ ⟨T1, L1, c1, n1⟩ X1 ⟨L, hQ, e1, e2, e3⟩
  dsimp only [Pt.U, Pt.locs, Pt.cells, Pt.slots] at X1 e1 e2 e3 hQ ⊢
  subst e1 e2 e3
  exact k v T1 L X1 hQ
theorem Go.callV (X : Stand p l e R s m args below meth c T locs cells slots) (hx : p.tables.exec = Jvm.exec) (hZ : Z.Warmed39 s.vm) {own C : String} {index : Nat} {y z : MethodName} {bytes : ByteArray} {maxL : Nat} {ret : Option FieldType} (hown : s.vm.findClass own = some m.cls)
    (w1 : (Jvm.Cond.methodLink own index y).before a0 Z = true) (w2 : (Jvm.Cond.declares y).before a0 Z = true) (hnf : NotFace s y) (w3 : (Jvm.Cond.selects C y z).before a0 Z = true) (w4 : (Jvm.Cond.instanceMethod z).before a0 Z = true) (w5 : (Jvm.Cond.initialized z.cls).before a0 Z = true) (w6 : (Jvm.Cond.code z bytes maxL ret).before a0 Z = true) (hy : y.cls ≠ "java/lang/invoke/MethodHandle" ∧ y.cls ≠ "java/lang/invoke/VarHandle") (Wd : Nat)
    (hM : Mt l Z z bytes maxL ret [] rm as' h Q') (eT : T.heap = h) (hf : rm.frames + 1 ≤ R.frames) (hl : Wd + (maxL + 11) + rm.locals ≤ R.locals) (hc : cells + rm.cells ≤ R.cells) (hs : slots + rm.slots ≤ R.slots)
    {b : Addr} (E : Exa Z h b C) {argsL rest : List Value} (hg : g.method = m) (hsize : g.locals.size = c.maxLocals) (hlen : ∀ sig, parseMethodDescriptor y.desc = some sig → argsL.length = sig.parameters.length) (hstack : g.stack = argsL.reverse ++ .ref b :: rest) (ha : (Value.ref b :: argsL).toArray = as') (hWd : 2 * g.monitorRoom + (rest.map fun v => v.category).sum ≤ Wd) (hd : decode c.code g.pc = .ok (.invokevirtual index, 3))
    (k : ∀ (v : Option Value) (T' : State) (L : List Loc), Stand p l e R s m args below meth c T' (locs ++ L) (cells + rm.cells) (slots + rm.slots) → Q' v T'.heap L → Go p e below W T' { g with pc := g.pc + 3, stack := v.toList ++ rest }) : Go p e below W T g := by
  refine Go.callVB X hx hZ hown w1 w2 hnf w3 w4 hy (backOf (W := Wd) hM hZ w6 w5 hf hl) eT E hg hsize hlen hstack hWd hd (fun _ => ⟨ha, eT, hc, hs⟩) ?_
  rintro v vm₁ ⟨T1, L1, c1, n1⟩ X1 ⟨L, hQ, e1, e2, e3⟩
  dsimp only [Pt.U, Pt.locs, Pt.cells, Pt.slots] at X1 e1 e2 e3 hQ ⊢
  subst e1 e2 e3
  exact k v T1 L X1 hQ
end Own

/-! own prelude, arrays: Ary Z h a ty vs: at a lies an array of kind ty that holds just vs -/
theorem own_nat {n : Nat} (h : n < 2 ^ 31) : (Int32.ofNat n).toNatClampNeg = n ∧ ¬ Int32.ofNat n < 0 ∧ (Int32.ofNat n).toInt = n := by
  have e : (Int32.ofNat n).toInt = n := Int32.toInt_ofNat_of_lt h
  refine ⟨?_, ?_, e⟩
  · simp only [Int32.toNatClampNeg, e]; rfl
  · rw [Int32.lt_iff_toInt_lt, e]; simp
theorem own_lt {i n : Nat} (hi : i < 2 ^ 31) (hn : n < 2 ^ 31) : Int32.ofNat i < Int32.ofNat n ↔ i < n := by
  rw [Int32.lt_iff_toInt_lt, (own_nat hi).2.2, (own_nat hn).2.2]; omega
theorem own_eq {i n : Nat} (hi : i < 2 ^ 31) (hn : n < 2 ^ 31) : Int32.ofNat i = Int32.ofNat n ↔ i = n := by
  constructor
  · intro h
    have := congrArg Int32.toInt h
    rw [(own_nat hi).2.2, (own_nat hn).2.2] at this; omega
  · rintro rfl; rfl
theorem own_add (i n : Nat) : Int32.ofNat i + Int32.ofNat n = Int32.ofNat (i + n) := (Int32.ofNat_add i n).symm
theorem own_sub {i n : Nat} (h : n ≤ i) : Int32.ofNat i - Int32.ofNat n = Int32.ofNat (i - n) := by
  have : Int32.ofNat i = Int32.ofNat (i - n) + Int32.ofNat n := by rw [own_add]; congr 1; omega
  rw [this]; exact Int32.add_sub_cancel _ _
def Ary (Z : State) (h : Heap) (a : Addr) (ty : FieldType) (vs : List Value) : Prop := vs.length < 2 ^ 31 ∧ ∃ k d, Arv Z h a k ty (Int32.ofNat vs.length) vs d
section OwnA
variable {p : Program} {l : Launch} {e : Env} {R : Room} {s : State} {m : MethodId} {args : Array Value} {below : List Frame} {meth : Method} {c : Code} {T T' : State} {locs : List Loc} {cells slots : Nat} {Z : State} {a0 : Array Value} {h h' : Heap} {a b : Addr} {ty : FieldType} {vs : List Value} {v w : Value} {sl i : Nat} {j : Int32} {g : JFrame} {rest : List Value} {ws : List Addr} {W : Outcome → State → Prop} {t : State}
theorem Ary.lt (A : Ary Z h a ty vs) : a < h.size := by obtain ⟨-, k, d, F⟩ := A; exact F.lt
theorem Ary.ext (A : Ary Z h a ty vs) (E : Ext h h') : Ary Z h' a ty vs := by obtain ⟨q, k, d, F⟩ := A; exact ⟨q, k, d, F.ext E⟩
theorem Ary.other (A : Ary Z h a ty vs) (Wq : Wr h h' b sl w) (q : a ≠ b) : Ary Z h' a ty vs := by obtain ⟨q', k, d, F⟩ := A; exact ⟨q', k, d, F.other Wq q⟩
theorem Ary.keep (A : Ary Z h a ty vs) (K : Keep h h' ws) (q : a ∉ ws) : Ary Z h' a ty vs := by obtain ⟨q', k, d, F⟩ := A; exact ⟨q', k, d, F.keep K q⟩
theorem Ary.at (A : Ary Z h a ty vs) (hi : vs[i]? = some v) (hj : j = Int32.ofNat i) : ∃ cl, Arr Z h a cl ty ∧ ¬ (j < 0 ∨ cl.slots.size ≤ j.toNatClampNeg) ∧ cl.slots[j.toNatClampNeg]? = some v := by
  obtain ⟨q, k, d, cl, A, r1, r2, r3, H, G⟩ := A
  have hl := (List.getElem?_eq_some_iff.mp hi).1
  have n1 := own_nat q
  have n2 := own_nat (Nat.lt_trans hl q)
  subst hj
  rw [n1.1] at r2
  refine ⟨cl, A, ?_, ?_⟩
  · rw [n2.1, r2]; exact fun z => z.elim n2.2.1 fun y => Nat.not_le.mpr hl y
  · rw [n2.1, H i (by rw [r2]; exact hl)]; simp [List.getD_eq_getElem?_getD, hi]
theorem Ary.inb (A : Ary Z h a ty vs) (hi : i < vs.length) (hj : j = Int32.ofNat i) : ∃ cl, Arr Z h a cl ty ∧ ¬ (j < 0 ∨ cl.slots.size ≤ j.toNatClampNeg) := by
  obtain ⟨cl, h1, h2, -⟩ := A.at (v := vs[i]) (List.getElem?_eq_getElem hi) hj
  exact ⟨cl, h1, h2⟩
theorem own_new {k : ClassId} {n : Nat} (q : n < 2 ^ 31) (A : Arr Z h a (newA k ty (Int32.ofNat n)) ty) : Ary Z h a ty (List.replicate n (defaultValue ty)) := by
  refine ⟨by simpa using q, k, defaultValue ty, ?_⟩
  have F := (Arv.new A (own_nat q).2.1).pad (pad_rep [] (defaultValue ty) n)
  simpa using F
theorem Ary.set (A : Ary Z h a ty vs) (hi : i < vs.length) (hj : j = Int32.ofNat i) (hv : fits ty v = true) (Wq : Wr h h' a j.toNatClampNeg v) : Ary Z h' a ty (vs.set i v) := by
  obtain ⟨q, k, d, cl, A, r1, r2, r3, H, G⟩ := A
  refine ⟨by simpa using q, k, d, ?_⟩
  rw [List.length_set]
  exact Arv.set A r1 r2 r3 H G hv Wq i (by rw [hj]; exact (own_nat (Nat.lt_trans hi q)).1) hi
theorem own_laload (X : Stand p l e R s m args below meth c T locs cells slots) (hx : p.tables.exec = Jvm.exec) (hZ : Z.Warmed39 s.vm) (eT : T.heap = h) (A : Ary Z h a .long vs) (hi : vs[i]? = some v) (hj : j = Int32.ofNat i) (hg : g.method = m) (hs : g.stack = .int j :: .ref a :: rest) (hd : decode c.code g.pc = .ok (.laload, 1))
    (k : Steps p.tables e below (T.setTop { g with pc := g.pc + 1, stack := v :: rest }) t) : Steps p.tables e below (T.setTop g) t := by
  obtain ⟨cl, h1, h2, h3⟩ := A.at hi hj
  exact X.laload hx (by rw [eT]; exact h1.1) (State.isArrayOf_alike hZ.alike h1.2.1) h1.2.2 h2 h3 hg hs hd _ k
theorem own_iaload (X : Stand p l e R s m args below meth c T locs cells slots) (hx : p.tables.exec = Jvm.exec) (hZ : Z.Warmed39 s.vm) (eT : T.heap = h) (A : Ary Z h a .int vs) (hi : vs[i]? = some v) (hj : j = Int32.ofNat i) (hg : g.method = m) (hs : g.stack = .int j :: .ref a :: rest) (hd : decode c.code g.pc = .ok (.iaload, 1))
    (k : Steps p.tables e below (T.setTop { g with pc := g.pc + 1, stack := v :: rest }) t) : Steps p.tables e below (T.setTop g) t := by
  obtain ⟨cl, h1, h2, h3⟩ := A.at hi hj
  exact X.iaload hx (by rw [eT]; exact h1.1) (State.isArrayOf_alike hZ.alike h1.2.1) h1.2.2 h2 h3 hg hs hd _ k
theorem own_caload (X : Stand p l e R s m args below meth c T locs cells slots) (hx : p.tables.exec = Jvm.exec) (hZ : Z.Warmed39 s.vm) (eT : T.heap = h) (A : Ary Z h a .char vs) (hi : vs[i]? = some v) (hj : j = Int32.ofNat i) (hg : g.method = m) (hs : g.stack = .int j :: .ref a :: rest) (hd : decode c.code g.pc = .ok (.caload, 1))
    (k : Steps p.tables e below (T.setTop { g with pc := g.pc + 1, stack := v :: rest }) t) : Steps p.tables e below (T.setTop g) t := by
  obtain ⟨cl, h1, h2, h3⟩ := A.at hi hj
  exact X.caload hx (by rw [eT]; exact h1.1) (State.isArrayOf_alike hZ.alike h1.2.1) h1.2.2 h2 h3 hg hs hd _ k
theorem own_baload (X : Stand p l e R s m args below meth c T locs cells slots) (hx : p.tables.exec = Jvm.exec) (hZ : Z.Warmed39 s.vm) (eT : T.heap = h) (A : Ary Z h a .byte vs) (hi : vs[i]? = some v) (hj : j = Int32.ofNat i) (hg : g.method = m) (hs : g.stack = .int j :: .ref a :: rest) (hd : decode c.code g.pc = .ok (.baload, 1))
    (k : Steps p.tables e below (T.setTop { g with pc := g.pc + 1, stack := v :: rest }) t) : Steps p.tables e below (T.setTop g) t := by
  obtain ⟨cl, h1, h2, h3⟩ := A.at hi hj
  exact X.baloadBytes hx (by rw [eT]; exact h1.1) (State.isArrayOf_alike hZ.alike h1.2.1) h1.2.2 h2 h3 hg hs hd _ k
theorem own_aaload (X : Stand p l e R s m args below meth c T locs cells slots) (hx : p.tables.exec = Jvm.exec) (hZ : Z.Warmed39 s.vm) (eT : T.heap = h) (A : Ary Z h a ty vs) (hty : ty.isReference = true) (hi : vs[i]? = some v) (hj : j = Int32.ofNat i) (hg : g.method = m) (hs : g.stack = .int j :: .ref a :: rest) (hd : decode c.code g.pc = .ok (.aaload, 1))
    (k : Steps p.tables e below (T.setTop { g with pc := g.pc + 1, stack := v :: rest }) t) : Steps p.tables e below (T.setTop g) t := by
  obtain ⟨cl, h1, h2, h3⟩ := A.at hi hj
  exact X.aaload hx (by rw [eT]; exact h1.1) (State.isArrayOf_alike hZ.alike h1.2.1) hty h1.2.2 h2 h3 hg hs hd _ k
theorem own_alen (X : Stand p l e R s m args below meth c T locs cells slots) (hx : p.tables.exec = Jvm.exec) (hZ : Z.Warmed39 s.vm) (eT : T.heap = h) (A : Ary Z h a ty vs) {n : Nat} (hn : vs.length = n) (hg : g.method = m) (hs : g.stack = .ref a :: rest) (hd : decode c.code g.pc = .ok (.arraylength, 1))
    (k : Steps p.tables e below (T.setTop { g with pc := g.pc + 1, stack := .int (Int32.ofNat n) :: rest }) t) : Steps p.tables e below (T.setTop g) t := by
  subst hn
  obtain ⟨q, k', d, cl, A, r1, r2, r3, H, G⟩ := A
  refine X.arraylength hx (by rw [eT]; exact A.1) (State.isArrayOf_alike hZ.alike A.2.1) hg hs hd _ ?_
  rw [len_of r2 r3]; exact k
theorem Go.lastore (X : Stand p l e R s m args below meth c T locs cells slots) (hx : p.tables.exec = Jvm.exec) (hZ : Z.Warmed39 s.vm) (eT : T.heap = h) (A : Ary Z h a .long vs) {x : Int64} (hi : i < vs.length) (hj : j = Int32.ofNat i) (hg : g.method = m) (hs : g.stack = .long x :: .int j :: .ref a :: rest) (hd : decode c.code g.pc = .ok (.lastore, 1))
    (k : ∀ (T' : State) (h' : Heap), Stand p l e R s m args below meth c T' (locs ++ [⟨a, j.toNatClampNeg⟩]) cells slots → T'.heap = h' → Wr h h' a j.toNatClampNeg (.long x) → Ary Z h' a .long (vs.set i (.long x)) → Go p e below W T' { g with pc := g.pc + 1, stack := rest }) : Go p e below W T g := by
  obtain ⟨cl, h1, h2⟩ := A.inb hi hj
  obtain ⟨T', h', X', e', W', st⟩ := stJ X hx hZ eT h1 h2 hg hs hd
  exact (k T' h' X' e' W' (A.set hi hj rfl W')).st st
theorem Go.iastore (X : Stand p l e R s m args below meth c T locs cells slots) (hx : p.tables.exec = Jvm.exec) (hZ : Z.Warmed39 s.vm) (eT : T.heap = h) (A : Ary Z h a .int vs) {x : Int32} (hi : i < vs.length) (hj : j = Int32.ofNat i) (hg : g.method = m) (hs : g.stack = .int x :: .int j :: .ref a :: rest) (hd : decode c.code g.pc = .ok (.iastore, 1))
    (k : ∀ (T' : State) (h' : Heap), Stand p l e R s m args below meth c T' (locs ++ [⟨a, j.toNatClampNeg⟩]) cells slots → T'.heap = h' → Wr h h' a j.toNatClampNeg (.int x) → Ary Z h' a .int (vs.set i (.int x)) → Go p e below W T' { g with pc := g.pc + 1, stack := rest }) : Go p e below W T g := by
  obtain ⟨cl, h1, h2⟩ := A.inb hi hj
  obtain ⟨T', h', X', e', W', st⟩ := stI X hx hZ eT h1 h2 hg hs hd
  exact (k T' h' X' e' W' (A.set hi hj rfl W')).st st
theorem Go.castore (X : Stand p l e R s m args below meth c T locs cells slots) (hx : p.tables.exec = Jvm.exec) (hZ : Z.Warmed39 s.vm) (eT : T.heap = h) (A : Ary Z h a .char vs) {x y : Int32} (hn : nar .char x = y) (hi : i < vs.length) (hj : j = Int32.ofNat i) (hg : g.method = m) (hs : g.stack = .int x :: .int j :: .ref a :: rest) (hd : decode c.code g.pc = .ok (.castore, 1))
    (k : ∀ (T' : State) (h' : Heap), Stand p l e R s m args below meth c T' (locs ++ [⟨a, j.toNatClampNeg⟩]) cells slots → T'.heap = h' → Wr h h' a j.toNatClampNeg (.int y) → Ary Z h' a .char (vs.set i (.int y)) → Go p e below W T' { g with pc := g.pc + 1, stack := rest }) : Go p e below W T g := by
  obtain ⟨cl, h1, h2⟩ := A.inb hi hj
  obtain ⟨T', h', X', e', W', st⟩ := stC X hx hZ eT h1 h2 hg hs hd
  rw [hn] at W'
  exact (k T' h' X' e' W' (A.set hi hj (hn ▸ fits_nar_char x) W')).st st
theorem Go.bastore (X : Stand p l e R s m args below meth c T locs cells slots) (hx : p.tables.exec = Jvm.exec) (hZ : Z.Warmed39 s.vm) (eT : T.heap = h) (A : Ary Z h a .byte vs) {x : Int32} (hi : i < vs.length) (hj : j = Int32.ofNat i) (hg : g.method = m) (hs : g.stack = .int x :: .int j :: .ref a :: rest) (hd : decode c.code g.pc = .ok (.bastore, 1))
    (k : ∀ (T' : State) (h' : Heap), Stand p l e R s m args below meth c T' (locs ++ [⟨a, j.toNatClampNeg⟩]) cells slots → T'.heap = h' → Wr h h' a j.toNatClampNeg (.int x.toInt8.toInt32) → Ary Z h' a .byte (vs.set i (.int x.toInt8.toInt32)) → Go p e below W T' { g with pc := g.pc + 1, stack := rest }) : Go p e below W T g := by
  obtain ⟨cl, h1, h2⟩ := A.inb hi hj
  obtain ⟨T', h', X', e', W', st⟩ := stB X hx hZ eT h1 h2 hg hs hd
  exact (k T' h' X' e' W' (A.set hi hj (fits_nar_byte x) W')).st st
theorem Go.newP (X : Stand p l e R s m args below meth c T locs cells slots) (hx : p.tables.exec = Jvm.exec) (hZ : Z.Warmed39 s.vm) {aty : ArrayType} (w : (Jvm.Cond.arrayClass (newarray.typeOf aty)).before a0 Z = true) (eT : T.heap = h) (hg : g.method = m) (hd : decode c.code g.pc = .ok (.newarray aty, 2)) {j : Int32} {n : Nat} (hs : g.stack = .int j :: rest) (hj : j = Int32.ofNat n)
    (cap : Nat) (hcap : n ≤ cap) (hb : cap * 8 ≤ 536870912) (hc : cells + 1 ≤ R.cells) (hl : slots + cap ≤ R.slots)
    (k : ∀ (T' : State) (h' : Heap) (b : Addr), Stand p l e R s m args below meth c T' locs (cells + 1) (slots + cap) → T'.heap = h' → Ext h h' → b = h.size → Ary Z h' b (newarray.typeOf aty) (List.replicate n (defaultValue (newarray.typeOf aty))) → Go p e below W T' { g with pc := g.pc + 2, stack := .ref b :: rest }) : Go p e below W T g := by
  have q : n < 2 ^ 31 := by omega
  have n1 := own_nat q
  subst hj
  obtain ⟨T', h', cA, X', e', E', A', st⟩ := RoadKit.newP X hx hZ w eT hg hd hs n1.2.1 (cap := cap) (by rw [n1.1]; exact hcap) hb hc hl
  exact (k T' h' _ X' e' E' rfl (own_new q A')).st st
end OwnA

/-! own prelude, literals: walks that may load String constants (ldc), with what the constants hold (CHv of the library) -/
def HS (Z : State) (EL : List (String × Nat)) (s : State) (h0 : Heap) (vm : Vm) (h : Heap) : Prop := (∃ k, s.Since vm k ∧ k ≤ h.size) ∧ CHr Z EL s.vm h0 vm h
def WfH (Z : State) (EL : List (String × Nat)) (s : State) (rc rs : Nat) (Q : Option Value → Heap → List Loc → Prop) (o : Outcome) (t : State) : Prop := ∃ v L, o = .returned v ∧ Q v t.heap L ∧ CHr Z EL s.vm s.heap t.vm t.heap ∧ ReturnedEndW s o t L rc rs
def MtH (l : Launch) (Z : State) (EL : List (String × Nat)) (y : MethodName) (bytes : ByteArray) (ml : Nat) (ret : Option FieldType) (ws : List Jvm.Cond) (rm : Room) (as' : Array Value) (h0 : Heap) (Q : Option Value → Heap → List Loc → Prop) : Prop :=
  MetFree l y (head1 (Jvm.Cond.code y bytes ml ret :: ws) rm) (fun a U => a = as' ∧ Z.Warmed39 U.vm ∧ U.heap = h0 ∧ CHv Z EL U.vm h0) (fun _ _ _ _ _ => True) (fun _ U o U' => ∃ v L, o = .returned v ∧ Q v U'.heap L ∧ CHr Z EL U.vm U.heap U'.vm U'.heap ∧ ReturnedEndW U o U' L rm.cells rm.slots)
section OwnH
variable {p : Program} {l : Launch} {e : Env} {R : Room} {s : State} {m : MethodId} {args : Array Value} {below : List Frame} {meth : Method} {c : Code} {T T' : State} {locs : List Loc} {cells slots : Nat} {Z : State} {a0 : Array Value} {h h' h0 : Heap} {EL : List (String × Nat)} {vm0 : Vm} {g : JFrame} {W : Outcome → State → Prop} {Q Q' : Option Value → Heap → List Loc → Prop} {rc rs : Nat} {a x : Addr} {sl : Nat} {v : Value} {ws : List Addr} {rm : Room} {as' : Array Value}
theorem HS.ext (H : HS Z EL s h0 vm0 h) (E : Ext h h') : HS Z EL s h0 vm0 h' := ⟨by obtain ⟨k, a, b⟩ := H.1; exact ⟨k, a, Nat.le_trans b E.1⟩, H.2.trans (CHr.ext E H.2.1)⟩
theorem HS.wr (H : HS Z EL s h0 vm0 h) (Wq : Wr h h' a sl v) (S : Safe Z EL vm0 h a) : HS Z EL s h0 vm0 h' := ⟨by obtain ⟨k, q, b⟩ := H.1; exact ⟨k, q, by rw [Wq.size]; exact b⟩, H.2.trans (CHr.wr Wq S H.2.1)⟩
theorem HS.keep (H : HS Z EL s h0 vm0 h) (K : Keep h h' ws) (hs : ∀ x ∈ ws, Safe Z EL vm0 h x) : HS Z EL s h0 vm0 h' := ⟨by obtain ⟨k, q, b⟩ := H.1; exact ⟨k, q, Nat.le_trans b K.1⟩, H.2.trans (CHr.keep K hs H.2.1)⟩
theorem own_arySafe {ty : FieldType} {vs : List Value} (hal : Z.vm.Alike vm0) (A : Ary Z h x ty vs) (ht : ty ≠ .byte) : Safe Z EL vm0 h x := by obtain ⟨-, k, d, F⟩ := A; exact Safe.arv hal F ht
/-- no literal's cell, and there -/
def Sf (Z : State) (EL : List (String × Nat)) (vm : Vm) (h : Heap) (x : Addr) : Prop := Safe Z EL vm h x ∧ x < h.size
theorem Sf.ext (H : HS Z EL s h0 vm0 h) (E : Ext h h') (S : Sf Z EL vm0 h x) : Sf Z EL vm0 h' x := ⟨Safe.ext E H.2.1 S.1, Nat.lt_of_lt_of_le S.2 E.1⟩
theorem Sf.wr (H : HS Z EL s h0 vm0 h) (Wq : Wr h h' a sl v) (Sa : Safe Z EL vm0 h a) (S : Sf Z EL vm0 h x) : Sf Z EL vm0 h' x := ⟨Safe.wr Wq Sa H.2.1 S.1, by rw [Wq.size]; exact S.2⟩
theorem Sf.keep (H : HS Z EL s h0 vm0 h) (K : Keep h h' ws) (hs : ∀ x ∈ ws, Safe Z EL vm0 h x) (S : Sf Z EL vm0 h x) : Sf Z EL vm0 h' x := ⟨Safe.keep K hs H.2.1 S.1, Nat.lt_of_lt_of_le S.2 K.1⟩
theorem Sf.vm {vm1 : Vm} (hz : h.size ≤ h'.size) (C : ∀ x, x < h.size → Safe Z EL vm0 h x → Safe Z EL vm1 h' x) (S : Sf Z EL vm0 h x) : Sf Z EL vm1 h' x := ⟨C x S.2 S.1, Nat.lt_of_lt_of_le S.2 hz⟩
theorem Sf.born (H : HS Z EL s h0 vm0 h) (E : Ext h h') (q : x = h.size) (lt : x < h'.size) : Sf Z EL vm0 h' x := ⟨Safe.ext E H.2.1 (Safe.new (Nat.le_of_eq q.symm)), lt⟩
theorem Sf.bornK (H : HS Z EL s h0 vm0 h) (K : Keep h h' ws) (hs : ∀ x ∈ ws, Safe Z EL vm0 h x) (hz : h.size ≤ x) (lt : x < h'.size) : Sf Z EL vm0 h' x := ⟨Safe.keep K hs H.2.1 (Safe.new hz), lt⟩
/-- a String that has no bytes yet is no literal's -/
theorem own_nullSafe {vm : Vm} (hal : Z.vm.Alike vm) (E : Exa Z h x "java/lang/String") (Fv : Fld Z h x "java/lang/String" "value" "[B" .null) : Safe Z EL vm h x := fun B => by
  obtain ⟨p, -, u, a, -, q, -, F, e | e⟩ := B
  · have ha : h[q.sa]? = some q.sC := F.ha
    obtain ⟨cS, ⟨⟨-, -, -, ⟨c1, k1, i1, f1, -⟩, -, -, -, v1, -⟩, -⟩, -⟩ := F
    obtain ⟨cell, cf, k, i, f, g1, g2, -, -, -, -, g7⟩ := Fv
    rw [e] at g1
    cases ha.symm.trans g1
    obtain ⟨k3, e3, -⟩ := State.fieldFound?_setVm (s := Z) hal g2
    have e4 := (show (Wst Z vm h).fieldFound? _ _ _ = _ from e3).symm.trans f1
    simp only [Option.some.injEq, Prod.mk.injEq] at e4
    rw [← e4.2.2.2, g7] at v1
    simp at v1
  · have hd : h[q.sd]? = some q.SA := F.hd
    obtain ⟨cell, k, e1, e2, e3, -, -⟩ := E
    rw [e] at e1
    cases hd.symm.trans e1
    obtain ⟨cS, -, -, f, -⟩ := F
    have f' : vm.findClass "[B" = some q.SA.cls := f
    rw [hal.findClass] at f'
    obtain ⟨k1, q1, q2⟩ := Vm.findClass_spec f'
    obtain ⟨k2, q3, q4⟩ := Vm.findClass_spec e2
    cases q1.symm.trans q3
    exact absurd (q2.symm.trans q4) (by decide)
theorem MtH.body {y : MethodName} {bytes : ByteArray} {ml : Nat} {ret : Option FieldType} {ws : List Jvm.Cond} (hpn : plainFor y = true)
    (body : ∀ (p : Program) (e : Env) (s : State) (m : MethodId) (below : List Frame) (meth : Method) (c : Code) (s₁ : State), p.tables.exec = Jvm.exec → c.code = bytes → c.maxLocals = ml → s.vm.findClass y.cls = some m.cls → meth.name = y.name → meth.sig.returnType = ret → meth.locks = false →
      Z.Warmed39 s.vm → Stand p l e rm (s.setVm s.vm) m as' below meth c s₁ [] 0 0 → s₁.heap = h0 → HS Z EL s s.heap s.vm h0 → Go p e below (WfH Z EL s rm.cells rm.slots Q) s₁ (entryFrame m as' ml)) : MtH l Z EL y bytes ml ret ws rm as' h0 Q := by
  refine MetFree.of_bodySF hpn hisR ?_
  intro p e s m args below meth c s₁ Bd hml0 hP hK
  obtain ⟨rfl, hZ, hh, hH⟩ := hP
  have := body p e s m below meth c s₁ Bd.exec Bd.bytes hml0 (findClass_of_methodNamed Bd.named) (name_of_methodNamed Bd.named Bd.method).1 Bd.returns Bd.notSynchronized hZ (Stand.of_body Bd) (by rw [← hh, Bd.state]; rfl) ⟨⟨h0.size, (State.WarmedH.refl s).since _, Nat.le_refl _⟩, by rw [hh]; exact CHr.refl hH⟩
  obtain ⟨s₂, o, h1, h2, h3, v, L, h4, h5, h6, h7⟩ := this
  exact ⟨s₂, o, h1, h2, h3, v, L, h4, h5, h6, h7⟩
theorem own_endH (X : Stand p l e R (s.setVm vm0) m args below meth c T locs cells slots) (hZ : Z.Warmed39 vm0) (hEL : EW Z a0 EL) (H : HS Z EL s s.heap vm0 T.heap) (hc : cells ≤ rc) (hs : slots ≤ rs) {fs : List Frame} {v : Option Value} (hr : ReturnedEndW s (.returned v) (T.setFrames fs) locs cells slots) (hq : Q v T.heap locs) : WfH Z EL s rc rs Q (.returned v) (T.setFrames fs) := by
  have q : CHr Z EL vm0 T.heap T.vm T.heap := CHv.at X hZ hEL H.2.1
  have q2 : CHr Z EL s.vm s.heap T.vm T.heap := H.2.trans q
  exact ⟨v, locs, rfl, hq, q2, hr.1, hr.2.1, hr.2.2.1, hr.2.2.2.mono hc hs⟩
theorem Go.retVH (X : Stand p l e R (s.setVm vm0) m args below meth c T locs cells slots) (hx : p.tables.exec = Jvm.exec) (hlk : meth.locks = false) (hret : meth.sig.returnType = none) {pc : Nat} {Ls : Array Slot} (hd : decode c.code pc = .ok (.return_, 1)) (hc : cells ≤ rc) (hs : slots ≤ rs) (hZ : Z.Warmed39 vm0) (hEL : EW Z a0 EL) (H : HS Z EL s s.heap vm0 T.heap) (hq : Q none T.heap locs) : Go p e below (WfH Z EL s rc rs Q) T (mkF m pc Ls []) := by
  obtain ⟨k, hS, hk⟩ := H.1
  obtain ⟨fs, hr, hrun, hended, hE⟩ := X.leaveW (v := none) hS hk (fun _ => rfl) hlk
  exact ⟨_, _, X.returnOut hx hret hd hr, hrun, hended, own_endH X hZ hEL H hc hs hE hq⟩
theorem Go.retAH (X : Stand p l e R (s.setVm vm0) m args below meth c T locs cells slots) (hx : p.tables.exec = Jvm.exec) (hlk : meth.locks = false) {t : FieldType} (hret : meth.sig.returnType = some t) (ht : t.isReference = true) {pc : Nat} {Ls : Array Slot} {v : Value} (hv : v.isRef = true) {st : List Value} (hd : decode c.code pc = .ok (.areturn, 1)) (hc : cells ≤ rc) (hs : slots ≤ rs) (hZ : Z.Warmed39 vm0) (hEL : EW Z a0 EL) (H : HS Z EL s s.heap vm0 T.heap) (hq : Q (some v) T.heap locs) : Go p e below (WfH Z EL s rc rs Q) T (mkF m pc Ls (v :: st)) := by
  obtain ⟨k, hS, hk⟩ := H.1
  obtain ⟨fs, hr, hrun, hended, hE⟩ := X.leaveW (v := some v) hS hk (fun h => by rw [hret] at h; cases h) hlk
  exact ⟨_, _, own_retA X hx hv hret ht hd hr, hrun, hended, own_endH X hZ hEL H hc hs hE hq⟩
theorem Go.retIH (X : Stand p l e R (s.setVm vm0) m args below meth c T locs cells slots) (hx : p.tables.exec = Jvm.exec) (hlk : meth.locks = false) (hret : meth.sig.returnType = some .int) {pc : Nat} {Ls : Array Slot} {z : Int32} {st : List Value} (hd : decode c.code pc = .ok (.ireturn, 1)) (hc : cells ≤ rc) (hs : slots ≤ rs) (hZ : Z.Warmed39 vm0) (hEL : EW Z a0 EL) (H : HS Z EL s s.heap vm0 T.heap) (hq : Q (some (.int z)) T.heap locs) : Go p e below (WfH Z EL s rc rs Q) T (mkF m pc Ls (.int z :: st)) := by
  obtain ⟨k, hS, hk⟩ := H.1
  obtain ⟨fs, hr, hrun, hended, hE⟩ := X.leaveW (v := some (.int z)) hS hk (fun h => by rw [hret] at h; cases h) hlk
  exact ⟨_, _, own_retI X hx hret hd hr, hrun, hended, own_endH X hZ hEL H hc hs hE hq⟩
theorem Go.retNH (X : Stand p l e R (s.setVm vm0) m args below meth c T locs cells slots) (hx : p.tables.exec = Jvm.exec) (hlk : meth.locks = false) {t : FieldType} (hret : meth.sig.returnType = some t) (ht : t = .boolean ∨ t = .byte ∨ t = .char ∨ t = .short) {pc : Nat} {Ls : Array Slot} {z z' : Int32} {st : List Value} (hn : narrow t (.int z) = .int z') (hd : decode c.code pc = .ok (.ireturn, 1)) (hc : cells ≤ rc) (hs : slots ≤ rs) (hZ : Z.Warmed39 vm0) (hEL : EW Z a0 EL) (H : HS Z EL s s.heap vm0 T.heap) (hq : Q (some (.int z')) T.heap locs) : Go p e below (WfH Z EL s rc rs Q) T (mkF m pc Ls (.int z :: st)) := by
  obtain ⟨k, hS, hk⟩ := H.1
  obtain ⟨fs, hr, hrun, hended, hE⟩ := X.leaveW (v := some (.int z')) hS hk (fun h => by rw [hret] at h; cases h) hlk
  refine ⟨_, _, ?_, hrun, hended, own_endH X hZ hEL H hc hs hE hq⟩
  have hm' : T.vm.method? m = some meth := X.method'
  show Steps p.tables e below (T.setTop { method := m, pc := pc, locals := Ls, stack := _ :: st, locked := none }) _
  rcases ht with rfl | rfl | rfl | rfl
  all_goals
    jvm_step X.here [X.here.top, hx, hd, hm', hret, hn]
    first | (intro acts; rw [hr _ acts rfl rfl rfl]) | rw [hr _ _ rfl rfl rfl]
    exact Steps.refl _
theorem Go.ldcH (X : Stand p l e R (s.setVm vm0) m args below meth c T locs cells slots) (hx : p.tables.exec = Jvm.exec) (hZ : Z.Warmed39 vm0) {own text : String} {index : Nat} (hown : vm0.findClass own = some m.cls) (w : (Jvm.Cond.stringLink own index text).before a0 Z = true) (wS : ∀ a ∈ Bundle.stringAtoms, a.before a0 Z = true)
    (eT : T.heap = h) (H : HS Z EL s h0 vm0 h) (hEL : EW Z a0 EL) (hmem : (own, index) ∈ EL) {vs : List Value} (ht : (∀ c ∈ text.toList, c.toNat < 256) ∧ text.toList.map (fun c => Value.int (Jvm.Lit.byteI c.toNat.toUInt16)) = vs) (hvl : vs.length < 2 ^ 31)
    (hg : g.method = m) (hd : decode c.code g.pc = .ok (.ldc index, 2)) (n : Nat) (hn : 4 * text.toList.length ≤ n) (hbig : n ≤ 536870912) (hc : cells + 2 ≤ R.cells) (hl' : slots + (n + 4) ≤ R.slots)
    (k : ∀ (a b : Addr) (T' : State) (h' : Heap), Stand p l e R (s.setVm T'.vm) m args below meth c T' locs (cells + 2) (slots + (n + 4)) → T'.heap = h' → Ext h h' → Z.Warmed39 T'.vm → T'.vm.findClass own = some m.cls → HS Z EL s h0 T'.vm h' →
      Exa Z h' a "java/lang/String" → Fld Z h' a "java/lang/String" "coder" "B" (.int 0) → Fld Z h' a "java/lang/String" "value" "[B" (.ref b) → Ary Z h' b .byte vs → (∀ x, x < h.size → Safe Z EL vm0 h x → Safe Z EL T'.vm h' x) → (∀ x, Safe Z EL T'.vm h' x → x ≠ a ∧ x ≠ b) →
      Go p e below W T' { g with pc := g.pc + 2, stack := .ref a :: g.stack }) : Go p e below W T g := by
  obtain ⟨k0, hS, hk⟩ := H.1
  have n1 := own_nat hvl
  obtain ⟨a, T', h', k1, b, kk, X', e', E', hS', hk', hZ', ho', A1, F1, F2, V1, -, -, C1, -, D1, st⟩ := ldcCH X hx hZ hown w wS eT hS hk hEL hmem H.2.1 ht n1.2.1 n1.1 hg hd hn hbig hc hl'
  exact (k a b T' h' X' e' E' hZ' ho' ⟨⟨k1, hS', hk'⟩, H.2.trans C1⟩ A1 F1 F2 ⟨hvl, kk, _, V1⟩ (fun x hx' S => C1.safe hx' S) D1).st st
theorem Go.callNH (X : Stand p l e R (s.setVm vm0) m args below meth c T locs cells slots) (hx : p.tables.exec = Jvm.exec) (hZ : Z.Warmed39 vm0) {own : String} {index : Nat} {y : MethodName} {bytes : ByteArray} {maxL : Nat} (hy1 : y.name = "<init>") (hown : vm0.findClass own = some m.cls)
    (w1 : (Jvm.Cond.methodLink own index y).before a0 Z = true) (w2 : (Jvm.Cond.instanceMethod y).before a0 Z = true) (w3 : (Jvm.Cond.initialized y.cls).before a0 Z = true) (w4 : (Jvm.Cond.code y bytes maxL none).before a0 Z = true) (hy : y.cls ≠ "java/lang/invoke/MethodHandle" ∧ y.cls ≠ "java/lang/invoke/VarHandle") (Wd : Nat) (H : HS Z EL s h0 vm0 h) (hEL : EW Z a0 EL)
    (hM : MtH l Z EL y bytes maxL none [] rm as' h Q') (eT : T.heap = h) (hf : rm.frames + 1 ≤ R.frames) (hl : Wd + (maxL + 11) + rm.locals ≤ R.locals) (hc : cells + rm.cells ≤ R.cells) (hs : slots + rm.slots ≤ R.slots)
    {a : Addr} {argsL rest : List Value} (hg : g.method = m) (hsize : g.locals.size = c.maxLocals) (hlen : ∀ sig, parseMethodDescriptor y.desc = some sig → argsL.length = sig.parameters.length) (hstack : g.stack = argsL.reverse ++ .ref a :: rest) (ha : (Value.ref a :: argsL).toArray = as') (hWd : 2 * g.monitorRoom + (rest.map fun v => v.category).sum ≤ Wd) (hd : decode c.code g.pc = .ok (.invokespecial index, 3))
    (k : ∀ (v : Option Value) (T' : State) (L : List Loc), Stand p l e R (s.setVm T'.vm) m args below meth c T' (locs ++ L) (cells + rm.cells) (slots + rm.slots) → Q' v T'.heap L → Z.Warmed39 T'.vm → T'.vm.findClass own = some m.cls → HS Z EL s h0 T'.vm T'.heap → (∀ x, x < h.size → Safe Z EL vm0 h x → Safe Z EL T'.vm T'.heap x) → Go p e below W T' { g with pc := g.pc + 3, stack := v.toList ++ rest }) : Go p e below W T g := by
  obtain ⟨k0, hS, hk⟩ := H.1
  obtain ⟨v, vm₁, ⟨T1, L1, c1, n1⟩, -, X1, hS1, hg1, hP, st⟩ := X.specialBackS hx hy1 hown (mvT (s := s.setVm vm0) hZ w1) (mvT (s := s.setVm vm0) hZ w2) (mvT (s := s.setVm vm0) hZ w4) hy (backOfSH (W := Wd) (a0 := a0) hM hZ w4 w3 hf hl hEL H.2.1) hg hsize (Steps.refl _) hlen hstack hWd hd (fun _ _ => ⟨ha, eT, hc, hs⟩)
  obtain ⟨L, hQ, e1, e2, e3, C1⟩ := hP
  dsimp only [Pt.U, Pt.locs, Pt.cells, Pt.slots] at X1 e1 e2 e3 hQ C1 hS1 hg1 st
  subst e1 e2 e3
  have hW1 : Z.Warmed39 T1.vm := State.Warmed39.trans (t := s.setVm vm0) hZ hS1.1
  exact (k v T1 L X1 hQ hW1 (by rw [hS1.1.alike.findClass]; exact hown) ⟨⟨_, hS.trans hS1 (Nat.le_trans hk (by rw [← eT]; exact hg1)), Nat.le_refl _⟩, H.2.trans C1⟩ (fun x hx' S => C1.safe hx' S)).st fun _ q => st.trans q
theorem Go.callSH (X : Stand p l e R (s.setVm vm0) m args below meth c T locs cells slots) (hx : p.tables.exec = Jvm.exec) (hZ : Z.Warmed39 vm0) {own : String} {index : Nat} {y : MethodName} {bytes : ByteArray} {maxL : Nat} {ret : Option FieldType} (hown : vm0.findClass own = some m.cls)
    (w1 : (Jvm.Cond.methodLink own index y).before a0 Z = true) (w2 : (Jvm.Cond.static y).before a0 Z = true) (w3 : (Jvm.Cond.initialized y.cls).before a0 Z = true) (w4 : (Jvm.Cond.code y bytes maxL ret).before a0 Z = true) (hy : y.cls ≠ "java/lang/invoke/MethodHandle" ∧ y.cls ≠ "java/lang/invoke/VarHandle") (Wd : Nat) (H : HS Z EL s h0 vm0 h) (hEL : EW Z a0 EL)
    (hM : MtH l Z EL y bytes maxL ret [] rm as' h Q') (eT : T.heap = h) (hf : rm.frames + 1 ≤ R.frames) (hl : Wd + (maxL + 11) + rm.locals ≤ R.locals) (hc : cells + rm.cells ≤ R.cells) (hs : slots + rm.slots ≤ R.slots)
    {argsL rest : List Value} (hg : g.method = m) (hsize : g.locals.size = c.maxLocals) (hlen : ∀ sig, parseMethodDescriptor y.desc = some sig → argsL.length = sig.parameters.length) (hstack : g.stack = argsL.reverse ++ rest) (ha : argsL.toArray = as') (hWd : 2 * g.monitorRoom + (rest.map fun v => v.category).sum ≤ Wd) (hd : decode c.code g.pc = .ok (.invokestatic index, 3))
    (k : ∀ (v : Option Value) (T' : State) (L : List Loc), Stand p l e R (s.setVm T'.vm) m args below meth c T' (locs ++ L) (cells + rm.cells) (slots + rm.slots) → Q' v T'.heap L → Z.Warmed39 T'.vm → T'.vm.findClass own = some m.cls → HS Z EL s h0 T'.vm T'.heap → (∀ x, x < h.size → Safe Z EL vm0 h x → Safe Z EL T'.vm T'.heap x) → Go p e below W T' { g with pc := g.pc + 3, stack := v.toList ++ rest }) : Go p e below W T g := by
  obtain ⟨k0, hS, hk⟩ := H.1
  obtain ⟨v, vm₁, ⟨T1, L1, c1, n1⟩, -, X1, hS1, hg1, hP, st⟩ := callSS X hx hown (mvT (s := s.setVm vm0) hZ w1) (mvT (s := s.setVm vm0) hZ w2) (mvT (s := s.setVm vm0) hZ w3) (mvT (s := s.setVm vm0) hZ w4) hy (backOfSH (W := Wd) (a0 := a0) hM hZ w4 w3 hf hl hEL H.2.1) hg hsize hlen hstack hWd hd (fun _ _ => ⟨ha, eT, hc, hs⟩)
  obtain ⟨L, hQ, e1, e2, e3, C1⟩ := hP
  dsimp only [Pt.U, Pt.locs, Pt.cells, Pt.slots] at X1 e1 e2 e3 hQ C1 hS1 hg1 st
  subst e1 e2 e3
  have hW1 : Z.Warmed39 T1.vm := State.Warmed39.trans (t := s.setVm vm0) hZ hS1.1
  exact (k v T1 L X1 hQ hW1 (by rw [hS1.1.alike.findClass]; exact hown) ⟨⟨_, hS.trans hS1 (Nat.le_trans hk (by rw [← eT]; exact hg1)), Nat.le_refl _⟩, H.2.trans C1⟩ (fun x hx' S => C1.safe hx' S)).st fun _ q => st.trans q
end OwnH

/-! own prelude: private and super calls, arraycopy -/
section OwnC
variable {p : Program} {l : Launch} {e : Env} {R : Room} {s : State} {m : MethodId} {args : Array Value} {below : List Frame} {meth : Method} {c : Code} {T T' : State} {locs : List Loc} {cells slots : Nat} {Z : State} {a0 : Array Value} {h h' h0 : Heap} {g : JFrame} {W : Outcome → State → Prop} {Q Q' : Option Value → Heap → List Loc → Prop} {rc rs : Nat} {rm : Room} {as' : Array Value}
theorem own_notFace {y y1 : MethodName} (h1 : NotFace s y1) (hn : ∃ r, s.methodNamed? y1 = some r) (hc : y1.cls = y.cls) : NotFace s y := fun r0 q0 => by
  obtain ⟨r, hr⟩ := hn
  obtain ⟨kr, k1, k2⟩ := h1 r hr
  have a := findClass_of_methodNamed hr
  have b := findClass_of_methodNamed q0
  rw [hc] at a
  have : r.cls = r0.cls := Option.some.inj (a.symm.trans b)
  exact ⟨kr, this ▸ k1, k2⟩
theorem own_same {y : MethodName} (w : (Jvm.Cond.instanceMethod y).before a0 Z = true) (hy : y.cls ≠ "java/lang/invoke/MethodHandle" ∧ y.cls ≠ "java/lang/invoke/VarHandle") (nf : NotFace Z y) : (Jvm.Cond.sameMethod y.cls y.cls y.name y.desc).before a0 Z = true := by
  obtain ⟨mk, methM, hnamed, hmethM, -, -⟩ := Cond.instanceMethod_spec w
  have hfound := State.methodFound?_of_named hnamed hy
  obtain ⟨kr, k1, k2⟩ := nf mk hnamed
  have hc := findClass_of_methodNamed hnamed
  have hn' : Z.methodNamed? ⟨y.cls, y.name, y.desc⟩ = some mk := hnamed
  simp [Cond.before, Cond.holds, Cond.value, hc, hfound, hn', k1, k2]
theorem Go.callP (X : Stand p l e R s m args below meth c T locs cells slots) (hx : p.tables.exec = Jvm.exec) (hZ : Z.Warmed39 s.vm) {own C : String} {index : Nat} {y : MethodName} {bytes : ByteArray} {maxL : Nat} {ret : Option FieldType} (hown : s.vm.findClass own = some m.cls)
    (w1 : (Jvm.Cond.methodLink own index y).before a0 Z = true) (w2 : (Jvm.Cond.instanceMethod y).before a0 Z = true) (w3 : (Jvm.Cond.selects C y y).before a0 Z = true) (wp : (Jvm.Cond.privateMethod y).before a0 Z = true) (w5 : (Jvm.Cond.initialized y.cls).before a0 Z = true) (w6 : (Jvm.Cond.code y bytes maxL ret).before a0 Z = true) (hy : y.cls ≠ "java/lang/invoke/MethodHandle" ∧ y.cls ≠ "java/lang/invoke/VarHandle") (Wd : Nat)
    (hM : Mt l Z y bytes maxL ret [] rm as' h Q') (eT : T.heap = h) (hf : rm.frames + 1 ≤ R.frames) (hl : Wd + (maxL + 11) + rm.locals ≤ R.locals) (hc : cells + rm.cells ≤ R.cells) (hs : slots + rm.slots ≤ R.slots)
    {b : Addr} {K : String} (E : Exa Z h b K) {argsL rest : List Value} (hg : g.method = m) (hsize : g.locals.size = c.maxLocals) (hlen : ∀ sig, parseMethodDescriptor y.desc = some sig → argsL.length = sig.parameters.length) (hstack : g.stack = argsL.reverse ++ .ref b :: rest) (ha : (Value.ref b :: argsL).toArray = as') (hWd : 2 * g.monitorRoom + (rest.map fun v => v.category).sum ≤ Wd) (hd : decode c.code g.pc = .ok (.invokevirtual index, 3))
    (k : ∀ (v : Option Value) (T' : State) (L : List Loc), Stand p l e R s m args below meth c T' (locs ++ L) (cells + rm.cells) (slots + rm.slots) → Q' v T'.heap L → Go p e below W T' { g with pc := g.pc + 3, stack := v.toList ++ rest }) : Go p e below W T g := by
  have hp : s.PrivateAt y := Cond.privateMethod_at (mvP (args := #[]) hZ wp)
  obtain ⟨c2, r2, m2, -, -, q3, -, kP, hkP, hkPi⟩ := Cond.selects_spec (mvT (args := args) hZ w3)
  have hself : (Jvm.Cond.selects y.cls y y).before args s = true := selects_self_of_private (findClass_of_methodNamed q3) hkP hkPi hp (mvT hZ w2) hy
  obtain ⟨cell, z1, z2⟩ := E.cell
  obtain ⟨v, vm₁, ⟨T1, L1, c1, n1⟩, -, X1, hP, st⟩ := X.privateBack hx hown (mvT hZ w1) (mvT hZ w2) hself hp (mvT hZ w6) hy (backOf (W := Wd) hM hZ w6 w5 hf hl) hg hsize (Steps.refl _) (a := b) (by rw [eT]; exact z1) z2 hlen hstack hWd hd (fun _ _ => ⟨ha, eT, hc, hs⟩)
  obtain ⟨L, hQ, e1, e2, e3⟩ := hP
  dsimp only [Pt.U, Pt.locs, Pt.cells, Pt.slots] at X1 e1 e2 e3 hQ st
  subst e1 e2 e3
  exact (k v T1 L X1 hQ).st fun _ q => st.trans q
theorem Go.callU (X : Stand p l e R s m args below meth c T locs cells slots) (hx : p.tables.exec = Jvm.exec) (hZ : Z.Warmed39 s.vm) {own : String} {index : Nat} {y : MethodName} {bytes : ByteArray} {maxL : Nat} {ret : Option FieldType} (hown : s.vm.findClass own = some m.cls)
    (w1 : (Jvm.Cond.methodLink own index y).before a0 Z = true) (w2 : (Jvm.Cond.sameMethod y.cls y.cls y.name y.desc).before a0 Z = true) (w3 : (Jvm.Cond.instanceMethod y).before a0 Z = true) (w4 : (Jvm.Cond.superclass own y.cls).before a0 Z = true) (w5 : (Jvm.Cond.initialized y.cls).before a0 Z = true) (w6 : (Jvm.Cond.code y bytes maxL ret).before a0 Z = true) (hn : y.name ≠ "<init>") (Wd : Nat)
    (hM : Mt l Z y bytes maxL ret [] rm as' h Q') (eT : T.heap = h) (hf : rm.frames + 1 ≤ R.frames) (hl : Wd + (maxL + 11) + rm.locals ≤ R.locals) (hc : cells + rm.cells ≤ R.cells) (hs : slots + rm.slots ≤ R.slots)
    {b : Addr} {K : String} (E : Exa Z h b K) {argsL rest : List Value} (hg : g.method = m) (hsize : g.locals.size = c.maxLocals) (hlen : ∀ sig, parseMethodDescriptor y.desc = some sig → argsL.length = sig.parameters.length) (hstack : g.stack = argsL.reverse ++ .ref b :: rest) (ha : (Value.ref b :: argsL).toArray = as') (hWd : 2 * g.monitorRoom + (rest.map fun v => v.category).sum ≤ Wd) (hd : decode c.code g.pc = .ok (.invokespecial index, 3))
    (k : ∀ (v : Option Value) (T' : State) (L : List Loc), Stand p l e R s m args below meth c T' (locs ++ L) (cells + rm.cells) (slots + rm.slots) → Q' v T'.heap L → Go p e below W T' { g with pc := g.pc + 3, stack := v.toList ++ rest }) : Go p e below W T g := by
  obtain ⟨v, vm₁, ⟨T1, L1, c1, n1⟩, -, X1, hP, st⟩ := superBack X hx hZ hown w1 w2 w3 w4 hn (backOf (W := Wd) hM hZ w6 w5 hf hl) eT (Ins.self E) hg hsize w6 hlen hstack hWd hd (fun _ _ => ⟨ha, eT, hc, hs⟩)
  obtain ⟨L, hQ, e1, e2, e3⟩ := hP
  dsimp only [Pt.U, Pt.locs, Pt.cells, Pt.slots] at X1 e1 e2 e3 hQ st
  subst e1 e2 e3
  exact (k v T1 L X1 hQ).st fun _ q => st.trans q
theorem Go.acopy (X : Stand p l e R s m args below meth c T locs cells slots) (hx : p.tables.exec = Jvm.exec) (hZ : Z.Warmed39 s.vm) {own : String} {index : Nat} (hown : s.vm.findClass own = some m.cls)
    (w1 : (Jvm.Cond.methodLink own index Jvm.Stand.acN).before a0 Z = true) (w2 : (Jvm.Cond.native Jvm.Stand.acN).before a0 Z = true) (w3 : (Jvm.Cond.static Jvm.Stand.acN).before a0 Z = true) (w4 : (Jvm.Cond.initialized "java/lang/System").before a0 Z = true) (eT : T.heap = h)
    {a b : Addr} {ty : FieldType} {vs vd us : List Value} (A : Ary Z h a ty vs) (B : Ary Z h b ty vd) (hp : refKind ty = false) {jn jd js : Int32} {sp dp nn : Nat} (hjn : jn = Int32.ofNat nn) (hjd : jd = Int32.ofNat dp) (hjs : js = Int32.ofNat sp) (h4 : sp + nn ≤ vs.length) (h5 : dp + nn ≤ vd.length)
    (hu : vd.take dp ++ (List.range nn).map (fun i => vs.getD (sp + i) (.int 0)) ++ vd.drop (dp + nn) = us) (hul : us.length = vd.length) {n0 : Nat} (N : Fr n0 locs) (ge : n0 ≤ b)
    (hg : g.method = m) (hsize : g.locals.size = c.maxLocals) {rest : List Value} (hst : g.stack = .int jn :: .int jd :: .ref b :: .int js :: .ref a :: rest) (hd : decode c.code g.pc = .ok (.invokestatic index, 3))
    (hf : 1 ≤ R.frames) (Wd : Nat) (hW : 2 * g.monitorRoom + (rest.map fun v => v.category).sum ≤ Wd) (hlo : Wd + (nativeFrameWords "java/lang/System" "arraycopy" 5 + 11) ≤ R.locals)
    (k : ∀ (T' : State) (h' : Heap) (L : List Loc), Stand p l e R s m args below meth c T' L cells slots → T'.heap = h' → Fr n0 L → Keep h h' [b] → Ary Z h' b ty us → Go p e below W T' { g with pc := g.pc + 3, stack := rest }) : Go p e below W T g := by
  obtain ⟨qa, ka, da, FA⟩ := A
  obtain ⟨qb, kb, db, FB⟩ := B
  subst hjn hjd hjs
  have n1 := own_nat qa; have n2 := own_nat qb
  have m1 := own_nat (n := nn) (by omega); have m2 := own_nat (n := dp) (by omega); have m3 := own_nat (n := sp) (by omega)
  have hus : (List.range nn).map (fun i => vs.getD (sp + i) (.int 0)) = (List.range (Int32.ofNat nn).toNatClampNeg).map fun i => vs.getD ((Int32.ofNat sp).toNatClampNeg + i) da := by
    rw [m1.1, m3.1]
    apply List.map_congr_left
    intro i hi
    have := List.mem_range.mp hi
    simp [List.getD_eq_getElem?_getD, List.getElem?_eq_getElem (show sp + i < vs.length by omega)]
  obtain ⟨T', h', L, X', e', N', K', V', st⟩ := cpA X hx hZ hown w1 w2 w3 w4 eT FA FB (Or.inl ⟨rfl, hp⟩) m3.2.1 m2.2.1 m1.2.1 (by rw [m3.1, m1.1, n1.1]; exact h4) (by rw [m2.1, m1.1, n2.1]; exact h5) hus (by rw [m2.1, m1.1]; exact h5) N ge hg hsize hst hd hf hW hlo
  rw [m2.1, m1.1, hu] at V'
  exact (k T' h' L X' e' N' K' ⟨by rw [hul]; exact qb, kb, db, by rw [hul]; exact V'⟩).st st
end OwnC

/-! own prelude: walks beneath which a stack trace is filled in -/
def MtK (l : Launch) (Z : State) (EL : List (String × Nat)) (y : MethodName) (bytes : ByteArray) (ml : Nat) (ret : Option FieldType) (ws : List Jvm.Cond) (rm : Room) (as' : Array Value) (h0 : Heap) (Q : Option Value → Heap → List Loc → Prop) : Prop :=
  MetFree l y (head1 (Jvm.Cond.code y bytes ml ret :: ws) rm) (fun a U => a = as' ∧ Z.Warmed39 U.vm ∧ U.heap = h0 ∧ CHv Z EL U.vm h0) (fun _ _ bl s _ => s.vm.MethodsKnown ∧ s.vm.FramesKnown bl) (fun _ U o U' => ∃ v L, o = .returned v ∧ Q v U'.heap L ∧ CHr Z EL U.vm U.heap U'.vm U'.heap ∧ ReturnedEndW U o U' L rm.cells rm.slots)
section OwnK
open Jvm.Free.Exc
variable {p : Program} {l : Launch} {e : Env} {R : Room} {s : State} {m : MethodId} {args : Array Value} {below : List Frame} {meth : Method} {c : Code} {T T' : State} {locs : List Loc} {cells slots : Nat} {Z : State} {a0 : Array Value} {h h' h0 : Heap} {EL : List (String × Nat)} {vm0 : Vm} {g : JFrame} {W : Outcome → State → Prop} {Q Q' : Option Value → Heap → List Loc → Prop} {rc rs : Nat} {rm : Room} {as' : Array Value}
theorem MtK.body {y : MethodName} {bytes : ByteArray} {ml : Nat} {ret : Option FieldType} {ws : List Jvm.Cond} (hpn : plainFor y = true)
    (body : ∀ (p : Program) (e : Env) (s : State) (m : MethodId) (below : List Frame) (meth : Method) (c : Code) (s₁ : State), p.tables.exec = Jvm.exec → c.code = bytes → c.maxLocals = ml → s.vm.findClass y.cls = some m.cls → meth.name = y.name → meth.sig.returnType = ret → meth.locks = false →
      Z.Warmed39 s.vm → Stand p l e rm (s.setVm s.vm) m as' below meth c s₁ [] 0 0 → s₁.heap = h0 → HS Z EL s s.heap s.vm h0 → s.heap = h0 → s.vm.MethodsKnown → s.vm.FramesKnown below → Go p e below (WfH Z EL s rm.cells rm.slots Q) s₁ (entryFrame m as' ml)) : MtK l Z EL y bytes ml ret ws rm as' h0 Q := by
  refine MetFree.of_bodySF hpn hisR ?_
  intro p e s m args below meth c s₁ Bd hml0 hP hK
  obtain ⟨rfl, hZ, hh, hH⟩ := hP
  have := body p e s m below meth c s₁ Bd.exec Bd.bytes hml0 (findClass_of_methodNamed Bd.named) (name_of_methodNamed Bd.named Bd.method).1 Bd.returns Bd.notSynchronized hZ (Stand.of_body Bd) (by rw [← hh, Bd.state]; rfl) ⟨⟨h0.size, (State.WarmedH.refl s).since _, Nat.le_refl _⟩, by rw [hh]; exact CHr.refl hH⟩ hh hK.1 hK.2
  obtain ⟨s₂, o, h1, h2, h3, v, L, h4, h5, h6, h7⟩ := this
  exact ⟨s₂, o, h1, h2, h3, v, L, h4, h5, h6, h7⟩
theorem Go.callSK (X : Stand p l e R (s.setVm vm0) m args below meth c T locs cells slots) (hx : p.tables.exec = Jvm.exec) (hZ : Z.Warmed39 vm0) {own : String} {index : Nat} {y : MethodName} {bytes : ByteArray} {maxL : Nat} {ret : Option FieldType} (hown : vm0.findClass own = some m.cls)
    (w1 : (Jvm.Cond.methodLink own index y).before a0 Z = true) (w2 : (Jvm.Cond.static y).before a0 Z = true) (w3 : (Jvm.Cond.initialized y.cls).before a0 Z = true) (w4 : (Jvm.Cond.code y bytes maxL ret).before a0 Z = true) (hy : y.cls ≠ "java/lang/invoke/MethodHandle" ∧ y.cls ≠ "java/lang/invoke/VarHandle") (Wd : Nat) (H : HS Z EL s h0 vm0 h) (hEL : EW Z a0 EL) (hTK : s.vm.MethodsKnown) (hBl : s.vm.FramesKnown below)
    (hM : MtK l Z EL y bytes maxL ret [] rm as' h Q') (eT : T.heap = h) (hf : rm.frames + 1 ≤ R.frames) (hl : Wd + (maxL + 11) + rm.locals ≤ R.locals) (hc : cells + rm.cells ≤ R.cells) (hs : slots + rm.slots ≤ R.slots)
    {argsL rest : List Value} (hg : g.method = m) (hsize : g.locals.size = c.maxLocals) (hlen : ∀ sig, parseMethodDescriptor y.desc = some sig → argsL.length = sig.parameters.length) (hstack : g.stack = argsL.reverse ++ rest) (ha : argsL.toArray = as') (hWd : 2 * g.monitorRoom + (rest.map fun v => v.category).sum ≤ Wd) (hd : decode c.code g.pc = .ok (.invokestatic index, 3))
    (k : ∀ (v : Option Value) (T' : State) (L : List Loc), Stand p l e R (s.setVm T'.vm) m args below meth c T' (locs ++ L) (cells + rm.cells) (slots + rm.slots) → Q' v T'.heap L → Z.Warmed39 T'.vm → T'.vm.findClass own = some m.cls → HS Z EL s h0 T'.vm T'.heap → (∀ x, x < h.size → Safe Z EL vm0 h x → Safe Z EL T'.vm T'.heap x) → Go p e below W T' { g with pc := g.pc + 3, stack := v.toList ++ rest }) : Go p e below W T g := by
  obtain ⟨k0, hS, hk⟩ := H.1
  have hal : s.vm.Alike vm0 := hS.1.alike
  obtain ⟨v, vm₁, ⟨T1, L1, c1, n1⟩, -, X1, hS1, hg1, hP, st⟩ := callSS X hx hown (mvT (s := s.setVm vm0) hZ w1) (mvT (s := s.setVm vm0) hZ w2) (mvT (s := s.setVm vm0) hZ w3) (mvT (s := s.setVm vm0) hZ w4) hy (backOfSKH (W := Wd) (a0 := a0) hM hZ w4 w3 hf hl hEL H.2.1 (hTK.alikeC hal) (hBl.alikeC hal)) hg hsize hlen hstack hWd hd (fun _ _ => ⟨ha, eT, hc, hs⟩)
  obtain ⟨L, hQ, e1, e2, e3, C1⟩ := hP
  dsimp only [Pt.U, Pt.locs, Pt.cells, Pt.slots] at X1 e1 e2 e3 hQ C1 hS1 hg1 st
  subst e1 e2 e3
  have hW1 : Z.Warmed39 T1.vm := State.Warmed39.trans (t := s.setVm vm0) hZ hS1.1
  exact (k v T1 L X1 hQ hW1 (by rw [hS1.1.alike.findClass]; exact hown) ⟨⟨_, hS.trans hS1 (Nat.le_trans hk (by rw [← eT]; exact hg1)), Nat.le_refl _⟩, H.2.trans C1⟩ (fun x hx' S => C1.safe hx' S)).st fun _ q => st.trans q
theorem Go.callUp (X : Stand p l e R s m args below meth c T locs cells slots) (hx : p.tables.exec = Jvm.exec) (hZ : Z.Warmed39 s.vm) {own C owner : String} {index : Nat} {y z : MethodName} {bytes : ByteArray} {maxL : Nat} {ret : Option FieldType} (hown : s.vm.findClass own = some m.cls)
    (w1 : (Jvm.Cond.methodLink own index y).before a0 Z = true) (wm : (Jvm.Cond.sameMethod y.cls owner y.name y.desc).before a0 Z = true) (w2 : (Jvm.Cond.declares ⟨owner, y.name, y.desc⟩).before a0 Z = true) (ho : owner ≠ "java/lang/invoke/MethodHandle" ∧ owner ≠ "java/lang/invoke/VarHandle") (w3 : (Jvm.Cond.selects C y z).before a0 Z = true) (w4 : (Jvm.Cond.instanceMethod z).before a0 Z = true) (w5 : (Jvm.Cond.initialized z.cls).before a0 Z = true) (w6 : (Jvm.Cond.code z bytes maxL ret).before a0 Z = true) (Wd : Nat)
    (hM : Mt l Z z bytes maxL ret [] rm as' h Q') (eT : T.heap = h) (hf : rm.frames + 1 ≤ R.frames) (hl : Wd + (maxL + 11) + rm.locals ≤ R.locals) (hc : cells + rm.cells ≤ R.cells) (hs : slots + rm.slots ≤ R.slots)
    {b : Addr} (E : Exa Z h b C) {argsL rest : List Value} (hg : g.method = m) (hsize : g.locals.size = c.maxLocals) (hlen : ∀ sig, parseMethodDescriptor y.desc = some sig → argsL.length = sig.parameters.length) (hstack : g.stack = argsL.reverse ++ .ref b :: rest) (ha : (Value.ref b :: argsL).toArray = as') (hWd : 2 * g.monitorRoom + (rest.map fun v => v.category).sum ≤ Wd) (hd : decode c.code g.pc = .ok (.invokevirtual index, 3))
    (k : ∀ (v : Option Value) (T' : State) (L : List Loc), Stand p l e R s m args below meth c T' (locs ++ L) (cells + rm.cells) (slots + rm.slots) → Q' v T'.heap L → Go p e below W T' { g with pc := g.pc + 3, stack := v.toList ++ rest }) : Go p e below W T g := by
  obtain ⟨cB, kB, q1, q2, q3⟩ := isOf hZ eT E
  obtain ⟨v, vm₁, ⟨T1, L1, c1, n1⟩, -, X1, hP, st⟩ := X.virtualBackUp hx hown (mvT hZ w1) (mvT hZ wm) (mvT hZ w2) ho (mvT hZ w3) (mvT hZ w4) (backOf (W := Wd) hM hZ w6 w5 hf hl) q1 q3 hg hsize (Steps.refl _) hlen hstack hWd hd (fun _ _ => ⟨ha, eT, hc, hs⟩)
  obtain ⟨L, hQ, e1, e2, e3⟩ := hP
  dsimp only [Pt.U, Pt.locs, Pt.cells, Pt.slots] at X1 e1 e2 e3 hQ st
  subst e1 e2 e3
  exact (k v T1 L X1 hQ).st fun _ q => st.trans q
theorem own_chain2 {rc : String} {x y : Jvm.Free.Exc.Link} (h1 : ∀ d ∈ ([.code (ctor 1 x.1) x.2.2 2 none, .initialized x.1, .methodLink x.1 x.2.1 (ctor 1 y.1), .instanceMethod (ctor 1 y.1), .code (ctor 1 y.1) y.2.2 2 none, .initialized y.1, .methodLink y.1 y.2.1 (ctor 1 tN), .instanceMethod (ctor 1 tN)] : List Jvm.Cond), d.before a0 Z = true)
    (h2 : ∀ d ∈ ((.code (ctor 1 tN) (topCode 1) 2 none :: .fieldLink tN 31 tN "detailMessage" msgD :: excAtoms rc) : List Jvm.Cond), d.before a0 Z = true) : (chainTab 1 rc [x, y]).before a0 Z = true := by
  have c0 : (chainTab 1 rc []).before a0 Z = true := conj_of h2
  have c1 : (chainTab 1 rc [y]).before a0 Z = true := conj_of fun d hd => by
    simp only [List.mem_cons, List.not_mem_nil, or_false] at hd
    rcases hd with rfl | rfl | rfl | rfl | rfl
    · exact h1 _ (by simp)
    · exact h1 _ (by simp)
    · exact h1 _ (by simp [headName])
    · exact h1 _ (by simp [headName])
    · exact c0
  exact conj_of fun d hd => by
    simp only [List.mem_cons, List.not_mem_nil, or_false] at hd
    rcases hd with rfl | rfl | rfl | rfl | rfl
    · exact h1 _ (by simp)
    · exact h1 _ (by simp)
    · exact h1 _ (by simp [headName])
    · exact h1 _ (by simp [headName])
    · exact c1
theorem Go.exc1 (X : Stand p l e R (s.setVm vm0) m args below meth c T locs cells slots) (hx : p.tables.exec = Jvm.exec) (hlt : l.stackTraces = true) (hZ : Z.Warmed39 vm0) {own rcl : String} (hown : vm0.findClass own = some m.cls) {links : List Jvm.Free.Exc.Link} {ic n : Nat} (hok : linksOk 1 links = true)
    (w1 : (Jvm.Cond.methodLink own ic (ctor 1 (headName links))).before a0 Z = true) (w2 : (Jvm.Cond.instanceMethod (ctor 1 (headName links))).before a0 Z = true) (wT : (chainTab 1 rcl links).before a0 Z = true) (wi : (Jvm.Cond.instantiable rcl n).before a0 Z = true) (r : ∀ d ∈ twoRefs, d.before a0 Z = true)
    (hT0 : ThS Z s.heap) (hT : ThS Z h) (hTK : s.vm.MethodsKnown) (hBl : s.vm.FramesKnown below) (H : HS Z EL s h0 vm0 h) (eT : T.heap = h) {a : Addr} (E : Exa Z h a rcl) (N : Unt h a) (B : Fld Z h a tN "backtrace" obD .null) (B2 : Fld Z h a tN "detailMessage" msgD .null) {msg : Value} (hmsg : msg.isRef = true)
    (hg : g.method = m) (hsize : g.locals.size = c.maxLocals) {rest : List Value} (hs : g.stack = msg :: .ref a :: rest) (hd : decode c.code g.pc = .ok (.invokespecial ic, 3))
    (hf : 4 + links.length ≤ R.frames) (hlo : 2 * g.monitorRoom + (rest.map fun v => v.category).sum + (56 + 14 * links.length) ≤ R.locals) (hc : cells + 1 ≤ R.cells) (hsl : slots + 2752 ≤ R.slots)
    (k : ∀ (T' : State) (h' : Heap), Stand p l e R (s.setVm vm0) m args below meth c T' (locs ++ sixLocs Z a) (cells + 1) (slots + 2752) → T'.heap = h' → Keep h h' [a] → Exa Z h' a rcl → Fld Z h' a tN "detailMessage" msgD msg → Go p e below W T' { g with pc := g.pc + 3, stack := rest }) : Go p e below W T g := by
  obtain ⟨k0, hS, hk⟩ := H.1
  have hal : s.vm.Alike vm0 := hS.1.alike
  obtain ⟨T', h', X', e', K', E', N', F', -, -, st⟩ := excL1 X hx hlt hZ hown hok w1 w2 wT wi r hT0 hT (hTK.alikeC hal) (hBl.alikeC hal) eT E N B B2 hmsg hg hsize hs hd hf hlo hc hsl
  exact (k T' h' X' e' (keep_of_kp K') E' F').st st
end OwnK

/-! own prelude: Throwable's parts where the sheet holds the words of a subclass rc for 'suppressedExceptions', and none of Throwable's own -/
section OwnT
variable {args : Array Value} {s : State} {pl : Platform} {rc : String}
abbrev lackW : Jvm.Cond := .lays tN tN "suppressedExceptions" listD
theorem own_links (howns : pl.frameOwnsMonitors = true) (hfin : pl.finalization = false) (hrc : tN ≠ rc) (hpl : pl.magicAccessors = ({} : Platform).magicAccessors)
    (a : ∀ d ∈ Jvm.Free.Exc.excAtoms rc, d ≠ lackW → d.holds args s none s [] = true) :
    ∃ T : ThrowableC, T.Links pl s ∧ s.vm.findClass tN = some T.cT ∧ s.methodNamed? tFill = some T.fill ∧ s.methodNamed? tFill0 = some T.fill0 ∧
      s.fieldFound? tN "stackTrace" steD = some (T.cT, T.kT, T.i17, T.fStack) ∧ s.fieldFound? tN "UNASSIGNED_STACK" steD = some (T.cT, T.kT, T.i13, T.fUnassigned) := by
  have A : ∀ d, (d ∈ Jvm.Free.Exc.excAtoms rc ∧ d ≠ lackW) → d.holds args s none s [] = true := fun d q => a d q.1 q.2
  have n0 := A (.native tFill0) ⟨by simp [Jvm.Free.Exc.excAtoms, throwableAtoms], by decide⟩
  obtain ⟨⟨cT, j0⟩, me0, nm0, mt0, na0, co0, lo0, si0⟩ := Cond.native_spec n0
  have fT : s.vm.findClass tN = some cT := findClass_of_methodNamed nm0
  obtain ⟨kT, kk, kn⟩ := Vm.findClass_spec fT
  obtain ⟨_, kS, _, _, kS1, _, _, kord, _, kni⟩ := Cond.superclass_spec fT (A (.superclass tN "java/lang/Object") ⟨by simp [Jvm.Free.Exc.excAtoms, throwableAtoms], by decide⟩)
  obtain rfl : kT = kS := Option.some.inj (kk.symm.trans kS1)
  obtain ⟨jF, meF, nmF, mtF, atF, stF, abF, -, -⟩ := Cond.ownMethod (x := tFill) fT kk (A (.instanceMethod tFill) ⟨by simp [Jvm.Free.Exc.excAtoms, throwableAtoms], by decide⟩)
  obtain ⟨meF', coF, mtF', ccF, byF, loF, reF, lkF, -, siF⟩ := Cond.codeSync_spec nmF (A (.codeSync tFill LibCode.Throwable.Fill.code 1 (some (.object tN))) ⟨by simp [Jvm.Free.Exc.excAtoms, throwableAtoms], by decide⟩)
  obtain rfl : meF = meF' := Option.some.inj (mtF.symm.trans mtF')
  obtain ⟨j0', me0', nm0', mt0', at0, st0, ab0, na0', ds0⟩ := Cond.ownMethod (x := tFill0) fT kk (A (.instanceMethod tFill0) ⟨by simp [Jvm.Free.Exc.excAtoms, throwableAtoms], by decide⟩)
  obtain rfl : j0 = j0' := by have := Option.some.inj (nm0.symm.trans nm0'); simpa using this
  obtain rfl : me0 = me0' := Option.some.inj (mt0.symm.trans mt0')
  obtain ⟨mO, meO, nmO, mtO, stO, abO⟩ := Cond.instanceMethod_spec (A (.instanceMethod oInit) ⟨by simp [Jvm.Free.Exc.excAtoms, throwableAtoms], by decide⟩)
  obtain ⟨meO', coO, mtO', ccO, byO, loO, -, lkO, -, siO⟩ := Cond.code_spec nmO (A (.code oInit ⟨#[0xb1]⟩ 1 none) ⟨by simp [Jvm.Free.Exc.excAtoms, throwableAtoms], by decide⟩)
  obtain rfl : meO = meO' := Option.some.inj (mtO.symm.trans mtO')
  obtain ⟨kO, kO1, kO2⟩ := Vm.findClass_spec (findClass_of_methodNamed nmO)
  obtain ⟨nO, dO⟩ := name_of_methodNamed nmO mtO
  obtain ⟨ci1, r1, cf, l1, g1, hcf, p1⟩ := Cond.linkedMethod fT kk nmO (A (.methodLink tN 1 oInit) ⟨by simp [Jvm.Free.Exc.excAtoms, throwableAtoms], by decide⟩) pl hpl
  obtain ⟨ci27, r27, cf', l27, g27, hcf', p27⟩ := Cond.linkedMethod fT kk nmF (A (.methodLink tN 27 tFill) ⟨by simp [Jvm.Free.Exc.excAtoms, throwableAtoms], by decide⟩) pl hpl
  obtain rfl : cf = cf' := Option.some.inj (hcf.symm.trans hcf')
  obtain ⟨ci202, r202, cf', l202, g202, hcf', p202⟩ := Cond.linkedMethod fT kk nm0 (A (.methodLink tN 202 tFill0) ⟨by simp [Jvm.Free.Exc.excAtoms, throwableAtoms], by decide⟩) pl hpl
  obtain rfl : cf = cf' := Option.some.inj (hcf.symm.trans hcf')
  have wS := A (.lays rc tN "stackTrace" steD) ⟨by simp [Jvm.Free.Exc.excAtoms], fun q => hrc (Jvm.Cond.lays.inj q).1.symm⟩
  have wP := A (.lays rc tN "suppressedExceptions" listD) ⟨by simp [Jvm.Free.Exc.excAtoms], fun q => hrc (Jvm.Cond.lays.inj q).1.symm⟩
  obtain ⟨ci7, i7, f7, k7, g7, a7, s7, h7, n7, t7, ff7⟩ := Cond.ownField (t := .object tN) fT kk (by decide +kernel) (A (.fieldLink tN 7 tN "cause" "Ljava/lang/Throwable;") ⟨by simp [Jvm.Free.Exc.excAtoms, throwableAtoms], by decide⟩) (A (.lays tN tN "cause" "Ljava/lang/Throwable;") ⟨by simp [Jvm.Free.Exc.excAtoms, throwableAtoms], by decide⟩) pl hpl
  obtain ⟨ci17, i17, f17, k17, g17, a17, s17, h17, n17, t17, ff17⟩ := Cond.ownField (t := .array (.object "java/lang/StackTraceElement")) fT kk (by decide +kernel) (A (.fieldLink tN 17 tN "stackTrace" steD) ⟨by simp [Jvm.Free.Exc.excAtoms, throwableAtoms], by decide⟩) wS pl hpl
  obtain ⟨ci24, i24, f24, k24, g24, a24, s24, h24, n24, t24, ff24⟩ := Cond.ownField (t := .object "java/util/List") fT kk (by decide +kernel) (A (.fieldLink tN 24 tN "suppressedExceptions" listD) ⟨by simp [Jvm.Free.Exc.excAtoms, throwableAtoms], by decide⟩) wP pl hpl
  obtain ⟨ci13, i13, f13, aS, cS, k13, g13, a13, s13, -, -, sta, ceS, isS, -, -, ff13⟩ := Cond.ownStatic (t := .array (.object "java/lang/StackTraceElement")) fT kk (by decide +kernel) (A (.fieldLink tN 13 tN "UNASSIGNED_STACK" steD) ⟨by simp [Jvm.Free.Exc.excAtoms, throwableAtoms], by decide⟩) (A (.laysStatic tN "UNASSIGNED_STACK" steD) ⟨by simp [Jvm.Free.Exc.excAtoms, throwableAtoms], by decide⟩) pl hpl
  obtain ⟨ci20, i20, f20, _, _, k20, g20, a20, s20, -, -, -, -, -, -, -, ff20⟩ := Cond.ownStatic (t := .object "java/util/List") fT kk (by decide +kernel) (A (.fieldLink tN 20 tN "SUPPRESSED_SENTINEL" listD) ⟨by simp [Jvm.Free.Exc.excAtoms, throwableAtoms], by decide⟩) (A (.laysStatic tN "SUPPRESSED_SENTINEL" listD) ⟨by simp [Jvm.Free.Exc.excAtoms, throwableAtoms], by decide⟩) pl hpl
  obtain ⟨_, _, _, _, _, fM, _, _, _, sM, hM, _⟩ := Cond.lays_spec (A (.lays tN tN "detailMessage" "Ljava/lang/String;") ⟨by simp [Jvm.Free.Exc.excAtoms, throwableAtoms], by decide⟩)
  have apart : f17.slot ≠ f24.slot := Cond.lays_apart wS wP ff17 ff24 (by rw [n17, n24]; decide)
  have pF : meF.sig.parameters = [] := by
    have q : (parseMethodDescriptor tFill.desc).map (·.parameters) = some [] := by decide +kernel
    rw [siF] at q; simpa using q
  have p0 : me0.sig.parameters = [.int] := by
    have q : (parseMethodDescriptor tFill0.desc).map (·.parameters) = some [.int] := by decide +kernel
    rw [si0] at q; simpa using q
  have pO : meO.sig.parameters.length = 0 := by
    have q : (parseMethodDescriptor oInit.desc).map (·.parameters) = some [] := by decide +kernel
    rw [siO] at q; rw [show meO.sig.parameters = [] by simpa using q]; rfl
  have ini := Cond.initialized_spec fT kk (A (.initialized tN) ⟨by simp [Jvm.Free.Exc.excAtoms, throwableAtoms], by decide⟩)
  refine ⟨{ cT := cT, kT := kT, cO := cT, aS := aS, fillIdx := jF, fill0Idx := j0, initSIdx := jF, obj := mO, kObj := kO, methFill := meF, methFill0 := me0, methInitS := meF, methObj := meO, codeFill := coF, codeInitS := coF, codeObj := coO, fBack := f7, fDepth := f7, fStack := f17, fCause := f7, fSupp := f24, fMsg := fM, fUnassigned := f13, fSentinel := f20, cfT := cf, ci1 := ci1, n1 := r1, ci27 := ci27, n27 := r27, ci202 := ci202, n202 := r202, ci7 := ci7, i7 := i7, ci13 := ci13, i13 := i13, ci17 := ci17, i17 := i17, ci20 := ci20, i20 := i20, ci24 := ci24, i24 := i24 }, ?_, fT, nmF, nm0, ff17, ff13⟩
  constructor <;> first | assumption | (exact Vm.findClass_boot fT kk) | (show lookupSpecial _ _ _ _ = _; rw [dO]; exact lookupSpecial_of_named nmO mtO stO)
end OwnT
section OwnN
theorem own_fit {t : FieldType} {v : Value} (ht : t.isReference = true) (h : v.isRef = true) : fits t v = true := by
  cases t with
  | object n => exact fits_refV_object _ ⟨v, h⟩
  | array n => exact fits_refV_array _ ⟨v, h⟩
  | _ => cases ht
open Jvm.Free.Exc
variable {p : Program} {l : Launch} {e : Env} {R : Room} {s : State} {m : MethodId} {args : Array Value} {below : List Frame} {meth : Method} {c : Code} {T T' : State} {locs : List Loc} {cells slots : Nat} {Z : State} {a0 : Array Value} {h h' h0 : Heap} {EL : List (String × Nat)} {vm0 : Vm} {g : JFrame} {W : Outcome → State → Prop} {Q Q' : Option Value → Heap → List Loc → Prop} {rc rs : Nat} {rm : Room} {as' : Array Value}
theorem Go.callNK (X : Stand p l e R (s.setVm vm0) m args below meth c T locs cells slots) (hx : p.tables.exec = Jvm.exec) (hZ : Z.Warmed39 vm0) {own : String} {index : Nat} {y : MethodName} {bytes : ByteArray} {maxL : Nat} (hy1 : y.name = "<init>") (hown : vm0.findClass own = some m.cls)
    (w1 : (Jvm.Cond.methodLink own index y).before a0 Z = true) (w2 : (Jvm.Cond.instanceMethod y).before a0 Z = true) (w3 : (Jvm.Cond.initialized y.cls).before a0 Z = true) (w4 : (Jvm.Cond.code y bytes maxL none).before a0 Z = true) (hy : y.cls ≠ "java/lang/invoke/MethodHandle" ∧ y.cls ≠ "java/lang/invoke/VarHandle") (Wd : Nat) (H : HS Z EL s h0 vm0 h) (hEL : EW Z a0 EL) (hTK : s.vm.MethodsKnown) (hBl : s.vm.FramesKnown below)
    (hM : MtK l Z EL y bytes maxL none [] rm as' h Q') (eT : T.heap = h) (hf : rm.frames + 1 ≤ R.frames) (hl : Wd + (maxL + 11) + rm.locals ≤ R.locals) (hc : cells + rm.cells ≤ R.cells) (hs : slots + rm.slots ≤ R.slots)
    {a : Addr} {argsL rest : List Value} (hg : g.method = m) (hsize : g.locals.size = c.maxLocals) (hlen : ∀ sig, parseMethodDescriptor y.desc = some sig → argsL.length = sig.parameters.length) (hstack : g.stack = argsL.reverse ++ .ref a :: rest) (ha : (Value.ref a :: argsL).toArray = as') (hWd : 2 * g.monitorRoom + (rest.map fun v => v.category).sum ≤ Wd) (hd : decode c.code g.pc = .ok (.invokespecial index, 3))
    (k : ∀ (v : Option Value) (T' : State) (L : List Loc), Stand p l e R (s.setVm T'.vm) m args below meth c T' (locs ++ L) (cells + rm.cells) (slots + rm.slots) → Q' v T'.heap L → Z.Warmed39 T'.vm → T'.vm.findClass own = some m.cls → HS Z EL s h0 T'.vm T'.heap → (∀ x, x < h.size → Safe Z EL vm0 h x → Safe Z EL T'.vm T'.heap x) → Go p e below W T' { g with pc := g.pc + 3, stack := v.toList ++ rest }) : Go p e below W T g := by
  obtain ⟨k0, hS, hk⟩ := H.1
  have hal : s.vm.Alike vm0 := hS.1.alike
  obtain ⟨v, vm₁, ⟨T1, L1, c1, n1⟩, -, X1, hS1, hg1, hP, st⟩ := X.specialBackS hx hy1 hown (mvT (s := s.setVm vm0) hZ w1) (mvT (s := s.setVm vm0) hZ w2) (mvT (s := s.setVm vm0) hZ w4) hy (backOfSKH (W := Wd) (a0 := a0) hM hZ w4 w3 hf hl hEL H.2.1 (hTK.alikeC hal) (hBl.alikeC hal)) hg hsize (Steps.refl _) hlen hstack hWd hd (fun _ _ => ⟨ha, eT, hc, hs⟩)
  obtain ⟨L, hQ, e1, e2, e3, C1⟩ := hP
  dsimp only [Pt.U, Pt.locs, Pt.cells, Pt.slots] at X1 e1 e2 e3 hQ C1 hS1 hg1 st
  subst e1 e2 e3
  have hW1 : Z.Warmed39 T1.vm := State.Warmed39.trans (t := s.setVm vm0) hZ hS1.1
  exact (k v T1 L X1 hQ hW1 (by rw [hS1.1.alike.findClass]; exact hown) ⟨⟨_, hS.trans hS1 (Nat.le_trans hk (by rw [← eT]; exact hg1)), Nat.le_refl _⟩, H.2.trans C1⟩ (fun x hx' S => C1.safe hx' S)).st fun _ q => st.trans q
theorem own_keepS (X : Stand p l e R s m args below meth c T locs cells slots) {a : Addr} (hL : ∀ y ∈ locs, y.base = a) : Keep s.heap T.heap [a] := by
  obtain ⟨-, h2, -, -, -, h6⟩ := X.same
  refine ⟨h2, fun x cc q r => ?_, fun x cc q => ?_⟩
  · obtain ⟨c', q1, q2, -, q4⟩ := h6 x cc q
    have ne : x ≠ a := fun z => r (by simp [z])
    have : c'.slots = cc.slots := Array.ext_getElem? fun i => q4 i fun hm => ne (hL _ hm)
    have q5 : c' = cc := by rw [q2, this]
    rw [← q5]; exact q1
  · obtain ⟨c', q1, q2, q3, -⟩ := h6 x cc q
    exact ⟨c', q1, by rw [q2], by rw [q2], q3⟩
theorem own_frB {n0 : Nat} {a : Addr} (hB : ∀ y ∈ locs, y.base = a) (ga : n0 ≤ a) : Fr n0 locs := fun y hy => by rw [hB y hy]; exact ga
set_option maxHeartbeats 4000000 in
theorem Go.fill (X : Stand p l e R (s.setVm vm0) m args below meth c T locs cells slots) (hx : p.tables.exec = Jvm.exec) (hlt : l.stackTraces = true) (hZ : Z.Warmed39 vm0) (hown : vm0.findClass tN = some m.cls) {rcl : String} {n : Nat} (hrc : tN ≠ rcl)
    (w : ∀ d ∈ excAtoms rcl, d ≠ lackW → d.before a0 Z = true) (wi : (Jvm.Cond.instantiable rcl n).before a0 Z = true) (hT0 : ThS Z s.heap) (hTK : s.vm.MethodsKnown) (hBl : s.vm.FramesKnown below) (H : HS Z EL s h0 vm0 h) (eT : T.heap = h) {a : Addr} (E : Exa Z h a rcl) (N : Unt h a) {uU : Value} (hu : uU.isRef = true)
    (Su : Sta Z h tN "UNASSIGNED_STACK" steD uU) (FS : Fld Z h a tN "stackTrace" steD uU) (FB : Fld Z h a tN "backtrace" obD .null) {vM : Value} (FM : Fld Z h a tN "detailMessage" msgD vM) (hL : ∀ y ∈ locs, y.base = a)
    (hg : g.method = m) (hsize : g.locals.size = c.maxLocals) {rest : List Value} (hs : g.stack = .ref a :: rest) (hd : decode c.code g.pc = .ok (.invokevirtual 27, 3)) (hf : 3 ≤ R.frames) (hlo : 2 * g.monitorRoom + (rest.map fun v => v.category).sum + 42 ≤ R.locals) (hc : cells + 1 ≤ R.cells) (hsl : slots + 2752 ≤ R.slots)
    (k : ∀ (T' : State) (h' : Heap) (L : List Loc), Stand p l e R (s.setVm vm0) m args below meth c T' (locs ++ L) (cells + 1) (slots + 2752) → T'.heap = h' → Keep s.heap h' [a] → Exa Z h' a rcl → Fld Z h' a tN "detailMessage" msgD vM → (∀ y ∈ locs ++ L, y.base = a) → Go p e below W T' { g with pc := g.pc + 3, stack := .ref a :: rest }) : Go p e below W T g := by
  obtain ⟨k0, hS, hk0⟩ := H.1
  have hal : s.vm.Alike vm0 := hS.1.alike
  have hTK' := hTK.alikeC hal
  have hBl' := hBl.alikeC hal
  have htr : e.platform.stackTraces = true := by rw [X.admits.platform]; exact hlt
  have howns : e.platform.frameOwnsMonitors = true := by rw [X.admits.platform]
  have hfin : e.platform.finalization = false := by rw [X.admits.platform]
  have hpl : e.platform.magicAccessors = ({} : Platform).magicAccessors := by rw [X.admits.platform]
  have A : ∀ d ∈ excAtoms rcl, d ≠ lackW → d.holds args (s.setVm vm0) none (s.setVm vm0) [] = true := fun d hd' hn => mvX (s := s.setVm vm0) (a0 := a0) (args := args) hT0 hZ (List.all_eq_true.mp exc_ok d hd') (w d hd' hn)
  obtain ⟨Y, L, fT, nF, n0, ffS, ffU⟩ := own_links howns hfin hrc hpl A
  have hz : Z.vm.Alike vm0 := hZ.alike
  have E0 := E
  obtain ⟨cell, kc, h1, h2, h3, h4, h5⟩ := E
  obtain ⟨c2, u1, u2, u3⟩ := N
  cases h1.symm.trans u1
  obtain ⟨c4, k2, i1, i2, i3, -⟩ := Cond.instantiable_spec wi
  cases h2.symm.trans i1
  cases h3.symm.trans i2
  obtain ⟨kX, hk, ek⟩ := hz.2.2 _ _ h3
  replace hk : (s.setVm vm0).vm.classes[cell.cls]? = some kX := hk
  have hfound : (s.setVm vm0).vm.findClass rcl = some cell.cls := by show vm0.findClass rcl = _; rw [hz.findClass]; exact h2
  have hord : kX.kind = .ordinary := by rw [ek]; exact i3
  have hsz : cell.slots.size = kX.instanceTypes.size := by rw [ek]; exact h5 i3
  obtain ⟨c3, cf, kf, i, fS, b1, b2, -, -, -, -, b7⟩ := FS
  cases h1.symm.trans b1
  obtain ⟨c3, cf3, kf3, i3', fB', b1', b2', -, -, -, -, b7'⟩ := FB
  cases h1.symm.trans b1'
  obtain ⟨c3, cM, kM, iM, fM, m1, m2, m3, m4, m5, m6, m7⟩ := FM
  cases h1.symm.trans m1
  obtain ⟨cU, iU, kU, fU, st, cellS, g1, g2, g3, g4, g5, g6, g7⟩ := Su
  obtain ⟨kS', eS', -⟩ := State.fieldFound?_setVm (s := Z) hz b2
  cases (show (s.setVm vm0).fieldFound? tN "stackTrace" steD = _ from eS').symm.trans ffS
  obtain ⟨kU', eU', ekU⟩ := State.fieldFound?_setVm (s := Z) hz g1
  have sU : kU'.statics = some st := by rw [ekU]; exact g4
  cases (show (s.setVm vm0).fieldFound? tN "UNASSIGNED_STACK" steD = _ from eU').symm.trans ffU
  obtain rfl : Y.aS = st := Option.some.inj (L.statics.symm.trans sU)
  obtain ⟨kM', ffM, -⟩ := State.fieldFound?_setVm (s := Z) hz m2
  replace ffM : (s.setVm vm0).fieldFound? tN "detailMessage" msgD = _ := ffM
  have hneS : Y.aS ≠ a := fun q => by
    rw [q, h1] at g5
    rw [← Option.some.inj g5, u2] at g6
    cases g6
  have hsel0 : selectMethod e.platform (s.setVm vm0).vm cell.cls Y.fill0 = .method Y.fill0 := by
    obtain ⟨c2, r2, m2', q1, q2, q3, q4, -⟩ := Cond.selects_spec (A (.selects rcl tFill0 tFill0) (by simp [excAtoms]) (fun q => by cases q))
    cases Option.some.inj (q1.symm.trans hfound)
    cases Option.some.inj (q2.symm.trans (State.methodFound?_of_named n0 (by decide)))
    cases Option.some.inj (q3.symm.trans n0)
    rw [Launch.admits_selectMethod X.admits]; exact q4
  have lk : ∀ {x y : String}, (.lays rcl tN x y : Jvm.Cond) ≠ lackW := fun q => hrc (Jvm.Cond.lays.inj q).1.symm
  obtain ⟨ci198, i198, fB, hk198, hg198, ha198, hsB, -, hnB, htB, hffB⟩ := Cond.ownField (t := .object "java/lang/Object") fT L.cls (by decide +kernel) (A (.fieldLink tN 198 tN "backtrace" obD) (by simp [excAtoms]) (by decide)) (A (.lays tN tN "backtrace" obD) (by simp [excAtoms]) (by decide)) e.platform hpl
  obtain ⟨kB', ffB', -⟩ := State.fieldFound?_setVm (s := Z) hz b2'
  cases (show (s.setVm vm0).fieldFound? tN "backtrace" obD = _ from ffB').symm.trans hffB
  have wD := A (.lays rcl tN "depth" "I") (by simp [excAtoms]) lk
  obtain ⟨cD1, kD1, cD, kD, iD, fD, -, -, hffD, hstD, -, -, -, -⟩ := Cond.lays_spec wD
  cases Option.some.inj ((Cond.lays_declared wD hffD).symm.trans fT)
  obtain ⟨hkD, hatD⟩ := State.fieldFound?_spec hffD
  cases Option.some.inj (hkD.symm.trans L.cls)
  obtain ⟨hnD, htD⟩ := State.fieldFound?_type hffD (t := .int) (by decide +kernel)
  have hfb := Cond.soleField_find fT L.cls (A (.soleField tN "backtrace") (by simp [excAtoms]) (by decide)) ha198 hnB hsB
  have hfd := Cond.soleField_find fT L.cls (A (.soleField tN "depth") (by simp [excAtoms]) (by decide)) hatD hnD hstD
  obtain ⟨comp, cO, kO, -, -, hkO, hkindO, hO⟩ := Cond.arrayOver_spec (A (.arrayOver (.object "java/lang/Object")) (by simp [excAtoms]) (by decide))
  obtain ⟨hnS, htS⟩ := State.fieldFound?_type ffS (t := .array (.object "java/lang/StackTraceElement")) (by decide +kernel)
  obtain ⟨hnM, htM⟩ := State.fieldFound?_type ffM (t := .object "java/lang/String") (by decide +kernel)
  obtain ⟨tyS, dS, hdS, hdnS⟩ := Cond.laysAt hfound hk ffS (A (.lays rcl tN "stackTrace" steD) (by simp [excAtoms]) lk)
  obtain ⟨tyM, dM, hdM, hdnM⟩ := Cond.laysAt hfound hk ffM (A (.lays rcl tN "detailMessage" msgD) (by simp [excAtoms]) lk)
  obtain ⟨tyB, dB, hdB, hdnB⟩ := Cond.laysAt hfound hk hffB (A (.lays rcl tN "backtrace" obD) (by simp [excAtoms]) lk)
  obtain ⟨tyD, dD, hdD, hdnD⟩ := Cond.laysAt hfound hk hffD wD
  have mS := Cond.laysApart hdM hdS hdnM hdnS (by rw [hnM, hnS]; decide)
  have mB := Cond.laysApart hdM hdB hdnM hdnB (by rw [hnM, hnB]; decide)
  have mD := Cond.laysApart hdM hdD hdnM hdnD (by rw [hnM, hnD]; decide)
  have tk : ∀ {f : Field} {v : Value}, kX.instanceTypes[f.slot]? = some f.type → fits f.type v = true → Jvm.Takes (s.setVm vm0) cell f v := fun {f v} q1 q2 => by
    obtain ⟨r1, r2⟩ := Takes.of_laid (v := v) hk hord q1 q2
    exact ⟨by rw [hsz]; simpa using r1, by rw [u2]; exact r2⟩
  have fS' : fits Y.fStack.type uU = true := by rw [htS]; exact fits_refV_array _ ⟨uU, hu⟩
  have hSE := A (.selects rcl tFill tFill) (by simp [excAtoms]) (fun q => by cases q)
  refine Go.callVB (s := s.setVm vm0) (own := tN) (C := rcl) (index := 27) (y := tFill) (z := tFill) X hx hZ hown (w (.methodLink tN 27 tFill) (by simp [excAtoms, throwableAtoms]) (by decide)) (w (.declares tFill) (by simp [excAtoms]) (by decide)) (notFace_of_selects hSE) (w (.selects rcl tFill tFill) (by simp [excAtoms]) (fun q => by cases q)) (w (.instanceMethod tFill) (by simp [excAtoms, throwableAtoms]) (by decide)) (by decide)
    (fillPaysAny (l := l) (W := 2 * g.monitorRoom + (rest.map fun v => v.category).sum) (len := 3) (sargs := args) hx htr Y L nF (u0 := ⟨uU, hu⟩) (self := a) (cell := cell) (cellS := cellS) (fun _ => by rw [u2]; simp) (by rw [u2]; simp) (by rw [u3]) (by rw [u3]) b7 hsel0 hneS (fun q => by rw [q] at g6; cases g6) g7 (tk tyS fS')
      ⟨{ ci198 := ci198, i198 := i3', fBack := fB' }, ⟨hk198, hg198, ha198, hsB⟩, b7'⟩ hTK' hBl' fT hO hkO hkindO hfb hfd (fun x => tk tyB (by rw [htB]; rfl)) (fun x => tk tyD (by rw [htD]; rfl)) (by omega) (by omega))
    eT E0 hg hsize (argsL := []) (rest := rest) (fun sig q => by rw [show parseMethodDescriptor tFill.desc = some ⟨[], some (.object tN)⟩ from by decide +kernel] at q; rw [← Option.some.inj q]; rfl) hs (Nat.le_refl _) hd (fun vmx => ⟨rfl, hc, hsl, by show T.heap[a]? = _; rw [eT]; exact h1, by show T.heap[Y.aS]? = _; rw [eT]; exact g5⟩) ?_
  rintro v vmx ⟨T6, L6, c6, n6⟩ X6 ⟨hv6, C6, n', hn', hD6, q1, q2, q3, q4, hL6, hc6, hn6⟩
  dsimp only [Pt.U, Pt.locs, Pt.cells, Pt.slots] at X6 hD6 hL6 hc6 hn6 ⊢
  subst hv6 hL6 hc6 hn6
  have hB : ∀ y ∈ locs ++ [⟨a, fB'.slot⟩, ⟨a, fD.slot⟩, ⟨a, Y.fStack.slot⟩], y.base = a := fun y hy => by
    rcases List.mem_append.mp hy with r | r
    · exact hL y r
    · simp only [List.mem_cons, List.not_mem_nil, or_false] at r
      rcases r with rfl | rfl | rfl <;> rfl
  refine k T6 T6.heap _ (X6.more (Nat.le_refl _) (Nat.add_le_add_left hn' _)) rfl (own_keepS (s := s.setVm vm0) X6 hB) ⟨C6, kc, hD6, by rw [q1]; exact h2, by rw [q1]; exact h3, by rw [q2]; exact h4, fun r => by rw [q3]; exact h5 r⟩ ⟨C6, cM, kM, iM, fM, hD6, m2, m3, by rw [q2]; exact m4, by rw [q2]; exact m5, by rw [q1]; exact m6, ?_⟩ hB
  rw [q4 _ mB mD mS]; exact m7
end OwnN


/-- n ints, by their place -/
def IL (n : Nat) (f : Nat → Int32) : List Value := (List.range n).map fun q => Value.int (f q)
theorem IL_len (n : Nat) (f : Nat → Int32) : (IL n f).length = n := by simp [IL]
theorem IL_at {n i : Nat} {f : Nat → Int32} (h : i < n) : (IL n f)[i]? = some (.int (f i)) := by simp [IL, h]
theorem IL_congr {n : Nat} {f f' : Nat → Int32} (h : ∀ q, q < n → f q = f' q) : IL n f = IL n f' := by
  simp only [IL]; apply List.map_congr_left; intro q hq; rw [h q (List.mem_range.mp hq)]
theorem IL_set {n i : Nat} {f : Nat → Int32} {x : Int32} (h : i < n) : (IL n f).set i (.int x) = IL n (fun q => if q = i then x else f q) := by
  apply List.ext_getElem?
  intro q
  by_cases hq : q < n
  · rw [IL_at hq]
    by_cases e : i = q
    · subst e; simp [List.getElem?_set, IL_len, h]
    · rw [List.getElem?_set_ne e, IL_at hq]; simp [Ne.symm e]
  · rw [List.getElem?_eq_none (by simp [IL_len]; omega), List.getElem?_eq_none (by simp [IL_len]; omega)]
theorem IL_rep (n : Nat) : List.replicate n (Value.int 0) = IL n (fun _ => 0) := by
  apply List.ext_getElem?
  intro q
  by_cases hq : q < n
  · rw [IL_at hq]; simp [hq]
  · rw [List.getElem?_eq_none (by simp; omega), List.getElem?_eq_none (by simp [IL_len]; omega)]
/-- a char's byte -/
def bI (c : Nat) : Int32 := (Int32.ofNat c).toInt8.toInt32
theorem bI_back (c : Nat) (h : c < 256) : bI c &&& (255 : Int32) = Int32.ofNat c := (by decide +kernel : ∀ c : Fin 256, bI c.val &&& (255 : Int32) = Int32.ofNat c.val) ⟨c, h⟩
theorem bI_twice (c : Nat) (h : c < 256) : (bI c).toInt8.toInt32 = bI c := (by decide +kernel : ∀ c : Fin 256, (bI c.val).toInt8.toInt32 = bI c.val) ⟨c, h⟩
theorem ch_back (c : Nat) (h : c < 256) : (Int32.ofNat c).toUInt32.toUInt16.toUInt32.toInt32 = Int32.ofNat c := (by decide +kernel : ∀ c : Fin 256, (Int32.ofNat c.val).toUInt32.toUInt16.toUInt32.toInt32 = Int32.ofNat c.val) ⟨c, h⟩
theorem ch_nar (c : Nat) (h : c < 256) : narrow .char (.int (Int32.ofNat c)) = .int (Int32.ofNat c) := by
  show Value.int _ = _; congr 1; exact ch_back c h
theorem ch_sto (c : Nat) (h : c < 256) : nar .char (Int32.ofNat c) = Int32.ofNat c := ch_back c h
theorem own_shr0 (x : Int32) : x >>> ((0 : Int32) &&& 31) = x := by
  apply Int32.toBitVec_inj.mp
  rw [Int32.toBitVec_shiftRight]; simp
theorem own_shl0 (x : Int32) : x <<< ((0 : Int32) &&& 31) = x := by
  apply Int32.toBitVec_inj.mp
  rw [Int32.toBitVec_shiftLeft]; simp
theorem own_cat {v : Value} (h : v.isRef = true) : v.category = 1 := by cases v <;> simp_all [Value.isRef, Value.category]
theorem own_nar {t : FieldType} {v : Value} (h : v.isRef = true) : narrow t v = v := by cases v <;> cases t <;> simp_all [Value.isRef, narrow]

theorem own_fill (b : Nat → Int32) (i q : Nat) : (if q = i then b i else if q < i then b q else 0) = if q < i + 1 then b q else 0 := by
  by_cases e : q = i
  · subst e; simp
  · by_cases l : q < i
    · simp [e, l, show q < i + 1 by omega]
    · simp [e, l, show ¬ q < i + 1 by omega]

def apF (k n : Nat) (ft f : Nat → Int32) : Nat → Int32 := fun q => if k ≤ q ∧ q < k + n then ft (q - k) else f q
theorem own_ens (m : Nat) (h : m ≤ 16) : ¬ ((0 : Int32) < (Int32.ofNat m) - (16 : Int32)) := (by decide +kernel : ∀ m : Fin 17, ¬ ((0 : Int32) < (Int32.ofNat m.val) - (16 : Int32))) ⟨m, by omega⟩
theorem own_copy {k n N : Nat} {ft f : Nat → Int32} (h : k + n ≤ N) : (IL N f).take k ++ (List.range n).map (fun i => (IL n ft).getD (0 + i) (.int 0)) ++ (IL N f).drop (k + n) = IL N (apF k n ft f) := by
  apply List.ext_getElem?
  intro q
  have l1 : ((IL N f).take k).length = k := by simp [IL_len]; omega
  have l2 : ((List.range n).map (fun i => (IL n ft).getD (0 + i) (.int 0))).length = n := by simp
  by_cases hq : q < N
  · rw [IL_at hq]; unfold apF
    by_cases c1 : q < k
    · rw [List.append_assoc, List.getElem?_append_left (by omega), List.getElem?_take_of_lt c1, IL_at hq, if_neg (by omega)]
    · by_cases c2 : q < k + n
      · rw [List.getElem?_append_left (by rw [List.length_append]; omega), List.getElem?_append_right (by omega), l1, if_pos ⟨by omega, c2⟩]
        simp [List.getElem?_range (show q - k < n by omega), List.getD_eq_getElem?_getD, IL_at (show q - k < n by omega)]
      · rw [List.getElem?_append_right (by rw [List.length_append]; omega), List.length_append, l1, l2, List.getElem?_drop, if_neg (by omega)]
        rw [show k + n + (q - (k + n)) = q by omega, IL_at hq]
  · rw [List.getElem?_eq_none (by simp [IL_len]; omega), List.getElem?_eq_none (by simp [IL_len]; omega)]
theorem own_copy0 {n N : Nat} {f : Nat → Int32} (h : n ≤ N) : (IL n (fun _ => 0)).take 0 ++ (List.range n).map (fun i => (IL N f).getD (0 + i) (.int 0)) ++ (IL n (fun _ => 0)).drop (0 + n) = IL n f := by
  have e : (IL n (fun _ => 0)).drop (0 + n) = [] := List.drop_eq_nil_of_le (by simp [IL_len])
  rw [e, List.append_nil]
  show ([] : List Value) ++ _ = _
  rw [List.nil_append]
  apply List.map_congr_left
  intro q hq
  have := List.mem_range.mp hq
  simp [List.getD_eq_getElem?_getD, IL_at (show q < N by omega)]


def c2 (x0 x1 : Nat) : Nat → Nat := fun q => if q = 0 then x0 else x1
theorem c2_lt {x0 x1 : Nat} (h0 : x0 < 256) (h1 : x1 < 256) (q : Nat) : c2 x0 x1 q < 256 := by unfold c2; split <;> assumption
def jC (p0 p1 u0 u1 lp : Nat) : Nat → Nat := fun q => if q < lp then c2 p0 p1 q else if q = lp then 10 else c2 u0 u1 (q - lp - 1)
theorem jC_lt {p0 p1 u0 u1 : Nat} (h0 : p0 < 256) (h1 : p1 < 256) (h2 : u0 < 256) (h3 : u1 < 256) (lp q : Nat) : jC p0 p1 u0 u1 lp q < 256 := by
  unfold jC; split
  · exact c2_lt h0 h1 _
  · split
    · decide
    · exact c2_lt h2 h3 _
theorem own_jn (p0 p1 u0 u1 dl nl : Nat) : IL (dl + 1 + nl) (apF (dl + 1) nl (fun q => bI (c2 u0 u1 q)) (apF dl 1 (fun _ => bI 10) (apF 0 dl (fun q => bI (c2 p0 p1 q)) (fun _ => 0)))) = IL (dl + 1 + nl) (fun q => bI (jC p0 p1 u0 u1 dl q)) := by
  apply IL_congr
  intro q hq
  unfold apF jC
  by_cases c1 : q < dl
  · rw [if_neg (by omega), if_neg (by omega), if_pos ⟨by omega, by omega⟩, if_pos c1]; rfl
  · by_cases c2 : q = dl
    · rw [if_neg (by omega), if_pos ⟨by omega, by omega⟩, if_neg c1, if_pos c2]
    · rw [if_pos ⟨by omega, by omega⟩, if_neg c1, if_neg c2, show q - (dl + 1) = q - dl - 1 by omega]
theorem own_low8 (x : Int32) : ∃ d, d < 256 ∧ x &&& (255 : Int32) = Int32.ofNat d := by
  have h := c_and x 255 (by decide)
  have h255 : (255 : Int32).toInt = 255 := rfl
  refine ⟨(x &&& 255).toInt.toNat, by omega, ?_⟩
  apply Int32.toInt_inj.mp
  rw [(own_nat (by omega)).2.2]; omega
theorem own_m3 (x : Int32) : ∃ n, n ≤ 2 ∧ (x &&& (2147483647 : Int32)) % (3 : Int32) = Int32.ofNat n := by
  have h := c_and x 2147483647 (by decide)
  have q := (c_irem (x &&& 2147483647) 3 3 rfl).1 h.1
  refine ⟨((x &&& 2147483647).toInt % 3).toNat, by omega, ?_⟩
  apply Int32.toInt_inj.mp
  rw [q, (own_nat (by omega)).2.2]; omega

theorem pd__28_5bCI_5bBII_29I : parseMethodDescriptor "([CI[BII)I" = some ⟨[(.array .char), .int, (.array .byte), .int, .int], some .int⟩ := by decide +kernel
theorem pd__28_5bCII_29_5bB : parseMethodDescriptor "([CII)[B" = some ⟨[(.array .char), .int, .int], some (.array .byte)⟩ := by decide +kernel
theorem pd__28_5bBI_29B : parseMethodDescriptor "([BI)B" = some ⟨[(.array .byte), .int], some .byte⟩ := by decide +kernel
theorem pd__28_5bCIILjava_2flang_2fVoid_3b_29V : parseMethodDescriptor "([CIILjava/lang/Void;)V" = some ⟨[(.array .char), .int, .int, (.object "java/lang/Void")], none⟩ := by decide +kernel
theorem pd__28_29B : parseMethodDescriptor "()B" = some ⟨[], some .byte⟩ := by decide +kernel
theorem pd__28IILjava_2futil_2ffunction_2fBiFunction_3b_29I : parseMethodDescriptor "(IILjava/util/function/BiFunction;)I" = some ⟨[.int, .int, (.object "java/util/function/BiFunction")], some .int⟩ := by decide +kernel
theorem pd__28II_29V : parseMethodDescriptor "(II)V" = some ⟨[.int, .int], none⟩ := by decide +kernel
theorem pd__28_29Z : parseMethodDescriptor "()Z" = some ⟨[], some .boolean⟩ := by decide +kernel
theorem pd__28_5bBI_29C : parseMethodDescriptor "([BI)C" = some ⟨[(.array .byte), .int], some .char⟩ := by decide +kernel
theorem pd__28I_29V : parseMethodDescriptor "(I)V" = some ⟨[.int], none⟩ := by decide +kernel
theorem pd__28Ljava_2flang_2fString_3b_29V : parseMethodDescriptor "(Ljava/lang/String;)V" = some ⟨[(.object "java/lang/String")], none⟩ := by decide +kernel
theorem pd__28_5bBIB_29V : parseMethodDescriptor "([BIB)V" = some ⟨[(.array .byte), .int, .byte], none⟩ := by decide +kernel
theorem pd__28_29I : parseMethodDescriptor "()I" = some ⟨[], some .int⟩ := by decide +kernel
theorem pd__28ILjava_2flang_2fString_3b_29V : parseMethodDescriptor "(ILjava/lang/String;)V" = some ⟨[.int, (.object "java/lang/String")], none⟩ := by decide +kernel
theorem pd__28Ljava_2flang_2fString_3b_29Ljava_2flang_2fAbstractStringBuilder_3b : parseMethodDescriptor "(Ljava/lang/String;)Ljava/lang/AbstractStringBuilder;" = some ⟨[(.object "java/lang/String")], some (.object "java/lang/AbstractStringBuilder")⟩ := by decide +kernel
theorem pd__28II_29I : parseMethodDescriptor "(II)I" = some ⟨[.int, .int], some .int⟩ := by decide +kernel
theorem pd__28_5bBII_29_5bB : parseMethodDescriptor "([BII)[B" = some ⟨[(.array .byte), .int, .int], some (.array .byte)⟩ := by decide +kernel
theorem pd__28_29_5bB : parseMethodDescriptor "()[B" = some ⟨[], some (.array .byte)⟩ := by decide +kernel
theorem pd__28Ljava_2flang_2fAbstractStringBuilder_3bLjava_2flang_2fVoid_3b_29V : parseMethodDescriptor "(Ljava/lang/AbstractStringBuilder;Ljava/lang/Void;)V" = some ⟨[(.object "java/lang/AbstractStringBuilder"), (.object "java/lang/Void")], none⟩ := by decide +kernel
theorem pd__28Ljava_2flang_2fStringBuilder_3b_29V : parseMethodDescriptor "(Ljava/lang/StringBuilder;)V" = some ⟨[(.object "java/lang/StringBuilder")], none⟩ := by decide +kernel
theorem pd__28C_29Z : parseMethodDescriptor "(C)Z" = some ⟨[.char], some .boolean⟩ := by decide +kernel
theorem pd__28C_29_5bB : parseMethodDescriptor "(C)[B" = some ⟨[.char], some (.array .byte)⟩ := by decide +kernel
theorem pd__28_5bBB_29V : parseMethodDescriptor "([BB)V" = some ⟨[(.array .byte), .byte], none⟩ := by decide +kernel
theorem pd__28_5bC_29V : parseMethodDescriptor "([C)V" = some ⟨[(.array .char)], none⟩ := by decide +kernel
theorem pd__28C_29Ljava_2flang_2fString_3b : parseMethodDescriptor "(C)Ljava/lang/String;" = some ⟨[.char], some (.object "java/lang/String")⟩ := by decide +kernel
theorem pd__28I_29C : parseMethodDescriptor "(I)C" = some ⟨[.int], some .char⟩ := by decide +kernel
theorem pd__28IICCCC_29C : parseMethodDescriptor "(IICCCC)C" = some ⟨[.int, .int, .char, .char, .char, .char], some .char⟩ := by decide +kernel
theorem pd__28_29V : parseMethodDescriptor "()V" = some ⟨[], none⟩ := by decide +kernel
theorem pd__28Ljava_2flang_2fString_3b_29Ljava_2flang_2fStringBuilder_3b : parseMethodDescriptor "(Ljava/lang/String;)Ljava/lang/StringBuilder;" = some ⟨[(.object "java/lang/String")], some (.object "java/lang/StringBuilder")⟩ := by decide +kernel
theorem pd__28_29Ljava_2flang_2fString_3b : parseMethodDescriptor "()Ljava/lang/String;" = some ⟨[], some (.object "java/lang/String")⟩ := by decide +kernel
theorem pd__28ICC_29Ljava_2flang_2fString_3b : parseMethodDescriptor "(ICC)Ljava/lang/String;" = some ⟨[.int, .char, .char], some (.object "java/lang/String")⟩ := by decide +kernel
theorem pd__28Ljava_2flang_2fString_3bLjava_2flang_2fString_3b_29Lcom_2fexample_2fstaleness_2fstaleness_2fCommandException_3b : parseMethodDescriptor "(Ljava/lang/String;Ljava/lang/String;)Lcom/example/staleness/staleness/CommandException;" = some ⟨[(.object "java/lang/String"), (.object "java/lang/String")], some (.object "com/example/staleness/staleness/CommandException")⟩ := by decide +kernel
theorem pd__28Ljava_2flang_2fString_3bIIICCCC_29Z : parseMethodDescriptor "(Ljava/lang/String;IIICCCC)Z" = some ⟨[(.object "java/lang/String"), .int, .int, .int, .char, .char, .char, .char], some .boolean⟩ := by decide +kernel
theorem dcp2_0 : decode jdk_52_method_21_code 0 = .ok (.iconst 0, 1) := by decide +kernel
theorem dcp2_1 : decode jdk_52_method_21_code 1 = .ok (.istore 5, 2) := by decide +kernel
theorem dcp2_3 : decode jdk_52_method_21_code 3 = .ok (.iload 5, 2) := by decide +kernel
theorem dcp2_5 : decode jdk_52_method_21_code 5 = .ok (.iload 4, 2) := by decide +kernel
theorem dcp2_7 : decode jdk_52_method_21_code 7 = .ok (.if_icmp .ge 37, 3) := by decide +kernel
theorem dcp2_10 : decode jdk_52_method_21_code 10 = .ok (.aload_n 0, 1) := by decide +kernel
theorem dcp2_11 : decode jdk_52_method_21_code 11 = .ok (.iload_n 1, 1) := by decide +kernel
theorem dcp2_12 : decode jdk_52_method_21_code 12 = .ok (.caload, 1) := by decide +kernel
theorem dcp2_13 : decode jdk_52_method_21_code 13 = .ok (.istore 6, 2) := by decide +kernel
theorem dcp2_15 : decode jdk_52_method_21_code 15 = .ok (.iload 6, 2) := by decide +kernel
theorem dcp2_17 : decode jdk_52_method_21_code 17 = .ok (.sipush 255, 3) := by decide +kernel
theorem dcp2_20 : decode jdk_52_method_21_code 20 = .ok (.if_icmp .le 6, 3) := by decide +kernel
theorem dcp2_26 : decode jdk_52_method_21_code 26 = .ok (.aload_n 2, 1) := by decide +kernel
theorem dcp2_27 : decode jdk_52_method_21_code 27 = .ok (.iload_n 3, 1) := by decide +kernel
theorem dcp2_28 : decode jdk_52_method_21_code 28 = .ok (.iload 6, 2) := by decide +kernel
theorem dcp2_30 : decode jdk_52_method_21_code 30 = .ok (.i2b, 1) := by decide +kernel
theorem dcp2_31 : decode jdk_52_method_21_code 31 = .ok (.bastore, 1) := by decide +kernel
theorem dcp2_32 : decode jdk_52_method_21_code 32 = .ok (.iinc 1 1, 3) := by decide +kernel
theorem dcp2_35 : decode jdk_52_method_21_code 35 = .ok (.iinc 3 1, 3) := by decide +kernel
theorem dcp2_38 : decode jdk_52_method_21_code 38 = .ok (.iinc 5 1, 3) := by decide +kernel
theorem dcp2_41 : decode jdk_52_method_21_code 41 = .ok (.goto (-38), 3) := by decide +kernel
theorem dcp2_44 : decode jdk_52_method_21_code 44 = .ok (.iload 4, 2) := by decide +kernel
theorem dcp2_46 : decode jdk_52_method_21_code 46 = .ok (.ireturn, 1) := by decide +kernel
theorem pn_cp2 : plainFor (⟨"java/lang/StringUTF16", "compress", "([CI[BII)I"⟩ : MethodName) = true := by first | exact plainFor_of_name (by first | (simp [plainName, overriddenIn]; done) | decide +kernel) | decide +kernel
theorem ef_cp2 (m : MethodId) (x0 : Addr) (x1 : Int32) (x2 : Addr) (x3 : Int32) (x4 : Int32) : entryFrame m #[(.ref x0), (.int x1), (.ref x2), (.int x3), (.int x4)] 7 = mkF m 0 #[rv x0, iv x1, rv x2, iv x3, iv x4, .unset, .unset] [] := by first | (simp [entryFrame, mkF, argsToLocals, Value.category]; done) | rfl
set_option maxRecDepth 65536 in
set_option maxHeartbeats 40000000 in
theorem rm_cp2 (l : Launch) (Z : State) (a0 : Array Value) (hw : ∀ d ∈ tables_1, d.before a0 Z = true) (ws : List Jvm.Cond) (arr dst : Addr) (n : Nat) (ch : Nat → Nat) (n0 : Nat) (h0 : Heap) (Z0 : n0 ≤ h0.size) (hn : n ≤ 8) (hc : ∀ q, q < n → ch q < 256) (V_a : Ary Z h0 arr .char (IL n (fun q => Int32.ofNat (ch q)))) (V_d : Ary Z h0 dst .byte (IL n (fun _ => 0))) (g_d : n0 ≤ dst) (ne_ad : arr ≠ dst) :
    Mt l Z (⟨"java/lang/StringUTF16", "compress", "([CI[BII)I"⟩ : MethodName) jdk_52_method_21_code 7 (some .int) ws ({ frames := 0, cells := 0, slots := 0, locals := 0 } : Room) #[(.ref arr), (.int (0 : Int32)), (.ref dst), (.int (0 : Int32)), (.int (Int32.ofNat n))] h0 (fun v h L => v = some (.int (Int32.ofNat n)) ∧ Fr n0 L ∧ Keep h0 h [dst] ∧ Ary Z h dst .byte (IL n (fun q => bI (ch q)))) := by
  refine Mt.body pn_cp2 ?_
  intro p e s m below meth c s₁ hx hby hml hown hnm hret hlk hZ X0 e0
  refine Go.cast (g' := (mkF m 0 #[rv arr, iv (0 : Int32), rv dst, iv (0 : Int32), iv (Int32.ofNat n), .unset, .unset] [])) (ef_cp2 m arr (0 : Int32) dst (0 : Int32) (Int32.ofNat n)) ?_
  have N0 := Fr.nil n0
  refine Go.st (T' := s₁) (g' := (mkF m 3 #[rv arr, iv (0 : Int32), rv dst, iv (0 : Int32), iv (Int32.ofNat n), iv (0 : Int32), .unset] [])) ?_ (fun _ kk_ => XS.iconst X0.here hx rfl (hb hby dcp2_0) (XS.istore X0.here hx rfl (hb hby dcp2_1) rfl (l' := #[rv arr, iv (0 : Int32), rv dst, iv (0 : Int32), iv (Int32.ofNat n), iv (0 : Int32), .unset]) rfl kk_))
  have loop : ∀ (r i : Nat) (T : State) (h : Heap) (locs : List Loc) (s6 : Slot), i + r = n → Stand p l e ({ frames := 0, cells := 0, slots := 0, locals := 0 } : Room) s m #[.ref arr, .int (0 : Int32), .ref dst, .int (0 : Int32), .int (Int32.ofNat n)] below meth c T locs 0 0 → T.heap = h → Fr n0 locs → Keep h0 h [dst] → n0 ≤ h.size → Ary Z h arr .char (IL n (fun q => Int32.ofNat (ch q))) → Ary Z h dst .byte (IL n (fun q => if q < i then bI (ch q) else 0)) → One s6 → Go p e below (Wf s 0 0 (fun v h L => v = some (.int (Int32.ofNat n)) ∧ Fr n0 L ∧ Keep h0 h [dst] ∧ Ary Z h dst .byte (IL n (fun q => bI (ch q))))) T (mkF m 3 #[rv arr, iv (Int32.ofNat i), rv dst, iv (Int32.ofNat i), iv (Int32.ofNat n), iv (Int32.ofNat i), s6] []) := by
    intro r
    induction r with
    | zero =>
      intro i T h locs s6 hi X e1 NA KA ZA VA VB hs6
      refine Go.st (T' := T) (g' := (mkF m 46 #[rv arr, iv (Int32.ofNat i), rv dst, iv (Int32.ofNat i), iv (Int32.ofNat n), iv (Int32.ofNat i), s6] [(.int (Int32.ofNat n))])) ?_ (fun _ kk_ => XS.iload X.here hx rfl (hb hby dcp2_3) rfl  (XS.iload X.here hx rfl (hb hby dcp2_5) rfl  (XS.icmpYes X.here hx rfl (pc0 := 7) (pc' := 44) rfl (hb hby dcp2_7) rfl (flt ((fun z => by have := (own_lt (by omega) (by omega)).mp z; omega) : ¬ ((Int32.ofNat i) < (Int32.ofNat n)))).2.1 (by decide) (by decide) (XS.iload X.here hx rfl (hb hby dcp2_44) rfl  kk_))))
      refine Go.retI X hx hlk hret (hb hby dcp2_46) (by decide) (by decide) ?_
      try rw [e1]
      exact ⟨rfl, NA, KA, IL_congr (n := n) (f := fun q => if q < i then bI (ch q) else 0) (f' := fun q => bI (ch q)) (fun q hq => if_pos (by omega)) ▸ VB⟩
    | succ r ih =>
      intro i T h locs s6 hi X e1 NA KA ZA VA VB hs6
      refine Go.st (T' := T) (g' := (mkF m 7 #[rv arr, iv (Int32.ofNat i), rv dst, iv (Int32.ofNat i), iv (Int32.ofNat n), iv (Int32.ofNat i), s6] [(.int (Int32.ofNat n)), (.int (Int32.ofNat i))])) ?_ (fun _ kk_ => XS.iload X.here hx rfl (hb hby dcp2_3) rfl  (XS.iload X.here hx rfl (hb hby dcp2_5) rfl  kk_))
      have hin : i < n := by omega
      have hci := hc i hin
      refine Go.st (T' := T) (g' := (mkF m 31 #[rv arr, iv (Int32.ofNat i), rv dst, iv (Int32.ofNat i), iv (Int32.ofNat n), iv (Int32.ofNat i), iv (Int32.ofNat (ch i))] [(.int ((Int32.ofNat (ch i)).toInt8.toInt32)), (.int (Int32.ofNat i)), (.ref dst)])) ?_ (fun _ kk_ => XS.icmpNo X.here hx rfl (hb hby dcp2_7) rfl (tlt (((own_lt (by omega) (by omega)).mpr hin) : (Int32.ofNat i) < (Int32.ofNat n))).2.1 (XS.aloadN X.here hx rfl (hb hby dcp2_10) rfl rfl  (XS.iloadN X.here hx rfl (hb hby dcp2_11) rfl  (own_caload X hx hZ e1 VA (i := i) (v := (.int (Int32.ofNat (ch i)))) (IL_at hin) rfl rfl rfl (hb hby dcp2_12) (XS.istore X.here hx rfl (hb hby dcp2_13) rfl (l' := #[rv arr, iv (Int32.ofNat i), rv dst, iv (Int32.ofNat i), iv (Int32.ofNat n), iv (Int32.ofNat i), iv (Int32.ofNat (ch i))]) (by rcases hs6 with rfl | ⟨w, rfl, hw_⟩ <;> first | rfl | (cases w <;> first | rfl | (simp [Value.category] at hw_))) (XS.iload X.here hx rfl (hb hby dcp2_15) rfl  (XS.sipush X.here hx rfl (hb hby dcp2_17) (XS.icmpYes X.here hx rfl (pc0 := 20) (pc' := 26) rfl (hb hby dcp2_20) rfl (flt ((fun z => by have := (own_lt (i := 255) (by decide) (by omega)).mp z; omega) : ¬ ((255 : Int32) < (Int32.ofNat (ch i))))).2.2.2 (by decide) (by decide) (XS.aloadN X.here hx rfl (hb hby dcp2_26) rfl rfl  (XS.iloadN X.here hx rfl (hb hby dcp2_27) rfl  (XS.iload X.here hx rfl (hb hby dcp2_28) rfl  (XS.i2b X.here hx rfl (hb hby dcp2_30) rfl kk_))))))))))))
      refine Go.bastore X hx hZ e1 VB (i := i) (by rw [IL_len]; exact hin) rfl rfl rfl (hb hby dcp2_31) ?_
      intro T1 h1 X1 e1 W1 V1
      have N2 := Fr.snoc X1 NA g_d
      have K3 : Keep h0 h1 [dst] := KA.wr W1 (Or.inl (List.mem_of_getElem? (i := 0) rfl))
      have Z4 : n0 ≤ h1.size := by rw [W1.size]; exact ZA
      show Go p e below _ T1 (mkF m 32 #[rv arr, iv (Int32.ofNat i), rv dst, iv (Int32.ofNat i), iv (Int32.ofNat n), iv (Int32.ofNat i), iv (Int32.ofNat (ch i))] [])
      rw [show ((Int32.ofNat (ch i)).toInt8.toInt32).toInt8.toInt32 = bI (ch i) from bI_twice _ hci, IL_set hin] at V1
      refine Go.st (T' := T1) (g' := (mkF m 35 #[rv arr, iv ((Int32.ofNat i) + (1 : Int32)), rv dst, iv (Int32.ofNat i), iv (Int32.ofNat n), iv (Int32.ofNat i), iv (Int32.ofNat (ch i))] [])) ?_ (fun _ kk_ => XS.iinc X1.here hx rfl (hb hby dcp2_32) rfl (l' := #[rv arr, iv ((Int32.ofNat i) + (1 : Int32)), rv dst, iv (Int32.ofNat i), iv (Int32.ofNat n), iv (Int32.ofNat i), iv (Int32.ofNat (ch i))]) rfl kk_)
      refine Go.st (T' := T1) (g' := (mkF m 38 #[rv arr, iv ((Int32.ofNat i) + (1 : Int32)), rv dst, iv ((Int32.ofNat i) + (1 : Int32)), iv (Int32.ofNat n), iv (Int32.ofNat i), iv (Int32.ofNat (ch i))] [])) ?_ (fun _ kk_ => XS.iinc X1.here hx rfl (hb hby dcp2_35) rfl (l' := #[rv arr, iv ((Int32.ofNat i) + (1 : Int32)), rv dst, iv ((Int32.ofNat i) + (1 : Int32)), iv (Int32.ofNat n), iv (Int32.ofNat i), iv (Int32.ofNat (ch i))]) rfl kk_)
      refine Go.st (T' := T1) (g' := (mkF m 41 #[rv arr, iv ((Int32.ofNat i) + (1 : Int32)), rv dst, iv ((Int32.ofNat i) + (1 : Int32)), iv (Int32.ofNat n), iv ((Int32.ofNat i) + (1 : Int32)), iv (Int32.ofNat (ch i))] [])) ?_ (fun _ kk_ => XS.iinc X1.here hx rfl (hb hby dcp2_38) rfl (l' := #[rv arr, iv ((Int32.ofNat i) + (1 : Int32)), rv dst, iv ((Int32.ofNat i) + (1 : Int32)), iv (Int32.ofNat n), iv ((Int32.ofNat i) + (1 : Int32)), iv (Int32.ofNat (ch i))]) rfl kk_)
      have eI : Int32.ofNat i + (1 : Int32) = Int32.ofNat (i + 1) := own_add i 1
      rw [eI]
      show Go p e below _ T1 (mkF m 41 #[rv arr, iv (Int32.ofNat (i + 1)), rv dst, iv (Int32.ofNat (i + 1)), iv (Int32.ofNat n), iv (Int32.ofNat (i + 1)), iv (Int32.ofNat (ch i))] [])
      refine Go.st (T' := T1) (g' := (mkF m 3 #[rv arr, iv (Int32.ofNat (i + 1)), rv dst, iv (Int32.ofNat (i + 1)), iv (Int32.ofNat n), iv (Int32.ofNat (i + 1)), iv (Int32.ofNat (ch i))] [])) ?_ (fun _ kk_ => XS.goto X1.here hx rfl (pc0 := 41) (pc' := 3) rfl (hb hby dcp2_41) (by decide) (by decide) kk_)
      have f5 := (VA.other W1 ne_ad)
      exact ih (i + 1) T1 h1 _ _ (by omega) X1 e1 N2 K3 Z4 f5 (IL_congr (f := fun q => if q = i then bI (ch i) else if q < i then bI (ch q) else 0) (f' := fun q => if q < i + 1 then bI (ch q) else 0) (fun q hq => own_fill (fun q => bI (ch q)) i q) ▸ V1) (One.val rfl)
  exact loop n 0 s₁ h0 [] _ (by omega) X0 e0 N0 (Keep.refl _ _) Z0 V_a (IL_congr (f := fun _ => 0) (f' := fun q => if q < 0 then bI (ch q) else 0) (fun q hq => (if_neg (Nat.not_lt_zero q)).symm) ▸ V_d) One.u
theorem dcp1_0 : decode jdk_52_method_16_code 0 = .ok (.iload_n 2, 1) := by decide +kernel
theorem dcp1_1 : decode jdk_52_method_16_code 1 = .ok (.newarray .byte, 2) := by decide +kernel
theorem dcp1_3 : decode jdk_52_method_16_code 3 = .ok (.astore_n 3, 1) := by decide +kernel
theorem dcp1_4 : decode jdk_52_method_16_code 4 = .ok (.aload_n 0, 1) := by decide +kernel
theorem dcp1_5 : decode jdk_52_method_16_code 5 = .ok (.iload_n 1, 1) := by decide +kernel
theorem dcp1_6 : decode jdk_52_method_16_code 6 = .ok (.aload_n 3, 1) := by decide +kernel
theorem dcp1_7 : decode jdk_52_method_16_code 7 = .ok (.iconst 0, 1) := by decide +kernel
theorem dcp1_8 : decode jdk_52_method_16_code 8 = .ok (.iload_n 2, 1) := by decide +kernel
theorem dcp1_9 : decode jdk_52_method_16_code 9 = .ok (.invokestatic 115, 3) := by decide +kernel
theorem dcp1_12 : decode jdk_52_method_16_code 12 = .ok (.istore 4, 2) := by decide +kernel
theorem dcp1_14 : decode jdk_52_method_16_code 14 = .ok (.iload 4, 2) := by decide +kernel
theorem dcp1_16 : decode jdk_52_method_16_code 16 = .ok (.iload_n 2, 1) := by decide +kernel
theorem dcp1_17 : decode jdk_52_method_16_code 17 = .ok (.if_icmp .eq 40, 3) := by decide +kernel
theorem dcp1_57 : decode jdk_52_method_16_code 57 = .ok (.aload_n 3, 1) := by decide +kernel
theorem dcp1_58 : decode jdk_52_method_16_code 58 = .ok (.areturn, 1) := by decide +kernel
theorem pn_cp1 : plainFor (⟨"java/lang/StringUTF16", "compress", "([CII)[B"⟩ : MethodName) = true := by first | exact plainFor_of_name (by first | (simp [plainName, overriddenIn]; done) | decide +kernel) | decide +kernel
theorem ef_cp1 (m : MethodId) (x0 : Addr) (x1 : Int32) (x2 : Int32) : entryFrame m #[(.ref x0), (.int x1), (.int x2)] 6 = mkF m 0 #[rv x0, iv x1, iv x2, .unset, .unset, .unset] [] := by first | (simp [entryFrame, mkF, argsToLocals, Value.category]; done) | rfl
set_option maxRecDepth 65536 in
set_option maxHeartbeats 40000000 in
theorem rm_cp1 (l : Launch) (Z : State) (a0 : Array Value) (hw : ∀ d ∈ tables_1, d.before a0 Z = true) (ws : List Jvm.Cond) (arr : Addr) (n : Nat) (ch : Nat → Nat) (n0 : Nat) (h0 : Heap) (Z0 : n0 ≤ h0.size) (hn : n ≤ 8) (hc : ∀ q, q < n → ch q < 256) (V_arr : Ary Z h0 arr .char (IL n (fun q => Int32.ofNat (ch q)))) :
    Mt l Z (⟨"java/lang/StringUTF16", "compress", "([CII)[B"⟩ : MethodName) jdk_52_method_16_code 6 (some (.array .byte)) ws ({ frames := 1, cells := 1, slots := 8, locals := 20 } : Room) #[(.ref arr), (.int (0 : Int32)), (.int (Int32.ofNat n))] h0 (fun v h L => ∃ t, v = some (.ref t) ∧ Fr n0 L ∧ Keep h0 h [] ∧ h0.size ≤ t ∧ Ary Z h t .byte (IL n (fun q => bI (ch q)))) := by
  refine Mt.body pn_cp1 ?_
  intro p e s m below meth c s₁ hx hby hml hown hnm hret hlk hZ X0 e0
  refine Go.cast (g' := (mkF m 0 #[rv arr, iv (0 : Int32), iv (Int32.ofNat n), .unset, .unset, .unset] [])) (ef_cp1 m arr (0 : Int32) (Int32.ofNat n)) ?_
  have N0 := Fr.nil n0
  have K0 := Keep.refl h0 ([] : List Addr)
  refine Go.st (T' := s₁) (g' := (mkF m 1 #[rv arr, iv (0 : Int32), iv (Int32.ofNat n), .unset, .unset, .unset] [(.int (Int32.ofNat n))])) ?_ (fun _ kk_ => XS.iloadN X0.here hx rfl (hb hby dcp1_0) rfl  kk_)
  refine Go.newP X0 hx hZ (aty := .byte) (hw _ (List.mem_of_getElem? (i := 24) rfl)) e0 rfl (hb hby dcp1_1) (n := n) rfl rfl 8 hn (by decide) (by decide) (by decide) ?_
  intro T1 h1 b1 X1 e1 E1 g1 V1
  have ne_arr_b1 : arr ≠ b1 := Nat.ne_of_lt (Nat.lt_of_lt_of_eq (V_arr).lt g1.symm)
  have g_b1 : n0 ≤ b1 := Nat.le_trans Z0 (Nat.le_of_eq g1.symm)
  have sz_b1 : h0.size ≤ b1 := Nat.le_trans K0.1 (Nat.le_of_eq g1.symm)
  have Z2 : n0 ≤ h1.size := Nat.le_trans Z0 E1.1
  have K3 : Keep h0 h1 ([] : List Addr) := K0.ext E1
  change Ary Z h1 b1 .byte (List.replicate n (.int 0)) at V1
  show Go p e below _ T1 (mkF m 3 #[rv arr, iv (0 : Int32), iv (Int32.ofNat n), .unset, .unset, .unset] [(.ref b1)])
  rw [IL_rep] at V1
  refine Go.st (T' := T1) (g' := (mkF m 9 #[rv arr, iv (0 : Int32), iv (Int32.ofNat n), rv b1, .unset, .unset] [(.int (Int32.ofNat n)), (.int (0 : Int32)), (.ref b1), (.int (0 : Int32)), (.ref arr)])) ?_ (fun _ kk_ => XS.astoreN X1.here hx rfl (hb hby dcp1_3) rfl rfl (l' := #[rv arr, iv (0 : Int32), iv (Int32.ofNat n), rv b1, .unset, .unset]) rfl (XS.aloadN X1.here hx rfl (hb hby dcp1_4) rfl rfl  (XS.iloadN X1.here hx rfl (hb hby dcp1_5) rfl  (XS.aloadN X1.here hx rfl (hb hby dcp1_6) rfl rfl  (XS.iconst X1.here hx rfl (hb hby dcp1_7) (XS.iloadN X1.here hx rfl (hb hby dcp1_8) rfl  kk_))))))
  have f4 := (V_arr.ext E1)
  refine Go.callS (y := (⟨"java/lang/StringUTF16", "compress", "([CI[BII)I"⟩ : MethodName)) X1 hx hZ hown (hw _ (List.mem_of_getElem? (i := 25) rfl)) (hw _ (List.mem_of_getElem? (i := 26) rfl)) (hw _ (List.mem_of_getElem? (i := 22) rfl)) (hw _ (List.mem_of_getElem? (i := 27) rfl)) (by decide) 0 (rm_cp2 l Z a0 hw [] arr b1 n ch n0 h1 Z2 hn hc f4 V1 g_b1 ne_arr_b1) e1 (by decide) (by decide) (by decide) (by decide) (argsL := [(.ref arr), (.int (0 : Int32)), (.ref b1), (.int (0 : Int32)), (.int (Int32.ofNat n))]) (rest := []) rfl (by rw [hml]; rfl) (lenOf pd__28_5bCI_5bBII_29I rfl) rfl rfl (by show 2 * 0 + _ ≤ _; exact Nat.le_of_eq rfl) (hb hby dcp1_9) ?_
  rintro _ T5 L5 X5 ⟨rfl, N5, K5, V5⟩
  have N6 := Fr.app N0 N5
  have Z7 : n0 ≤ T5.heap.size := Nat.le_trans Z2 K5.1
  have K8 : Keep h0 T5.heap ([] : List Addr) := K3.trans K5 (allS (P := fun z_ => z_ ∈ ([] : List Addr) ∨ h0.size ≤ z_) (Or.inr sz_b1) all0)
  show Go p e below _ T5 (mkF m 12 #[rv arr, iv (0 : Int32), iv (Int32.ofNat n), rv b1, .unset, .unset] [(.int (Int32.ofNat n))])
  refine Go.st (T' := T5) (g' := (mkF m 58 #[rv arr, iv (0 : Int32), iv (Int32.ofNat n), rv b1, iv (Int32.ofNat n), .unset] [(.ref b1)])) ?_ (fun _ kk_ => XS.istore X5.here hx rfl (hb hby dcp1_12) rfl (l' := #[rv arr, iv (0 : Int32), iv (Int32.ofNat n), rv b1, iv (Int32.ofNat n), .unset]) rfl (XS.iload X5.here hx rfl (hb hby dcp1_14) rfl  (XS.iloadN X5.here hx rfl (hb hby dcp1_16) rfl  (XS.icmpYes X5.here hx rfl (pc0 := 17) (pc' := 57) rfl (hb hby dcp1_17) rfl (teq (rfl : (Int32.ofNat n) = (Int32.ofNat n))).1 (by decide) (by decide) (XS.aloadN X5.here hx rfl (hb hby dcp1_57) rfl rfl  kk_)))))
  refine Go.retA X5 hx hlk hret rfl rfl (hb hby dcp1_58) (by decide) (by decide) ?_
  exact ⟨b1, rfl, N6, K8, sz_b1, V5⟩
theorem dcal_0 : decode jdk_52_method_15_code 0 = .ok (.iload_n 1, 1) := by decide +kernel
theorem dcal_1 : decode jdk_52_method_15_code 1 = .ok (.aload_n 0, 1) := by decide +kernel
theorem dcal_2 : decode jdk_52_method_15_code 2 = .ok (.arraylength, 1) := by decide +kernel
theorem dcal_3 : decode jdk_52_method_15_code 3 = .ok (.isub, 1) := by decide +kernel
theorem dcal_4 : decode jdk_52_method_15_code 4 = .ok (.bipush 31, 2) := by decide +kernel
theorem dcal_6 : decode jdk_52_method_15_code 6 = .ok (.iushr, 1) := by decide +kernel
theorem dcal_7 : decode jdk_52_method_15_code 7 = .ok (.i2b, 1) := by decide +kernel
theorem dcal_8 : decode jdk_52_method_15_code 8 = .ok (.ireturn, 1) := by decide +kernel
theorem pn_cal : plainFor (⟨"java/lang/StringUTF16", "coderFromArrayLen", "([BI)B"⟩ : MethodName) = true := by first | exact plainFor_of_name (by first | (simp [plainName, overriddenIn]; done) | decide +kernel) | decide +kernel
theorem ef_cal (m : MethodId) (x0 : Addr) (x1 : Int32) : entryFrame m #[(.ref x0), (.int x1)] 2 = mkF m 0 #[rv x0, iv x1] [] := by first | (simp [entryFrame, mkF, argsToLocals, Value.category]; done) | rfl
set_option maxRecDepth 65536 in
set_option maxHeartbeats 40000000 in
theorem rm_cal (l : Launch) (Z : State) (a0 : Array Value) (hw : ∀ d ∈ tables_1, d.before a0 Z = true) (ws : List Jvm.Cond) (t : Addr) (n : Nat) (f : Nat → Int32) (h0 : Heap) (V_t : Ary Z h0 t .byte (IL n f)) :
    Mt l Z (⟨"java/lang/StringUTF16", "coderFromArrayLen", "([BI)B"⟩ : MethodName) jdk_52_method_15_code 2 (some .byte) ws ({ frames := 0, cells := 0, slots := 0, locals := 0 } : Room) #[(.ref t), (.int (Int32.ofNat n))] h0 (fun v h L => v = some (.int (0 : Int32)) ∧ h = h0 ∧ L = []) := by
  refine Mt.body pn_cal ?_
  intro p e s m below meth c s₁ hx hby hml hown hnm hret hlk hZ X0 e0
  refine Go.cast (g' := (mkF m 0 #[rv t, iv (Int32.ofNat n)] [])) (ef_cal m t (Int32.ofNat n)) ?_
  have N0 := Fr.nil 0
  refine Go.st (T' := s₁) (g' := (mkF m 4 #[rv t, iv (Int32.ofNat n)] [(.int ((Int32.ofNat n) - (Int32.ofNat n)))])) ?_ (fun _ kk_ => XS.iloadN X0.here hx rfl (hb hby dcal_0) rfl  (XS.aloadN X0.here hx rfl (hb hby dcal_1) rfl rfl  (own_alen X0 hx hZ e0 V_t (IL_len _ _) rfl rfl (hb hby dcal_2) (XS.isub X0.here hx rfl (hb hby dcal_3) rfl kk_))))
  rw [show Int32.ofNat n - Int32.ofNat n = (0 : Int32) from Int32.sub_self _]
  show Go p e below _ s₁ (mkF m 4 #[rv t, iv (Int32.ofNat n)] [(.int (0 : Int32))])
  refine Go.st (T' := s₁) (g' := (mkF m 8 #[rv t, iv (Int32.ofNat n)] [(.int ((((0 : Int32).toUInt32 >>> ((31 : Int32) &&& 31).toUInt32).toInt32).toInt8.toInt32))])) ?_ (fun _ kk_ => XS.bipush X0.here hx rfl (hb hby dcal_4) (XS.iushr X0.here hx rfl (hb hby dcal_6) rfl (XS.i2b X0.here hx rfl (hb hby dcal_7) rfl kk_)))
  refine Go.retN X0 hx hlk (t := .byte) hret (by simp) (z' := (0 : Int32)) (by decide) (hb hby dcal_8) (by decide) (by decide) ?_
  try rw [e0]
  exact ⟨rfl, rfl, rfl⟩
theorem dinV_0 : decode jdk_42_method_149_code 0 = .ok (.aload_n 0, 1) := by decide +kernel
theorem dinV_1 : decode jdk_42_method_149_code 1 = .ok (.invokespecial 1, 3) := by decide +kernel
theorem dinV_4 : decode jdk_42_method_149_code 4 = .ok (.iload_n 3, 1) := by decide +kernel
theorem dinV_5 : decode jdk_42_method_149_code 5 = .ok (.ifCond .ne 22, 3) := by decide +kernel
theorem dinV_27 : decode jdk_42_method_149_code 27 = .ok (.getstatic 38, 3) := by decide +kernel
theorem dinV_30 : decode jdk_42_method_149_code 30 = .ok (.ifCond .eq 28, 3) := by decide +kernel
theorem dinV_33 : decode jdk_42_method_149_code 33 = .ok (.aload_n 1, 1) := by decide +kernel
theorem dinV_34 : decode jdk_42_method_149_code 34 = .ok (.iload_n 2, 1) := by decide +kernel
theorem dinV_35 : decode jdk_42_method_149_code 35 = .ok (.iload_n 3, 1) := by decide +kernel
theorem dinV_36 : decode jdk_42_method_149_code 36 = .ok (.invokestatic 177, 3) := by decide +kernel
theorem dinV_39 : decode jdk_42_method_149_code 39 = .ok (.astore 5, 2) := by decide +kernel
theorem dinV_41 : decode jdk_42_method_149_code 41 = .ok (.aload_n 0, 1) := by decide +kernel
theorem dinV_42 : decode jdk_42_method_149_code 42 = .ok (.aload 5, 2) := by decide +kernel
theorem dinV_44 : decode jdk_42_method_149_code 44 = .ok (.iload_n 3, 1) := by decide +kernel
theorem dinV_45 : decode jdk_42_method_149_code 45 = .ok (.invokestatic 47, 3) := by decide +kernel
theorem dinV_48 : decode jdk_42_method_149_code 48 = .ok (.putfield 15, 3) := by decide +kernel
theorem dinV_51 : decode jdk_42_method_149_code 51 = .ok (.aload_n 0, 1) := by decide +kernel
theorem dinV_52 : decode jdk_42_method_149_code 52 = .ok (.aload 5, 2) := by decide +kernel
theorem dinV_54 : decode jdk_42_method_149_code 54 = .ok (.putfield 9, 3) := by decide +kernel
theorem dinV_57 : decode jdk_42_method_149_code 57 = .ok (.return_, 1) := by decide +kernel
theorem pn_inV : plainFor (⟨"java/lang/String", "<init>", "([CIILjava/lang/Void;)V"⟩ : MethodName) = true := by first | exact plainFor_of_name (by first | (simp [plainName, overriddenIn]; done) | decide +kernel) | decide +kernel
theorem ef_inV (m : MethodId) (x0 : Addr) (x1 : Addr) (x2 : Int32) (x3 : Int32) : entryFrame m #[(.ref x0), (.ref x1), (.int x2), (.int x3), .null] 6 = mkF m 0 #[rv x0, rv x1, iv x2, iv x3, .val .null, .unset] [] := by first | (simp [entryFrame, mkF, argsToLocals, Value.category]; done) | rfl
set_option maxRecDepth 65536 in
set_option maxHeartbeats 40000000 in
theorem rm_inV (l : Launch) (Z : State) (a0 : Array Value) (hw : ∀ d ∈ tables_1, d.before a0 Z = true) (ws : List Jvm.Cond) (x arr : Addr) (n : Nat) (ch : Nat → Nat) (n0 : Nat) (cS : Int32) (h0 : Heap) (Z0 : n0 ≤ h0.size) (hn1 : 1 ≤ n) (hn : n ≤ 8) (hc : ∀ q, q < n → ch q < 256) (V_arr : Ary Z h0 arr .char (IL n (fun q => Int32.ofNat (ch q)))) (E_x : Exa Z h0 x "java/lang/String") (Fv : Fld Z h0 x "java/lang/String" "value" "[B" .null) (Fc : Fld Z h0 x "java/lang/String" "coder" "B" (.int (0 : Int32))) (g_x : n0 ≤ x) (O0 : Old Z n0 h0) (Sc : Sta Z Z.heap "java/lang/String" "COMPACT_STRINGS" "Z" (.int cS)) (hcS : ¬ (cS = (0 : Int32))) (ne_x_arr : x ≠ arr) :
    Mt l Z (⟨"java/lang/String", "<init>", "([CIILjava/lang/Void;)V"⟩ : MethodName) jdk_42_method_149_code 6 none ws ({ frames := 2, cells := 1, slots := 8, locals := 38 } : Room) #[(.ref x), (.ref arr), (.int (0 : Int32)), (.int (Int32.ofNat n)), .null] h0 (fun v h L => v = none ∧ Fr n0 L ∧ Keep h0 h [x] ∧ Fld Z h x "java/lang/String" "coder" "B" (.int (0 : Int32)) ∧ ∃ t, h0.size ≤ t ∧ Fld Z h x "java/lang/String" "value" "[B" (.ref t) ∧ Ary Z h t .byte (IL n (fun q => bI (ch q)))) := by
  refine Mt.body pn_inV ?_
  intro p e s m below meth c s₁ hx hby hml hown hnm hret hlk hZ X0 e0
  refine Go.cast (g' := (mkF m 0 #[rv x, rv arr, iv (0 : Int32), iv (Int32.ofNat n), .val .null, .unset] [])) (ef_inV m x arr (0 : Int32) (Int32.ofNat n)) ?_
  have N0 := Fr.nil n0
  have K0 := Keep.refl h0 [x]
  refine Go.st (T' := s₁) (g' := (mkF m 1 #[rv x, rv arr, iv (0 : Int32), iv (Int32.ofNat n), .val .null, .unset] [(.ref x)])) ?_ (fun _ kk_ => XS.aloadN X0.here hx rfl (hb hby dinV_0) rfl rfl  kk_)
  obtain ⟨T1, X1, e1, st1⟩ := initO X0 hx hZ hown (hw _ (List.mem_of_getElem? (i := 16) rfl)) (hw _ (List.mem_of_getElem? (i := 17) rfl)) (hw _ (List.mem_of_getElem? (i := 18) rfl)) e0 (g := (mkF m 1 #[rv x, rv arr, iv (0 : Int32), iv (Int32.ofNat n), .val .null, .unset] [(.ref x)])) rfl (by rw [hml]; rfl) rfl (hb hby dinV_1) (by decide) (W := 0) (by show 2 * 0 + _ ≤ _; exact Nat.le_of_eq rfl) (by decide)
  refine Go.st (T' := T1) (g' := (mkF m 4 #[rv x, rv arr, iv (0 : Int32), iv (Int32.ofNat n), .val .null, .unset] [])) ?_ st1
  refine Go.st (T' := T1) (g' := (mkF m 27 #[rv x, rv arr, iv (0 : Int32), iv (Int32.ofNat n), .val .null, .unset] [])) ?_ (fun _ kk_ => XS.iloadN X1.here hx rfl (hb hby dinV_4) rfl  (XS.ifYes X1.here hx rfl (pc0 := 5) (pc' := 27) rfl (hb hby dinV_5) rfl ((if0 _ _).trans (feq ((fun z => by have := (own_eq (i := n) (n := 0) (by omega) (by decide)).mp z; omega) : ¬ ((Int32.ofNat n) = (0 : Int32)))).2) (by decide) (by decide) kk_))
  obtain ⟨T2, X2, e2, st2⟩ := getS2 X1 hx hZ hown (host := "") (Or.inl (hw _ (List.mem_of_getElem? (i := 19) rfl))) Via.refl e1 (Sc.ext O0.2) (g := (mkF m 27 #[rv x, rv arr, iv (0 : Int32), iv (Int32.ofNat n), .val .null, .unset] [])) rfl (hb hby dinV_27)
  refine Go.st (T' := T2) (g' := (mkF m 30 #[rv x, rv arr, iv (0 : Int32), iv (Int32.ofNat n), .val .null, .unset] [(.int cS)])) ?_ st2
  refine Go.st (T' := T2) (g' := (mkF m 36 #[rv x, rv arr, iv (0 : Int32), iv (Int32.ofNat n), .val .null, .unset] [(.int (Int32.ofNat n)), (.int (0 : Int32)), (.ref arr)])) ?_ (fun _ kk_ => XS.ifNo X2.here hx rfl (hb hby dinV_30) rfl ((if0 _ _).trans (feq (hcS : ¬ (cS = (0 : Int32)))).1) (XS.aloadN X2.here hx rfl (hb hby dinV_33) rfl rfl  (XS.iloadN X2.here hx rfl (hb hby dinV_34) rfl  (XS.iloadN X2.here hx rfl (hb hby dinV_35) rfl  kk_))))
  refine Go.callS (y := (⟨"java/lang/StringUTF16", "compress", "([CII)[B"⟩ : MethodName)) X2 hx hZ hown (hw _ (List.mem_of_getElem? (i := 20) rfl)) (hw _ (List.mem_of_getElem? (i := 21) rfl)) (hw _ (List.mem_of_getElem? (i := 22) rfl)) (hw _ (List.mem_of_getElem? (i := 23) rfl)) (by decide) 0 (rm_cp1 l Z a0 hw [] arr n ch n0 h0 Z0 hn hc V_arr) e2 (by decide) (by decide) (by decide) (by decide) (argsL := [(.ref arr), (.int (0 : Int32)), (.int (Int32.ofNat n))]) (rest := []) rfl (by rw [hml]; rfl) (lenOf pd__28_5bCII_29_5bB rfl) rfl rfl (by show 2 * 0 + _ ≤ _; exact Nat.le_of_eq rfl) (hb hby dinV_36) ?_
  rintro _ T3 L3 X3 ⟨t, rfl, N3, K3, tz, V3⟩
  have N4 := Fr.app N0 N3
  have O5 := O0.keep K3 all0
  have Z6 : n0 ≤ T3.heap.size := Nat.le_trans Z0 K3.1
  have K7 : Keep h0 T3.heap [x] := K0.trans K3 all0
  show Go p e below _ T3 (mkF m 39 #[rv x, rv arr, iv (0 : Int32), iv (Int32.ofNat n), .val .null, .unset] [(.ref t)])
  have ne_x_t : x ≠ t := Nat.ne_of_lt (Nat.lt_of_lt_of_le E_x.lt tz)
  refine Go.st (T' := T3) (g' := (mkF m 45 #[rv x, rv arr, iv (0 : Int32), iv (Int32.ofNat n), .val .null, rv t] [(.int (Int32.ofNat n)), (.ref t), (.ref x)])) ?_ (fun _ kk_ => XS.astore X3.here hx rfl (hb hby dinV_39) rfl rfl (l' := #[rv x, rv arr, iv (0 : Int32), iv (Int32.ofNat n), .val .null, rv t]) rfl (XS.aloadN X3.here hx rfl (hb hby dinV_41) rfl rfl  (XS.aload X3.here hx rfl (hb hby dinV_42) rfl rfl  (XS.iloadN X3.here hx rfl (hb hby dinV_44) rfl  kk_))))
  refine Go.callS (y := (⟨"java/lang/StringUTF16", "coderFromArrayLen", "([BI)B"⟩ : MethodName)) X3 hx hZ hown (hw _ (List.mem_of_getElem? (i := 28) rfl)) (hw _ (List.mem_of_getElem? (i := 29) rfl)) (hw _ (List.mem_of_getElem? (i := 22) rfl)) (hw _ (List.mem_of_getElem? (i := 30) rfl)) (by decide) 1 (rm_cal l Z a0 hw [] t n _ T3.heap V3) rfl (by decide) (by decide) (by decide) (by decide) (argsL := [(.ref t), (.int (Int32.ofNat n))]) (rest := [(.ref x)]) rfl (by rw [hml]; rfl) (lenOf pd__28_5bBI_29B rfl) rfl rfl (by show 2 * 0 + _ ≤ _; exact Nat.le_of_eq rfl) (hb hby dinV_45) ?_
  rintro _ T8 L8 X8 ⟨rfl, e8, rfl⟩
  have N9 := Fr.app N4 (Fr.nil _)
  show Go p e below _ T8 (mkF m 48 #[rv x, rv arr, iv (0 : Int32), iv (Int32.ofNat n), .val .null, rv t] [(.int (0 : Int32)), (.ref x)])
  have f10 := (Fc.keep K3 nin0)
  have f11 := (E_x.keep K3)
  obtain ⟨T12, h12, X12, e12, W12, st12⟩ := putFN X8 hx hZ hown (hw _ (List.mem_of_getElem? (i := 31) rfl)) Via.refl e8 f10 f11 (Or.inr ⟨(hw _ (List.mem_of_getElem? (i := 32) rfl)), rfl, hnm⟩) (hw _ (List.mem_of_getElem? (i := 6) rfl)) (ty := .byte) (v' := (.int (0 : Int32))) (by decide) (by decide) (by decide) (g := (mkF m 48 #[rv x, rv arr, iv (0 : Int32), iv (Int32.ofNat n), .val .null, rv t] [(.int (0 : Int32)), (.ref x)])) rfl rfl (hb hby dinV_48)
  have N13 := Fr.snoc X12 N9 g_x
  have O14 := O5.wr W12 g_x
  have f15 := f10.same W12
  have K16 : Keep h0 h12 [x] := K7.wr W12 (Or.inl (List.mem_of_getElem? (i := 0) rfl))
  have Z17 : n0 ≤ h12.size := by rw [W12.size]; exact Z6
  refine Go.st (T' := T12) (g' := (mkF m 51 #[rv x, rv arr, iv (0 : Int32), iv (Int32.ofNat n), .val .null, rv t] [])) ?_ st12
  refine Go.st (T' := T12) (g' := (mkF m 54 #[rv x, rv arr, iv (0 : Int32), iv (Int32.ofNat n), .val .null, rv t] [(.ref t), (.ref x)])) ?_ (fun _ kk_ => XS.aloadN X12.here hx rfl (hb hby dinV_51) rfl rfl  (XS.aload X12.here hx rfl (hb hby dinV_52) rfl rfl  kk_))
  have f18 := ((Fv.keep K3 nin0).other W12 (Or.inr (slot_ne (C := "java/lang/String") (Or.inr (hw _ (List.mem_of_getElem? (i := 34) rfl))) (Or.inr (hw _ (List.mem_of_getElem? (i := 32) rfl))) (by decide) (t := (.array .byte)) (t' := .byte) (by decide) (by decide))))
  have f19 := (f11.wr W12)
  obtain ⟨T20, h20, X20, e20, W20, st20⟩ := putF X12 hx hZ hown (host := "") (Or.inl (hw _ (List.mem_of_getElem? (i := 33) rfl))) Via.refl e12 f18 f19 (Or.inr ⟨(hw _ (List.mem_of_getElem? (i := 34) rfl)), rfl, hnm⟩) (hw _ (List.mem_of_getElem? (i := 6) rfl)) (ty := (.array .byte)) (by decide) rfl rfl (g := (mkF m 54 #[rv x, rv arr, iv (0 : Int32), iv (Int32.ofNat n), .val .null, rv t] [(.ref t), (.ref x)])) rfl rfl (hb hby dinV_54)
  have N21 := Fr.snoc X20 N13 g_x
  have O22 := O14.wr W20 g_x
  have f23 := f18.same W20
  have K24 : Keep h0 h20 [x] := K16.wr W20 (Or.inl (List.mem_of_getElem? (i := 0) rfl))
  have Z25 : n0 ≤ h20.size := by rw [W20.size]; exact Z17
  refine Go.st (T' := T20) (g' := (mkF m 57 #[rv x, rv arr, iv (0 : Int32), iv (Int32.ofNat n), .val .null, rv t] [])) ?_ st20
  have f26 := (f15.other W20 (Or.inr (slot_ne (C := "java/lang/String") (Or.inr (hw _ (List.mem_of_getElem? (i := 32) rfl))) (Or.inr (hw _ (List.mem_of_getElem? (i := 34) rfl))) (by decide) (t := .byte) (t' := (.array .byte)) (by decide) (by decide))))
  have f27 := ((V3.other W12 (Ne.symm ne_x_t)).other W20 (Ne.symm ne_x_t))
  refine Go.retV X20 hx hlk hret (hb hby dinV_57) (by decide) (by decide) ?_
  try rw [e20]
  exact ⟨rfl, N21, K24, f26, t, tz, f23, f27⟩
theorem din1_0 : decode jdk_42_method_3_code 0 = .ok (.aload_n 0, 1) := by decide +kernel
theorem din1_1 : decode jdk_42_method_3_code 1 = .ok (.aload_n 1, 1) := by decide +kernel
theorem din1_2 : decode jdk_42_method_3_code 2 = .ok (.iconst 0, 1) := by decide +kernel
theorem din1_3 : decode jdk_42_method_3_code 3 = .ok (.aload_n 1, 1) := by decide +kernel
theorem din1_4 : decode jdk_42_method_3_code 4 = .ok (.arraylength, 1) := by decide +kernel
theorem din1_5 : decode jdk_42_method_3_code 5 = .ok (.aconst_null, 1) := by decide +kernel
theorem din1_6 : decode jdk_42_method_3_code 6 = .ok (.invokespecial 27, 3) := by decide +kernel
theorem din1_9 : decode jdk_42_method_3_code 9 = .ok (.return_, 1) := by decide +kernel
theorem pn_in1 : plainFor (⟨"java/lang/String", "<init>", "([C)V"⟩ : MethodName) = true := by first | exact plainFor_of_name (by first | (simp [plainName, overriddenIn]; done) | decide +kernel) | decide +kernel
theorem ef_in1 (m : MethodId) (x0 : Addr) (x1 : Addr) : entryFrame m #[(.ref x0), (.ref x1)] 2 = mkF m 0 #[rv x0, rv x1] [] := by first | (simp [entryFrame, mkF, argsToLocals, Value.category]; done) | rfl
set_option maxRecDepth 65536 in
set_option maxHeartbeats 40000000 in
theorem rm_in1 (l : Launch) (Z : State) (a0 : Array Value) (hw : ∀ d ∈ tables_1, d.before a0 Z = true) (ws : List Jvm.Cond) (x arr : Addr) (n : Nat) (ch : Nat → Nat) (n0 : Nat) (cS : Int32) (h0 : Heap) (Z0 : n0 ≤ h0.size) (hn1 : 1 ≤ n) (hn : n ≤ 8) (hc : ∀ q, q < n → ch q < 256) (V_arr : Ary Z h0 arr .char (IL n (fun q => Int32.ofNat (ch q)))) (E_x : Exa Z h0 x "java/lang/String") (Fv : Fld Z h0 x "java/lang/String" "value" "[B" .null) (Fc : Fld Z h0 x "java/lang/String" "coder" "B" (.int (0 : Int32))) (g_x : n0 ≤ x) (O0 : Old Z n0 h0) (Sc : Sta Z Z.heap "java/lang/String" "COMPACT_STRINGS" "Z" (.int cS)) (hcS : ¬ (cS = (0 : Int32))) (ne_x_arr : x ≠ arr) :
    Mt l Z (⟨"java/lang/String", "<init>", "([C)V"⟩ : MethodName) jdk_42_method_3_code 2 none ws ({ frames := 3, cells := 1, slots := 8, locals := 55 } : Room) #[(.ref x), (.ref arr)] h0 (fun v h L => v = none ∧ Fr n0 L ∧ Keep h0 h [x] ∧ Fld Z h x "java/lang/String" "coder" "B" (.int (0 : Int32)) ∧ ∃ t, h0.size ≤ t ∧ Fld Z h x "java/lang/String" "value" "[B" (.ref t) ∧ Ary Z h t .byte (IL n (fun q => bI (ch q)))) := by
  refine Mt.body pn_in1 ?_
  intro p e s m below meth c s₁ hx hby hml hown hnm hret hlk hZ X0 e0
  refine Go.cast (g' := (mkF m 0 #[rv x, rv arr] [])) (ef_in1 m x arr) ?_
  have N0 := Fr.nil n0
  have K0 := Keep.refl h0 [x]
  refine Go.st (T' := s₁) (g' := (mkF m 6 #[rv x, rv arr] [.null, (.int (Int32.ofNat n)), (.int (0 : Int32)), (.ref arr), (.ref x)])) ?_ (fun _ kk_ => XS.aloadN X0.here hx rfl (hb hby din1_0) rfl rfl  (XS.aloadN X0.here hx rfl (hb hby din1_1) rfl rfl  (XS.iconst X0.here hx rfl (hb hby din1_2) (XS.aloadN X0.here hx rfl (hb hby din1_3) rfl rfl  (own_alen X0 hx hZ e0 V_arr (IL_len _ _) rfl rfl (hb hby din1_4) (XS.aconstNull X0.here hx rfl (hb hby din1_5) kk_))))))
  refine Go.callN (y := (⟨"java/lang/String", "<init>", "([CIILjava/lang/Void;)V"⟩ : MethodName)) X0 hx hZ rfl hown (hw _ (List.mem_of_getElem? (i := 12) rfl)) (hw _ (List.mem_of_getElem? (i := 13) rfl)) (hw _ (List.mem_of_getElem? (i := 7) rfl)) (hw _ (List.mem_of_getElem? (i := 15) rfl)) (by decide) 0 (rm_inV l Z a0 hw [] x arr n ch n0 cS h0 Z0 hn1 hn hc V_arr E_x Fv Fc g_x O0 Sc hcS ne_x_arr) e0 (by decide) (by decide) (by decide) (by decide) (a := x) (argsL := [(.ref arr), (.int (0 : Int32)), (.int (Int32.ofNat n)), .null]) (rest := []) rfl (by rw [hml]; rfl) (lenOf pd__28_5bCIILjava_2flang_2fVoid_3b_29V rfl) rfl rfl (by show 2 * 0 + _ ≤ _; exact Nat.le_of_eq rfl) (hb hby din1_6) ?_
  rintro _ T1 L1 X1 ⟨rfl, N1, K1, Fc1, t, tz, Fv1, V1⟩
  have N2 := Fr.app N0 N1
  have Z3 : n0 ≤ T1.heap.size := Nat.le_trans Z0 K1.1
  have K4 : Keep h0 T1.heap [x] := K0.trans K1 (allS (P := fun z_ => z_ ∈ [x] ∨ h0.size ≤ z_) (Or.inl (List.mem_of_getElem? (i := 0) rfl)) all0)
  show Go p e below _ T1 (mkF m 9 #[rv x, rv arr] [])
  refine Go.retV X1 hx hlk hret (hb hby din1_9) (by decide) (by decide) ?_
  exact ⟨rfl, N2, K4, Fc1, t, tz, Fv1, V1⟩
theorem dinE_0 : decode jdk_42_method_149_code 0 = .ok (.aload_n 0, 1) := by decide +kernel
theorem dinE_1 : decode jdk_42_method_149_code 1 = .ok (.invokespecial 1, 3) := by decide +kernel
theorem dinE_4 : decode jdk_42_method_149_code 4 = .ok (.iload_n 3, 1) := by decide +kernel
theorem dinE_5 : decode jdk_42_method_149_code 5 = .ok (.ifCond .ne 22, 3) := by decide +kernel
theorem dinE_8 : decode jdk_42_method_149_code 8 = .ok (.aload_n 0, 1) := by decide +kernel
theorem dinE_9 : decode jdk_42_method_149_code 9 = .ok (.ldc 7, 2) := by decide +kernel
theorem dinE_11 : decode jdk_42_method_149_code 11 = .ok (.getfield 9, 3) := by decide +kernel
theorem dinE_14 : decode jdk_42_method_149_code 14 = .ok (.putfield 9, 3) := by decide +kernel
theorem dinE_17 : decode jdk_42_method_149_code 17 = .ok (.aload_n 0, 1) := by decide +kernel
theorem dinE_18 : decode jdk_42_method_149_code 18 = .ok (.ldc 7, 2) := by decide +kernel
theorem dinE_20 : decode jdk_42_method_149_code 20 = .ok (.getfield 15, 3) := by decide +kernel
theorem dinE_23 : decode jdk_42_method_149_code 23 = .ok (.putfield 15, 3) := by decide +kernel
theorem dinE_26 : decode jdk_42_method_149_code 26 = .ok (.return_, 1) := by decide +kernel
theorem pn_inE : plainFor (⟨"java/lang/String", "<init>", "([CIILjava/lang/Void;)V"⟩ : MethodName) = true := by first | exact plainFor_of_name (by first | (simp [plainName, overriddenIn]; done) | decide +kernel) | decide +kernel
theorem ef_inE (m : MethodId) (x0 : Addr) (x1 : Addr) (x2 : Int32) (x3 : Int32) : entryFrame m #[(.ref x0), (.ref x1), (.int x2), (.int x3), .null] 6 = mkF m 0 #[rv x0, rv x1, iv x2, iv x3, .val .null, .unset] [] := by first | (simp [entryFrame, mkF, argsToLocals, Value.category]; done) | rfl
set_option maxRecDepth 65536 in
set_option maxHeartbeats 40000000 in
theorem rm_inE (l : Launch) (Z : State) (a0 : Array Value) (hw : ∀ d ∈ tables_1, d.before a0 Z = true) (ws : List Jvm.Cond) (x arr : Addr) (n0 : Nat) (h0 : Heap) (hEL : EW Z a0 consts_1) (wS : ∀ a ∈ Bundle.stringAtoms, a.before a0 Z = true) (Z0 : n0 ≤ h0.size) (E_x : Exa Z h0 x "java/lang/String") (Fv : Fld Z h0 x "java/lang/String" "value" "[B" .null) (Fc : Fld Z h0 x "java/lang/String" "coder" "B" (.int (0 : Int32))) (g_x : n0 ≤ x) :
    MtH l Z consts_1 (⟨"java/lang/String", "<init>", "([CIILjava/lang/Void;)V"⟩ : MethodName) jdk_42_method_149_code 6 none ws ({ frames := 1, cells := 4, slots := 8, locals := 13 } : Room) #[(.ref x), (.ref arr), (.int (0 : Int32)), (.int (0 : Int32)), .null] h0 (fun v h L => v = none ∧ Fr n0 L ∧ Keep h0 h [x] ∧ Fld Z h x "java/lang/String" "coder" "B" (.int (0 : Int32)) ∧ ∃ t, Fld Z h x "java/lang/String" "value" "[B" (.ref t) ∧ Ary Z h t .byte (IL 0 (fun _ => 0))) := by
  refine MtH.body pn_inE ?_
  intro p e s m below meth c s₁ hx hby hml hown hnm hret hlk hZ X0 e0 HS0
  refine Go.cast (g' := (mkF m 0 #[rv x, rv arr, iv (0 : Int32), iv (0 : Int32), .val .null, .unset] [])) (ef_inE m x arr (0 : Int32) (0 : Int32)) ?_
  have N0 := Fr.nil n0
  have K0 := Keep.refl h0 [x]
  have sfx : Sf Z consts_1 s.vm h0 x := ⟨own_nullSafe hZ.alike E_x Fv, E_x.lt⟩
  refine Go.st (T' := s₁) (g' := (mkF m 1 #[rv x, rv arr, iv (0 : Int32), iv (0 : Int32), .val .null, .unset] [(.ref x)])) ?_ (fun _ kk_ => XS.aloadN X0.here hx rfl (hb hby dinE_0) rfl rfl  kk_)
  obtain ⟨T1, X1, e1, st1⟩ := initO X0 hx hZ hown (hw _ (List.mem_of_getElem? (i := 16) rfl)) (hw _ (List.mem_of_getElem? (i := 17) rfl)) (hw _ (List.mem_of_getElem? (i := 18) rfl)) e0 (g := (mkF m 1 #[rv x, rv arr, iv (0 : Int32), iv (0 : Int32), .val .null, .unset] [(.ref x)])) rfl (by rw [hml]; rfl) rfl (hb hby dinE_1) (by decide) (W := 0) (by show 2 * 0 + _ ≤ _; exact Nat.le_of_eq rfl) (by decide)
  refine Go.st (T' := T1) (g' := (mkF m 4 #[rv x, rv arr, iv (0 : Int32), iv (0 : Int32), .val .null, .unset] [])) ?_ st1
  refine Go.st (T' := T1) (g' := (mkF m 9 #[rv x, rv arr, iv (0 : Int32), iv (0 : Int32), .val .null, .unset] [(.ref x)])) ?_ (fun _ kk_ => XS.iloadN X1.here hx rfl (hb hby dinE_4) rfl  (XS.ifNo X1.here hx rfl (hb hby dinE_5) rfl ((if0 _ _).trans (teq ((by decide) : (0 : Int32) = (0 : Int32))).2) (XS.aloadN X1.here hx rfl (hb hby dinE_8) rfl rfl  kk_)))
  refine Go.ldcH X1 hx hZ hown (hw _ (List.mem_of_getElem? (i := 35) rfl)) wS e1 HS0 hEL (by decide) (vs := []) ⟨by decide, rfl⟩ (by decide) rfl (hb hby dinE_9) 0 (by decide) (by decide) (by decide) (by decide) ?_
  intro a2 b2 T2 h2 X2 e2 E2 hZ2 ho2 HS2 A2 Fc2 Fv2 V2 C2 D2
  have Z3 : n0 ≤ h2.size := Nat.le_trans Z0 E2.1
  have K4 : Keep h0 h2 [x] := K0.ext E2
  have f5 := (Sf.vm E2.1 C2 sfx)
  obtain ⟨ne_x_a2, ne_x_b2⟩ := D2 x (f5).1
  show Go p e below _ T2 (mkF m 11 #[rv x, rv arr, iv (0 : Int32), iv (0 : Int32), .val .null, .unset] [(.ref a2), (.ref x)])
  obtain ⟨T6, X6, e6, st6⟩ := getF X2 hx hZ2 ho2 (host := "") (Or.inl (hw _ (List.mem_of_getElem? (i := 33) rfl))) Via.refl e2 Fv2 (g := (mkF m 11 #[rv x, rv arr, iv (0 : Int32), iv (0 : Int32), .val .null, .unset] [(.ref a2), (.ref x)])) rfl rfl (hb hby dinE_11)
  refine Go.st (T' := T6) (g' := (mkF m 14 #[rv x, rv arr, iv (0 : Int32), iv (0 : Int32), .val .null, .unset] [(.ref b2), (.ref x)])) ?_ st6
  have f7 := (Fv.ext E2)
  have f8 := (E_x.ext E2)
  obtain ⟨T9, h9, X9, e9, W9, st9⟩ := putF X6 hx hZ2 ho2 (host := "") (Or.inl (hw _ (List.mem_of_getElem? (i := 33) rfl))) Via.refl e6 f7 f8 (Or.inr ⟨(hw _ (List.mem_of_getElem? (i := 34) rfl)), rfl, hnm⟩) (hw _ (List.mem_of_getElem? (i := 6) rfl)) (ty := (.array .byte)) (by decide) rfl rfl (g := (mkF m 14 #[rv x, rv arr, iv (0 : Int32), iv (0 : Int32), .val .null, .unset] [(.ref b2), (.ref x)])) rfl rfl (hb hby dinE_14)
  have N10 := Fr.snoc X9 N0 g_x
  have HS11 := HS.wr HS2 W9 (f5).1
  have f12 := f7.same W9
  have K13 : Keep h0 h9 [x] := K4.wr W9 (Or.inl (List.mem_of_getElem? (i := 0) rfl))
  have Z14 : n0 ≤ h9.size := by rw [W9.size]; exact Z3
  refine Go.st (T' := T9) (g' := (mkF m 17 #[rv x, rv arr, iv (0 : Int32), iv (0 : Int32), .val .null, .unset] [])) ?_ st9
  refine Go.st (T' := T9) (g' := (mkF m 18 #[rv x, rv arr, iv (0 : Int32), iv (0 : Int32), .val .null, .unset] [(.ref x)])) ?_ (fun _ kk_ => XS.aloadN X9.here hx rfl (hb hby dinE_17) rfl rfl  kk_)
  refine Go.ldcH X9 hx hZ2 ho2 (hw _ (List.mem_of_getElem? (i := 35) rfl)) wS e9 HS11 hEL (by decide) (vs := []) ⟨by decide, rfl⟩ (by decide) rfl (hb hby dinE_18) 0 (by decide) (by decide) (by decide) (by decide) ?_
  intro a15 b15 T15 h15 X15 e15 E15 hZ15 ho15 HS15 A15 Fc15 Fv15 V15 C15 D15
  have Z16 : n0 ≤ h15.size := Nat.le_trans Z14 E15.1
  have K17 : Keep h0 h15 [x] := K13.ext E15
  have f18 := (Sf.vm E15.1 C15 (Sf.wr HS2 W9 (f5).1 f5))
  obtain ⟨ne_x_a15, ne_x_b15⟩ := D15 x (f18).1
  show Go p e below _ T15 (mkF m 20 #[rv x, rv arr, iv (0 : Int32), iv (0 : Int32), .val .null, .unset] [(.ref a15), (.ref x)])
  obtain ⟨T19, X19, e19, st19⟩ := getF X15 hx hZ15 ho15 (host := "") (Or.inl (hw _ (List.mem_of_getElem? (i := 31) rfl))) Via.refl e15 Fc15 (g := (mkF m 20 #[rv x, rv arr, iv (0 : Int32), iv (0 : Int32), .val .null, .unset] [(.ref a15), (.ref x)])) rfl rfl (hb hby dinE_20)
  refine Go.st (T' := T19) (g' := (mkF m 23 #[rv x, rv arr, iv (0 : Int32), iv (0 : Int32), .val .null, .unset] [(.int (0 : Int32)), (.ref x)])) ?_ st19
  have f20 := (((Fc.ext E2).other W9 (Or.inr (slot_ne (C := "java/lang/String") (Or.inr (hw _ (List.mem_of_getElem? (i := 32) rfl))) (Or.inr (hw _ (List.mem_of_getElem? (i := 34) rfl))) (by decide) (t := .byte) (t' := (.array .byte)) (by decide) (by decide)))).ext E15)
  have f21 := ((f8.wr W9).ext E15)
  obtain ⟨T22, h22, X22, e22, W22, st22⟩ := putFN X19 hx hZ15 ho15 (hw _ (List.mem_of_getElem? (i := 31) rfl)) Via.refl e19 f20 f21 (Or.inr ⟨(hw _ (List.mem_of_getElem? (i := 32) rfl)), rfl, hnm⟩) (hw _ (List.mem_of_getElem? (i := 6) rfl)) (ty := .byte) (v' := (.int (0 : Int32))) (by decide) (by decide) (by decide) (g := (mkF m 23 #[rv x, rv arr, iv (0 : Int32), iv (0 : Int32), .val .null, .unset] [(.int (0 : Int32)), (.ref x)])) rfl rfl (hb hby dinE_23)
  have N23 := Fr.snoc X22 N10 g_x
  have HS24 := HS.wr HS15 W22 (f18).1
  have f25 := f20.same W22
  have K26 : Keep h0 h22 [x] := K17.wr W22 (Or.inl (List.mem_of_getElem? (i := 0) rfl))
  have Z27 : n0 ≤ h22.size := by rw [W22.size]; exact Z16
  refine Go.st (T' := T22) (g' := (mkF m 26 #[rv x, rv arr, iv (0 : Int32), iv (0 : Int32), .val .null, .unset] [])) ?_ st22
  have f28 := ((f12.ext E15).other W22 (Or.inr (slot_ne (C := "java/lang/String") (Or.inr (hw _ (List.mem_of_getElem? (i := 34) rfl))) (Or.inr (hw _ (List.mem_of_getElem? (i := 32) rfl))) (by decide) (t := (.array .byte)) (t' := .byte) (by decide) (by decide))))
  have f29 := (((V2.other W9 (Ne.symm ne_x_b2)).ext E15).other W22 (Ne.symm ne_x_b2))
  refine Go.retVH X22 hx hlk hret (hb hby dinE_26) (by decide) (by decide) hZ15 hEL (by rw [e22]; exact HS24) ?_
  try rw [e22]
  exact ⟨rfl, N23, K26, f25, b2, f28, f29⟩
theorem di1E_0 : decode jdk_42_method_3_code 0 = .ok (.aload_n 0, 1) := by decide +kernel
theorem di1E_1 : decode jdk_42_method_3_code 1 = .ok (.aload_n 1, 1) := by decide +kernel
theorem di1E_2 : decode jdk_42_method_3_code 2 = .ok (.iconst 0, 1) := by decide +kernel
theorem di1E_3 : decode jdk_42_method_3_code 3 = .ok (.aload_n 1, 1) := by decide +kernel
theorem di1E_4 : decode jdk_42_method_3_code 4 = .ok (.arraylength, 1) := by decide +kernel
theorem di1E_5 : decode jdk_42_method_3_code 5 = .ok (.aconst_null, 1) := by decide +kernel
theorem di1E_6 : decode jdk_42_method_3_code 6 = .ok (.invokespecial 27, 3) := by decide +kernel
theorem di1E_9 : decode jdk_42_method_3_code 9 = .ok (.return_, 1) := by decide +kernel
theorem pn_i1E : plainFor (⟨"java/lang/String", "<init>", "([C)V"⟩ : MethodName) = true := by first | exact plainFor_of_name (by first | (simp [plainName, overriddenIn]; done) | decide +kernel) | decide +kernel
theorem ef_i1E (m : MethodId) (x0 : Addr) (x1 : Addr) : entryFrame m #[(.ref x0), (.ref x1)] 2 = mkF m 0 #[rv x0, rv x1] [] := by first | (simp [entryFrame, mkF, argsToLocals, Value.category]; done) | rfl
set_option maxRecDepth 65536 in
set_option maxHeartbeats 40000000 in
theorem rm_i1E (l : Launch) (Z : State) (a0 : Array Value) (hw : ∀ d ∈ tables_1, d.before a0 Z = true) (ws : List Jvm.Cond) (x arr : Addr) (n0 : Nat) (h0 : Heap) (hEL : EW Z a0 consts_1) (wS : ∀ a ∈ Bundle.stringAtoms, a.before a0 Z = true) (Z0 : n0 ≤ h0.size) (V_arr : Ary Z h0 arr .char []) (E_x : Exa Z h0 x "java/lang/String") (Fv : Fld Z h0 x "java/lang/String" "value" "[B" .null) (Fc : Fld Z h0 x "java/lang/String" "coder" "B" (.int (0 : Int32))) (g_x : n0 ≤ x) :
    MtH l Z consts_1 (⟨"java/lang/String", "<init>", "([C)V"⟩ : MethodName) jdk_42_method_3_code 2 none ws ({ frames := 2, cells := 4, slots := 8, locals := 30 } : Room) #[(.ref x), (.ref arr)] h0 (fun v h L => v = none ∧ Fr n0 L ∧ Keep h0 h [x] ∧ Fld Z h x "java/lang/String" "coder" "B" (.int (0 : Int32)) ∧ ∃ t, Fld Z h x "java/lang/String" "value" "[B" (.ref t) ∧ Ary Z h t .byte (IL 0 (fun _ => 0))) := by
  refine MtH.body pn_i1E ?_
  intro p e s m below meth c s₁ hx hby hml hown hnm hret hlk hZ X0 e0 HS0
  refine Go.cast (g' := (mkF m 0 #[rv x, rv arr] [])) (ef_i1E m x arr) ?_
  have N0 := Fr.nil n0
  have K0 := Keep.refl h0 [x]
  have sfx : Sf Z consts_1 s.vm h0 x := ⟨own_nullSafe hZ.alike E_x Fv, E_x.lt⟩
  refine Go.st (T' := s₁) (g' := (mkF m 6 #[rv x, rv arr] [.null, (.int (0 : Int32)), (.int (0 : Int32)), (.ref arr), (.ref x)])) ?_ (fun _ kk_ => XS.aloadN X0.here hx rfl (hb hby di1E_0) rfl rfl  (XS.aloadN X0.here hx rfl (hb hby di1E_1) rfl rfl  (XS.iconst X0.here hx rfl (hb hby di1E_2) (XS.aloadN X0.here hx rfl (hb hby di1E_3) rfl rfl  (own_alen X0 hx hZ e0 V_arr (n := 0) rfl rfl rfl (hb hby di1E_4) (XS.aconstNull X0.here hx rfl (hb hby di1E_5) kk_))))))
  refine Go.callNH (y := (⟨"java/lang/String", "<init>", "([CIILjava/lang/Void;)V"⟩ : MethodName)) X0 hx hZ rfl hown (hw _ (List.mem_of_getElem? (i := 12) rfl)) (hw _ (List.mem_of_getElem? (i := 13) rfl)) (hw _ (List.mem_of_getElem? (i := 7) rfl)) (hw _ (List.mem_of_getElem? (i := 15) rfl)) (by decide) 0 HS0 hEL (rm_inE l Z a0 hw [] x arr n0 h0 hEL wS Z0 E_x Fv Fc g_x) e0 (by decide) (by decide) (by decide) (by decide) (a := x) (argsL := [(.ref arr), (.int (0 : Int32)), (.int (0 : Int32)), .null]) (rest := []) rfl (by rw [hml]; rfl) (lenOf pd__28_5bCIILjava_2flang_2fVoid_3b_29V rfl) rfl rfl (by show 2 * 0 + _ ≤ _; exact Nat.le_of_eq rfl) (hb hby di1E_6) ?_
  rintro _ T1 L1 X1 ⟨rfl, N1, K1, Fc1, t, Fv1, V1⟩ hZ1 ho1 HS1 C1
  have N2 := Fr.app N0 N1
  have Z3 : n0 ≤ T1.heap.size := Nat.le_trans Z0 K1.1
  have K4 : Keep h0 T1.heap [x] := K0.trans K1 (allS (P := fun z_ => z_ ∈ [x] ∨ h0.size ≤ z_) (Or.inl (List.mem_of_getElem? (i := 0) rfl)) all0)
  show Go p e below _ T1 (mkF m 9 #[rv x, rv arr] [])
  refine Go.retVH X1 hx hlk hret (hb hby di1E_9) (by decide) (by decide) hZ1 hEL HS1 ?_
  exact ⟨rfl, N2, K4, Fc1, t, Fv1, V1⟩
theorem dcod_0 : decode jdk_42_method_152_code 0 = .ok (.getstatic 38, 3) := by decide +kernel
theorem dcod_3 : decode jdk_42_method_152_code 3 = .ok (.ifCond .eq 10, 3) := by decide +kernel
theorem dcod_6 : decode jdk_42_method_152_code 6 = .ok (.aload_n 0, 1) := by decide +kernel
theorem dcod_7 : decode jdk_42_method_152_code 7 = .ok (.getfield 15, 3) := by decide +kernel
theorem dcod_10 : decode jdk_42_method_152_code 10 = .ok (.goto 4, 3) := by decide +kernel
theorem dcod_14 : decode jdk_42_method_152_code 14 = .ok (.ireturn, 1) := by decide +kernel
theorem pn_cod : plainFor (⟨"java/lang/String", "coder", "()B"⟩ : MethodName) = true := by first | exact plainFor_of_name (by first | (simp [plainName, overriddenIn]; done) | decide +kernel) | decide +kernel
theorem ef_cod (m : MethodId) (x0 : Addr) : entryFrame m #[(.ref x0)] 1 = mkF m 0 #[rv x0] [] := by first | (simp [entryFrame, mkF, argsToLocals, Value.category]; done) | rfl
set_option maxRecDepth 65536 in
set_option maxHeartbeats 40000000 in
theorem rm_cod (l : Launch) (Z : State) (a0 : Array Value) (hw : ∀ d ∈ tables_1, d.before a0 Z = true) (ws : List Jvm.Cond) (a : Addr) (n0 : Nat) (cS : Int32) (h0 : Heap) (Fc_a : Fld Z h0 a "java/lang/String" "coder" "B" (.int (0 : Int32))) (O0 : Old Z n0 h0) (Sc : Sta Z Z.heap "java/lang/String" "COMPACT_STRINGS" "Z" (.int cS)) (hcS : ¬ (cS = (0 : Int32))) :
    Mt l Z (⟨"java/lang/String", "coder", "()B"⟩ : MethodName) jdk_42_method_152_code 1 (some .byte) ws ({ frames := 0, cells := 0, slots := 0, locals := 0 } : Room) #[(.ref a)] h0 (fun v h L => v = some (.int (0 : Int32)) ∧ h = h0 ∧ L = []) := by
  refine Mt.body pn_cod ?_
  intro p e s m below meth c s₁ hx hby hml hown hnm hret hlk hZ X0 e0
  refine Go.cast (g' := (mkF m 0 #[rv a] [])) (ef_cod m a) ?_
  have N0 := Fr.nil n0
  obtain ⟨T1, X1, e1, st1⟩ := getS2 X0 hx hZ hown (host := "") (Or.inl (hw _ (List.mem_of_getElem? (i := 19) rfl))) Via.refl e0 (Sc.ext O0.2) (g := (mkF m 0 #[rv a] [])) rfl (hb hby dcod_0)
  refine Go.st (T' := T1) (g' := (mkF m 3 #[rv a] [(.int cS)])) ?_ st1
  refine Go.st (T' := T1) (g' := (mkF m 7 #[rv a] [(.ref a)])) ?_ (fun _ kk_ => XS.ifNo X1.here hx rfl (hb hby dcod_3) rfl ((if0 _ _).trans (feq (hcS : ¬ (cS = (0 : Int32)))).1) (XS.aloadN X1.here hx rfl (hb hby dcod_6) rfl rfl  kk_))
  obtain ⟨T2, X2, e2, st2⟩ := getF X1 hx hZ hown (host := "") (Or.inl (hw _ (List.mem_of_getElem? (i := 31) rfl))) Via.refl e1 Fc_a (g := (mkF m 7 #[rv a] [(.ref a)])) rfl rfl (hb hby dcod_7)
  refine Go.st (T' := T2) (g' := (mkF m 10 #[rv a] [(.int (0 : Int32))])) ?_ st2
  refine Go.st (T' := T2) (g' := (mkF m 14 #[rv a] [(.int (0 : Int32))])) ?_ (fun _ kk_ => XS.goto X2.here hx rfl (pc0 := 10) (pc' := 14) rfl (hb hby dcod_10) (by decide) (by decide) kk_)
  refine Go.retN X2 hx hlk (t := .byte) hret (by simp) (z' := (0 : Int32)) rfl (hb hby dcod_14) (by decide) (by decide) ?_
  try rw [e2]
  exact ⟨rfl, rfl, rfl⟩
theorem dlat_0 : decode jdk_42_method_154_code 0 = .ok (.getstatic 38, 3) := by decide +kernel
theorem dlat_3 : decode jdk_42_method_154_code 3 = .ok (.ifCond .eq 14, 3) := by decide +kernel
theorem dlat_6 : decode jdk_42_method_154_code 6 = .ok (.aload_n 0, 1) := by decide +kernel
theorem dlat_7 : decode jdk_42_method_154_code 7 = .ok (.getfield 15, 3) := by decide +kernel
theorem dlat_10 : decode jdk_42_method_154_code 10 = .ok (.ifCond .ne 7, 3) := by decide +kernel
theorem dlat_13 : decode jdk_42_method_154_code 13 = .ok (.iconst 1, 1) := by decide +kernel
theorem dlat_14 : decode jdk_42_method_154_code 14 = .ok (.goto 4, 3) := by decide +kernel
theorem dlat_18 : decode jdk_42_method_154_code 18 = .ok (.ireturn, 1) := by decide +kernel
theorem pn_lat : plainFor (⟨"java/lang/String", "isLatin1", "()Z"⟩ : MethodName) = true := by first | exact plainFor_of_name (by first | (simp [plainName, overriddenIn]; done) | decide +kernel) | decide +kernel
theorem ef_lat (m : MethodId) (x0 : Addr) : entryFrame m #[(.ref x0)] 1 = mkF m 0 #[rv x0] [] := by first | (simp [entryFrame, mkF, argsToLocals, Value.category]; done) | rfl
set_option maxRecDepth 65536 in
set_option maxHeartbeats 40000000 in
theorem rm_lat (l : Launch) (Z : State) (a0 : Array Value) (hw : ∀ d ∈ tables_1, d.before a0 Z = true) (ws : List Jvm.Cond) (a : Addr) (n0 : Nat) (cS : Int32) (h0 : Heap) (Fc_a : Fld Z h0 a "java/lang/String" "coder" "B" (.int (0 : Int32))) (O0 : Old Z n0 h0) (Sc : Sta Z Z.heap "java/lang/String" "COMPACT_STRINGS" "Z" (.int cS)) (hcS : ¬ (cS = (0 : Int32))) :
    Mt l Z (⟨"java/lang/String", "isLatin1", "()Z"⟩ : MethodName) jdk_42_method_154_code 1 (some .boolean) ws ({ frames := 0, cells := 0, slots := 0, locals := 0 } : Room) #[(.ref a)] h0 (fun v h L => v = some (.int (1 : Int32)) ∧ h = h0 ∧ L = []) := by
  refine Mt.body pn_lat ?_
  intro p e s m below meth c s₁ hx hby hml hown hnm hret hlk hZ X0 e0
  refine Go.cast (g' := (mkF m 0 #[rv a] [])) (ef_lat m a) ?_
  have N0 := Fr.nil n0
  obtain ⟨T1, X1, e1, st1⟩ := getS2 X0 hx hZ hown (host := "") (Or.inl (hw _ (List.mem_of_getElem? (i := 19) rfl))) Via.refl e0 (Sc.ext O0.2) (g := (mkF m 0 #[rv a] [])) rfl (hb hby dlat_0)
  refine Go.st (T' := T1) (g' := (mkF m 3 #[rv a] [(.int cS)])) ?_ st1
  refine Go.st (T' := T1) (g' := (mkF m 7 #[rv a] [(.ref a)])) ?_ (fun _ kk_ => XS.ifNo X1.here hx rfl (hb hby dlat_3) rfl ((if0 _ _).trans (feq (hcS : ¬ (cS = (0 : Int32)))).1) (XS.aloadN X1.here hx rfl (hb hby dlat_6) rfl rfl  kk_))
  obtain ⟨T2, X2, e2, st2⟩ := getF X1 hx hZ hown (host := "") (Or.inl (hw _ (List.mem_of_getElem? (i := 31) rfl))) Via.refl e1 Fc_a (g := (mkF m 7 #[rv a] [(.ref a)])) rfl rfl (hb hby dlat_7)
  refine Go.st (T' := T2) (g' := (mkF m 10 #[rv a] [(.int (0 : Int32))])) ?_ st2
  refine Go.st (T' := T2) (g' := (mkF m 18 #[rv a] [(.int (1 : Int32))])) ?_ (fun _ kk_ => XS.ifNo X2.here hx rfl (hb hby dlat_10) rfl ((if0 _ _).trans (teq ((by decide) : (0 : Int32) = (0 : Int32))).2) (XS.iconst X2.here hx rfl (hb hby dlat_13) (XS.goto X2.here hx rfl (pc0 := 14) (pc' := 18) rfl (hb hby dlat_14) (by decide) (by decide) kk_)))
  refine Go.retN X2 hx hlk (t := .boolean) hret (by simp) (z' := (1 : Int32)) rfl (hb hby dlat_18) (by decide) (by decide) ?_
  try rw [e2]
  exact ⟨rfl, rfl, rfl⟩
theorem dlen_0 : decode jdk_42_method_54_code 0 = .ok (.aload_n 0, 1) := by decide +kernel
theorem dlen_1 : decode jdk_42_method_54_code 1 = .ok (.getfield 9, 3) := by decide +kernel
theorem dlen_4 : decode jdk_42_method_54_code 4 = .ok (.arraylength, 1) := by decide +kernel
theorem dlen_5 : decode jdk_42_method_54_code 5 = .ok (.aload_n 0, 1) := by decide +kernel
theorem dlen_6 : decode jdk_42_method_54_code 6 = .ok (.invokevirtual 335, 3) := by decide +kernel
theorem dlen_9 : decode jdk_42_method_54_code 9 = .ok (.ishr, 1) := by decide +kernel
theorem dlen_10 : decode jdk_42_method_54_code 10 = .ok (.ireturn, 1) := by decide +kernel
theorem pn_len : plainFor (⟨"java/lang/String", "length", "()I"⟩ : MethodName) = true := by first | exact plainFor_of_name (by first | (simp [plainName, overriddenIn]; done) | decide +kernel) | decide +kernel
theorem ef_len (m : MethodId) (x0 : Addr) : entryFrame m #[(.ref x0)] 1 = mkF m 0 #[rv x0] [] := by first | (simp [entryFrame, mkF, argsToLocals, Value.category]; done) | rfl
set_option maxRecDepth 65536 in
set_option maxHeartbeats 40000000 in
theorem rm_len (l : Launch) (Z : State) (a0 : Array Value) (hw : ∀ d ∈ tables_1, d.before a0 Z = true) (ws : List Jvm.Cond) (a t : Addr) (n : Nat) (f : Nat → Int32) (n0 : Nat) (cS : Int32) (h0 : Heap) (E_a : Exa Z h0 a "java/lang/String") (Fc_a : Fld Z h0 a "java/lang/String" "coder" "B" (.int (0 : Int32))) (Fv_a : Fld Z h0 a "java/lang/String" "value" "[B" (.ref t)) (V_t : Ary Z h0 t .byte (IL n f)) (O0 : Old Z n0 h0) (Sc : Sta Z Z.heap "java/lang/String" "COMPACT_STRINGS" "Z" (.int cS)) (hcS : ¬ (cS = (0 : Int32))) :
    Mt l Z (⟨"java/lang/String", "length", "()I"⟩ : MethodName) jdk_42_method_54_code 1 (some .int) ws ({ frames := 1, cells := 0, slots := 0, locals := 13 } : Room) #[(.ref a)] h0 (fun v h L => v = some (.int (Int32.ofNat n)) ∧ h = h0 ∧ L = []) := by
  refine Mt.body pn_len ?_
  intro p e s m below meth c s₁ hx hby hml hown hnm hret hlk hZ X0 e0
  refine Go.cast (g' := (mkF m 0 #[rv a] [])) (ef_len m a) ?_
  have N0 := Fr.nil n0
  refine Go.st (T' := s₁) (g' := (mkF m 1 #[rv a] [(.ref a)])) ?_ (fun _ kk_ => XS.aloadN X0.here hx rfl (hb hby dlen_0) rfl rfl  kk_)
  obtain ⟨T1, X1, e1, st1⟩ := getF X0 hx hZ hown (host := "") (Or.inl (hw _ (List.mem_of_getElem? (i := 33) rfl))) Via.refl e0 Fv_a (g := (mkF m 1 #[rv a] [(.ref a)])) rfl rfl (hb hby dlen_1)
  refine Go.st (T' := T1) (g' := (mkF m 4 #[rv a] [(.ref t)])) ?_ st1
  refine Go.st (T' := T1) (g' := (mkF m 6 #[rv a] [(.ref a), (.int (Int32.ofNat n))])) ?_ (fun _ kk_ => own_alen X1 hx hZ e1 V_t (IL_len _ _) rfl rfl (hb hby dlen_4) (XS.aloadN X1.here hx rfl (hb hby dlen_5) rfl rfl  kk_))
  refine Go.callV (y := (⟨"java/lang/String", "coder", "()B"⟩ : MethodName)) (z := (⟨"java/lang/String", "coder", "()B"⟩ : MethodName)) X1 hx hZ hown (hw _ (List.mem_of_getElem? (i := 77) rfl)) (hw _ (List.mem_of_getElem? (i := 78) rfl)) (notFace_of_selects (args := #[]) (mvT hZ (hw _ (List.mem_of_getElem? (i := 80) rfl)))) (hw _ (List.mem_of_getElem? (i := 80) rfl)) (hw _ (List.mem_of_getElem? (i := 79) rfl)) (hw _ (List.mem_of_getElem? (i := 7) rfl)) (hw _ (List.mem_of_getElem? (i := 81) rfl)) (by decide) 1 (rm_cod l Z a0 hw [] a n0 cS h0 Fc_a O0 Sc hcS) e1 (by decide) (by decide) (by decide) (by decide) E_a (argsL := []) (rest := [(.int (Int32.ofNat n))]) rfl (by rw [hml]; rfl) (lenOf pd__28_29B rfl) rfl rfl (by show 2 * 0 + _ ≤ _; exact Nat.le_of_eq rfl) (hb hby dlen_6) ?_
  rintro _ T2 L2 X2 ⟨rfl, e2, rfl⟩
  have N3 := Fr.app N0 (Fr.nil _)
  show Go p e below _ T2 (mkF m 9 #[rv a] [(.int (0 : Int32)), (.int (Int32.ofNat n))])
  refine Go.st (T' := T2) (g' := (mkF m 10 #[rv a] [(.int ((Int32.ofNat n) >>> ((0 : Int32) &&& 31)))])) ?_ (fun _ kk_ => XS.ishr X2.here hx rfl (hb hby dlen_9) rfl kk_)
  rw [own_shr0]
  show Go p e below _ T2 (mkF m 10 #[rv a] [(.int (Int32.ofNat n))])
  refine Go.retI X2 hx hlk hret (hb hby dlen_10) (by decide) (by decide) ?_
  try rw [e2]
  exact ⟨rfl, rfl, rfl⟩
theorem dpci_0 : decode jdk_41_method_11_code 0 = .ok (.iload_n 0, 1) := by decide +kernel
theorem dpci_1 : decode jdk_41_method_11_code 1 = .ok (.ifCond .lt 8, 3) := by decide +kernel
theorem dpci_4 : decode jdk_41_method_11_code 4 = .ok (.iload_n 0, 1) := by decide +kernel
theorem dpci_5 : decode jdk_41_method_11_code 5 = .ok (.iload_n 1, 1) := by decide +kernel
theorem dpci_6 : decode jdk_41_method_11_code 6 = .ok (.if_icmp .lt 10, 3) := by decide +kernel
theorem dpci_16 : decode jdk_41_method_11_code 16 = .ok (.iload_n 0, 1) := by decide +kernel
theorem dpci_17 : decode jdk_41_method_11_code 17 = .ok (.ireturn, 1) := by decide +kernel
theorem pn_pci : plainFor (⟨"jdk/internal/util/Preconditions", "checkIndex", "(IILjava/util/function/BiFunction;)I"⟩ : MethodName) = true := by first | exact plainFor_of_name (by first | (simp [plainName, overriddenIn]; done) | decide +kernel) | decide +kernel
theorem ef_pci (m : MethodId) (x0 : Int32) (x1 : Int32) (x2 : Value) (hx2 : x2.isRef = true) : entryFrame m #[(.int x0), (.int x1), x2] 3 = mkF m 0 #[iv x0, iv x1, .val x2] [] := by rcases ref_cases hx2 with rfl | ⟨y2, rfl⟩ <;> first | (simp [entryFrame, mkF, argsToLocals, Value.category]; done) | rfl
set_option maxRecDepth 65536 in
set_option maxHeartbeats 40000000 in
theorem rm_pci (l : Launch) (Z : State) (a0 : Array Value) (hw : ∀ d ∈ tables_1, d.before a0 Z = true) (ws : List Jvm.Cond) (i n : Nat) (rF : Value) (h0 : Heap) (hr_rF : rF.isRef = true) (hi : i < n) (hn : n < 2 ^ 31) :
    Mt l Z (⟨"jdk/internal/util/Preconditions", "checkIndex", "(IILjava/util/function/BiFunction;)I"⟩ : MethodName) jdk_41_method_11_code 3 (some .int) ws ({ frames := 0, cells := 0, slots := 0, locals := 0 } : Room) #[(.int (Int32.ofNat i)), (.int (Int32.ofNat n)), rF] h0 (fun v h L => v = some (.int (Int32.ofNat i)) ∧ h = h0 ∧ L = []) := by
  refine Mt.body pn_pci ?_
  intro p e s m below meth c s₁ hx hby hml hown hnm hret hlk hZ X0 e0
  refine Go.cast (g' := (mkF m 0 #[iv (Int32.ofNat i), iv (Int32.ofNat n), .val rF] [])) (ef_pci m (Int32.ofNat i) (Int32.ofNat n) rF hr_rF) ?_
  have N0 := Fr.nil 0
  refine Go.st (T' := s₁) (g' := (mkF m 17 #[iv (Int32.ofNat i), iv (Int32.ofNat n), .val rF] [(.int (Int32.ofNat i))])) ?_ (fun _ kk_ => XS.iloadN X0.here hx rfl (hb hby dpci_0) rfl  (XS.ifNo X0.here hx rfl (hb hby dpci_1) rfl ((if0 _ _).trans (flt ((fun z => by have := (own_lt (i := i) (n := 0) (by omega) (by decide)).mp z; omega) : ¬ ((Int32.ofNat i) < (0 : Int32)))).1) (XS.iloadN X0.here hx rfl (hb hby dpci_4) rfl  (XS.iloadN X0.here hx rfl (hb hby dpci_5) rfl  (XS.icmpYes X0.here hx rfl (pc0 := 6) (pc' := 16) rfl (hb hby dpci_6) rfl (tlt (((own_lt (by omega) hn).mpr hi) : (Int32.ofNat i) < (Int32.ofNat n))).1 (by decide) (by decide) (XS.iloadN X0.here hx rfl (hb hby dpci_16) rfl  kk_))))))
  refine Go.retI X0 hx hlk hret (hb hby dpci_17) (by decide) (by decide) ?_
  try rw [e0]
  exact ⟨rfl, rfl, rfl⟩
theorem dchk_0 : decode jdk_42_method_155_code 0 = .ok (.iload_n 0, 1) := by decide +kernel
theorem dchk_1 : decode jdk_42_method_155_code 1 = .ok (.iload_n 1, 1) := by decide +kernel
theorem dchk_2 : decode jdk_42_method_155_code 2 = .ok (.getstatic 1053, 3) := by decide +kernel
theorem dchk_5 : decode jdk_42_method_155_code 5 = .ok (.invokestatic 1059, 3) := by decide +kernel
theorem dchk_8 : decode jdk_42_method_155_code 8 = .ok (.pop, 1) := by decide +kernel
theorem dchk_9 : decode jdk_42_method_155_code 9 = .ok (.return_, 1) := by decide +kernel
theorem pn_chk : plainFor (⟨"java/lang/String", "checkIndex", "(II)V"⟩ : MethodName) = true := by first | exact plainFor_of_name (by first | (simp [plainName, overriddenIn]; done) | decide +kernel) | decide +kernel
theorem ef_chk (m : MethodId) (x0 : Int32) (x1 : Int32) : entryFrame m #[(.int x0), (.int x1)] 2 = mkF m 0 #[iv x0, iv x1] [] := by first | (simp [entryFrame, mkF, argsToLocals, Value.category]; done) | rfl
set_option maxRecDepth 65536 in
set_option maxHeartbeats 40000000 in
theorem rm_chk (l : Launch) (Z : State) (a0 : Array Value) (hw : ∀ d ∈ tables_1, d.before a0 Z = true) (ws : List Jvm.Cond) (i n : Nat) (rF : Value) (n0 : Nat) (h0 : Heap) (hi : i < n) (hn : n < 2 ^ 31) (O0 : Old Z n0 h0) (Sr : Sta Z Z.heap "jdk/internal/util/Preconditions" "SIOOBE_FORMATTER" "Ljava/util/function/BiFunction;" rF) (hr_rF : rF.isRef = true) :
    Mt l Z (⟨"java/lang/String", "checkIndex", "(II)V"⟩ : MethodName) jdk_42_method_155_code 2 none ws ({ frames := 1, cells := 0, slots := 0, locals := 14 } : Room) #[(.int (Int32.ofNat i)), (.int (Int32.ofNat n))] h0 (fun v h L => v = none ∧ h = h0 ∧ L = []) := by
  refine Mt.body pn_chk ?_
  intro p e s m below meth c s₁ hx hby hml hown hnm hret hlk hZ X0 e0
  refine Go.cast (g' := (mkF m 0 #[iv (Int32.ofNat i), iv (Int32.ofNat n)] [])) (ef_chk m (Int32.ofNat i) (Int32.ofNat n)) ?_
  have N0 := Fr.nil n0
  refine Go.st (T' := s₁) (g' := (mkF m 2 #[iv (Int32.ofNat i), iv (Int32.ofNat n)] [(.int (Int32.ofNat n)), (.int (Int32.ofNat i))])) ?_ (fun _ kk_ => XS.iloadN X0.here hx rfl (hb hby dchk_0) rfl  (XS.iloadN X0.here hx rfl (hb hby dchk_1) rfl  kk_))
  obtain ⟨T1, X1, e1, st1⟩ := getS2 X0 hx hZ hown (host := "") (Or.inl (hw _ (List.mem_of_getElem? (i := 233) rfl))) Via.refl e0 (Sr.ext O0.2) (g := (mkF m 2 #[iv (Int32.ofNat i), iv (Int32.ofNat n)] [(.int (Int32.ofNat n)), (.int (Int32.ofNat i))])) rfl (hb hby dchk_2)
  refine Go.st (T' := T1) (g' := (mkF m 5 #[iv (Int32.ofNat i), iv (Int32.ofNat n)] [rF, (.int (Int32.ofNat n)), (.int (Int32.ofNat i))])) ?_ st1
  refine Go.callS (y := (⟨"jdk/internal/util/Preconditions", "checkIndex", "(IILjava/util/function/BiFunction;)I"⟩ : MethodName)) X1 hx hZ hown (hw _ (List.mem_of_getElem? (i := 235) rfl)) (hw _ (List.mem_of_getElem? (i := 236) rfl)) (hw _ (List.mem_of_getElem? (i := 234) rfl)) (hw _ (List.mem_of_getElem? (i := 237) rfl)) (by decide) 0 (rm_pci l Z a0 hw [] i n rF h0 hr_rF hi hn) e1 (by decide) (by decide) (by decide) (by decide) (argsL := [(.int (Int32.ofNat i)), (.int (Int32.ofNat n)), rF]) (rest := []) rfl (by rw [hml]; rfl) (lenOf pd__28IILjava_2futil_2ffunction_2fBiFunction_3b_29I rfl) rfl rfl (by show 2 * 0 + _ ≤ _; exact Nat.le_of_eq rfl) (hb hby dchk_5) ?_
  rintro _ T2 L2 X2 ⟨rfl, e2, rfl⟩
  have N3 := Fr.app N0 (Fr.nil _)
  show Go p e below _ T2 (mkF m 8 #[iv (Int32.ofNat i), iv (Int32.ofNat n)] [(.int (Int32.ofNat i))])
  refine Go.st (T' := T2) (g' := (mkF m 9 #[iv (Int32.ofNat i), iv (Int32.ofNat n)] [])) ?_ (fun _ kk_ => XS.pop X2.here hx rfl (hb hby dchk_8) rfl rfl kk_)
  refine Go.retV X2 hx hlk hret (hb hby dchk_9) (by decide) (by decide) ?_
  try rw [e2]
  exact ⟨rfl, rfl, rfl⟩
theorem dlch_0 : decode jdk_43_method_2_code 0 = .ok (.iload_n 1, 1) := by decide +kernel
theorem dlch_1 : decode jdk_43_method_2_code 1 = .ok (.aload_n 0, 1) := by decide +kernel
theorem dlch_2 : decode jdk_43_method_2_code 2 = .ok (.arraylength, 1) := by decide +kernel
theorem dlch_3 : decode jdk_43_method_2_code 3 = .ok (.invokestatic 9, 3) := by decide +kernel
theorem dlch_6 : decode jdk_43_method_2_code 6 = .ok (.aload_n 0, 1) := by decide +kernel
theorem dlch_7 : decode jdk_43_method_2_code 7 = .ok (.iload_n 1, 1) := by decide +kernel
theorem dlch_8 : decode jdk_43_method_2_code 8 = .ok (.baload, 1) := by decide +kernel
theorem dlch_9 : decode jdk_43_method_2_code 9 = .ok (.sipush 255, 3) := by decide +kernel
theorem dlch_12 : decode jdk_43_method_2_code 12 = .ok (.iand, 1) := by decide +kernel
theorem dlch_13 : decode jdk_43_method_2_code 13 = .ok (.i2c, 1) := by decide +kernel
theorem dlch_14 : decode jdk_43_method_2_code 14 = .ok (.ireturn, 1) := by decide +kernel
theorem pn_lch : plainFor (⟨"java/lang/StringLatin1", "charAt", "([BI)C"⟩ : MethodName) = true := by first | exact plainFor_of_name (by first | (simp [plainName, overriddenIn]; done) | decide +kernel) | decide +kernel
theorem ef_lch (m : MethodId) (x0 : Addr) (x1 : Int32) : entryFrame m #[(.ref x0), (.int x1)] 2 = mkF m 0 #[rv x0, iv x1] [] := by first | (simp [entryFrame, mkF, argsToLocals, Value.category]; done) | rfl
set_option maxRecDepth 65536 in
set_option maxHeartbeats 40000000 in
theorem rm_lch (l : Launch) (Z : State) (a0 : Array Value) (hw : ∀ d ∈ tables_1, d.before a0 Z = true) (ws : List Jvm.Cond) (t : Addr) (i n : Nat) (ch : Nat → Nat) (rF : Value) (n0 : Nat) (h0 : Heap) (hi : i < n) (hn : n < 2 ^ 31) (hc : ∀ q, q < n → ch q < 256) (V_t : Ary Z h0 t .byte (IL n (fun q => bI (ch q)))) (O0 : Old Z n0 h0) (Sr : Sta Z Z.heap "jdk/internal/util/Preconditions" "SIOOBE_FORMATTER" "Ljava/util/function/BiFunction;" rF) (hr_rF : rF.isRef = true) :
    Mt l Z (⟨"java/lang/StringLatin1", "charAt", "([BI)C"⟩ : MethodName) jdk_43_method_2_code 2 (some .char) ws ({ frames := 2, cells := 0, slots := 0, locals := 27 } : Room) #[(.ref t), (.int (Int32.ofNat i))] h0 (fun v h L => v = some (.int (Int32.ofNat (ch i))) ∧ h = h0 ∧ L = []) := by
  refine Mt.body pn_lch ?_
  intro p e s m below meth c s₁ hx hby hml hown hnm hret hlk hZ X0 e0
  refine Go.cast (g' := (mkF m 0 #[rv t, iv (Int32.ofNat i)] [])) (ef_lch m t (Int32.ofNat i)) ?_
  have N0 := Fr.nil n0
  refine Go.st (T' := s₁) (g' := (mkF m 3 #[rv t, iv (Int32.ofNat i)] [(.int (Int32.ofNat n)), (.int (Int32.ofNat i))])) ?_ (fun _ kk_ => XS.iloadN X0.here hx rfl (hb hby dlch_0) rfl  (XS.aloadN X0.here hx rfl (hb hby dlch_1) rfl rfl  (own_alen X0 hx hZ e0 V_t (IL_len _ _) rfl rfl (hb hby dlch_2) kk_)))
  refine Go.callS (y := (⟨"java/lang/String", "checkIndex", "(II)V"⟩ : MethodName)) X0 hx hZ hown (hw _ (List.mem_of_getElem? (i := 230) rfl)) (hw _ (List.mem_of_getElem? (i := 231) rfl)) (hw _ (List.mem_of_getElem? (i := 7) rfl)) (hw _ (List.mem_of_getElem? (i := 232) rfl)) (by decide) 0 (rm_chk l Z a0 hw [] i n rF n0 h0 hi hn O0 Sr hr_rF) e0 (by decide) (by decide) (by decide) (by decide) (argsL := [(.int (Int32.ofNat i)), (.int (Int32.ofNat n))]) (rest := []) rfl (by rw [hml]; rfl) (lenOf pd__28II_29V rfl) rfl rfl (by show 2 * 0 + _ ≤ _; exact Nat.le_of_eq rfl) (hb hby dlch_3) ?_
  rintro _ T1 L1 X1 ⟨rfl, e1, rfl⟩
  have N2 := Fr.app N0 (Fr.nil _)
  show Go p e below _ T1 (mkF m 6 #[rv t, iv (Int32.ofNat i)] [])
  refine Go.st (T' := T1) (g' := (mkF m 13 #[rv t, iv (Int32.ofNat i)] [(.int ((bI (ch i)) &&& (255 : Int32)))])) ?_ (fun _ kk_ => XS.aloadN X1.here hx rfl (hb hby dlch_6) rfl rfl  (XS.iloadN X1.here hx rfl (hb hby dlch_7) rfl  (own_baload X1 hx hZ e1 V_t (i := i) (v := (.int (bI (ch i)))) (IL_at hi) rfl rfl rfl (hb hby dlch_8) (XS.sipush X1.here hx rfl (hb hby dlch_9) (XS.iand X1.here hx rfl (hb hby dlch_12) rfl kk_)))))
  rw [bI_back _ (hc i hi)]
  show Go p e below _ T1 (mkF m 13 #[rv t, iv (Int32.ofNat i)] [(.int (Int32.ofNat (ch i)))])
  refine Go.st (T' := T1) (g' := (mkF m 14 #[rv t, iv (Int32.ofNat i)] [(.int ((Int32.ofNat (ch i)).toUInt32.toUInt16.toUInt32.toInt32))])) ?_ (fun _ kk_ => XS.i2c X1.here hx rfl (hb hby dlch_13) rfl kk_)
  rw [ch_back _ (hc i hi)]
  show Go p e below _ T1 (mkF m 14 #[rv t, iv (Int32.ofNat i)] [(.int (Int32.ofNat (ch i)))])
  refine Go.retN X1 hx hlk (t := .char) hret (by simp) (z' := (Int32.ofNat (ch i))) (ch_nar _ (hc i hi)) (hb hby dlch_14) (by decide) (by decide) ?_
  try rw [e1]
  exact ⟨rfl, rfl, rfl⟩
theorem dcha_0 : decode jdk_42_method_56_code 0 = .ok (.aload_n 0, 1) := by decide +kernel
theorem dcha_1 : decode jdk_42_method_56_code 1 = .ok (.invokevirtual 492, 3) := by decide +kernel
theorem dcha_4 : decode jdk_42_method_56_code 4 = .ok (.ifCond .eq 12, 3) := by decide +kernel
theorem dcha_7 : decode jdk_42_method_56_code 7 = .ok (.aload_n 0, 1) := by decide +kernel
theorem dcha_8 : decode jdk_42_method_56_code 8 = .ok (.getfield 9, 3) := by decide +kernel
theorem dcha_11 : decode jdk_42_method_56_code 11 = .ok (.iload_n 1, 1) := by decide +kernel
theorem dcha_12 : decode jdk_42_method_56_code 12 = .ok (.invokestatic 495, 3) := by decide +kernel
theorem dcha_15 : decode jdk_42_method_56_code 15 = .ok (.ireturn, 1) := by decide +kernel
theorem pn_cha : plainFor (⟨"java/lang/String", "charAt", "(I)C"⟩ : MethodName) = true := by first | exact plainFor_of_name (by first | (simp [plainName, overriddenIn]; done) | decide +kernel) | decide +kernel
theorem ef_cha (m : MethodId) (x0 : Addr) (x1 : Int32) : entryFrame m #[(.ref x0), (.int x1)] 2 = mkF m 0 #[rv x0, iv x1] [] := by first | (simp [entryFrame, mkF, argsToLocals, Value.category]; done) | rfl
set_option maxRecDepth 65536 in
set_option maxHeartbeats 40000000 in
theorem rm_cha (l : Launch) (Z : State) (a0 : Array Value) (hw : ∀ d ∈ tables_1, d.before a0 Z = true) (ws : List Jvm.Cond) (a t : Addr) (i n : Nat) (ch : Nat → Nat) (rF : Value) (n0 : Nat) (cS : Int32) (h0 : Heap) (hi : i < n) (hn : n < 2 ^ 31) (hc : ∀ q, q < n → ch q < 256) (E_a : Exa Z h0 a "java/lang/String") (Fc_a : Fld Z h0 a "java/lang/String" "coder" "B" (.int (0 : Int32))) (Fv_a : Fld Z h0 a "java/lang/String" "value" "[B" (.ref t)) (V_t : Ary Z h0 t .byte (IL n (fun q => bI (ch q)))) (O0 : Old Z n0 h0) (Sc : Sta Z Z.heap "java/lang/String" "COMPACT_STRINGS" "Z" (.int cS)) (hcS : ¬ (cS = (0 : Int32))) (Sr : Sta Z Z.heap "jdk/internal/util/Preconditions" "SIOOBE_FORMATTER" "Ljava/util/function/BiFunction;" rF) (hr_rF : rF.isRef = true) :
    Mt l Z (⟨"java/lang/String", "charAt", "(I)C"⟩ : MethodName) jdk_42_method_56_code 2 (some .char) ws ({ frames := 3, cells := 0, slots := 0, locals := 40 } : Room) #[(.ref a), (.int (Int32.ofNat i))] h0 (fun v h L => v = some (.int (Int32.ofNat (ch i))) ∧ h = h0 ∧ L = []) := by
  refine Mt.body pn_cha ?_
  intro p e s m below meth c s₁ hx hby hml hown hnm hret hlk hZ X0 e0
  refine Go.cast (g' := (mkF m 0 #[rv a, iv (Int32.ofNat i)] [])) (ef_cha m a (Int32.ofNat i)) ?_
  have N0 := Fr.nil n0
  refine Go.st (T' := s₁) (g' := (mkF m 1 #[rv a, iv (Int32.ofNat i)] [(.ref a)])) ?_ (fun _ kk_ => XS.aloadN X0.here hx rfl (hb hby dcha_0) rfl rfl  kk_)
  refine Go.callV (y := (⟨"java/lang/String", "isLatin1", "()Z"⟩ : MethodName)) (z := (⟨"java/lang/String", "isLatin1", "()Z"⟩ : MethodName)) X0 hx hZ hown (hw _ (List.mem_of_getElem? (i := 221) rfl)) (hw _ (List.mem_of_getElem? (i := 222) rfl)) (notFace_of_selects (args := #[]) (mvT hZ (hw _ (List.mem_of_getElem? (i := 224) rfl)))) (hw _ (List.mem_of_getElem? (i := 224) rfl)) (hw _ (List.mem_of_getElem? (i := 223) rfl)) (hw _ (List.mem_of_getElem? (i := 7) rfl)) (hw _ (List.mem_of_getElem? (i := 225) rfl)) (by decide) 0 (rm_lat l Z a0 hw [] a n0 cS h0 Fc_a O0 Sc hcS) e0 (by decide) (by decide) (by decide) (by decide) E_a (argsL := []) (rest := []) rfl (by rw [hml]; rfl) (lenOf pd__28_29Z rfl) rfl rfl (by show 2 * 0 + _ ≤ _; exact Nat.le_of_eq rfl) (hb hby dcha_1) ?_
  rintro _ T1 L1 X1 ⟨rfl, e1, rfl⟩
  have N2 := Fr.app N0 (Fr.nil _)
  show Go p e below _ T1 (mkF m 4 #[rv a, iv (Int32.ofNat i)] [(.int (1 : Int32))])
  refine Go.st (T' := T1) (g' := (mkF m 8 #[rv a, iv (Int32.ofNat i)] [(.ref a)])) ?_ (fun _ kk_ => XS.ifNo X1.here hx rfl (hb hby dcha_4) rfl ((if0 _ _).trans (feq ((by decide) : ¬ ((1 : Int32) = (0 : Int32)))).1) (XS.aloadN X1.here hx rfl (hb hby dcha_7) rfl rfl  kk_))
  obtain ⟨T3, X3, e3, st3⟩ := getF X1 hx hZ hown (host := "") (Or.inl (hw _ (List.mem_of_getElem? (i := 33) rfl))) Via.refl e1 Fv_a (g := (mkF m 8 #[rv a, iv (Int32.ofNat i)] [(.ref a)])) rfl rfl (hb hby dcha_8)
  refine Go.st (T' := T3) (g' := (mkF m 11 #[rv a, iv (Int32.ofNat i)] [(.ref t)])) ?_ st3
  refine Go.st (T' := T3) (g' := (mkF m 12 #[rv a, iv (Int32.ofNat i)] [(.int (Int32.ofNat i)), (.ref t)])) ?_ (fun _ kk_ => XS.iloadN X3.here hx rfl (hb hby dcha_11) rfl  kk_)
  refine Go.callS (y := (⟨"java/lang/StringLatin1", "charAt", "([BI)C"⟩ : MethodName)) X3 hx hZ hown (hw _ (List.mem_of_getElem? (i := 226) rfl)) (hw _ (List.mem_of_getElem? (i := 227) rfl)) (hw _ (List.mem_of_getElem? (i := 228) rfl)) (hw _ (List.mem_of_getElem? (i := 229) rfl)) (by decide) 0 (rm_lch l Z a0 hw [] t i n ch rF n0 h0 hi hn hc V_t O0 Sr hr_rF) e3 (by decide) (by decide) (by decide) (by decide) (argsL := [(.ref t), (.int (Int32.ofNat i))]) (rest := []) rfl (by rw [hml]; rfl) (lenOf pd__28_5bBI_29C rfl) rfl rfl (by show 2 * 0 + _ ≤ _; exact Nat.le_of_eq rfl) (hb hby dcha_12) ?_
  rintro _ T4 L4 X4 ⟨rfl, e4, rfl⟩
  have N5 := Fr.app N2 (Fr.nil _)
  show Go p e below _ T4 (mkF m 15 #[rv a, iv (Int32.ofNat i)] [(.int (Int32.ofNat (ch i)))])
  refine Go.retN X4 hx hlk (t := .char) hret (by simp) (z' := (Int32.ofNat (ch i))) (ch_nar _ (hc i hi)) (hb hby dcha_15) (by decide) (by decide) ?_
  try rw [e4]
  exact ⟨rfl, rfl, rfl⟩
theorem dalt_0 : decode jdk_68_method_68_code 0 = .ok (.getstatic 18, 3) := by decide +kernel
theorem dalt_3 : decode jdk_68_method_68_code 3 = .ok (.ifCond .eq 14, 3) := by decide +kernel
theorem dalt_6 : decode jdk_68_method_68_code 6 = .ok (.aload_n 0, 1) := by decide +kernel
theorem dalt_7 : decode jdk_68_method_68_code 7 = .ok (.getfield 22, 3) := by decide +kernel
theorem dalt_10 : decode jdk_68_method_68_code 10 = .ok (.ifCond .ne 7, 3) := by decide +kernel
theorem dalt_13 : decode jdk_68_method_68_code 13 = .ok (.iconst 1, 1) := by decide +kernel
theorem dalt_14 : decode jdk_68_method_68_code 14 = .ok (.goto 4, 3) := by decide +kernel
theorem dalt_18 : decode jdk_68_method_68_code 18 = .ok (.ireturn, 1) := by decide +kernel
theorem pn_alt : plainFor (⟨"java/lang/AbstractStringBuilder", "isLatin1", "()Z"⟩ : MethodName) = true := by first | exact plainFor_of_name (by first | (simp [plainName, overriddenIn]; done) | decide +kernel) | decide +kernel
theorem ef_alt (m : MethodId) (x0 : Addr) : entryFrame m #[(.ref x0)] 1 = mkF m 0 #[rv x0] [] := by first | (simp [entryFrame, mkF, argsToLocals, Value.category]; done) | rfl
set_option maxRecDepth 65536 in
set_option maxHeartbeats 40000000 in
theorem rm_alt (l : Launch) (Z : State) (a0 : Array Value) (hw : ∀ d ∈ tables_1, d.before a0 Z = true) (ws : List Jvm.Cond) (a : Addr) (n0 : Nat) (cS : Int32) (h0 : Heap) (Fc_a : Fld Z h0 a "java/lang/AbstractStringBuilder" "coder" "B" (.int (0 : Int32))) (O0 : Old Z n0 h0) (Sc : Sta Z Z.heap "java/lang/String" "COMPACT_STRINGS" "Z" (.int cS)) (hcS : ¬ (cS = (0 : Int32))) :
    Mt l Z (⟨"java/lang/AbstractStringBuilder", "isLatin1", "()Z"⟩ : MethodName) jdk_68_method_68_code 1 (some .boolean) ws ({ frames := 0, cells := 0, slots := 0, locals := 0 } : Room) #[(.ref a)] h0 (fun v h L => v = some (.int (1 : Int32)) ∧ h = h0 ∧ L = []) := by
  refine Mt.body pn_alt ?_
  intro p e s m below meth c s₁ hx hby hml hown hnm hret hlk hZ X0 e0
  refine Go.cast (g' := (mkF m 0 #[rv a] [])) (ef_alt m a) ?_
  have N0 := Fr.nil n0
  obtain ⟨T1, X1, e1, st1⟩ := getS2 X0 hx hZ hown (host := "") (Or.inl (hw _ (List.mem_of_getElem? (i := 57) rfl))) Via.refl e0 (Sc.ext O0.2) (g := (mkF m 0 #[rv a] [])) rfl (hb hby dalt_0)
  refine Go.st (T' := T1) (g' := (mkF m 3 #[rv a] [(.int cS)])) ?_ st1
  refine Go.st (T' := T1) (g' := (mkF m 7 #[rv a] [(.ref a)])) ?_ (fun _ kk_ => XS.ifNo X1.here hx rfl (hb hby dalt_3) rfl ((if0 _ _).trans (feq (hcS : ¬ (cS = (0 : Int32)))).1) (XS.aloadN X1.here hx rfl (hb hby dalt_6) rfl rfl  kk_))
  obtain ⟨T2, X2, e2, st2⟩ := getF X1 hx hZ hown (host := "") (Or.inl (hw _ (List.mem_of_getElem? (i := 60) rfl))) Via.refl e1 Fc_a (g := (mkF m 7 #[rv a] [(.ref a)])) rfl rfl (hb hby dalt_7)
  refine Go.st (T' := T2) (g' := (mkF m 10 #[rv a] [(.int (0 : Int32))])) ?_ st2
  refine Go.st (T' := T2) (g' := (mkF m 18 #[rv a] [(.int (1 : Int32))])) ?_ (fun _ kk_ => XS.ifNo X2.here hx rfl (hb hby dalt_10) rfl ((if0 _ _).trans (teq ((by decide) : (0 : Int32) = (0 : Int32))).2) (XS.iconst X2.here hx rfl (hb hby dalt_13) (XS.goto X2.here hx rfl (pc0 := 14) (pc' := 18) rfl (hb hby dalt_14) (by decide) (by decide) kk_)))
  refine Go.retN X2 hx hlk (t := .boolean) hret (by simp) (z' := (1 : Int32)) rfl (hb hby dalt_18) (by decide) (by decide) ?_
  try rw [e2]
  exact ⟨rfl, rfl, rfl⟩
theorem dasi_0 : decode jdk_68_method_2_code 0 = .ok (.aload_n 0, 1) := by decide +kernel
theorem dasi_1 : decode jdk_68_method_2_code 1 = .ok (.invokespecial 3, 3) := by decide +kernel
theorem dasi_4 : decode jdk_68_method_2_code 4 = .ok (.getstatic 18, 3) := by decide +kernel
theorem dasi_7 : decode jdk_68_method_2_code 7 = .ok (.ifCond .eq 18, 3) := by decide +kernel
theorem dasi_10 : decode jdk_68_method_2_code 10 = .ok (.aload_n 0, 1) := by decide +kernel
theorem dasi_11 : decode jdk_68_method_2_code 11 = .ok (.iload_n 1, 1) := by decide +kernel
theorem dasi_12 : decode jdk_68_method_2_code 12 = .ok (.newarray .byte, 2) := by decide +kernel
theorem dasi_14 : decode jdk_68_method_2_code 14 = .ok (.putfield 15, 3) := by decide +kernel
theorem dasi_17 : decode jdk_68_method_2_code 17 = .ok (.aload_n 0, 1) := by decide +kernel
theorem dasi_18 : decode jdk_68_method_2_code 18 = .ok (.iconst 0, 1) := by decide +kernel
theorem dasi_19 : decode jdk_68_method_2_code 19 = .ok (.putfield 22, 3) := by decide +kernel
theorem dasi_22 : decode jdk_68_method_2_code 22 = .ok (.goto 16, 3) := by decide +kernel
theorem dasi_38 : decode jdk_68_method_2_code 38 = .ok (.return_, 1) := by decide +kernel
theorem pn_asi : plainFor (⟨"java/lang/AbstractStringBuilder", "<init>", "(I)V"⟩ : MethodName) = true := by first | exact plainFor_of_name (by first | (simp [plainName, overriddenIn]; done) | decide +kernel) | decide +kernel
theorem ef_asi (m : MethodId) (x0 : Addr) (x1 : Int32) : entryFrame m #[(.ref x0), (.int x1)] 2 = mkF m 0 #[rv x0, iv x1] [] := by first | (simp [entryFrame, mkF, argsToLocals, Value.category]; done) | rfl
set_option maxRecDepth 65536 in
set_option maxHeartbeats 40000000 in
theorem rm_asi (l : Launch) (Z : State) (a0 : Array Value) (hw : ∀ d ∈ tables_1, d.before a0 Z = true) (ws : List Jvm.Cond) (b : Addr) (n0 : Nat) (cS : Int32) (h0 : Heap) (Z0 : n0 ≤ h0.size) (E_b : Exa Z h0 b "java/lang/StringBuilder") (Gv : Fld Z h0 b "java/lang/AbstractStringBuilder" "value" "[B" .null) (Gc : Fld Z h0 b "java/lang/AbstractStringBuilder" "coder" "B" (.int (0 : Int32))) (Gn : Fld Z h0 b "java/lang/AbstractStringBuilder" "count" "I" (.int (0 : Int32))) (g_b : n0 ≤ b) (O0 : Old Z n0 h0) (Sc : Sta Z Z.heap "java/lang/String" "COMPACT_STRINGS" "Z" (.int cS)) (hcS : ¬ (cS = (0 : Int32))) :
    Mt l Z (⟨"java/lang/AbstractStringBuilder", "<init>", "(I)V"⟩ : MethodName) jdk_68_method_2_code 2 none ws ({ frames := 1, cells := 1, slots := 16, locals := 12 } : Room) #[(.ref b), (.int (16 : Int32))] h0 (fun v h L => v = none ∧ Fr n0 L ∧ Keep h0 h [b] ∧ ∃ d, h0.size ≤ d ∧ Fld Z h b "java/lang/AbstractStringBuilder" "value" "[B" (.ref d) ∧ Fld Z h b "java/lang/AbstractStringBuilder" "coder" "B" (.int (0 : Int32)) ∧ Fld Z h b "java/lang/AbstractStringBuilder" "count" "I" (.int (Int32.ofNat (0))) ∧ Ary Z h d .byte (IL 16 (fun _ => 0))) := by
  refine Mt.body pn_asi ?_
  intro p e s m below meth c s₁ hx hby hml hown hnm hret hlk hZ X0 e0
  refine Go.cast (g' := (mkF m 0 #[rv b, iv (16 : Int32)] [])) (ef_asi m b (16 : Int32)) ?_
  have N0 := Fr.nil n0
  have K0 := Keep.refl h0 [b]
  refine Go.st (T' := s₁) (g' := (mkF m 1 #[rv b, iv (16 : Int32)] [(.ref b)])) ?_ (fun _ kk_ => XS.aloadN X0.here hx rfl (hb hby dasi_0) rfl rfl  kk_)
  obtain ⟨T1, X1, e1, st1⟩ := initO X0 hx hZ hown (hw _ (List.mem_of_getElem? (i := 56) rfl)) (hw _ (List.mem_of_getElem? (i := 17) rfl)) (hw _ (List.mem_of_getElem? (i := 18) rfl)) e0 (g := (mkF m 1 #[rv b, iv (16 : Int32)] [(.ref b)])) rfl (by rw [hml]; rfl) rfl (hb hby dasi_1) (by decide) (W := 0) (by show 2 * 0 + _ ≤ _; exact Nat.le_of_eq rfl) (by decide)
  refine Go.st (T' := T1) (g' := (mkF m 4 #[rv b, iv (16 : Int32)] [])) ?_ st1
  obtain ⟨T2, X2, e2, st2⟩ := getS2 X1 hx hZ hown (host := "") (Or.inl (hw _ (List.mem_of_getElem? (i := 57) rfl))) Via.refl e1 (Sc.ext O0.2) (g := (mkF m 4 #[rv b, iv (16 : Int32)] [])) rfl (hb hby dasi_4)
  refine Go.st (T' := T2) (g' := (mkF m 7 #[rv b, iv (16 : Int32)] [(.int cS)])) ?_ st2
  refine Go.st (T' := T2) (g' := (mkF m 12 #[rv b, iv (16 : Int32)] [(.int (16 : Int32)), (.ref b)])) ?_ (fun _ kk_ => XS.ifNo X2.here hx rfl (hb hby dasi_7) rfl ((if0 _ _).trans (feq (hcS : ¬ (cS = (0 : Int32)))).1) (XS.aloadN X2.here hx rfl (hb hby dasi_10) rfl rfl  (XS.iloadN X2.here hx rfl (hb hby dasi_11) rfl  kk_)))
  refine Go.newP X2 hx hZ (aty := .byte) (hw _ (List.mem_of_getElem? (i := 24) rfl)) e2 rfl (hb hby dasi_12) (n := 16) rfl rfl 16 (by decide) (by decide) (by decide) (by decide) ?_
  intro T3 h3 b3 X3 e3 E3 g3 V3
  have ne_b_b3 : b ≠ b3 := Nat.ne_of_lt (Nat.lt_of_lt_of_eq (E_b).lt g3.symm)
  have g_b3 : n0 ≤ b3 := Nat.le_trans Z0 (Nat.le_of_eq g3.symm)
  have sz_b3 : h0.size ≤ b3 := Nat.le_trans K0.1 (Nat.le_of_eq g3.symm)
  have O4 := O0.ext E3
  have Z5 : n0 ≤ h3.size := Nat.le_trans Z0 E3.1
  have K6 : Keep h0 h3 [b] := K0.ext E3
  change Ary Z h3 b3 .byte (IL 16 (fun _ => 0)) at V3
  show Go p e below _ T3 (mkF m 14 #[rv b, iv (16 : Int32)] [(.ref b3), (.ref b)])
  have f7 := (Gv.ext E3)
  have f8 := (E_b.ext E3)
  obtain ⟨T9, h9, X9, e9, W9, st9⟩ := putF X3 hx hZ hown (host := "") (Or.inl (hw _ (List.mem_of_getElem? (i := 58) rfl))) Via.refl e3 f7 f8 (Or.inl (hw _ (List.mem_of_getElem? (i := 59) rfl))) (hw _ (List.mem_of_getElem? (i := 45) rfl)) (ty := (.array .byte)) (by decide) rfl rfl (g := (mkF m 14 #[rv b, iv (16 : Int32)] [(.ref b3), (.ref b)])) rfl rfl (hb hby dasi_14)
  have N10 := Fr.snoc X9 N0 g_b
  have O11 := O4.wr W9 g_b
  have f12 := f7.same W9
  have K13 : Keep h0 h9 [b] := K6.wr W9 (Or.inl (List.mem_of_getElem? (i := 0) rfl))
  have Z14 : n0 ≤ h9.size := by rw [W9.size]; exact Z5
  refine Go.st (T' := T9) (g' := (mkF m 17 #[rv b, iv (16 : Int32)] [])) ?_ st9
  refine Go.st (T' := T9) (g' := (mkF m 19 #[rv b, iv (16 : Int32)] [(.int (0 : Int32)), (.ref b)])) ?_ (fun _ kk_ => XS.aloadN X9.here hx rfl (hb hby dasi_17) rfl rfl  (XS.iconst X9.here hx rfl (hb hby dasi_18) kk_))
  have f15 := ((Gc.ext E3).other W9 (Or.inr (slot_ne (C := "java/lang/StringBuilder") (Or.inl (hw _ (List.mem_of_getElem? (i := 61) rfl))) (Or.inl (hw _ (List.mem_of_getElem? (i := 59) rfl))) (by decide) (t := .byte) (t' := (.array .byte)) (by decide) (by decide))))
  have f16 := (f8.wr W9)
  obtain ⟨T17, h17, X17, e17, W17, st17⟩ := putFN X9 hx hZ hown (hw _ (List.mem_of_getElem? (i := 60) rfl)) Via.refl e9 f15 f16 (Or.inl (hw _ (List.mem_of_getElem? (i := 61) rfl))) (hw _ (List.mem_of_getElem? (i := 45) rfl)) (ty := .byte) (v' := (.int (0 : Int32))) (by decide) (by decide) (by decide) (g := (mkF m 19 #[rv b, iv (16 : Int32)] [(.int (0 : Int32)), (.ref b)])) rfl rfl (hb hby dasi_19)
  have N18 := Fr.snoc X17 N10 g_b
  have O19 := O11.wr W17 g_b
  have f20 := f15.same W17
  have K21 : Keep h0 h17 [b] := K13.wr W17 (Or.inl (List.mem_of_getElem? (i := 0) rfl))
  have Z22 : n0 ≤ h17.size := by rw [W17.size]; exact Z14
  refine Go.st (T' := T17) (g' := (mkF m 22 #[rv b, iv (16 : Int32)] [])) ?_ st17
  refine Go.st (T' := T17) (g' := (mkF m 38 #[rv b, iv (16 : Int32)] [])) ?_ (fun _ kk_ => XS.goto X17.here hx rfl (pc0 := 22) (pc' := 38) rfl (hb hby dasi_22) (by decide) (by decide) kk_)
  have f23 := (f12.other W17 (Or.inr (slot_ne (C := "java/lang/StringBuilder") (Or.inl (hw _ (List.mem_of_getElem? (i := 59) rfl))) (Or.inl (hw _ (List.mem_of_getElem? (i := 61) rfl))) (by decide) (t := (.array .byte)) (t' := .byte) (by decide) (by decide))))
  have f24 := (((Gn.ext E3).other W9 (Or.inr (slot_ne (C := "java/lang/StringBuilder") (Or.inl (hw _ (List.mem_of_getElem? (i := 83) rfl))) (Or.inl (hw _ (List.mem_of_getElem? (i := 59) rfl))) (by decide) (t := .int) (t' := (.array .byte)) (by decide) (by decide)))).other W17 (Or.inr (slot_ne (C := "java/lang/StringBuilder") (Or.inl (hw _ (List.mem_of_getElem? (i := 83) rfl))) (Or.inl (hw _ (List.mem_of_getElem? (i := 61) rfl))) (by decide) (t := .int) (t' := .byte) (by decide) (by decide))))
  have f25 := ((V3.other W9 (Ne.symm ne_b_b3)).other W17 (Ne.symm ne_b_b3))
  refine Go.retV X17 hx hlk hret (hb hby dasi_38) (by decide) (by decide) ?_
  try rw [e17]
  exact ⟨rfl, N18, K21, b3, sz_b3, f23, f20, f24, f25⟩
theorem dsbi_0 : decode jdk_67_method_1_code 0 = .ok (.aload_n 0, 1) := by decide +kernel
theorem dsbi_1 : decode jdk_67_method_1_code 1 = .ok (.bipush 16, 2) := by decide +kernel
theorem dsbi_3 : decode jdk_67_method_1_code 3 = .ok (.invokespecial 1, 3) := by decide +kernel
theorem dsbi_6 : decode jdk_67_method_1_code 6 = .ok (.return_, 1) := by decide +kernel
theorem pn_sbi : plainFor (⟨"java/lang/StringBuilder", "<init>", "()V"⟩ : MethodName) = true := by first | exact plainFor_of_name (by first | (simp [plainName, overriddenIn]; done) | decide +kernel) | decide +kernel
theorem ef_sbi (m : MethodId) (x0 : Addr) : entryFrame m #[(.ref x0)] 1 = mkF m 0 #[rv x0] [] := by first | (simp [entryFrame, mkF, argsToLocals, Value.category]; done) | rfl
set_option maxRecDepth 65536 in
set_option maxHeartbeats 40000000 in
theorem rm_sbi (l : Launch) (Z : State) (a0 : Array Value) (hw : ∀ d ∈ tables_1, d.before a0 Z = true) (ws : List Jvm.Cond) (b : Addr) (n0 : Nat) (cS : Int32) (h0 : Heap) (Z0 : n0 ≤ h0.size) (E_b : Exa Z h0 b "java/lang/StringBuilder") (Gv : Fld Z h0 b "java/lang/AbstractStringBuilder" "value" "[B" .null) (Gc : Fld Z h0 b "java/lang/AbstractStringBuilder" "coder" "B" (.int (0 : Int32))) (Gn : Fld Z h0 b "java/lang/AbstractStringBuilder" "count" "I" (.int (0 : Int32))) (g_b : n0 ≤ b) (O0 : Old Z n0 h0) (Sc : Sta Z Z.heap "java/lang/String" "COMPACT_STRINGS" "Z" (.int cS)) (hcS : ¬ (cS = (0 : Int32))) :
    Mt l Z (⟨"java/lang/StringBuilder", "<init>", "()V"⟩ : MethodName) jdk_67_method_1_code 1 none ws ({ frames := 2, cells := 1, slots := 16, locals := 25 } : Room) #[(.ref b)] h0 (fun v h L => v = none ∧ Fr n0 L ∧ Keep h0 h [b] ∧ ∃ d, h0.size ≤ d ∧ Fld Z h b "java/lang/AbstractStringBuilder" "value" "[B" (.ref d) ∧ Fld Z h b "java/lang/AbstractStringBuilder" "coder" "B" (.int (0 : Int32)) ∧ Fld Z h b "java/lang/AbstractStringBuilder" "count" "I" (.int (Int32.ofNat (0))) ∧ Ary Z h d .byte (IL 16 (fun _ => 0))) := by
  refine Mt.body pn_sbi ?_
  intro p e s m below meth c s₁ hx hby hml hown hnm hret hlk hZ X0 e0
  refine Go.cast (g' := (mkF m 0 #[rv b] [])) (ef_sbi m b) ?_
  have N0 := Fr.nil n0
  have K0 := Keep.refl h0 [b]
  refine Go.st (T' := s₁) (g' := (mkF m 3 #[rv b] [(.int (16 : Int32)), (.ref b)])) ?_ (fun _ kk_ => XS.aloadN X0.here hx rfl (hb hby dsbi_0) rfl rfl  (XS.bipush X0.here hx rfl (hb hby dsbi_1) kk_))
  refine Go.callN (y := (⟨"java/lang/AbstractStringBuilder", "<init>", "(I)V"⟩ : MethodName)) X0 hx hZ rfl hown (hw _ (List.mem_of_getElem? (i := 50) rfl)) (hw _ (List.mem_of_getElem? (i := 51) rfl)) (hw _ (List.mem_of_getElem? (i := 54) rfl)) (hw _ (List.mem_of_getElem? (i := 55) rfl)) (by decide) 0 (rm_asi l Z a0 hw [] b n0 cS h0 Z0 E_b Gv Gc Gn g_b O0 Sc hcS) e0 (by decide) (by decide) (by decide) (by decide) (a := b) (argsL := [(.int (16 : Int32))]) (rest := []) rfl (by rw [hml]; rfl) (lenOf pd__28I_29V rfl) rfl rfl (by show 2 * 0 + _ ≤ _; exact Nat.le_of_eq rfl) (hb hby dsbi_3) ?_
  rintro _ T1 L1 X1 ⟨rfl, N1, K1, d, dz, hq1⟩
  have N2 := Fr.app N0 N1
  have O3 := O0.keep K1 (allS (P := fun z_ => n0 ≤ z_) g_b all0)
  have Z4 : n0 ≤ T1.heap.size := Nat.le_trans Z0 K1.1
  have K5 : Keep h0 T1.heap [b] := K0.trans K1 (allS (P := fun z_ => z_ ∈ [b] ∨ h0.size ≤ z_) (Or.inl (List.mem_of_getElem? (i := 0) rfl)) all0)
  show Go p e below _ T1 (mkF m 6 #[rv b] [])
  refine Go.retV X1 hx hlk hret (hb hby dsbi_6) (by decide) (by decide) ?_
  exact ⟨rfl, N2, K5, d, dz, hq1⟩
theorem dens_0 : decode jdk_68_method_9_code 0 = .ok (.aload_n 0, 1) := by decide +kernel
theorem dens_1 : decode jdk_68_method_9_code 1 = .ok (.getfield 15, 3) := by decide +kernel
theorem dens_4 : decode jdk_68_method_9_code 4 = .ok (.arraylength, 1) := by decide +kernel
theorem dens_5 : decode jdk_68_method_9_code 5 = .ok (.aload_n 0, 1) := by decide +kernel
theorem dens_6 : decode jdk_68_method_9_code 6 = .ok (.getfield 22, 3) := by decide +kernel
theorem dens_9 : decode jdk_68_method_9_code 9 = .ok (.ishr, 1) := by decide +kernel
theorem dens_10 : decode jdk_68_method_9_code 10 = .ok (.istore_n 2, 1) := by decide +kernel
theorem dens_11 : decode jdk_68_method_9_code 11 = .ok (.iload_n 1, 1) := by decide +kernel
theorem dens_12 : decode jdk_68_method_9_code 12 = .ok (.iload_n 2, 1) := by decide +kernel
theorem dens_13 : decode jdk_68_method_9_code 13 = .ok (.isub, 1) := by decide +kernel
theorem dens_14 : decode jdk_68_method_9_code 14 = .ok (.ifCond .le 24, 3) := by decide +kernel
theorem dens_38 : decode jdk_68_method_9_code 38 = .ok (.return_, 1) := by decide +kernel
theorem pn_ens : plainFor (⟨"java/lang/AbstractStringBuilder", "ensureCapacityInternal", "(I)V"⟩ : MethodName) = true := by first | exact plainFor_of_name (by first | (simp [plainName, overriddenIn]; done) | decide +kernel) | decide +kernel
theorem ef_ens (m : MethodId) (x0 : Addr) (x1 : Int32) : entryFrame m #[(.ref x0), (.int x1)] 3 = mkF m 0 #[rv x0, iv x1, .unset] [] := by first | (simp [entryFrame, mkF, argsToLocals, Value.category]; done) | rfl
set_option maxRecDepth 65536 in
set_option maxHeartbeats 40000000 in
theorem rm_ens (l : Launch) (Z : State) (a0 : Array Value) (hw : ∀ d ∈ tables_1, d.before a0 Z = true) (ws : List Jvm.Cond) (b d : Addr) (k mm : Nat) (f : Nat → Int32) (n0 : Nat) (h0 : Heap) (hm : mm ≤ 16) (E_b : Exa Z h0 b "java/lang/StringBuilder") (Gv : Fld Z h0 b "java/lang/AbstractStringBuilder" "value" "[B" (.ref d)) (Gc : Fld Z h0 b "java/lang/AbstractStringBuilder" "coder" "B" (.int (0 : Int32))) (Gn : Fld Z h0 b "java/lang/AbstractStringBuilder" "count" "I" (.int (Int32.ofNat k))) (V_d : Ary Z h0 d .byte (IL 16 f)) (g_b : n0 ≤ b) (g_d : n0 ≤ d) (ne_b_d : b ≠ d) :
    Mt l Z (⟨"java/lang/AbstractStringBuilder", "ensureCapacityInternal", "(I)V"⟩ : MethodName) jdk_68_method_9_code 3 none ws ({ frames := 0, cells := 0, slots := 0, locals := 0 } : Room) #[(.ref b), (.int (Int32.ofNat mm))] h0 (fun v h L => v = none ∧ h = h0 ∧ L = []) := by
  refine Mt.body pn_ens ?_
  intro p e s m below meth c s₁ hx hby hml hown hnm hret hlk hZ X0 e0
  refine Go.cast (g' := (mkF m 0 #[rv b, iv (Int32.ofNat mm), .unset] [])) (ef_ens m b (Int32.ofNat mm)) ?_
  have N0 := Fr.nil n0
  refine Go.st (T' := s₁) (g' := (mkF m 1 #[rv b, iv (Int32.ofNat mm), .unset] [(.ref b)])) ?_ (fun _ kk_ => XS.aloadN X0.here hx rfl (hb hby dens_0) rfl rfl  kk_)
  obtain ⟨T1, X1, e1, st1⟩ := getF X0 hx hZ hown (host := "") (Or.inl (hw _ (List.mem_of_getElem? (i := 58) rfl))) Via.refl e0 Gv (g := (mkF m 1 #[rv b, iv (Int32.ofNat mm), .unset] [(.ref b)])) rfl rfl (hb hby dens_1)
  refine Go.st (T' := T1) (g' := (mkF m 4 #[rv b, iv (Int32.ofNat mm), .unset] [(.ref d)])) ?_ st1
  refine Go.st (T' := T1) (g' := (mkF m 6 #[rv b, iv (Int32.ofNat mm), .unset] [(.ref b), (.int (16 : Int32))])) ?_ (fun _ kk_ => own_alen X1 hx hZ e1 V_d (n := 16) (IL_len _ _) rfl rfl (hb hby dens_4) (XS.aloadN X1.here hx rfl (hb hby dens_5) rfl rfl  kk_))
  obtain ⟨T2, X2, e2, st2⟩ := getF X1 hx hZ hown (host := "") (Or.inl (hw _ (List.mem_of_getElem? (i := 60) rfl))) Via.refl e1 Gc (g := (mkF m 6 #[rv b, iv (Int32.ofNat mm), .unset] [(.ref b), (.int (16 : Int32))])) rfl rfl (hb hby dens_6)
  refine Go.st (T' := T2) (g' := (mkF m 9 #[rv b, iv (Int32.ofNat mm), .unset] [(.int (0 : Int32)), (.int (16 : Int32))])) ?_ st2
  refine Go.st (T' := T2) (g' := (mkF m 10 #[rv b, iv (Int32.ofNat mm), .unset] [(.int ((16 : Int32) >>> ((0 : Int32) &&& 31)))])) ?_ (fun _ kk_ => XS.ishr X2.here hx rfl (hb hby dens_9) rfl kk_)
  rw [own_shr0]
  show Go p e below _ T2 (mkF m 10 #[rv b, iv (Int32.ofNat mm), .unset] [(.int (16 : Int32))])
  refine Go.st (T' := T2) (g' := (mkF m 38 #[rv b, iv (Int32.ofNat mm), iv (16 : Int32)] [])) ?_ (fun _ kk_ => XS.istoreN X2.here hx rfl (hb hby dens_10) rfl (l' := #[rv b, iv (Int32.ofNat mm), iv (16 : Int32)]) rfl (XS.iloadN X2.here hx rfl (hb hby dens_11) rfl  (XS.iloadN X2.here hx rfl (hb hby dens_12) rfl  (XS.isub X2.here hx rfl (hb hby dens_13) rfl (XS.ifYes X2.here hx rfl (pc0 := 14) (pc' := 38) rfl (hb hby dens_14) rfl ((if0 _ _).trans (flt ((own_ens mm hm) : ¬ ((0 : Int32) < ((Int32.ofNat mm) - (16 : Int32))))).2.2.2) (by decide) (by decide) kk_)))))
  refine Go.retV X2 hx hlk hret (hb hby dens_38) (by decide) (by decide) ?_
  try rw [e2]
  exact ⟨rfl, rfl, rfl⟩
theorem dinf_0 : decode jdk_68_method_71_code 0 = .ok (.getstatic 18, 3) := by decide +kernel
theorem dinf_3 : decode jdk_68_method_71_code 3 = .ok (.ifCond .eq 18, 3) := by decide +kernel
theorem dinf_6 : decode jdk_68_method_71_code 6 = .ok (.aload_n 0, 1) := by decide +kernel
theorem dinf_7 : decode jdk_68_method_71_code 7 = .ok (.getfield 22, 3) := by decide +kernel
theorem dinf_10 : decode jdk_68_method_71_code 10 = .ok (.aload_n 1, 1) := by decide +kernel
theorem dinf_11 : decode jdk_68_method_71_code 11 = .ok (.invokevirtual 40, 3) := by decide +kernel
theorem dinf_14 : decode jdk_68_method_71_code 14 = .ok (.if_icmp .eq 7, 3) := by decide +kernel
theorem dinf_21 : decode jdk_68_method_71_code 21 = .ok (.return_, 1) := by decide +kernel
theorem pn_inf : plainFor (⟨"java/lang/AbstractStringBuilder", "inflateIfNeededFor", "(Ljava/lang/String;)V"⟩ : MethodName) = true := by first | exact plainFor_of_name (by first | (simp [plainName, overriddenIn]; done) | decide +kernel) | decide +kernel
theorem ef_inf (m : MethodId) (x0 : Addr) (x1 : Addr) : entryFrame m #[(.ref x0), (.ref x1)] 2 = mkF m 0 #[rv x0, rv x1] [] := by first | (simp [entryFrame, mkF, argsToLocals, Value.category]; done) | rfl
set_option maxRecDepth 65536 in
set_option maxHeartbeats 40000000 in
theorem rm_inf (l : Launch) (Z : State) (a0 : Array Value) (hw : ∀ d ∈ tables_1, d.before a0 Z = true) (ws : List Jvm.Cond) (b d a t : Addr) (k n : Nat) (f ft : Nat → Int32) (n0 : Nat) (cS : Int32) (h0 : Heap) (E_b : Exa Z h0 b "java/lang/StringBuilder") (Gv : Fld Z h0 b "java/lang/AbstractStringBuilder" "value" "[B" (.ref d)) (Gc : Fld Z h0 b "java/lang/AbstractStringBuilder" "coder" "B" (.int (0 : Int32))) (Gn : Fld Z h0 b "java/lang/AbstractStringBuilder" "count" "I" (.int (Int32.ofNat k))) (V_d : Ary Z h0 d .byte (IL 16 f)) (g_b : n0 ≤ b) (g_d : n0 ≤ d) (ne_b_d : b ≠ d) (E_a : Exa Z h0 a "java/lang/String") (Fc_a : Fld Z h0 a "java/lang/String" "coder" "B" (.int (0 : Int32))) (Fv_a : Fld Z h0 a "java/lang/String" "value" "[B" (.ref t)) (V_t : Ary Z h0 t .byte (IL n ft)) (O0 : Old Z n0 h0) (Sc : Sta Z Z.heap "java/lang/String" "COMPACT_STRINGS" "Z" (.int cS)) (hcS : ¬ (cS = (0 : Int32))) :
    Mt l Z (⟨"java/lang/AbstractStringBuilder", "inflateIfNeededFor", "(Ljava/lang/String;)V"⟩ : MethodName) jdk_68_method_71_code 2 none ws ({ frames := 1, cells := 0, slots := 0, locals := 14 } : Room) #[(.ref b), (.ref a)] h0 (fun v h L => v = none ∧ h = h0 ∧ L = []) := by
  refine Mt.body pn_inf ?_
  intro p e s m below meth c s₁ hx hby hml hown hnm hret hlk hZ X0 e0
  refine Go.cast (g' := (mkF m 0 #[rv b, rv a] [])) (ef_inf m b a) ?_
  have N0 := Fr.nil n0
  obtain ⟨T1, X1, e1, st1⟩ := getS2 X0 hx hZ hown (host := "") (Or.inl (hw _ (List.mem_of_getElem? (i := 57) rfl))) Via.refl e0 (Sc.ext O0.2) (g := (mkF m 0 #[rv b, rv a] [])) rfl (hb hby dinf_0)
  refine Go.st (T' := T1) (g' := (mkF m 3 #[rv b, rv a] [(.int cS)])) ?_ st1
  refine Go.st (T' := T1) (g' := (mkF m 7 #[rv b, rv a] [(.ref b)])) ?_ (fun _ kk_ => XS.ifNo X1.here hx rfl (hb hby dinf_3) rfl ((if0 _ _).trans (feq (hcS : ¬ (cS = (0 : Int32)))).1) (XS.aloadN X1.here hx rfl (hb hby dinf_6) rfl rfl  kk_))
  obtain ⟨T2, X2, e2, st2⟩ := getF X1 hx hZ hown (host := "") (Or.inl (hw _ (List.mem_of_getElem? (i := 60) rfl))) Via.refl e1 Gc (g := (mkF m 7 #[rv b, rv a] [(.ref b)])) rfl rfl (hb hby dinf_7)
  refine Go.st (T' := T2) (g' := (mkF m 10 #[rv b, rv a] [(.int (0 : Int32))])) ?_ st2
  refine Go.st (T' := T2) (g' := (mkF m 11 #[rv b, rv a] [(.ref a), (.int (0 : Int32))])) ?_ (fun _ kk_ => XS.aloadN X2.here hx rfl (hb hby dinf_10) rfl rfl  kk_)
  refine Go.callV (y := (⟨"java/lang/String", "coder", "()B"⟩ : MethodName)) (z := (⟨"java/lang/String", "coder", "()B"⟩ : MethodName)) X2 hx hZ hown (hw _ (List.mem_of_getElem? (i := 99) rfl)) (hw _ (List.mem_of_getElem? (i := 78) rfl)) (notFace_of_selects (args := #[]) (mvT hZ (hw _ (List.mem_of_getElem? (i := 80) rfl)))) (hw _ (List.mem_of_getElem? (i := 80) rfl)) (hw _ (List.mem_of_getElem? (i := 79) rfl)) (hw _ (List.mem_of_getElem? (i := 7) rfl)) (hw _ (List.mem_of_getElem? (i := 81) rfl)) (by decide) 1 (rm_cod l Z a0 hw [] a n0 cS h0 Fc_a O0 Sc hcS) e2 (by decide) (by decide) (by decide) (by decide) E_a (argsL := []) (rest := [(.int (0 : Int32))]) rfl (by rw [hml]; rfl) (lenOf pd__28_29B rfl) rfl rfl (by show 2 * 0 + _ ≤ _; exact Nat.le_of_eq rfl) (hb hby dinf_11) ?_
  rintro _ T3 L3 X3 ⟨rfl, e3, rfl⟩
  have N4 := Fr.app N0 (Fr.nil _)
  show Go p e below _ T3 (mkF m 14 #[rv b, rv a] [(.int (0 : Int32)), (.int (0 : Int32))])
  refine Go.st (T' := T3) (g' := (mkF m 21 #[rv b, rv a] [])) ?_ (fun _ kk_ => XS.icmpYes X3.here hx rfl (pc0 := 14) (pc' := 21) rfl (hb hby dinf_14) rfl (teq ((by decide) : (0 : Int32) = (0 : Int32))).1 (by decide) (by decide) kk_)
  refine Go.retV X3 hx hlk hret (hb hby dinf_21) (by decide) (by decide) ?_
  try rw [e3]
  exact ⟨rfl, rfl, rfl⟩
theorem dgby_0 : decode jdk_42_method_147_code 0 = .ok (.aload_n 0, 1) := by decide +kernel
theorem dgby_1 : decode jdk_42_method_147_code 1 = .ok (.invokevirtual 335, 3) := by decide +kernel
theorem dgby_4 : decode jdk_42_method_147_code 4 = .ok (.iload_n 3, 1) := by decide +kernel
theorem dgby_5 : decode jdk_42_method_147_code 5 = .ok (.if_icmp .ne 23, 3) := by decide +kernel
theorem dgby_8 : decode jdk_42_method_147_code 8 = .ok (.aload_n 0, 1) := by decide +kernel
theorem dgby_9 : decode jdk_42_method_147_code 9 = .ok (.getfield 9, 3) := by decide +kernel
theorem dgby_12 : decode jdk_42_method_147_code 12 = .ok (.iconst 0, 1) := by decide +kernel
theorem dgby_13 : decode jdk_42_method_147_code 13 = .ok (.aload_n 1, 1) := by decide +kernel
theorem dgby_14 : decode jdk_42_method_147_code 14 = .ok (.iload_n 2, 1) := by decide +kernel
theorem dgby_15 : decode jdk_42_method_147_code 15 = .ok (.iload_n 3, 1) := by decide +kernel
theorem dgby_16 : decode jdk_42_method_147_code 16 = .ok (.ishl, 1) := by decide +kernel
theorem dgby_17 : decode jdk_42_method_147_code 17 = .ok (.aload_n 0, 1) := by decide +kernel
theorem dgby_18 : decode jdk_42_method_147_code 18 = .ok (.getfield 9, 3) := by decide +kernel
theorem dgby_21 : decode jdk_42_method_147_code 21 = .ok (.arraylength, 1) := by decide +kernel
theorem dgby_22 : decode jdk_42_method_147_code 22 = .ok (.invokestatic 212, 3) := by decide +kernel
theorem dgby_25 : decode jdk_42_method_147_code 25 = .ok (.goto 18, 3) := by decide +kernel
theorem dgby_43 : decode jdk_42_method_147_code 43 = .ok (.return_, 1) := by decide +kernel
theorem pn_gby : plainFor (⟨"java/lang/String", "getBytes", "([BIB)V"⟩ : MethodName) = true := by first | exact plainFor_of_name (by first | (simp [plainName, overriddenIn]; done) | decide +kernel) | decide +kernel
theorem ef_gby (m : MethodId) (x0 : Addr) (x1 : Addr) (x2 : Int32) (x3 : Int32) : entryFrame m #[(.ref x0), (.ref x1), (.int x2), (.int x3)] 4 = mkF m 0 #[rv x0, rv x1, iv x2, iv x3] [] := by first | (simp [entryFrame, mkF, argsToLocals, Value.category]; done) | rfl
set_option maxRecDepth 65536 in
set_option maxHeartbeats 40000000 in
theorem rm_gby (l : Launch) (Z : State) (a0 : Array Value) (hw : ∀ d ∈ tables_1, d.before a0 Z = true) (ws : List Jvm.Cond) (a t d : Addr) (k n : Nat) (f ft : Nat → Int32) (n0 : Nat) (cS : Int32) (h0 : Heap) (Z0 : n0 ≤ h0.size) (hk : k + n ≤ 16) (E_a : Exa Z h0 a "java/lang/String") (Fc_a : Fld Z h0 a "java/lang/String" "coder" "B" (.int (0 : Int32))) (Fv_a : Fld Z h0 a "java/lang/String" "value" "[B" (.ref t)) (V_t : Ary Z h0 t .byte (IL n ft)) (V_d : Ary Z h0 d .byte (IL 16 f)) (g_d : n0 ≤ d) (O0 : Old Z n0 h0) (Sc : Sta Z Z.heap "java/lang/String" "COMPACT_STRINGS" "Z" (.int cS)) (hcS : ¬ (cS = (0 : Int32))) :
    Mt l Z (⟨"java/lang/String", "getBytes", "([BIB)V"⟩ : MethodName) jdk_42_method_147_code 4 none ws ({ frames := 1, cells := 0, slots := 0, locals := 60 } : Room) #[(.ref a), (.ref d), (.int (Int32.ofNat k)), (.int (0 : Int32))] h0 (fun v h L => v = none ∧ Fr n0 L ∧ Keep h0 h [d] ∧ Ary Z h d .byte (IL 16 (apF k n ft f))) := by
  refine Mt.body pn_gby ?_
  intro p e s m below meth c s₁ hx hby hml hown hnm hret hlk hZ X0 e0
  refine Go.cast (g' := (mkF m 0 #[rv a, rv d, iv (Int32.ofNat k), iv (0 : Int32)] [])) (ef_gby m a d (Int32.ofNat k) (0 : Int32)) ?_
  have N0 := Fr.nil n0
  have K0 := Keep.refl h0 [d]
  refine Go.st (T' := s₁) (g' := (mkF m 1 #[rv a, rv d, iv (Int32.ofNat k), iv (0 : Int32)] [(.ref a)])) ?_ (fun _ kk_ => XS.aloadN X0.here hx rfl (hb hby dgby_0) rfl rfl  kk_)
  refine Go.callV (y := (⟨"java/lang/String", "coder", "()B"⟩ : MethodName)) (z := (⟨"java/lang/String", "coder", "()B"⟩ : MethodName)) X0 hx hZ hown (hw _ (List.mem_of_getElem? (i := 77) rfl)) (hw _ (List.mem_of_getElem? (i := 78) rfl)) (notFace_of_selects (args := #[]) (mvT hZ (hw _ (List.mem_of_getElem? (i := 80) rfl)))) (hw _ (List.mem_of_getElem? (i := 80) rfl)) (hw _ (List.mem_of_getElem? (i := 79) rfl)) (hw _ (List.mem_of_getElem? (i := 7) rfl)) (hw _ (List.mem_of_getElem? (i := 81) rfl)) (by decide) 0 (rm_cod l Z a0 hw [] a n0 cS h0 Fc_a O0 Sc hcS) e0 (by decide) (by decide) (by decide) (by decide) E_a (argsL := []) (rest := []) rfl (by rw [hml]; rfl) (lenOf pd__28_29B rfl) rfl rfl (by show 2 * 0 + _ ≤ _; exact Nat.le_of_eq rfl) (hb hby dgby_1) ?_
  rintro _ T1 L1 X1 ⟨rfl, e1, rfl⟩
  have N2 := Fr.app N0 (Fr.nil _)
  show Go p e below _ T1 (mkF m 4 #[rv a, rv d, iv (Int32.ofNat k), iv (0 : Int32)] [(.int (0 : Int32))])
  refine Go.st (T' := T1) (g' := (mkF m 9 #[rv a, rv d, iv (Int32.ofNat k), iv (0 : Int32)] [(.ref a)])) ?_ (fun _ kk_ => XS.iloadN X1.here hx rfl (hb hby dgby_4) rfl  (XS.icmpNo X1.here hx rfl (hb hby dgby_5) rfl (teq ((by decide) : (0 : Int32) = (0 : Int32))).2 (XS.aloadN X1.here hx rfl (hb hby dgby_8) rfl rfl  kk_)))
  obtain ⟨T3, X3, e3, st3⟩ := getF X1 hx hZ hown (host := "") (Or.inl (hw _ (List.mem_of_getElem? (i := 33) rfl))) Via.refl e1 Fv_a (g := (mkF m 9 #[rv a, rv d, iv (Int32.ofNat k), iv (0 : Int32)] [(.ref a)])) rfl rfl (hb hby dgby_9)
  refine Go.st (T' := T3) (g' := (mkF m 12 #[rv a, rv d, iv (Int32.ofNat k), iv (0 : Int32)] [(.ref t)])) ?_ st3
  refine Go.st (T' := T3) (g' := (mkF m 17 #[rv a, rv d, iv (Int32.ofNat k), iv (0 : Int32)] [(.int ((Int32.ofNat k) <<< ((0 : Int32) &&& 31))), (.ref d), (.int (0 : Int32)), (.ref t)])) ?_ (fun _ kk_ => XS.iconst X3.here hx rfl (hb hby dgby_12) (XS.aloadN X3.here hx rfl (hb hby dgby_13) rfl rfl  (XS.iloadN X3.here hx rfl (hb hby dgby_14) rfl  (XS.iloadN X3.here hx rfl (hb hby dgby_15) rfl  (XS.ishl X3.here hx rfl (hb hby dgby_16) rfl kk_)))))
  rw [own_shl0]
  show Go p e below _ T3 (mkF m 17 #[rv a, rv d, iv (Int32.ofNat k), iv (0 : Int32)] [(.int (Int32.ofNat k)), (.ref d), (.int (0 : Int32)), (.ref t)])
  refine Go.st (T' := T3) (g' := (mkF m 18 #[rv a, rv d, iv (Int32.ofNat k), iv (0 : Int32)] [(.ref a), (.int (Int32.ofNat k)), (.ref d), (.int (0 : Int32)), (.ref t)])) ?_ (fun _ kk_ => XS.aloadN X3.here hx rfl (hb hby dgby_17) rfl rfl  kk_)
  obtain ⟨T4, X4, e4, st4⟩ := getF X3 hx hZ hown (host := "") (Or.inl (hw _ (List.mem_of_getElem? (i := 33) rfl))) Via.refl e3 Fv_a (g := (mkF m 18 #[rv a, rv d, iv (Int32.ofNat k), iv (0 : Int32)] [(.ref a), (.int (Int32.ofNat k)), (.ref d), (.int (0 : Int32)), (.ref t)])) rfl rfl (hb hby dgby_18)
  refine Go.st (T' := T4) (g' := (mkF m 21 #[rv a, rv d, iv (Int32.ofNat k), iv (0 : Int32)] [(.ref t), (.int (Int32.ofNat k)), (.ref d), (.int (0 : Int32)), (.ref t)])) ?_ st4
  refine Go.st (T' := T4) (g' := (mkF m 22 #[rv a, rv d, iv (Int32.ofNat k), iv (0 : Int32)] [(.int (Int32.ofNat n)), (.int (Int32.ofNat k)), (.ref d), (.int (0 : Int32)), (.ref t)])) ?_ (fun _ kk_ => own_alen X4 hx hZ e4 V_t (IL_len _ _) rfl rfl (hb hby dgby_21) kk_)
  refine Go.acopy X4 hx hZ hown (hw _ (List.mem_of_getElem? (i := 105) rfl)) (hw _ (List.mem_of_getElem? (i := 108) rfl)) (hw _ (List.mem_of_getElem? (i := 106) rfl)) (hw _ (List.mem_of_getElem? (i := 107) rfl)) e4 V_t V_d (us := (IL 16 (apF k n ft f))) rfl (sp := 0) (dp := k) (nn := n) rfl rfl rfl (by rw [IL_len]; omega) (by rw [IL_len]; exact hk) (own_copy hk) (by rw [IL_len, IL_len]) N2 g_d rfl (by rw [hml]; rfl) rfl (hb hby dgby_22) (by decide) 0 (by show 2 * 0 + _ ≤ _; exact Nat.le_of_eq rfl) (by decide) ?_
  intro T5 h5 L5 X5 e5 N5 K5 V5
  have O6 := O0.keep K5 (allS (P := fun z_ => n0 ≤ z_) g_d all0)
  have Z7 : n0 ≤ h5.size := Nat.le_trans Z0 K5.1
  have K8 : Keep h0 h5 [d] := K0.trans K5 (allS (P := fun z_ => z_ ∈ [d] ∨ h0.size ≤ z_) (Or.inl (List.mem_of_getElem? (i := 0) rfl)) all0)
  show Go p e below _ T5 (mkF m 25 #[rv a, rv d, iv (Int32.ofNat k), iv (0 : Int32)] [])
  refine Go.st (T' := T5) (g' := (mkF m 43 #[rv a, rv d, iv (Int32.ofNat k), iv (0 : Int32)] [])) ?_ (fun _ kk_ => XS.goto X5.here hx rfl (pc0 := 25) (pc' := 43) rfl (hb hby dgby_25) (by decide) (by decide) kk_)
  refine Go.retV X5 hx hlk hret (hb hby dgby_43) (by decide) (by decide) ?_
  try rw [e5]
  exact ⟨rfl, N5, K8, V5⟩
theorem dpst_0 : decode jdk_68_method_73_code 0 = .ok (.aload_n 0, 1) := by decide +kernel
theorem dpst_1 : decode jdk_68_method_73_code 1 = .ok (.aload_n 2, 1) := by decide +kernel
theorem dpst_2 : decode jdk_68_method_73_code 2 = .ok (.invokevirtual 397, 3) := by decide +kernel
theorem dpst_5 : decode jdk_68_method_73_code 5 = .ok (.aload_n 2, 1) := by decide +kernel
theorem dpst_6 : decode jdk_68_method_73_code 6 = .ok (.aload_n 0, 1) := by decide +kernel
theorem dpst_7 : decode jdk_68_method_73_code 7 = .ok (.getfield 15, 3) := by decide +kernel
theorem dpst_10 : decode jdk_68_method_73_code 10 = .ok (.iload_n 1, 1) := by decide +kernel
theorem dpst_11 : decode jdk_68_method_73_code 11 = .ok (.aload_n 0, 1) := by decide +kernel
theorem dpst_12 : decode jdk_68_method_73_code 12 = .ok (.getfield 22, 3) := by decide +kernel
theorem dpst_15 : decode jdk_68_method_73_code 15 = .ok (.invokevirtual 399, 3) := by decide +kernel
theorem dpst_18 : decode jdk_68_method_73_code 18 = .ok (.return_, 1) := by decide +kernel
theorem pn_pst : plainFor (⟨"java/lang/AbstractStringBuilder", "putStringAt", "(ILjava/lang/String;)V"⟩ : MethodName) = true := by first | exact plainFor_of_name (by first | (simp [plainName, overriddenIn]; done) | decide +kernel) | decide +kernel
theorem ef_pst (m : MethodId) (x0 : Addr) (x1 : Int32) (x2 : Addr) : entryFrame m #[(.ref x0), (.int x1), (.ref x2)] 3 = mkF m 0 #[rv x0, iv x1, rv x2] [] := by first | (simp [entryFrame, mkF, argsToLocals, Value.category]; done) | rfl
set_option maxRecDepth 65536 in
set_option maxHeartbeats 40000000 in
theorem rm_pst (l : Launch) (Z : State) (a0 : Array Value) (hw : ∀ d ∈ tables_1, d.before a0 Z = true) (ws : List Jvm.Cond) (b d a t : Addr) (k n : Nat) (f ft : Nat → Int32) (n0 : Nat) (cS : Int32) (h0 : Heap) (Z0 : n0 ≤ h0.size) (hk : k + n ≤ 16) (E_b : Exa Z h0 b "java/lang/StringBuilder") (Gv : Fld Z h0 b "java/lang/AbstractStringBuilder" "value" "[B" (.ref d)) (Gc : Fld Z h0 b "java/lang/AbstractStringBuilder" "coder" "B" (.int (0 : Int32))) (Gn : Fld Z h0 b "java/lang/AbstractStringBuilder" "count" "I" (.int (Int32.ofNat k))) (V_d : Ary Z h0 d .byte (IL 16 f)) (g_b : n0 ≤ b) (g_d : n0 ≤ d) (ne_b_d : b ≠ d) (E_a : Exa Z h0 a "java/lang/String") (Fc_a : Fld Z h0 a "java/lang/String" "coder" "B" (.int (0 : Int32))) (Fv_a : Fld Z h0 a "java/lang/String" "value" "[B" (.ref t)) (V_t : Ary Z h0 t .byte (IL n ft)) (O0 : Old Z n0 h0) (Sc : Sta Z Z.heap "java/lang/String" "COMPACT_STRINGS" "Z" (.int cS)) (hcS : ¬ (cS = (0 : Int32))) :
    Mt l Z (⟨"java/lang/AbstractStringBuilder", "putStringAt", "(ILjava/lang/String;)V"⟩ : MethodName) jdk_68_method_73_code 3 none ws ({ frames := 2, cells := 0, slots := 0, locals := 75 } : Room) #[(.ref b), (.int (Int32.ofNat k)), (.ref a)] h0 (fun v h L => v = none ∧ Fr n0 L ∧ Keep h0 h [d] ∧ Ary Z h d .byte (IL 16 (apF k n ft f))) := by
  refine Mt.body pn_pst ?_
  intro p e s m below meth c s₁ hx hby hml hown hnm hret hlk hZ X0 e0
  refine Go.cast (g' := (mkF m 0 #[rv b, iv (Int32.ofNat k), rv a] [])) (ef_pst m b (Int32.ofNat k) a) ?_
  have N0 := Fr.nil n0
  have K0 := Keep.refl h0 [d]
  refine Go.st (T' := s₁) (g' := (mkF m 2 #[rv b, iv (Int32.ofNat k), rv a] [(.ref a), (.ref b)])) ?_ (fun _ kk_ => XS.aloadN X0.here hx rfl (hb hby dpst_0) rfl rfl  (XS.aloadN X0.here hx rfl (hb hby dpst_1) rfl rfl  kk_))
  refine Go.callP (y := (⟨"java/lang/AbstractStringBuilder", "inflateIfNeededFor", "(Ljava/lang/String;)V"⟩ : MethodName)) X0 hx hZ hown (hw _ (List.mem_of_getElem? (i := 94) rfl)) (hw _ (List.mem_of_getElem? (i := 95) rfl)) (hw _ (List.mem_of_getElem? (i := 97) rfl)) (hw _ (List.mem_of_getElem? (i := 96) rfl)) (hw _ (List.mem_of_getElem? (i := 54) rfl)) (hw _ (List.mem_of_getElem? (i := 98) rfl)) (by decide) 0 (rm_inf l Z a0 hw [] b d a t k n f ft n0 cS h0 E_b Gv Gc Gn V_d g_b g_d ne_b_d E_a Fc_a Fv_a V_t O0 Sc hcS) e0 (by decide) (by decide) (by decide) (by decide) E_b (argsL := [(.ref a)]) (rest := []) rfl (by rw [hml]; rfl) (lenOf pd__28Ljava_2flang_2fString_3b_29V rfl) rfl rfl (by show 2 * 0 + _ ≤ _; exact Nat.le_of_eq rfl) (hb hby dpst_2) ?_
  rintro _ T1 L1 X1 ⟨rfl, e1, rfl⟩
  have N2 := Fr.app N0 (Fr.nil _)
  show Go p e below _ T1 (mkF m 5 #[rv b, iv (Int32.ofNat k), rv a] [])
  refine Go.st (T' := T1) (g' := (mkF m 7 #[rv b, iv (Int32.ofNat k), rv a] [(.ref b), (.ref a)])) ?_ (fun _ kk_ => XS.aloadN X1.here hx rfl (hb hby dpst_5) rfl rfl  (XS.aloadN X1.here hx rfl (hb hby dpst_6) rfl rfl  kk_))
  obtain ⟨T3, X3, e3, st3⟩ := getF X1 hx hZ hown (host := "") (Or.inl (hw _ (List.mem_of_getElem? (i := 58) rfl))) Via.refl e1 Gv (g := (mkF m 7 #[rv b, iv (Int32.ofNat k), rv a] [(.ref b), (.ref a)])) rfl rfl (hb hby dpst_7)
  refine Go.st (T' := T3) (g' := (mkF m 10 #[rv b, iv (Int32.ofNat k), rv a] [(.ref d), (.ref a)])) ?_ st3
  refine Go.st (T' := T3) (g' := (mkF m 12 #[rv b, iv (Int32.ofNat k), rv a] [(.ref b), (.int (Int32.ofNat k)), (.ref d), (.ref a)])) ?_ (fun _ kk_ => XS.iloadN X3.here hx rfl (hb hby dpst_10) rfl  (XS.aloadN X3.here hx rfl (hb hby dpst_11) rfl rfl  kk_))
  obtain ⟨T4, X4, e4, st4⟩ := getF X3 hx hZ hown (host := "") (Or.inl (hw _ (List.mem_of_getElem? (i := 60) rfl))) Via.refl e3 Gc (g := (mkF m 12 #[rv b, iv (Int32.ofNat k), rv a] [(.ref b), (.int (Int32.ofNat k)), (.ref d), (.ref a)])) rfl rfl (hb hby dpst_12)
  refine Go.st (T' := T4) (g' := (mkF m 15 #[rv b, iv (Int32.ofNat k), rv a] [(.int (0 : Int32)), (.int (Int32.ofNat k)), (.ref d), (.ref a)])) ?_ st4
  refine Go.callV (y := (⟨"java/lang/String", "getBytes", "([BIB)V"⟩ : MethodName)) (z := (⟨"java/lang/String", "getBytes", "([BIB)V"⟩ : MethodName)) X4 hx hZ hown (hw _ (List.mem_of_getElem? (i := 100) rfl)) (hw _ (List.mem_of_getElem? (i := 101) rfl)) (notFace_of_selects (args := #[]) (mvT hZ (hw _ (List.mem_of_getElem? (i := 103) rfl)))) (hw _ (List.mem_of_getElem? (i := 103) rfl)) (hw _ (List.mem_of_getElem? (i := 102) rfl)) (hw _ (List.mem_of_getElem? (i := 7) rfl)) (hw _ (List.mem_of_getElem? (i := 104) rfl)) (by decide) 0 (rm_gby l Z a0 hw [] a t d k n f ft n0 cS h0 Z0 hk E_a Fc_a Fv_a V_t V_d g_d O0 Sc hcS) e4 (by decide) (by decide) (by decide) (by decide) E_a (argsL := [(.ref d), (.int (Int32.ofNat k)), (.int (0 : Int32))]) (rest := []) rfl (by rw [hml]; rfl) (lenOf pd__28_5bBIB_29V rfl) rfl rfl (by show 2 * 0 + _ ≤ _; exact Nat.le_of_eq rfl) (hb hby dpst_15) ?_
  rintro _ T5 L5 X5 ⟨rfl, N5, K5, V5⟩
  have N6 := Fr.app N2 N5
  have O7 := O0.keep K5 (allS (P := fun z_ => n0 ≤ z_) g_d all0)
  have Z8 : n0 ≤ T5.heap.size := Nat.le_trans Z0 K5.1
  have K9 : Keep h0 T5.heap [d] := K0.trans K5 (allS (P := fun z_ => z_ ∈ [d] ∨ h0.size ≤ z_) (Or.inl (List.mem_of_getElem? (i := 0) rfl)) all0)
  show Go p e below _ T5 (mkF m 18 #[rv b, iv (Int32.ofNat k), rv a] [])
  refine Go.retV X5 hx hlk hret (hb hby dpst_18) (by decide) (by decide) ?_
  exact ⟨rfl, N6, K9, V5⟩
theorem dasa_0 : decode jdk_68_method_22_code 0 = .ok (.aload_n 1, 1) := by decide +kernel
theorem dasa_1 : decode jdk_68_method_22_code 1 = .ok (.ifnonnull 8, 3) := by decide +kernel
theorem dasa_9 : decode jdk_68_method_22_code 9 = .ok (.aload_n 1, 1) := by decide +kernel
theorem dasa_10 : decode jdk_68_method_22_code 10 = .ok (.invokevirtual 32, 3) := by decide +kernel
theorem dasa_13 : decode jdk_68_method_22_code 13 = .ok (.istore_n 2, 1) := by decide +kernel
theorem dasa_14 : decode jdk_68_method_22_code 14 = .ok (.aload_n 0, 1) := by decide +kernel
theorem dasa_15 : decode jdk_68_method_22_code 15 = .ok (.aload_n 0, 1) := by decide +kernel
theorem dasa_16 : decode jdk_68_method_22_code 16 = .ok (.getfield 79, 3) := by decide +kernel
theorem dasa_19 : decode jdk_68_method_22_code 19 = .ok (.iload_n 2, 1) := by decide +kernel
theorem dasa_20 : decode jdk_68_method_22_code 20 = .ok (.iadd, 1) := by decide +kernel
theorem dasa_21 : decode jdk_68_method_22_code 21 = .ok (.invokevirtual 100, 3) := by decide +kernel
theorem dasa_24 : decode jdk_68_method_22_code 24 = .ok (.aload_n 0, 1) := by decide +kernel
theorem dasa_25 : decode jdk_68_method_22_code 25 = .ok (.aload_n 0, 1) := by decide +kernel
theorem dasa_26 : decode jdk_68_method_22_code 26 = .ok (.getfield 79, 3) := by decide +kernel
theorem dasa_29 : decode jdk_68_method_22_code 29 = .ok (.aload_n 1, 1) := by decide +kernel
theorem dasa_30 : decode jdk_68_method_22_code 30 = .ok (.invokevirtual 208, 3) := by decide +kernel
theorem dasa_33 : decode jdk_68_method_22_code 33 = .ok (.aload_n 0, 1) := by decide +kernel
theorem dasa_34 : decode jdk_68_method_22_code 34 = .ok (.dup, 1) := by decide +kernel
theorem dasa_35 : decode jdk_68_method_22_code 35 = .ok (.getfield 79, 3) := by decide +kernel
theorem dasa_38 : decode jdk_68_method_22_code 38 = .ok (.iload_n 2, 1) := by decide +kernel
theorem dasa_39 : decode jdk_68_method_22_code 39 = .ok (.iadd, 1) := by decide +kernel
theorem dasa_40 : decode jdk_68_method_22_code 40 = .ok (.putfield 79, 3) := by decide +kernel
theorem dasa_43 : decode jdk_68_method_22_code 43 = .ok (.aload_n 0, 1) := by decide +kernel
theorem dasa_44 : decode jdk_68_method_22_code 44 = .ok (.areturn, 1) := by decide +kernel
theorem pn_asa : plainFor (⟨"java/lang/AbstractStringBuilder", "append", "(Ljava/lang/String;)Ljava/lang/AbstractStringBuilder;"⟩ : MethodName) = true := by first | exact plainFor_of_name (by first | (simp [plainName, overriddenIn]; done) | decide +kernel) | decide +kernel
theorem ef_asa (m : MethodId) (x0 : Addr) (x1 : Addr) : entryFrame m #[(.ref x0), (.ref x1)] 3 = mkF m 0 #[rv x0, rv x1, .unset] [] := by first | (simp [entryFrame, mkF, argsToLocals, Value.category]; done) | rfl
set_option maxRecDepth 65536 in
set_option maxHeartbeats 40000000 in
theorem rm_asa (l : Launch) (Z : State) (a0 : Array Value) (hw : ∀ d ∈ tables_1, d.before a0 Z = true) (ws : List Jvm.Cond) (b d a t : Addr) (k n : Nat) (f ft : Nat → Int32) (n0 : Nat) (cS : Int32) (h0 : Heap) (Z0 : n0 ≤ h0.size) (hk : k + n ≤ 16) (E_b : Exa Z h0 b "java/lang/StringBuilder") (Gv : Fld Z h0 b "java/lang/AbstractStringBuilder" "value" "[B" (.ref d)) (Gc : Fld Z h0 b "java/lang/AbstractStringBuilder" "coder" "B" (.int (0 : Int32))) (Gn : Fld Z h0 b "java/lang/AbstractStringBuilder" "count" "I" (.int (Int32.ofNat k))) (V_d : Ary Z h0 d .byte (IL 16 f)) (g_b : n0 ≤ b) (g_d : n0 ≤ d) (ne_b_d : b ≠ d) (E_a : Exa Z h0 a "java/lang/String") (Fc_a : Fld Z h0 a "java/lang/String" "coder" "B" (.int (0 : Int32))) (Fv_a : Fld Z h0 a "java/lang/String" "value" "[B" (.ref t)) (V_t : Ary Z h0 t .byte (IL n ft)) (O0 : Old Z n0 h0) (Sc : Sta Z Z.heap "java/lang/String" "COMPACT_STRINGS" "Z" (.int cS)) (hcS : ¬ (cS = (0 : Int32))) :
    Mt l Z (⟨"java/lang/AbstractStringBuilder", "append", "(Ljava/lang/String;)Ljava/lang/AbstractStringBuilder;"⟩ : MethodName) jdk_68_method_22_code 3 (some (.object "java/lang/AbstractStringBuilder")) ws ({ frames := 3, cells := 0, slots := 0, locals := 89 } : Room) #[(.ref b), (.ref a)] h0 (fun v h L => v = some (.ref b) ∧ Fr n0 L ∧ Keep h0 h [b, d] ∧ Fld Z h b "java/lang/AbstractStringBuilder" "value" "[B" (.ref d) ∧ Fld Z h b "java/lang/AbstractStringBuilder" "coder" "B" (.int (0 : Int32)) ∧ Fld Z h b "java/lang/AbstractStringBuilder" "count" "I" (.int (Int32.ofNat (k + n))) ∧ Ary Z h d .byte (IL 16 (apF k n ft f))) := by
  refine Mt.body pn_asa ?_
  intro p e s m below meth c s₁ hx hby hml hown hnm hret hlk hZ X0 e0
  refine Go.cast (g' := (mkF m 0 #[rv b, rv a, .unset] [])) (ef_asa m b a) ?_
  have N0 := Fr.nil n0
  have K0 := Keep.refl h0 [b, d]
  refine Go.st (T' := s₁) (g' := (mkF m 10 #[rv b, rv a, .unset] [(.ref a)])) ?_ (fun _ kk_ => XS.aloadN X0.here hx rfl (hb hby dasa_0) rfl rfl  (XS.ifnonnullYes X0.here hx rfl (pc0 := 1) (pc' := 9) rfl (hb hby dasa_1) rfl (by decide) (by decide) (XS.aloadN X0.here hx rfl (hb hby dasa_9) rfl rfl  kk_)))
  refine Go.callV (y := (⟨"java/lang/String", "length", "()I"⟩ : MethodName)) (z := (⟨"java/lang/String", "length", "()I"⟩ : MethodName)) X0 hx hZ hown (hw _ (List.mem_of_getElem? (i := 72) rfl)) (hw _ (List.mem_of_getElem? (i := 73) rfl)) (notFace_of_selects (args := #[]) (mvT hZ (hw _ (List.mem_of_getElem? (i := 75) rfl)))) (hw _ (List.mem_of_getElem? (i := 75) rfl)) (hw _ (List.mem_of_getElem? (i := 74) rfl)) (hw _ (List.mem_of_getElem? (i := 7) rfl)) (hw _ (List.mem_of_getElem? (i := 76) rfl)) (by decide) 0 (rm_len l Z a0 hw [] a t n ft n0 cS h0 E_a Fc_a Fv_a V_t O0 Sc hcS) e0 (by decide) (by decide) (by decide) (by decide) E_a (argsL := []) (rest := []) rfl (by rw [hml]; rfl) (lenOf pd__28_29I rfl) rfl rfl (by show 2 * 0 + _ ≤ _; exact Nat.le_of_eq rfl) (hb hby dasa_10) ?_
  rintro _ T1 L1 X1 ⟨rfl, e1, rfl⟩
  have N2 := Fr.app N0 (Fr.nil _)
  show Go p e below _ T1 (mkF m 13 #[rv b, rv a, .unset] [(.int (Int32.ofNat n))])
  refine Go.st (T' := T1) (g' := (mkF m 16 #[rv b, rv a, iv (Int32.ofNat n)] [(.ref b), (.ref b)])) ?_ (fun _ kk_ => XS.istoreN X1.here hx rfl (hb hby dasa_13) rfl (l' := #[rv b, rv a, iv (Int32.ofNat n)]) rfl (XS.aloadN X1.here hx rfl (hb hby dasa_14) rfl rfl  (XS.aloadN X1.here hx rfl (hb hby dasa_15) rfl rfl  kk_)))
  obtain ⟨T3, X3, e3, st3⟩ := getF X1 hx hZ hown (host := "") (Or.inl (hw _ (List.mem_of_getElem? (i := 82) rfl))) Via.refl e1 Gn (g := (mkF m 16 #[rv b, rv a, iv (Int32.ofNat n)] [(.ref b), (.ref b)])) rfl rfl (hb hby dasa_16)
  refine Go.st (T' := T3) (g' := (mkF m 19 #[rv b, rv a, iv (Int32.ofNat n)] [(.int (Int32.ofNat k)), (.ref b)])) ?_ st3
  refine Go.st (T' := T3) (g' := (mkF m 21 #[rv b, rv a, iv (Int32.ofNat n)] [(.int ((Int32.ofNat k) + (Int32.ofNat n))), (.ref b)])) ?_ (fun _ kk_ => XS.iloadN X3.here hx rfl (hb hby dasa_19) rfl  (XS.iadd X3.here hx rfl (hb hby dasa_20) rfl kk_))
  rw [own_add]
  show Go p e below _ T3 (mkF m 21 #[rv b, rv a, iv (Int32.ofNat n)] [(.int (Int32.ofNat (k + n))), (.ref b)])
  refine Go.callP (y := (⟨"java/lang/AbstractStringBuilder", "ensureCapacityInternal", "(I)V"⟩ : MethodName)) X3 hx hZ hown (hw _ (List.mem_of_getElem? (i := 84) rfl)) (hw _ (List.mem_of_getElem? (i := 85) rfl)) (hw _ (List.mem_of_getElem? (i := 87) rfl)) (hw _ (List.mem_of_getElem? (i := 86) rfl)) (hw _ (List.mem_of_getElem? (i := 54) rfl)) (hw _ (List.mem_of_getElem? (i := 88) rfl)) (by decide) 0 (rm_ens l Z a0 hw [] b d k (k + n) f n0 h0 hk E_b Gv Gc Gn V_d g_b g_d ne_b_d) e3 (by decide) (by decide) (by decide) (by decide) E_b (argsL := [(.int (Int32.ofNat (k + n)))]) (rest := []) rfl (by rw [hml]; rfl) (lenOf pd__28I_29V rfl) rfl rfl (by show 2 * 0 + _ ≤ _; exact Nat.le_of_eq rfl) (hb hby dasa_21) ?_
  rintro _ T4 L4 X4 ⟨rfl, e4, rfl⟩
  have N5 := Fr.app N2 (Fr.nil _)
  show Go p e below _ T4 (mkF m 24 #[rv b, rv a, iv (Int32.ofNat n)] [])
  refine Go.st (T' := T4) (g' := (mkF m 26 #[rv b, rv a, iv (Int32.ofNat n)] [(.ref b), (.ref b)])) ?_ (fun _ kk_ => XS.aloadN X4.here hx rfl (hb hby dasa_24) rfl rfl  (XS.aloadN X4.here hx rfl (hb hby dasa_25) rfl rfl  kk_))
  obtain ⟨T6, X6, e6, st6⟩ := getF X4 hx hZ hown (host := "") (Or.inl (hw _ (List.mem_of_getElem? (i := 82) rfl))) Via.refl e4 Gn (g := (mkF m 26 #[rv b, rv a, iv (Int32.ofNat n)] [(.ref b), (.ref b)])) rfl rfl (hb hby dasa_26)
  refine Go.st (T' := T6) (g' := (mkF m 29 #[rv b, rv a, iv (Int32.ofNat n)] [(.int (Int32.ofNat k)), (.ref b)])) ?_ st6
  refine Go.st (T' := T6) (g' := (mkF m 30 #[rv b, rv a, iv (Int32.ofNat n)] [(.ref a), (.int (Int32.ofNat k)), (.ref b)])) ?_ (fun _ kk_ => XS.aloadN X6.here hx rfl (hb hby dasa_29) rfl rfl  kk_)
  refine Go.callP (y := (⟨"java/lang/AbstractStringBuilder", "putStringAt", "(ILjava/lang/String;)V"⟩ : MethodName)) X6 hx hZ hown (hw _ (List.mem_of_getElem? (i := 89) rfl)) (hw _ (List.mem_of_getElem? (i := 90) rfl)) (hw _ (List.mem_of_getElem? (i := 92) rfl)) (hw _ (List.mem_of_getElem? (i := 91) rfl)) (hw _ (List.mem_of_getElem? (i := 54) rfl)) (hw _ (List.mem_of_getElem? (i := 93) rfl)) (by decide) 0 (rm_pst l Z a0 hw [] b d a t k n f ft n0 cS h0 Z0 hk E_b Gv Gc Gn V_d g_b g_d ne_b_d E_a Fc_a Fv_a V_t O0 Sc hcS) e6 (by decide) (by decide) (by decide) (by decide) E_b (argsL := [(.int (Int32.ofNat k)), (.ref a)]) (rest := []) rfl (by rw [hml]; rfl) (lenOf pd__28ILjava_2flang_2fString_3b_29V rfl) rfl rfl (by show 2 * 0 + _ ≤ _; exact Nat.le_of_eq rfl) (hb hby dasa_30) ?_
  rintro _ T7 L7 X7 ⟨rfl, N7, K7, V7⟩
  have N8 := Fr.app N5 N7
  have O9 := O0.keep K7 (allS (P := fun z_ => n0 ≤ z_) g_d all0)
  have Z10 : n0 ≤ T7.heap.size := Nat.le_trans Z0 K7.1
  have K11 : Keep h0 T7.heap [b, d] := K0.trans K7 (allS (P := fun z_ => z_ ∈ [b, d] ∨ h0.size ≤ z_) (Or.inl (List.mem_of_getElem? (i := 1) rfl)) all0)
  show Go p e below _ T7 (mkF m 33 #[rv b, rv a, iv (Int32.ofNat n)] [])
  refine Go.st (T' := T7) (g' := (mkF m 35 #[rv b, rv a, iv (Int32.ofNat n)] [(.ref b), (.ref b)])) ?_ (fun _ kk_ => XS.aloadN X7.here hx rfl (hb hby dasa_33) rfl rfl  (XS.dup X7.here hx rfl (hb hby dasa_34) rfl rfl kk_))
  have f12 := (Gn.keep K7 (ninS ne_b_d nin0))
  obtain ⟨T13, X13, e13, st13⟩ := getF X7 hx hZ hown (host := "") (Or.inl (hw _ (List.mem_of_getElem? (i := 82) rfl))) Via.refl rfl f12 (g := (mkF m 35 #[rv b, rv a, iv (Int32.ofNat n)] [(.ref b), (.ref b)])) rfl rfl (hb hby dasa_35)
  refine Go.st (T' := T13) (g' := (mkF m 38 #[rv b, rv a, iv (Int32.ofNat n)] [(.int (Int32.ofNat k)), (.ref b)])) ?_ st13
  refine Go.st (T' := T13) (g' := (mkF m 40 #[rv b, rv a, iv (Int32.ofNat n)] [(.int ((Int32.ofNat k) + (Int32.ofNat n))), (.ref b)])) ?_ (fun _ kk_ => XS.iloadN X13.here hx rfl (hb hby dasa_38) rfl  (XS.iadd X13.here hx rfl (hb hby dasa_39) rfl kk_))
  rw [own_add]
  show Go p e below _ T13 (mkF m 40 #[rv b, rv a, iv (Int32.ofNat n)] [(.int (Int32.ofNat (k + n))), (.ref b)])
  have f14 := (E_b.keep K7)
  obtain ⟨T15, h15, X15, e15, W15, st15⟩ := putF X13 hx hZ hown (host := "") (Or.inl (hw _ (List.mem_of_getElem? (i := 82) rfl))) Via.refl e13 f12 f14 (Or.inl (hw _ (List.mem_of_getElem? (i := 83) rfl))) (hw _ (List.mem_of_getElem? (i := 45) rfl)) (ty := .int) (by decide) rfl rfl (g := (mkF m 40 #[rv b, rv a, iv (Int32.ofNat n)] [(.int (Int32.ofNat (k + n))), (.ref b)])) rfl rfl (hb hby dasa_40)
  have N16 := Fr.snoc X15 N8 g_b
  have O17 := O9.wr W15 g_b
  have f18 := f12.same W15
  have K19 : Keep h0 h15 [b, d] := K11.wr W15 (Or.inl (List.mem_of_getElem? (i := 0) rfl))
  have Z20 : n0 ≤ h15.size := by rw [W15.size]; exact Z10
  refine Go.st (T' := T15) (g' := (mkF m 43 #[rv b, rv a, iv (Int32.ofNat n)] [])) ?_ st15
  refine Go.st (T' := T15) (g' := (mkF m 44 #[rv b, rv a, iv (Int32.ofNat n)] [(.ref b)])) ?_ (fun _ kk_ => XS.aloadN X15.here hx rfl (hb hby dasa_43) rfl rfl  kk_)
  have f21 := ((Gv.keep K7 (ninS ne_b_d nin0)).other W15 (Or.inr (slot_ne (C := "java/lang/StringBuilder") (Or.inl (hw _ (List.mem_of_getElem? (i := 59) rfl))) (Or.inl (hw _ (List.mem_of_getElem? (i := 83) rfl))) (by decide) (t := (.array .byte)) (t' := .int) (by decide) (by decide))))
  have f22 := ((Gc.keep K7 (ninS ne_b_d nin0)).other W15 (Or.inr (slot_ne (C := "java/lang/StringBuilder") (Or.inl (hw _ (List.mem_of_getElem? (i := 61) rfl))) (Or.inl (hw _ (List.mem_of_getElem? (i := 83) rfl))) (by decide) (t := .byte) (t' := .int) (by decide) (by decide))))
  have f23 := (V7.other W15 (Ne.symm ne_b_d))
  refine Go.retA X15 hx hlk hret rfl rfl (hb hby dasa_44) (by decide) (by decide) ?_
  try rw [e15]
  exact ⟨rfl, N16, K19, f21, f22, f18, f23⟩
theorem dsba_0 : decode jdk_67_method_7_code 0 = .ok (.aload_n 0, 1) := by decide +kernel
theorem dsba_1 : decode jdk_67_method_7_code 1 = .ok (.aload_n 1, 1) := by decide +kernel
theorem dsba_2 : decode jdk_67_method_7_code 2 = .ok (.invokespecial 29, 3) := by decide +kernel
theorem dsba_5 : decode jdk_67_method_7_code 5 = .ok (.pop, 1) := by decide +kernel
theorem dsba_6 : decode jdk_67_method_7_code 6 = .ok (.aload_n 0, 1) := by decide +kernel
theorem dsba_7 : decode jdk_67_method_7_code 7 = .ok (.areturn, 1) := by decide +kernel
theorem pn_sba : plainFor (⟨"java/lang/StringBuilder", "append", "(Ljava/lang/String;)Ljava/lang/StringBuilder;"⟩ : MethodName) = true := by first | exact plainFor_of_name (by first | (simp [plainName, overriddenIn]; done) | decide +kernel) | decide +kernel
theorem ef_sba (m : MethodId) (x0 : Addr) (x1 : Addr) : entryFrame m #[(.ref x0), (.ref x1)] 2 = mkF m 0 #[rv x0, rv x1] [] := by first | (simp [entryFrame, mkF, argsToLocals, Value.category]; done) | rfl
set_option maxRecDepth 65536 in
set_option maxHeartbeats 40000000 in
theorem rm_sba (l : Launch) (Z : State) (a0 : Array Value) (hw : ∀ d ∈ tables_1, d.before a0 Z = true) (ws : List Jvm.Cond) (b d a t : Addr) (k n : Nat) (f ft : Nat → Int32) (n0 : Nat) (cS : Int32) (h0 : Heap) (Z0 : n0 ≤ h0.size) (hk : k + n ≤ 16) (E_b : Exa Z h0 b "java/lang/StringBuilder") (Gv : Fld Z h0 b "java/lang/AbstractStringBuilder" "value" "[B" (.ref d)) (Gc : Fld Z h0 b "java/lang/AbstractStringBuilder" "coder" "B" (.int (0 : Int32))) (Gn : Fld Z h0 b "java/lang/AbstractStringBuilder" "count" "I" (.int (Int32.ofNat k))) (V_d : Ary Z h0 d .byte (IL 16 f)) (g_b : n0 ≤ b) (g_d : n0 ≤ d) (ne_b_d : b ≠ d) (E_a : Exa Z h0 a "java/lang/String") (Fc_a : Fld Z h0 a "java/lang/String" "coder" "B" (.int (0 : Int32))) (Fv_a : Fld Z h0 a "java/lang/String" "value" "[B" (.ref t)) (V_t : Ary Z h0 t .byte (IL n ft)) (O0 : Old Z n0 h0) (Sc : Sta Z Z.heap "java/lang/String" "COMPACT_STRINGS" "Z" (.int cS)) (hcS : ¬ (cS = (0 : Int32))) :
    Mt l Z (⟨"java/lang/StringBuilder", "append", "(Ljava/lang/String;)Ljava/lang/StringBuilder;"⟩ : MethodName) jdk_67_method_7_code 2 (some (.object "java/lang/StringBuilder")) ws ({ frames := 4, cells := 0, slots := 0, locals := 103 } : Room) #[(.ref b), (.ref a)] h0 (fun v h L => v = some (.ref b) ∧ Fr n0 L ∧ Keep h0 h [b, d] ∧ Fld Z h b "java/lang/AbstractStringBuilder" "value" "[B" (.ref d) ∧ Fld Z h b "java/lang/AbstractStringBuilder" "coder" "B" (.int (0 : Int32)) ∧ Fld Z h b "java/lang/AbstractStringBuilder" "count" "I" (.int (Int32.ofNat (k + n))) ∧ Ary Z h d .byte (IL 16 (apF k n ft f))) := by
  refine Mt.body pn_sba ?_
  intro p e s m below meth c s₁ hx hby hml hown hnm hret hlk hZ X0 e0
  refine Go.cast (g' := (mkF m 0 #[rv b, rv a] [])) (ef_sba m b a) ?_
  have N0 := Fr.nil n0
  have K0 := Keep.refl h0 [b, d]
  refine Go.st (T' := s₁) (g' := (mkF m 2 #[rv b, rv a] [(.ref a), (.ref b)])) ?_ (fun _ kk_ => XS.aloadN X0.here hx rfl (hb hby dsba_0) rfl rfl  (XS.aloadN X0.here hx rfl (hb hby dsba_1) rfl rfl  kk_))
  refine Go.callU (y := (⟨"java/lang/AbstractStringBuilder", "append", "(Ljava/lang/String;)Ljava/lang/AbstractStringBuilder;"⟩ : MethodName)) X0 hx hZ hown (hw _ (List.mem_of_getElem? (i := 67) rfl)) (own_same (hw _ (List.mem_of_getElem? (i := 68) rfl)) (by decide) (own_notFace (notFace_of_selects (hw _ (List.mem_of_getElem? (i := 87) rfl))) (Cond.code_named (hw _ (List.mem_of_getElem? (i := 88) rfl))) rfl)) (hw _ (List.mem_of_getElem? (i := 68) rfl)) (hw _ (List.mem_of_getElem? (i := 69) rfl)) (hw _ (List.mem_of_getElem? (i := 54) rfl)) (hw _ (List.mem_of_getElem? (i := 71) rfl)) (by decide) 0 (rm_asa l Z a0 hw [] b d a t k n f ft n0 cS h0 Z0 hk E_b Gv Gc Gn V_d g_b g_d ne_b_d E_a Fc_a Fv_a V_t O0 Sc hcS) e0 (by decide) (by decide) (by decide) (by decide) E_b (argsL := [(.ref a)]) (rest := []) rfl (by rw [hml]; rfl) (lenOf pd__28Ljava_2flang_2fString_3b_29Ljava_2flang_2fAbstractStringBuilder_3b rfl) rfl rfl (by show 2 * 0 + _ ≤ _; exact Nat.le_of_eq rfl) (hb hby dsba_2) ?_
  rintro _ T1 L1 X1 ⟨rfl, N1, K1, hq1⟩
  have N2 := Fr.app N0 N1
  have Z3 : n0 ≤ T1.heap.size := Nat.le_trans Z0 K1.1
  have K4 : Keep h0 T1.heap [b, d] := K0.trans K1 (allS (P := fun z_ => z_ ∈ [b, d] ∨ h0.size ≤ z_) (Or.inl (List.mem_of_getElem? (i := 0) rfl)) (allS (P := fun z_ => z_ ∈ [b, d] ∨ h0.size ≤ z_) (Or.inl (List.mem_of_getElem? (i := 1) rfl)) all0))
  show Go p e below _ T1 (mkF m 5 #[rv b, rv a] [(.ref b)])
  refine Go.st (T' := T1) (g' := (mkF m 7 #[rv b, rv a] [(.ref b)])) ?_ (fun _ kk_ => XS.pop X1.here hx rfl (hb hby dsba_5) rfl rfl (XS.aloadN X1.here hx rfl (hb hby dsba_6) rfl rfl  kk_))
  refine Go.retA X1 hx hlk hret rfl rfl (hb hby dsba_7) (by decide) (by decide) ?_
  exact ⟨rfl, N2, K4, hq1⟩
theorem dmnI_0 : decode jdk_29_method_69_code 0 = .ok (.iload_n 0, 1) := by decide +kernel
theorem dmnI_1 : decode jdk_29_method_69_code 1 = .ok (.iload_n 1, 1) := by decide +kernel
theorem dmnI_2 : decode jdk_29_method_69_code 2 = .ok (.if_icmp .gt 7, 3) := by decide +kernel
theorem dmnI_5 : decode jdk_29_method_69_code 5 = .ok (.iload_n 0, 1) := by decide +kernel
theorem dmnI_6 : decode jdk_29_method_69_code 6 = .ok (.goto 4, 3) := by decide +kernel
theorem dmnI_9 : decode jdk_29_method_69_code 9 = .ok (.iload_n 1, 1) := by decide +kernel
theorem dmnI_10 : decode jdk_29_method_69_code 10 = .ok (.ireturn, 1) := by decide +kernel
theorem pn_mnI : plainFor (⟨"java/lang/Math", "min", "(II)I"⟩ : MethodName) = true := by first | exact plainFor_of_name (by first | (simp [plainName, overriddenIn]; done) | decide +kernel) | decide +kernel
theorem ef_mnI (m : MethodId) (x0 : Int32) (x1 : Int32) : entryFrame m #[(.int x0), (.int x1)] 2 = mkF m 0 #[iv x0, iv x1] [] := by first | (simp [entryFrame, mkF, argsToLocals, Value.category]; done) | rfl
set_option maxRecDepth 65536 in
set_option maxHeartbeats 40000000 in
theorem rm_mnI (l : Launch) (Z : State) (a0 : Array Value) (hw : ∀ d ∈ tables_1, d.before a0 Z = true) (ws : List Jvm.Cond) (x y : Int32) (h0 : Heap)  :
    Mt l Z (⟨"java/lang/Math", "min", "(II)I"⟩ : MethodName) jdk_29_method_69_code 2 (some .int) ws ({ frames := 0, cells := 0, slots := 0, locals := 0 } : Room) #[(.int x), (.int y)] h0 (fun v h L => v = some (.int (if y < x then y else x)) ∧ h = h0 ∧ L = []) := by
  refine Mt.body pn_mnI ?_
  intro p e s m below meth c s₁ hx hby hml hown hnm hret hlk hZ X0 e0
  refine Go.cast (g' := (mkF m 0 #[iv x, iv y] [])) (ef_mnI m x y) ?_
  have N0 := Fr.nil 0
  refine Go.st (T' := s₁) (g' := (mkF m 2 #[iv x, iv y] [(.int y), (.int x)])) ?_ (fun _ kk_ => XS.iloadN X0.here hx rfl (hb hby dmnI_0) rfl  (XS.iloadN X0.here hx rfl (hb hby dmnI_1) rfl  kk_))
  by_cases hc : y < x
  ·
    refine Go.st (T' := s₁) (g' := (mkF m 10 #[iv x, iv y] [(.int y)])) ?_ (fun _ kk_ => XS.icmpYes X0.here hx rfl (pc0 := 2) (pc' := 9) rfl (hb hby dmnI_2) rfl (tlt (hc : y < x)).2.2.1 (by decide) (by decide) (XS.iloadN X0.here hx rfl (hb hby dmnI_9) rfl  kk_))
    refine Go.retI X0 hx hlk hret (hb hby dmnI_10) (by decide) (by decide) ?_
    try rw [e0]
    exact ⟨by rw [if_pos hc], rfl, rfl⟩
  ·
    refine Go.st (T' := s₁) (g' := (mkF m 10 #[iv x, iv y] [(.int x)])) ?_ (fun _ kk_ => XS.icmpNo X0.here hx rfl (hb hby dmnI_2) rfl (flt (hc : ¬ (y < x))).2.2.1 (XS.iloadN X0.here hx rfl (hb hby dmnI_5) rfl  (XS.goto X0.here hx rfl (pc0 := 6) (pc' := 10) rfl (hb hby dmnI_6) (by decide) (by decide) kk_)))
    refine Go.retI X0 hx hlk hret (hb hby dmnI_10) (by decide) (by decide) ?_
    try rw [e0]
    exact ⟨by rw [if_neg hc], rfl, rfl⟩
theorem dckl_0 : decode jdk_65_method_131_code 0 = .ok (.iload_n 1, 1) := by decide +kernel
theorem dckl_1 : decode jdk_65_method_131_code 1 = .ok (.iload_n 0, 1) := by decide +kernel
theorem dckl_2 : decode jdk_65_method_131_code 2 = .ok (.if_icmp .ge 35, 3) := by decide +kernel
theorem dckl_37 : decode jdk_65_method_131_code 37 = .ok (.return_, 1) := by decide +kernel
theorem pn_ckl : plainFor (⟨"java/util/Arrays", "checkLength", "(II)V"⟩ : MethodName) = true := by first | exact plainFor_of_name (by first | (simp [plainName, overriddenIn]; done) | decide +kernel) | decide +kernel
theorem ef_ckl (m : MethodId) (x0 : Int32) (x1 : Int32) : entryFrame m #[(.int x0), (.int x1)] 2 = mkF m 0 #[iv x0, iv x1] [] := by first | (simp [entryFrame, mkF, argsToLocals, Value.category]; done) | rfl
set_option maxRecDepth 65536 in
set_option maxHeartbeats 40000000 in
theorem rm_ckl (l : Launch) (Z : State) (a0 : Array Value) (hw : ∀ d ∈ tables_1, d.before a0 Z = true) (ws : List Jvm.Cond) (n : Nat) (h0 : Heap) (hn : n ≤ 16) :
    Mt l Z (⟨"java/util/Arrays", "checkLength", "(II)V"⟩ : MethodName) jdk_65_method_131_code 2 none ws ({ frames := 0, cells := 0, slots := 0, locals := 0 } : Room) #[(.int (0 : Int32)), (.int (Int32.ofNat n))] h0 (fun v h L => v = none ∧ h = h0 ∧ L = []) := by
  refine Mt.body pn_ckl ?_
  intro p e s m below meth c s₁ hx hby hml hown hnm hret hlk hZ X0 e0
  refine Go.cast (g' := (mkF m 0 #[iv (0 : Int32), iv (Int32.ofNat n)] [])) (ef_ckl m (0 : Int32) (Int32.ofNat n)) ?_
  have N0 := Fr.nil 0
  refine Go.st (T' := s₁) (g' := (mkF m 37 #[iv (0 : Int32), iv (Int32.ofNat n)] [])) ?_ (fun _ kk_ => XS.iloadN X0.here hx rfl (hb hby dckl_0) rfl  (XS.iloadN X0.here hx rfl (hb hby dckl_1) rfl  (XS.icmpYes X0.here hx rfl (pc0 := 2) (pc' := 37) rfl (hb hby dckl_2) rfl (flt ((own_nat (n := n) (by omega)).2.1 : ¬ ((Int32.ofNat n) < (0 : Int32)))).2.1 (by decide) (by decide) kk_)))
  refine Go.retV X0 hx hlk hret (hb hby dckl_37) (by decide) (by decide) ?_
  try rw [e0]
  exact ⟨rfl, rfl, rfl⟩
theorem dcrb_0 : decode jdk_65_method_133_code 0 = .ok (.iload_n 1, 1) := by decide +kernel
theorem dcrb_1 : decode jdk_65_method_133_code 1 = .ok (.iload_n 2, 1) := by decide +kernel
theorem dcrb_2 : decode jdk_65_method_133_code 2 = .ok (.invokestatic 343, 3) := by decide +kernel
theorem dcrb_5 : decode jdk_65_method_133_code 5 = .ok (.iload_n 2, 1) := by decide +kernel
theorem dcrb_6 : decode jdk_65_method_133_code 6 = .ok (.iload_n 1, 1) := by decide +kernel
theorem dcrb_7 : decode jdk_65_method_133_code 7 = .ok (.isub, 1) := by decide +kernel
theorem dcrb_8 : decode jdk_65_method_133_code 8 = .ok (.istore_n 3, 1) := by decide +kernel
theorem dcrb_9 : decode jdk_65_method_133_code 9 = .ok (.iload_n 3, 1) := by decide +kernel
theorem dcrb_10 : decode jdk_65_method_133_code 10 = .ok (.newarray .byte, 2) := by decide +kernel
theorem dcrb_12 : decode jdk_65_method_133_code 12 = .ok (.astore 4, 2) := by decide +kernel
theorem dcrb_14 : decode jdk_65_method_133_code 14 = .ok (.aload_n 0, 1) := by decide +kernel
theorem dcrb_15 : decode jdk_65_method_133_code 15 = .ok (.iload_n 1, 1) := by decide +kernel
theorem dcrb_16 : decode jdk_65_method_133_code 16 = .ok (.aload 4, 2) := by decide +kernel
theorem dcrb_18 : decode jdk_65_method_133_code 18 = .ok (.iconst 0, 1) := by decide +kernel
theorem dcrb_19 : decode jdk_65_method_133_code 19 = .ok (.aload_n 0, 1) := by decide +kernel
theorem dcrb_20 : decode jdk_65_method_133_code 20 = .ok (.arraylength, 1) := by decide +kernel
theorem dcrb_21 : decode jdk_65_method_133_code 21 = .ok (.iload_n 1, 1) := by decide +kernel
theorem dcrb_22 : decode jdk_65_method_133_code 22 = .ok (.isub, 1) := by decide +kernel
theorem dcrb_23 : decode jdk_65_method_133_code 23 = .ok (.iload_n 3, 1) := by decide +kernel
theorem dcrb_24 : decode jdk_65_method_133_code 24 = .ok (.invokestatic 304, 3) := by decide +kernel
theorem dcrb_27 : decode jdk_65_method_133_code 27 = .ok (.invokestatic 150, 3) := by decide +kernel
theorem dcrb_30 : decode jdk_65_method_133_code 30 = .ok (.aload 4, 2) := by decide +kernel
theorem dcrb_32 : decode jdk_65_method_133_code 32 = .ok (.areturn, 1) := by decide +kernel
theorem pn_crb : plainFor (⟨"java/util/Arrays", "copyOfRangeByte", "([BII)[B"⟩ : MethodName) = true := by first | exact plainFor_of_name (by first | (simp [plainName, overriddenIn]; done) | decide +kernel) | decide +kernel
theorem ef_crb (m : MethodId) (x0 : Addr) (x1 : Int32) (x2 : Int32) : entryFrame m #[(.ref x0), (.int x1), (.int x2)] 5 = mkF m 0 #[rv x0, iv x1, iv x2, .unset, .unset] [] := by first | (simp [entryFrame, mkF, argsToLocals, Value.category]; done) | rfl
set_option maxRecDepth 65536 in
set_option maxHeartbeats 40000000 in
theorem rm_crb (l : Launch) (Z : State) (a0 : Array Value) (hw : ∀ d ∈ tables_1, d.before a0 Z = true) (ws : List Jvm.Cond) (d : Addr) (n : Nat) (f : Nat → Int32) (n0 : Nat) (h0 : Heap) (Z0 : n0 ≤ h0.size) (hn : n < 16) (V_d : Ary Z h0 d .byte (IL 16 f)) :
    Mt l Z (⟨"java/util/Arrays", "copyOfRangeByte", "([BII)[B"⟩ : MethodName) jdk_65_method_133_code 5 (some (.array .byte)) ws ({ frames := 1, cells := 1, slots := 16, locals := 60 } : Room) #[(.ref d), (.int (0 : Int32)), (.int (Int32.ofNat n))] h0 (fun v h L => ∃ t, v = some (.ref t) ∧ Fr n0 L ∧ Keep h0 h [] ∧ h0.size ≤ t ∧ Ary Z h t .byte (IL n f)) := by
  refine Mt.body pn_crb ?_
  intro p e s m below meth c s₁ hx hby hml hown hnm hret hlk hZ X0 e0
  refine Go.cast (g' := (mkF m 0 #[rv d, iv (0 : Int32), iv (Int32.ofNat n), .unset, .unset] [])) (ef_crb m d (0 : Int32) (Int32.ofNat n)) ?_
  have N0 := Fr.nil n0
  have K0 := Keep.refl h0 ([] : List Addr)
  refine Go.st (T' := s₁) (g' := (mkF m 2 #[rv d, iv (0 : Int32), iv (Int32.ofNat n), .unset, .unset] [(.int (Int32.ofNat n)), (.int (0 : Int32))])) ?_ (fun _ kk_ => XS.iloadN X0.here hx rfl (hb hby dcrb_0) rfl  (XS.iloadN X0.here hx rfl (hb hby dcrb_1) rfl  kk_))
  refine Go.callS (y := (⟨"java/util/Arrays", "checkLength", "(II)V"⟩ : MethodName)) X0 hx hZ hown (hw _ (List.mem_of_getElem? (i := 147) rfl)) (hw _ (List.mem_of_getElem? (i := 148) rfl)) (hw _ (List.mem_of_getElem? (i := 142) rfl)) (hw _ (List.mem_of_getElem? (i := 149) rfl)) (by decide) 0 (rm_ckl l Z a0 hw [] n h0 (by omega)) e0 (by decide) (by decide) (by decide) (by decide) (argsL := [(.int (0 : Int32)), (.int (Int32.ofNat n))]) (rest := []) rfl (by rw [hml]; rfl) (lenOf pd__28II_29V rfl) rfl rfl (by show 2 * 0 + _ ≤ _; exact Nat.le_of_eq rfl) (hb hby dcrb_2) ?_
  rintro _ T1 L1 X1 ⟨rfl, e1, rfl⟩
  have N2 := Fr.app N0 (Fr.nil _)
  show Go p e below _ T1 (mkF m 5 #[rv d, iv (0 : Int32), iv (Int32.ofNat n), .unset, .unset] [])
  refine Go.st (T' := T1) (g' := (mkF m 8 #[rv d, iv (0 : Int32), iv (Int32.ofNat n), .unset, .unset] [(.int ((Int32.ofNat n) - (0 : Int32)))])) ?_ (fun _ kk_ => XS.iloadN X1.here hx rfl (hb hby dcrb_5) rfl  (XS.iloadN X1.here hx rfl (hb hby dcrb_6) rfl  (XS.isub X1.here hx rfl (hb hby dcrb_7) rfl kk_)))
  rw [show Int32.ofNat n - (0 : Int32) = Int32.ofNat n from Int32.sub_zero _]
  show Go p e below _ T1 (mkF m 8 #[rv d, iv (0 : Int32), iv (Int32.ofNat n), .unset, .unset] [(.int (Int32.ofNat n))])
  refine Go.st (T' := T1) (g' := (mkF m 10 #[rv d, iv (0 : Int32), iv (Int32.ofNat n), iv (Int32.ofNat n), .unset] [(.int (Int32.ofNat n))])) ?_ (fun _ kk_ => XS.istoreN X1.here hx rfl (hb hby dcrb_8) rfl (l' := #[rv d, iv (0 : Int32), iv (Int32.ofNat n), iv (Int32.ofNat n), .unset]) rfl (XS.iloadN X1.here hx rfl (hb hby dcrb_9) rfl  kk_))
  refine Go.newP X1 hx hZ (aty := .byte) (hw _ (List.mem_of_getElem? (i := 24) rfl)) e1 rfl (hb hby dcrb_10) (n := n) rfl rfl 16 (by omega) (by decide) (by decide) (by decide) ?_
  intro T3 h3 b3 X3 e3 E3 g3 V3
  have ne_d_b3 : d ≠ b3 := Nat.ne_of_lt (Nat.lt_of_lt_of_eq (V_d).lt g3.symm)
  have g_b3 : n0 ≤ b3 := Nat.le_trans Z0 (Nat.le_of_eq g3.symm)
  have sz_b3 : h0.size ≤ b3 := Nat.le_trans K0.1 (Nat.le_of_eq g3.symm)
  have Z4 : n0 ≤ h3.size := Nat.le_trans Z0 E3.1
  have K5 : Keep h0 h3 ([] : List Addr) := K0.ext E3
  change Ary Z h3 b3 .byte (List.replicate n (.int 0)) at V3
  show Go p e below _ T3 (mkF m 12 #[rv d, iv (0 : Int32), iv (Int32.ofNat n), iv (Int32.ofNat n), .unset] [(.ref b3)])
  rw [IL_rep] at V3
  refine Go.st (T' := T3) (g' := (mkF m 20 #[rv d, iv (0 : Int32), iv (Int32.ofNat n), iv (Int32.ofNat n), rv b3] [(.ref d), (.int (0 : Int32)), (.ref b3), (.int (0 : Int32)), (.ref d)])) ?_ (fun _ kk_ => XS.astore X3.here hx rfl (hb hby dcrb_12) rfl rfl (l' := #[rv d, iv (0 : Int32), iv (Int32.ofNat n), iv (Int32.ofNat n), rv b3]) rfl (XS.aloadN X3.here hx rfl (hb hby dcrb_14) rfl rfl  (XS.iloadN X3.here hx rfl (hb hby dcrb_15) rfl  (XS.aload X3.here hx rfl (hb hby dcrb_16) rfl rfl  (XS.iconst X3.here hx rfl (hb hby dcrb_18) (XS.aloadN X3.here hx rfl (hb hby dcrb_19) rfl rfl  kk_))))))
  have f6 := (V_d.ext E3)
  refine Go.st (T' := T3) (g' := (mkF m 24 #[rv d, iv (0 : Int32), iv (Int32.ofNat n), iv (Int32.ofNat n), rv b3] [(.int (Int32.ofNat n)), (.int (16 : Int32)), (.int (0 : Int32)), (.ref b3), (.int (0 : Int32)), (.ref d)])) ?_ (fun _ kk_ => own_alen X3 hx hZ e3 f6 (n := 16) (IL_len _ _) rfl rfl (hb hby dcrb_20) (XS.iloadN X3.here hx rfl (hb hby dcrb_21) rfl  (XS.isub X3.here hx rfl (hb hby dcrb_22) rfl (XS.iloadN X3.here hx rfl (hb hby dcrb_23) rfl  kk_))))
  refine Go.callS (y := (⟨"java/lang/Math", "min", "(II)I"⟩ : MethodName)) X3 hx hZ hown (hw _ (List.mem_of_getElem? (i := 150) rfl)) (hw _ (List.mem_of_getElem? (i := 151) rfl)) (hw _ (List.mem_of_getElem? (i := 152) rfl)) (hw _ (List.mem_of_getElem? (i := 153) rfl)) (by decide) 4 (rm_mnI l Z a0 hw [] (16 : Int32) (Int32.ofNat n) h3) e3 (by decide) (by decide) (by decide) (by decide) (argsL := [(.int (16 : Int32)), (.int (Int32.ofNat n))]) (rest := [(.int (0 : Int32)), (.ref b3), (.int (0 : Int32)), (.ref d)]) rfl (by rw [hml]; rfl) (lenOf pd__28II_29I rfl) rfl rfl (by show 2 * 0 + _ ≤ _; exact Nat.le_of_eq rfl) (hb hby dcrb_24) ?_
  rintro _ T7 L7 X7 ⟨rfl, e7, rfl⟩
  have N8 := Fr.app N2 (Fr.nil _)
  show Go p e below _ T7 (mkF m 27 #[rv d, iv (0 : Int32), iv (Int32.ofNat n), iv (Int32.ofNat n), rv b3] [(.int (if (Int32.ofNat n) < (16 : Int32) then (Int32.ofNat n) else (16 : Int32))), (.int (0 : Int32)), (.ref b3), (.int (0 : Int32)), (.ref d)])
  rw [show (if (Int32.ofNat n) < (16 : Int32) then (Int32.ofNat n) else (16 : Int32)) = Int32.ofNat n from if_pos ((own_lt (i := n) (n := 16) (by omega) (by decide)).mpr hn)]
  show Go p e below _ T7 (mkF m 27 #[rv d, iv (0 : Int32), iv (Int32.ofNat n), iv (Int32.ofNat n), rv b3] [(.int (Int32.ofNat n)), (.int (0 : Int32)), (.ref b3), (.int (0 : Int32)), (.ref d)])
  refine Go.acopy X7 hx hZ hown (hw _ (List.mem_of_getElem? (i := 154) rfl)) (hw _ (List.mem_of_getElem? (i := 108) rfl)) (hw _ (List.mem_of_getElem? (i := 106) rfl)) (hw _ (List.mem_of_getElem? (i := 107) rfl)) e7 f6 V3 (us := (IL n f)) rfl (sp := 0) (dp := 0) (nn := n) rfl rfl rfl (by rw [IL_len]; omega) (by rw [IL_len]; omega) (own_copy0 (Nat.le_of_lt hn)) (by rw [IL_len, IL_len]) N8 g_b3 rfl (by rw [hml]; rfl) rfl (hb hby dcrb_27) (by decide) 0 (by show 2 * 0 + _ ≤ _; exact Nat.le_of_eq rfl) (by decide) ?_
  intro T9 h9 L9 X9 e9 N9 K9 V9
  have Z10 : n0 ≤ h9.size := Nat.le_trans Z4 K9.1
  have K11 : Keep h0 h9 ([] : List Addr) := K5.trans K9 (allS (P := fun z_ => z_ ∈ ([] : List Addr) ∨ h0.size ≤ z_) (Or.inr sz_b3) all0)
  show Go p e below _ T9 (mkF m 30 #[rv d, iv (0 : Int32), iv (Int32.ofNat n), iv (Int32.ofNat n), rv b3] [])
  refine Go.st (T' := T9) (g' := (mkF m 32 #[rv d, iv (0 : Int32), iv (Int32.ofNat n), iv (Int32.ofNat n), rv b3] [(.ref b3)])) ?_ (fun _ kk_ => XS.aload X9.here hx rfl (hb hby dcrb_30) rfl rfl  kk_)
  refine Go.retA X9 hx hlk hret rfl rfl (hb hby dcrb_32) (by decide) (by decide) ?_
  try rw [e9]
  exact ⟨b3, rfl, N9, K11, sz_b3, V9⟩
theorem dcor_0 : decode jdk_65_method_132_code 0 = .ok (.iload_n 1, 1) := by decide +kernel
theorem dcor_1 : decode jdk_65_method_132_code 1 = .ok (.ifCond .ne 9, 3) := by decide +kernel
theorem dcor_4 : decode jdk_65_method_132_code 4 = .ok (.iload_n 2, 1) := by decide +kernel
theorem dcor_5 : decode jdk_65_method_132_code 5 = .ok (.aload_n 0, 1) := by decide +kernel
theorem dcor_6 : decode jdk_65_method_132_code 6 = .ok (.arraylength, 1) := by decide +kernel
theorem dcor_7 : decode jdk_65_method_132_code 7 = .ok (.if_icmp .eq 10, 3) := by decide +kernel
theorem dcor_10 : decode jdk_65_method_132_code 10 = .ok (.aload_n 0, 1) := by decide +kernel
theorem dcor_11 : decode jdk_65_method_132_code 11 = .ok (.iload_n 1, 1) := by decide +kernel
theorem dcor_12 : decode jdk_65_method_132_code 12 = .ok (.iload_n 2, 1) := by decide +kernel
theorem dcor_13 : decode jdk_65_method_132_code 13 = .ok (.invokestatic 339, 3) := by decide +kernel
theorem dcor_16 : decode jdk_65_method_132_code 16 = .ok (.areturn, 1) := by decide +kernel
theorem pn_cor : plainFor (⟨"java/util/Arrays", "copyOfRange", "([BII)[B"⟩ : MethodName) = true := by first | exact plainFor_of_name (by first | (simp [plainName, overriddenIn]; done) | decide +kernel) | decide +kernel
theorem ef_cor (m : MethodId) (x0 : Addr) (x1 : Int32) (x2 : Int32) : entryFrame m #[(.ref x0), (.int x1), (.int x2)] 3 = mkF m 0 #[rv x0, iv x1, iv x2] [] := by first | (simp [entryFrame, mkF, argsToLocals, Value.category]; done) | rfl
set_option maxRecDepth 65536 in
set_option maxHeartbeats 40000000 in
theorem rm_cor (l : Launch) (Z : State) (a0 : Array Value) (hw : ∀ d ∈ tables_1, d.before a0 Z = true) (ws : List Jvm.Cond) (d : Addr) (n : Nat) (f : Nat → Int32) (n0 : Nat) (h0 : Heap) (Z0 : n0 ≤ h0.size) (hn : n < 16) (V_d : Ary Z h0 d .byte (IL 16 f)) :
    Mt l Z (⟨"java/util/Arrays", "copyOfRange", "([BII)[B"⟩ : MethodName) jdk_65_method_132_code 3 (some (.array .byte)) ws ({ frames := 2, cells := 1, slots := 16, locals := 76 } : Room) #[(.ref d), (.int (0 : Int32)), (.int (Int32.ofNat n))] h0 (fun v h L => ∃ t, v = some (.ref t) ∧ Fr n0 L ∧ Keep h0 h [] ∧ h0.size ≤ t ∧ Ary Z h t .byte (IL n f)) := by
  refine Mt.body pn_cor ?_
  intro p e s m below meth c s₁ hx hby hml hown hnm hret hlk hZ X0 e0
  refine Go.cast (g' := (mkF m 0 #[rv d, iv (0 : Int32), iv (Int32.ofNat n)] [])) (ef_cor m d (0 : Int32) (Int32.ofNat n)) ?_
  have N0 := Fr.nil n0
  have K0 := Keep.refl h0 ([] : List Addr)
  refine Go.st (T' := s₁) (g' := (mkF m 13 #[rv d, iv (0 : Int32), iv (Int32.ofNat n)] [(.int (Int32.ofNat n)), (.int (0 : Int32)), (.ref d)])) ?_ (fun _ kk_ => XS.iloadN X0.here hx rfl (hb hby dcor_0) rfl  (XS.ifNo X0.here hx rfl (hb hby dcor_1) rfl ((if0 _ _).trans (teq ((by decide) : (0 : Int32) = (0 : Int32))).2) (XS.iloadN X0.here hx rfl (hb hby dcor_4) rfl  (XS.aloadN X0.here hx rfl (hb hby dcor_5) rfl rfl  (own_alen X0 hx hZ e0 V_d (IL_len _ _) rfl rfl (hb hby dcor_6) (XS.icmpNo X0.here hx rfl (hb hby dcor_7) rfl (feq ((fun z => by have := (own_eq (i := n) (n := 16) (by omega) (by decide)).mp z; omega) : ¬ ((Int32.ofNat n) = (Int32.ofNat 16)))).1 (XS.aloadN X0.here hx rfl (hb hby dcor_10) rfl rfl  (XS.iloadN X0.here hx rfl (hb hby dcor_11) rfl  (XS.iloadN X0.here hx rfl (hb hby dcor_12) rfl  kk_)))))))))
  refine Go.callS (y := (⟨"java/util/Arrays", "copyOfRangeByte", "([BII)[B"⟩ : MethodName)) X0 hx hZ hown (hw _ (List.mem_of_getElem? (i := 144) rfl)) (hw _ (List.mem_of_getElem? (i := 145) rfl)) (hw _ (List.mem_of_getElem? (i := 142) rfl)) (hw _ (List.mem_of_getElem? (i := 146) rfl)) (by decide) 0 (rm_crb l Z a0 hw [] d n f n0 h0 Z0 hn V_d) e0 (by decide) (by decide) (by decide) (by decide) (argsL := [(.ref d), (.int (0 : Int32)), (.int (Int32.ofNat n))]) (rest := []) rfl (by rw [hml]; rfl) (lenOf pd__28_5bBII_29_5bB rfl) rfl rfl (by show 2 * 0 + _ ≤ _; exact Nat.le_of_eq rfl) (hb hby dcor_13) ?_
  rintro _ T1 L1 X1 ⟨t, rfl, N1, K1, tz, V1⟩
  have N2 := Fr.app N0 N1
  have Z3 : n0 ≤ T1.heap.size := Nat.le_trans Z0 K1.1
  have K4 : Keep h0 T1.heap ([] : List Addr) := K0.trans K1 all0
  show Go p e below _ T1 (mkF m 16 #[rv d, iv (0 : Int32), iv (Int32.ofNat n)] [(.ref t)])
  refine Go.retA X1 hx hlk hret rfl rfl (hb hby dcor_16) (by decide) (by decide) ?_
  exact ⟨t, rfl, N2, K4, tz, V1⟩
theorem dgva_0 : decode jdk_68_method_64_code 0 = .ok (.aload_n 0, 1) := by decide +kernel
theorem dgva_1 : decode jdk_68_method_64_code 1 = .ok (.getfield 15, 3) := by decide +kernel
theorem dgva_4 : decode jdk_68_method_64_code 4 = .ok (.areturn, 1) := by decide +kernel
theorem pn_gva : plainFor (⟨"java/lang/AbstractStringBuilder", "getValue", "()[B"⟩ : MethodName) = true := by first | exact plainFor_of_name (by first | (simp [plainName, overriddenIn]; done) | decide +kernel) | decide +kernel
theorem ef_gva (m : MethodId) (x0 : Addr) : entryFrame m #[(.ref x0)] 1 = mkF m 0 #[rv x0] [] := by first | (simp [entryFrame, mkF, argsToLocals, Value.category]; done) | rfl
set_option maxRecDepth 65536 in
set_option maxHeartbeats 40000000 in
theorem rm_gva (l : Launch) (Z : State) (a0 : Array Value) (hw : ∀ d ∈ tables_1, d.before a0 Z = true) (ws : List Jvm.Cond) (b : Addr) (d : Addr) (h0 : Heap) (Gx : Fld Z h0 b "java/lang/AbstractStringBuilder" "value" "[B" (.ref d)) :
    Mt l Z (⟨"java/lang/AbstractStringBuilder", "getValue", "()[B"⟩ : MethodName) jdk_68_method_64_code 1 (some (.array .byte)) ws ({ frames := 0, cells := 0, slots := 0, locals := 0 } : Room) #[(.ref b)] h0 (fun v h L => v = some (.ref d) ∧ h = h0 ∧ L = []) := by
  refine Mt.body pn_gva ?_
  intro p e s m below meth c s₁ hx hby hml hown hnm hret hlk hZ X0 e0
  refine Go.cast (g' := (mkF m 0 #[rv b] [])) (ef_gva m b) ?_
  have N0 := Fr.nil 0
  refine Go.st (T' := s₁) (g' := (mkF m 1 #[rv b] [(.ref b)])) ?_ (fun _ kk_ => XS.aloadN X0.here hx rfl (hb hby dgva_0) rfl rfl  kk_)
  obtain ⟨T1, X1, e1, st1⟩ := getF X0 hx hZ hown (host := "") (Or.inl (hw _ (List.mem_of_getElem? (i := 58) rfl))) Via.refl e0 Gx (g := (mkF m 1 #[rv b] [(.ref b)])) rfl rfl (hb hby dgva_1)
  refine Go.st (T' := T1) (g' := (mkF m 4 #[rv b] [(.ref d)])) ?_ st1
  refine Go.retA X1 hx hlk hret rfl rfl (hb hby dgva_4) (by decide) (by decide) ?_
  try rw [e1]
  exact ⟨rfl, rfl, rfl⟩
theorem dale_0 : decode jdk_68_method_6_code 0 = .ok (.aload_n 0, 1) := by decide +kernel
theorem dale_1 : decode jdk_68_method_6_code 1 = .ok (.getfield 79, 3) := by decide +kernel
theorem dale_4 : decode jdk_68_method_6_code 4 = .ok (.ireturn, 1) := by decide +kernel
theorem pn_ale : plainFor (⟨"java/lang/AbstractStringBuilder", "length", "()I"⟩ : MethodName) = true := by first | exact plainFor_of_name (by first | (simp [plainName, overriddenIn]; done) | decide +kernel) | decide +kernel
theorem ef_ale (m : MethodId) (x0 : Addr) : entryFrame m #[(.ref x0)] 1 = mkF m 0 #[rv x0] [] := by first | (simp [entryFrame, mkF, argsToLocals, Value.category]; done) | rfl
set_option maxRecDepth 65536 in
set_option maxHeartbeats 40000000 in
theorem rm_ale (l : Launch) (Z : State) (a0 : Array Value) (hw : ∀ d ∈ tables_1, d.before a0 Z = true) (ws : List Jvm.Cond) (b : Addr) (k : Nat) (h0 : Heap) (Gx : Fld Z h0 b "java/lang/AbstractStringBuilder" "count" "I" (.int (Int32.ofNat k))) :
    Mt l Z (⟨"java/lang/AbstractStringBuilder", "length", "()I"⟩ : MethodName) jdk_68_method_6_code 1 (some .int) ws ({ frames := 0, cells := 0, slots := 0, locals := 0 } : Room) #[(.ref b)] h0 (fun v h L => v = some (.int (Int32.ofNat k)) ∧ h = h0 ∧ L = []) := by
  refine Mt.body pn_ale ?_
  intro p e s m below meth c s₁ hx hby hml hown hnm hret hlk hZ X0 e0
  refine Go.cast (g' := (mkF m 0 #[rv b] [])) (ef_ale m b) ?_
  have N0 := Fr.nil 0
  refine Go.st (T' := s₁) (g' := (mkF m 1 #[rv b] [(.ref b)])) ?_ (fun _ kk_ => XS.aloadN X0.here hx rfl (hb hby dale_0) rfl rfl  kk_)
  obtain ⟨T1, X1, e1, st1⟩ := getF X0 hx hZ hown (host := "") (Or.inl (hw _ (List.mem_of_getElem? (i := 82) rfl))) Via.refl e0 Gx (g := (mkF m 1 #[rv b] [(.ref b)])) rfl rfl (hb hby dale_1)
  refine Go.st (T' := T1) (g' := (mkF m 4 #[rv b] [(.int (Int32.ofNat k))])) ?_ st1
  refine Go.retI X1 hx hlk hret (hb hby dale_4) (by decide) (by decide) ?_
  try rw [e1]
  exact ⟨rfl, rfl, rfl⟩
theorem dsle_0 : decode jdk_67_method_93_code 0 = .ok (.aload_n 0, 1) := by decide +kernel
theorem dsle_1 : decode jdk_67_method_93_code 1 = .ok (.invokespecial 343, 3) := by decide +kernel
theorem dsle_4 : decode jdk_67_method_93_code 4 = .ok (.ireturn, 1) := by decide +kernel
theorem pn_sle : plainFor (⟨"java/lang/StringBuilder", "length", "()I"⟩ : MethodName) = true := by first | exact plainFor_of_name (by first | (simp [plainName, overriddenIn]; done) | decide +kernel) | decide +kernel
theorem ef_sle (m : MethodId) (x0 : Addr) : entryFrame m #[(.ref x0)] 1 = mkF m 0 #[rv x0] [] := by first | (simp [entryFrame, mkF, argsToLocals, Value.category]; done) | rfl
set_option maxRecDepth 65536 in
set_option maxHeartbeats 40000000 in
theorem rm_sle (l : Launch) (Z : State) (a0 : Array Value) (hw : ∀ d ∈ tables_1, d.before a0 Z = true) (ws : List Jvm.Cond) (b : Addr) (k : Nat) (h0 : Heap) (E_b : Exa Z h0 b "java/lang/StringBuilder") (Gx : Fld Z h0 b "java/lang/AbstractStringBuilder" "count" "I" (.int (Int32.ofNat k))) :
    Mt l Z (⟨"java/lang/StringBuilder", "length", "()I"⟩ : MethodName) jdk_67_method_93_code 1 (some .int) ws ({ frames := 1, cells := 0, slots := 0, locals := 12 } : Room) #[(.ref b)] h0 (fun v h L => v = some (.int (Int32.ofNat k)) ∧ h = h0 ∧ L = []) := by
  refine Mt.body pn_sle ?_
  intro p e s m below meth c s₁ hx hby hml hown hnm hret hlk hZ X0 e0
  refine Go.cast (g' := (mkF m 0 #[rv b] [])) (ef_sle m b) ?_
  have N0 := Fr.nil 0
  refine Go.st (T' := s₁) (g' := (mkF m 1 #[rv b] [(.ref b)])) ?_ (fun _ kk_ => XS.aloadN X0.here hx rfl (hb hby dsle_0) rfl rfl  kk_)
  refine Go.callU (y := (⟨"java/lang/AbstractStringBuilder", "length", "()I"⟩ : MethodName)) X0 hx hZ hown (hw _ (List.mem_of_getElem? (i := 133) rfl)) (own_same (hw _ (List.mem_of_getElem? (i := 129) rfl)) (by decide) (own_notFace (notFace_of_selects (hw _ (List.mem_of_getElem? (i := 87) rfl))) (Cond.code_named (hw _ (List.mem_of_getElem? (i := 88) rfl))) rfl)) (hw _ (List.mem_of_getElem? (i := 129) rfl)) (hw _ (List.mem_of_getElem? (i := 69) rfl)) (hw _ (List.mem_of_getElem? (i := 54) rfl)) (hw _ (List.mem_of_getElem? (i := 134) rfl)) (by decide) 0 (rm_ale l Z a0 hw [] b k h0 Gx) e0 (by decide) (by decide) (by decide) (by decide) E_b (argsL := []) (rest := []) rfl (by rw [hml]; rfl) (lenOf pd__28_29I rfl) rfl rfl (by show 2 * 0 + _ ≤ _; exact Nat.le_of_eq rfl) (hb hby dsle_1) ?_
  rintro _ T1 L1 X1 ⟨rfl, e1, rfl⟩
  have N2 := Fr.app N0 (Fr.nil _)
  show Go p e below _ T1 (mkF m 4 #[rv b] [(.int (Int32.ofNat k))])
  refine Go.retI X1 hx hlk hret (hb hby dsle_4) (by decide) (by decide) ?_
  try rw [e1]
  exact ⟨rfl, rfl, rfl⟩
theorem diab_0 : decode jdk_42_method_150_code 0 = .ok (.aload_n 0, 1) := by decide +kernel
theorem diab_1 : decode jdk_42_method_150_code 1 = .ok (.invokespecial 1, 3) := by decide +kernel
theorem diab_4 : decode jdk_42_method_150_code 4 = .ok (.aload_n 1, 1) := by decide +kernel
theorem diab_5 : decode jdk_42_method_150_code 5 = .ok (.invokevirtual 552, 3) := by decide +kernel
theorem diab_8 : decode jdk_42_method_150_code 8 = .ok (.astore_n 3, 1) := by decide +kernel
theorem diab_9 : decode jdk_42_method_150_code 9 = .ok (.aload_n 1, 1) := by decide +kernel
theorem diab_10 : decode jdk_42_method_150_code 10 = .ok (.invokevirtual 549, 3) := by decide +kernel
theorem diab_13 : decode jdk_42_method_150_code 13 = .ok (.istore 4, 2) := by decide +kernel
theorem diab_15 : decode jdk_42_method_150_code 15 = .ok (.aload_n 1, 1) := by decide +kernel
theorem diab_16 : decode jdk_42_method_150_code 16 = .ok (.invokevirtual 1047, 3) := by decide +kernel
theorem diab_19 : decode jdk_42_method_150_code 19 = .ok (.ifCond .eq 22, 3) := by decide +kernel
theorem diab_22 : decode jdk_42_method_150_code 22 = .ok (.aload_n 0, 1) := by decide +kernel
theorem diab_23 : decode jdk_42_method_150_code 23 = .ok (.iconst 0, 1) := by decide +kernel
theorem diab_24 : decode jdk_42_method_150_code 24 = .ok (.putfield 15, 3) := by decide +kernel
theorem diab_27 : decode jdk_42_method_150_code 27 = .ok (.aload_n 0, 1) := by decide +kernel
theorem diab_28 : decode jdk_42_method_150_code 28 = .ok (.aload_n 3, 1) := by decide +kernel
theorem diab_29 : decode jdk_42_method_150_code 29 = .ok (.iconst 0, 1) := by decide +kernel
theorem diab_30 : decode jdk_42_method_150_code 30 = .ok (.iload 4, 2) := by decide +kernel
theorem diab_32 : decode jdk_42_method_150_code 32 = .ok (.invokestatic 54, 3) := by decide +kernel
theorem diab_35 : decode jdk_42_method_150_code 35 = .ok (.putfield 9, 3) := by decide +kernel
theorem diab_38 : decode jdk_42_method_150_code 38 = .ok (.goto 59, 3) := by decide +kernel
theorem diab_97 : decode jdk_42_method_150_code 97 = .ok (.return_, 1) := by decide +kernel
theorem pn_iab : plainFor (⟨"java/lang/String", "<init>", "(Ljava/lang/AbstractStringBuilder;Ljava/lang/Void;)V"⟩ : MethodName) = true := by first | exact plainFor_of_name (by first | (simp [plainName, overriddenIn]; done) | decide +kernel) | decide +kernel
theorem ef_iab (m : MethodId) (x0 : Addr) (x1 : Addr) : entryFrame m #[(.ref x0), (.ref x1), .null] 5 = mkF m 0 #[rv x0, rv x1, .val .null, .unset, .unset] [] := by first | (simp [entryFrame, mkF, argsToLocals, Value.category]; done) | rfl
set_option maxRecDepth 65536 in
set_option maxHeartbeats 40000000 in
theorem rm_iab (l : Launch) (Z : State) (a0 : Array Value) (hw : ∀ d ∈ tables_1, d.before a0 Z = true) (ws : List Jvm.Cond) (x b d : Addr) (k : Nat) (f : Nat → Int32) (n0 : Nat) (cS : Int32) (h0 : Heap) (Z0 : n0 ≤ h0.size) (hk : k < 16) (E_x : Exa Z h0 x "java/lang/String") (Fv : Fld Z h0 x "java/lang/String" "value" "[B" .null) (Fc : Fld Z h0 x "java/lang/String" "coder" "B" (.int (0 : Int32))) (g_x : n0 ≤ x) (E_b : Exa Z h0 b "java/lang/StringBuilder") (Gv : Fld Z h0 b "java/lang/AbstractStringBuilder" "value" "[B" (.ref d)) (Gc : Fld Z h0 b "java/lang/AbstractStringBuilder" "coder" "B" (.int (0 : Int32))) (Gn : Fld Z h0 b "java/lang/AbstractStringBuilder" "count" "I" (.int (Int32.ofNat k))) (V_d : Ary Z h0 d .byte (IL 16 f)) (g_b : n0 ≤ b) (g_d : n0 ≤ d) (ne_b_d : b ≠ d) (O0 : Old Z n0 h0) (Sc : Sta Z Z.heap "java/lang/String" "COMPACT_STRINGS" "Z" (.int cS)) (hcS : ¬ (cS = (0 : Int32))) (ne_x_b : x ≠ b) (ne_x_d : x ≠ d) :
    Mt l Z (⟨"java/lang/String", "<init>", "(Ljava/lang/AbstractStringBuilder;Ljava/lang/Void;)V"⟩ : MethodName) jdk_42_method_150_code 5 none ws ({ frames := 3, cells := 1, slots := 16, locals := 91 } : Room) #[(.ref x), (.ref b), .null] h0 (fun v h L => v = none ∧ Fr n0 L ∧ Keep h0 h [x] ∧ Fld Z h x "java/lang/String" "coder" "B" (.int (0 : Int32)) ∧ ∃ t, h0.size ≤ t ∧ Fld Z h x "java/lang/String" "value" "[B" (.ref t) ∧ Ary Z h t .byte (IL k f)) := by
  refine Mt.body pn_iab ?_
  intro p e s m below meth c s₁ hx hby hml hown hnm hret hlk hZ X0 e0
  refine Go.cast (g' := (mkF m 0 #[rv x, rv b, .val .null, .unset, .unset] [])) (ef_iab m x b) ?_
  have N0 := Fr.nil n0
  have K0 := Keep.refl h0 [x]
  refine Go.st (T' := s₁) (g' := (mkF m 1 #[rv x, rv b, .val .null, .unset, .unset] [(.ref x)])) ?_ (fun _ kk_ => XS.aloadN X0.here hx rfl (hb hby diab_0) rfl rfl  kk_)
  obtain ⟨T1, X1, e1, st1⟩ := initO X0 hx hZ hown (hw _ (List.mem_of_getElem? (i := 16) rfl)) (hw _ (List.mem_of_getElem? (i := 17) rfl)) (hw _ (List.mem_of_getElem? (i := 18) rfl)) e0 (g := (mkF m 1 #[rv x, rv b, .val .null, .unset, .unset] [(.ref x)])) rfl (by rw [hml]; rfl) rfl (hb hby diab_1) (by decide) (W := 0) (by show 2 * 0 + _ ≤ _; exact Nat.le_of_eq rfl) (by decide)
  refine Go.st (T' := T1) (g' := (mkF m 4 #[rv x, rv b, .val .null, .unset, .unset] [])) ?_ st1
  refine Go.st (T' := T1) (g' := (mkF m 5 #[rv x, rv b, .val .null, .unset, .unset] [(.ref b)])) ?_ (fun _ kk_ => XS.aloadN X1.here hx rfl (hb hby diab_4) rfl rfl  kk_)
  refine Go.callV (y := (⟨"java/lang/AbstractStringBuilder", "getValue", "()[B"⟩ : MethodName)) (z := (⟨"java/lang/AbstractStringBuilder", "getValue", "()[B"⟩ : MethodName)) X1 hx hZ hown (hw _ (List.mem_of_getElem? (i := 122) rfl)) (hw _ (List.mem_of_getElem? (i := 123) rfl)) (notFace_of_selects (args := #[]) (mvT hZ (hw _ (List.mem_of_getElem? (i := 125) rfl)))) (hw _ (List.mem_of_getElem? (i := 125) rfl)) (hw _ (List.mem_of_getElem? (i := 124) rfl)) (hw _ (List.mem_of_getElem? (i := 54) rfl)) (hw _ (List.mem_of_getElem? (i := 126) rfl)) (by decide) 0 (rm_gva l Z a0 hw [] b d h0 Gv) e1 (by decide) (by decide) (by decide) (by decide) E_b (argsL := []) (rest := []) rfl (by rw [hml]; rfl) (lenOf pd__28_29_5bB rfl) rfl rfl (by show 2 * 0 + _ ≤ _; exact Nat.le_of_eq rfl) (hb hby diab_5) ?_
  rintro _ T2 L2 X2 ⟨rfl, e2, rfl⟩
  have N3 := Fr.app N0 (Fr.nil _)
  show Go p e below _ T2 (mkF m 8 #[rv x, rv b, .val .null, .unset, .unset] [(.ref d)])
  refine Go.st (T' := T2) (g' := (mkF m 10 #[rv x, rv b, .val .null, rv d, .unset] [(.ref b)])) ?_ (fun _ kk_ => XS.astoreN X2.here hx rfl (hb hby diab_8) rfl rfl (l' := #[rv x, rv b, .val .null, rv d, .unset]) rfl (XS.aloadN X2.here hx rfl (hb hby diab_9) rfl rfl  kk_))
  refine Go.callV (y := (⟨"java/lang/AbstractStringBuilder", "length", "()I"⟩ : MethodName)) (z := (⟨"java/lang/StringBuilder", "length", "()I"⟩ : MethodName)) X2 hx hZ hown (hw _ (List.mem_of_getElem? (i := 127) rfl)) (hw _ (List.mem_of_getElem? (i := 128) rfl)) (own_notFace (notFace_of_selects (args := #[]) (mvT hZ (hw _ (List.mem_of_getElem? (i := 87) rfl)))) (Cond.code_named (mvT (args := #[]) hZ (hw _ (List.mem_of_getElem? (i := 88) rfl)))) rfl) (hw _ (List.mem_of_getElem? (i := 130) rfl)) (hw _ (List.mem_of_getElem? (i := 131) rfl)) (hw _ (List.mem_of_getElem? (i := 46) rfl)) (hw _ (List.mem_of_getElem? (i := 132) rfl)) (by decide) 0 (rm_sle l Z a0 hw [] b k h0 E_b Gn) e2 (by decide) (by decide) (by decide) (by decide) E_b (argsL := []) (rest := []) rfl (by rw [hml]; rfl) (lenOf pd__28_29I rfl) rfl rfl (by show 2 * 0 + _ ≤ _; exact Nat.le_of_eq rfl) (hb hby diab_10) ?_
  rintro _ T4 L4 X4 ⟨rfl, e4, rfl⟩
  have N5 := Fr.app N3 (Fr.nil _)
  show Go p e below _ T4 (mkF m 13 #[rv x, rv b, .val .null, rv d, .unset] [(.int (Int32.ofNat k))])
  refine Go.st (T' := T4) (g' := (mkF m 16 #[rv x, rv b, .val .null, rv d, iv (Int32.ofNat k)] [(.ref b)])) ?_ (fun _ kk_ => XS.istore X4.here hx rfl (hb hby diab_13) rfl (l' := #[rv x, rv b, .val .null, rv d, iv (Int32.ofNat k)]) rfl (XS.aloadN X4.here hx rfl (hb hby diab_15) rfl rfl  kk_))
  refine Go.callV (y := (⟨"java/lang/AbstractStringBuilder", "isLatin1", "()Z"⟩ : MethodName)) (z := (⟨"java/lang/AbstractStringBuilder", "isLatin1", "()Z"⟩ : MethodName)) X4 hx hZ hown (hw _ (List.mem_of_getElem? (i := 135) rfl)) (hw _ (List.mem_of_getElem? (i := 136) rfl)) (notFace_of_selects (args := #[]) (mvT hZ (hw _ (List.mem_of_getElem? (i := 138) rfl)))) (hw _ (List.mem_of_getElem? (i := 138) rfl)) (hw _ (List.mem_of_getElem? (i := 137) rfl)) (hw _ (List.mem_of_getElem? (i := 54) rfl)) (hw _ (List.mem_of_getElem? (i := 139) rfl)) (by decide) 0 (rm_alt l Z a0 hw [] b n0 cS h0 Gc O0 Sc hcS) e4 (by decide) (by decide) (by decide) (by decide) E_b (argsL := []) (rest := []) rfl (by rw [hml]; rfl) (lenOf pd__28_29Z rfl) rfl rfl (by show 2 * 0 + _ ≤ _; exact Nat.le_of_eq rfl) (hb hby diab_16) ?_
  rintro _ T6 L6 X6 ⟨rfl, e6, rfl⟩
  have N7 := Fr.app N5 (Fr.nil _)
  show Go p e below _ T6 (mkF m 19 #[rv x, rv b, .val .null, rv d, iv (Int32.ofNat k)] [(.int (1 : Int32))])
  refine Go.st (T' := T6) (g' := (mkF m 24 #[rv x, rv b, .val .null, rv d, iv (Int32.ofNat k)] [(.int (0 : Int32)), (.ref x)])) ?_ (fun _ kk_ => XS.ifNo X6.here hx rfl (hb hby diab_19) rfl ((if0 _ _).trans (feq ((by decide) : ¬ ((1 : Int32) = (0 : Int32)))).1) (XS.aloadN X6.here hx rfl (hb hby diab_22) rfl rfl  (XS.iconst X6.here hx rfl (hb hby diab_23) kk_)))
  obtain ⟨T8, h8, X8, e8, W8, st8⟩ := putFN X6 hx hZ hown (hw _ (List.mem_of_getElem? (i := 31) rfl)) Via.refl e6 Fc E_x (Or.inr ⟨(hw _ (List.mem_of_getElem? (i := 32) rfl)), rfl, hnm⟩) (hw _ (List.mem_of_getElem? (i := 6) rfl)) (ty := .byte) (v' := (.int (0 : Int32))) (by decide) (by decide) (by decide) (g := (mkF m 24 #[rv x, rv b, .val .null, rv d, iv (Int32.ofNat k)] [(.int (0 : Int32)), (.ref x)])) rfl rfl (hb hby diab_24)
  have N9 := Fr.snoc X8 N7 g_x
  have O10 := O0.wr W8 g_x
  have f11 := Fc.same W8
  have K12 : Keep h0 h8 [x] := K0.wr W8 (Or.inl (List.mem_of_getElem? (i := 0) rfl))
  have Z13 : n0 ≤ h8.size := by rw [W8.size]; exact Z0
  refine Go.st (T' := T8) (g' := (mkF m 27 #[rv x, rv b, .val .null, rv d, iv (Int32.ofNat k)] [])) ?_ st8
  refine Go.st (T' := T8) (g' := (mkF m 32 #[rv x, rv b, .val .null, rv d, iv (Int32.ofNat k)] [(.int (Int32.ofNat k)), (.int (0 : Int32)), (.ref d), (.ref x)])) ?_ (fun _ kk_ => XS.aloadN X8.here hx rfl (hb hby diab_27) rfl rfl  (XS.aloadN X8.here hx rfl (hb hby diab_28) rfl rfl  (XS.iconst X8.here hx rfl (hb hby diab_29) (XS.iload X8.here hx rfl (hb hby diab_30) rfl  kk_))))
  have f14 := (V_d.other W8 (Ne.symm ne_x_d))
  refine Go.callS (y := (⟨"java/util/Arrays", "copyOfRange", "([BII)[B"⟩ : MethodName)) X8 hx hZ hown (hw _ (List.mem_of_getElem? (i := 140) rfl)) (hw _ (List.mem_of_getElem? (i := 141) rfl)) (hw _ (List.mem_of_getElem? (i := 142) rfl)) (hw _ (List.mem_of_getElem? (i := 143) rfl)) (by decide) 1 (rm_cor l Z a0 hw [] d k f n0 h8 Z13 hk f14) e8 (by decide) (by decide) (by decide) (by decide) (argsL := [(.ref d), (.int (0 : Int32)), (.int (Int32.ofNat k))]) (rest := [(.ref x)]) rfl (by rw [hml]; rfl) (lenOf pd__28_5bBII_29_5bB rfl) rfl rfl (by show 2 * 0 + _ ≤ _; exact Nat.le_of_eq rfl) (hb hby diab_32) ?_
  rintro _ T15 L15 X15 ⟨t, rfl, N15, K15, tz, V15⟩
  have N16 := Fr.app N9 N15
  have O17 := O10.keep K15 all0
  have Z18 : n0 ≤ T15.heap.size := Nat.le_trans Z13 K15.1
  have K19 : Keep h0 T15.heap [x] := K12.trans K15 all0
  show Go p e below _ T15 (mkF m 35 #[rv x, rv b, .val .null, rv d, iv (Int32.ofNat k)] [(.ref t), (.ref x)])
  have ne_x_t : x ≠ t := Nat.ne_of_lt (Nat.lt_of_lt_of_le (E_x.keep K12).lt tz)
  have tz0 : h0.size ≤ t := Nat.le_trans K12.1 tz
  have f20 := ((Fv.other W8 (Or.inr (slot_ne (C := "java/lang/String") (Or.inr (hw _ (List.mem_of_getElem? (i := 34) rfl))) (Or.inr (hw _ (List.mem_of_getElem? (i := 32) rfl))) (by decide) (t := (.array .byte)) (t' := .byte) (by decide) (by decide)))).keep K15 nin0)
  have f21 := ((E_x.wr W8).keep K15)
  obtain ⟨T22, h22, X22, e22, W22, st22⟩ := putF X15 hx hZ hown (host := "") (Or.inl (hw _ (List.mem_of_getElem? (i := 33) rfl))) Via.refl rfl f20 f21 (Or.inr ⟨(hw _ (List.mem_of_getElem? (i := 34) rfl)), rfl, hnm⟩) (hw _ (List.mem_of_getElem? (i := 6) rfl)) (ty := (.array .byte)) (by decide) rfl rfl (g := (mkF m 35 #[rv x, rv b, .val .null, rv d, iv (Int32.ofNat k)] [(.ref t), (.ref x)])) rfl rfl (hb hby diab_35)
  have N23 := Fr.snoc X22 N16 g_x
  have O24 := O17.wr W22 g_x
  have f25 := f20.same W22
  have K26 : Keep h0 h22 [x] := K19.wr W22 (Or.inl (List.mem_of_getElem? (i := 0) rfl))
  have Z27 : n0 ≤ h22.size := by rw [W22.size]; exact Z18
  refine Go.st (T' := T22) (g' := (mkF m 38 #[rv x, rv b, .val .null, rv d, iv (Int32.ofNat k)] [])) ?_ st22
  refine Go.st (T' := T22) (g' := (mkF m 97 #[rv x, rv b, .val .null, rv d, iv (Int32.ofNat k)] [])) ?_ (fun _ kk_ => XS.goto X22.here hx rfl (pc0 := 38) (pc' := 97) rfl (hb hby diab_38) (by decide) (by decide) kk_)
  have f28 := ((f11.keep K15 nin0).other W22 (Or.inr (slot_ne (C := "java/lang/String") (Or.inr (hw _ (List.mem_of_getElem? (i := 32) rfl))) (Or.inr (hw _ (List.mem_of_getElem? (i := 34) rfl))) (by decide) (t := .byte) (t' := (.array .byte)) (by decide) (by decide))))
  have f29 := (V15.other W22 (Ne.symm ne_x_t))
  refine Go.retV X22 hx hlk hret (hb hby diab_97) (by decide) (by decide) ?_
  try rw [e22]
  exact ⟨rfl, N23, K26, f28, t, tz0, f25, f29⟩
theorem disb_0 : decode jdk_42_method_53_code 0 = .ok (.aload_n 0, 1) := by decide +kernel
theorem disb_1 : decode jdk_42_method_53_code 1 = .ok (.aload_n 1, 1) := by decide +kernel
theorem disb_2 : decode jdk_42_method_53_code 2 = .ok (.aconst_null, 1) := by decide +kernel
theorem disb_3 : decode jdk_42_method_53_code 3 = .ok (.invokespecial 489, 3) := by decide +kernel
theorem disb_6 : decode jdk_42_method_53_code 6 = .ok (.return_, 1) := by decide +kernel
theorem pn_isb : plainFor (⟨"java/lang/String", "<init>", "(Ljava/lang/StringBuilder;)V"⟩ : MethodName) = true := by first | exact plainFor_of_name (by first | (simp [plainName, overriddenIn]; done) | decide +kernel) | decide +kernel
theorem ef_isb (m : MethodId) (x0 : Addr) (x1 : Addr) : entryFrame m #[(.ref x0), (.ref x1)] 2 = mkF m 0 #[rv x0, rv x1] [] := by first | (simp [entryFrame, mkF, argsToLocals, Value.category]; done) | rfl
set_option maxRecDepth 65536 in
set_option maxHeartbeats 40000000 in
theorem rm_isb (l : Launch) (Z : State) (a0 : Array Value) (hw : ∀ d ∈ tables_1, d.before a0 Z = true) (ws : List Jvm.Cond) (x b d : Addr) (k : Nat) (f : Nat → Int32) (n0 : Nat) (cS : Int32) (h0 : Heap) (Z0 : n0 ≤ h0.size) (hk : k < 16) (E_x : Exa Z h0 x "java/lang/String") (Fv : Fld Z h0 x "java/lang/String" "value" "[B" .null) (Fc : Fld Z h0 x "java/lang/String" "coder" "B" (.int (0 : Int32))) (g_x : n0 ≤ x) (E_b : Exa Z h0 b "java/lang/StringBuilder") (Gv : Fld Z h0 b "java/lang/AbstractStringBuilder" "value" "[B" (.ref d)) (Gc : Fld Z h0 b "java/lang/AbstractStringBuilder" "coder" "B" (.int (0 : Int32))) (Gn : Fld Z h0 b "java/lang/AbstractStringBuilder" "count" "I" (.int (Int32.ofNat k))) (V_d : Ary Z h0 d .byte (IL 16 f)) (g_b : n0 ≤ b) (g_d : n0 ≤ d) (ne_b_d : b ≠ d) (O0 : Old Z n0 h0) (Sc : Sta Z Z.heap "java/lang/String" "COMPACT_STRINGS" "Z" (.int cS)) (hcS : ¬ (cS = (0 : Int32))) (ne_x_b : x ≠ b) (ne_x_d : x ≠ d) :
    Mt l Z (⟨"java/lang/String", "<init>", "(Ljava/lang/StringBuilder;)V"⟩ : MethodName) jdk_42_method_53_code 2 none ws ({ frames := 4, cells := 1, slots := 16, locals := 107 } : Room) #[(.ref x), (.ref b)] h0 (fun v h L => v = none ∧ Fr n0 L ∧ Keep h0 h [x] ∧ Fld Z h x "java/lang/String" "coder" "B" (.int (0 : Int32)) ∧ ∃ t, h0.size ≤ t ∧ Fld Z h x "java/lang/String" "value" "[B" (.ref t) ∧ Ary Z h t .byte (IL k f)) := by
  refine Mt.body pn_isb ?_
  intro p e s m below meth c s₁ hx hby hml hown hnm hret hlk hZ X0 e0
  refine Go.cast (g' := (mkF m 0 #[rv x, rv b] [])) (ef_isb m x b) ?_
  have N0 := Fr.nil n0
  have K0 := Keep.refl h0 [x]
  refine Go.st (T' := s₁) (g' := (mkF m 3 #[rv x, rv b] [.null, (.ref b), (.ref x)])) ?_ (fun _ kk_ => XS.aloadN X0.here hx rfl (hb hby disb_0) rfl rfl  (XS.aloadN X0.here hx rfl (hb hby disb_1) rfl rfl  (XS.aconstNull X0.here hx rfl (hb hby disb_2) kk_)))
  refine Go.callN (y := (⟨"java/lang/String", "<init>", "(Ljava/lang/AbstractStringBuilder;Ljava/lang/Void;)V"⟩ : MethodName)) X0 hx hZ rfl hown (hw _ (List.mem_of_getElem? (i := 119) rfl)) (hw _ (List.mem_of_getElem? (i := 120) rfl)) (hw _ (List.mem_of_getElem? (i := 7) rfl)) (hw _ (List.mem_of_getElem? (i := 121) rfl)) (by decide) 0 (rm_iab l Z a0 hw [] x b d k f n0 cS h0 Z0 hk E_x Fv Fc g_x E_b Gv Gc Gn V_d g_b g_d ne_b_d O0 Sc hcS ne_x_b ne_x_d) e0 (by decide) (by decide) (by decide) (by decide) (a := x) (argsL := [(.ref b), .null]) (rest := []) rfl (by rw [hml]; rfl) (lenOf pd__28Ljava_2flang_2fAbstractStringBuilder_3bLjava_2flang_2fVoid_3b_29V rfl) rfl rfl (by show 2 * 0 + _ ≤ _; exact Nat.le_of_eq rfl) (hb hby disb_3) ?_
  rintro _ T1 L1 X1 ⟨rfl, N1, K1, hq1⟩
  have N2 := Fr.app N0 N1
  have Z3 : n0 ≤ T1.heap.size := Nat.le_trans Z0 K1.1
  have K4 : Keep h0 T1.heap [x] := K0.trans K1 (allS (P := fun z_ => z_ ∈ [x] ∨ h0.size ≤ z_) (Or.inl (List.mem_of_getElem? (i := 0) rfl)) all0)
  show Go p e below _ T1 (mkF m 6 #[rv x, rv b] [])
  refine Go.retV X1 hx hlk hret (hb hby disb_6) (by decide) (by decide) ?_
  exact ⟨rfl, N2, K4, hq1⟩
theorem dtos_0 : decode jdk_67_method_42_code 0 = .ok (.new 18, 3) := by decide +kernel
theorem dtos_3 : decode jdk_67_method_42_code 3 = .ok (.dup, 1) := by decide +kernel
theorem dtos_4 : decode jdk_67_method_42_code 4 = .ok (.aload_n 0, 1) := by decide +kernel
theorem dtos_5 : decode jdk_67_method_42_code 5 = .ok (.invokespecial 137, 3) := by decide +kernel
theorem dtos_8 : decode jdk_67_method_42_code 8 = .ok (.areturn, 1) := by decide +kernel
theorem pn_tos : plainFor (⟨"java/lang/StringBuilder", "toString", "()Ljava/lang/String;"⟩ : MethodName) = true := by first | exact plainFor_of_name (by first | (simp [plainName, overriddenIn]; done) | decide +kernel) | decide +kernel
theorem ef_tos (m : MethodId) (x0 : Addr) : entryFrame m #[(.ref x0)] 1 = mkF m 0 #[rv x0] [] := by first | (simp [entryFrame, mkF, argsToLocals, Value.category]; done) | rfl
set_option maxRecDepth 65536 in
set_option maxHeartbeats 40000000 in
theorem rm_tos (l : Launch) (Z : State) (a0 : Array Value) (hw : ∀ d ∈ tables_1, d.before a0 Z = true) (ws : List Jvm.Cond) (b d : Addr) (k : Nat) (f : Nat → Int32) (n0 : Nat) (cS : Int32) (h0 : Heap) (Z0 : n0 ≤ h0.size) (hk : k < 16) (E_b : Exa Z h0 b "java/lang/StringBuilder") (Gv : Fld Z h0 b "java/lang/AbstractStringBuilder" "value" "[B" (.ref d)) (Gc : Fld Z h0 b "java/lang/AbstractStringBuilder" "coder" "B" (.int (0 : Int32))) (Gn : Fld Z h0 b "java/lang/AbstractStringBuilder" "count" "I" (.int (Int32.ofNat k))) (V_d : Ary Z h0 d .byte (IL 16 f)) (g_b : n0 ≤ b) (g_d : n0 ≤ d) (ne_b_d : b ≠ d) (O0 : Old Z n0 h0) (Sc : Sta Z Z.heap "java/lang/String" "COMPACT_STRINGS" "Z" (.int cS)) (hcS : ¬ (cS = (0 : Int32))) :
    Mt l Z (⟨"java/lang/StringBuilder", "toString", "()Ljava/lang/String;"⟩ : MethodName) jdk_67_method_42_code 1 (some (.object "java/lang/String")) ws ({ frames := 5, cells := 2, slots := 20, locals := 121 } : Room) #[(.ref b)] h0 (fun v h L => ∃ x t, v = some (.ref x) ∧ Fr n0 L ∧ Keep h0 h [] ∧ h0.size ≤ x ∧ Exa Z h x "java/lang/String" ∧ Fld Z h x "java/lang/String" "coder" "B" (.int (0 : Int32)) ∧ Fld Z h x "java/lang/String" "value" "[B" (.ref t) ∧ Ary Z h t .byte (IL k f)) := by
  refine Mt.body pn_tos ?_
  intro p e s m below meth c s₁ hx hby hml hown hnm hret hlk hZ X0 e0
  refine Go.cast (g' := (mkF m 0 #[rv b] [])) (ef_tos m b) ?_
  have N0 := Fr.nil n0
  have K0 := Keep.refl h0 ([] : List Addr)
  obtain ⟨T1, h1, X1, e1, E1, A1, D1, U1, st1⟩ := newO X0 hx hZ hown (hw _ (List.mem_of_getElem? (i := 115) rfl)) (hw _ (List.mem_of_getElem? (i := 6) rfl)) (hw _ (List.mem_of_getElem? (i := 7) rfl)) e0 (g := (mkF m 0 #[rv b] [])) rfl (hb hby dtos_0) (by decide) (by decide)
  obtain ⟨b1, g1⟩ : ∃ z, z = h0.size := ⟨_, rfl⟩
  rw [← g1] at A1 D1 st1
  have ne_b_b1 : b ≠ b1 := Nat.ne_of_lt (Nat.lt_of_lt_of_eq (E_b).lt g1.symm)
  have ne_d_b1 : d ≠ b1 := Nat.ne_of_lt (Nat.lt_of_lt_of_eq (V_d).lt g1.symm)
  have g_b1 : n0 ≤ b1 := Nat.le_trans Z0 (Nat.le_of_eq g1.symm)
  have sz_b1 : h0.size ≤ b1 := Nat.le_trans K0.1 (Nat.le_of_eq g1.symm)
  have O2 := O0.ext E1
  have Z3 : n0 ≤ h1.size := Nat.le_trans Z0 E1.1
  have K4 : Keep h0 h1 ([] : List Addr) := K0.ext E1
  have f5 : Fld Z h1 b1 "java/lang/String" "coder" "B" (.int (0 : Int32)) := D1 (Or.inr (hw _ (List.mem_of_getElem? (i := 32) rfl))) (ty := .byte) (by decide)
  have f6 : Fld Z h1 b1 "java/lang/String" "value" "[B" .null := D1 (Or.inr (hw _ (List.mem_of_getElem? (i := 34) rfl))) (ty := (.array .byte)) (by decide)
  refine Go.st (T' := T1) (g' := (mkF m 3 #[rv b] [(.ref b1)])) ?_ st1
  refine Go.st (T' := T1) (g' := (mkF m 5 #[rv b] [(.ref b), (.ref b1), (.ref b1)])) ?_ (fun _ kk_ => XS.dup X1.here hx rfl (hb hby dtos_3) rfl rfl (XS.aloadN X1.here hx rfl (hb hby dtos_4) rfl rfl  kk_))
  have f7 := (E_b.ext E1)
  have f8 := (Gv.ext E1)
  have f9 := (Gc.ext E1)
  have f10 := (Gn.ext E1)
  have f11 := (V_d.ext E1)
  refine Go.callN (y := (⟨"java/lang/String", "<init>", "(Ljava/lang/StringBuilder;)V"⟩ : MethodName)) X1 hx hZ rfl hown (hw _ (List.mem_of_getElem? (i := 116) rfl)) (hw _ (List.mem_of_getElem? (i := 117) rfl)) (hw _ (List.mem_of_getElem? (i := 7) rfl)) (hw _ (List.mem_of_getElem? (i := 118) rfl)) (by decide) 1 (rm_isb l Z a0 hw [] b1 b d k f n0 cS h1 Z3 hk A1 f6 f5 g_b1 f7 f8 f9 f10 f11 g_b g_d ne_b_d O2 Sc hcS (Ne.symm ne_b_b1) (Ne.symm ne_d_b1)) e1 (by decide) (by decide) (by decide) (by decide) (a := b1) (argsL := [(.ref b)]) (rest := [(.ref b1)]) rfl (by rw [hml]; rfl) (lenOf pd__28Ljava_2flang_2fStringBuilder_3b_29V rfl) rfl rfl (by show 2 * 0 + _ ≤ _; exact Nat.le_of_eq rfl) (hb hby dtos_5) ?_
  rintro _ T12 L12 X12 ⟨rfl, N12, K12, Fc12, t, tz, Fv12, V12⟩
  have N13 := Fr.app N0 N12
  have O14 := O2.keep K12 (allS (P := fun z_ => n0 ≤ z_) g_b1 all0)
  have Z15 : n0 ≤ T12.heap.size := Nat.le_trans Z3 K12.1
  have K16 : Keep h0 T12.heap ([] : List Addr) := K4.trans K12 (allS (P := fun z_ => z_ ∈ ([] : List Addr) ∨ h0.size ≤ z_) (Or.inr sz_b1) all0)
  show Go p e below _ T12 (mkF m 8 #[rv b] [(.ref b1)])
  have f17 := (A1.keep K12)
  refine Go.retA X12 hx hlk hret rfl rfl (hb hby dtos_8) (by decide) (by decide) ?_
  exact ⟨b1, t, rfl, N13, K16, sz_b1, f17, Fc12, Fv12, V12⟩
theorem dcan_0 : decode jdk_43_method_3_code 0 = .ok (.iload_n 0, 1) := by decide +kernel
theorem dcan_1 : decode jdk_43_method_3_code 1 = .ok (.sipush 255, 3) := by decide +kernel
theorem dcan_4 : decode jdk_43_method_3_code 4 = .ok (.if_icmp .gt 7, 3) := by decide +kernel
theorem dcan_7 : decode jdk_43_method_3_code 7 = .ok (.iconst 1, 1) := by decide +kernel
theorem dcan_8 : decode jdk_43_method_3_code 8 = .ok (.goto 4, 3) := by decide +kernel
theorem dcan_12 : decode jdk_43_method_3_code 12 = .ok (.ireturn, 1) := by decide +kernel
theorem pn_can : plainFor (⟨"java/lang/StringLatin1", "canEncode", "(C)Z"⟩ : MethodName) = true := by first | exact plainFor_of_name (by first | (simp [plainName, overriddenIn]; done) | decide +kernel) | decide +kernel
theorem ef_can (m : MethodId) (x0 : Int32) : entryFrame m #[(.int x0)] 1 = mkF m 0 #[iv x0] [] := by first | (simp [entryFrame, mkF, argsToLocals, Value.category]; done) | rfl
set_option maxRecDepth 65536 in
set_option maxHeartbeats 40000000 in
theorem rm_can (l : Launch) (Z : State) (a0 : Array Value) (hw : ∀ d ∈ tables_1, d.before a0 Z = true) (ws : List Jvm.Cond) (x : Nat) (h0 : Heap) (hx_ : x < 256) :
    Mt l Z (⟨"java/lang/StringLatin1", "canEncode", "(C)Z"⟩ : MethodName) jdk_43_method_3_code 1 (some .boolean) ws ({ frames := 0, cells := 0, slots := 0, locals := 0 } : Room) #[(.int (Int32.ofNat x))] h0 (fun v h L => v = some (.int (1 : Int32)) ∧ h = h0 ∧ L = []) := by
  refine Mt.body pn_can ?_
  intro p e s m below meth c s₁ hx hby hml hown hnm hret hlk hZ X0 e0
  refine Go.cast (g' := (mkF m 0 #[iv (Int32.ofNat x)] [])) (ef_can m (Int32.ofNat x)) ?_
  have N0 := Fr.nil 0
  refine Go.st (T' := s₁) (g' := (mkF m 12 #[iv (Int32.ofNat x)] [(.int (1 : Int32))])) ?_ (fun _ kk_ => XS.iloadN X0.here hx rfl (hb hby dcan_0) rfl  (XS.sipush X0.here hx rfl (hb hby dcan_1) (XS.icmpNo X0.here hx rfl (hb hby dcan_4) rfl (flt ((fun z => by have := (own_lt (i := 255) (n := x) (by decide) (by omega)).mp z; omega) : ¬ ((255 : Int32) < (Int32.ofNat x)))).2.2.1 (XS.iconst X0.here hx rfl (hb hby dcan_7) (XS.goto X0.here hx rfl (pc0 := 8) (pc' := 12) rfl (hb hby dcan_8) (by decide) (by decide) kk_)))))
  refine Go.retN X0 hx hlk (t := .boolean) hret (by simp) (z' := (1 : Int32)) rfl (hb hby dcan_12) (by decide) (by decide) ?_
  try rw [e0]
  exact ⟨rfl, rfl, rfl⟩
theorem dtob_0 : decode jdk_43_method_46_code 0 = .ok (.iconst 1, 1) := by decide +kernel
theorem dtob_1 : decode jdk_43_method_46_code 1 = .ok (.newarray .byte, 2) := by decide +kernel
theorem dtob_3 : decode jdk_43_method_46_code 3 = .ok (.dup, 1) := by decide +kernel
theorem dtob_4 : decode jdk_43_method_46_code 4 = .ok (.iconst 0, 1) := by decide +kernel
theorem dtob_5 : decode jdk_43_method_46_code 5 = .ok (.iload_n 0, 1) := by decide +kernel
theorem dtob_6 : decode jdk_43_method_46_code 6 = .ok (.i2b, 1) := by decide +kernel
theorem dtob_7 : decode jdk_43_method_46_code 7 = .ok (.bastore, 1) := by decide +kernel
theorem dtob_8 : decode jdk_43_method_46_code 8 = .ok (.areturn, 1) := by decide +kernel
theorem pn_tob : plainFor (⟨"java/lang/StringLatin1", "toBytes", "(C)[B"⟩ : MethodName) = true := by first | exact plainFor_of_name (by first | (simp [plainName, overriddenIn]; done) | decide +kernel) | decide +kernel
theorem ef_tob (m : MethodId) (x0 : Int32) : entryFrame m #[(.int x0)] 1 = mkF m 0 #[iv x0] [] := by first | (simp [entryFrame, mkF, argsToLocals, Value.category]; done) | rfl
set_option maxRecDepth 65536 in
set_option maxHeartbeats 40000000 in
theorem rm_tob (l : Launch) (Z : State) (a0 : Array Value) (hw : ∀ d ∈ tables_1, d.before a0 Z = true) (ws : List Jvm.Cond) (x : Nat) (n0 : Nat) (h0 : Heap) (Z0 : n0 ≤ h0.size) (hx_ : x < 256) :
    Mt l Z (⟨"java/lang/StringLatin1", "toBytes", "(C)[B"⟩ : MethodName) jdk_43_method_46_code 1 (some (.array .byte)) ws ({ frames := 0, cells := 1, slots := 1, locals := 0 } : Room) #[(.int (Int32.ofNat x))] h0 (fun v h L => ∃ t, v = some (.ref t) ∧ Fr n0 L ∧ Keep h0 h [] ∧ h0.size ≤ t ∧ Ary Z h t .byte (IL 1 (fun _ => bI x))) := by
  refine Mt.body pn_tob ?_
  intro p e s m below meth c s₁ hx hby hml hown hnm hret hlk hZ X0 e0
  refine Go.cast (g' := (mkF m 0 #[iv (Int32.ofNat x)] [])) (ef_tob m (Int32.ofNat x)) ?_
  have N0 := Fr.nil n0
  have K0 := Keep.refl h0 ([] : List Addr)
  refine Go.st (T' := s₁) (g' := (mkF m 1 #[iv (Int32.ofNat x)] [(.int (1 : Int32))])) ?_ (fun _ kk_ => XS.iconst X0.here hx rfl (hb hby dtob_0) kk_)
  refine Go.newP X0 hx hZ (aty := .byte) (hw _ (List.mem_of_getElem? (i := 24) rfl)) e0 rfl (hb hby dtob_1) (n := 1) rfl rfl 1 (by decide) (by decide) (by decide) (by decide) ?_
  intro T1 h1 b1 X1 e1 E1 g1 V1
  have g_b1 : n0 ≤ b1 := Nat.le_trans Z0 (Nat.le_of_eq g1.symm)
  have sz_b1 : h0.size ≤ b1 := Nat.le_trans K0.1 (Nat.le_of_eq g1.symm)
  have Z2 : n0 ≤ h1.size := Nat.le_trans Z0 E1.1
  have K3 : Keep h0 h1 ([] : List Addr) := K0.ext E1
  change Ary Z h1 b1 .byte [.int 0] at V1
  show Go p e below _ T1 (mkF m 3 #[iv (Int32.ofNat x)] [(.ref b1)])
  refine Go.st (T' := T1) (g' := (mkF m 7 #[iv (Int32.ofNat x)] [(.int ((Int32.ofNat x).toInt8.toInt32)), (.int (0 : Int32)), (.ref b1), (.ref b1)])) ?_ (fun _ kk_ => XS.dup X1.here hx rfl (hb hby dtob_3) rfl rfl (XS.iconst X1.here hx rfl (hb hby dtob_4) (XS.iloadN X1.here hx rfl (hb hby dtob_5) rfl  (XS.i2b X1.here hx rfl (hb hby dtob_6) rfl kk_))))
  refine Go.bastore X1 hx hZ e1 V1 (i := 0) (Nat.le_of_ble_eq_true rfl) rfl rfl rfl (hb hby dtob_7) ?_
  intro T4 h4 X4 e4 W4 V4
  have N5 := Fr.snoc X4 N0 g_b1
  have K6 : Keep h0 h4 ([] : List Addr) := K3.wr W4 (Or.inr sz_b1)
  have Z7 : n0 ≤ h4.size := by rw [W4.size]; exact Z2
  show Go p e below _ T4 (mkF m 8 #[iv (Int32.ofNat x)] [(.ref b1)])
  rw [show ((Int32.ofNat x).toInt8.toInt32).toInt8.toInt32 = bI x from bI_twice _ hx_] at V4
  refine Go.retA X4 hx hlk hret rfl rfl (hb hby dtob_8) (by decide) (by decide) ?_
  try rw [e4]
  exact ⟨b1, rfl, N5, K6, sz_b1, V4⟩
theorem dibb_0 : decode jdk_42_method_151_code 0 = .ok (.aload_n 0, 1) := by decide +kernel
theorem dibb_1 : decode jdk_42_method_151_code 1 = .ok (.invokespecial 1, 3) := by decide +kernel
theorem dibb_4 : decode jdk_42_method_151_code 4 = .ok (.aload_n 0, 1) := by decide +kernel
theorem dibb_5 : decode jdk_42_method_151_code 5 = .ok (.aload_n 1, 1) := by decide +kernel
theorem dibb_6 : decode jdk_42_method_151_code 6 = .ok (.putfield 9, 3) := by decide +kernel
theorem dibb_9 : decode jdk_42_method_151_code 9 = .ok (.aload_n 0, 1) := by decide +kernel
theorem dibb_10 : decode jdk_42_method_151_code 10 = .ok (.iload_n 2, 1) := by decide +kernel
theorem dibb_11 : decode jdk_42_method_151_code 11 = .ok (.putfield 15, 3) := by decide +kernel
theorem dibb_14 : decode jdk_42_method_151_code 14 = .ok (.return_, 1) := by decide +kernel
theorem pn_ibb : plainFor (⟨"java/lang/String", "<init>", "([BB)V"⟩ : MethodName) = true := by first | exact plainFor_of_name (by first | (simp [plainName, overriddenIn]; done) | decide +kernel) | decide +kernel
theorem ef_ibb (m : MethodId) (x0 : Addr) (x1 : Addr) (x2 : Int32) : entryFrame m #[(.ref x0), (.ref x1), (.int x2)] 3 = mkF m 0 #[rv x0, rv x1, iv x2] [] := by first | (simp [entryFrame, mkF, argsToLocals, Value.category]; done) | rfl
set_option maxRecDepth 65536 in
set_option maxHeartbeats 40000000 in
theorem rm_ibb (l : Launch) (Z : State) (a0 : Array Value) (hw : ∀ d ∈ tables_1, d.before a0 Z = true) (ws : List Jvm.Cond) (x t : Addr) (n0 : Nat) (h0 : Heap) (Z0 : n0 ≤ h0.size) (E_x : Exa Z h0 x "java/lang/String") (Fv : Fld Z h0 x "java/lang/String" "value" "[B" .null) (Fc : Fld Z h0 x "java/lang/String" "coder" "B" (.int (0 : Int32))) (g_x : n0 ≤ x) :
    Mt l Z (⟨"java/lang/String", "<init>", "([BB)V"⟩ : MethodName) jdk_42_method_151_code 3 none ws ({ frames := 1, cells := 0, slots := 0, locals := 12 } : Room) #[(.ref x), (.ref t), (.int (0 : Int32))] h0 (fun v h L => v = none ∧ Fr n0 L ∧ Keep h0 h [x] ∧ Fld Z h x "java/lang/String" "coder" "B" (.int (0 : Int32)) ∧ Fld Z h x "java/lang/String" "value" "[B" (.ref t)) := by
  refine Mt.body pn_ibb ?_
  intro p e s m below meth c s₁ hx hby hml hown hnm hret hlk hZ X0 e0
  refine Go.cast (g' := (mkF m 0 #[rv x, rv t, iv (0 : Int32)] [])) (ef_ibb m x t (0 : Int32)) ?_
  have N0 := Fr.nil n0
  have K0 := Keep.refl h0 [x]
  refine Go.st (T' := s₁) (g' := (mkF m 1 #[rv x, rv t, iv (0 : Int32)] [(.ref x)])) ?_ (fun _ kk_ => XS.aloadN X0.here hx rfl (hb hby dibb_0) rfl rfl  kk_)
  obtain ⟨T1, X1, e1, st1⟩ := initO X0 hx hZ hown (hw _ (List.mem_of_getElem? (i := 16) rfl)) (hw _ (List.mem_of_getElem? (i := 17) rfl)) (hw _ (List.mem_of_getElem? (i := 18) rfl)) e0 (g := (mkF m 1 #[rv x, rv t, iv (0 : Int32)] [(.ref x)])) rfl (by rw [hml]; rfl) rfl (hb hby dibb_1) (by decide) (W := 0) (by show 2 * 0 + _ ≤ _; exact Nat.le_of_eq rfl) (by decide)
  refine Go.st (T' := T1) (g' := (mkF m 4 #[rv x, rv t, iv (0 : Int32)] [])) ?_ st1
  refine Go.st (T' := T1) (g' := (mkF m 6 #[rv x, rv t, iv (0 : Int32)] [(.ref t), (.ref x)])) ?_ (fun _ kk_ => XS.aloadN X1.here hx rfl (hb hby dibb_4) rfl rfl  (XS.aloadN X1.here hx rfl (hb hby dibb_5) rfl rfl  kk_))
  obtain ⟨T2, h2, X2, e2, W2, st2⟩ := putF X1 hx hZ hown (host := "") (Or.inl (hw _ (List.mem_of_getElem? (i := 33) rfl))) Via.refl e1 Fv E_x (Or.inr ⟨(hw _ (List.mem_of_getElem? (i := 34) rfl)), rfl, hnm⟩) (hw _ (List.mem_of_getElem? (i := 6) rfl)) (ty := (.array .byte)) (by decide) rfl rfl (g := (mkF m 6 #[rv x, rv t, iv (0 : Int32)] [(.ref t), (.ref x)])) rfl rfl (hb hby dibb_6)
  have N3 := Fr.snoc X2 N0 g_x
  have f4 := Fv.same W2
  have K5 : Keep h0 h2 [x] := K0.wr W2 (Or.inl (List.mem_of_getElem? (i := 0) rfl))
  have Z6 : n0 ≤ h2.size := by rw [W2.size]; exact Z0
  refine Go.st (T' := T2) (g' := (mkF m 9 #[rv x, rv t, iv (0 : Int32)] [])) ?_ st2
  refine Go.st (T' := T2) (g' := (mkF m 11 #[rv x, rv t, iv (0 : Int32)] [(.int (0 : Int32)), (.ref x)])) ?_ (fun _ kk_ => XS.aloadN X2.here hx rfl (hb hby dibb_9) rfl rfl  (XS.iloadN X2.here hx rfl (hb hby dibb_10) rfl  kk_))
  have f7 := (Fc.other W2 (Or.inr (slot_ne (C := "java/lang/String") (Or.inr (hw _ (List.mem_of_getElem? (i := 32) rfl))) (Or.inr (hw _ (List.mem_of_getElem? (i := 34) rfl))) (by decide) (t := .byte) (t' := (.array .byte)) (by decide) (by decide))))
  have f8 := (E_x.wr W2)
  obtain ⟨T9, h9, X9, e9, W9, st9⟩ := putFN X2 hx hZ hown (hw _ (List.mem_of_getElem? (i := 31) rfl)) Via.refl e2 f7 f8 (Or.inr ⟨(hw _ (List.mem_of_getElem? (i := 32) rfl)), rfl, hnm⟩) (hw _ (List.mem_of_getElem? (i := 6) rfl)) (ty := .byte) (v' := (.int (0 : Int32))) (by decide) (by decide) (by decide) (g := (mkF m 11 #[rv x, rv t, iv (0 : Int32)] [(.int (0 : Int32)), (.ref x)])) rfl rfl (hb hby dibb_11)
  have N10 := Fr.snoc X9 N3 g_x
  have f11 := f7.same W9
  have K12 : Keep h0 h9 [x] := K5.wr W9 (Or.inl (List.mem_of_getElem? (i := 0) rfl))
  have Z13 : n0 ≤ h9.size := by rw [W9.size]; exact Z6
  refine Go.st (T' := T9) (g' := (mkF m 14 #[rv x, rv t, iv (0 : Int32)] [])) ?_ st9
  have f14 := (f4.other W9 (Or.inr (slot_ne (C := "java/lang/String") (Or.inr (hw _ (List.mem_of_getElem? (i := 34) rfl))) (Or.inr (hw _ (List.mem_of_getElem? (i := 32) rfl))) (by decide) (t := (.array .byte)) (t' := .byte) (by decide) (by decide))))
  refine Go.retV X9 hx hlk hret (hb hby dibb_14) (by decide) (by decide) ?_
  try rw [e9]
  exact ⟨rfl, N10, K12, f11, f14⟩
theorem dvof_0 : decode jdk_42_method_139_code 0 = .ok (.getstatic 38, 3) := by decide +kernel
theorem dvof_3 : decode jdk_42_method_139_code 3 = .ok (.ifCond .eq 23, 3) := by decide +kernel
theorem dvof_6 : decode jdk_42_method_139_code 6 = .ok (.iload_n 0, 1) := by decide +kernel
theorem dvof_7 : decode jdk_42_method_139_code 7 = .ok (.invokestatic 1015, 3) := by decide +kernel
theorem dvof_10 : decode jdk_42_method_139_code 10 = .ok (.ifCond .eq 16, 3) := by decide +kernel
theorem dvof_13 : decode jdk_42_method_139_code 13 = .ok (.new 10, 3) := by decide +kernel
theorem dvof_16 : decode jdk_42_method_139_code 16 = .ok (.dup, 1) := by decide +kernel
theorem dvof_17 : decode jdk_42_method_139_code 17 = .ok (.iload_n 0, 1) := by decide +kernel
theorem dvof_18 : decode jdk_42_method_139_code 18 = .ok (.invokestatic 1018, 3) := by decide +kernel
theorem dvof_21 : decode jdk_42_method_139_code 21 = .ok (.iconst 0, 1) := by decide +kernel
theorem dvof_22 : decode jdk_42_method_139_code 22 = .ok (.invokespecial 209, 3) := by decide +kernel
theorem dvof_25 : decode jdk_42_method_139_code 25 = .ok (.areturn, 1) := by decide +kernel
theorem pn_vof : plainFor (⟨"java/lang/String", "valueOf", "(C)Ljava/lang/String;"⟩ : MethodName) = true := by first | exact plainFor_of_name (by first | (simp [plainName, overriddenIn]; done) | decide +kernel) | decide +kernel
theorem ef_vof (m : MethodId) (x0 : Int32) : entryFrame m #[(.int x0)] 1 = mkF m 0 #[iv x0] [] := by first | (simp [entryFrame, mkF, argsToLocals, Value.category]; done) | rfl
set_option maxRecDepth 65536 in
set_option maxHeartbeats 40000000 in
theorem rm_vof (l : Launch) (Z : State) (a0 : Array Value) (hw : ∀ d ∈ tables_1, d.before a0 Z = true) (ws : List Jvm.Cond) (x : Nat) (n0 : Nat) (cS : Int32) (h0 : Heap) (Z0 : n0 ≤ h0.size) (hx_ : x < 256) (O0 : Old Z n0 h0) (Sc : Sta Z Z.heap "java/lang/String" "COMPACT_STRINGS" "Z" (.int cS)) (hcS : ¬ (cS = (0 : Int32))) :
    Mt l Z (⟨"java/lang/String", "valueOf", "(C)Ljava/lang/String;"⟩ : MethodName) jdk_42_method_139_code 1 (some (.object "java/lang/String")) ws ({ frames := 2, cells := 2, slots := 5, locals := 29 } : Room) #[(.int (Int32.ofNat x))] h0 (fun v h L => ∃ a t, v = some (.ref a) ∧ Fr n0 L ∧ Keep h0 h [] ∧ h0.size ≤ a ∧ Exa Z h a "java/lang/String" ∧ Fld Z h a "java/lang/String" "coder" "B" (.int (0 : Int32)) ∧ Fld Z h a "java/lang/String" "value" "[B" (.ref t) ∧ Ary Z h t .byte (IL 1 (fun _ => bI x))) := by
  refine Mt.body pn_vof ?_
  intro p e s m below meth c s₁ hx hby hml hown hnm hret hlk hZ X0 e0
  refine Go.cast (g' := (mkF m 0 #[iv (Int32.ofNat x)] [])) (ef_vof m (Int32.ofNat x)) ?_
  have N0 := Fr.nil n0
  have K0 := Keep.refl h0 ([] : List Addr)
  obtain ⟨T1, X1, e1, st1⟩ := getS2 X0 hx hZ hown (host := "") (Or.inl (hw _ (List.mem_of_getElem? (i := 19) rfl))) Via.refl e0 (Sc.ext O0.2) (g := (mkF m 0 #[iv (Int32.ofNat x)] [])) rfl (hb hby dvof_0)
  refine Go.st (T' := T1) (g' := (mkF m 3 #[iv (Int32.ofNat x)] [(.int cS)])) ?_ st1
  refine Go.st (T' := T1) (g' := (mkF m 7 #[iv (Int32.ofNat x)] [(.int (Int32.ofNat x))])) ?_ (fun _ kk_ => XS.ifNo X1.here hx rfl (hb hby dvof_3) rfl ((if0 _ _).trans (feq (hcS : ¬ (cS = (0 : Int32)))).1) (XS.iloadN X1.here hx rfl (hb hby dvof_6) rfl  kk_))
  refine Go.callS (y := (⟨"java/lang/StringLatin1", "canEncode", "(C)Z"⟩ : MethodName)) X1 hx hZ hown (hw _ (List.mem_of_getElem? (i := 244) rfl)) (hw _ (List.mem_of_getElem? (i := 245) rfl)) (hw _ (List.mem_of_getElem? (i := 228) rfl)) (hw _ (List.mem_of_getElem? (i := 246) rfl)) (by decide) 0 (rm_can l Z a0 hw [] x h0 hx_) e1 (by decide) (by decide) (by decide) (by decide) (argsL := [(.int (Int32.ofNat x))]) (rest := []) rfl (by rw [hml]; rfl) (lenOf pd__28C_29Z rfl) rfl rfl (by show 2 * 0 + _ ≤ _; exact Nat.le_of_eq rfl) (hb hby dvof_7) ?_
  rintro _ T2 L2 X2 ⟨rfl, e2, rfl⟩
  have N3 := Fr.app N0 (Fr.nil _)
  show Go p e below _ T2 (mkF m 10 #[iv (Int32.ofNat x)] [(.int (1 : Int32))])
  refine Go.st (T' := T2) (g' := (mkF m 13 #[iv (Int32.ofNat x)] [])) ?_ (fun _ kk_ => XS.ifNo X2.here hx rfl (hb hby dvof_10) rfl ((if0 _ _).trans (feq ((by decide) : ¬ ((1 : Int32) = (0 : Int32)))).1) kk_)
  obtain ⟨T4, h4, X4, e4, E4, A4, D4, U4, st4⟩ := newO X2 hx hZ hown (hw _ (List.mem_of_getElem? (i := 247) rfl)) (hw _ (List.mem_of_getElem? (i := 6) rfl)) (hw _ (List.mem_of_getElem? (i := 7) rfl)) e2 (g := (mkF m 13 #[iv (Int32.ofNat x)] [])) rfl (hb hby dvof_13) (by decide) (by decide)
  obtain ⟨b4, g4⟩ : ∃ z, z = h0.size := ⟨_, rfl⟩
  rw [← g4] at A4 D4 st4
  have g_b4 : n0 ≤ b4 := Nat.le_trans Z0 (Nat.le_of_eq g4.symm)
  have sz_b4 : h0.size ≤ b4 := Nat.le_trans K0.1 (Nat.le_of_eq g4.symm)
  have O5 := O0.ext E4
  have Z6 : n0 ≤ h4.size := Nat.le_trans Z0 E4.1
  have K7 : Keep h0 h4 ([] : List Addr) := K0.ext E4
  have f8 : Fld Z h4 b4 "java/lang/String" "coder" "B" (.int (0 : Int32)) := D4 (Or.inr (hw _ (List.mem_of_getElem? (i := 32) rfl))) (ty := .byte) (by decide)
  have f9 : Fld Z h4 b4 "java/lang/String" "value" "[B" .null := D4 (Or.inr (hw _ (List.mem_of_getElem? (i := 34) rfl))) (ty := (.array .byte)) (by decide)
  refine Go.st (T' := T4) (g' := (mkF m 16 #[iv (Int32.ofNat x)] [(.ref b4)])) ?_ st4
  refine Go.st (T' := T4) (g' := (mkF m 18 #[iv (Int32.ofNat x)] [(.int (Int32.ofNat x)), (.ref b4), (.ref b4)])) ?_ (fun _ kk_ => XS.dup X4.here hx rfl (hb hby dvof_16) rfl rfl (XS.iloadN X4.here hx rfl (hb hby dvof_17) rfl  kk_))
  refine Go.callS (y := (⟨"java/lang/StringLatin1", "toBytes", "(C)[B"⟩ : MethodName)) X4 hx hZ hown (hw _ (List.mem_of_getElem? (i := 248) rfl)) (hw _ (List.mem_of_getElem? (i := 249) rfl)) (hw _ (List.mem_of_getElem? (i := 228) rfl)) (hw _ (List.mem_of_getElem? (i := 250) rfl)) (by decide) 2 (rm_tob l Z a0 hw [] x n0 h4 Z6 hx_) e4 (by decide) (by decide) (by decide) (by decide) (argsL := [(.int (Int32.ofNat x))]) (rest := [(.ref b4), (.ref b4)]) rfl (by rw [hml]; rfl) (lenOf pd__28C_29_5bB rfl) rfl rfl (by show 2 * 0 + _ ≤ _; exact Nat.le_of_eq rfl) (hb hby dvof_18) ?_
  rintro _ T10 L10 X10 ⟨t, rfl, N10, K10, tz, V_t⟩
  have N11 := Fr.app N3 N10
  have O12 := O5.keep K10 all0
  have Z13 : n0 ≤ T10.heap.size := Nat.le_trans Z6 K10.1
  have K14 : Keep h0 T10.heap ([] : List Addr) := K7.trans K10 all0
  show Go p e below _ T10 (mkF m 21 #[iv (Int32.ofNat x)] [(.ref t), (.ref b4), (.ref b4)])
  have ne_b4_t : b4 ≠ t := Nat.ne_of_lt (Nat.lt_of_lt_of_le (A4).lt tz)
  have g_t : n0 ≤ t := Nat.le_trans Z6 tz
  have sz_t : h0.size ≤ t := Nat.le_trans K7.1 tz
  refine Go.st (T' := T10) (g' := (mkF m 22 #[iv (Int32.ofNat x)] [(.int (0 : Int32)), (.ref t), (.ref b4), (.ref b4)])) ?_ (fun _ kk_ => XS.iconst X10.here hx rfl (hb hby dvof_21) kk_)
  have f15 := (A4.keep K10)
  have f16 := (f9.keep K10 nin0)
  have f17 := (f8.keep K10 nin0)
  refine Go.callN (y := (⟨"java/lang/String", "<init>", "([BB)V"⟩ : MethodName)) X10 hx hZ rfl hown (hw _ (List.mem_of_getElem? (i := 251) rfl)) (hw _ (List.mem_of_getElem? (i := 252) rfl)) (hw _ (List.mem_of_getElem? (i := 7) rfl)) (hw _ (List.mem_of_getElem? (i := 253) rfl)) (by decide) 1 (rm_ibb l Z a0 hw [] b4 t n0 T10.heap Z13 f15 f16 f17 g_b4) rfl (by decide) (by decide) (by decide) (by decide) (a := b4) (argsL := [(.ref t), (.int (0 : Int32))]) (rest := [(.ref b4)]) rfl (by rw [hml]; rfl) (lenOf pd__28_5bBB_29V rfl) rfl rfl (by show 2 * 0 + _ ≤ _; exact Nat.le_of_eq rfl) (hb hby dvof_22) ?_
  rintro _ T18 L18 X18 ⟨rfl, N18, K18, Fc18, Fv18⟩
  have N19 := Fr.app N11 N18
  have O20 := O12.keep K18 (allS (P := fun z_ => n0 ≤ z_) g_b4 all0)
  have Z21 : n0 ≤ T18.heap.size := Nat.le_trans Z13 K18.1
  have K22 : Keep h0 T18.heap ([] : List Addr) := K14.trans K18 (allS (P := fun z_ => z_ ∈ ([] : List Addr) ∨ h0.size ≤ z_) (Or.inr sz_b4) all0)
  show Go p e below _ T18 (mkF m 25 #[iv (Int32.ofNat x)] [(.ref b4)])
  have f23 := (f15.keep K18)
  have f24 := (V_t.keep K18 (ninS (Ne.symm ne_b4_t) nin0))
  refine Go.retA X18 hx hlk hret rfl rfl (hb hby dvof_25) (by decide) (by decide) ?_
  exact ⟨b4, t, rfl, N19, K22, sz_b4, f23, Fc18, Fv18, f24⟩
theorem dmks_0 : decode method_3_code 0 = .ok (.iload_n 0, 1) := by decide +kernel
theorem dmks_1 : decode method_3_code 1 = .ok (.ifCond .ne 14, 3) := by decide +kernel
theorem dmks_4 : decode method_3_code 4 = .ok (.new 25, 3) := by decide +kernel
theorem dmks_7 : decode method_3_code 7 = .ok (.dup, 1) := by decide +kernel
theorem dmks_8 : decode method_3_code 8 = .ok (.iconst 0, 1) := by decide +kernel
theorem dmks_9 : decode method_3_code 9 = .ok (.newarray .char, 2) := by decide +kernel
theorem dmks_11 : decode method_3_code 11 = .ok (.invokespecial 34, 3) := by decide +kernel
theorem dmks_14 : decode method_3_code 14 = .ok (.areturn, 1) := by decide +kernel
theorem dmks_15 : decode method_3_code 15 = .ok (.iload_n 0, 1) := by decide +kernel
theorem dmks_16 : decode method_3_code 16 = .ok (.iconst 1, 1) := by decide +kernel
theorem dmks_17 : decode method_3_code 17 = .ok (.if_icmp .ne 8, 3) := by decide +kernel
theorem dmks_20 : decode method_3_code 20 = .ok (.iload_n 1, 1) := by decide +kernel
theorem dmks_21 : decode method_3_code 21 = .ok (.invokestatic 37, 3) := by decide +kernel
theorem dmks_24 : decode method_3_code 24 = .ok (.areturn, 1) := by decide +kernel
theorem dmks_25 : decode method_3_code 25 = .ok (.new 25, 3) := by decide +kernel
theorem dmks_28 : decode method_3_code 28 = .ok (.dup, 1) := by decide +kernel
theorem dmks_29 : decode method_3_code 29 = .ok (.iconst 2, 1) := by decide +kernel
theorem dmks_30 : decode method_3_code 30 = .ok (.newarray .char, 2) := by decide +kernel
theorem dmks_32 : decode method_3_code 32 = .ok (.dup, 1) := by decide +kernel
theorem dmks_33 : decode method_3_code 33 = .ok (.iconst 0, 1) := by decide +kernel
theorem dmks_34 : decode method_3_code 34 = .ok (.iload_n 1, 1) := by decide +kernel
theorem dmks_35 : decode method_3_code 35 = .ok (.castore, 1) := by decide +kernel
theorem dmks_36 : decode method_3_code 36 = .ok (.dup, 1) := by decide +kernel
theorem dmks_37 : decode method_3_code 37 = .ok (.iconst 1, 1) := by decide +kernel
theorem dmks_38 : decode method_3_code 38 = .ok (.iload_n 2, 1) := by decide +kernel
theorem dmks_39 : decode method_3_code 39 = .ok (.castore, 1) := by decide +kernel
theorem dmks_40 : decode method_3_code 40 = .ok (.invokespecial 34, 3) := by decide +kernel
theorem dmks_43 : decode method_3_code 43 = .ok (.areturn, 1) := by decide +kernel
theorem pn_mks : plainFor (⟨"com/example/staleness/staleness/CommandExceptionUsagePinLaw", "mk", "(ICC)Ljava/lang/String;"⟩ : MethodName) = true := by first | exact plainFor_of_name (by first | (simp [plainName, overriddenIn]; done) | decide +kernel) | decide +kernel
theorem ef_mks (m : MethodId) (x0 : Int32) (x1 : Int32) (x2 : Int32) : entryFrame m #[(.int x0), (.int x1), (.int x2)] 3 = mkF m 0 #[iv x0, iv x1, iv x2] [] := by first | (simp [entryFrame, mkF, argsToLocals, Value.category]; done) | rfl
set_option maxRecDepth 65536 in
set_option maxHeartbeats 40000000 in
theorem rm_mks (l : Launch) (Z : State) (a0 : Array Value) (hw : ∀ d ∈ tables_1, d.before a0 Z = true) (ws : List Jvm.Cond) (n x0 x1 : Nat) (n0 : Nat) (cS : Int32) (h0 : Heap) (hEL : EW Z a0 consts_1) (wS : ∀ a ∈ Bundle.stringAtoms, a.before a0 Z = true) (Z0 : n0 ≤ h0.size) (hn : n ≤ 2) (h0_ : x0 < 256) (h1_ : x1 < 256) (O0 : Old Z n0 h0) (Sc : Sta Z Z.heap "java/lang/String" "COMPACT_STRINGS" "Z" (.int cS)) (hcS : ¬ (cS = (0 : Int32))) :
    MtH l Z consts_1 (⟨"com/example/staleness/staleness/CommandExceptionUsagePinLaw", "mk", "(ICC)Ljava/lang/String;"⟩ : MethodName) method_3_code 3 (some (.object "java/lang/String")) ws ({ frames := 4, cells := 6, slots := 14, locals := 72 } : Room) #[(.int (Int32.ofNat n)), (.int (Int32.ofNat x0)), (.int (Int32.ofNat x1))] h0 (fun v h L => ∃ a t, v = some (.ref a) ∧ Fr n0 L ∧ Keep h0 h [] ∧ h0.size ≤ a ∧ Exa Z h a "java/lang/String" ∧ Fld Z h a "java/lang/String" "coder" "B" (.int (0 : Int32)) ∧ Fld Z h a "java/lang/String" "value" "[B" (.ref t) ∧ Ary Z h t .byte (IL n (fun q => bI (c2 x0 x1 q)))) := by
  refine MtH.body pn_mks ?_
  intro p e s m below meth c s₁ hx hby hml hown hnm hret hlk hZ X0 e0 HS0
  refine Go.cast (g' := (mkF m 0 #[iv (Int32.ofNat n), iv (Int32.ofNat x0), iv (Int32.ofNat x1)] [])) (ef_mks m (Int32.ofNat n) (Int32.ofNat x0) (Int32.ofNat x1)) ?_
  have N0 := Fr.nil n0
  have K0 := Keep.refl h0 ([] : List Addr)
  rcases (show n = 0 ∨ n = 1 ∨ n = 2 by omega) with rfl | rfl | rfl
  ·
    show Go p e below _ s₁ (mkF m 0 #[iv (0 : Int32), iv (Int32.ofNat x0), iv (Int32.ofNat x1)] [])
    refine Go.st (T' := s₁) (g' := (mkF m 4 #[iv (0 : Int32), iv (Int32.ofNat x0), iv (Int32.ofNat x1)] [])) ?_ (fun _ kk_ => XS.iloadN X0.here hx rfl (hb hby dmks_0) rfl  (XS.ifNo X0.here hx rfl (hb hby dmks_1) rfl ((if0 _ _).trans (teq ((by decide) : (0 : Int32) = (0 : Int32))).2) kk_))
    obtain ⟨T1, h1, X1, e1, E1, A1, D1, U1, st1⟩ := newO X0 hx hZ hown (hw _ (List.mem_of_getElem? (i := 5) rfl)) (hw _ (List.mem_of_getElem? (i := 6) rfl)) (hw _ (List.mem_of_getElem? (i := 7) rfl)) e0 (g := (mkF m 4 #[iv (0 : Int32), iv (Int32.ofNat x0), iv (Int32.ofNat x1)] [])) rfl (hb hby dmks_4) (by decide) (by decide)
    obtain ⟨b1, g1⟩ : ∃ z, z = h0.size := ⟨_, rfl⟩
    rw [← g1] at A1 D1 st1
    have g_b1 : n0 ≤ b1 := Nat.le_trans Z0 (Nat.le_of_eq g1.symm)
    have sz_b1 : h0.size ≤ b1 := Nat.le_trans K0.1 (Nat.le_of_eq g1.symm)
    have HS2 := HS.ext HS0 E1
    have O3 := O0.ext E1
    have Z4 : n0 ≤ h1.size := Nat.le_trans Z0 E1.1
    have K5 : Keep h0 h1 ([] : List Addr) := K0.ext E1
    have sf6 := Sf.born HS0 E1 g1 A1.lt
    have f7 : Fld Z h1 b1 "java/lang/String" "coder" "B" (.int (0 : Int32)) := D1 (Or.inr (hw _ (List.mem_of_getElem? (i := 32) rfl))) (ty := .byte) (by decide)
    have f8 : Fld Z h1 b1 "java/lang/String" "value" "[B" .null := D1 (Or.inr (hw _ (List.mem_of_getElem? (i := 34) rfl))) (ty := (.array .byte)) (by decide)
    refine Go.st (T' := T1) (g' := (mkF m 7 #[iv (0 : Int32), iv (Int32.ofNat x0), iv (Int32.ofNat x1)] [(.ref b1)])) ?_ st1
    refine Go.st (T' := T1) (g' := (mkF m 9 #[iv (0 : Int32), iv (Int32.ofNat x0), iv (Int32.ofNat x1)] [(.int (0 : Int32)), (.ref b1), (.ref b1)])) ?_ (fun _ kk_ => XS.dup X1.here hx rfl (hb hby dmks_7) rfl rfl (XS.iconst X1.here hx rfl (hb hby dmks_8) kk_))
    refine Go.newP X1 hx hZ (aty := .char) (hw _ (List.mem_of_getElem? (i := 8) rfl)) e1 rfl (hb hby dmks_9) (n := 0) rfl rfl 0 (by decide) (by decide) (by decide) (by decide) ?_
    intro T9 h9 b9 X9 e9 E9 g9 V9
    have ne_b1_b9 : b1 ≠ b9 := Nat.ne_of_lt (Nat.lt_of_lt_of_eq (A1).lt g9.symm)
    have g_b9 : n0 ≤ b9 := Nat.le_trans Z4 (Nat.le_of_eq g9.symm)
    have sz_b9 : h0.size ≤ b9 := Nat.le_trans K5.1 (Nat.le_of_eq g9.symm)
    have HS10 := HS.ext HS2 E9
    have O11 := O3.ext E9
    have Z12 : n0 ≤ h9.size := Nat.le_trans Z4 E9.1
    have K13 : Keep h0 h9 ([] : List Addr) := K5.ext E9
    change Ary Z h9 b9 .char [] at V9
    have sf14 := Sf.born HS2 E9 g9 V9.lt
    show Go p e below _ T9 (mkF m 11 #[iv (0 : Int32), iv (Int32.ofNat x0), iv (Int32.ofNat x1)] [(.ref b9), (.ref b1), (.ref b1)])
    have f15 := (A1.ext E9)
    have f16 := (f8.ext E9)
    have f17 := (f7.ext E9)
    refine Go.callNH (y := (⟨"java/lang/String", "<init>", "([C)V"⟩ : MethodName)) X9 hx hZ rfl hown (hw _ (List.mem_of_getElem? (i := 9) rfl)) (hw _ (List.mem_of_getElem? (i := 10) rfl)) (hw _ (List.mem_of_getElem? (i := 7) rfl)) (hw _ (List.mem_of_getElem? (i := 11) rfl)) (by decide) 1 HS10 hEL (rm_i1E l Z a0 hw [] b1 b9 n0 h9 hEL wS Z12 V9 f15 f16 f17 g_b1) e9 (by decide) (by decide) (by decide) (by decide) (a := b1) (argsL := [(.ref b9)]) (rest := [(.ref b1)]) rfl (by rw [hml]; rfl) (lenOf pd__28_5bC_29V rfl) rfl rfl (by show 2 * 0 + _ ≤ _; exact Nat.le_of_eq rfl) (hb hby dmks_11) ?_
    rintro _ T18 L18 X18 ⟨rfl, N18, K18, Fc18, t, Fv18, V18⟩ hZ18 ho18 HS18 C18
    have N19 := Fr.app N0 N18
    have O20 := O11.keep K18 (allS (P := fun z_ => n0 ≤ z_) g_b1 all0)
    have Z21 : n0 ≤ T18.heap.size := Nat.le_trans Z12 K18.1
    have K22 : Keep h0 T18.heap ([] : List Addr) := K13.trans K18 (allS (P := fun z_ => z_ ∈ ([] : List Addr) ∨ h0.size ≤ z_) (Or.inr sz_b1) all0)
    show Go p e below _ T18 (mkF m 14 #[iv (0 : Int32), iv (Int32.ofNat x0), iv (Int32.ofNat x1)] [(.ref b1)])
    have f23 := (f15.keep K18)
    refine Go.retAH X18 hx hlk hret rfl rfl (hb hby dmks_14) (by decide) (by decide) hZ18 hEL HS18 ?_
    exact ⟨b1, t, rfl, N19, K22, sz_b1, f23, Fc18, Fv18, V18⟩
  ·
    show Go p e below _ s₁ (mkF m 0 #[iv (1 : Int32), iv (Int32.ofNat x0), iv (Int32.ofNat x1)] [])
    refine Go.st (T' := s₁) (g' := (mkF m 21 #[iv (1 : Int32), iv (Int32.ofNat x0), iv (Int32.ofNat x1)] [(.int (Int32.ofNat x0))])) ?_ (fun _ kk_ => XS.iloadN X0.here hx rfl (hb hby dmks_0) rfl  (XS.ifYes X0.here hx rfl (pc0 := 1) (pc' := 15) rfl (hb hby dmks_1) rfl ((if0 _ _).trans (feq ((by decide) : ¬ ((1 : Int32) = (0 : Int32)))).2) (by decide) (by decide) (XS.iloadN X0.here hx rfl (hb hby dmks_15) rfl  (XS.iconst X0.here hx rfl (hb hby dmks_16) (XS.icmpNo X0.here hx rfl (hb hby dmks_17) rfl (teq ((by decide) : (1 : Int32) = (1 : Int32))).2 (XS.iloadN X0.here hx rfl (hb hby dmks_20) rfl  kk_))))))
    refine Go.callS (y := (⟨"java/lang/String", "valueOf", "(C)Ljava/lang/String;"⟩ : MethodName)) X0 hx hZ hown (hw _ (List.mem_of_getElem? (i := 241) rfl)) (hw _ (List.mem_of_getElem? (i := 242) rfl)) (hw _ (List.mem_of_getElem? (i := 7) rfl)) (hw _ (List.mem_of_getElem? (i := 243) rfl)) (by decide) 0 (rm_vof l Z a0 hw [] x0 n0 cS h0 Z0 h0_ O0 Sc hcS) e0 (by decide) (by decide) (by decide) (by decide) (argsL := [(.int (Int32.ofNat x0))]) (rest := []) rfl (by rw [hml]; rfl) (lenOf pd__28C_29Ljava_2flang_2fString_3b rfl) rfl rfl (by show 2 * 0 + _ ≤ _; exact Nat.le_of_eq rfl) (hb hby dmks_21) ?_
    rintro _ T24 L24 X24 ⟨a, t, rfl, N24, K24, az, q1, q2, q3, q4⟩
    have N25 := Fr.app N0 N24
    have HS26 := HS.keep HS0 K24 sf0
    have O27 := O0.keep K24 all0
    have Z28 : n0 ≤ T24.heap.size := Nat.le_trans Z0 K24.1
    have K29 : Keep h0 T24.heap ([] : List Addr) := K0.trans K24 all0
    show Go p e below _ T24 (mkF m 24 #[iv (1 : Int32), iv (Int32.ofNat x0), iv (Int32.ofNat x1)] [(.ref a)])
    have q5 : IL 1 (fun _ => bI x0) = IL 1 (fun q => bI (c2 x0 x1 q)) := IL_congr (fun q hq => by rw [show q = 0 by omega]; rfl)
    rw [q5] at q4
    refine Go.retAH X24 hx hlk hret rfl rfl (hb hby dmks_24) (by decide) (by decide) hZ hEL HS26 ?_
    exact ⟨a, t, rfl, N25, K29, az, q1, q2, q3, q4⟩
  ·
    show Go p e below _ s₁ (mkF m 0 #[iv (2 : Int32), iv (Int32.ofNat x0), iv (Int32.ofNat x1)] [])
    refine Go.st (T' := s₁) (g' := (mkF m 25 #[iv (2 : Int32), iv (Int32.ofNat x0), iv (Int32.ofNat x1)] [])) ?_ (fun _ kk_ => XS.iloadN X0.here hx rfl (hb hby dmks_0) rfl  (XS.ifYes X0.here hx rfl (pc0 := 1) (pc' := 15) rfl (hb hby dmks_1) rfl ((if0 _ _).trans (feq ((by decide) : ¬ ((2 : Int32) = (0 : Int32)))).2) (by decide) (by decide) (XS.iloadN X0.here hx rfl (hb hby dmks_15) rfl  (XS.iconst X0.here hx rfl (hb hby dmks_16) (XS.icmpYes X0.here hx rfl (pc0 := 17) (pc' := 25) rfl (hb hby dmks_17) rfl (feq ((by decide) : ¬ ((2 : Int32) = (1 : Int32)))).2 (by decide) (by decide) kk_)))))
    obtain ⟨T30, h30, X30, e30, E30, A30, D30, U30, st30⟩ := newO X0 hx hZ hown (hw _ (List.mem_of_getElem? (i := 5) rfl)) (hw _ (List.mem_of_getElem? (i := 6) rfl)) (hw _ (List.mem_of_getElem? (i := 7) rfl)) e0 (g := (mkF m 25 #[iv (2 : Int32), iv (Int32.ofNat x0), iv (Int32.ofNat x1)] [])) rfl (hb hby dmks_25) (by decide) (by decide)
    obtain ⟨b30, g30⟩ : ∃ z, z = h0.size := ⟨_, rfl⟩
    rw [← g30] at A30 D30 st30
    have g_b30 : n0 ≤ b30 := Nat.le_trans Z0 (Nat.le_of_eq g30.symm)
    have sz_b30 : h0.size ≤ b30 := Nat.le_trans K0.1 (Nat.le_of_eq g30.symm)
    have HS31 := HS.ext HS0 E30
    have O32 := O0.ext E30
    have Z33 : n0 ≤ h30.size := Nat.le_trans Z0 E30.1
    have K34 : Keep h0 h30 ([] : List Addr) := K0.ext E30
    have sf35 := Sf.born HS0 E30 g30 A30.lt
    have f36 : Fld Z h30 b30 "java/lang/String" "coder" "B" (.int (0 : Int32)) := D30 (Or.inr (hw _ (List.mem_of_getElem? (i := 32) rfl))) (ty := .byte) (by decide)
    have f37 : Fld Z h30 b30 "java/lang/String" "value" "[B" .null := D30 (Or.inr (hw _ (List.mem_of_getElem? (i := 34) rfl))) (ty := (.array .byte)) (by decide)
    refine Go.st (T' := T30) (g' := (mkF m 28 #[iv (2 : Int32), iv (Int32.ofNat x0), iv (Int32.ofNat x1)] [(.ref b30)])) ?_ st30
    refine Go.st (T' := T30) (g' := (mkF m 30 #[iv (2 : Int32), iv (Int32.ofNat x0), iv (Int32.ofNat x1)] [(.int (2 : Int32)), (.ref b30), (.ref b30)])) ?_ (fun _ kk_ => XS.dup X30.here hx rfl (hb hby dmks_28) rfl rfl (XS.iconst X30.here hx rfl (hb hby dmks_29) kk_))
    refine Go.newP X30 hx hZ (aty := .char) (hw _ (List.mem_of_getElem? (i := 8) rfl)) e30 rfl (hb hby dmks_30) (n := 2) rfl rfl 2 (by decide) (by decide) (by decide) (by decide) ?_
    intro T38 h38 b38 X38 e38 E38 g38 V38
    have ne_b30_b38 : b30 ≠ b38 := Nat.ne_of_lt (Nat.lt_of_lt_of_eq (A30).lt g38.symm)
    have g_b38 : n0 ≤ b38 := Nat.le_trans Z33 (Nat.le_of_eq g38.symm)
    have sz_b38 : h0.size ≤ b38 := Nat.le_trans K34.1 (Nat.le_of_eq g38.symm)
    have HS39 := HS.ext HS31 E38
    have O40 := O32.ext E38
    have Z41 : n0 ≤ h38.size := Nat.le_trans Z33 E38.1
    have K42 : Keep h0 h38 ([] : List Addr) := K34.ext E38
    change Ary Z h38 b38 .char [.int 0, .int 0] at V38
    have sf43 := Sf.born HS31 E38 g38 V38.lt
    show Go p e below _ T38 (mkF m 32 #[iv (2 : Int32), iv (Int32.ofNat x0), iv (Int32.ofNat x1)] [(.ref b38), (.ref b30), (.ref b30)])
    refine Go.st (T' := T38) (g' := (mkF m 35 #[iv (2 : Int32), iv (Int32.ofNat x0), iv (Int32.ofNat x1)] [(.int (Int32.ofNat x0)), (.int (0 : Int32)), (.ref b38), (.ref b38), (.ref b30), (.ref b30)])) ?_ (fun _ kk_ => XS.dup X38.here hx rfl (hb hby dmks_32) rfl rfl (XS.iconst X38.here hx rfl (hb hby dmks_33) (XS.iloadN X38.here hx rfl (hb hby dmks_34) rfl  kk_)))
    refine Go.castore X38 hx hZ e38 V38 (y := (Int32.ofNat x0)) (ch_sto _ h0_) (i := 0) (Nat.le_of_ble_eq_true rfl) rfl rfl rfl (hb hby dmks_35) ?_
    intro T44 h44 X44 e44 W44 V44
    have N45 := Fr.snoc X44 N0 g_b38
    have HS46 := HS.wr HS39 W44 (sf43).1
    have O47 := O40.wr W44 g_b38
    change Ary Z h44 b38 .char [.int (Int32.ofNat x0), .int 0] at V44
    have K48 : Keep h0 h44 ([] : List Addr) := K42.wr W44 (Or.inr sz_b38)
    have Z49 : n0 ≤ h44.size := by rw [W44.size]; exact Z41
    show Go p e below _ T44 (mkF m 36 #[iv (2 : Int32), iv (Int32.ofNat x0), iv (Int32.ofNat x1)] [(.ref b38), (.ref b30), (.ref b30)])
    refine Go.st (T' := T44) (g' := (mkF m 39 #[iv (2 : Int32), iv (Int32.ofNat x0), iv (Int32.ofNat x1)] [(.int (Int32.ofNat x1)), (.int (1 : Int32)), (.ref b38), (.ref b38), (.ref b30), (.ref b30)])) ?_ (fun _ kk_ => XS.dup X44.here hx rfl (hb hby dmks_36) rfl rfl (XS.iconst X44.here hx rfl (hb hby dmks_37) (XS.iloadN X44.here hx rfl (hb hby dmks_38) rfl  kk_)))
    refine Go.castore X44 hx hZ e44 V44 (y := (Int32.ofNat x1)) (ch_sto _ h1_) (i := 1) (Nat.le_of_ble_eq_true rfl) rfl rfl rfl (hb hby dmks_39) ?_
    intro T50 h50 X50 e50 W50 V50
    have N51 := Fr.snoc X50 N45 g_b38
    have f53 := (Sf.wr HS39 W44 (sf43).1 sf43)
    have HS52 := HS.wr HS46 W50 (f53).1
    have O54 := O47.wr W50 g_b38
    change Ary Z h50 b38 .char [.int (Int32.ofNat x0), .int (Int32.ofNat x1)] at V50
    have K55 : Keep h0 h50 ([] : List Addr) := K48.wr W50 (Or.inr sz_b38)
    have Z56 : n0 ≤ h50.size := by rw [W50.size]; exact Z49
    show Go p e below _ T50 (mkF m 40 #[iv (2 : Int32), iv (Int32.ofNat x0), iv (Int32.ofNat x1)] [(.ref b38), (.ref b30), (.ref b30)])
    have f57 := (((A30.ext E38).wr W44).wr W50)
    have f58 := (((f37.ext E38).other W44 (Or.inl ne_b30_b38)).other W50 (Or.inl ne_b30_b38))
    have f59 := (((f36.ext E38).other W44 (Or.inl ne_b30_b38)).other W50 (Or.inl ne_b30_b38))
    refine Go.callN (y := (⟨"java/lang/String", "<init>", "([C)V"⟩ : MethodName)) X50 hx hZ rfl hown (hw _ (List.mem_of_getElem? (i := 9) rfl)) (hw _ (List.mem_of_getElem? (i := 10) rfl)) (hw _ (List.mem_of_getElem? (i := 7) rfl)) (hw _ (List.mem_of_getElem? (i := 11) rfl)) (by decide) 1 (rm_in1 l Z a0 hw [] b30 b38 2 (c2 x0 x1) n0 cS h50 Z56 (by decide) (by decide) (fun q _ => c2_lt h0_ h1_ q) V50 f57 f58 f59 g_b30 O54 Sc hcS ne_b30_b38) e50 (by decide) (by decide) (by decide) (by decide) (a := b30) (argsL := [(.ref b38)]) (rest := [(.ref b30)]) rfl (by rw [hml]; rfl) (lenOf pd__28_5bC_29V rfl) rfl rfl (by show 2 * 0 + _ ≤ _; exact Nat.le_of_eq rfl) (hb hby dmks_40) ?_
    rintro _ T60 L60 X60 ⟨rfl, N60, K60, Fc60, t, tz, Fv60, V60⟩
    have N61 := Fr.app N51 N60
    have f63 := (Sf.wr HS46 W50 (f53).1 (Sf.wr HS39 W44 (sf43).1 (Sf.ext HS31 E38 sf35)))
    have HS62 := HS.keep HS52 K60 (sfS (f63).1 sf0)
    have O64 := O54.keep K60 (allS (P := fun z_ => n0 ≤ z_) g_b30 all0)
    have Z65 : n0 ≤ T60.heap.size := Nat.le_trans Z56 K60.1
    have K66 : Keep h0 T60.heap ([] : List Addr) := K55.trans K60 (allS (P := fun z_ => z_ ∈ ([] : List Addr) ∨ h0.size ≤ z_) (Or.inr sz_b30) all0)
    show Go p e below _ T60 (mkF m 43 #[iv (2 : Int32), iv (Int32.ofNat x0), iv (Int32.ofNat x1)] [(.ref b30)])
    have f67 := (f57.keep K60)
    refine Go.retAH X60 hx hlk hret rfl rfl (hb hby dmks_43) (by decide) (by decide) hZ hEL HS62 ?_
    exact ⟨b30, t, rfl, N61, K66, sz_b30, f67, Fc60, Fv60, V60⟩
theorem dexp_0 : decode method_4_code 0 = .ok (.iload_n 0, 1) := by decide +kernel
theorem dexp_1 : decode method_4_code 1 = .ok (.iload_n 1, 1) := by decide +kernel
theorem dexp_2 : decode method_4_code 2 = .ok (.if_icmp .ge 11, 3) := by decide +kernel
theorem dexp_5 : decode method_4_code 5 = .ok (.iload_n 0, 1) := by decide +kernel
theorem dexp_6 : decode method_4_code 6 = .ok (.ifCond .ne 5, 3) := by decide +kernel
theorem dexp_9 : decode method_4_code 9 = .ok (.iload_n 2, 1) := by decide +kernel
theorem dexp_10 : decode method_4_code 10 = .ok (.ireturn, 1) := by decide +kernel
theorem dexp_11 : decode method_4_code 11 = .ok (.iload_n 3, 1) := by decide +kernel
theorem dexp_12 : decode method_4_code 12 = .ok (.ireturn, 1) := by decide +kernel
theorem dexp_13 : decode method_4_code 13 = .ok (.iload_n 0, 1) := by decide +kernel
theorem dexp_14 : decode method_4_code 14 = .ok (.iload_n 1, 1) := by decide +kernel
theorem dexp_15 : decode method_4_code 15 = .ok (.if_icmp .ne 6, 3) := by decide +kernel
theorem dexp_18 : decode method_4_code 18 = .ok (.bipush 10, 2) := by decide +kernel
theorem dexp_20 : decode method_4_code 20 = .ok (.ireturn, 1) := by decide +kernel
theorem dexp_21 : decode method_4_code 21 = .ok (.iload_n 0, 1) := by decide +kernel
theorem dexp_22 : decode method_4_code 22 = .ok (.iload_n 1, 1) := by decide +kernel
theorem dexp_23 : decode method_4_code 23 = .ok (.isub, 1) := by decide +kernel
theorem dexp_24 : decode method_4_code 24 = .ok (.iconst 1, 1) := by decide +kernel
theorem dexp_25 : decode method_4_code 25 = .ok (.isub, 1) := by decide +kernel
theorem dexp_26 : decode method_4_code 26 = .ok (.istore 6, 2) := by decide +kernel
theorem dexp_28 : decode method_4_code 28 = .ok (.iload 6, 2) := by decide +kernel
theorem dexp_30 : decode method_4_code 30 = .ok (.ifCond .ne 6, 3) := by decide +kernel
theorem dexp_33 : decode method_4_code 33 = .ok (.iload 4, 2) := by decide +kernel
theorem dexp_35 : decode method_4_code 35 = .ok (.ireturn, 1) := by decide +kernel
theorem dexp_36 : decode method_4_code 36 = .ok (.iload 5, 2) := by decide +kernel
theorem dexp_38 : decode method_4_code 38 = .ok (.ireturn, 1) := by decide +kernel
theorem pn_exp : plainFor (⟨"com/example/staleness/staleness/CommandExceptionUsagePinLaw", "exp", "(IICCCC)C"⟩ : MethodName) = true := by first | exact plainFor_of_name (by first | (simp [plainName, overriddenIn]; done) | decide +kernel) | decide +kernel
theorem ef_exp (m : MethodId) (x0 : Int32) (x1 : Int32) (x2 : Int32) (x3 : Int32) (x4 : Int32) (x5 : Int32) : entryFrame m #[(.int x0), (.int x1), (.int x2), (.int x3), (.int x4), (.int x5)] 7 = mkF m 0 #[iv x0, iv x1, iv x2, iv x3, iv x4, iv x5, .unset] [] := by first | (simp [entryFrame, mkF, argsToLocals, Value.category]; done) | rfl
set_option maxRecDepth 65536 in
set_option maxHeartbeats 40000000 in
theorem rm_exp (l : Launch) (Z : State) (a0 : Array Value) (hw : ∀ d ∈ tables_1, d.before a0 Z = true) (ws : List Jvm.Cond) (i lp p0_ p1_ u0_ u1_ : Nat) (h0 : Heap) (hi : i ≤ 10) (hl_ : lp ≤ 2) (hp0 : p0_ < 256) (hp1 : p1_ < 256) (hu0 : u0_ < 256) (hu1 : u1_ < 256) :
    Mt l Z (⟨"com/example/staleness/staleness/CommandExceptionUsagePinLaw", "exp", "(IICCCC)C"⟩ : MethodName) method_4_code 7 (some .char) ws ({ frames := 0, cells := 0, slots := 0, locals := 0 } : Room) #[(.int (Int32.ofNat i)), (.int (Int32.ofNat lp)), (.int (Int32.ofNat p0_)), (.int (Int32.ofNat p1_)), (.int (Int32.ofNat u0_)), (.int (Int32.ofNat u1_))] h0 (fun v h L => v = some (.int (Int32.ofNat (jC p0_ p1_ u0_ u1_ lp i))) ∧ h = h0 ∧ L = []) := by
  refine Mt.body pn_exp ?_
  intro p e s m below meth c s₁ hx hby hml hown hnm hret hlk hZ X0 e0
  refine Go.cast (g' := (mkF m 0 #[iv (Int32.ofNat i), iv (Int32.ofNat lp), iv (Int32.ofNat p0_), iv (Int32.ofNat p1_), iv (Int32.ofNat u0_), iv (Int32.ofNat u1_), .unset] [])) (ef_exp m (Int32.ofNat i) (Int32.ofNat lp) (Int32.ofNat p0_) (Int32.ofNat p1_) (Int32.ofNat u0_) (Int32.ofNat u1_)) ?_
  have N0 := Fr.nil 0
  refine Go.st (T' := s₁) (g' := (mkF m 2 #[iv (Int32.ofNat i), iv (Int32.ofNat lp), iv (Int32.ofNat p0_), iv (Int32.ofNat p1_), iv (Int32.ofNat u0_), iv (Int32.ofNat u1_), .unset] [(.int (Int32.ofNat lp)), (.int (Int32.ofNat i))])) ?_ (fun _ kk_ => XS.iloadN X0.here hx rfl (hb hby dexp_0) rfl  (XS.iloadN X0.here hx rfl (hb hby dexp_1) rfl  kk_))
  by_cases ha : (Int32.ofNat i) < (Int32.ofNat lp)
  ·
    refine Go.st (T' := s₁) (g' := (mkF m 5 #[iv (Int32.ofNat i), iv (Int32.ofNat lp), iv (Int32.ofNat p0_), iv (Int32.ofNat p1_), iv (Int32.ofNat u0_), iv (Int32.ofNat u1_), .unset] [])) ?_ (fun _ kk_ => XS.icmpNo X0.here hx rfl (hb hby dexp_2) rfl (tlt (ha : (Int32.ofNat i) < (Int32.ofNat lp))).2.1 kk_)
    have g1 := (own_lt (i := i) (n := lp) (by omega) (by omega)).mp ha
    refine Go.st (T' := s₁) (g' := (mkF m 6 #[iv (Int32.ofNat i), iv (Int32.ofNat lp), iv (Int32.ofNat p0_), iv (Int32.ofNat p1_), iv (Int32.ofNat u0_), iv (Int32.ofNat u1_), .unset] [(.int (Int32.ofNat i))])) ?_ (fun _ kk_ => XS.iloadN X0.here hx rfl (hb hby dexp_5) rfl  kk_)
    by_cases hbb : (Int32.ofNat i) = (0 : Int32)
    ·
      refine Go.st (T' := s₁) (g' := (mkF m 9 #[iv (Int32.ofNat i), iv (Int32.ofNat lp), iv (Int32.ofNat p0_), iv (Int32.ofNat p1_), iv (Int32.ofNat u0_), iv (Int32.ofNat u1_), .unset] [])) ?_ (fun _ kk_ => XS.ifNo X0.here hx rfl (hb hby dexp_6) rfl ((if0 _ _).trans (teq (hbb : (Int32.ofNat i) = (0 : Int32))).2) kk_)
      have g2 := (own_eq (i := i) (n := 0) (by omega) (by decide)).mp hbb
      refine Go.st (T' := s₁) (g' := (mkF m 10 #[iv (Int32.ofNat i), iv (Int32.ofNat lp), iv (Int32.ofNat p0_), iv (Int32.ofNat p1_), iv (Int32.ofNat u0_), iv (Int32.ofNat u1_), .unset] [(.int (Int32.ofNat p0_))])) ?_ (fun _ kk_ => XS.iloadN X0.here hx rfl (hb hby dexp_9) rfl  kk_)
      refine Go.retN X0 hx hlk (t := .char) hret (by simp) (z' := (Int32.ofNat p0_)) (ch_nar _ hp0) (hb hby dexp_10) (by decide) (by decide) ?_
      try rw [e0]
      exact ⟨by rw [show jC p0_ p1_ u0_ u1_ lp i = p0_ by unfold jC c2; rw [if_pos g1, if_pos g2]], rfl, rfl⟩
    ·
      refine Go.st (T' := s₁) (g' := (mkF m 11 #[iv (Int32.ofNat i), iv (Int32.ofNat lp), iv (Int32.ofNat p0_), iv (Int32.ofNat p1_), iv (Int32.ofNat u0_), iv (Int32.ofNat u1_), .unset] [])) ?_ (fun _ kk_ => XS.ifYes X0.here hx rfl (pc0 := 6) (pc' := 11) rfl (hb hby dexp_6) rfl ((if0 _ _).trans (feq (hbb : ¬ ((Int32.ofNat i) = (0 : Int32)))).2) (by decide) (by decide) kk_)
      have g2 : ¬ i = 0 := fun z => hbb ((own_eq (i := i) (n := 0) (by omega) (by decide)).mpr z)
      refine Go.st (T' := s₁) (g' := (mkF m 12 #[iv (Int32.ofNat i), iv (Int32.ofNat lp), iv (Int32.ofNat p0_), iv (Int32.ofNat p1_), iv (Int32.ofNat u0_), iv (Int32.ofNat u1_), .unset] [(.int (Int32.ofNat p1_))])) ?_ (fun _ kk_ => XS.iloadN X0.here hx rfl (hb hby dexp_11) rfl  kk_)
      refine Go.retN X0 hx hlk (t := .char) hret (by simp) (z' := (Int32.ofNat p1_)) (ch_nar _ hp1) (hb hby dexp_12) (by decide) (by decide) ?_
      try rw [e0]
      exact ⟨by rw [show jC p0_ p1_ u0_ u1_ lp i = p1_ by unfold jC c2; rw [if_pos g1, if_neg g2]], rfl, rfl⟩
  ·
    refine Go.st (T' := s₁) (g' := (mkF m 13 #[iv (Int32.ofNat i), iv (Int32.ofNat lp), iv (Int32.ofNat p0_), iv (Int32.ofNat p1_), iv (Int32.ofNat u0_), iv (Int32.ofNat u1_), .unset] [])) ?_ (fun _ kk_ => XS.icmpYes X0.here hx rfl (pc0 := 2) (pc' := 13) rfl (hb hby dexp_2) rfl (flt (ha : ¬ ((Int32.ofNat i) < (Int32.ofNat lp)))).2.1 (by decide) (by decide) kk_)
    have g1 : ¬ i < lp := fun z => ha ((own_lt (i := i) (n := lp) (by omega) (by omega)).mpr z)
    refine Go.st (T' := s₁) (g' := (mkF m 15 #[iv (Int32.ofNat i), iv (Int32.ofNat lp), iv (Int32.ofNat p0_), iv (Int32.ofNat p1_), iv (Int32.ofNat u0_), iv (Int32.ofNat u1_), .unset] [(.int (Int32.ofNat lp)), (.int (Int32.ofNat i))])) ?_ (fun _ kk_ => XS.iloadN X0.here hx rfl (hb hby dexp_13) rfl  (XS.iloadN X0.here hx rfl (hb hby dexp_14) rfl  kk_))
    by_cases hbb : (Int32.ofNat i) = (Int32.ofNat lp)
    ·
      refine Go.st (T' := s₁) (g' := (mkF m 18 #[iv (Int32.ofNat i), iv (Int32.ofNat lp), iv (Int32.ofNat p0_), iv (Int32.ofNat p1_), iv (Int32.ofNat u0_), iv (Int32.ofNat u1_), .unset] [])) ?_ (fun _ kk_ => XS.icmpNo X0.here hx rfl (hb hby dexp_15) rfl (teq (hbb : (Int32.ofNat i) = (Int32.ofNat lp))).2 kk_)
      have g2 := (own_eq (i := i) (n := lp) (by omega) (by omega)).mp hbb
      refine Go.st (T' := s₁) (g' := (mkF m 20 #[iv (Int32.ofNat i), iv (Int32.ofNat lp), iv (Int32.ofNat p0_), iv (Int32.ofNat p1_), iv (Int32.ofNat u0_), iv (Int32.ofNat u1_), .unset] [(.int (10 : Int32))])) ?_ (fun _ kk_ => XS.bipush X0.here hx rfl (hb hby dexp_18) kk_)
      refine Go.retN X0 hx hlk (t := .char) hret (by simp) (z' := (10 : Int32)) (by decide) (hb hby dexp_20) (by decide) (by decide) ?_
      try rw [e0]
      exact ⟨by rw [show jC p0_ p1_ u0_ u1_ lp i = 10 by unfold jC; rw [if_neg g1, if_pos g2]]; rfl, rfl, rfl⟩
    ·
      refine Go.st (T' := s₁) (g' := (mkF m 21 #[iv (Int32.ofNat i), iv (Int32.ofNat lp), iv (Int32.ofNat p0_), iv (Int32.ofNat p1_), iv (Int32.ofNat u0_), iv (Int32.ofNat u1_), .unset] [])) ?_ (fun _ kk_ => XS.icmpYes X0.here hx rfl (pc0 := 15) (pc' := 21) rfl (hb hby dexp_15) rfl (feq (hbb : ¬ ((Int32.ofNat i) = (Int32.ofNat lp)))).2 (by decide) (by decide) kk_)
      have g2 : ¬ i = lp := fun z => hbb ((own_eq (i := i) (n := lp) (by omega) (by omega)).mpr z)
      refine Go.st (T' := s₁) (g' := (mkF m 26 #[iv (Int32.ofNat i), iv (Int32.ofNat lp), iv (Int32.ofNat p0_), iv (Int32.ofNat p1_), iv (Int32.ofNat u0_), iv (Int32.ofNat u1_), .unset] [(.int (((Int32.ofNat i) - (Int32.ofNat lp)) - (1 : Int32)))])) ?_ (fun _ kk_ => XS.iloadN X0.here hx rfl (hb hby dexp_21) rfl  (XS.iloadN X0.here hx rfl (hb hby dexp_22) rfl  (XS.isub X0.here hx rfl (hb hby dexp_23) rfl (XS.iconst X0.here hx rfl (hb hby dexp_24) (XS.isub X0.here hx rfl (hb hby dexp_25) rfl kk_)))))
      have eD : Int32.ofNat i - Int32.ofNat lp = Int32.ofNat (i - lp) := own_sub (by omega)
      have eD2 : Int32.ofNat (i - lp) - (1 : Int32) = Int32.ofNat (i - lp - 1) := own_sub (n := 1) (by omega)
      rw [eD, eD2]
      show Go p e below _ s₁ (mkF m 26 #[iv (Int32.ofNat i), iv (Int32.ofNat lp), iv (Int32.ofNat p0_), iv (Int32.ofNat p1_), iv (Int32.ofNat u0_), iv (Int32.ofNat u1_), .unset] [(.int (Int32.ofNat (i - lp - 1)))])
      refine Go.st (T' := s₁) (g' := (mkF m 30 #[iv (Int32.ofNat i), iv (Int32.ofNat lp), iv (Int32.ofNat p0_), iv (Int32.ofNat p1_), iv (Int32.ofNat u0_), iv (Int32.ofNat u1_), iv (Int32.ofNat (i - lp - 1))] [(.int (Int32.ofNat (i - lp - 1)))])) ?_ (fun _ kk_ => XS.istore X0.here hx rfl (hb hby dexp_26) rfl (l' := #[iv (Int32.ofNat i), iv (Int32.ofNat lp), iv (Int32.ofNat p0_), iv (Int32.ofNat p1_), iv (Int32.ofNat u0_), iv (Int32.ofNat u1_), iv (Int32.ofNat (i - lp - 1))]) rfl (XS.iload X0.here hx rfl (hb hby dexp_28) rfl  kk_))
      by_cases hd : (Int32.ofNat (i - lp - 1)) = (0 : Int32)
      ·
        refine Go.st (T' := s₁) (g' := (mkF m 33 #[iv (Int32.ofNat i), iv (Int32.ofNat lp), iv (Int32.ofNat p0_), iv (Int32.ofNat p1_), iv (Int32.ofNat u0_), iv (Int32.ofNat u1_), iv (Int32.ofNat (i - lp - 1))] [])) ?_ (fun _ kk_ => XS.ifNo X0.here hx rfl (hb hby dexp_30) rfl ((if0 _ _).trans (teq (hd : (Int32.ofNat (i - lp - 1)) = (0 : Int32))).2) kk_)
        have g3 := (own_eq (i := i - lp - 1) (n := 0) (by omega) (by decide)).mp hd
        refine Go.st (T' := s₁) (g' := (mkF m 35 #[iv (Int32.ofNat i), iv (Int32.ofNat lp), iv (Int32.ofNat p0_), iv (Int32.ofNat p1_), iv (Int32.ofNat u0_), iv (Int32.ofNat u1_), iv (Int32.ofNat (i - lp - 1))] [(.int (Int32.ofNat u0_))])) ?_ (fun _ kk_ => XS.iload X0.here hx rfl (hb hby dexp_33) rfl  kk_)
        refine Go.retN X0 hx hlk (t := .char) hret (by simp) (z' := (Int32.ofNat u0_)) (ch_nar _ hu0) (hb hby dexp_35) (by decide) (by decide) ?_
        try rw [e0]
        exact ⟨by rw [show jC p0_ p1_ u0_ u1_ lp i = u0_ by unfold jC c2; rw [if_neg g1, if_neg g2, if_pos g3]], rfl, rfl⟩
      ·
        refine Go.st (T' := s₁) (g' := (mkF m 36 #[iv (Int32.ofNat i), iv (Int32.ofNat lp), iv (Int32.ofNat p0_), iv (Int32.ofNat p1_), iv (Int32.ofNat u0_), iv (Int32.ofNat u1_), iv (Int32.ofNat (i - lp - 1))] [])) ?_ (fun _ kk_ => XS.ifYes X0.here hx rfl (pc0 := 30) (pc' := 36) rfl (hb hby dexp_30) rfl ((if0 _ _).trans (feq (hd : ¬ ((Int32.ofNat (i - lp - 1)) = (0 : Int32)))).2) (by decide) (by decide) kk_)
        have g3 : ¬ i - lp - 1 = 0 := fun z => hd ((own_eq (i := i - lp - 1) (n := 0) (by omega) (by decide)).mpr z)
        refine Go.st (T' := s₁) (g' := (mkF m 38 #[iv (Int32.ofNat i), iv (Int32.ofNat lp), iv (Int32.ofNat p0_), iv (Int32.ofNat p1_), iv (Int32.ofNat u0_), iv (Int32.ofNat u1_), iv (Int32.ofNat (i - lp - 1))] [(.int (Int32.ofNat u1_))])) ?_ (fun _ kk_ => XS.iload X0.here hx rfl (hb hby dexp_36) rfl  kk_)
        refine Go.retN X0 hx hlk (t := .char) hret (by simp) (z' := (Int32.ofNat u1_)) (ch_nar _ hu1) (hb hby dexp_38) (by decide) (by decide) ?_
        try rw [e0]
        exact ⟨by rw [show jC p0_ p1_ u0_ u1_ lp i = u1_ by unfold jC c2; rw [if_neg g1, if_neg g2, if_neg g3]], rfl, rfl⟩
theorem dok_0 : decode method_5_code 0 = .ok (.iload_n 1, 1) := by decide +kernel
theorem dok_1 : decode method_5_code 1 = .ok (.iload_n 2, 1) := by decide +kernel
theorem dok_2 : decode method_5_code 2 = .ok (.if_icmp .lt 5, 3) := by decide +kernel
theorem dok_5 : decode method_5_code 5 = .ok (.iconst 1, 1) := by decide +kernel
theorem dok_6 : decode method_5_code 6 = .ok (.ireturn, 1) := by decide +kernel
theorem dok_7 : decode method_5_code 7 = .ok (.aload_n 0, 1) := by decide +kernel
theorem dok_8 : decode method_5_code 8 = .ok (.iload_n 1, 1) := by decide +kernel
theorem dok_9 : decode method_5_code 9 = .ok (.invokevirtual 41, 3) := by decide +kernel
theorem dok_12 : decode method_5_code 12 = .ok (.iload_n 1, 1) := by decide +kernel
theorem dok_13 : decode method_5_code 13 = .ok (.iload_n 3, 1) := by decide +kernel
theorem dok_14 : decode method_5_code 14 = .ok (.iload 4, 2) := by decide +kernel
theorem dok_16 : decode method_5_code 16 = .ok (.iload 5, 2) := by decide +kernel
theorem dok_18 : decode method_5_code 18 = .ok (.iload 6, 2) := by decide +kernel
theorem dok_20 : decode method_5_code 20 = .ok (.iload 7, 2) := by decide +kernel
theorem dok_22 : decode method_5_code 22 = .ok (.invokestatic 45, 3) := by decide +kernel
theorem dok_25 : decode method_5_code 25 = .ok (.if_icmp .ne 7, 3) := by decide +kernel
theorem dok_28 : decode method_5_code 28 = .ok (.iconst 1, 1) := by decide +kernel
theorem dok_29 : decode method_5_code 29 = .ok (.goto 4, 3) := by decide +kernel
theorem dok_33 : decode method_5_code 33 = .ok (.ireturn, 1) := by decide +kernel
theorem pn_ok : plainFor (⟨"com/example/staleness/staleness/CommandExceptionUsagePinLaw", "ok", "(Ljava/lang/String;IIICCCC)Z"⟩ : MethodName) = true := by first | exact plainFor_of_name (by first | (simp [plainName, overriddenIn]; done) | decide +kernel) | decide +kernel
theorem ef_ok (m : MethodId) (x0 : Addr) (x1 : Int32) (x2 : Int32) (x3 : Int32) (x4 : Int32) (x5 : Int32) (x6 : Int32) (x7 : Int32) : entryFrame m #[(.ref x0), (.int x1), (.int x2), (.int x3), (.int x4), (.int x5), (.int x6), (.int x7)] 8 = mkF m 0 #[rv x0, iv x1, iv x2, iv x3, iv x4, iv x5, iv x6, iv x7] [] := by first | (simp [entryFrame, mkF, argsToLocals, Value.category]; done) | rfl
set_option maxRecDepth 65536 in
set_option maxHeartbeats 40000000 in
theorem rm_ok (l : Launch) (Z : State) (a0 : Array Value) (hw : ∀ d ∈ tables_1, d.before a0 Z = true) (ws : List Jvm.Cond) (a t : Addr) (i lp lu p0_ p1_ u0_ u1_ : Nat) (n0 : Nat) (cS : Int32) (rF : Value) (h0 : Heap) (hi : i ≤ 10) (hl_ : lp ≤ 2) (hu_ : lu ≤ 2) (hp0 : p0_ < 256) (hp1 : p1_ < 256) (hu0 : u0_ < 256) (hu1 : u1_ < 256) (E_a : Exa Z h0 a "java/lang/String") (Fc_a : Fld Z h0 a "java/lang/String" "coder" "B" (.int (0 : Int32))) (Fv_a : Fld Z h0 a "java/lang/String" "value" "[B" (.ref t)) (V_t : Ary Z h0 t .byte (IL (lp + 1 + lu) (fun q => bI (jC p0_ p1_ u0_ u1_ lp q)))) (O0 : Old Z n0 h0) (Sc : Sta Z Z.heap "java/lang/String" "COMPACT_STRINGS" "Z" (.int cS)) (hcS : ¬ (cS = (0 : Int32))) (Sr : Sta Z Z.heap "jdk/internal/util/Preconditions" "SIOOBE_FORMATTER" "Ljava/util/function/BiFunction;" rF) (hr_rF : rF.isRef = true) :
    Mt l Z (⟨"com/example/staleness/staleness/CommandExceptionUsagePinLaw", "ok", "(Ljava/lang/String;IIICCCC)Z"⟩ : MethodName) method_5_code 8 (some .boolean) ws ({ frames := 4, cells := 0, slots := 0, locals := 53 } : Room) #[(.ref a), (.int (Int32.ofNat i)), (.int (Int32.ofNat (lp + 1 + lu))), (.int (Int32.ofNat lp)), (.int (Int32.ofNat p0_)), (.int (Int32.ofNat p1_)), (.int (Int32.ofNat u0_)), (.int (Int32.ofNat u1_))] h0 (fun v h L => v = some (.int (1 : Int32)) ∧ h = h0 ∧ L = []) := by
  refine Mt.body pn_ok ?_
  intro p e s m below meth c s₁ hx hby hml hown hnm hret hlk hZ X0 e0
  refine Go.cast (g' := (mkF m 0 #[rv a, iv (Int32.ofNat i), iv (Int32.ofNat (lp + 1 + lu)), iv (Int32.ofNat lp), iv (Int32.ofNat p0_), iv (Int32.ofNat p1_), iv (Int32.ofNat u0_), iv (Int32.ofNat u1_)] [])) (ef_ok m a (Int32.ofNat i) (Int32.ofNat (lp + 1 + lu)) (Int32.ofNat lp) (Int32.ofNat p0_) (Int32.ofNat p1_) (Int32.ofNat u0_) (Int32.ofNat u1_)) ?_
  have N0 := Fr.nil n0
  refine Go.st (T' := s₁) (g' := (mkF m 2 #[rv a, iv (Int32.ofNat i), iv (Int32.ofNat (lp + 1 + lu)), iv (Int32.ofNat lp), iv (Int32.ofNat p0_), iv (Int32.ofNat p1_), iv (Int32.ofNat u0_), iv (Int32.ofNat u1_)] [(.int (Int32.ofNat (lp + 1 + lu))), (.int (Int32.ofNat i))])) ?_ (fun _ kk_ => XS.iloadN X0.here hx rfl (hb hby dok_0) rfl  (XS.iloadN X0.here hx rfl (hb hby dok_1) rfl  kk_))
  by_cases hc : (Int32.ofNat i) < (Int32.ofNat (lp + 1 + lu))
  ·
    refine Go.st (T' := s₁) (g' := (mkF m 7 #[rv a, iv (Int32.ofNat i), iv (Int32.ofNat (lp + 1 + lu)), iv (Int32.ofNat lp), iv (Int32.ofNat p0_), iv (Int32.ofNat p1_), iv (Int32.ofNat u0_), iv (Int32.ofNat u1_)] [])) ?_ (fun _ kk_ => XS.icmpYes X0.here hx rfl (pc0 := 2) (pc' := 7) rfl (hb hby dok_2) rfl (tlt (hc : (Int32.ofNat i) < (Int32.ofNat (lp + 1 + lu)))).1 (by decide) (by decide) kk_)
    have hin : i < (lp + 1 + lu) := (own_lt (by omega) (by omega)).mp hc
    refine Go.st (T' := s₁) (g' := (mkF m 9 #[rv a, iv (Int32.ofNat i), iv (Int32.ofNat (lp + 1 + lu)), iv (Int32.ofNat lp), iv (Int32.ofNat p0_), iv (Int32.ofNat p1_), iv (Int32.ofNat u0_), iv (Int32.ofNat u1_)] [(.int (Int32.ofNat i)), (.ref a)])) ?_ (fun _ kk_ => XS.aloadN X0.here hx rfl (hb hby dok_7) rfl rfl  (XS.iloadN X0.here hx rfl (hb hby dok_8) rfl  kk_))
    refine Go.callV (y := (⟨"java/lang/String", "charAt", "(I)C"⟩ : MethodName)) (z := (⟨"java/lang/String", "charAt", "(I)C"⟩ : MethodName)) X0 hx hZ hown (hw _ (List.mem_of_getElem? (i := 216) rfl)) (hw _ (List.mem_of_getElem? (i := 217) rfl)) (notFace_of_selects (args := #[]) (mvT hZ (hw _ (List.mem_of_getElem? (i := 219) rfl)))) (hw _ (List.mem_of_getElem? (i := 219) rfl)) (hw _ (List.mem_of_getElem? (i := 218) rfl)) (hw _ (List.mem_of_getElem? (i := 7) rfl)) (hw _ (List.mem_of_getElem? (i := 220) rfl)) (by decide) 0 (rm_cha l Z a0 hw [] a t i (lp + 1 + lu) (jC p0_ p1_ u0_ u1_ lp) rF n0 cS h0 hin (by omega) (fun q _ => jC_lt hp0 hp1 hu0 hu1 lp q) E_a Fc_a Fv_a V_t O0 Sc hcS Sr hr_rF) e0 (by decide) (by decide) (by decide) (by decide) E_a (argsL := [(.int (Int32.ofNat i))]) (rest := []) rfl (by rw [hml]; rfl) (lenOf pd__28I_29C rfl) rfl rfl (by show 2 * 0 + _ ≤ _; exact Nat.le_of_eq rfl) (hb hby dok_9) ?_
    rintro _ T1 L1 X1 ⟨rfl, e1, rfl⟩
    have N2 := Fr.app N0 (Fr.nil _)
    show Go p e below _ T1 (mkF m 12 #[rv a, iv (Int32.ofNat i), iv (Int32.ofNat (lp + 1 + lu)), iv (Int32.ofNat lp), iv (Int32.ofNat p0_), iv (Int32.ofNat p1_), iv (Int32.ofNat u0_), iv (Int32.ofNat u1_)] [(.int (Int32.ofNat (jC p0_ p1_ u0_ u1_ lp i)))])
    refine Go.st (T' := T1) (g' := (mkF m 22 #[rv a, iv (Int32.ofNat i), iv (Int32.ofNat (lp + 1 + lu)), iv (Int32.ofNat lp), iv (Int32.ofNat p0_), iv (Int32.ofNat p1_), iv (Int32.ofNat u0_), iv (Int32.ofNat u1_)] [(.int (Int32.ofNat u1_)), (.int (Int32.ofNat u0_)), (.int (Int32.ofNat p1_)), (.int (Int32.ofNat p0_)), (.int (Int32.ofNat lp)), (.int (Int32.ofNat i)), (.int (Int32.ofNat (jC p0_ p1_ u0_ u1_ lp i)))])) ?_ (fun _ kk_ => XS.iloadN X1.here hx rfl (hb hby dok_12) rfl  (XS.iloadN X1.here hx rfl (hb hby dok_13) rfl  (XS.iload X1.here hx rfl (hb hby dok_14) rfl  (XS.iload X1.here hx rfl (hb hby dok_16) rfl  (XS.iload X1.here hx rfl (hb hby dok_18) rfl  (XS.iload X1.here hx rfl (hb hby dok_20) rfl  kk_))))))
    refine Go.callS (y := (⟨"com/example/staleness/staleness/CommandExceptionUsagePinLaw", "exp", "(IICCCC)C"⟩ : MethodName)) X1 hx hZ hown (hw _ (List.mem_of_getElem? (i := 238) rfl)) (hw _ (List.mem_of_getElem? (i := 239) rfl)) (hw _ (List.mem_of_getElem? (i := 3) rfl)) (hw _ (List.mem_of_getElem? (i := 240) rfl)) (by decide) 1 (rm_exp l Z a0 hw [] i lp p0_ p1_ u0_ u1_ h0 hi hl_ hp0 hp1 hu0 hu1) e1 (by decide) (by decide) (by decide) (by decide) (argsL := [(.int (Int32.ofNat i)), (.int (Int32.ofNat lp)), (.int (Int32.ofNat p0_)), (.int (Int32.ofNat p1_)), (.int (Int32.ofNat u0_)), (.int (Int32.ofNat u1_))]) (rest := [(.int (Int32.ofNat (jC p0_ p1_ u0_ u1_ lp i)))]) rfl (by rw [hml]; rfl) (lenOf pd__28IICCCC_29C rfl) rfl rfl (by show 2 * 0 + _ ≤ _; exact Nat.le_of_eq rfl) (hb hby dok_22) ?_
    rintro _ T3 L3 X3 ⟨rfl, e3, rfl⟩
    have N4 := Fr.app N2 (Fr.nil _)
    show Go p e below _ T3 (mkF m 25 #[rv a, iv (Int32.ofNat i), iv (Int32.ofNat (lp + 1 + lu)), iv (Int32.ofNat lp), iv (Int32.ofNat p0_), iv (Int32.ofNat p1_), iv (Int32.ofNat u0_), iv (Int32.ofNat u1_)] [(.int (Int32.ofNat (jC p0_ p1_ u0_ u1_ lp i))), (.int (Int32.ofNat (jC p0_ p1_ u0_ u1_ lp i)))])
    refine Go.st (T' := T3) (g' := (mkF m 33 #[rv a, iv (Int32.ofNat i), iv (Int32.ofNat (lp + 1 + lu)), iv (Int32.ofNat lp), iv (Int32.ofNat p0_), iv (Int32.ofNat p1_), iv (Int32.ofNat u0_), iv (Int32.ofNat u1_)] [(.int (1 : Int32))])) ?_ (fun _ kk_ => XS.icmpNo X3.here hx rfl (hb hby dok_25) rfl (teq (rfl : (Int32.ofNat (jC p0_ p1_ u0_ u1_ lp i)) = (Int32.ofNat (jC p0_ p1_ u0_ u1_ lp i)))).2 (XS.iconst X3.here hx rfl (hb hby dok_28) (XS.goto X3.here hx rfl (pc0 := 29) (pc' := 33) rfl (hb hby dok_29) (by decide) (by decide) kk_)))
    refine Go.retN X3 hx hlk (t := .boolean) hret (by simp) (z' := (1 : Int32)) rfl (hb hby dok_33) (by decide) (by decide) ?_
    try rw [e3]
    exact ⟨rfl, rfl, rfl⟩
  ·
    refine Go.st (T' := s₁) (g' := (mkF m 6 #[rv a, iv (Int32.ofNat i), iv (Int32.ofNat (lp + 1 + lu)), iv (Int32.ofNat lp), iv (Int32.ofNat p0_), iv (Int32.ofNat p1_), iv (Int32.ofNat u0_), iv (Int32.ofNat u1_)] [(.int (1 : Int32))])) ?_ (fun _ kk_ => XS.icmpNo X0.here hx rfl (hb hby dok_2) rfl (flt (hc : ¬ ((Int32.ofNat i) < (Int32.ofNat (lp + 1 + lu))))).1 (XS.iconst X0.here hx rfl (hb hby dok_5) kk_))
    refine Go.retN X0 hx hlk (t := .boolean) hret (by simp) (z' := (1 : Int32)) rfl (hb hby dok_6) (by decide) (by decide) ?_
    try rw [e0]
    exact ⟨rfl, rfl, rfl⟩
theorem dthi_0 : decode jdk_78_method_2_code 0 = .ok (.aload_n 0, 1) := by decide +kernel
theorem dthi_1 : decode jdk_78_method_2_code 1 = .ok (.invokespecial 1, 3) := by decide +kernel
theorem dthi_4 : decode jdk_78_method_2_code 4 = .ok (.aload_n 0, 1) := by decide +kernel
theorem dthi_5 : decode jdk_78_method_2_code 5 = .ok (.aload_n 0, 1) := by decide +kernel
theorem dthi_6 : decode jdk_78_method_2_code 6 = .ok (.putfield 7, 3) := by decide +kernel
theorem dthi_9 : decode jdk_78_method_2_code 9 = .ok (.aload_n 0, 1) := by decide +kernel
theorem dthi_10 : decode jdk_78_method_2_code 10 = .ok (.getstatic 13, 3) := by decide +kernel
theorem dthi_13 : decode jdk_78_method_2_code 13 = .ok (.putfield 17, 3) := by decide +kernel
theorem dthi_16 : decode jdk_78_method_2_code 16 = .ok (.aload_n 0, 1) := by decide +kernel
theorem dthi_17 : decode jdk_78_method_2_code 17 = .ok (.getstatic 20, 3) := by decide +kernel
theorem dthi_20 : decode jdk_78_method_2_code 20 = .ok (.putfield 24, 3) := by decide +kernel
theorem dthi_23 : decode jdk_78_method_2_code 23 = .ok (.aload_n 0, 1) := by decide +kernel
theorem dthi_24 : decode jdk_78_method_2_code 24 = .ok (.invokevirtual 27, 3) := by decide +kernel
theorem dthi_27 : decode jdk_78_method_2_code 27 = .ok (.pop, 1) := by decide +kernel
theorem dthi_28 : decode jdk_78_method_2_code 28 = .ok (.aload_n 0, 1) := by decide +kernel
theorem dthi_29 : decode jdk_78_method_2_code 29 = .ok (.aload_n 1, 1) := by decide +kernel
theorem dthi_30 : decode jdk_78_method_2_code 30 = .ok (.putfield 31, 3) := by decide +kernel
theorem dthi_33 : decode jdk_78_method_2_code 33 = .ok (.return_, 1) := by decide +kernel
theorem pn_thi : plainFor (⟨"java/lang/Throwable", "<init>", "(Ljava/lang/String;)V"⟩ : MethodName) = true := by first | exact plainFor_of_name (by first | (simp [plainName, overriddenIn]; done) | decide +kernel) | decide +kernel
theorem ef_thi (m : MethodId) (x0 : Addr) (x1 : Addr) : entryFrame m #[(.ref x0), (.ref x1)] 2 = mkF m 0 #[rv x0, rv x1] [] := by first | (simp [entryFrame, mkF, argsToLocals, Value.category]; done) | rfl
set_option maxRecDepth 65536 in
set_option maxHeartbeats 40000000 in
theorem rm_thi (l : Launch) (Z : State) (a0 : Array Value) (hw : ∀ d ∈ tables_1, d.before a0 Z = true) (ws : List Jvm.Cond) (a x : Addr) (n0 : Nat) (uU uS : Value) (h0 : Heap) (hEL : EW Z a0 consts_1) (wS : ∀ a ∈ Bundle.stringAtoms, a.before a0 Z = true) (hlt : l.stackTraces = true) (wX : ∀ d ∈ Jvm.Free.Exc.excAtoms "com/example/staleness/staleness/CommandException", d ≠ lackW → d.before a0 Z = true) (Su : Sta Z Z.heap "java/lang/Throwable" "UNASSIGNED_STACK" "[Ljava/lang/StackTraceElement;" uU) (hr_uU : uU.isRef = true) (Ss : Sta Z Z.heap "java/lang/Throwable" "SUPPRESSED_SENTINEL" "Ljava/util/List;" uS) (hr_uS : uS.isRef = true) (O0 : Old Z n0 h0) (g_a : n0 ≤ a) (E_a : Exa Z h0 a "com/example/staleness/staleness/CommandException") (U_a : Unt h0 a) (Fx_cause : Fld Z h0 a "java/lang/Throwable" "cause" "Ljava/lang/Throwable;" .null) (Fx_stackTrace : Fld Z h0 a "java/lang/Throwable" "stackTrace" "[Ljava/lang/StackTraceElement;" .null) (Fx_suppressedExceptions : Fld Z h0 a "java/lang/Throwable" "suppressedExceptions" "Ljava/util/List;" .null) (Fx_backtrace : Fld Z h0 a "java/lang/Throwable" "backtrace" "Ljava/lang/Object;" .null) (Fx_detailMessage : Fld Z h0 a "java/lang/Throwable" "detailMessage" "Ljava/lang/String;" .null) :
    MtK l Z consts_1 (⟨"java/lang/Throwable", "<init>", "(Ljava/lang/String;)V"⟩ : MethodName) jdk_78_method_2_code 2 none ws ({ frames := 3, cells := 1, slots := 2752, locals := 42 } : Room) #[(.ref a), (.ref x)] h0 (fun v h L => v = none ∧ Fr n0 L ∧ Keep h0 h [a] ∧ Exa Z h a "com/example/staleness/staleness/CommandException" ∧ Fld Z h a "java/lang/Throwable" "detailMessage" "Ljava/lang/String;" (.ref x)) := by
  refine MtK.body pn_thi ?_
  intro p e s m below meth c s₁ hx hby hml hown hnm hret hlk hZ X0 e0 HS0 es hTK hBl
  refine Go.cast (g' := (mkF m 0 #[rv a, rv x] [])) (ef_thi m a x) ?_
  have N0 := Fr.nil n0
  have K0 := Keep.refl h0 [a]
  refine Go.st (T' := s₁) (g' := (mkF m 1 #[rv a, rv x] [(.ref a)])) ?_ (fun _ kk_ => XS.aloadN X0.here hx rfl (hb hby dthi_0) rfl rfl  kk_)
  obtain ⟨T1, X1, e1, st1⟩ := initO X0 hx hZ hown (hw _ (List.mem_of_getElem? (i := 169) rfl)) (hw _ (List.mem_of_getElem? (i := 17) rfl)) (hw _ (List.mem_of_getElem? (i := 18) rfl)) e0 (g := (mkF m 1 #[rv a, rv x] [(.ref a)])) rfl (by rw [hml]; rfl) rfl (hb hby dthi_1) (by decide) (W := 0) (by show 2 * 0 + _ ≤ _; exact Nat.le_of_eq rfl) (by decide)
  refine Go.st (T' := T1) (g' := (mkF m 4 #[rv a, rv x] [])) ?_ st1
  refine Go.st (T' := T1) (g' := (mkF m 6 #[rv a, rv x] [(.ref a), (.ref a)])) ?_ (fun _ kk_ => XS.aloadN X1.here hx rfl (hb hby dthi_4) rfl rfl  (XS.aloadN X1.here hx rfl (hb hby dthi_5) rfl rfl  kk_))
  obtain ⟨T2, h2, X2, e2, W2, st2⟩ := putF X1 hx hZ hown (host := "") (Or.inl (hw _ (List.mem_of_getElem? (i := 170) rfl))) Via.refl e1 Fx_cause E_a (Or.inl (hw _ (List.mem_of_getElem? (i := 171) rfl))) (hw _ (List.mem_of_getElem? (i := 43) rfl)) (ty := (.object "java/lang/Throwable")) (by decide) rfl rfl (g := (mkF m 6 #[rv a, rv x] [(.ref a), (.ref a)])) rfl rfl (hb hby dthi_6)
  have N3 := Fr.snoc X2 N0 g_a
  have HS4 := HS.wr HS0 W2 (Safe.exa hZ.alike E_a (by decide) (by decide))
  have O5 := O0.wr W2 g_a
  have f6 := Fx_cause.same W2
  have K7 : Keep h0 h2 [a] := K0.wr W2 (Or.inl (List.mem_of_getElem? (i := 0) rfl))
  refine Go.st (T' := T2) (g' := (mkF m 9 #[rv a, rv x] [])) ?_ st2
  refine Go.st (T' := T2) (g' := (mkF m 10 #[rv a, rv x] [(.ref a)])) ?_ (fun _ kk_ => XS.aloadN X2.here hx rfl (hb hby dthi_9) rfl rfl  kk_)
  obtain ⟨T8, X8, e8, st8⟩ := getS2 X2 hx hZ hown (host := "") (Or.inl (hw _ (List.mem_of_getElem? (i := 172) rfl))) Via.refl e2 (Su.ext O5.2) (g := (mkF m 10 #[rv a, rv x] [(.ref a)])) rfl (hb hby dthi_10)
  refine Go.st (T' := T8) (g' := (mkF m 13 #[rv a, rv x] [uU, (.ref a)])) ?_ st8
  have f9 := (Fx_stackTrace.other W2 (Or.inr (slot_ne (C := "com/example/staleness/staleness/CommandException") (Or.inl (hw _ (List.mem_of_getElem? (i := 174) rfl))) (Or.inl (hw _ (List.mem_of_getElem? (i := 171) rfl))) (by decide) (t := (.array (.object "java/lang/StackTraceElement"))) (t' := (.object "java/lang/Throwable")) (by decide) (by decide))))
  have f10 := (E_a.wr W2)
  obtain ⟨T11, h11, X11, e11, W11, st11⟩ := putF X8 hx hZ hown (host := "") (Or.inl (hw _ (List.mem_of_getElem? (i := 173) rfl))) Via.refl e8 f9 f10 (Or.inl (hw _ (List.mem_of_getElem? (i := 174) rfl))) (hw _ (List.mem_of_getElem? (i := 43) rfl)) (ty := (.array (.object "java/lang/StackTraceElement"))) (by decide) (own_nar (t := (.array (.object "java/lang/StackTraceElement"))) hr_uU) (own_fit (t := (.array (.object "java/lang/StackTraceElement"))) rfl hr_uU) (g := (mkF m 13 #[rv a, rv x] [uU, (.ref a)])) rfl rfl (hb hby dthi_13)
  have N12 := Fr.snoc X11 N3 g_a
  have HS13 := HS.wr HS4 W11 (Safe.exa hZ.alike f10 (by decide) (by decide))
  have O14 := O5.wr W11 g_a
  have f15 := f9.same W11
  have K16 : Keep h0 h11 [a] := K7.wr W11 (Or.inl (List.mem_of_getElem? (i := 0) rfl))
  refine Go.st (T' := T11) (g' := (mkF m 16 #[rv a, rv x] [])) ?_ st11
  refine Go.st (T' := T11) (g' := (mkF m 17 #[rv a, rv x] [(.ref a)])) ?_ (fun _ kk_ => XS.aloadN X11.here hx rfl (hb hby dthi_16) rfl rfl  kk_)
  obtain ⟨T17, X17, e17, st17⟩ := getS2 X11 hx hZ hown (host := "") (Or.inl (hw _ (List.mem_of_getElem? (i := 175) rfl))) Via.refl e11 (Ss.ext O14.2) (g := (mkF m 17 #[rv a, rv x] [(.ref a)])) rfl (hb hby dthi_17)
  refine Go.st (T' := T17) (g' := (mkF m 20 #[rv a, rv x] [uS, (.ref a)])) ?_ st17
  have f18 := ((Fx_suppressedExceptions.other W2 (Or.inr (slot_ne (C := "com/example/staleness/staleness/CommandException") (Or.inl (hw _ (List.mem_of_getElem? (i := 177) rfl))) (Or.inl (hw _ (List.mem_of_getElem? (i := 171) rfl))) (by decide) (t := (.object "java/util/List")) (t' := (.object "java/lang/Throwable")) (by decide) (by decide)))).other W11 (Or.inr (slot_ne (C := "com/example/staleness/staleness/CommandException") (Or.inl (hw _ (List.mem_of_getElem? (i := 177) rfl))) (Or.inl (hw _ (List.mem_of_getElem? (i := 174) rfl))) (by decide) (t := (.object "java/util/List")) (t' := (.array (.object "java/lang/StackTraceElement"))) (by decide) (by decide))))
  have f19 := (f10.wr W11)
  obtain ⟨T20, h20, X20, e20, W20, st20⟩ := putF X17 hx hZ hown (host := "") (Or.inl (hw _ (List.mem_of_getElem? (i := 176) rfl))) Via.refl e17 f18 f19 (Or.inl (hw _ (List.mem_of_getElem? (i := 177) rfl))) (hw _ (List.mem_of_getElem? (i := 43) rfl)) (ty := (.object "java/util/List")) (by decide) (own_nar (t := (.object "java/util/List")) hr_uS) (own_fit (t := (.object "java/util/List")) rfl hr_uS) (g := (mkF m 20 #[rv a, rv x] [uS, (.ref a)])) rfl rfl (hb hby dthi_20)
  have N21 := Fr.snoc X20 N12 g_a
  have HS22 := HS.wr HS13 W20 (Safe.exa hZ.alike f19 (by decide) (by decide))
  have O23 := O14.wr W20 g_a
  have f24 := f18.same W20
  have K25 : Keep h0 h20 [a] := K16.wr W20 (Or.inl (List.mem_of_getElem? (i := 0) rfl))
  refine Go.st (T' := T20) (g' := (mkF m 23 #[rv a, rv x] [])) ?_ st20
  refine Go.st (T' := T20) (g' := (mkF m 24 #[rv a, rv x] [(.ref a)])) ?_ (fun _ kk_ => XS.aloadN X20.here hx rfl (hb hby dthi_23) rfl rfl  kk_)
  have f27 := (f19.wr W20)
  have f28 := (Unt.wr W20 (Unt.wr W11 (Unt.wr W2 U_a)))
  have f29 := (f15.other W20 (Or.inr (slot_ne (C := "com/example/staleness/staleness/CommandException") (Or.inl (hw _ (List.mem_of_getElem? (i := 174) rfl))) (Or.inl (hw _ (List.mem_of_getElem? (i := 177) rfl))) (by decide) (t := (.array (.object "java/lang/StackTraceElement"))) (t' := (.object "java/util/List")) (by decide) (by decide))))
  have f30 := (((Fx_backtrace.other W2 (Or.inr (slot_ne (C := "com/example/staleness/staleness/CommandException") (Or.inl (hw _ (List.mem_of_getElem? (i := 202) rfl))) (Or.inl (hw _ (List.mem_of_getElem? (i := 171) rfl))) (by decide) (t := (.object "java/lang/Object")) (t' := (.object "java/lang/Throwable")) (by decide) (by decide)))).other W11 (Or.inr (slot_ne (C := "com/example/staleness/staleness/CommandException") (Or.inl (hw _ (List.mem_of_getElem? (i := 202) rfl))) (Or.inl (hw _ (List.mem_of_getElem? (i := 174) rfl))) (by decide) (t := (.object "java/lang/Object")) (t' := (.array (.object "java/lang/StackTraceElement"))) (by decide) (by decide)))).other W20 (Or.inr (slot_ne (C := "com/example/staleness/staleness/CommandException") (Or.inl (hw _ (List.mem_of_getElem? (i := 202) rfl))) (Or.inl (hw _ (List.mem_of_getElem? (i := 177) rfl))) (by decide) (t := (.object "java/lang/Object")) (t' := (.object "java/util/List")) (by decide) (by decide))))
  have f31 := (((Fx_detailMessage.other W2 (Or.inr (slot_ne (C := "com/example/staleness/staleness/CommandException") (Or.inl (hw _ (List.mem_of_getElem? (i := 201) rfl))) (Or.inl (hw _ (List.mem_of_getElem? (i := 171) rfl))) (by decide) (t := (.object "java/lang/String")) (t' := (.object "java/lang/Throwable")) (by decide) (by decide)))).other W11 (Or.inr (slot_ne (C := "com/example/staleness/staleness/CommandException") (Or.inl (hw _ (List.mem_of_getElem? (i := 201) rfl))) (Or.inl (hw _ (List.mem_of_getElem? (i := 174) rfl))) (by decide) (t := (.object "java/lang/String")) (t' := (.array (.object "java/lang/StackTraceElement"))) (by decide) (by decide)))).other W20 (Or.inr (slot_ne (C := "com/example/staleness/staleness/CommandException") (Or.inl (hw _ (List.mem_of_getElem? (i := 201) rfl))) (Or.inl (hw _ (List.mem_of_getElem? (i := 177) rfl))) (by decide) (t := (.object "java/lang/String")) (t' := (.object "java/util/List")) (by decide) (by decide))))
  refine Go.fill (rcl := "com/example/staleness/staleness/CommandException") X20 hx hlt hZ hown (by decide) wX (hw _ (List.mem_of_getElem? (i := 43) rfl)) (ThS.ext (es ▸ O0.2) ThS.start) hTK hBl HS22 e20 f27 f28 (uU := uU) hr_uU (Su.ext O23.2) f29 f30 f31 (by intro y hy; simp only [List.nil_append, List.append_assoc, List.cons_append, List.mem_cons, List.not_mem_nil, or_false] at hy; rcases hy with rfl | rfl | rfl <;> rfl) rfl (by rw [hml]; rfl) (rest := []) rfl (hb hby dthi_24) (by decide) (Nat.le_of_ble_eq_true rfl) (by decide) (by decide) ?_
  intro T26 h26 L26 X26 e26 K26 A26 F26 hB26
  rw [es] at K26
  have N26 := own_frB hB26 g_a
  have HS32 := HS.keep HS0 K26 (sfS (Safe.exa hZ.alike E_a (by decide) (by decide)) sf0)
  have O33 := O0.keep K26 (allS (P := fun z_ => n0 ≤ z_) g_a all0)
  show Go p e below _ T26 (mkF m 27 #[rv a, rv x] [(.ref a)])
  refine Go.st (T' := T26) (g' := (mkF m 30 #[rv a, rv x] [(.ref x), (.ref a)])) ?_ (fun _ kk_ => XS.pop X26.here hx rfl (hb hby dthi_27) rfl rfl (XS.aloadN X26.here hx rfl (hb hby dthi_28) rfl rfl  (XS.aloadN X26.here hx rfl (hb hby dthi_29) rfl rfl  kk_)))
  obtain ⟨T34, h34, X34, e34, W34, st34⟩ := putF X26 hx hZ hown (host := "") (Or.inl (hw _ (List.mem_of_getElem? (i := 205) rfl))) Via.refl e26 F26 A26 (Or.inl (hw _ (List.mem_of_getElem? (i := 201) rfl))) (hw _ (List.mem_of_getElem? (i := 43) rfl)) (ty := (.object "java/lang/String")) (by decide) rfl rfl (g := (mkF m 30 #[rv a, rv x] [(.ref x), (.ref a)])) rfl rfl (hb hby dthi_30)
  have N35 := Fr.snoc X34 N26 g_a
  have HS36 := HS.wr HS32 W34 (Safe.exa hZ.alike A26 (by decide) (by decide))
  have O37 := O33.wr W34 g_a
  have f38 := F26.same W34
  have K39 : Keep h0 h34 [a] := K26.wr W34 (Or.inl (List.mem_of_getElem? (i := 0) rfl))
  refine Go.st (T' := T34) (g' := (mkF m 33 #[rv a, rv x] [])) ?_ st34
  have f40 := (A26.wr W34)
  refine Go.retVH X34 hx hlk hret (hb hby dthi_33) (by decide) (by decide) hZ hEL (by rw [e34]; exact HS36) ?_
  try rw [e34]
  exact ⟨rfl, N35, K39, f40, f38⟩
theorem dexi_0 : decode jdk_59_method_2_code 0 = .ok (.aload_n 0, 1) := by decide +kernel
theorem dexi_1 : decode jdk_59_method_2_code 1 = .ok (.aload_n 1, 1) := by decide +kernel
theorem dexi_2 : decode jdk_59_method_2_code 2 = .ok (.invokespecial 7, 3) := by decide +kernel
theorem dexi_5 : decode jdk_59_method_2_code 5 = .ok (.return_, 1) := by decide +kernel
theorem pn_exi : plainFor (⟨"java/lang/Exception", "<init>", "(Ljava/lang/String;)V"⟩ : MethodName) = true := by first | exact plainFor_of_name (by first | (simp [plainName, overriddenIn]; done) | decide +kernel) | decide +kernel
theorem ef_exi (m : MethodId) (x0 : Addr) (x1 : Addr) : entryFrame m #[(.ref x0), (.ref x1)] 2 = mkF m 0 #[rv x0, rv x1] [] := by first | (simp [entryFrame, mkF, argsToLocals, Value.category]; done) | rfl
set_option maxRecDepth 65536 in
set_option maxHeartbeats 40000000 in
theorem rm_exi (l : Launch) (Z : State) (a0 : Array Value) (hw : ∀ d ∈ tables_1, d.before a0 Z = true) (ws : List Jvm.Cond) (a x : Addr) (n0 : Nat) (uU uS : Value) (h0 : Heap) (hEL : EW Z a0 consts_1) (wS : ∀ a ∈ Bundle.stringAtoms, a.before a0 Z = true) (hlt : l.stackTraces = true) (wX : ∀ d ∈ Jvm.Free.Exc.excAtoms "com/example/staleness/staleness/CommandException", d ≠ lackW → d.before a0 Z = true) (Su : Sta Z Z.heap "java/lang/Throwable" "UNASSIGNED_STACK" "[Ljava/lang/StackTraceElement;" uU) (hr_uU : uU.isRef = true) (Ss : Sta Z Z.heap "java/lang/Throwable" "SUPPRESSED_SENTINEL" "Ljava/util/List;" uS) (hr_uS : uS.isRef = true) (O0 : Old Z n0 h0) (g_a : n0 ≤ a) (E_a : Exa Z h0 a "com/example/staleness/staleness/CommandException") (U_a : Unt h0 a) (Fx_cause : Fld Z h0 a "java/lang/Throwable" "cause" "Ljava/lang/Throwable;" .null) (Fx_stackTrace : Fld Z h0 a "java/lang/Throwable" "stackTrace" "[Ljava/lang/StackTraceElement;" .null) (Fx_suppressedExceptions : Fld Z h0 a "java/lang/Throwable" "suppressedExceptions" "Ljava/util/List;" .null) (Fx_backtrace : Fld Z h0 a "java/lang/Throwable" "backtrace" "Ljava/lang/Object;" .null) (Fx_detailMessage : Fld Z h0 a "java/lang/Throwable" "detailMessage" "Ljava/lang/String;" .null) :
    MtK l Z consts_1 (⟨"java/lang/Exception", "<init>", "(Ljava/lang/String;)V"⟩ : MethodName) jdk_59_method_2_code 2 none ws ({ frames := 4, cells := 1, slots := 2752, locals := 55 } : Room) #[(.ref a), (.ref x)] h0 (fun v h L => v = none ∧ Fr n0 L ∧ Keep h0 h [a] ∧ Exa Z h a "com/example/staleness/staleness/CommandException" ∧ Fld Z h a "java/lang/Throwable" "detailMessage" "Ljava/lang/String;" (.ref x)) := by
  refine MtK.body pn_exi ?_
  intro p e s m below meth c s₁ hx hby hml hown hnm hret hlk hZ X0 e0 HS0 es hTK hBl
  refine Go.cast (g' := (mkF m 0 #[rv a, rv x] [])) (ef_exi m a x) ?_
  have N0 := Fr.nil n0
  have K0 := Keep.refl h0 [a]
  refine Go.st (T' := s₁) (g' := (mkF m 2 #[rv a, rv x] [(.ref x), (.ref a)])) ?_ (fun _ kk_ => XS.aloadN X0.here hx rfl (hb hby dexi_0) rfl rfl  (XS.aloadN X0.here hx rfl (hb hby dexi_1) rfl rfl  kk_))
  refine Go.callNK (y := (⟨"java/lang/Throwable", "<init>", "(Ljava/lang/String;)V"⟩ : MethodName)) X0 hx hZ rfl hown (hw _ (List.mem_of_getElem? (i := 163) rfl)) (hw _ (List.mem_of_getElem? (i := 164) rfl)) (hw _ (List.mem_of_getElem? (i := 167) rfl)) (hw _ (List.mem_of_getElem? (i := 168) rfl)) (by decide) 0 HS0 hEL hTK hBl (rm_thi l Z a0 hw [] a x n0 uU uS h0 hEL wS hlt wX Su hr_uU Ss hr_uS O0 g_a E_a U_a Fx_cause Fx_stackTrace Fx_suppressedExceptions Fx_backtrace Fx_detailMessage) e0 (by decide) (by decide) (by decide) (by decide) (a := a) (argsL := [(.ref x)]) (rest := []) rfl (by rw [hml]; rfl) (lenOf pd__28Ljava_2flang_2fString_3b_29V rfl) rfl rfl (by show 2 * 0 + _ ≤ _; exact Nat.le_of_eq rfl) (hb hby dexi_2) ?_
  rintro _ T1 L1 X1 ⟨rfl, N1, K1, EA1, FA1⟩ hZ1 ho1 HS1 C1
  have N2 := Fr.app N0 N1
  have O3 := O0.keep K1 (allS (P := fun z_ => n0 ≤ z_) g_a all0)
  have K4 : Keep h0 T1.heap [a] := K0.trans K1 (allS (P := fun z_ => z_ ∈ [a] ∨ h0.size ≤ z_) (Or.inl (List.mem_of_getElem? (i := 0) rfl)) all0)
  show Go p e below _ T1 (mkF m 5 #[rv a, rv x] [])
  refine Go.retVH X1 hx hlk hret (hb hby dexi_5) (by decide) (by decide) hZ1 hEL HS1 ?_
  exact ⟨rfl, N2, K4, EA1, FA1⟩
theorem dcei_0 : decode prog_5_method_1_code 0 = .ok (.aload_n 0, 1) := by decide +kernel
theorem dcei_1 : decode prog_5_method_1_code 1 = .ok (.aload_n 1, 1) := by decide +kernel
theorem dcei_2 : decode prog_5_method_1_code 2 = .ok (.invokespecial 1, 3) := by decide +kernel
theorem dcei_5 : decode prog_5_method_1_code 5 = .ok (.return_, 1) := by decide +kernel
theorem pn_cei : plainFor (⟨"com/example/staleness/staleness/CommandException", "<init>", "(Ljava/lang/String;)V"⟩ : MethodName) = true := by first | exact plainFor_of_name (by first | (simp [plainName, overriddenIn]; done) | decide +kernel) | decide +kernel
theorem ef_cei (m : MethodId) (x0 : Addr) (x1 : Addr) : entryFrame m #[(.ref x0), (.ref x1)] 2 = mkF m 0 #[rv x0, rv x1] [] := by first | (simp [entryFrame, mkF, argsToLocals, Value.category]; done) | rfl
set_option maxRecDepth 65536 in
set_option maxHeartbeats 40000000 in
theorem rm_cei (l : Launch) (Z : State) (a0 : Array Value) (hw : ∀ d ∈ tables_1, d.before a0 Z = true) (ws : List Jvm.Cond) (a x : Addr) (n0 : Nat) (uU uS : Value) (h0 : Heap) (hEL : EW Z a0 consts_1) (wS : ∀ a ∈ Bundle.stringAtoms, a.before a0 Z = true) (hlt : l.stackTraces = true) (wX : ∀ d ∈ Jvm.Free.Exc.excAtoms "com/example/staleness/staleness/CommandException", d ≠ lackW → d.before a0 Z = true) (Su : Sta Z Z.heap "java/lang/Throwable" "UNASSIGNED_STACK" "[Ljava/lang/StackTraceElement;" uU) (hr_uU : uU.isRef = true) (Ss : Sta Z Z.heap "java/lang/Throwable" "SUPPRESSED_SENTINEL" "Ljava/util/List;" uS) (hr_uS : uS.isRef = true) (O0 : Old Z n0 h0) (g_a : n0 ≤ a) (E_a : Exa Z h0 a "com/example/staleness/staleness/CommandException") (U_a : Unt h0 a) (Fx_cause : Fld Z h0 a "java/lang/Throwable" "cause" "Ljava/lang/Throwable;" .null) (Fx_stackTrace : Fld Z h0 a "java/lang/Throwable" "stackTrace" "[Ljava/lang/StackTraceElement;" .null) (Fx_suppressedExceptions : Fld Z h0 a "java/lang/Throwable" "suppressedExceptions" "Ljava/util/List;" .null) (Fx_backtrace : Fld Z h0 a "java/lang/Throwable" "backtrace" "Ljava/lang/Object;" .null) (Fx_detailMessage : Fld Z h0 a "java/lang/Throwable" "detailMessage" "Ljava/lang/String;" .null) :
    MtK l Z consts_1 (⟨"com/example/staleness/staleness/CommandException", "<init>", "(Ljava/lang/String;)V"⟩ : MethodName) prog_5_method_1_code 2 none ws ({ frames := 5, cells := 1, slots := 2752, locals := 68 } : Room) #[(.ref a), (.ref x)] h0 (fun v h L => v = none ∧ Fr n0 L ∧ Keep h0 h [a] ∧ Exa Z h a "com/example/staleness/staleness/CommandException" ∧ Fld Z h a "java/lang/Throwable" "detailMessage" "Ljava/lang/String;" (.ref x)) := by
  refine MtK.body pn_cei ?_
  intro p e s m below meth c s₁ hx hby hml hown hnm hret hlk hZ X0 e0 HS0 es hTK hBl
  refine Go.cast (g' := (mkF m 0 #[rv a, rv x] [])) (ef_cei m a x) ?_
  have N0 := Fr.nil n0
  have K0 := Keep.refl h0 [a]
  refine Go.st (T' := s₁) (g' := (mkF m 2 #[rv a, rv x] [(.ref x), (.ref a)])) ?_ (fun _ kk_ => XS.aloadN X0.here hx rfl (hb hby dcei_0) rfl rfl  (XS.aloadN X0.here hx rfl (hb hby dcei_1) rfl rfl  kk_))
  refine Go.callNK (y := (⟨"java/lang/Exception", "<init>", "(Ljava/lang/String;)V"⟩ : MethodName)) X0 hx hZ rfl hown (hw _ (List.mem_of_getElem? (i := 158) rfl)) (hw _ (List.mem_of_getElem? (i := 159) rfl)) (hw _ (List.mem_of_getElem? (i := 161) rfl)) (hw _ (List.mem_of_getElem? (i := 162) rfl)) (by decide) 0 HS0 hEL hTK hBl (rm_exi l Z a0 hw [] a x n0 uU uS h0 hEL wS hlt wX Su hr_uU Ss hr_uS O0 g_a E_a U_a Fx_cause Fx_stackTrace Fx_suppressedExceptions Fx_backtrace Fx_detailMessage) e0 (by decide) (by decide) (by decide) (by decide) (a := a) (argsL := [(.ref x)]) (rest := []) rfl (by rw [hml]; rfl) (lenOf pd__28Ljava_2flang_2fString_3b_29V rfl) rfl rfl (by show 2 * 0 + _ ≤ _; exact Nat.le_of_eq rfl) (hb hby dcei_2) ?_
  rintro _ T1 L1 X1 ⟨rfl, N1, K1, EA1, FA1⟩ hZ1 ho1 HS1 C1
  have N2 := Fr.app N0 N1
  have O3 := O0.keep K1 (allS (P := fun z_ => n0 ≤ z_) g_a all0)
  have K4 : Keep h0 T1.heap [a] := K0.trans K1 (allS (P := fun z_ => z_ ∈ [a] ∨ h0.size ≤ z_) (Or.inl (List.mem_of_getElem? (i := 0) rfl)) all0)
  show Go p e below _ T1 (mkF m 5 #[rv a, rv x] [])
  refine Go.retVH X1 hx hlk hret (hb hby dcei_5) (by decide) (by decide) hZ1 hEL HS1 ?_
  exact ⟨rfl, N2, K4, EA1, FA1⟩
theorem dusg_0 : decode prog_5_method_3_code 0 = .ok (.new 10, 3) := by decide +kernel
theorem dusg_3 : decode prog_5_method_3_code 3 = .ok (.dup, 1) := by decide +kernel
theorem dusg_4 : decode prog_5_method_3_code 4 = .ok (.new 12, 3) := by decide +kernel
theorem dusg_7 : decode prog_5_method_3_code 7 = .ok (.dup, 1) := by decide +kernel
theorem dusg_8 : decode prog_5_method_3_code 8 = .ok (.invokespecial 14, 3) := by decide +kernel
theorem dusg_11 : decode prog_5_method_3_code 11 = .ok (.aload_n 0, 1) := by decide +kernel
theorem dusg_12 : decode prog_5_method_3_code 12 = .ok (.invokevirtual 17, 3) := by decide +kernel
theorem dusg_15 : decode prog_5_method_3_code 15 = .ok (.ldc 21, 2) := by decide +kernel
theorem dusg_17 : decode prog_5_method_3_code 17 = .ok (.invokevirtual 17, 3) := by decide +kernel
theorem dusg_20 : decode prog_5_method_3_code 20 = .ok (.aload_n 1, 1) := by decide +kernel
theorem dusg_21 : decode prog_5_method_3_code 21 = .ok (.invokevirtual 17, 3) := by decide +kernel
theorem dusg_24 : decode prog_5_method_3_code 24 = .ok (.invokevirtual 23, 3) := by decide +kernel
theorem dusg_27 : decode prog_5_method_3_code 27 = .ok (.invokespecial 27, 3) := by decide +kernel
theorem dusg_30 : decode prog_5_method_3_code 30 = .ok (.areturn, 1) := by decide +kernel
theorem pn_usg : plainFor (⟨"com/example/staleness/staleness/CommandException", "usage", "(Ljava/lang/String;Ljava/lang/String;)Lcom/example/staleness/staleness/CommandException;"⟩ : MethodName) = true := by first | exact plainFor_of_name (by first | (simp [plainName, overriddenIn]; done) | decide +kernel) | decide +kernel
theorem ef_usg (m : MethodId) (x0 : Addr) (x1 : Addr) : entryFrame m #[(.ref x0), (.ref x1)] 2 = mkF m 0 #[rv x0, rv x1] [] := by first | (simp [entryFrame, mkF, argsToLocals, Value.category]; done) | rfl
set_option maxRecDepth 65536 in
set_option maxHeartbeats 40000000 in
theorem rm_usg (l : Launch) (Z : State) (a0 : Array Value) (hw : ∀ d ∈ tables_1, d.before a0 Z = true) (ws : List Jvm.Cond) (a t b2 t2 : Addr) (lp lu p0_ p1_ u0_ u1_ : Nat) (n0 : Nat) (cS : Int32) (uU uS : Value) (h0 : Heap) (hEL : EW Z a0 consts_1) (wS : ∀ a ∈ Bundle.stringAtoms, a.before a0 Z = true) (hlt : l.stackTraces = true) (wX : ∀ d ∈ Jvm.Free.Exc.excAtoms "com/example/staleness/staleness/CommandException", d ≠ lackW → d.before a0 Z = true) (Su : Sta Z Z.heap "java/lang/Throwable" "UNASSIGNED_STACK" "[Ljava/lang/StackTraceElement;" uU) (hr_uU : uU.isRef = true) (Ss : Sta Z Z.heap "java/lang/Throwable" "SUPPRESSED_SENTINEL" "Ljava/util/List;" uS) (hr_uS : uS.isRef = true) (Z0 : n0 ≤ h0.size) (hl_ : lp ≤ 2) (hu_ : lu ≤ 2) (E_a : Exa Z h0 a "java/lang/String") (Fc_a : Fld Z h0 a "java/lang/String" "coder" "B" (.int (0 : Int32))) (Fv_a : Fld Z h0 a "java/lang/String" "value" "[B" (.ref t)) (V_t : Ary Z h0 t .byte (IL lp (fun q => bI (c2 p0_ p1_ q)))) (E_b2 : Exa Z h0 b2 "java/lang/String") (Fc_b2 : Fld Z h0 b2 "java/lang/String" "coder" "B" (.int (0 : Int32))) (Fv_b2 : Fld Z h0 b2 "java/lang/String" "value" "[B" (.ref t2)) (V_t2 : Ary Z h0 t2 .byte (IL lu (fun q => bI (c2 u0_ u1_ q)))) (O0 : Old Z n0 h0) (Sc : Sta Z Z.heap "java/lang/String" "COMPACT_STRINGS" "Z" (.int cS)) (hcS : ¬ (cS = (0 : Int32))) :
    MtK l Z consts_1 (⟨"com/example/staleness/staleness/CommandException", "usage", "(Ljava/lang/String;Ljava/lang/String;)Lcom/example/staleness/staleness/CommandException;"⟩ : MethodName) prog_5_method_3_code 2 (some (.object "com/example/staleness/staleness/CommandException")) ws ({ frames := 6, cells := 8, slots := 2806, locals := 137 } : Room) #[(.ref a), (.ref b2)] h0 (fun v h L => ∃ ex x t, v = some (.ref ex) ∧ Fr n0 L ∧ Keep h0 h [] ∧ Exa Z h ex "com/example/staleness/staleness/CommandException" ∧ Fld Z h ex "java/lang/Throwable" "detailMessage" "Ljava/lang/String;" (.ref x) ∧ Exa Z h x "java/lang/String" ∧ Fld Z h x "java/lang/String" "coder" "B" (.int (0 : Int32)) ∧ Fld Z h x "java/lang/String" "value" "[B" (.ref t) ∧ Ary Z h t .byte (IL (lp + 1 + lu) (fun q => bI (jC p0_ p1_ u0_ u1_ lp q)))) := by
  refine MtK.body pn_usg ?_
  intro p e s m below meth c s₁ hx hby hml hown hnm hret hlk hZ X0 e0 HS0 es hTK hBl
  refine Go.cast (g' := (mkF m 0 #[rv a, rv b2] [])) (ef_usg m a b2) ?_
  have N0 := Fr.nil n0
  have K0 := Keep.refl h0 ([] : List Addr)
  obtain ⟨T1, h1, X1, e1, E1, A1, D1, U1, st1⟩ := newO X0 hx hZ hown (hw _ (List.mem_of_getElem? (i := 42) rfl)) (hw _ (List.mem_of_getElem? (i := 43) rfl)) (hw _ (List.mem_of_getElem? (i := 40) rfl)) e0 (g := (mkF m 0 #[rv a, rv b2] [])) rfl (hb hby dusg_0) (by decide) (by decide)
  obtain ⟨b1, g1⟩ : ∃ z, z = h0.size := ⟨_, rfl⟩
  rw [← g1] at A1 D1 st1 U1
  have ne_a_b1 : a ≠ b1 := Nat.ne_of_lt (Nat.lt_of_lt_of_eq (E_a).lt g1.symm)
  have ne_t_b1 : t ≠ b1 := Nat.ne_of_lt (Nat.lt_of_lt_of_eq (V_t).lt g1.symm)
  have ne_b2_b1 : b2 ≠ b1 := Nat.ne_of_lt (Nat.lt_of_lt_of_eq (E_b2).lt g1.symm)
  have ne_t2_b1 : t2 ≠ b1 := Nat.ne_of_lt (Nat.lt_of_lt_of_eq (V_t2).lt g1.symm)
  have g_b1 : n0 ≤ b1 := Nat.le_trans Z0 (Nat.le_of_eq g1.symm)
  have sz_b1 : h0.size ≤ b1 := Nat.le_trans K0.1 (Nat.le_of_eq g1.symm)
  have HS2 := HS.ext HS0 E1
  have O3 := O0.ext E1
  have Z4 : n0 ≤ h1.size := Nat.le_trans Z0 E1.1
  have K5 : Keep h0 h1 ([] : List Addr) := K0.ext E1
  have sf6 := Sf.born HS0 E1 g1 A1.lt
  have f7 : Fld Z h1 b1 "java/lang/Throwable" "cause" "Ljava/lang/Throwable;" .null := D1 (Or.inl (hw _ (List.mem_of_getElem? (i := 171) rfl))) (ty := (.object "java/lang/Throwable")) (by decide)
  have f8 : Fld Z h1 b1 "java/lang/Throwable" "stackTrace" "[Ljava/lang/StackTraceElement;" .null := D1 (Or.inl (hw _ (List.mem_of_getElem? (i := 174) rfl))) (ty := (.array (.object "java/lang/StackTraceElement"))) (by decide)
  have f9 : Fld Z h1 b1 "java/lang/Throwable" "suppressedExceptions" "Ljava/util/List;" .null := D1 (Or.inl (hw _ (List.mem_of_getElem? (i := 177) rfl))) (ty := (.object "java/util/List")) (by decide)
  have f10 : Fld Z h1 b1 "java/lang/Throwable" "detailMessage" "Ljava/lang/String;" .null := D1 (Or.inl (hw _ (List.mem_of_getElem? (i := 201) rfl))) (ty := (.object "java/lang/String")) (by decide)
  have f11 : Fld Z h1 b1 "java/lang/Throwable" "backtrace" "Ljava/lang/Object;" .null := D1 (Or.inl (hw _ (List.mem_of_getElem? (i := 202) rfl))) (ty := (.object "java/lang/Object")) (by decide)
  have f12 : Fld Z h1 b1 "java/lang/Throwable" "depth" "I" (.int (0 : Int32)) := D1 (Or.inl (hw _ (List.mem_of_getElem? (i := 203) rfl))) (ty := .int) (by decide)
  refine Go.st (T' := T1) (g' := (mkF m 3 #[rv a, rv b2] [(.ref b1)])) ?_ st1
  refine Go.st (T' := T1) (g' := (mkF m 4 #[rv a, rv b2] [(.ref b1), (.ref b1)])) ?_ (fun _ kk_ => XS.dup X1.here hx rfl (hb hby dusg_3) rfl rfl kk_)
  obtain ⟨T13, h13, X13, e13, E13, A13, D13, U13, st13⟩ := newO X1 hx hZ hown (hw _ (List.mem_of_getElem? (i := 44) rfl)) (hw _ (List.mem_of_getElem? (i := 45) rfl)) (hw _ (List.mem_of_getElem? (i := 46) rfl)) e1 (g := (mkF m 4 #[rv a, rv b2] [(.ref b1), (.ref b1)])) rfl (hb hby dusg_4) (by decide) (by decide)
  obtain ⟨b13, g13⟩ : ∃ z, z = h1.size := ⟨_, rfl⟩
  rw [← g13] at A13 D13 st13
  have f14 := (E_a.ext E1)
  have ne_a_b13 : a ≠ b13 := Nat.ne_of_lt (Nat.lt_of_lt_of_eq (f14).lt g13.symm)
  have f15 := (V_t.ext E1)
  have ne_t_b13 : t ≠ b13 := Nat.ne_of_lt (Nat.lt_of_lt_of_eq (f15).lt g13.symm)
  have f16 := (E_b2.ext E1)
  have ne_b2_b13 : b2 ≠ b13 := Nat.ne_of_lt (Nat.lt_of_lt_of_eq (f16).lt g13.symm)
  have f17 := (V_t2.ext E1)
  have ne_t2_b13 : t2 ≠ b13 := Nat.ne_of_lt (Nat.lt_of_lt_of_eq (f17).lt g13.symm)
  have ne_b1_b13 : b1 ≠ b13 := Nat.ne_of_lt (Nat.lt_of_lt_of_eq (A1).lt g13.symm)
  have g_b13 : n0 ≤ b13 := Nat.le_trans Z4 (Nat.le_of_eq g13.symm)
  have sz_b13 : h0.size ≤ b13 := Nat.le_trans K5.1 (Nat.le_of_eq g13.symm)
  have HS18 := HS.ext HS2 E13
  have O19 := O3.ext E13
  have Z20 : n0 ≤ h13.size := Nat.le_trans Z4 E13.1
  have K21 : Keep h0 h13 ([] : List Addr) := K5.ext E13
  have sf22 := Sf.born HS2 E13 g13 A13.lt
  have f23 : Fld Z h13 b13 "java/lang/AbstractStringBuilder" "value" "[B" .null := D13 (Or.inl (hw _ (List.mem_of_getElem? (i := 59) rfl))) (ty := (.array .byte)) (by decide)
  have f24 : Fld Z h13 b13 "java/lang/AbstractStringBuilder" "coder" "B" (.int (0 : Int32)) := D13 (Or.inl (hw _ (List.mem_of_getElem? (i := 61) rfl))) (ty := .byte) (by decide)
  have f25 : Fld Z h13 b13 "java/lang/AbstractStringBuilder" "count" "I" (.int (0 : Int32)) := D13 (Or.inl (hw _ (List.mem_of_getElem? (i := 83) rfl))) (ty := .int) (by decide)
  refine Go.st (T' := T13) (g' := (mkF m 7 #[rv a, rv b2] [(.ref b13), (.ref b1), (.ref b1)])) ?_ st13
  refine Go.st (T' := T13) (g' := (mkF m 8 #[rv a, rv b2] [(.ref b13), (.ref b13), (.ref b1), (.ref b1)])) ?_ (fun _ kk_ => XS.dup X13.here hx rfl (hb hby dusg_7) rfl rfl kk_)
  have f26 := (f14.ext E13)
  have f27 := (f15.ext E13)
  have f28 := (f16.ext E13)
  have f29 := (f17.ext E13)
  have f30 := (A1.ext E13)
  refine Go.callN (y := (⟨"java/lang/StringBuilder", "<init>", "()V"⟩ : MethodName)) X13 hx hZ rfl hown (hw _ (List.mem_of_getElem? (i := 47) rfl)) (hw _ (List.mem_of_getElem? (i := 48) rfl)) (hw _ (List.mem_of_getElem? (i := 46) rfl)) (hw _ (List.mem_of_getElem? (i := 49) rfl)) (by decide) 3 (rm_sbi l Z a0 hw [] b13 n0 cS h13 Z20 A13 f23 f24 f25 g_b13 O19 Sc hcS) e13 (by decide) (by decide) (by decide) (by decide) (a := b13) (argsL := []) (rest := [(.ref b13), (.ref b1), (.ref b1)]) rfl (by rw [hml]; rfl) (lenOf pd__28_29V rfl) rfl rfl (by show 2 * 0 + _ ≤ _; exact Nat.le_of_eq rfl) (hb hby dusg_8) ?_
  rintro _ T31 L31 X31 ⟨rfl, N31, K31, d, dz, Gv31, Gc31, Gn31, V31⟩
  have N32 := Fr.app N0 N31
  have HS33 := HS.keep HS18 K31 (sfS (sf22).1 sf0)
  have O34 := O19.keep K31 (allS (P := fun z_ => n0 ≤ z_) g_b13 all0)
  have Z35 : n0 ≤ T31.heap.size := Nat.le_trans Z20 K31.1
  have K36 : Keep h0 T31.heap ([] : List Addr) := K21.trans K31 (allS (P := fun z_ => z_ ∈ ([] : List Addr) ∨ h0.size ≤ z_) (Or.inr sz_b13) all0)
  show Go p e below _ T31 (mkF m 11 #[rv a, rv b2] [(.ref b13), (.ref b1), (.ref b1)])
  have ne_a_d : a ≠ d := Nat.ne_of_lt (Nat.lt_of_lt_of_le (f26).lt dz)
  have ne_t_d : t ≠ d := Nat.ne_of_lt (Nat.lt_of_lt_of_le (f27).lt dz)
  have ne_b2_d : b2 ≠ d := Nat.ne_of_lt (Nat.lt_of_lt_of_le (f28).lt dz)
  have ne_t2_d : t2 ≠ d := Nat.ne_of_lt (Nat.lt_of_lt_of_le (f29).lt dz)
  have ne_b1_d : b1 ≠ d := Nat.ne_of_lt (Nat.lt_of_lt_of_le (f30).lt dz)
  have ne_b13_d : b13 ≠ d := Nat.ne_of_lt (Nat.lt_of_lt_of_le (A13).lt dz)
  have g_d : n0 ≤ d := Nat.le_trans Z20 dz
  have sz_d : h0.size ≤ d := Nat.le_trans K21.1 dz
  have sf37 := Sf.bornK HS18 K31 (sfS (sf22).1 sf0) dz V31.lt
  refine Go.st (T' := T31) (g' := (mkF m 12 #[rv a, rv b2] [(.ref a), (.ref b13), (.ref b1), (.ref b1)])) ?_ (fun _ kk_ => XS.aloadN X31.here hx rfl (hb hby dusg_11) rfl rfl  kk_)
  have f38 := (A13.keep K31)
  have f39 := (f26.keep K31)
  have f40 := (((Fc_a.ext E1).ext E13).keep K31 (ninS ne_a_b13 nin0))
  have f41 := (((Fv_a.ext E1).ext E13).keep K31 (ninS ne_a_b13 nin0))
  have f42 := (f27.keep K31 (ninS ne_t_b13 nin0))
  refine Go.callV (y := (⟨"java/lang/StringBuilder", "append", "(Ljava/lang/String;)Ljava/lang/StringBuilder;"⟩ : MethodName)) (z := (⟨"java/lang/StringBuilder", "append", "(Ljava/lang/String;)Ljava/lang/StringBuilder;"⟩ : MethodName)) X31 hx hZ hown (hw _ (List.mem_of_getElem? (i := 62) rfl)) (hw _ (List.mem_of_getElem? (i := 63) rfl)) (notFace_of_selects (args := #[]) (mvT hZ (hw _ (List.mem_of_getElem? (i := 65) rfl)))) (hw _ (List.mem_of_getElem? (i := 65) rfl)) (hw _ (List.mem_of_getElem? (i := 64) rfl)) (hw _ (List.mem_of_getElem? (i := 46) rfl)) (hw _ (List.mem_of_getElem? (i := 66) rfl)) (by decide) 2 (rm_sba l Z a0 hw [] b13 d a t 0 lp (fun _ => 0) (fun q => bI (c2 p0_ p1_ q)) n0 cS T31.heap Z35 (by omega) f38 Gv31 Gc31 Gn31 V31 g_b13 g_d ne_b13_d f39 f40 f41 f42 O34 Sc hcS) rfl (by decide) (by decide) (by decide) (by decide) f38 (argsL := [(.ref a)]) (rest := [(.ref b1), (.ref b1)]) rfl (by rw [hml]; rfl) (lenOf pd__28Ljava_2flang_2fString_3b_29Ljava_2flang_2fStringBuilder_3b rfl) rfl rfl (by show 2 * 0 + _ ≤ _; exact Nat.le_of_eq rfl) (hb hby dusg_12) ?_
  rintro _ T43 L43 X43 ⟨rfl, N43, K43, Gv43, Gc43, Gn43, V43⟩
  have N44 := Fr.app N32 N43
  have f46 := (Sf.keep HS18 K31 (sfS (sf22).1 sf0) sf22)
  have HS45 := HS.keep HS33 K43 (sfS (f46).1 (sfS (sf37).1 sf0))
  have O47 := O34.keep K43 (allS (P := fun z_ => n0 ≤ z_) g_b13 (allS (P := fun z_ => n0 ≤ z_) g_d all0))
  have Z48 : n0 ≤ T43.heap.size := Nat.le_trans Z35 K43.1
  have K49 : Keep h0 T43.heap ([] : List Addr) := K36.trans K43 (allS (P := fun z_ => z_ ∈ ([] : List Addr) ∨ h0.size ≤ z_) (Or.inr sz_b13) (allS (P := fun z_ => z_ ∈ ([] : List Addr) ∨ h0.size ≤ z_) (Or.inr sz_d) all0))
  show Go p e below _ T43 (mkF m 15 #[rv a, rv b2] [(.ref b13), (.ref b1), (.ref b1)])
  rw [Nat.zero_add] at Gn43
  refine Go.ldcH X43 hx hZ hown (hw _ (List.mem_of_getElem? (i := 109) rfl)) wS rfl HS45 hEL (by decide) (vs := (IL 1 (fun _ => bI 10))) ⟨by decide, rfl⟩ (by decide) rfl (hb hby dusg_15) 4 (by decide) (by decide) (by decide) (by decide) ?_
  intro a50 b50 T50 h50 X50 e50 E50 hZ50 ho50 HS50 A50 Fc50 Fv50 V50 C50 D50
  have O51 := O47.ext E50
  have Z52 : n0 ≤ h50.size := Nat.le_trans Z48 E50.1
  have K53 : Keep h0 h50 ([] : List Addr) := K49.ext E50
  have f54 := (Sf.vm E50.1 C50 (Sf.keep HS33 K43 (sfS (f46).1 (sfS (sf37).1 sf0)) (Sf.keep HS18 K31 (sfS (sf22).1 sf0) (Sf.ext HS2 E13 sf6))))
  obtain ⟨ne_b1_a50, ne_b1_b50⟩ := D50 b1 (f54).1
  have f55 := (Sf.vm E50.1 C50 (Sf.keep HS33 K43 (sfS (f46).1 (sfS (sf37).1 sf0)) f46))
  obtain ⟨ne_b13_a50, ne_b13_b50⟩ := D50 b13 (f55).1
  have f56 := (Sf.vm E50.1 C50 (Sf.keep HS33 K43 (sfS (f46).1 (sfS (sf37).1 sf0)) sf37))
  obtain ⟨ne_d_a50, ne_d_b50⟩ := D50 d (f56).1
  show Go p e below _ T50 (mkF m 17 #[rv a, rv b2] [(.ref a50), (.ref b13), (.ref b1), (.ref b1)])
  have f57 := ((f38.keep K43).ext E50)
  have f58 := (Gv43.ext E50)
  have f59 := (Gc43.ext E50)
  have f60 := (Gn43.ext E50)
  have f61 := (V43.ext E50)
  refine Go.callV (y := (⟨"java/lang/StringBuilder", "append", "(Ljava/lang/String;)Ljava/lang/StringBuilder;"⟩ : MethodName)) (z := (⟨"java/lang/StringBuilder", "append", "(Ljava/lang/String;)Ljava/lang/StringBuilder;"⟩ : MethodName)) X50 hx hZ50 ho50 (hw _ (List.mem_of_getElem? (i := 62) rfl)) (hw _ (List.mem_of_getElem? (i := 63) rfl)) (notFace_of_selects (args := #[]) (mvT hZ50 (hw _ (List.mem_of_getElem? (i := 65) rfl)))) (hw _ (List.mem_of_getElem? (i := 65) rfl)) (hw _ (List.mem_of_getElem? (i := 64) rfl)) (hw _ (List.mem_of_getElem? (i := 46) rfl)) (hw _ (List.mem_of_getElem? (i := 66) rfl)) (by decide) 2 (rm_sba l Z a0 hw [] b13 d a50 b50 lp 1 (apF 0 lp (fun q => bI (c2 p0_ p1_ q)) (fun _ => 0)) (fun _ => bI 10) n0 cS h50 Z52 (by omega) f57 f58 f59 f60 f61 g_b13 g_d ne_b13_d A50 Fc50 Fv50 V50 O51 Sc hcS) e50 (by decide) (by decide) (by decide) (by decide) f57 (argsL := [(.ref a50)]) (rest := [(.ref b1), (.ref b1)]) rfl (by rw [hml]; rfl) (lenOf pd__28Ljava_2flang_2fString_3b_29Ljava_2flang_2fStringBuilder_3b rfl) rfl rfl (by show 2 * 0 + _ ≤ _; exact Nat.le_of_eq rfl) (hb hby dusg_17) ?_
  rintro _ T62 L62 X62 ⟨rfl, N62, K62, Gv62, Gc62, Gn62, V62⟩
  have N63 := Fr.app N44 N62
  have HS64 := HS.keep HS50 K62 (sfS (f55).1 (sfS (f56).1 sf0))
  have O65 := O51.keep K62 (allS (P := fun z_ => n0 ≤ z_) g_b13 (allS (P := fun z_ => n0 ≤ z_) g_d all0))
  have Z66 : n0 ≤ T62.heap.size := Nat.le_trans Z52 K62.1
  have K67 : Keep h0 T62.heap ([] : List Addr) := K53.trans K62 (allS (P := fun z_ => z_ ∈ ([] : List Addr) ∨ h0.size ≤ z_) (Or.inr sz_b13) (allS (P := fun z_ => z_ ∈ ([] : List Addr) ∨ h0.size ≤ z_) (Or.inr sz_d) all0))
  show Go p e below _ T62 (mkF m 20 #[rv a, rv b2] [(.ref b13), (.ref b1), (.ref b1)])
  refine Go.st (T' := T62) (g' := (mkF m 21 #[rv a, rv b2] [(.ref b2), (.ref b13), (.ref b1), (.ref b1)])) ?_ (fun _ kk_ => XS.aloadN X62.here hx rfl (hb hby dusg_20) rfl rfl  kk_)
  have f68 := (f57.keep K62)
  have f69 := ((((f28.keep K31).keep K43).ext E50).keep K62)
  have f70 := ((((((Fc_b2.ext E1).ext E13).keep K31 (ninS ne_b2_b13 nin0)).keep K43 (ninS ne_b2_b13 (ninS ne_b2_d nin0))).ext E50).keep K62 (ninS ne_b2_b13 (ninS ne_b2_d nin0)))
  have f71 := ((((((Fv_b2.ext E1).ext E13).keep K31 (ninS ne_b2_b13 nin0)).keep K43 (ninS ne_b2_b13 (ninS ne_b2_d nin0))).ext E50).keep K62 (ninS ne_b2_b13 (ninS ne_b2_d nin0)))
  have f72 := ((((f29.keep K31 (ninS ne_t2_b13 nin0)).keep K43 (ninS ne_t2_b13 (ninS ne_t2_d nin0))).ext E50).keep K62 (ninS ne_t2_b13 (ninS ne_t2_d nin0)))
  refine Go.callV (y := (⟨"java/lang/StringBuilder", "append", "(Ljava/lang/String;)Ljava/lang/StringBuilder;"⟩ : MethodName)) (z := (⟨"java/lang/StringBuilder", "append", "(Ljava/lang/String;)Ljava/lang/StringBuilder;"⟩ : MethodName)) X62 hx hZ50 ho50 (hw _ (List.mem_of_getElem? (i := 62) rfl)) (hw _ (List.mem_of_getElem? (i := 63) rfl)) (notFace_of_selects (args := #[]) (mvT hZ50 (hw _ (List.mem_of_getElem? (i := 65) rfl)))) (hw _ (List.mem_of_getElem? (i := 65) rfl)) (hw _ (List.mem_of_getElem? (i := 64) rfl)) (hw _ (List.mem_of_getElem? (i := 46) rfl)) (hw _ (List.mem_of_getElem? (i := 66) rfl)) (by decide) 2 (rm_sba l Z a0 hw [] b13 d b2 t2 (lp + 1) lu (apF lp 1 (fun _ => bI 10) (apF 0 lp (fun q => bI (c2 p0_ p1_ q)) (fun _ => 0))) (fun q => bI (c2 u0_ u1_ q)) n0 cS T62.heap Z66 (by omega) f68 Gv62 Gc62 Gn62 V62 g_b13 g_d ne_b13_d f69 f70 f71 f72 O65 Sc hcS) rfl (by decide) (by decide) (by decide) (by decide) f68 (argsL := [(.ref b2)]) (rest := [(.ref b1), (.ref b1)]) rfl (by rw [hml]; rfl) (lenOf pd__28Ljava_2flang_2fString_3b_29Ljava_2flang_2fStringBuilder_3b rfl) rfl rfl (by show 2 * 0 + _ ≤ _; exact Nat.le_of_eq rfl) (hb hby dusg_21) ?_
  rintro _ T73 L73 X73 ⟨rfl, N73, K73, Gv73, Gc73, Gn73, V73⟩
  have N74 := Fr.app N63 N73
  have f76 := (Sf.keep HS50 K62 (sfS (f55).1 (sfS (f56).1 sf0)) f56)
  have f77 := (Sf.keep HS50 K62 (sfS (f55).1 (sfS (f56).1 sf0)) f55)
  have HS75 := HS.keep HS64 K73 (sfS (f77).1 (sfS (f76).1 sf0))
  have O78 := O65.keep K73 (allS (P := fun z_ => n0 ≤ z_) g_b13 (allS (P := fun z_ => n0 ≤ z_) g_d all0))
  have Z79 : n0 ≤ T73.heap.size := Nat.le_trans Z66 K73.1
  have K80 : Keep h0 T73.heap ([] : List Addr) := K67.trans K73 (allS (P := fun z_ => z_ ∈ ([] : List Addr) ∨ h0.size ≤ z_) (Or.inr sz_b13) (allS (P := fun z_ => z_ ∈ ([] : List Addr) ∨ h0.size ≤ z_) (Or.inr sz_d) all0))
  show Go p e below _ T73 (mkF m 24 #[rv a, rv b2] [(.ref b13), (.ref b1), (.ref b1)])
  have f81 := ((((f39.keep K43).ext E50).keep K62).keep K73)
  have f82 := ((((f42.keep K43 (ninS ne_t_b13 (ninS ne_t_d nin0))).ext E50).keep K62 (ninS ne_t_b13 (ninS ne_t_d nin0))).keep K73 (ninS ne_t_b13 (ninS ne_t_d nin0)))
  have f83 := (f69.keep K73)
  have f84 := (f72.keep K73 (ninS ne_t2_b13 (ninS ne_t2_d nin0)))
  have f85 := (((((f30.keep K31).keep K43).ext E50).keep K62).keep K73)
  have f86 := (f68.keep K73)
  have f87 := ((A50.keep K62).keep K73)
  have f88 := ((V50.keep K62 (ninS (Ne.symm ne_b13_b50) (ninS (Ne.symm ne_d_b50) nin0))).keep K73 (ninS (Ne.symm ne_b13_b50) (ninS (Ne.symm ne_d_b50) nin0)))
  refine Go.callV (y := (⟨"java/lang/StringBuilder", "toString", "()Ljava/lang/String;"⟩ : MethodName)) (z := (⟨"java/lang/StringBuilder", "toString", "()Ljava/lang/String;"⟩ : MethodName)) X73 hx hZ50 ho50 (hw _ (List.mem_of_getElem? (i := 110) rfl)) (hw _ (List.mem_of_getElem? (i := 111) rfl)) (notFace_of_selects (args := #[]) (mvT hZ50 (hw _ (List.mem_of_getElem? (i := 113) rfl)))) (hw _ (List.mem_of_getElem? (i := 113) rfl)) (hw _ (List.mem_of_getElem? (i := 112) rfl)) (hw _ (List.mem_of_getElem? (i := 46) rfl)) (hw _ (List.mem_of_getElem? (i := 114) rfl)) (by decide) 2 (rm_tos l Z a0 hw [] b13 d (lp + 1 + lu) (apF (lp + 1) lu (fun q => bI (c2 u0_ u1_ q)) (apF lp 1 (fun _ => bI 10) (apF 0 lp (fun q => bI (c2 p0_ p1_ q)) (fun _ => 0)))) n0 cS T73.heap Z79 (by omega) f86 Gv73 Gc73 Gn73 V73 g_b13 g_d ne_b13_d O78 Sc hcS) rfl (by decide) (by decide) (by decide) (by decide) f86 (argsL := []) (rest := [(.ref b1), (.ref b1)]) rfl (by rw [hml]; rfl) (lenOf pd__28_29Ljava_2flang_2fString_3b rfl) rfl rfl (by show 2 * 0 + _ ≤ _; exact Nat.le_of_eq rfl) (hb hby dusg_24) ?_
  rintro _ T89 L89 X89 ⟨x, tx, rfl, N89, K89, xz, E_x, Fc_x, Fv_x, V_tx⟩
  have N90 := Fr.app N74 N89
  have HS91 := HS.keep HS75 K89 sf0
  have O92 := O78.keep K89 all0
  have Z93 : n0 ≤ T89.heap.size := Nat.le_trans Z79 K89.1
  have K94 : Keep h0 T89.heap ([] : List Addr) := K80.trans K89 all0
  show Go p e below _ T89 (mkF m 27 #[rv a, rv b2] [(.ref x), (.ref b1), (.ref b1)])
  have ne_a_x : a ≠ x := Nat.ne_of_lt (Nat.lt_of_lt_of_le (f81).lt xz)
  have ne_t_x : t ≠ x := Nat.ne_of_lt (Nat.lt_of_lt_of_le (f82).lt xz)
  have ne_b2_x : b2 ≠ x := Nat.ne_of_lt (Nat.lt_of_lt_of_le (f83).lt xz)
  have ne_t2_x : t2 ≠ x := Nat.ne_of_lt (Nat.lt_of_lt_of_le (f84).lt xz)
  have ne_b1_x : b1 ≠ x := Nat.ne_of_lt (Nat.lt_of_lt_of_le (f85).lt xz)
  have ne_b13_x : b13 ≠ x := Nat.ne_of_lt (Nat.lt_of_lt_of_le (f86).lt xz)
  have ne_d_x : d ≠ x := Nat.ne_of_lt (Nat.lt_of_lt_of_le (V73).lt xz)
  have ne_a50_x : a50 ≠ x := Nat.ne_of_lt (Nat.lt_of_lt_of_le (f87).lt xz)
  have ne_b50_x : b50 ≠ x := Nat.ne_of_lt (Nat.lt_of_lt_of_le (f88).lt xz)
  have g_x : n0 ≤ x := Nat.le_trans Z79 xz
  have sz_x : h0.size ≤ x := Nat.le_trans K80.1 xz
  have f95 := (f85.keep K89)
  have ne_b1_tx : b1 ≠ tx := Exa.neArv f95 V_tx.2.choose_spec.choose_spec (hw _ (List.mem_of_getElem? (i := 43) rfl))
  rw [own_jn] at V_tx
  have f96 := (Unt.keep K89 nin0 (Unt.keep K73 (ninS ne_b1_b13 (ninS ne_b1_d nin0)) (Unt.keep K62 (ninS ne_b1_b13 (ninS ne_b1_d nin0)) (Unt.ext E50 (Unt.keep K43 (ninS ne_b1_b13 (ninS ne_b1_d nin0)) (Unt.keep K31 (ninS ne_b1_b13 nin0) (Unt.ext E13 U1)))))))
  have f97 := (((((((f7.ext E13).keep K31 (ninS ne_b1_b13 nin0)).keep K43 (ninS ne_b1_b13 (ninS ne_b1_d nin0))).ext E50).keep K62 (ninS ne_b1_b13 (ninS ne_b1_d nin0))).keep K73 (ninS ne_b1_b13 (ninS ne_b1_d nin0))).keep K89 nin0)
  have f98 := (((((((f8.ext E13).keep K31 (ninS ne_b1_b13 nin0)).keep K43 (ninS ne_b1_b13 (ninS ne_b1_d nin0))).ext E50).keep K62 (ninS ne_b1_b13 (ninS ne_b1_d nin0))).keep K73 (ninS ne_b1_b13 (ninS ne_b1_d nin0))).keep K89 nin0)
  have f99 := (((((((f9.ext E13).keep K31 (ninS ne_b1_b13 nin0)).keep K43 (ninS ne_b1_b13 (ninS ne_b1_d nin0))).ext E50).keep K62 (ninS ne_b1_b13 (ninS ne_b1_d nin0))).keep K73 (ninS ne_b1_b13 (ninS ne_b1_d nin0))).keep K89 nin0)
  have f100 := (((((((f11.ext E13).keep K31 (ninS ne_b1_b13 nin0)).keep K43 (ninS ne_b1_b13 (ninS ne_b1_d nin0))).ext E50).keep K62 (ninS ne_b1_b13 (ninS ne_b1_d nin0))).keep K73 (ninS ne_b1_b13 (ninS ne_b1_d nin0))).keep K89 nin0)
  have f101 := (((((((f10.ext E13).keep K31 (ninS ne_b1_b13 nin0)).keep K43 (ninS ne_b1_b13 (ninS ne_b1_d nin0))).ext E50).keep K62 (ninS ne_b1_b13 (ninS ne_b1_d nin0))).keep K73 (ninS ne_b1_b13 (ninS ne_b1_d nin0))).keep K89 nin0)
  refine Go.callNK (y := (⟨"com/example/staleness/staleness/CommandException", "<init>", "(Ljava/lang/String;)V"⟩ : MethodName)) X89 hx hZ50 rfl ho50 (hw _ (List.mem_of_getElem? (i := 155) rfl)) (hw _ (List.mem_of_getElem? (i := 156) rfl)) (hw _ (List.mem_of_getElem? (i := 40) rfl)) (hw _ (List.mem_of_getElem? (i := 157) rfl)) (by decide) 1 HS91 hEL hTK hBl (rm_cei l Z a0 hw [] b1 x n0 uU uS T89.heap hEL wS hlt wX Su hr_uU Ss hr_uS O92 g_b1 f95 f96 f97 f98 f99 f100 f101) rfl (by decide) (by decide) (by decide) (by decide) (a := b1) (argsL := [(.ref x)]) (rest := [(.ref b1)]) rfl (by rw [hml]; rfl) (lenOf pd__28Ljava_2flang_2fString_3b_29V rfl) rfl rfl (by show 2 * 0 + _ ≤ _; exact Nat.le_of_eq rfl) (hb hby dusg_27) ?_
  rintro _ T102 L102 X102 ⟨rfl, N102, K102, EA102, FA102⟩ hZ102 ho102 HS102 C102
  have N103 := Fr.app N90 N102
  have O104 := O92.keep K102 (allS (P := fun z_ => n0 ≤ z_) g_b1 all0)
  have Z105 : n0 ≤ T102.heap.size := Nat.le_trans Z93 K102.1
  have K106 : Keep h0 T102.heap ([] : List Addr) := K94.trans K102 (allS (P := fun z_ => z_ ∈ ([] : List Addr) ∨ h0.size ≤ z_) (Or.inr sz_b1) all0)
  show Go p e below _ T102 (mkF m 30 #[rv a, rv b2] [(.ref b1)])
  have f107 := (E_x.keep K102)
  have f108 := (Fc_x.keep K102 (ninS (Ne.symm ne_b1_x) nin0))
  have f109 := (Fv_x.keep K102 (ninS (Ne.symm ne_b1_x) nin0))
  have f110 := (V_tx.keep K102 (ninS (Ne.symm ne_b1_tx) nin0))
  refine Go.retAH X102 hx hlk hret rfl rfl (hb hby dusg_30) (by decide) (by decide) hZ102 hEL HS102 ?_
  exact ⟨b1, x, tx, rfl, N103, K106, EA102, FA102, f107, f108, f109, f110⟩
theorem dgms_0 : decode jdk_78_method_6_code 0 = .ok (.aload_n 0, 1) := by decide +kernel
theorem dgms_1 : decode jdk_78_method_6_code 1 = .ok (.getfield 31, 3) := by decide +kernel
theorem dgms_4 : decode jdk_78_method_6_code 4 = .ok (.areturn, 1) := by decide +kernel
theorem pn_gms : plainFor (⟨"java/lang/Throwable", "getMessage", "()Ljava/lang/String;"⟩ : MethodName) = true := by first | exact plainFor_of_name (by first | (simp [plainName, overriddenIn]; done) | decide +kernel) | decide +kernel
theorem ef_gms (m : MethodId) (x0 : Addr) : entryFrame m #[(.ref x0)] 1 = mkF m 0 #[rv x0] [] := by first | (simp [entryFrame, mkF, argsToLocals, Value.category]; done) | rfl
set_option maxRecDepth 65536 in
set_option maxHeartbeats 40000000 in
theorem rm_gms (l : Launch) (Z : State) (a0 : Array Value) (hw : ∀ d ∈ tables_1, d.before a0 Z = true) (ws : List Jvm.Cond) (a x : Addr) (h0 : Heap) (Fm : Fld Z h0 a "java/lang/Throwable" "detailMessage" "Ljava/lang/String;" (.ref x)) :
    Mt l Z (⟨"java/lang/Throwable", "getMessage", "()Ljava/lang/String;"⟩ : MethodName) jdk_78_method_6_code 1 (some (.object "java/lang/String")) ws ({ frames := 0, cells := 0, slots := 0, locals := 0 } : Room) #[(.ref a)] h0 (fun v h L => v = some (.ref x) ∧ h = h0 ∧ L = []) := by
  refine Mt.body pn_gms ?_
  intro p e s m below meth c s₁ hx hby hml hown hnm hret hlk hZ X0 e0
  refine Go.cast (g' := (mkF m 0 #[rv a] [])) (ef_gms m a) ?_
  have N0 := Fr.nil 0
  refine Go.st (T' := s₁) (g' := (mkF m 1 #[rv a] [(.ref a)])) ?_ (fun _ kk_ => XS.aloadN X0.here hx rfl (hb hby dgms_0) rfl rfl  kk_)
  obtain ⟨T1, X1, e1, st1⟩ := getF X0 hx hZ hown (host := "") (Or.inl (hw _ (List.mem_of_getElem? (i := 205) rfl))) Via.refl e0 Fm (g := (mkF m 1 #[rv a] [(.ref a)])) rfl rfl (hb hby dgms_1)
  refine Go.st (T' := T1) (g' := (mkF m 4 #[rv a] [(.ref x)])) ?_ st1
  refine Go.retA X1 hx hlk hret rfl rfl (hb hby dgms_4) (by decide) (by decide) ?_
  try rw [e1]
  exact ⟨rfl, rfl, rfl⟩
theorem pn_law : plainFor x = true := by first | exact plainFor_of_name (by first | (simp [plainName, overriddenIn]; done) | decide +kernel) | decide +kernel
theorem ef_law (m : MethodId) (x0 : Int32) (x1 : Int32) (x2 : Int32) : entryFrame m #[(.int x0), (.int x1), (.int x2)] maxLocals = mkF m 0 #[iv x0, iv x1, iv x2, .unset, .unset, .unset, .unset, .unset, .unset, .unset, .unset, .unset, .unset, .unset] [] := by first | (simp [entryFrame, mkF, argsToLocals, Value.category, maxLocals]; done) | rfl
set_option maxRecDepth 65536 in
set_option maxHeartbeats 40000000 in
theorem rm_law (l : Launch) (Z : State) (a0 : Array Value) (hw : ∀ d ∈ tables_1, d.before a0 Z = true) (ws : List Jvm.Cond) (p0 p1 p2 : Int32) (n0 : Nat) (cS : Int32) (rF uU uS : Value) (h0 : Heap) (hEL : EW Z a0 consts_1) (wS : ∀ a ∈ Bundle.stringAtoms, a.before a0 Z = true) (hlt : l.stackTraces = true) (wX : ∀ d ∈ Jvm.Free.Exc.excAtoms "com/example/staleness/staleness/CommandException", d ≠ lackW → d.before a0 Z = true) (Su : Sta Z Z.heap "java/lang/Throwable" "UNASSIGNED_STACK" "[Ljava/lang/StackTraceElement;" uU) (hr_uU : uU.isRef = true) (Ss : Sta Z Z.heap "java/lang/Throwable" "SUPPRESSED_SENTINEL" "Ljava/util/List;" uS) (hr_uS : uS.isRef = true) (Z0 : n0 ≤ h0.size) (O0 : Old Z n0 h0) (Sc : Sta Z Z.heap "java/lang/String" "COMPACT_STRINGS" "Z" (.int cS)) (hcS : ¬ (cS = (0 : Int32))) (Sr : Sta Z Z.heap "jdk/internal/util/Preconditions" "SIOOBE_FORMATTER" "Ljava/util/function/BiFunction;" rF) (hr_rF : rF.isRef = true) :
    MtK l Z consts_1 x code maxLocals ret ws room_1 #[(.int p0), (.int p1), (.int p2)] h0 (fun v h L => v = some (.int (1 : Int32)) ∧ Fr n0 L) := by
  refine MtK.body pn_law ?_
  intro p e s m below meth c s₁ hx hby hml hown hnm hret hlk hZ X0 e0 HS0 es hTK hBl
  refine Go.cast (g' := (mkF m 0 #[iv p0, iv p1, iv p2, .unset, .unset, .unset, .unset, .unset, .unset, .unset, .unset, .unset, .unset, .unset] [])) (ef_law m p0 p1 p2) ?_
  have N0 := Fr.nil n0
  have K0 := Keep.refl h0 ([] : List Addr)
  obtain ⟨lp, hl_, e_lp⟩ := own_m3 p2
  refine Go.st (T' := s₁) (g' := (mkF m 6 #[iv p0, iv p1, iv p2, .unset, .unset, .unset, .unset, .unset, .unset, .unset, .unset, .unset, .unset, .unset] [(.int ((p2 &&& (2147483647 : Int32)) % (3 : Int32)))])) ?_ (fun _ kk_ => XS.iloadN X0.here hx rfl (hb hby at_0) rfl  (X0.ldcInt hx hown (mvT hZ (hw _ (List.mem_of_getElem? (i := 0) rfl))) (g := (mkF m 1 #[iv p0, iv p1, iv p2, .unset, .unset, .unset, .unset, .unset, .unset, .unset, .unset, .unset, .unset, .unset] [(.int p2)])) rfl (hb hby at_1) _ (XS.iand X0.here hx rfl (hb hby at_3) rfl (XS.iconst X0.here hx rfl (hb hby at_4) (iremM X0 hx rfl (hb hby at_5) rfl (by decide) kk_)))))
  rw [e_lp]
  show Go p e below _ s₁ (mkF m 6 #[iv p0, iv p1, iv p2, .unset, .unset, .unset, .unset, .unset, .unset, .unset, .unset, .unset, .unset, .unset] [(.int (Int32.ofNat lp))])
  obtain ⟨lu, hu_, e_lu⟩ := own_m3 ((p2.toUInt32 >>> ((8 : Int32) &&& 31).toUInt32).toInt32)
  refine Go.st (T' := s₁) (g' := (mkF m 16 #[iv p0, iv p1, iv p2, iv (Int32.ofNat lp), .unset, .unset, .unset, .unset, .unset, .unset, .unset, .unset, .unset, .unset] [(.int ((((p2.toUInt32 >>> ((8 : Int32) &&& 31).toUInt32).toInt32) &&& (2147483647 : Int32)) % (3 : Int32)))])) ?_ (fun _ kk_ => XS.istoreN X0.here hx rfl (hb hby at_6) rfl (l' := #[iv p0, iv p1, iv p2, iv (Int32.ofNat lp), .unset, .unset, .unset, .unset, .unset, .unset, .unset, .unset, .unset, .unset]) rfl (XS.iloadN X0.here hx rfl (hb hby at_7) rfl  (XS.bipush X0.here hx rfl (hb hby at_8) (XS.iushr X0.here hx rfl (hb hby at_10) rfl (X0.ldcInt hx hown (mvT hZ (hw _ (List.mem_of_getElem? (i := 0) rfl))) (g := (mkF m 11 #[iv p0, iv p1, iv p2, iv (Int32.ofNat lp), .unset, .unset, .unset, .unset, .unset, .unset, .unset, .unset, .unset, .unset] [(.int ((p2.toUInt32 >>> ((8 : Int32) &&& 31).toUInt32).toInt32))])) rfl (hb hby at_11) _ (XS.iand X0.here hx rfl (hb hby at_13) rfl (XS.iconst X0.here hx rfl (hb hby at_14) (iremM X0 hx rfl (hb hby at_15) rfl (by decide) kk_))))))))
  rw [e_lu]
  show Go p e below _ s₁ (mkF m 16 #[iv p0, iv p1, iv p2, iv (Int32.ofNat lp), .unset, .unset, .unset, .unset, .unset, .unset, .unset, .unset, .unset, .unset] [(.int (Int32.ofNat lu))])
  obtain ⟨p0_, hp0, e_p0_⟩ := own_low8 p0
  refine Go.st (T' := s₁) (g' := (mkF m 23 #[iv p0, iv p1, iv p2, iv (Int32.ofNat lp), iv (Int32.ofNat lu), .unset, .unset, .unset, .unset, .unset, .unset, .unset, .unset, .unset] [(.int (p0 &&& (255 : Int32)))])) ?_ (fun _ kk_ => XS.istore X0.here hx rfl (hb hby at_16) rfl (l' := #[iv p0, iv p1, iv p2, iv (Int32.ofNat lp), iv (Int32.ofNat lu), .unset, .unset, .unset, .unset, .unset, .unset, .unset, .unset, .unset]) rfl (XS.iloadN X0.here hx rfl (hb hby at_18) rfl  (XS.sipush X0.here hx rfl (hb hby at_19) (XS.iand X0.here hx rfl (hb hby at_22) rfl kk_))))
  rw [e_p0_]
  show Go p e below _ s₁ (mkF m 23 #[iv p0, iv p1, iv p2, iv (Int32.ofNat lp), iv (Int32.ofNat lu), .unset, .unset, .unset, .unset, .unset, .unset, .unset, .unset, .unset] [(.int (Int32.ofNat p0_))])
  refine Go.st (T' := s₁) (g' := (mkF m 24 #[iv p0, iv p1, iv p2, iv (Int32.ofNat lp), iv (Int32.ofNat lu), .unset, .unset, .unset, .unset, .unset, .unset, .unset, .unset, .unset] [(.int ((Int32.ofNat p0_).toUInt32.toUInt16.toUInt32.toInt32))])) ?_ (fun _ kk_ => XS.i2c X0.here hx rfl (hb hby at_23) rfl kk_)
  rw [ch_back _ hp0]
  show Go p e below _ s₁ (mkF m 24 #[iv p0, iv p1, iv p2, iv (Int32.ofNat lp), iv (Int32.ofNat lu), .unset, .unset, .unset, .unset, .unset, .unset, .unset, .unset, .unset] [(.int (Int32.ofNat p0_))])
  obtain ⟨p1_, hp1, e_p1_⟩ := own_low8 ((p0.toUInt32 >>> ((8 : Int32) &&& 31).toUInt32).toInt32)
  refine Go.st (T' := s₁) (g' := (mkF m 34 #[iv p0, iv p1, iv p2, iv (Int32.ofNat lp), iv (Int32.ofNat lu), iv (Int32.ofNat p0_), .unset, .unset, .unset, .unset, .unset, .unset, .unset, .unset] [(.int (((p0.toUInt32 >>> ((8 : Int32) &&& 31).toUInt32).toInt32) &&& (255 : Int32)))])) ?_ (fun _ kk_ => XS.istore X0.here hx rfl (hb hby at_24) rfl (l' := #[iv p0, iv p1, iv p2, iv (Int32.ofNat lp), iv (Int32.ofNat lu), iv (Int32.ofNat p0_), .unset, .unset, .unset, .unset, .unset, .unset, .unset, .unset]) rfl (XS.iloadN X0.here hx rfl (hb hby at_26) rfl  (XS.bipush X0.here hx rfl (hb hby at_27) (XS.iushr X0.here hx rfl (hb hby at_29) rfl (XS.sipush X0.here hx rfl (hb hby at_30) (XS.iand X0.here hx rfl (hb hby at_33) rfl kk_))))))
  rw [e_p1_]
  show Go p e below _ s₁ (mkF m 34 #[iv p0, iv p1, iv p2, iv (Int32.ofNat lp), iv (Int32.ofNat lu), iv (Int32.ofNat p0_), .unset, .unset, .unset, .unset, .unset, .unset, .unset, .unset] [(.int (Int32.ofNat p1_))])
  refine Go.st (T' := s₁) (g' := (mkF m 35 #[iv p0, iv p1, iv p2, iv (Int32.ofNat lp), iv (Int32.ofNat lu), iv (Int32.ofNat p0_), .unset, .unset, .unset, .unset, .unset, .unset, .unset, .unset] [(.int ((Int32.ofNat p1_).toUInt32.toUInt16.toUInt32.toInt32))])) ?_ (fun _ kk_ => XS.i2c X0.here hx rfl (hb hby at_34) rfl kk_)
  rw [ch_back _ hp1]
  show Go p e below _ s₁ (mkF m 35 #[iv p0, iv p1, iv p2, iv (Int32.ofNat lp), iv (Int32.ofNat lu), iv (Int32.ofNat p0_), .unset, .unset, .unset, .unset, .unset, .unset, .unset, .unset] [(.int (Int32.ofNat p1_))])
  obtain ⟨u0_, hu0, e_u0_⟩ := own_low8 p1
  refine Go.st (T' := s₁) (g' := (mkF m 42 #[iv p0, iv p1, iv p2, iv (Int32.ofNat lp), iv (Int32.ofNat lu), iv (Int32.ofNat p0_), iv (Int32.ofNat p1_), .unset, .unset, .unset, .unset, .unset, .unset, .unset] [(.int (p1 &&& (255 : Int32)))])) ?_ (fun _ kk_ => XS.istore X0.here hx rfl (hb hby at_35) rfl (l' := #[iv p0, iv p1, iv p2, iv (Int32.ofNat lp), iv (Int32.ofNat lu), iv (Int32.ofNat p0_), iv (Int32.ofNat p1_), .unset, .unset, .unset, .unset, .unset, .unset, .unset]) rfl (XS.iloadN X0.here hx rfl (hb hby at_37) rfl  (XS.sipush X0.here hx rfl (hb hby at_38) (XS.iand X0.here hx rfl (hb hby at_41) rfl kk_))))
  rw [e_u0_]
  show Go p e below _ s₁ (mkF m 42 #[iv p0, iv p1, iv p2, iv (Int32.ofNat lp), iv (Int32.ofNat lu), iv (Int32.ofNat p0_), iv (Int32.ofNat p1_), .unset, .unset, .unset, .unset, .unset, .unset, .unset] [(.int (Int32.ofNat u0_))])
  refine Go.st (T' := s₁) (g' := (mkF m 43 #[iv p0, iv p1, iv p2, iv (Int32.ofNat lp), iv (Int32.ofNat lu), iv (Int32.ofNat p0_), iv (Int32.ofNat p1_), .unset, .unset, .unset, .unset, .unset, .unset, .unset] [(.int ((Int32.ofNat u0_).toUInt32.toUInt16.toUInt32.toInt32))])) ?_ (fun _ kk_ => XS.i2c X0.here hx rfl (hb hby at_42) rfl kk_)
  rw [ch_back _ hu0]
  show Go p e below _ s₁ (mkF m 43 #[iv p0, iv p1, iv p2, iv (Int32.ofNat lp), iv (Int32.ofNat lu), iv (Int32.ofNat p0_), iv (Int32.ofNat p1_), .unset, .unset, .unset, .unset, .unset, .unset, .unset] [(.int (Int32.ofNat u0_))])
  obtain ⟨u1_, hu1, e_u1_⟩ := own_low8 ((p1.toUInt32 >>> ((8 : Int32) &&& 31).toUInt32).toInt32)
  refine Go.st (T' := s₁) (g' := (mkF m 53 #[iv p0, iv p1, iv p2, iv (Int32.ofNat lp), iv (Int32.ofNat lu), iv (Int32.ofNat p0_), iv (Int32.ofNat p1_), iv (Int32.ofNat u0_), .unset, .unset, .unset, .unset, .unset, .unset] [(.int (((p1.toUInt32 >>> ((8 : Int32) &&& 31).toUInt32).toInt32) &&& (255 : Int32)))])) ?_ (fun _ kk_ => XS.istore X0.here hx rfl (hb hby at_43) rfl (l' := #[iv p0, iv p1, iv p2, iv (Int32.ofNat lp), iv (Int32.ofNat lu), iv (Int32.ofNat p0_), iv (Int32.ofNat p1_), iv (Int32.ofNat u0_), .unset, .unset, .unset, .unset, .unset, .unset]) rfl (XS.iloadN X0.here hx rfl (hb hby at_45) rfl  (XS.bipush X0.here hx rfl (hb hby at_46) (XS.iushr X0.here hx rfl (hb hby at_48) rfl (XS.sipush X0.here hx rfl (hb hby at_49) (XS.iand X0.here hx rfl (hb hby at_52) rfl kk_))))))
  rw [e_u1_]
  show Go p e below _ s₁ (mkF m 53 #[iv p0, iv p1, iv p2, iv (Int32.ofNat lp), iv (Int32.ofNat lu), iv (Int32.ofNat p0_), iv (Int32.ofNat p1_), iv (Int32.ofNat u0_), .unset, .unset, .unset, .unset, .unset, .unset] [(.int (Int32.ofNat u1_))])
  refine Go.st (T' := s₁) (g' := (mkF m 54 #[iv p0, iv p1, iv p2, iv (Int32.ofNat lp), iv (Int32.ofNat lu), iv (Int32.ofNat p0_), iv (Int32.ofNat p1_), iv (Int32.ofNat u0_), .unset, .unset, .unset, .unset, .unset, .unset] [(.int ((Int32.ofNat u1_).toUInt32.toUInt16.toUInt32.toInt32))])) ?_ (fun _ kk_ => XS.i2c X0.here hx rfl (hb hby at_53) rfl kk_)
  rw [ch_back _ hu1]
  show Go p e below _ s₁ (mkF m 54 #[iv p0, iv p1, iv p2, iv (Int32.ofNat lp), iv (Int32.ofNat lu), iv (Int32.ofNat p0_), iv (Int32.ofNat p1_), iv (Int32.ofNat u0_), .unset, .unset, .unset, .unset, .unset, .unset] [(.int (Int32.ofNat u1_))])
  refine Go.st (T' := s₁) (g' := (mkF m 61 #[iv p0, iv p1, iv p2, iv (Int32.ofNat lp), iv (Int32.ofNat lu), iv (Int32.ofNat p0_), iv (Int32.ofNat p1_), iv (Int32.ofNat u0_), iv (Int32.ofNat u1_), .unset, .unset, .unset, .unset, .unset] [(.int (Int32.ofNat p1_)), (.int (Int32.ofNat p0_)), (.int (Int32.ofNat lp))])) ?_ (fun _ kk_ => XS.istore X0.here hx rfl (hb hby at_54) rfl (l' := #[iv p0, iv p1, iv p2, iv (Int32.ofNat lp), iv (Int32.ofNat lu), iv (Int32.ofNat p0_), iv (Int32.ofNat p1_), iv (Int32.ofNat u0_), iv (Int32.ofNat u1_), .unset, .unset, .unset, .unset, .unset]) rfl (XS.iloadN X0.here hx rfl (hb hby at_56) rfl  (XS.iload X0.here hx rfl (hb hby at_57) rfl  (XS.iload X0.here hx rfl (hb hby at_59) rfl  kk_))))
  refine Go.callSH (y := (⟨"com/example/staleness/staleness/CommandExceptionUsagePinLaw", "mk", "(ICC)Ljava/lang/String;"⟩ : MethodName)) X0 hx hZ hown (hw _ (List.mem_of_getElem? (i := 1) rfl)) (hw _ (List.mem_of_getElem? (i := 2) rfl)) (hw _ (List.mem_of_getElem? (i := 3) rfl)) (hw _ (List.mem_of_getElem? (i := 4) rfl)) (by decide) 0 HS0 hEL (rm_mks l Z a0 hw [] lp p0_ p1_ n0 cS h0 hEL wS Z0 hl_ hp0 hp1 O0 Sc hcS) e0 (by decide) (by decide) (by decide) (by decide) (argsL := [(.int (Int32.ofNat lp)), (.int (Int32.ofNat p0_)), (.int (Int32.ofNat p1_))]) (rest := []) rfl (by rw [hml]; rfl) (lenOf pd__28ICC_29Ljava_2flang_2fString_3b rfl) rfl rfl (by show 2 * 0 + _ ≤ _; exact Nat.le_of_eq rfl) (hb hby at_61) ?_
  rintro _ T1 L1 X1 ⟨a, t, rfl, N1, K1, az, E_a, Fc_a, Fv_a, V_t⟩ hZ1 ho1 HS1 C1
  have N2 := Fr.app N0 N1
  have O3 := O0.keep K1 all0
  have Z4 : n0 ≤ T1.heap.size := Nat.le_trans Z0 K1.1
  have K5 : Keep h0 T1.heap ([] : List Addr) := K0.trans K1 all0
  show Go p e below _ T1 (mkF m 64 #[iv p0, iv p1, iv p2, iv (Int32.ofNat lp), iv (Int32.ofNat lu), iv (Int32.ofNat p0_), iv (Int32.ofNat p1_), iv (Int32.ofNat u0_), iv (Int32.ofNat u1_), .unset, .unset, .unset, .unset, .unset] [(.ref a)])
  refine Go.st (T' := T1) (g' := (mkF m 72 #[iv p0, iv p1, iv p2, iv (Int32.ofNat lp), iv (Int32.ofNat lu), iv (Int32.ofNat p0_), iv (Int32.ofNat p1_), iv (Int32.ofNat u0_), iv (Int32.ofNat u1_), rv a, .unset, .unset, .unset, .unset] [(.int (Int32.ofNat u1_)), (.int (Int32.ofNat u0_)), (.int (Int32.ofNat lu))])) ?_ (fun _ kk_ => XS.astore X1.here hx rfl (hb hby at_64) rfl rfl (l' := #[iv p0, iv p1, iv p2, iv (Int32.ofNat lp), iv (Int32.ofNat lu), iv (Int32.ofNat p0_), iv (Int32.ofNat p1_), iv (Int32.ofNat u0_), iv (Int32.ofNat u1_), rv a, .unset, .unset, .unset, .unset]) rfl (XS.iload X1.here hx rfl (hb hby at_66) rfl  (XS.iload X1.here hx rfl (hb hby at_68) rfl  (XS.iload X1.here hx rfl (hb hby at_70) rfl  kk_))))
  refine Go.callSH (y := (⟨"com/example/staleness/staleness/CommandExceptionUsagePinLaw", "mk", "(ICC)Ljava/lang/String;"⟩ : MethodName)) X1 hx hZ1 ho1 (hw _ (List.mem_of_getElem? (i := 1) rfl)) (hw _ (List.mem_of_getElem? (i := 2) rfl)) (hw _ (List.mem_of_getElem? (i := 3) rfl)) (hw _ (List.mem_of_getElem? (i := 4) rfl)) (by decide) 0 HS1 hEL (rm_mks l Z a0 hw [] lu u0_ u1_ n0 cS T1.heap hEL wS Z4 hu_ hu0 hu1 O3 Sc hcS) rfl (by decide) (by decide) (by decide) (by decide) (argsL := [(.int (Int32.ofNat lu)), (.int (Int32.ofNat u0_)), (.int (Int32.ofNat u1_))]) (rest := []) rfl (by rw [hml]; rfl) (lenOf pd__28ICC_29Ljava_2flang_2fString_3b rfl) rfl rfl (by show 2 * 0 + _ ≤ _; exact Nat.le_of_eq rfl) (hb hby at_72) ?_
  rintro _ T6 L6 X6 ⟨b2, t2, rfl, N6, K6, b2z, E_b2, Fc_b2, Fv_b2, V_t2⟩ hZ6 ho6 HS6 C6
  have N7 := Fr.app N2 N6
  have O8 := O3.keep K6 all0
  have Z9 : n0 ≤ T6.heap.size := Nat.le_trans Z4 K6.1
  have K10 : Keep h0 T6.heap ([] : List Addr) := K5.trans K6 all0
  show Go p e below _ T6 (mkF m 75 #[iv p0, iv p1, iv p2, iv (Int32.ofNat lp), iv (Int32.ofNat lu), iv (Int32.ofNat p0_), iv (Int32.ofNat p1_), iv (Int32.ofNat u0_), iv (Int32.ofNat u1_), rv a, .unset, .unset, .unset, .unset] [(.ref b2)])
  refine Go.st (T' := T6) (g' := (mkF m 81 #[iv p0, iv p1, iv p2, iv (Int32.ofNat lp), iv (Int32.ofNat lu), iv (Int32.ofNat p0_), iv (Int32.ofNat p1_), iv (Int32.ofNat u0_), iv (Int32.ofNat u1_), rv a, rv b2, .unset, .unset, .unset] [(.ref b2), (.ref a)])) ?_ (fun _ kk_ => XS.astore X6.here hx rfl (hb hby at_75) rfl rfl (l' := #[iv p0, iv p1, iv p2, iv (Int32.ofNat lp), iv (Int32.ofNat lu), iv (Int32.ofNat p0_), iv (Int32.ofNat p1_), iv (Int32.ofNat u0_), iv (Int32.ofNat u1_), rv a, rv b2, .unset, .unset, .unset]) rfl (XS.aload X6.here hx rfl (hb hby at_77) rfl rfl  (XS.aload X6.here hx rfl (hb hby at_79) rfl rfl  kk_)))
  have f11 := (E_a.keep K6)
  have f12 := (Fc_a.keep K6 nin0)
  have f13 := (Fv_a.keep K6 nin0)
  have f14 := (V_t.keep K6 nin0)
  refine Go.callSK (y := (⟨"com/example/staleness/staleness/CommandException", "usage", "(Ljava/lang/String;Ljava/lang/String;)Lcom/example/staleness/staleness/CommandException;"⟩ : MethodName)) X6 hx hZ6 ho6 (hw _ (List.mem_of_getElem? (i := 38) rfl)) (hw _ (List.mem_of_getElem? (i := 39) rfl)) (hw _ (List.mem_of_getElem? (i := 40) rfl)) (hw _ (List.mem_of_getElem? (i := 41) rfl)) (by decide) 0 HS6 hEL hTK hBl (rm_usg l Z a0 hw [] a t b2 t2 lp lu p0_ p1_ u0_ u1_ n0 cS uU uS T6.heap hEL wS hlt wX Su hr_uU Ss hr_uS Z9 hl_ hu_ f11 f12 f13 f14 E_b2 Fc_b2 Fv_b2 V_t2 O8 Sc hcS) rfl (by decide) (by decide) (by decide) (by decide) (argsL := [(.ref a), (.ref b2)]) (rest := []) rfl (by rw [hml]; rfl) (lenOf pd__28Ljava_2flang_2fString_3bLjava_2flang_2fString_3b_29Lcom_2fexample_2fstaleness_2fstaleness_2fCommandException_3b rfl) rfl rfl (by show 2 * 0 + _ ≤ _; exact Nat.le_of_eq rfl) (hb hby at_81) ?_
  rintro _ T15 L15 X15 ⟨ex, x, tx, rfl, N15, K15, E_ex, Fm, E_x, Fc_x, Fv_x, V_tx⟩ hZ15 ho15 HS15 C15
  have N16 := Fr.app N7 N15
  have O17 := O8.keep K15 all0
  have Z18 : n0 ≤ T15.heap.size := Nat.le_trans Z9 K15.1
  have K19 : Keep h0 T15.heap ([] : List Addr) := K10.trans K15 all0
  show Go p e below _ T15 (mkF m 84 #[iv p0, iv p1, iv p2, iv (Int32.ofNat lp), iv (Int32.ofNat lu), iv (Int32.ofNat p0_), iv (Int32.ofNat p1_), iv (Int32.ofNat u0_), iv (Int32.ofNat u1_), rv a, rv b2, .unset, .unset, .unset] [(.ref ex)])
  refine Go.st (T' := T15) (g' := (mkF m 95 #[iv p0, iv p1, iv p2, iv (Int32.ofNat lp), iv (Int32.ofNat lu), iv (Int32.ofNat p0_), iv (Int32.ofNat p1_), iv (Int32.ofNat u0_), iv (Int32.ofNat u1_), rv a, rv b2, rv ex, .unset, .unset] [(.ref ex)])) ?_ (fun _ kk_ => XS.astore X15.here hx rfl (hb hby at_84) rfl rfl (l' := #[iv p0, iv p1, iv p2, iv (Int32.ofNat lp), iv (Int32.ofNat lu), iv (Int32.ofNat p0_), iv (Int32.ofNat p1_), iv (Int32.ofNat u0_), iv (Int32.ofNat u1_), rv a, rv b2, rv ex, .unset, .unset]) rfl (XS.aload X15.here hx rfl (hb hby at_86) rfl rfl  (XS.ifnonnullYes X15.here hx rfl (pc0 := 88) (pc' := 93) rfl (hb hby at_88) rfl (by decide) (by decide) (XS.aload X15.here hx rfl (hb hby at_93) rfl rfl  kk_))))
  refine Go.callUp (y := (⟨"com/example/staleness/staleness/CommandException", "getMessage", "()Ljava/lang/String;"⟩ : MethodName)) (z := (⟨"java/lang/Throwable", "getMessage", "()Ljava/lang/String;"⟩ : MethodName)) (owner := "java/lang/Throwable") X15 hx hZ15 ho15 (hw _ (List.mem_of_getElem? (i := 206) rfl)) (hw _ (List.mem_of_getElem? (i := 207) rfl)) (hw _ (List.mem_of_getElem? (i := 208) rfl)) (by decide) (hw _ (List.mem_of_getElem? (i := 210) rfl)) (hw _ (List.mem_of_getElem? (i := 209) rfl)) (hw _ (List.mem_of_getElem? (i := 167) rfl)) (hw _ (List.mem_of_getElem? (i := 211) rfl)) 0 (rm_gms l Z a0 hw [] ex x T15.heap Fm) rfl (by decide) (by decide) (by decide) (by decide) E_ex (argsL := []) (rest := []) rfl (by rw [hml]; rfl) (lenOf pd__28_29Ljava_2flang_2fString_3b rfl) rfl rfl (by show 2 * 0 + _ ≤ _; exact Nat.le_of_eq rfl) (hb hby at_95) ?_
  rintro _ T20 L20 X20 ⟨rfl, e20, rfl⟩
  have N21 := Fr.app N16 (Fr.nil _)
  show Go p e below _ T20 (mkF m 98 #[iv p0, iv p1, iv p2, iv (Int32.ofNat lp), iv (Int32.ofNat lu), iv (Int32.ofNat p0_), iv (Int32.ofNat p1_), iv (Int32.ofNat u0_), iv (Int32.ofNat u1_), rv a, rv b2, rv ex, .unset, .unset] [(.ref x)])
  refine Go.st (T' := T20) (g' := (mkF m 117 #[iv p0, iv p1, iv p2, iv (Int32.ofNat lp), iv (Int32.ofNat lu), iv (Int32.ofNat p0_), iv (Int32.ofNat p1_), iv (Int32.ofNat u0_), iv (Int32.ofNat u1_), rv a, rv b2, rv ex, rv x, iv (((Int32.ofNat lp) + (1 : Int32)) + (Int32.ofNat lu))] [(.ref x)])) ?_ (fun _ kk_ => XS.astore X20.here hx rfl (hb hby at_98) rfl rfl (l' := #[iv p0, iv p1, iv p2, iv (Int32.ofNat lp), iv (Int32.ofNat lu), iv (Int32.ofNat p0_), iv (Int32.ofNat p1_), iv (Int32.ofNat u0_), iv (Int32.ofNat u1_), rv a, rv b2, rv ex, rv x, .unset]) rfl (XS.aload X20.here hx rfl (hb hby at_100) rfl rfl  (XS.ifnonnullYes X20.here hx rfl (pc0 := 102) (pc' := 107) rfl (hb hby at_102) rfl (by decide) (by decide) (XS.iloadN X20.here hx rfl (hb hby at_107) rfl  (XS.iconst X20.here hx rfl (hb hby at_108) (XS.iadd X20.here hx rfl (hb hby at_109) rfl (XS.iload X20.here hx rfl (hb hby at_110) rfl  (XS.iadd X20.here hx rfl (hb hby at_112) rfl (XS.istore X20.here hx rfl (hb hby at_113) rfl (l' := #[iv p0, iv p1, iv p2, iv (Int32.ofNat lp), iv (Int32.ofNat lu), iv (Int32.ofNat p0_), iv (Int32.ofNat p1_), iv (Int32.ofNat u0_), iv (Int32.ofNat u1_), rv a, rv b2, rv ex, rv x, iv (((Int32.ofNat lp) + (1 : Int32)) + (Int32.ofNat lu))]) rfl (XS.aload X20.here hx rfl (hb hby at_115) rfl rfl  kk_))))))))))
  refine Go.callV (y := (⟨"java/lang/String", "length", "()I"⟩ : MethodName)) (z := (⟨"java/lang/String", "length", "()I"⟩ : MethodName)) X20 hx hZ15 ho15 (hw _ (List.mem_of_getElem? (i := 212) rfl)) (hw _ (List.mem_of_getElem? (i := 73) rfl)) (notFace_of_selects (args := #[]) (mvT hZ15 (hw _ (List.mem_of_getElem? (i := 75) rfl)))) (hw _ (List.mem_of_getElem? (i := 75) rfl)) (hw _ (List.mem_of_getElem? (i := 74) rfl)) (hw _ (List.mem_of_getElem? (i := 7) rfl)) (hw _ (List.mem_of_getElem? (i := 76) rfl)) (by decide) 0 (rm_len l Z a0 hw [] x tx (lp + 1 + lu) _ n0 cS T15.heap E_x Fc_x Fv_x V_tx O17 Sc hcS) e20 (by decide) (by decide) (by decide) (by decide) E_x (argsL := []) (rest := []) rfl (by rw [hml]; rfl) (lenOf pd__28_29I rfl) rfl rfl (by show 2 * 0 + _ ≤ _; exact Nat.le_of_eq rfl) (hb hby at_117) ?_
  rintro _ T22 L22 X22 ⟨rfl, e22, rfl⟩
  have N23 := Fr.app N21 (Fr.nil _)
  show Go p e below _ T22 (mkF m 120 #[iv p0, iv p1, iv p2, iv (Int32.ofNat lp), iv (Int32.ofNat lu), iv (Int32.ofNat p0_), iv (Int32.ofNat p1_), iv (Int32.ofNat u0_), iv (Int32.ofNat u1_), rv a, rv b2, rv ex, rv x, iv (((Int32.ofNat lp) + (1 : Int32)) + (Int32.ofNat lu))] [(.int (Int32.ofNat (lp + 1 + lu)))])
  have eA : (Int32.ofNat lp + (1 : Int32)) + Int32.ofNat lu = Int32.ofNat (lp + 1 + lu) := by rw [show Int32.ofNat lp + (1 : Int32) = Int32.ofNat (lp + 1) from own_add lp 1, own_add]
  rw [eA]
  show Go p e below _ T22 (mkF m 120 #[iv p0, iv p1, iv p2, iv (Int32.ofNat lp), iv (Int32.ofNat lu), iv (Int32.ofNat p0_), iv (Int32.ofNat p1_), iv (Int32.ofNat u0_), iv (Int32.ofNat u1_), rv a, rv b2, rv ex, rv x, iv (Int32.ofNat (lp + 1 + lu))] [(.int (Int32.ofNat (lp + 1 + lu)))])
  refine Go.st (T' := T22) (g' := (mkF m 141 #[iv p0, iv p1, iv p2, iv (Int32.ofNat lp), iv (Int32.ofNat lu), iv (Int32.ofNat p0_), iv (Int32.ofNat p1_), iv (Int32.ofNat u0_), iv (Int32.ofNat u1_), rv a, rv b2, rv ex, rv x, iv (Int32.ofNat (lp + 1 + lu))] [(.int (Int32.ofNat u1_)), (.int (Int32.ofNat u0_)), (.int (Int32.ofNat p1_)), (.int (Int32.ofNat p0_)), (.int (Int32.ofNat lp)), (.int (Int32.ofNat (lp + 1 + lu))), (.int (0 : Int32)), (.ref x)])) ?_ (fun _ kk_ => XS.iload X22.here hx rfl (hb hby at_120) rfl  (XS.icmpYes X22.here hx rfl (pc0 := 122) (pc' := 127) rfl (hb hby at_122) rfl (teq (rfl : (Int32.ofNat (lp + 1 + lu)) = (Int32.ofNat (lp + 1 + lu)))).1 (by decide) (by decide) (XS.aload X22.here hx rfl (hb hby at_127) rfl rfl  (XS.iconst X22.here hx rfl (hb hby at_129) (XS.iload X22.here hx rfl (hb hby at_130) rfl  (XS.iloadN X22.here hx rfl (hb hby at_132) rfl  (XS.iload X22.here hx rfl (hb hby at_133) rfl  (XS.iload X22.here hx rfl (hb hby at_135) rfl  (XS.iload X22.here hx rfl (hb hby at_137) rfl  (XS.iload X22.here hx rfl (hb hby at_139) rfl  kk_))))))))))
  refine Go.callS (y := (⟨"com/example/staleness/staleness/CommandExceptionUsagePinLaw", "ok", "(Ljava/lang/String;IIICCCC)Z"⟩ : MethodName)) X22 hx hZ15 ho15 (hw _ (List.mem_of_getElem? (i := 213) rfl)) (hw _ (List.mem_of_getElem? (i := 214) rfl)) (hw _ (List.mem_of_getElem? (i := 3) rfl)) (hw _ (List.mem_of_getElem? (i := 215) rfl)) (by decide) 0 (rm_ok l Z a0 hw [] x tx 0 lp lu p0_ p1_ u0_ u1_ n0 cS rF T15.heap (by decide) hl_ hu_ hp0 hp1 hu0 hu1 E_x Fc_x Fv_x V_tx O17 Sc hcS Sr hr_rF) e22 (by decide) (by decide) (by decide) (by decide) (argsL := [(.ref x), (.int (0 : Int32)), (.int (Int32.ofNat (lp + 1 + lu))), (.int (Int32.ofNat lp)), (.int (Int32.ofNat p0_)), (.int (Int32.ofNat p1_)), (.int (Int32.ofNat u0_)), (.int (Int32.ofNat u1_))]) (rest := []) rfl (by rw [hml]; rfl) (lenOf pd__28Ljava_2flang_2fString_3bIIICCCC_29Z rfl) rfl rfl (by show 2 * 0 + _ ≤ _; exact Nat.le_of_eq rfl) (hb hby at_141) ?_
  rintro _ T24 L24 X24 ⟨rfl, e24, rfl⟩
  have N25 := Fr.app N23 (Fr.nil _)
  show Go p e below _ T24 (mkF m 144 #[iv p0, iv p1, iv p2, iv (Int32.ofNat lp), iv (Int32.ofNat lu), iv (Int32.ofNat p0_), iv (Int32.ofNat p1_), iv (Int32.ofNat u0_), iv (Int32.ofNat u1_), rv a, rv b2, rv ex, rv x, iv (Int32.ofNat (lp + 1 + lu))] [(.int (1 : Int32))])
  refine Go.st (T' := T24) (g' := (mkF m 161 #[iv p0, iv p1, iv p2, iv (Int32.ofNat lp), iv (Int32.ofNat lu), iv (Int32.ofNat p0_), iv (Int32.ofNat p1_), iv (Int32.ofNat u0_), iv (Int32.ofNat u1_), rv a, rv b2, rv ex, rv x, iv (Int32.ofNat (lp + 1 + lu))] [(.int (Int32.ofNat u1_)), (.int (Int32.ofNat u0_)), (.int (Int32.ofNat p1_)), (.int (Int32.ofNat p0_)), (.int (Int32.ofNat lp)), (.int (Int32.ofNat (lp + 1 + lu))), (.int (1 : Int32)), (.ref x)])) ?_ (fun _ kk_ => XS.ifNo X24.here hx rfl (hb hby at_144) rfl ((if0 _ _).trans (feq ((by decide) : ¬ ((1 : Int32) = (0 : Int32)))).1) (XS.aload X24.here hx rfl (hb hby at_147) rfl rfl  (XS.iconst X24.here hx rfl (hb hby at_149) (XS.iload X24.here hx rfl (hb hby at_150) rfl  (XS.iloadN X24.here hx rfl (hb hby at_152) rfl  (XS.iload X24.here hx rfl (hb hby at_153) rfl  (XS.iload X24.here hx rfl (hb hby at_155) rfl  (XS.iload X24.here hx rfl (hb hby at_157) rfl  (XS.iload X24.here hx rfl (hb hby at_159) rfl  kk_)))))))))
  refine Go.callS (y := (⟨"com/example/staleness/staleness/CommandExceptionUsagePinLaw", "ok", "(Ljava/lang/String;IIICCCC)Z"⟩ : MethodName)) X24 hx hZ15 ho15 (hw _ (List.mem_of_getElem? (i := 213) rfl)) (hw _ (List.mem_of_getElem? (i := 214) rfl)) (hw _ (List.mem_of_getElem? (i := 3) rfl)) (hw _ (List.mem_of_getElem? (i := 215) rfl)) (by decide) 0 (rm_ok l Z a0 hw [] x tx 1 lp lu p0_ p1_ u0_ u1_ n0 cS rF T15.heap (by decide) hl_ hu_ hp0 hp1 hu0 hu1 E_x Fc_x Fv_x V_tx O17 Sc hcS Sr hr_rF) e24 (by decide) (by decide) (by decide) (by decide) (argsL := [(.ref x), (.int (1 : Int32)), (.int (Int32.ofNat (lp + 1 + lu))), (.int (Int32.ofNat lp)), (.int (Int32.ofNat p0_)), (.int (Int32.ofNat p1_)), (.int (Int32.ofNat u0_)), (.int (Int32.ofNat u1_))]) (rest := []) rfl (by rw [hml]; rfl) (lenOf pd__28Ljava_2flang_2fString_3bIIICCCC_29Z rfl) rfl rfl (by show 2 * 0 + _ ≤ _; exact Nat.le_of_eq rfl) (hb hby at_161) ?_
  rintro _ T26 L26 X26 ⟨rfl, e26, rfl⟩
  have N27 := Fr.app N25 (Fr.nil _)
  show Go p e below _ T26 (mkF m 164 #[iv p0, iv p1, iv p2, iv (Int32.ofNat lp), iv (Int32.ofNat lu), iv (Int32.ofNat p0_), iv (Int32.ofNat p1_), iv (Int32.ofNat u0_), iv (Int32.ofNat u1_), rv a, rv b2, rv ex, rv x, iv (Int32.ofNat (lp + 1 + lu))] [(.int (1 : Int32))])
  refine Go.st (T' := T26) (g' := (mkF m 181 #[iv p0, iv p1, iv p2, iv (Int32.ofNat lp), iv (Int32.ofNat lu), iv (Int32.ofNat p0_), iv (Int32.ofNat p1_), iv (Int32.ofNat u0_), iv (Int32.ofNat u1_), rv a, rv b2, rv ex, rv x, iv (Int32.ofNat (lp + 1 + lu))] [(.int (Int32.ofNat u1_)), (.int (Int32.ofNat u0_)), (.int (Int32.ofNat p1_)), (.int (Int32.ofNat p0_)), (.int (Int32.ofNat lp)), (.int (Int32.ofNat (lp + 1 + lu))), (.int (2 : Int32)), (.ref x)])) ?_ (fun _ kk_ => XS.ifNo X26.here hx rfl (hb hby at_164) rfl ((if0 _ _).trans (feq ((by decide) : ¬ ((1 : Int32) = (0 : Int32)))).1) (XS.aload X26.here hx rfl (hb hby at_167) rfl rfl  (XS.iconst X26.here hx rfl (hb hby at_169) (XS.iload X26.here hx rfl (hb hby at_170) rfl  (XS.iloadN X26.here hx rfl (hb hby at_172) rfl  (XS.iload X26.here hx rfl (hb hby at_173) rfl  (XS.iload X26.here hx rfl (hb hby at_175) rfl  (XS.iload X26.here hx rfl (hb hby at_177) rfl  (XS.iload X26.here hx rfl (hb hby at_179) rfl  kk_)))))))))
  refine Go.callS (y := (⟨"com/example/staleness/staleness/CommandExceptionUsagePinLaw", "ok", "(Ljava/lang/String;IIICCCC)Z"⟩ : MethodName)) X26 hx hZ15 ho15 (hw _ (List.mem_of_getElem? (i := 213) rfl)) (hw _ (List.mem_of_getElem? (i := 214) rfl)) (hw _ (List.mem_of_getElem? (i := 3) rfl)) (hw _ (List.mem_of_getElem? (i := 215) rfl)) (by decide) 0 (rm_ok l Z a0 hw [] x tx 2 lp lu p0_ p1_ u0_ u1_ n0 cS rF T15.heap (by decide) hl_ hu_ hp0 hp1 hu0 hu1 E_x Fc_x Fv_x V_tx O17 Sc hcS Sr hr_rF) e26 (by decide) (by decide) (by decide) (by decide) (argsL := [(.ref x), (.int (2 : Int32)), (.int (Int32.ofNat (lp + 1 + lu))), (.int (Int32.ofNat lp)), (.int (Int32.ofNat p0_)), (.int (Int32.ofNat p1_)), (.int (Int32.ofNat u0_)), (.int (Int32.ofNat u1_))]) (rest := []) rfl (by rw [hml]; rfl) (lenOf pd__28Ljava_2flang_2fString_3bIIICCCC_29Z rfl) rfl rfl (by show 2 * 0 + _ ≤ _; exact Nat.le_of_eq rfl) (hb hby at_181) ?_
  rintro _ T28 L28 X28 ⟨rfl, e28, rfl⟩
  have N29 := Fr.app N27 (Fr.nil _)
  show Go p e below _ T28 (mkF m 184 #[iv p0, iv p1, iv p2, iv (Int32.ofNat lp), iv (Int32.ofNat lu), iv (Int32.ofNat p0_), iv (Int32.ofNat p1_), iv (Int32.ofNat u0_), iv (Int32.ofNat u1_), rv a, rv b2, rv ex, rv x, iv (Int32.ofNat (lp + 1 + lu))] [(.int (1 : Int32))])
  refine Go.st (T' := T28) (g' := (mkF m 201 #[iv p0, iv p1, iv p2, iv (Int32.ofNat lp), iv (Int32.ofNat lu), iv (Int32.ofNat p0_), iv (Int32.ofNat p1_), iv (Int32.ofNat u0_), iv (Int32.ofNat u1_), rv a, rv b2, rv ex, rv x, iv (Int32.ofNat (lp + 1 + lu))] [(.int (Int32.ofNat u1_)), (.int (Int32.ofNat u0_)), (.int (Int32.ofNat p1_)), (.int (Int32.ofNat p0_)), (.int (Int32.ofNat lp)), (.int (Int32.ofNat (lp + 1 + lu))), (.int (3 : Int32)), (.ref x)])) ?_ (fun _ kk_ => XS.ifNo X28.here hx rfl (hb hby at_184) rfl ((if0 _ _).trans (feq ((by decide) : ¬ ((1 : Int32) = (0 : Int32)))).1) (XS.aload X28.here hx rfl (hb hby at_187) rfl rfl  (XS.iconst X28.here hx rfl (hb hby at_189) (XS.iload X28.here hx rfl (hb hby at_190) rfl  (XS.iloadN X28.here hx rfl (hb hby at_192) rfl  (XS.iload X28.here hx rfl (hb hby at_193) rfl  (XS.iload X28.here hx rfl (hb hby at_195) rfl  (XS.iload X28.here hx rfl (hb hby at_197) rfl  (XS.iload X28.here hx rfl (hb hby at_199) rfl  kk_)))))))))
  refine Go.callS (y := (⟨"com/example/staleness/staleness/CommandExceptionUsagePinLaw", "ok", "(Ljava/lang/String;IIICCCC)Z"⟩ : MethodName)) X28 hx hZ15 ho15 (hw _ (List.mem_of_getElem? (i := 213) rfl)) (hw _ (List.mem_of_getElem? (i := 214) rfl)) (hw _ (List.mem_of_getElem? (i := 3) rfl)) (hw _ (List.mem_of_getElem? (i := 215) rfl)) (by decide) 0 (rm_ok l Z a0 hw [] x tx 3 lp lu p0_ p1_ u0_ u1_ n0 cS rF T15.heap (by decide) hl_ hu_ hp0 hp1 hu0 hu1 E_x Fc_x Fv_x V_tx O17 Sc hcS Sr hr_rF) e28 (by decide) (by decide) (by decide) (by decide) (argsL := [(.ref x), (.int (3 : Int32)), (.int (Int32.ofNat (lp + 1 + lu))), (.int (Int32.ofNat lp)), (.int (Int32.ofNat p0_)), (.int (Int32.ofNat p1_)), (.int (Int32.ofNat u0_)), (.int (Int32.ofNat u1_))]) (rest := []) rfl (by rw [hml]; rfl) (lenOf pd__28Ljava_2flang_2fString_3bIIICCCC_29Z rfl) rfl rfl (by show 2 * 0 + _ ≤ _; exact Nat.le_of_eq rfl) (hb hby at_201) ?_
  rintro _ T30 L30 X30 ⟨rfl, e30, rfl⟩
  have N31 := Fr.app N29 (Fr.nil _)
  show Go p e below _ T30 (mkF m 204 #[iv p0, iv p1, iv p2, iv (Int32.ofNat lp), iv (Int32.ofNat lu), iv (Int32.ofNat p0_), iv (Int32.ofNat p1_), iv (Int32.ofNat u0_), iv (Int32.ofNat u1_), rv a, rv b2, rv ex, rv x, iv (Int32.ofNat (lp + 1 + lu))] [(.int (1 : Int32))])
  refine Go.st (T' := T30) (g' := (mkF m 221 #[iv p0, iv p1, iv p2, iv (Int32.ofNat lp), iv (Int32.ofNat lu), iv (Int32.ofNat p0_), iv (Int32.ofNat p1_), iv (Int32.ofNat u0_), iv (Int32.ofNat u1_), rv a, rv b2, rv ex, rv x, iv (Int32.ofNat (lp + 1 + lu))] [(.int (Int32.ofNat u1_)), (.int (Int32.ofNat u0_)), (.int (Int32.ofNat p1_)), (.int (Int32.ofNat p0_)), (.int (Int32.ofNat lp)), (.int (Int32.ofNat (lp + 1 + lu))), (.int (4 : Int32)), (.ref x)])) ?_ (fun _ kk_ => XS.ifNo X30.here hx rfl (hb hby at_204) rfl ((if0 _ _).trans (feq ((by decide) : ¬ ((1 : Int32) = (0 : Int32)))).1) (XS.aload X30.here hx rfl (hb hby at_207) rfl rfl  (XS.iconst X30.here hx rfl (hb hby at_209) (XS.iload X30.here hx rfl (hb hby at_210) rfl  (XS.iloadN X30.here hx rfl (hb hby at_212) rfl  (XS.iload X30.here hx rfl (hb hby at_213) rfl  (XS.iload X30.here hx rfl (hb hby at_215) rfl  (XS.iload X30.here hx rfl (hb hby at_217) rfl  (XS.iload X30.here hx rfl (hb hby at_219) rfl  kk_)))))))))
  refine Go.callS (y := (⟨"com/example/staleness/staleness/CommandExceptionUsagePinLaw", "ok", "(Ljava/lang/String;IIICCCC)Z"⟩ : MethodName)) X30 hx hZ15 ho15 (hw _ (List.mem_of_getElem? (i := 213) rfl)) (hw _ (List.mem_of_getElem? (i := 214) rfl)) (hw _ (List.mem_of_getElem? (i := 3) rfl)) (hw _ (List.mem_of_getElem? (i := 215) rfl)) (by decide) 0 (rm_ok l Z a0 hw [] x tx 4 lp lu p0_ p1_ u0_ u1_ n0 cS rF T15.heap (by decide) hl_ hu_ hp0 hp1 hu0 hu1 E_x Fc_x Fv_x V_tx O17 Sc hcS Sr hr_rF) e30 (by decide) (by decide) (by decide) (by decide) (argsL := [(.ref x), (.int (4 : Int32)), (.int (Int32.ofNat (lp + 1 + lu))), (.int (Int32.ofNat lp)), (.int (Int32.ofNat p0_)), (.int (Int32.ofNat p1_)), (.int (Int32.ofNat u0_)), (.int (Int32.ofNat u1_))]) (rest := []) rfl (by rw [hml]; rfl) (lenOf pd__28Ljava_2flang_2fString_3bIIICCCC_29Z rfl) rfl rfl (by show 2 * 0 + _ ≤ _; exact Nat.le_of_eq rfl) (hb hby at_221) ?_
  rintro _ T32 L32 X32 ⟨rfl, e32, rfl⟩
  have N33 := Fr.app N31 (Fr.nil _)
  show Go p e below _ T32 (mkF m 224 #[iv p0, iv p1, iv p2, iv (Int32.ofNat lp), iv (Int32.ofNat lu), iv (Int32.ofNat p0_), iv (Int32.ofNat p1_), iv (Int32.ofNat u0_), iv (Int32.ofNat u1_), rv a, rv b2, rv ex, rv x, iv (Int32.ofNat (lp + 1 + lu))] [(.int (1 : Int32))])
  refine Go.st (T' := T32) (g' := (mkF m 232 #[iv p0, iv p1, iv p2, iv (Int32.ofNat lp), iv (Int32.ofNat lu), iv (Int32.ofNat p0_), iv (Int32.ofNat p1_), iv (Int32.ofNat u0_), iv (Int32.ofNat u1_), rv a, rv b2, rv ex, rv x, iv (Int32.ofNat (lp + 1 + lu))] [(.int (1 : Int32))])) ?_ (fun _ kk_ => XS.ifNo X32.here hx rfl (hb hby at_224) rfl ((if0 _ _).trans (feq ((by decide) : ¬ ((1 : Int32) = (0 : Int32)))).1) (XS.iconst X32.here hx rfl (hb hby at_227) (XS.goto X32.here hx rfl (pc0 := 228) (pc' := 232) rfl (hb hby at_228) (by decide) (by decide) kk_)))
  refine Go.retNH X32 hx hlk (t := .boolean) hret (by simp) (z' := (1 : Int32)) rfl (hb hby at_232) (by decide) (by decide) hZ15 hEL (by rw [e32]; exact HS15) ?_
  try rw [e32]
  exact ⟨rfl, N33⟩
set_option maxRecDepth 65536 in
set_option maxHeartbeats 40000000 in
theorem comes_1 {Post : Tables → Env → Array Value → State → Outcome → State → Prop} (hpost : ∀ tb e args s v u, (limb_1_1.after args s (.returned v) u = true ∧ limb_1_2.after args s (.returned v) u = true ∧ True) → ReturnedEndW s (.returned v) u (Jvm.fieldLocs frame_1_writes args s ++ Jvm.arrayLocs frame_1_arrays args s ++ Jvm.staticLocs frame_1_statics s) 40 7744 → Post tb e args s (.returned v) u) :
    ArmFor flags0 classFile x code maxLocals ret World_1 tables_1 room_1 Calls_1 rest_1 Pre_1 Post := by
  intro l hfl _ _ p e ha hc hk s m args below hf hA hF happ hP
  obtain ⟨hcalls, hrest, hpre⟩ := hP
  obtain ⟨-, -, -, hnamed, -, -, -, hat⟩ := (Spec.applies_iff hf).mp happ
  obtain ⟨hg, hn⟩ := and_e (Cond.before_iff.mp (show (Jvm.Cond.and given_1 narrow_1).before args s = true from hpre))
  obtain ⟨h1, q0⟩ := and_e hg
  obtain ⟨w0, w1, w2, rfl⟩ : ∃ w0 w1 w2 : Value, args = #[w0, w1, w2] := by
    have hs : args.size = 3 := by simpa [Cond.value, given_1] using h1
    obtain ⟨L⟩ := args
    match L, hs with
    | [w0, w1, w2], _ => exact ⟨w0, w1, w2, rfl⟩
  obtain ⟨a0, q1⟩ := and_e q0
  obtain ⟨i0, e0⟩ := is_v a0
  obtain rfl : w0 = (.int i0) := Option.some.inj e0
  obtain ⟨a1, q2⟩ := and_e q1
  obtain ⟨i1, e1⟩ := is_v a1
  obtain rfl : w1 = (.int i1) := Option.some.inj e1
  obtain ⟨i2, e2⟩ := is_v q2
  obtain rfl : w2 = (.int i2) := Option.some.inj e2
  have hw := fun d (hd : d ∈ tables_1) => atoms_spec (ws := Jvm.Cond.code x code maxLocals ret :: tables_1) hat d (List.mem_cons_of_mem _ hd)
  have hfit : Fit s := fun {y c} hc i hi => by
    obtain ⟨ha, rfl⟩ := Array.getElem?_eq_some_iff.mp hc
    have q := List.all_eq_true.mp ((Array.all_eq_true_iff_forall_mem.mp hF) _ (Array.getElem_mem ha)) i (List.mem_range.mpr hi)
    simpa [Array.getElem?_eq_getElem hi] using q
  obtain ⟨hsets, hown0⟩ := atoms_of _ (rest_1_c_eq ▸ (show rest_1_c.before _ s = true from hrest))
  have hEL : EW s _ consts_1 := (EW.cons (hw _ (List.mem_of_getElem? (i := 109) rfl)) (by decide) (EW.cons (hw _ (List.mem_of_getElem? (i := 35) rfl)) (by decide) EW.nil))
  have hsub : ∀ a ∈ Bundle.stringAtoms, a ∈ tables_1 := by decide +kernel
  have wS : ∀ a ∈ Bundle.stringAtoms, a.before _ s = true := fun a q => hw a (hsub a q)
  have n5 := not_v (Cond.before_iff.mp (hsets _ (List.mem_of_getElem? (i := 2) rfl)))
  obtain ⟨cS, eS⟩ := is_v (Cond.before_iff.mp (hsets _ (List.mem_of_getElem? (i := 1) rfl)))
  have Sc : Sta s s.heap "java/lang/String" "COMPACT_STRINGS" "Z" (.int cS) := Sta.start eS (Or.inl (hsets _ (List.mem_of_getElem? (i := 0) rfl)))
  have hcS : ¬ (cS = (0 : Int32)) := gotF (Cond.eq_ints eS (Term.int_eval (0))) n5
  obtain ⟨rF, eF, hrF⟩ := isR_v (Cond.before_iff.mp (hsets _ (List.mem_of_getElem? (i := 8) rfl)))
  have Sr : Sta s s.heap "jdk/internal/util/Preconditions" "SIOOBE_FORMATTER" "Ljava/util/function/BiFunction;" rF := Sta.start eF (Or.inl (hsets _ (List.mem_of_getElem? (i := 7) rfl)))
  have hh : ∀ p ∈ consts_1, Jvm.Lit.constHeld s p.1 p.2 := hcalls.2.2.1
  have hCH : CHv s consts_1 s.vm s.heap := CHv.start hEL hh (hsets _ (List.mem_of_getElem? (i := 2) rfl)) (hw _ (List.mem_of_getElem? (i := 24) rfl)) (hw _ (List.mem_of_getElem? (i := 6) rfl))
  have hlt : l.stackTraces = true := by unfold Launch.stackTraces; rw [hfl]; decide +kernel
  have hsubX : ∀ d ∈ Jvm.Free.Exc.excAtoms "com/example/staleness/staleness/CommandException", d ≠ lackW → d ∈ tables_1 := by decide +kernel
  have wX : ∀ d ∈ Jvm.Free.Exc.excAtoms "com/example/staleness/staleness/CommandException", d ≠ lackW → d.before _ s = true := fun d hd hn => hw d (hsubX d hd hn)
  obtain ⟨uU, eU, fU⟩ := static_fit hfit (hw _ (List.mem_of_getElem? (i := 198) rfl)) (ty := .array (.object "java/lang/StackTraceElement")) (by decide)
  obtain ⟨uS, eSs, fS⟩ := static_fit hfit (hw _ (List.mem_of_getElem? (i := 199) rfl)) (ty := .object "java/util/List") (by decide)
  have hr_uU := fit_R fU rfl
  have hr_uS := fit_R fS rfl
  have Su : Sta s s.heap "java/lang/Throwable" "UNASSIGNED_STACK" "[Ljava/lang/StackTraceElement;" uU := Sta.start eU (Or.inr ⟨(hw _ (List.mem_of_getElem? (i := 167) rfl)), (hw _ (List.mem_of_getElem? (i := 198) rfl))⟩)
  have Ss : Sta s s.heap "java/lang/Throwable" "SUPPRESSED_SENTINEL" "Ljava/util/List;" uS := Sta.start eSs (Or.inr ⟨(hw _ (List.mem_of_getElem? (i := 167) rfl)), (hw _ (List.mem_of_getElem? (i := 199) rfl))⟩)
  obtain ⟨n, o, h1, h2, h3, _, L, rfl, ⟨rfl, N⟩, -, hq⟩ := rm_law l s _ hw tables_1 i0 i1 i2 s.heap.size cS rF uU uS s.heap hEL wS hlt wX Su hr_uU Ss hr_uS (Nat.le_refl _) (Old.start s) Sc hcS Sr hrF p e ha hc hk s m _ below hf ((Spec.applies_iff_loose hf).mp happ).1 ⟨rfl, State.Warmed39.refl s, rfl, hCH⟩ ⟨Jvm.MethodsKnown_of_tablesKnown hcalls.2.1, Jvm.FramesKnown_of_framesKnown hcalls.1 hf⟩
  refine ⟨n, _, h1, h2, h3, hpost _ _ _ _ _ _ ⟨Cond.after_iff.mpr rfl, Cond.after_iff.mpr (eq_i res_at (Term.int_eval (1)) rfl), trivial⟩ ⟨hq.1, hq.2.1, hq.2.2.1, (hq.2.2.2.sift fun y hy => Or.inr (N y hy)).mono (by decide) (by decide)⟩⟩
theorem main_1_1 : Claimed_1_1 := comes_1 fun _ _ _ _ _ _ h hF => ⟨h.1, hF⟩
theorem main_1_2 : Claimed_1_2 := comes_1 fun _ _ _ _ _ _ h hF => ⟨h.2.1, hF⟩
end Jvm.Pilot.@@N@@
namespace Jvm.Pilot.@@N@@
open Jvm Jvm.ClassFile Sem Op Lib Jvm.Free Jvm.Stand Jvm.Pilot.@@N@@.Jvm.D
/-! MADE BY PROGRAM (witnessworld.py) out of the Statement's table words and the real class files: 39 classes; the members and pool entries that the words name. The judged class is class 1, her method 1. -/
namespace start1
open Jvm.ClassFile
def u (s : String) : CpInfo := .utf8 (stringToUtf16 s)
/-- a pool by its gaps: so many unusable entries, then the entry; so many at the end -/
def gap : Nat → List CpInfo → List CpInfo
  | 0, r => r
  | n + 1, r => .unusable :: gap n r
def poolList (es : List (Nat × CpInfo)) (last : Nat) : List CpInfo := es.foldr (fun e r => gap e.1 (e.2 :: r)) (gap last [])
def pool (es : List (Nat × CpInfo)) (last : Nat) : Array CpInfo := ⟨poolList es last⟩
def fileOf (pool : Array CpInfo) (this : Nat) (attrs : Array Attribute := #[]) (ms : Array MethodInfo := #[]) (fl : Nat := 33) (sup : Nat := 0) (ifs : Array Nat := #[]) (fds : Array FieldInfo := #[]) : ClassFile where
  minorVersion := 0
  majorVersion := 65
  constantPool := pool
  accessFlags := fl
  thisClass := this
  superClass := sup
  interfaces := ifs
  fields := fds
  methods := ms
  attributes := attrs
def plain (name : String) (sup : Option ClassId) : Class where
  name := name
  kind := .ordinary
  loader := none
  accessFlags := 33
  super := sup
  interfaces := #[]
  cf := none
  fields := #[]
  methods := #[]
  instanceTypes := #[]
  staticTypes := #[]
  resolved := #[]
  callSites := []
  init := .initialized
  statics := none
  mirror := none

def pool0 : Array CpInfo := pool [(5, u "<init>"), (0, u "()V"), (1, .class_ 10), (1, u "java/lang/Object")] 113

def k0c0 : Code := { maxStack := 0, maxLocals := 1, code := object_method_1_code, exceptionTable := #[], attributes := #[] }
def k0m0 : Method := { name := "<init>", desc := "()V", sig := { parameters := [], returnType := none }, accessFlags := 1, code := some k0c0 }
/-- java/lang/Object -/
def k0 : Class := { plain "java/lang/Object" none with
  accessFlags := 33
  interfaces := #[]
  cf := some (fileOf pool0 8 #[] #[{ accessFlags := 1, nameIndex := 5, descriptorIndex := 6, attributes := #[] }] 33 0 #[] #[])
  fields := #[]
  methods := #[k0m0]
  instanceTypes := #[]
  staticTypes := #[]
  resolved := Array.replicate 124 none
  statics := none }

def pool1 : Array CpInfo := pool [(2, .class_ 4), (1, u "java/lang/Object"), (0, u "<init>"), (0, u "()V"), (0, .integer 2147483647), (0, .methodref 9 10), (0, .class_ 11), (0, .nameAndType 12 13), (0, u "com/example/staleness/staleness/CommandExceptionUsagePinLaw"), (0, u "mk"), (0, u "(ICC)Ljava/lang/String;"), (0, .methodref 15 16), (0, .class_ 17), (0, .nameAndType 18 19), (0, u "com/example/staleness/staleness/CommandException"), (0, u "usage"), (0, u "(Ljava/lang/String;Ljava/lang/String;)Lcom/example/staleness/staleness/CommandException;"), (0, .methodref 15 21), (0, .nameAndType 22 23), (0, u "getMessage"), (0, u "()Ljava/lang/String;"), (0, .methodref 25 26), (0, .class_ 27), (0, .nameAndType 28 29), (0, u "java/lang/String"), (0, u "length"), (0, u "()I"), (0, .methodref 9 31), (0, .nameAndType 32 33), (0, u "ok"), (0, u "(Ljava/lang/String;IIICCCC)Z"), (0, .methodref 25 35), (0, .nameAndType 5 36), (0, u "([C)V"), (0, .methodref 25 38), (0, .nameAndType 39 40), (0, u "valueOf"), (0, u "(C)Ljava/lang/String;"), (0, .methodref 25 42), (0, .nameAndType 43 44), (0, u "charAt"), (0, u "(I)C"), (0, .methodref 9 46), (0, .nameAndType 47 48), (0, u "exp"), (0, u "(IICCCC)C"), (2, u "law"), (0, u "(III)Z")] 3

def k1m0 : Method := { name := "<init>", desc := "()V", sig := { parameters := [], returnType := none }, accessFlags := 1, code := none }
def k1c1 : Code := { maxStack := 8, maxLocals := 14, code := code, exceptionTable := #[], attributes := #[] }
def k1m1 : Method := { name := "law", desc := "(III)Z", sig := { parameters := [.int, .int, .int], returnType := some .boolean }, accessFlags := 9, code := some k1c1 }
def k1c2 : Code := { maxStack := 6, maxLocals := 3, code := method_3_code, exceptionTable := #[], attributes := #[] }
def k1m2 : Method := { name := "mk", desc := "(ICC)Ljava/lang/String;", sig := { parameters := [.int, .char, .char], returnType := some (.object "java/lang/String") }, accessFlags := 10, code := some k1c2 }
def k1c3 : Code := { maxStack := 2, maxLocals := 7, code := method_4_code, exceptionTable := #[], attributes := #[] }
def k1m3 : Method := { name := "exp", desc := "(IICCCC)C", sig := { parameters := [.int, .int, .char, .char, .char, .char], returnType := some .char }, accessFlags := 10, code := some k1c3 }
def k1c4 : Code := { maxStack := 7, maxLocals := 8, code := method_5_code, exceptionTable := #[], attributes := #[] }
def k1m4 : Method := { name := "ok", desc := "(Ljava/lang/String;IIICCCC)Z", sig := { parameters := [(.object "java/lang/String"), .int, .int, .int, .char, .char, .char, .char], returnType := some .boolean }, accessFlags := 10, code := some k1c4 }
/-- com/example/staleness/staleness/CommandExceptionUsagePinLaw -/
def k1 : Class := { plain "com/example/staleness/staleness/CommandExceptionUsagePinLaw" (some 0) with
  accessFlags := 49
  interfaces := #[]
  cf := some (fileOf pool1 9 #[] #[{ accessFlags := 1, nameIndex := 5, descriptorIndex := 6, attributes := #[] }, { accessFlags := 9, nameIndex := 51, descriptorIndex := 52, attributes := #[] }, { accessFlags := 10, nameIndex := 12, descriptorIndex := 13, attributes := #[] }, { accessFlags := 10, nameIndex := 47, descriptorIndex := 48, attributes := #[] }, { accessFlags := 10, nameIndex := 32, descriptorIndex := 33, attributes := #[] }] 49 2 #[] #[])
  fields := #[]
  methods := #[k1m0, k1m1, k1m2, k1m3, k1m4]
  instanceTypes := #[]
  staticTypes := #[]
  resolved := Array.replicate 56 none
  statics := none }

def pool2 : Array CpInfo := pool [(1, .class_ 2), (0, u "java/io/Serializable"), (0, .class_ 4), (0, u "java/lang/Object")] 2

/-- java/io/Serializable -/
def k2 : Class := { plain "java/io/Serializable" (some 0) with
  accessFlags := 1537
  interfaces := #[]
  cf := some (fileOf pool2 1 #[] #[] 1537 3 #[] #[])
  fields := #[]
  methods := #[]
  instanceTypes := #[]
  staticTypes := #[]
  resolved := Array.replicate 7 none
  statics := none }

def pool3 : Array CpInfo := pool [(1, .class_ 2), (0, u "java/lang/Comparable"), (0, .class_ 4), (0, u "java/lang/Object")] 7

/-- java/lang/Comparable -/
def k3 : Class := { plain "java/lang/Comparable" (some 0) with
  accessFlags := 1537
  interfaces := #[]
  cf := some (fileOf pool3 1 #[] #[] 1537 3 #[] #[])
  fields := #[]
  methods := #[]
  instanceTypes := #[]
  staticTypes := #[]
  resolved := Array.replicate 12 none
  statics := none }

def pool4 : Array CpInfo := pool [(2, .class_ 4), (1, u "java/lang/CharSequence"), (42, .class_ 48), (0, u "java/lang/CharSequence$1CodePointIterator"), (10, .class_ 60), (0, u "java/lang/CharSequence$1CharIterator"), (5, .class_ 67), (0, u "java/lang/Object")] 63

/-- java/lang/CharSequence -/
def k4 : Class := { plain "java/lang/CharSequence" (some 0) with
  accessFlags := 1537
  interfaces := #[]
  cf := some (fileOf pool4 2 #[.nestMembers #[47, 59]] #[] 1537 66 #[] #[])
  fields := #[]
  methods := #[]
  instanceTypes := #[]
  staticTypes := #[]
  resolved := Array.replicate 131 none
  statics := none }

def pool5 : Array CpInfo := pool [(1, .class_ 2), (0, u "java/lang/constant/Constable"), (0, .class_ 4), (0, u "java/lang/Object")] 6

/-- java/lang/constant/Constable -/
def k5 : Class := { plain "java/lang/constant/Constable" (some 0) with
  accessFlags := 1537
  interfaces := #[]
  cf := some (fileOf pool5 1 #[] #[] 1537 3 #[] #[])
  fields := #[]
  methods := #[]
  instanceTypes := #[]
  staticTypes := #[]
  resolved := Array.replicate 11 none
  statics := none }

def pool6 : Array CpInfo := pool [(1, .class_ 2), (0, u "java/lang/constant/ConstantDesc"), (0, .class_ 4), (0, u "java/lang/Object")] 32

/-- java/lang/constant/ConstantDesc -/
def k6 : Class := { plain "java/lang/constant/ConstantDesc" (some 0) with
  accessFlags := 1537
  interfaces := #[]
  cf := some (fileOf pool6 1 #[] #[] 1537 3 #[] #[])
  fields := #[]
  methods := #[]
  instanceTypes := #[]
  staticTypes := #[]
  resolved := Array.replicate 37 none
  statics := none }

def pool7 : Array CpInfo := pool [(1, .methodref 2 3), (0, .class_ 4), (0, .nameAndType 5 6), (0, u "java/lang/Object"), (0, u "<init>"), (0, u "()V"), (0, .string 8), (0, u ""), (0, .fieldref 10 11), (0, .class_ 12), (0, .nameAndType 13 14), (0, u "java/lang/String"), (0, u "value"), (0, u "[B"), (0, .fieldref 10 16), (0, .nameAndType 17 18), (0, u "coder"), (0, u "B"), (2, u "hash"), (0, u "I"), (2, u "hashIsZero"), (0, u "Z"), (0, .methodref 10 28), (0, .nameAndType 5 29), (0, u "([CIILjava/lang/Void;)V"), (8, .fieldref 10 39), (0, .nameAndType 40 26), (0, u "COMPACT_STRINGS"), (1, .class_ 44), (1, u "java/lang/StringUTF16"), (0, u "compress"), (1, .methodref 42 48), (0, .nameAndType 49 50), (0, u "coderFromArrayLen"), (0, u "([BI)B"), (2, u "toBytes"), (0, .methodref 55 56), (0, .class_ 57), (0, .nameAndType 58 59), (0, u "java/util/Arrays"), (0, u "copyOfRange"), (0, u "([BII)[B"), (47, .class_ 109), (1, u "java/lang/StringLatin1"), (32, u "()Z"), (34, .methodref 42 178), (0, .nameAndType 45 179), (0, u "([CII)[B"), (13, .class_ 195), (1, u "java/lang/System"), (13, .methodref 10 210), (0, .nameAndType 5 211), (0, u "([BB)V"), (0, .methodref 193 213), (0, .nameAndType 214 215), (0, u "arraycopy"), (0, u "(Ljava/lang/Object;ILjava/lang/Object;II)V"), (118, u "()I"), (0, .methodref 10 336), (0, .nameAndType 17 337), (0, u "()B"), (2, u "()[B"), (22, u "([BI)C"), (5, u "(C)Z"), (21, u "(II)V"), (35, u "(I)C"), (61, .methodref 10 490), (0, .nameAndType 5 491), (0, u "(Ljava/lang/AbstractStringBuilder;Ljava/lang/Void;)V"), (0, .methodref 10 493), (0, .nameAndType 494 142), (0, u "isLatin1"), (0, .methodref 107 496), (0, .nameAndType 497 363), (0, u "charAt"), (3, u "checkIndex"), (4, .nameAndType 507 334), (0, u "length"), (24, u "getBytes"), (16, .methodref 550 506), (0, .class_ 551), (0, u "java/lang/AbstractStringBuilder"), (0, .methodref 550 553), (0, .nameAndType 554 340), (0, u "getValue"), (20, .class_ 576), (0, u "java/lang/CharSequence"), (22, u "CASE_INSENSITIVE_ORDER"), (0, u "Ljava/util/Comparator;"), (181, u "valueOf"), (0, u "(C)Ljava/lang/String;"), (37, u "([BIB)V"), (188, u "([C)V"), (4, .methodref 107 1016), (0, .nameAndType 1017 369), (0, u "canEncode"), (0, .methodref 107 1019), (0, .nameAndType 53 1020), (0, u "(C)[B"), (26, .methodref 550 493), (5, .fieldref 1054 1055), (0, .class_ 1056), (0, .nameAndType 1057 1058), (0, u "jdk/internal/util/Preconditions"), (0, u "SIOOBE_FORMATTER"), (0, u "Ljava/util/function/BiFunction;"), (0, .methodref 1054 1060), (0, .nameAndType 501 1061), (0, u "(IILjava/util/function/BiFunction;)I"), (39, u "serialPersistentFields"), (0, u "[Ljava/io/ObjectStreamField;"), (0, .class_ 1104), (0, u "java/lang/String$CaseInsensitiveComparator"), (1, .class_ 1107), (0, u "java/io/Serializable"), (0, .class_ 1109), (0, u "java/lang/Comparable"), (0, .class_ 1111), (0, u "java/lang/constant/Constable"), (0, .class_ 1113), (0, u "java/lang/constant/ConstantDesc"), (2, u "serialVersionUID"), (0, u "J"), (3, u "REPL"), (0, u "C"), (2, u "LATIN1"), (1, u "UTF16"), (105, u "(Ljava/lang/StringBuilder;)V")] 217

def k7m0 : Method := { name := "<init>", desc := "()V", sig := { parameters := [], returnType := none }, accessFlags := 1, code := none }
def k7c1 : Code := { maxStack := 5, maxLocals := 2, code := jdk_42_method_3_code, exceptionTable := #[], attributes := #[] }
def k7m1 : Method := { name := "<init>", desc := "([C)V", sig := { parameters := [(.array .char)], returnType := none }, accessFlags := 1, code := some k7c1 }
def k7c2 : Code := { maxStack := 3, maxLocals := 2, code := jdk_42_method_53_code, exceptionTable := #[], attributes := #[] }
def k7m2 : Method := { name := "<init>", desc := "(Ljava/lang/StringBuilder;)V", sig := { parameters := [(.object "java/lang/StringBuilder")], returnType := none }, accessFlags := 1, code := some k7c2 }
def k7c3 : Code := { maxStack := 2, maxLocals := 1, code := jdk_42_method_54_code, exceptionTable := #[], attributes := #[] }
def k7m3 : Method := { name := "length", desc := "()I", sig := { parameters := [], returnType := some .int }, accessFlags := 1, code := some k7c3 }
def k7c4 : Code := { maxStack := 2, maxLocals := 2, code := jdk_42_method_56_code, exceptionTable := #[], attributes := #[] }
def k7m4 : Method := { name := "charAt", desc := "(I)C", sig := { parameters := [.int], returnType := some .char }, accessFlags := 1, code := some k7c4 }
def k7c5 : Code := { maxStack := 4, maxLocals := 1, code := jdk_42_method_139_code, exceptionTable := #[], attributes := #[] }
def k7m5 : Method := { name := "valueOf", desc := "(C)Ljava/lang/String;", sig := { parameters := [.char], returnType := some (.object "java/lang/String") }, accessFlags := 9, code := some k7c5 }
def k7c6 : Code := { maxStack := 5, maxLocals := 4, code := jdk_42_method_147_code, exceptionTable := #[], attributes := #[] }
def k7m6 : Method := { name := "getBytes", desc := "([BIB)V", sig := { parameters := [(.array .byte), .int, .byte], returnType := none }, accessFlags := 0, code := some k7c6 }
def k7c7 : Code := { maxStack := 4, maxLocals := 6, code := jdk_42_method_149_code, exceptionTable := #[], attributes := #[] }
def k7m7 : Method := { name := "<init>", desc := "([CIILjava/lang/Void;)V", sig := { parameters := [(.array .char), .int, .int, (.object "java/lang/Void")], returnType := none }, accessFlags := 2, code := some k7c7 }
def k7c8 : Code := { maxStack := 5, maxLocals := 5, code := jdk_42_method_150_code, exceptionTable := #[], attributes := #[] }
def k7m8 : Method := { name := "<init>", desc := "(Ljava/lang/AbstractStringBuilder;Ljava/lang/Void;)V", sig := { parameters := [(.object "java/lang/AbstractStringBuilder"), (.object "java/lang/Void")], returnType := none }, accessFlags := 0, code := some k7c8 }
def k7c9 : Code := { maxStack := 2, maxLocals := 3, code := jdk_42_method_151_code, exceptionTable := #[], attributes := #[] }
def k7m9 : Method := { name := "<init>", desc := "([BB)V", sig := { parameters := [(.array .byte), .byte], returnType := none }, accessFlags := 0, code := some k7c9 }
def k7c10 : Code := { maxStack := 1, maxLocals := 1, code := jdk_42_method_152_code, exceptionTable := #[], attributes := #[] }
def k7m10 : Method := { name := "coder", desc := "()B", sig := { parameters := [], returnType := some .byte }, accessFlags := 0, code := some k7c10 }
def k7c11 : Code := { maxStack := 1, maxLocals := 1, code := jdk_42_method_154_code, exceptionTable := #[], attributes := #[] }
def k7m11 : Method := { name := "isLatin1", desc := "()Z", sig := { parameters := [], returnType := some .boolean }, accessFlags := 0, code := some k7c11 }
def k7c12 : Code := { maxStack := 3, maxLocals := 2, code := jdk_42_method_155_code, exceptionTable := #[], attributes := #[] }
def k7m12 : Method := { name := "checkIndex", desc := "(II)V", sig := { parameters := [.int, .int], returnType := none }, accessFlags := 8, code := some k7c12 }
/-- java/lang/String -/
def k7 : Class := { plain "java/lang/String" (some 0) with
  accessFlags := 49
  interfaces := #[2, 3, 4, 5, 6]
  cf := some (fileOf pool7 10 #[.nestMembers #[1103]] #[{ accessFlags := 1, nameIndex := 5, descriptorIndex := 6, attributes := #[] }, { accessFlags := 1, nameIndex := 5, descriptorIndex := 1010, attributes := #[] }, { accessFlags := 1, nameIndex := 5, descriptorIndex := 1233, attributes := #[] }, { accessFlags := 1, nameIndex := 507, descriptorIndex := 334, attributes := #[] }, { accessFlags := 1, nameIndex := 497, descriptorIndex := 427, attributes := #[] }, { accessFlags := 9, nameIndex := 782, descriptorIndex := 783, attributes := #[] }, { accessFlags := 0, nameIndex := 532, descriptorIndex := 821, attributes := #[] }, { accessFlags := 2, nameIndex := 5, descriptorIndex := 29, attributes := #[] }, { accessFlags := 0, nameIndex := 5, descriptorIndex := 491, attributes := #[] }, { accessFlags := 0, nameIndex := 5, descriptorIndex := 211, attributes := #[] }, { accessFlags := 0, nameIndex := 17, descriptorIndex := 337, attributes := #[] }, { accessFlags := 0, nameIndex := 494, descriptorIndex := 142, attributes := #[] }, { accessFlags := 8, nameIndex := 501, descriptorIndex := 391, attributes := #[] }] 49 2 #[1106, 1108, 575, 1110, 1112] #[{ accessFlags := 18, nameIndex := 13, descriptorIndex := 14, attributes := #[] }, { accessFlags := 18, nameIndex := 17, descriptorIndex := 18, attributes := #[] }, { accessFlags := 2, nameIndex := 21, descriptorIndex := 22, attributes := #[] }, { accessFlags := 2, nameIndex := 25, descriptorIndex := 26, attributes := #[] }, { accessFlags := 26, nameIndex := 1116, descriptorIndex := 1117, attributes := #[] }, { accessFlags := 24, nameIndex := 40, descriptorIndex := 26, attributes := #[] }, { accessFlags := 26, nameIndex := 1101, descriptorIndex := 1102, attributes := #[] }, { accessFlags := 26, nameIndex := 1121, descriptorIndex := 1122, attributes := #[] }, { accessFlags := 25, nameIndex := 599, descriptorIndex := 600, attributes := #[] }, { accessFlags := 24, nameIndex := 1125, descriptorIndex := 18, attributes := #[] }, { accessFlags := 24, nameIndex := 1127, descriptorIndex := 18, attributes := #[] }])
  fields := #[{ name := "value", type := (.array .byte), accessFlags := 18, slot := 0, constantValue := 0 }, { name := "coder", type := .byte, accessFlags := 18, slot := 1, constantValue := 0 }, { name := "hash", type := .int, accessFlags := 2, slot := 2, constantValue := 0 }, { name := "hashIsZero", type := .boolean, accessFlags := 2, slot := 3, constantValue := 0 }, { name := "serialVersionUID", type := .long, accessFlags := 26, slot := 0, constantValue := 0 }, { name := "COMPACT_STRINGS", type := .boolean, accessFlags := 24, slot := 1, constantValue := 0 }, { name := "serialPersistentFields", type := (.array (.object "java/io/ObjectStreamField")), accessFlags := 26, slot := 2, constantValue := 0 }, { name := "REPL", type := .char, accessFlags := 26, slot := 3, constantValue := 0 }, { name := "CASE_INSENSITIVE_ORDER", type := (.object "java/util/Comparator"), accessFlags := 25, slot := 4, constantValue := 0 }, { name := "LATIN1", type := .byte, accessFlags := 24, slot := 5, constantValue := 0 }, { name := "UTF16", type := .byte, accessFlags := 24, slot := 6, constantValue := 0 }]
  methods := #[k7m0, k7m1, k7m2, k7m3, k7m4, k7m5, k7m6, k7m7, k7m8, k7m9, k7m10, k7m11, k7m12]
  instanceTypes := #[(.array .byte), .byte, .int, .boolean]
  staticTypes := #[.long, .boolean, (.array (.object "java/io/ObjectStreamField")), .char, (.object "java/util/Comparator"), .byte, .byte]
  resolved := Array.replicate 1451 none
  statics := some 0 }

def pool8 : Array CpInfo := pool [(6, .class_ 8), (1, u "java/lang/Object"), (0, u "<init>"), (0, u "()V"), (1, .class_ 14), (1, u "java/lang/StringUTF16"), (31, u "$assertionsDisabled"), (0, u "Z"), (13, u "HI_BYTE_SHIFT"), (0, u "I"), (2, u "LO_BYTE_SHIFT"), (49, .methodref 12 116), (0, .nameAndType 117 118), (0, u "compress"), (0, u "([CI[BII)I"), (3, u "([CII)[B"), (138, u "coderFromArrayLen"), (0, u "([BI)B"), (106, .class_ 371), (1, u "java/lang/StringUTF16$LinesSpliterator"), (58, u "MAX_LENGTH"), (196, .class_ 628), (0, u "java/lang/StringUTF16$CodePointsSpliterator"), (0, .class_ 630), (0, u "java/lang/StringUTF16$CharsSpliterator")] 4

def k8m0 : Method := { name := "<init>", desc := "()V", sig := { parameters := [], returnType := none }, accessFlags := 0, code := none }
def k8c1 : Code := { maxStack := 2, maxLocals := 2, code := jdk_52_method_15_code, exceptionTable := #[], attributes := #[] }
def k8m1 : Method := { name := "coderFromArrayLen", desc := "([BI)B", sig := { parameters := [(.array .byte), .int], returnType := some .byte }, accessFlags := 8, code := some k8c1 }
def k8c2 : Code := { maxStack := 5, maxLocals := 6, code := jdk_52_method_16_code, exceptionTable := #[], attributes := #[] }
def k8m2 : Method := { name := "compress", desc := "([CII)[B", sig := { parameters := [(.array .char), .int, .int], returnType := some (.array .byte) }, accessFlags := 9, code := some k8c2 }
def k8c3 : Code := { maxStack := 3, maxLocals := 7, code := jdk_52_method_21_code, exceptionTable := #[], attributes := #[] }
def k8m3 : Method := { name := "compress", desc := "([CI[BII)I", sig := { parameters := [(.array .char), .int, (.array .byte), .int, .int], returnType := some .int }, accessFlags := 9, code := some k8c3 }
/-- java/lang/StringUTF16 -/
def k8 : Class := { plain "java/lang/StringUTF16" (some 0) with
  accessFlags := 48
  interfaces := #[]
  cf := some (fileOf pool8 12 #[.nestMembers #[627, 629, 369]] #[{ accessFlags := 0, nameIndex := 9, descriptorIndex := 10, attributes := #[] }, { accessFlags := 8, nameIndex := 261, descriptorIndex := 262, attributes := #[] }, { accessFlags := 9, nameIndex := 117, descriptorIndex := 122, attributes := #[] }, { accessFlags := 9, nameIndex := 117, descriptorIndex := 118, attributes := #[] }] 48 6 #[] #[{ accessFlags := 26, nameIndex := 61, descriptorIndex := 62, attributes := #[] }, { accessFlags := 26, nameIndex := 65, descriptorIndex := 62, attributes := #[] }, { accessFlags := 24, nameIndex := 430, descriptorIndex := 62, attributes := #[] }, { accessFlags := 4120, nameIndex := 46, descriptorIndex := 47, attributes := #[] }])
  fields := #[{ name := "HI_BYTE_SHIFT", type := .int, accessFlags := 26, slot := 0, constantValue := 0 }, { name := "LO_BYTE_SHIFT", type := .int, accessFlags := 26, slot := 1, constantValue := 0 }, { name := "MAX_LENGTH", type := .int, accessFlags := 24, slot := 2, constantValue := 0 }, { name := "$assertionsDisabled", type := .boolean, accessFlags := 4120, slot := 3, constantValue := 0 }]
  methods := #[k8m0, k8m1, k8m2, k8m3]
  instanceTypes := #[]
  staticTypes := #[.int, .int, .int, .boolean]
  resolved := Array.replicate 635 none
  statics := none }

def pool9 : Array CpInfo := pool [(1, .methodref 2 3), (0, .class_ 4), (0, .nameAndType 5 6), (0, u "java/lang/Object"), (0, u "<init>"), (0, u "()V"), (0, .fieldref 8 9), (0, .class_ 10), (0, .nameAndType 11 12), (0, u "java/lang/Throwable"), (0, u "cause"), (0, u "Ljava/lang/Throwable;"), (0, .fieldref 8 14), (0, .nameAndType 15 16), (0, u "UNASSIGNED_STACK"), (0, u "[Ljava/lang/StackTraceElement;"), (0, .fieldref 8 18), (0, .nameAndType 19 16), (0, u "stackTrace"), (0, .fieldref 8 21), (0, .nameAndType 22 23), (0, u "SUPPRESSED_SENTINEL"), (0, u "Ljava/util/List;"), (0, .fieldref 8 25), (0, .nameAndType 26 23), (0, u "suppressedExceptions"), (0, .methodref 8 28), (0, .nameAndType 29 30), (0, u "fillInStackTrace"), (0, u "()Ljava/lang/Throwable;"), (0, .fieldref 8 32), (0, .nameAndType 33 34), (0, u "detailMessage"), (0, u "Ljava/lang/String;"), (3, u "()Ljava/lang/String;"), (2, u "getMessage"), (51, .class_ 94), (0, u "java/lang/Throwable$WrappedPrintStream"), (6, .class_ 103), (1, u "java/lang/Throwable$PrintStreamOrWriter"), (61, u "$assertionsDisabled"), (0, u "Z"), (26, .class_ 194), (0, u "java/lang/Throwable$WrappedPrintWriter"), (3, .fieldref 8 199), (0, .nameAndType 200 201), (0, u "backtrace"), (0, u "Ljava/lang/Object;"), (0, .methodref 8 203), (0, .nameAndType 29 204), (0, u "(I)Ljava/lang/Throwable;"), (6, u "depth"), (0, u "I"), (10, u "(Ljava/lang/String;)V"), (45, .class_ 271), (1, u "java/lang/Throwable$SentinelHolder"), (32, u "EMPTY_THROWABLE_ARRAY"), (0, u "[Ljava/lang/Throwable;"), (12, .class_ 319), (0, u "java/io/Serializable"), (0, u "serialVersionUID"), (0, u "J"), (5, u "NULL_CAUSE_MESSAGE"), (0, u "SELF_SUPPRESSION_MESSAGE"), (0, u "CAUSE_CAPTION"), (0, u "SUPPRESSED_CAPTION")] 73

def k9c0 : Code := { maxStack := 2, maxLocals := 1, code := jdk_78_method_1_code, exceptionTable := #[], attributes := #[] }
def k9m0 : Method := { name := "<init>", desc := "()V", sig := { parameters := [], returnType := none }, accessFlags := 1, code := some k9c0 }
def k9c1 : Code := { maxStack := 2, maxLocals := 2, code := jdk_78_method_2_code, exceptionTable := #[], attributes := #[] }
def k9m1 : Method := { name := "<init>", desc := "(Ljava/lang/String;)V", sig := { parameters := [(.object "java/lang/String")], returnType := none }, accessFlags := 1, code := some k9c1 }
def k9c2 : Code := { maxStack := 1, maxLocals := 1, code := jdk_78_method_6_code, exceptionTable := #[], attributes := #[] }
def k9m2 : Method := { name := "getMessage", desc := "()Ljava/lang/String;", sig := { parameters := [], returnType := some (.object "java/lang/String") }, accessFlags := 1, code := some k9c2 }
def k9c3 : Code := { maxStack := 2, maxLocals := 1, code := ⟨#[0x2a, 0xb4, 0x00, 0x11, 0xc7, 0x00, 0x0a, 0x2a, 0xb4, 0x00, 0xc6, 0xc6, 0x00, 0x10, 0x2a, 0x03, 0xb6, 0x00, 0xca, 0x57, 0x2a, 0xb2, 0x00, 0x0d, 0xb5, 0x00, 0x11, 0x2a, 0xb0]⟩, exceptionTable := #[], attributes := #[] }
def k9m3 : Method := { name := "fillInStackTrace", desc := "()Ljava/lang/Throwable;", sig := { parameters := [], returnType := some (.object "java/lang/Throwable") }, accessFlags := 33, code := some k9c3 }
def k9m4 : Method := { name := "fillInStackTrace", desc := "(I)Ljava/lang/Throwable;", sig := { parameters := [.int], returnType := some (.object "java/lang/Throwable") }, accessFlags := 258, code := none }
/-- java/lang/Throwable -/
def k9 : Class := { plain "java/lang/Throwable" (some 0) with
  accessFlags := 33
  interfaces := #[2]
  cf := some (fileOf pool9 8 #[.nestMembers #[193, 93, 101, 269]] #[{ accessFlags := 1, nameIndex := 5, descriptorIndex := 6, attributes := #[] }, { accessFlags := 1, nameIndex := 5, descriptorIndex := 223, attributes := #[] }, { accessFlags := 1, nameIndex := 41, descriptorIndex := 38, attributes := #[] }, { accessFlags := 33, nameIndex := 29, descriptorIndex := 30, attributes := #[] }, { accessFlags := 258, nameIndex := 29, descriptorIndex := 204, attributes := #[] }] 33 2 #[318] #[{ accessFlags := 26, nameIndex := 320, descriptorIndex := 321, attributes := #[] }, { accessFlags := 130, nameIndex := 200, descriptorIndex := 201, attributes := #[] }, { accessFlags := 2, nameIndex := 33, descriptorIndex := 34, attributes := #[] }, { accessFlags := 26, nameIndex := 15, descriptorIndex := 16, attributes := #[] }, { accessFlags := 2, nameIndex := 11, descriptorIndex := 12, attributes := #[] }, { accessFlags := 2, nameIndex := 19, descriptorIndex := 16, attributes := #[] }, { accessFlags := 130, nameIndex := 211, descriptorIndex := 212, attributes := #[] }, { accessFlags := 26, nameIndex := 22, descriptorIndex := 23, attributes := #[] }, { accessFlags := 2, nameIndex := 26, descriptorIndex := 23, attributes := #[] }, { accessFlags := 26, nameIndex := 327, descriptorIndex := 34, attributes := #[] }, { accessFlags := 26, nameIndex := 328, descriptorIndex := 34, attributes := #[] }, { accessFlags := 26, nameIndex := 329, descriptorIndex := 34, attributes := #[] }, { accessFlags := 26, nameIndex := 330, descriptorIndex := 34, attributes := #[] }, { accessFlags := 26, nameIndex := 304, descriptorIndex := 305, attributes := #[] }, { accessFlags := 4120, nameIndex := 165, descriptorIndex := 166, attributes := #[] }])
  fields := #[{ name := "serialVersionUID", type := .long, accessFlags := 26, slot := 0, constantValue := 0 }, { name := "backtrace", type := (.object "java/lang/Object"), accessFlags := 130, slot := 0, constantValue := 0 }, { name := "detailMessage", type := (.object "java/lang/String"), accessFlags := 2, slot := 1, constantValue := 0 }, { name := "UNASSIGNED_STACK", type := (.array (.object "java/lang/StackTraceElement")), accessFlags := 26, slot := 1, constantValue := 0 }, { name := "cause", type := (.object "java/lang/Throwable"), accessFlags := 2, slot := 2, constantValue := 0 }, { name := "stackTrace", type := (.array (.object "java/lang/StackTraceElement")), accessFlags := 2, slot := 3, constantValue := 0 }, { name := "depth", type := .int, accessFlags := 130, slot := 4, constantValue := 0 }, { name := "SUPPRESSED_SENTINEL", type := (.object "java/util/List"), accessFlags := 26, slot := 2, constantValue := 0 }, { name := "suppressedExceptions", type := (.object "java/util/List"), accessFlags := 2, slot := 5, constantValue := 0 }, { name := "NULL_CAUSE_MESSAGE", type := (.object "java/lang/String"), accessFlags := 26, slot := 3, constantValue := 0 }, { name := "SELF_SUPPRESSION_MESSAGE", type := (.object "java/lang/String"), accessFlags := 26, slot := 4, constantValue := 0 }, { name := "CAUSE_CAPTION", type := (.object "java/lang/String"), accessFlags := 26, slot := 5, constantValue := 0 }, { name := "SUPPRESSED_CAPTION", type := (.object "java/lang/String"), accessFlags := 26, slot := 6, constantValue := 0 }, { name := "EMPTY_THROWABLE_ARRAY", type := (.array (.object "java/lang/Throwable")), accessFlags := 26, slot := 7, constantValue := 0 }, { name := "$assertionsDisabled", type := .boolean, accessFlags := 4120, slot := 8, constantValue := 0 }]
  methods := #[k9m0, k9m1, k9m2, k9m3, k9m4]
  instanceTypes := #[(.object "java/lang/Object"), (.object "java/lang/String"), (.object "java/lang/Throwable"), (.array (.object "java/lang/StackTraceElement")), .int, (.object "java/util/List")]
  staticTypes := #[.long, (.array (.object "java/lang/StackTraceElement")), (.object "java/util/List"), (.object "java/lang/String"), (.object "java/lang/String"), (.object "java/lang/String"), (.object "java/lang/String"), (.array (.object "java/lang/Throwable")), .boolean]
  resolved := Array.replicate 404 none
  statics := some 1 }

def pool10 : Array CpInfo := pool [(2, .class_ 4), (1, u "java/lang/Throwable"), (0, u "<init>"), (0, u "()V"), (0, .methodref 2 8), (0, .nameAndType 5 9), (0, u "(Ljava/lang/String;)V"), (9, .class_ 20), (0, u "java/lang/Exception"), (0, u "serialVersionUID"), (0, u "J")] 17

def k10m0 : Method := { name := "<init>", desc := "()V", sig := { parameters := [], returnType := none }, accessFlags := 1, code := none }
def k10c1 : Code := { maxStack := 2, maxLocals := 2, code := jdk_59_method_2_code, exceptionTable := #[], attributes := #[] }
def k10m1 : Method := { name := "<init>", desc := "(Ljava/lang/String;)V", sig := { parameters := [(.object "java/lang/String")], returnType := none }, accessFlags := 1, code := some k10c1 }
/-- java/lang/Exception -/
def k10 : Class := { plain "java/lang/Exception" (some 9) with
  accessFlags := 33
  interfaces := #[]
  cf := some (fileOf pool10 19 #[] #[{ accessFlags := 1, nameIndex := 5, descriptorIndex := 6, attributes := #[] }, { accessFlags := 1, nameIndex := 5, descriptorIndex := 9, attributes := #[] }] 33 2 #[] #[{ accessFlags := 24, nameIndex := 21, descriptorIndex := 22, attributes := #[] }])
  fields := #[{ name := "serialVersionUID", type := .long, accessFlags := 24, slot := 0, constantValue := 0 }]
  methods := #[k10m0, k10m1]
  instanceTypes := #[(.object "java/lang/Object"), (.object "java/lang/String"), (.object "java/lang/Throwable"), (.array (.object "java/lang/StackTraceElement")), .int, (.object "java/util/List")]
  staticTypes := #[.long]
  resolved := Array.replicate 40 none
  statics := none }

def pool11 : Array CpInfo := pool [(1, .methodref 2 3), (0, .class_ 4), (0, .nameAndType 5 6), (0, u "java/lang/Exception"), (0, u "<init>"), (0, u "(Ljava/lang/String;)V"), (3, .class_ 11), (0, u "com/example/staleness/staleness/CommandException"), (0, .class_ 13), (0, u "java/lang/StringBuilder"), (0, .methodref 12 15), (0, .nameAndType 5 16), (0, u "()V"), (0, .methodref 12 18), (0, .nameAndType 19 20), (0, u "append"), (0, u "(Ljava/lang/String;)Ljava/lang/StringBuilder;"), (0, .string 22), (0, u "\n"), (0, .methodref 12 24), (0, .nameAndType 25 26), (0, u "toString"), (0, u "()Ljava/lang/String;"), (0, .methodref 10 3), (9, .class_ 39), (1, u "com/example/staleness/staleness/CommandException$InputReader"), (26, u "serialVersionUID"), (0, u "J"), (5, u "usage"), (0, u "(Ljava/lang/String;Ljava/lang/String;)Lcom/example/staleness/staleness/CommandException;")] 11

def k11c0 : Code := { maxStack := 2, maxLocals := 2, code := prog_5_method_1_code, exceptionTable := #[], attributes := #[] }
def k11m0 : Method := { name := "<init>", desc := "(Ljava/lang/String;)V", sig := { parameters := [(.object "java/lang/String")], returnType := none }, accessFlags := 0, code := some k11c0 }
def k11c1 : Code := { maxStack := 4, maxLocals := 2, code := prog_5_method_3_code, exceptionTable := #[], attributes := #[] }
def k11m1 : Method := { name := "usage", desc := "(Ljava/lang/String;Ljava/lang/String;)Lcom/example/staleness/staleness/CommandException;", sig := { parameters := [(.object "java/lang/String"), (.object "java/lang/String")], returnType := some (.object "com/example/staleness/staleness/CommandException") }, accessFlags := 8, code := some k11c1 }
/-- com/example/staleness/staleness/CommandException -/
def k11 : Class := { plain "com/example/staleness/staleness/CommandException" (some 10) with
  accessFlags := 32
  interfaces := #[]
  cf := some (fileOf pool11 10 #[.nestMembers #[37]] #[{ accessFlags := 0, nameIndex := 5, descriptorIndex := 6, attributes := #[] }, { accessFlags := 8, nameIndex := 73, descriptorIndex := 74, attributes := #[] }] 32 2 #[] #[{ accessFlags := 26, nameIndex := 66, descriptorIndex := 67, attributes := #[] }])
  fields := #[{ name := "serialVersionUID", type := .long, accessFlags := 26, slot := 0, constantValue := 0 }]
  methods := #[k11m0, k11m1]
  instanceTypes := #[(.object "java/lang/Object"), (.object "java/lang/String"), (.object "java/lang/Throwable"), (.array (.object "java/lang/StackTraceElement")), .int, (.object "java/util/List")]
  staticTypes := #[.long]
  resolved := Array.replicate 86 none
  statics := none }

def pool12 : Array CpInfo := pool [(1, .class_ 2), (0, u "java/lang/Appendable"), (0, .class_ 4), (0, u "java/lang/Object")] 9

/-- java/lang/Appendable -/
def k12 : Class := { plain "java/lang/Appendable" (some 0) with
  accessFlags := 1537
  interfaces := #[]
  cf := some (fileOf pool12 1 #[] #[] 1537 3 #[] #[])
  fields := #[]
  methods := #[]
  instanceTypes := #[]
  staticTypes := #[]
  resolved := Array.replicate 14 none
  statics := none }

def pool13 : Array CpInfo := pool [(1, .class_ 2), (0, u "java/lang/String"), (0, .methodref 4 5), (0, .class_ 6), (0, .nameAndType 7 8), (0, u "java/lang/Object"), (0, u "<init>"), (0, u "()V"), (1, .class_ 12), (1, u "java/lang/AbstractStringBuilder"), (0, u "EMPTYVALUE"), (0, u "[B"), (0, .fieldref 10 16), (0, .nameAndType 17 14), (0, u "value"), (0, .fieldref 1 19), (0, .nameAndType 20 21), (0, u "COMPACT_STRINGS"), (0, u "Z"), (0, .fieldref 10 23), (0, .nameAndType 24 25), (0, u "coder"), (0, u "B"), (6, .methodref 1 33), (0, .nameAndType 34 35), (0, u "length"), (0, u "()I"), (4, .methodref 1 41), (0, .nameAndType 24 42), (0, u "()B"), (2, u "append"), (0, u "(Ljava/lang/String;)Ljava/lang/AbstractStringBuilder;"), (1, .class_ 49), (0, u "java/lang/CharSequence"), (19, u "(Ljava/lang/String;)V"), (5, u "maybeLatin1"), (3, .fieldref 10 80), (0, .nameAndType 81 82), (0, u "count"), (0, u "I"), (2, u "isLatin1"), (0, u "()Z"), (13, .methodref 10 101), (0, .nameAndType 102 103), (0, u "ensureCapacityInternal"), (0, u "(I)V"), (104, .methodref 10 209), (0, .nameAndType 210 211), (0, u "putStringAt"), (0, u "(ILjava/lang/String;)V"), (5, u "inflateIfNeededFor"), (2, .nameAndType 221 222), (0, u "getBytes"), (0, u "([BIB)V"), (174, .methodref 10 398), (0, .nameAndType 217 69), (0, .methodref 1 220), (3, u "()[B"), (40, .class_ 445), (0, u "java/lang/Appendable"), (106, u "getValue")] 56

def k13m0 : Method := { name := "<init>", desc := "()V", sig := { parameters := [], returnType := none }, accessFlags := 0, code := none }
def k13c1 : Code := { maxStack := 2, maxLocals := 2, code := jdk_68_method_2_code, exceptionTable := #[], attributes := #[] }
def k13m1 : Method := { name := "<init>", desc := "(I)V", sig := { parameters := [.int], returnType := none }, accessFlags := 0, code := some k13c1 }
def k13c2 : Code := { maxStack := 1, maxLocals := 1, code := jdk_68_method_6_code, exceptionTable := #[], attributes := #[] }
def k13m2 : Method := { name := "length", desc := "()I", sig := { parameters := [], returnType := some .int }, accessFlags := 1, code := some k13c2 }
def k13c3 : Code := { maxStack := 4, maxLocals := 3, code := jdk_68_method_9_code, exceptionTable := #[], attributes := #[] }
def k13m3 : Method := { name := "ensureCapacityInternal", desc := "(I)V", sig := { parameters := [.int], returnType := none }, accessFlags := 2, code := some k13c3 }
def k13c4 : Code := { maxStack := 3, maxLocals := 3, code := jdk_68_method_22_code, exceptionTable := #[], attributes := #[] }
def k13m4 : Method := { name := "append", desc := "(Ljava/lang/String;)Ljava/lang/AbstractStringBuilder;", sig := { parameters := [(.object "java/lang/String")], returnType := some (.object "java/lang/AbstractStringBuilder") }, accessFlags := 1, code := some k13c4 }
def k13c5 : Code := { maxStack := 1, maxLocals := 1, code := jdk_68_method_64_code, exceptionTable := #[], attributes := #[] }
def k13m5 : Method := { name := "getValue", desc := "()[B", sig := { parameters := [], returnType := some (.array .byte) }, accessFlags := 16, code := some k13c5 }
def k13c6 : Code := { maxStack := 1, maxLocals := 1, code := jdk_68_method_68_code, exceptionTable := #[], attributes := #[] }
def k13m6 : Method := { name := "isLatin1", desc := "()Z", sig := { parameters := [], returnType := some .boolean }, accessFlags := 16, code := some k13c6 }
def k13c7 : Code := { maxStack := 2, maxLocals := 2, code := jdk_68_method_71_code, exceptionTable := #[], attributes := #[] }
def k13m7 : Method := { name := "inflateIfNeededFor", desc := "(Ljava/lang/String;)V", sig := { parameters := [(.object "java/lang/String")], returnType := none }, accessFlags := 2, code := some k13c7 }
def k13c8 : Code := { maxStack := 4, maxLocals := 3, code := jdk_68_method_73_code, exceptionTable := #[], attributes := #[] }
def k13m8 : Method := { name := "putStringAt", desc := "(ILjava/lang/String;)V", sig := { parameters := [.int, (.object "java/lang/String")], returnType := none }, accessFlags := 2, code := some k13c8 }
/-- java/lang/AbstractStringBuilder -/
def k13 : Class := { plain "java/lang/AbstractStringBuilder" (some 0) with
  accessFlags := 1056
  interfaces := #[12, 4]
  cf := some (fileOf pool13 10 #[] #[{ accessFlags := 0, nameIndex := 7, descriptorIndex := 8, attributes := #[] }, { accessFlags := 0, nameIndex := 7, descriptorIndex := 103, attributes := #[] }, { accessFlags := 1, nameIndex := 34, descriptorIndex := 35, attributes := #[] }, { accessFlags := 2, nameIndex := 102, descriptorIndex := 103, attributes := #[] }, { accessFlags := 1, nameIndex := 45, descriptorIndex := 46, attributes := #[] }, { accessFlags := 16, nameIndex := 552, descriptorIndex := 403, attributes := #[] }, { accessFlags := 16, nameIndex := 85, descriptorIndex := 86, attributes := #[] }, { accessFlags := 2, nameIndex := 217, descriptorIndex := 69, attributes := #[] }, { accessFlags := 2, nameIndex := 210, descriptorIndex := 211, attributes := #[] }] 1056 4 #[444, 48] #[{ accessFlags := 0, nameIndex := 17, descriptorIndex := 14, attributes := #[] }, { accessFlags := 0, nameIndex := 24, descriptorIndex := 25, attributes := #[] }, { accessFlags := 0, nameIndex := 75, descriptorIndex := 21, attributes := #[] }, { accessFlags := 0, nameIndex := 81, descriptorIndex := 82, attributes := #[] }, { accessFlags := 26, nameIndex := 13, descriptorIndex := 14, attributes := #[] }])
  fields := #[{ name := "value", type := (.array .byte), accessFlags := 0, slot := 0, constantValue := 0 }, { name := "coder", type := .byte, accessFlags := 0, slot := 1, constantValue := 0 }, { name := "maybeLatin1", type := .boolean, accessFlags := 0, slot := 2, constantValue := 0 }, { name := "count", type := .int, accessFlags := 0, slot := 3, constantValue := 0 }, { name := "EMPTYVALUE", type := (.array .byte), accessFlags := 26, slot := 0, constantValue := 0 }]
  methods := #[k13m0, k13m1, k13m2, k13m3, k13m4, k13m5, k13m6, k13m7, k13m8]
  instanceTypes := #[(.array .byte), .byte, .boolean, .int]
  staticTypes := #[(.array .byte)]
  resolved := Array.replicate 609 none
  statics := none }

def pool14 : Array CpInfo := pool [(1, .methodref 2 3), (0, .class_ 4), (0, .nameAndType 5 6), (0, u "java/lang/AbstractStringBuilder"), (0, u "<init>"), (0, u "(I)V"), (11, .class_ 20), (1, u "java/lang/String"), (3, .class_ 26), (1, u "java/lang/StringBuilder"), (0, u "append"), (0, u "(Ljava/lang/String;)Ljava/lang/StringBuilder;"), (0, .methodref 2 30), (0, .nameAndType 27 31), (0, u "(Ljava/lang/String;)Ljava/lang/AbstractStringBuilder;"), (105, .methodref 18 138), (0, .nameAndType 5 139), (0, u "(Ljava/lang/StringBuilder;)V"), (5, u "()V"), (10, u "()I"), (186, .methodref 2 344), (0, .nameAndType 345 156), (0, u "length"), (3, .class_ 350), (0, u "java/lang/Appendable"), (0, .class_ 352), (0, u "java/io/Serializable"), (0, .class_ 354), (0, u "java/lang/Comparable"), (0, .class_ 356), (0, u "java/lang/CharSequence"), (0, u "serialVersionUID"), (0, u "J"), (40, u "toString"), (0, u "()Ljava/lang/String;")] 21

def k14c0 : Code := { maxStack := 2, maxLocals := 1, code := jdk_67_method_1_code, exceptionTable := #[], attributes := #[] }
def k14m0 : Method := { name := "<init>", desc := "()V", sig := { parameters := [], returnType := none }, accessFlags := 1, code := some k14c0 }
def k14c1 : Code := { maxStack := 2, maxLocals := 2, code := jdk_67_method_7_code, exceptionTable := #[], attributes := #[] }
def k14m1 : Method := { name := "append", desc := "(Ljava/lang/String;)Ljava/lang/StringBuilder;", sig := { parameters := [(.object "java/lang/String")], returnType := some (.object "java/lang/StringBuilder") }, accessFlags := 1, code := some k14c1 }
def k14c2 : Code := { maxStack := 3, maxLocals := 1, code := jdk_67_method_42_code, exceptionTable := #[], attributes := #[] }
def k14m2 : Method := { name := "toString", desc := "()Ljava/lang/String;", sig := { parameters := [], returnType := some (.object "java/lang/String") }, accessFlags := 1, code := some k14c2 }
def k14c3 : Code := { maxStack := 1, maxLocals := 1, code := jdk_67_method_93_code, exceptionTable := #[], attributes := #[] }
def k14m3 : Method := { name := "length", desc := "()I", sig := { parameters := [], returnType := some .int }, accessFlags := 4161, code := some k14c3 }
/-- java/lang/StringBuilder -/
def k14 : Class := { plain "java/lang/StringBuilder" (some 13) with
  accessFlags := 49
  interfaces := #[12, 2, 3, 4]
  cf := some (fileOf pool14 24 #[] #[{ accessFlags := 1, nameIndex := 5, descriptorIndex := 145, attributes := #[] }, { accessFlags := 1, nameIndex := 27, descriptorIndex := 28, attributes := #[] }, { accessFlags := 1, nameIndex := 399, descriptorIndex := 400, attributes := #[] }, { accessFlags := 4161, nameIndex := 345, descriptorIndex := 156, attributes := #[] }] 49 2 #[349, 351, 353, 355] #[{ accessFlags := 24, nameIndex := 357, descriptorIndex := 358, attributes := #[] }])
  fields := #[{ name := "serialVersionUID", type := .long, accessFlags := 24, slot := 0, constantValue := 0 }]
  methods := #[k14m0, k14m1, k14m2, k14m3]
  instanceTypes := #[(.array .byte), .byte, .boolean, .int]
  staticTypes := #[.long]
  resolved := Array.replicate 422 none
  statics := none }

def pool15 : Array CpInfo := pool [(2, .class_ 4), (1, u "java/lang/Object"), (0, u "<init>"), (0, u "()V"), (1, .class_ 10), (1, u "java/lang/System"), (0, u "allowSecurityManager"), (0, u "I"), (16, u "cons"), (0, u "Ljava/io/Console;"), (77, .class_ 110), (1, u "java/lang/System$CallersHolder"), (43, u "initialErrStream"), (0, u "Ljava/io/PrintStream;"), (19, u "security"), (0, u "Ljava/lang/SecurityManager;"), (31, .class_ 209), (0, u "java/lang/System$1"), (7, u "props"), (0, u "Ljava/util/Properties;"), (2, u "lineSeparator"), (0, u "Ljava/lang/String;"), (96, .class_ 321), (1, u "java/lang/System$LoggerFinder"), (5, .class_ 328), (0, u "java/lang/System$Logger"), (67, u "err"), (2, u "out"), (91, u "notSupportedJnuEncoding"), (15, u "in"), (17, u "initialIn"), (0, u "Ljava/io/InputStream;"), (35, u "bootLayer"), (0, u "Ljava/lang/ModuleLayer;"), (99, .class_ 664), (0, u "java/lang/System$2"), (9, u "NEVER"), (2, u "MAYBE"), (49, u "arraycopy"), (0, u "(Ljava/lang/Object;ILjava/lang/Object;II)V"), (72, .class_ 802), (0, u "java/lang/System$Logger$Level")] 31

def k15m0 : Method := { name := "<init>", desc := "()V", sig := { parameters := [], returnType := none }, accessFlags := 2, code := none }
def k15m1 : Method := { name := "arraycopy", desc := "(Ljava/lang/Object;ILjava/lang/Object;II)V", sig := { parameters := [(.object "java/lang/Object"), .int, (.object "java/lang/Object"), .int, .int], returnType := none }, accessFlags := 265, code := none }
/-- java/lang/System -/
def k15 : Class := { plain "java/lang/System" (some 0) with
  accessFlags := 49
  interfaces := #[]
  cf := some (fileOf pool15 8 #[.nestMembers #[319, 327, 801, 108, 663, 208]] #[{ accessFlags := 2, nameIndex := 5, descriptorIndex := 6, attributes := #[] }, { accessFlags := 265, nameIndex := 727, descriptorIndex := 728, attributes := #[] }] 49 2 #[] #[{ accessFlags := 25, nameIndex := 507, descriptorIndex := 526, attributes := #[] }, { accessFlags := 25, nameIndex := 399, descriptorIndex := 155, attributes := #[] }, { accessFlags := 25, nameIndex := 396, descriptorIndex := 155, attributes := #[] }, { accessFlags := 10, nameIndex := 525, descriptorIndex := 526, attributes := #[] }, { accessFlags := 26, nameIndex := 674, descriptorIndex := 12, attributes := #[] }, { accessFlags := 26, nameIndex := 677, descriptorIndex := 12, attributes := #[] }, { accessFlags := 10, nameIndex := 11, descriptorIndex := 12, attributes := #[] }, { accessFlags := 74, nameIndex := 175, descriptorIndex := 176, attributes := #[] }, { accessFlags := 10, nameIndex := 491, descriptorIndex := 222, attributes := #[] }, { accessFlags := 74, nameIndex := 29, descriptorIndex := 30, attributes := #[] }, { accessFlags := 74, nameIndex := 154, descriptorIndex := 155, attributes := #[] }, { accessFlags := 10, nameIndex := 217, descriptorIndex := 218, attributes := #[] }, { accessFlags := 10, nameIndex := 221, descriptorIndex := 222, attributes := #[] }, { accessFlags := 8, nameIndex := 562, descriptorIndex := 563, attributes := #[] }])
  fields := #[{ name := "in", type := (.object "java/io/InputStream"), accessFlags := 25, slot := 0, constantValue := 0 }, { name := "out", type := (.object "java/io/PrintStream"), accessFlags := 25, slot := 1, constantValue := 0 }, { name := "err", type := (.object "java/io/PrintStream"), accessFlags := 25, slot := 2, constantValue := 0 }, { name := "initialIn", type := (.object "java/io/InputStream"), accessFlags := 10, slot := 3, constantValue := 0 }, { name := "NEVER", type := .int, accessFlags := 26, slot := 4, constantValue := 0 }, { name := "MAYBE", type := .int, accessFlags := 26, slot := 5, constantValue := 0 }, { name := "allowSecurityManager", type := .int, accessFlags := 10, slot := 6, constantValue := 0 }, { name := "security", type := (.object "java/lang/SecurityManager"), accessFlags := 74, slot := 7, constantValue := 0 }, { name := "notSupportedJnuEncoding", type := (.object "java/lang/String"), accessFlags := 10, slot := 8, constantValue := 0 }, { name := "cons", type := (.object "java/io/Console"), accessFlags := 74, slot := 9, constantValue := 0 }, { name := "initialErrStream", type := (.object "java/io/PrintStream"), accessFlags := 74, slot := 10, constantValue := 0 }, { name := "props", type := (.object "java/util/Properties"), accessFlags := 10, slot := 11, constantValue := 0 }, { name := "lineSeparator", type := (.object "java/lang/String"), accessFlags := 10, slot := 12, constantValue := 0 }, { name := "bootLayer", type := (.object "java/lang/ModuleLayer"), accessFlags := 8, slot := 13, constantValue := 0 }]
  methods := #[k15m0, k15m1]
  instanceTypes := #[]
  staticTypes := #[(.object "java/io/InputStream"), (.object "java/io/PrintStream"), (.object "java/io/PrintStream"), (.object "java/io/InputStream"), .int, .int, .int, (.object "java/lang/SecurityManager"), (.object "java/lang/String"), (.object "java/io/Console"), (.object "java/io/PrintStream"), (.object "java/util/Properties"), (.object "java/lang/String"), (.object "java/lang/ModuleLayer")]
  resolved := Array.replicate 834 none
  statics := none }

def pool16 : Array CpInfo := pool [(2, .class_ 4), (1, u "java/lang/Object"), (0, u "<init>"), (0, u "()V"), (7, .class_ 16), (1, u "java/util/Arrays"), (57, .class_ 76), (1, u "java/util/Arrays$NaturalOrder"), (36, .class_ 115), (1, u "java/util/Arrays$LegacyMergeSort"), (1, u "Z"), (21, u "copyOfRange"), (10, .methodref 151 152), (0, .class_ 153), (0, .nameAndType 154 155), (0, u "java/lang/System"), (0, u "arraycopy"), (0, u "(Ljava/lang/Object;ILjava/lang/Object;II)V"), (148, .methodref 305 306), (0, .class_ 307), (0, .nameAndType 308 309), (0, u "java/lang/Math"), (0, u "min"), (0, u "(II)I"), (29, .methodref 14 340), (0, .nameAndType 341 342), (0, u "copyOfRangeByte"), (0, u "([BII)[B"), (0, .methodref 14 344), (0, .nameAndType 345 346), (0, u "checkLength"), (0, u "(II)V"), (28, .class_ 376), (0, u "java/util/Arrays$ArrayList"), (68, u "$assertionsDisabled"), (269, u "MIN_ARRAY_SORT_GRAN"), (0, u "I"), (2, u "INSERTIONSORT_THRESHOLD"), (255, .class_ 976), (0, u "java/util/Arrays$ArrayItr")] 52

def k16m0 : Method := { name := "<init>", desc := "()V", sig := { parameters := [], returnType := none }, accessFlags := 2, code := none }
def k16c1 : Code := { maxStack := 4, maxLocals := 2, code := jdk_65_method_131_code, exceptionTable := #[], attributes := #[] }
def k16m1 : Method := { name := "checkLength", desc := "(II)V", sig := { parameters := [.int, .int], returnType := none }, accessFlags := 10, code := some k16c1 }
def k16c2 : Code := { maxStack := 3, maxLocals := 3, code := jdk_65_method_132_code, exceptionTable := #[], attributes := #[] }
def k16m2 : Method := { name := "copyOfRange", desc := "([BII)[B", sig := { parameters := [(.array .byte), .int, .int], returnType := some (.array .byte) }, accessFlags := 9, code := some k16c2 }
def k16c3 : Code := { maxStack := 6, maxLocals := 5, code := jdk_65_method_133_code, exceptionTable := #[], attributes := #[] }
def k16m3 : Method := { name := "copyOfRangeByte", desc := "([BII)[B", sig := { parameters := [(.array .byte), .int, .int], returnType := some (.array .byte) }, accessFlags := 10, code := some k16c3 }
/-- java/util/Arrays -/
def k16 : Class := { plain "java/util/Arrays" (some 0) with
  accessFlags := 49
  interfaces := #[]
  cf := some (fileOf pool16 14 #[.nestMembers #[975, 375, 113, 74]] #[{ accessFlags := 2, nameIndex := 5, descriptorIndex := 6, attributes := #[] }, { accessFlags := 10, nameIndex := 345, descriptorIndex := 346, attributes := #[] }, { accessFlags := 9, nameIndex := 139, descriptorIndex := 342, attributes := #[] }, { accessFlags := 10, nameIndex := 341, descriptorIndex := 342, attributes := #[] }] 49 2 #[] #[{ accessFlags := 26, nameIndex := 715, descriptorIndex := 716, attributes := #[] }, { accessFlags := 26, nameIndex := 719, descriptorIndex := 716, attributes := #[] }, { accessFlags := 4120, nameIndex := 445, descriptorIndex := 117, attributes := #[] }])
  fields := #[{ name := "MIN_ARRAY_SORT_GRAN", type := .int, accessFlags := 26, slot := 0, constantValue := 0 }, { name := "INSERTIONSORT_THRESHOLD", type := .int, accessFlags := 26, slot := 1, constantValue := 0 }, { name := "$assertionsDisabled", type := .boolean, accessFlags := 4120, slot := 2, constantValue := 0 }]
  methods := #[k16m0, k16m1, k16m2, k16m3]
  instanceTypes := #[]
  staticTypes := #[.int, .int, .boolean]
  resolved := Array.replicate 1029 none
  statics := none }

def pool17 : Array CpInfo := pool [(1, .class_ 2), (0, u "java/lang/Math"), (1, .class_ 6), (1, u "java/lang/Object"), (0, u "<init>"), (0, u "()V"), (89, .class_ 100), (1, u "java/lang/Math$RandomNumberGeneratorHolder"), (71, u "negativeZeroFloatBits"), (0, u "J"), (2, u "negativeZeroDoubleBits"), (24, u "min"), (43, u "$assertionsDisabled"), (0, u "Z"), (88, u "(II)I"), (2, u "twoToTheDoubleScaleDown"), (0, u "D"), (4, u "twoToTheDoubleScaleUp"), (9, u "E"), (3, u "PI"), (2, u "TAU"), (2, u "DEGREES_TO_RADIANS"), (0, u "RADIANS_TO_DEGREES")] 94

def k17m0 : Method := { name := "<init>", desc := "()V", sig := { parameters := [], returnType := none }, accessFlags := 2, code := none }
def k17c1 : Code := { maxStack := 2, maxLocals := 2, code := jdk_29_method_69_code, exceptionTable := #[], attributes := #[] }
def k17m1 : Method := { name := "min", desc := "(II)I", sig := { parameters := [.int, .int], returnType := some .int }, accessFlags := 9, code := some k17c1 }
/-- java/lang/Math -/
def k17 : Class := { plain "java/lang/Math" (some 0) with
  accessFlags := 49
  interfaces := #[]
  cf := some (fileOf pool17 1 #[.nestMembers #[98]] #[{ accessFlags := 2, nameIndex := 7, descriptorIndex := 8, attributes := #[] }, { accessFlags := 9, nameIndex := 201, descriptorIndex := 335, attributes := #[] }] 49 4 #[] #[{ accessFlags := 25, nameIndex := 354, descriptorIndex := 339, attributes := #[] }, { accessFlags := 25, nameIndex := 358, descriptorIndex := 339, attributes := #[] }, { accessFlags := 25, nameIndex := 361, descriptorIndex := 339, attributes := #[] }, { accessFlags := 26, nameIndex := 364, descriptorIndex := 339, attributes := #[] }, { accessFlags := 26, nameIndex := 365, descriptorIndex := 339, attributes := #[] }, { accessFlags := 26, nameIndex := 172, descriptorIndex := 173, attributes := #[] }, { accessFlags := 26, nameIndex := 176, descriptorIndex := 173, attributes := #[] }, { accessFlags := 8, nameIndex := 344, descriptorIndex := 339, attributes := #[] }, { accessFlags := 8, nameIndex := 338, descriptorIndex := 339, attributes := #[] }, { accessFlags := 4120, nameIndex := 245, descriptorIndex := 246, attributes := #[] }])
  fields := #[{ name := "E", type := .double, accessFlags := 25, slot := 0, constantValue := 0 }, { name := "PI", type := .double, accessFlags := 25, slot := 1, constantValue := 0 }, { name := "TAU", type := .double, accessFlags := 25, slot := 2, constantValue := 0 }, { name := "DEGREES_TO_RADIANS", type := .double, accessFlags := 26, slot := 3, constantValue := 0 }, { name := "RADIANS_TO_DEGREES", type := .double, accessFlags := 26, slot := 4, constantValue := 0 }, { name := "negativeZeroFloatBits", type := .long, accessFlags := 26, slot := 5, constantValue := 0 }, { name := "negativeZeroDoubleBits", type := .long, accessFlags := 26, slot := 6, constantValue := 0 }, { name := "twoToTheDoubleScaleUp", type := .double, accessFlags := 8, slot := 7, constantValue := 0 }, { name := "twoToTheDoubleScaleDown", type := .double, accessFlags := 8, slot := 8, constantValue := 0 }, { name := "$assertionsDisabled", type := .boolean, accessFlags := 4120, slot := 9, constantValue := 0 }]
  methods := #[k17m0, k17m1]
  instanceTypes := #[]
  staticTypes := #[.double, .double, .double, .double, .double, .long, .long, .double, .double, .boolean]
  resolved := Array.replicate 460 none
  statics := none }

def pool18 : Array CpInfo := pool [(1, .class_ 2), (0, u "java/lang/String"), (1, .class_ 6), (1, u "java/lang/Object"), (0, u "<init>"), (0, u "()V"), (0, .methodref 1 10), (0, .nameAndType 11 12), (0, u "checkIndex"), (0, u "(II)V"), (1, .class_ 16), (1, u "java/lang/StringLatin1"), (36, u "([BI)C"), (36, u "canEncode"), (14, u "(C)Z"), (15, u "$assertionsDisabled"), (0, u "Z"), (98, .class_ 223), (1, u "java/lang/StringLatin1$LinesSpliterator"), (28, u "charAt"), (127, u "toBytes"), (1, u "(C)[B"), (7, .class_ 391), (0, u "java/lang/StringLatin1$CharsSpliterator")] 3

def k18m0 : Method := { name := "<init>", desc := "()V", sig := { parameters := [], returnType := none }, accessFlags := 0, code := none }
def k18c1 : Code := { maxStack := 2, maxLocals := 2, code := jdk_43_method_2_code, exceptionTable := #[], attributes := #[] }
def k18m1 : Method := { name := "charAt", desc := "([BI)C", sig := { parameters := [(.array .byte), .int], returnType := some .char }, accessFlags := 9, code := some k18c1 }
def k18c2 : Code := { maxStack := 2, maxLocals := 1, code := jdk_43_method_3_code, exceptionTable := #[], attributes := #[] }
def k18m2 : Method := { name := "canEncode", desc := "(C)Z", sig := { parameters := [.char], returnType := some .boolean }, accessFlags := 9, code := some k18c2 }
def k18c3 : Code := { maxStack := 4, maxLocals := 1, code := jdk_43_method_46_code, exceptionTable := #[], attributes := #[] }
def k18m3 : Method := { name := "toBytes", desc := "(C)[B", sig := { parameters := [.char], returnType := some (.array .byte) }, accessFlags := 9, code := some k18c3 }
/-- java/lang/StringLatin1 -/
def k18 : Class := { plain "java/lang/StringLatin1" (some 0) with
  accessFlags := 48
  interfaces := #[]
  cf := some (fileOf pool18 14 #[.nestMembers #[390, 221]] #[{ accessFlags := 0, nameIndex := 7, descriptorIndex := 8, attributes := #[] }, { accessFlags := 9, nameIndex := 252, descriptorIndex := 53, attributes := #[] }, { accessFlags := 9, nameIndex := 90, descriptorIndex := 105, attributes := #[] }, { accessFlags := 9, nameIndex := 380, descriptorIndex := 382, attributes := #[] }] 48 4 #[] #[{ accessFlags := 4120, nameIndex := 121, descriptorIndex := 122, attributes := #[] }])
  fields := #[{ name := "$assertionsDisabled", type := .boolean, accessFlags := 4120, slot := 0, constantValue := 0 }]
  methods := #[k18m0, k18m1, k18m2, k18m3]
  instanceTypes := #[]
  staticTypes := #[.boolean]
  resolved := Array.replicate 395 none
  statics := none }

def pool19 : Array CpInfo := pool [(2, .class_ 4), (1, u "java/lang/Object"), (0, u "<init>"), (0, u "()V"), (17, .class_ 26), (1, u "jdk/internal/util/Preconditions"), (6, u "checkIndex"), (21, .class_ 56), (0, u "jdk/internal/util/Preconditions$4"), (57, .class_ 115), (0, u "jdk/internal/util/Preconditions$1"), (7, u "SIOOBE_FORMATTER"), (0, u "Ljava/util/function/BiFunction;"), (0, .class_ 126), (0, u "jdk/internal/util/Preconditions$2"), (3, u "AIOOBE_FORMATTER"), (0, .class_ 132), (0, u "jdk/internal/util/Preconditions$3"), (3, u "IOOBE_FORMATTER"), (41, u "(IILjava/util/function/BiFunction;)I")] 15

def k19m0 : Method := { name := "<init>", desc := "()V", sig := { parameters := [], returnType := none }, accessFlags := 1, code := none }
def k19c1 : Code := { maxStack := 3, maxLocals := 3, code := jdk_41_method_11_code, exceptionTable := #[], attributes := #[] }
def k19m1 : Method := { name := "checkIndex", desc := "(IILjava/util/function/BiFunction;)I", sig := { parameters := [.int, .int, (.object "java/util/function/BiFunction")], returnType := some .int }, accessFlags := 9, code := some k19c1 }
/-- jdk/internal/util/Preconditions -/
def k19 : Class := { plain "jdk/internal/util/Preconditions" (some 0) with
  accessFlags := 33
  interfaces := #[]
  cf := some (fileOf pool19 24 #[.nestMembers #[55, 131, 125, 114]] #[{ accessFlags := 1, nameIndex := 5, descriptorIndex := 6, attributes := #[] }, { accessFlags := 9, nameIndex := 33, descriptorIndex := 178, attributes := #[] }] 33 2 #[] #[{ accessFlags := 25, nameIndex := 123, descriptorIndex := 124, attributes := #[] }, { accessFlags := 25, nameIndex := 130, descriptorIndex := 124, attributes := #[] }, { accessFlags := 25, nameIndex := 136, descriptorIndex := 124, attributes := #[] }])
  fields := #[{ name := "SIOOBE_FORMATTER", type := (.object "java/util/function/BiFunction"), accessFlags := 25, slot := 0, constantValue := 0 }, { name := "AIOOBE_FORMATTER", type := (.object "java/util/function/BiFunction"), accessFlags := 25, slot := 1, constantValue := 0 }, { name := "IOOBE_FORMATTER", type := (.object "java/util/function/BiFunction"), accessFlags := 25, slot := 2, constantValue := 0 }]
  methods := #[k19m0, k19m1]
  instanceTypes := #[]
  staticTypes := #[(.object "java/util/function/BiFunction"), (.object "java/util/function/BiFunction"), (.object "java/util/function/BiFunction")]
  resolved := Array.replicate 194 none
  statics := some 2 }

def pool20 : Array CpInfo := pool [(9, u "<init>"), (6, .class_ 18), (1, u "java/lang/Object"), (0, u "()V"), (1, .class_ 23), (1, u "jdk/internal/util/ArraysSupport"), (0, u "LOG2_ARRAY_LONG_INDEX_SCALE"), (0, u "I"), (2, u "U"), (0, u "Ljdk/internal/misc/Unsafe;"), (8, u "BIG_ENDIAN"), (0, u "Z"), (8, u "LOG2_BYTE_BIT_SIZE"), (4, u "LOG2_ARRAY_INT_INDEX_SCALE"), (54, u "JLA"), (0, u "Ljdk/internal/access/JavaLangAccess;"), (11, u "LOG2_ARRAY_BOOLEAN_INDEX_SCALE"), (9, u "LOG2_ARRAY_BYTE_INDEX_SCALE"), (5, u "LOG2_ARRAY_CHAR_INDEX_SCALE"), (5, u "LOG2_ARRAY_SHORT_INDEX_SCALE"), (18, u "LOG2_ARRAY_FLOAT_INDEX_SCALE"), (24, u "LOG2_ARRAY_DOUBLE_INDEX_SCALE"), (89, u "T_BOOLEAN"), (2, u "T_CHAR"), (1, u "T_FLOAT"), (1, u "T_DOUBLE"), (1, u "T_BYTE"), (1, u "T_SHORT"), (1, u "T_INT"), (1, u "T_LONG"), (1, u "SOFT_MAX_ARRAY_LENGTH")] 83

def k20m0 : Method := { name := "<init>", desc := "()V", sig := { parameters := [], returnType := none }, accessFlags := 2, code := none }
/-- jdk/internal/util/ArraysSupport -/
def k20 : Class := { plain "jdk/internal/util/ArraysSupport" (some 0) with
  accessFlags := 33
  interfaces := #[]
  cf := some (fileOf pool20 21 #[] #[{ accessFlags := 2, nameIndex := 9, descriptorIndex := 19, attributes := #[] }] 33 16 #[] #[{ accessFlags := 24, nameIndex := 28, descriptorIndex := 29, attributes := #[] }, { accessFlags := 26, nameIndex := 38, descriptorIndex := 39, attributes := #[] }, { accessFlags := 25, nameIndex := 121, descriptorIndex := 25, attributes := #[] }, { accessFlags := 25, nameIndex := 131, descriptorIndex := 25, attributes := #[] }, { accessFlags := 25, nameIndex := 137, descriptorIndex := 25, attributes := #[] }, { accessFlags := 25, nameIndex := 143, descriptorIndex := 25, attributes := #[] }, { accessFlags := 25, nameIndex := 53, descriptorIndex := 25, attributes := #[] }, { accessFlags := 25, nameIndex := 24, descriptorIndex := 25, attributes := #[] }, { accessFlags := 25, nameIndex := 162, descriptorIndex := 25, attributes := #[] }, { accessFlags := 25, nameIndex := 187, descriptorIndex := 25, attributes := #[] }, { accessFlags := 26, nameIndex := 48, descriptorIndex := 25, attributes := #[] }, { accessFlags := 25, nameIndex := 277, descriptorIndex := 25, attributes := #[] }, { accessFlags := 25, nameIndex := 280, descriptorIndex := 25, attributes := #[] }, { accessFlags := 25, nameIndex := 282, descriptorIndex := 25, attributes := #[] }, { accessFlags := 25, nameIndex := 284, descriptorIndex := 25, attributes := #[] }, { accessFlags := 25, nameIndex := 286, descriptorIndex := 25, attributes := #[] }, { accessFlags := 25, nameIndex := 288, descriptorIndex := 25, attributes := #[] }, { accessFlags := 25, nameIndex := 290, descriptorIndex := 25, attributes := #[] }, { accessFlags := 25, nameIndex := 292, descriptorIndex := 25, attributes := #[] }, { accessFlags := 26, nameIndex := 108, descriptorIndex := 109, attributes := #[] }, { accessFlags := 25, nameIndex := 294, descriptorIndex := 25, attributes := #[] }])
  fields := #[{ name := "U", type := (.object "jdk/internal/misc/Unsafe"), accessFlags := 24, slot := 0, constantValue := 0 }, { name := "BIG_ENDIAN", type := .boolean, accessFlags := 26, slot := 1, constantValue := 0 }, { name := "LOG2_ARRAY_BOOLEAN_INDEX_SCALE", type := .int, accessFlags := 25, slot := 2, constantValue := 0 }, { name := "LOG2_ARRAY_BYTE_INDEX_SCALE", type := .int, accessFlags := 25, slot := 3, constantValue := 0 }, { name := "LOG2_ARRAY_CHAR_INDEX_SCALE", type := .int, accessFlags := 25, slot := 4, constantValue := 0 }, { name := "LOG2_ARRAY_SHORT_INDEX_SCALE", type := .int, accessFlags := 25, slot := 5, constantValue := 0 }, { name := "LOG2_ARRAY_INT_INDEX_SCALE", type := .int, accessFlags := 25, slot := 6, constantValue := 0 }, { name := "LOG2_ARRAY_LONG_INDEX_SCALE", type := .int, accessFlags := 25, slot := 7, constantValue := 0 }, { name := "LOG2_ARRAY_FLOAT_INDEX_SCALE", type := .int, accessFlags := 25, slot := 8, constantValue := 0 }, { name := "LOG2_ARRAY_DOUBLE_INDEX_SCALE", type := .int, accessFlags := 25, slot := 9, constantValue := 0 }, { name := "LOG2_BYTE_BIT_SIZE", type := .int, accessFlags := 26, slot := 10, constantValue := 0 }, { name := "T_BOOLEAN", type := .int, accessFlags := 25, slot := 11, constantValue := 0 }, { name := "T_CHAR", type := .int, accessFlags := 25, slot := 12, constantValue := 0 }, { name := "T_FLOAT", type := .int, accessFlags := 25, slot := 13, constantValue := 0 }, { name := "T_DOUBLE", type := .int, accessFlags := 25, slot := 14, constantValue := 0 }, { name := "T_BYTE", type := .int, accessFlags := 25, slot := 15, constantValue := 0 }, { name := "T_SHORT", type := .int, accessFlags := 25, slot := 16, constantValue := 0 }, { name := "T_INT", type := .int, accessFlags := 25, slot := 17, constantValue := 0 }, { name := "T_LONG", type := .int, accessFlags := 25, slot := 18, constantValue := 0 }, { name := "JLA", type := (.object "jdk/internal/access/JavaLangAccess"), accessFlags := 26, slot := 19, constantValue := 0 }, { name := "SOFT_MAX_ARRAY_LENGTH", type := .int, accessFlags := 25, slot := 20, constantValue := 0 }]
  methods := #[k20m0]
  instanceTypes := #[]
  staticTypes := #[(.object "jdk/internal/misc/Unsafe"), .boolean, .int, .int, .int, .int, .int, .int, .int, .int, .int, .int, .int, .int, .int, .int, .int, .int, .int, (.object "jdk/internal/access/JavaLangAccess"), .int]
  resolved := Array.replicate 378 none
  statics := none }

def pool21 : Array CpInfo := pool [(2, .class_ 4), (1, u "java/lang/Object"), (0, u "<init>"), (0, u "()V"), (12, .class_ 20), (0, u "java/util/Collections"), (63, u "r"), (0, u "Ljava/util/Random;"), (80, .class_ 167), (0, u "java/util/Collections$UnmodifiableCollection"), (6, .class_ 175), (0, u "java/util/Collections$UnmodifiableSequencedCollection"), (6, .class_ 183), (0, u "java/util/Collections$UnmodifiableSet"), (6, .class_ 191), (0, u "java/util/Collections$UnmodifiableSequencedSet"), (6, .class_ 199), (0, u "java/util/Collections$UnmodifiableSortedSet"), (6, .class_ 207), (0, u "java/util/Collections$UnmodifiableNavigableSet"), (4, .class_ 213), (0, u "java/util/Collections$UnmodifiableList"), (1, .class_ 216), (0, u "java/util/Collections$UnmodifiableRandomAccessList"), (6, .class_ 224), (0, u "java/util/Collections$UnmodifiableMap"), (6, .class_ 232), (0, u "java/util/Collections$UnmodifiableSequencedMap"), (4, .class_ 238), (0, u "java/util/Collections$UnmodifiableSortedMap"), (6, .class_ 246), (0, u "java/util/Collections$UnmodifiableNavigableMap"), (3, .class_ 251), (0, u "java/util/Collections$SynchronizedCollection"), (4, .class_ 257), (0, u "java/util/Collections$SynchronizedSet"), (4, .class_ 263), (0, u "java/util/Collections$SynchronizedSortedSet"), (1, .class_ 266), (0, u "java/util/Collections$SynchronizedNavigableSet"), (1, .class_ 269), (0, u "java/util/Collections$SynchronizedRandomAccessList"), (1, .class_ 272), (0, u "java/util/Collections$SynchronizedList"), (5, .class_ 279), (0, u "java/util/Collections$SynchronizedMap"), (1, .class_ 282), (0, u "java/util/Collections$SynchronizedSortedMap"), (1, .class_ 285), (0, u "java/util/Collections$SynchronizedNavigableMap"), (1, .class_ 288), (0, u "java/util/Collections$CheckedCollection"), (11, .class_ 301), (0, u "java/util/Collections$CheckedQueue"), (3, .class_ 306), (0, u "java/util/Collections$CheckedSet"), (3, .class_ 311), (0, u "java/util/Collections$CheckedSortedSet"), (3, .class_ 316), (0, u "java/util/Collections$CheckedNavigableSet"), (3, .class_ 321), (0, u "java/util/Collections$CheckedRandomAccessList"), (3, .class_ 326), (0, u "java/util/Collections$CheckedList"), (1, .class_ 329), (0, u "java/util/Collections$CheckedMap"), (3, .class_ 334), (0, u "java/util/Collections$CheckedSortedMap"), (3, .class_ 339), (0, u "java/util/Collections$CheckedNavigableMap"), (4, .class_ 346), (1, u "java/util/Collections$EmptyIterator"), (3, .class_ 352), (1, u "java/util/Collections$EmptyListIterator"), (2, .class_ 357), (1, u "java/util/Collections$EmptyEnumeration"), (4, u "EMPTY_SET"), (0, u "Ljava/util/Set;"), (6, u "EMPTY_LIST"), (0, u "Ljava/util/List;"), (2, u "EMPTY_MAP"), (0, u "Ljava/util/Map;"), (4, .class_ 381), (0, u "java/util/Collections$SingletonSet"), (2, .class_ 385), (0, u "java/util/Collections$1"), (1, .class_ 388), (0, u "java/util/Collections$2"), (1, .class_ 391), (0, u "java/util/Collections$SingletonList"), (1, .class_ 394), (0, u "java/util/Collections$SingletonMap"), (22, .class_ 418), (0, u "java/util/Collections$CopiesList"), (4, .class_ 425), (1, u "java/util/Collections$ReverseComparator"), (8, .class_ 435), (0, u "java/util/Collections$ReverseComparator2"), (6, .class_ 443), (0, u "java/util/Collections$3"), (25, .class_ 470), (0, u "java/util/Collections$SetFromMap"), (2, .class_ 474), (0, u "java/util/Collections$SequencedSetFromMap"), (3, .class_ 479), (0, u "java/util/Collections$AsLIFOQueue"), (11, .class_ 492), (0, u "java/util/Collections$EmptySet"), (1, .class_ 495), (0, u "java/util/Collections$EmptyList"), (1, .class_ 498), (0, u "java/util/Collections$EmptyMap"), (1, u "BINARYSEARCH_THRESHOLD"), (0, u "I"), (2, u "REVERSE_THRESHOLD"), (1, u "SHUFFLE_THRESHOLD"), (1, u "FILL_THRESHOLD"), (1, u "ROTATE_THRESHOLD"), (1, u "COPY_THRESHOLD"), (1, u "REPLACEALL_THRESHOLD"), (1, u "INDEXOFSUBLIST_THRESHOLD"), (333, .class_ 851), (0, u "java/util/Collections$CheckedMap$CheckedEntrySet"), (0, .class_ 853), (0, u "java/util/Collections$CheckedMap$CheckedEntrySet$CheckedEntry"), (0, .class_ 855), (0, u "java/util/Collections$CheckedMap$CheckedEntrySet$1"), (0, .class_ 857), (0, u "java/util/Collections$CheckedList$1"), (0, .class_ 859), (0, u "java/util/Collections$CheckedCollection$1"), (0, .class_ 861), (0, u "java/util/Collections$UnmodifiableNavigableMap$EmptyNavigableMap"), (0, .class_ 863), (0, u "java/util/Collections$UnmodifiableMap$UnmodifiableEntrySet"), (0, .class_ 865), (0, u "java/util/Collections$UnmodifiableMap$UnmodifiableEntrySet$UnmodifiableEntry"), (0, .class_ 867), (0, u "java/util/Collections$UnmodifiableMap$UnmodifiableEntrySet$UnmodifiableEntrySetSpliterator"), (0, .class_ 869), (0, u "java/util/Collections$UnmodifiableMap$UnmodifiableEntrySet$1"), (0, .class_ 871), (0, u "java/util/Collections$UnmodifiableList$1"), (0, .class_ 873), (0, u "java/util/Collections$UnmodifiableNavigableSet$EmptyNavigableSet"), (0, .class_ 875), (0, u "java/util/Collections$UnmodifiableCollection$1")] 57

def k21m0 : Method := { name := "<init>", desc := "()V", sig := { parameters := [], returnType := none }, accessFlags := 2, code := none }
/-- java/util/Collections -/
def k21 : Class := { plain "java/util/Collections" (some 0) with
  accessFlags := 33
  interfaces := #[]
  cf := some (fileOf pool21 19 #[.nestMembers #[478, 473, 469, 434, 423, 417, 393, 390, 380, 497, 494, 491, 355, 350, 344, 338, 333, 328, 850, 852, 854, 320, 325, 856, 315, 310, 305, 300, 287, 858, 284, 281, 278, 268, 271, 265, 262, 256, 250, 245, 860, 237, 231, 223, 862, 864, 866, 868, 215, 212, 870, 206, 872, 198, 190, 182, 174, 166, 874, 442, 387, 384]] #[{ accessFlags := 2, nameIndex := 5, descriptorIndex := 6, attributes := #[] }] 33 2 #[] #[{ accessFlags := 26, nameIndex := 500, descriptorIndex := 501, attributes := #[] }, { accessFlags := 26, nameIndex := 504, descriptorIndex := 501, attributes := #[] }, { accessFlags := 26, nameIndex := 506, descriptorIndex := 501, attributes := #[] }, { accessFlags := 26, nameIndex := 508, descriptorIndex := 501, attributes := #[] }, { accessFlags := 26, nameIndex := 510, descriptorIndex := 501, attributes := #[] }, { accessFlags := 26, nameIndex := 512, descriptorIndex := 501, attributes := #[] }, { accessFlags := 26, nameIndex := 514, descriptorIndex := 501, attributes := #[] }, { accessFlags := 26, nameIndex := 516, descriptorIndex := 501, attributes := #[] }, { accessFlags := 10, nameIndex := 84, descriptorIndex := 85, attributes := #[] }, { accessFlags := 25, nameIndex := 362, descriptorIndex := 363, attributes := #[] }, { accessFlags := 25, nameIndex := 370, descriptorIndex := 371, attributes := #[] }, { accessFlags := 25, nameIndex := 374, descriptorIndex := 375, attributes := #[] }])
  fields := #[{ name := "BINARYSEARCH_THRESHOLD", type := .int, accessFlags := 26, slot := 0, constantValue := 0 }, { name := "REVERSE_THRESHOLD", type := .int, accessFlags := 26, slot := 1, constantValue := 0 }, { name := "SHUFFLE_THRESHOLD", type := .int, accessFlags := 26, slot := 2, constantValue := 0 }, { name := "FILL_THRESHOLD", type := .int, accessFlags := 26, slot := 3, constantValue := 0 }, { name := "ROTATE_THRESHOLD", type := .int, accessFlags := 26, slot := 4, constantValue := 0 }, { name := "COPY_THRESHOLD", type := .int, accessFlags := 26, slot := 5, constantValue := 0 }, { name := "REPLACEALL_THRESHOLD", type := .int, accessFlags := 26, slot := 6, constantValue := 0 }, { name := "INDEXOFSUBLIST_THRESHOLD", type := .int, accessFlags := 26, slot := 7, constantValue := 0 }, { name := "r", type := (.object "java/util/Random"), accessFlags := 10, slot := 8, constantValue := 0 }, { name := "EMPTY_SET", type := (.object "java/util/Set"), accessFlags := 25, slot := 9, constantValue := 0 }, { name := "EMPTY_LIST", type := (.object "java/util/List"), accessFlags := 25, slot := 10, constantValue := 0 }, { name := "EMPTY_MAP", type := (.object "java/util/Map"), accessFlags := 25, slot := 11, constantValue := 0 }]
  methods := #[k21m0]
  instanceTypes := #[]
  staticTypes := #[.int, .int, .int, .int, .int, .int, .int, .int, (.object "java/util/Random"), (.object "java/util/Set"), (.object "java/util/List"), (.object "java/util/Map")]
  resolved := Array.replicate 933 none
  statics := some 3 }

def pool22 : Array CpInfo := pool [(8, .class_ 10), (1, u "java/lang/Iterable"), (24, .class_ 36), (0, u "java/lang/Object")] 25

/-- java/lang/Iterable -/
def k22 : Class := { plain "java/lang/Iterable" (some 0) with
  accessFlags := 1537
  interfaces := #[]
  cf := some (fileOf pool22 8 #[] #[] 1537 35 #[] #[])
  fields := #[]
  methods := #[]
  instanceTypes := #[]
  staticTypes := #[]
  resolved := Array.replicate 62 none
  statics := none }

def pool23 : Array CpInfo := pool [(10, .class_ 12), (1, u "java/util/Collection"), (47, .class_ 61), (0, u "java/lang/Object"), (0, .class_ 63), (0, u "java/lang/Iterable")] 51

/-- java/util/Collection -/
def k23 : Class := { plain "java/util/Collection" (some 0) with
  accessFlags := 1537
  interfaces := #[22]
  cf := some (fileOf pool23 10 #[] #[] 1537 60 #[62] #[])
  fields := #[]
  methods := #[]
  instanceTypes := #[]
  staticTypes := #[]
  resolved := Array.replicate 115 none
  statics := none }

def pool24 : Array CpInfo := pool [(2, .class_ 4), (1, u "java/lang/Object"), (0, u "<init>"), (0, u "()V"), (1, .class_ 10), (1, u "java/util/AbstractCollection"), (66, .class_ 78), (0, u "java/util/Collection")] 81

def k24m0 : Method := { name := "<init>", desc := "()V", sig := { parameters := [], returnType := none }, accessFlags := 4, code := none }
/-- java/util/AbstractCollection -/
def k24 : Class := { plain "java/util/AbstractCollection" (some 0) with
  accessFlags := 1057
  interfaces := #[23]
  cf := some (fileOf pool24 8 #[] #[{ accessFlags := 4, nameIndex := 5, descriptorIndex := 6, attributes := #[] }] 1057 2 #[77] #[])
  fields := #[]
  methods := #[k24m0]
  instanceTypes := #[]
  staticTypes := #[]
  resolved := Array.replicate 160 none
  statics := none }

def pool25 : Array CpInfo := pool [(8, .class_ 10), (1, u "java/util/SequencedCollection"), (15, .class_ 27), (0, u "java/lang/Object"), (0, .class_ 29), (0, u "java/util/Collection")] 27

/-- java/util/SequencedCollection -/
def k25 : Class := { plain "java/util/SequencedCollection" (some 0) with
  accessFlags := 1537
  interfaces := #[23]
  cf := some (fileOf pool25 8 #[] #[] 1537 26 #[28] #[])
  fields := #[]
  methods := #[]
  instanceTypes := #[]
  staticTypes := #[]
  resolved := Array.replicate 57 none
  statics := none }

def pool26 : Array CpInfo := pool [(8, .class_ 10), (1, u "java/util/List"), (92, .class_ 104), (0, u "java/lang/Object"), (15, .class_ 121), (0, u "java/util/SequencedCollection")] 129

/-- java/util/List -/
def k26 : Class := { plain "java/util/List" (some 0) with
  accessFlags := 1537
  interfaces := #[25]
  cf := some (fileOf pool26 8 #[] #[] 1537 103 #[120] #[])
  fields := #[]
  methods := #[]
  instanceTypes := #[]
  staticTypes := #[]
  resolved := Array.replicate 251 none
  statics := none }

def pool27 : Array CpInfo := pool [(2, .class_ 4), (1, u "java/util/AbstractCollection"), (0, u "<init>"), (0, u "()V"), (1, .class_ 10), (1, u "java/util/AbstractList"), (0, u "modCount"), (0, u "I"), (64, .class_ 78), (0, u "java/util/AbstractList$Itr"), (3, .class_ 83), (0, u "java/util/AbstractList$ListItr"), (9, .class_ 94), (0, u "java/util/AbstractList$RandomAccessSubList"), (3, .class_ 99), (0, u "java/util/AbstractList$SubList"), (33, .class_ 134), (0, u "java/util/List"), (73, .class_ 209), (0, u "java/util/AbstractList$SubList$1"), (0, .class_ 211), (0, u "java/util/AbstractList$RandomAccessSpliterator")] 6

def k27m0 : Method := { name := "<init>", desc := "()V", sig := { parameters := [], returnType := none }, accessFlags := 4, code := none }
/-- java/util/AbstractList -/
def k27 : Class := { plain "java/util/AbstractList" (some 24) with
  accessFlags := 1057
  interfaces := #[26]
  cf := some (fileOf pool27 8 #[.nestMembers #[93, 98, 208, 210, 82, 77]] #[{ accessFlags := 4, nameIndex := 5, descriptorIndex := 6, attributes := #[] }] 1057 2 #[133] #[{ accessFlags := 132, nameIndex := 11, descriptorIndex := 12, attributes := #[] }])
  fields := #[{ name := "modCount", type := .int, accessFlags := 132, slot := 0, constantValue := 0 }]
  methods := #[k27m0]
  instanceTypes := #[.int]
  staticTypes := #[]
  resolved := Array.replicate 218 none
  statics := none }

def pool28 : Array CpInfo := pool [(1, .class_ 2), (0, u "java/util/RandomAccess"), (0, .class_ 4), (0, u "java/lang/Object")] 2

/-- java/util/RandomAccess -/
def k28 : Class := { plain "java/util/RandomAccess" (some 0) with
  accessFlags := 1537
  interfaces := #[]
  cf := some (fileOf pool28 1 #[] #[] 1537 3 #[] #[])
  fields := #[]
  methods := #[]
  instanceTypes := #[]
  staticTypes := #[]
  resolved := Array.replicate 7 none
  statics := none }

def pool29 : Array CpInfo := pool [(2, .class_ 4), (1, u "java/util/AbstractList"), (0, u "<init>"), (0, u "()V"), (1, .class_ 10), (1, u "java/util/Collections"), (54, .class_ 66), (0, u "java/util/Collections$EmptyList"), (0, .class_ 68), (0, u "java/util/RandomAccess"), (0, .class_ 70), (0, u "java/io/Serializable"), (0, u "serialVersionUID"), (0, u "J")] 77

def k29m0 : Method := { name := "<init>", desc := "()V", sig := { parameters := [], returnType := none }, accessFlags := 2, code := none }
/-- java/util/Collections$EmptyList -/
def k29 : Class := { plain "java/util/Collections$EmptyList" (some 27) with
  accessFlags := 32
  interfaces := #[28, 2]
  cf := some (fileOf pool29 65 #[.nestHost 8] #[{ accessFlags := 2, nameIndex := 5, descriptorIndex := 6, attributes := #[] }] 32 2 #[67, 69] #[{ accessFlags := 26, nameIndex := 71, descriptorIndex := 72, attributes := #[] }])
  fields := #[{ name := "serialVersionUID", type := .long, accessFlags := 26, slot := 0, constantValue := 0 }]
  methods := #[k29m0]
  instanceTypes := #[.int]
  staticTypes := #[.long]
  resolved := Array.replicate 150 none
  statics := none }

def pool30 : Array CpInfo := pool [(2, .class_ 4), (1, u "java/lang/StackTraceElement"), (0, u "<init>"), (2, .class_ 10), (1, u "java/lang/Object"), (0, u "()V"), (2, u "format"), (0, u "B"), (2, u "classLoaderName"), (0, u "Ljava/lang/String;"), (2, u "moduleName"), (2, u "moduleVersion"), (12, u "declaringClass"), (4, u "methodName"), (2, u "fileName"), (2, u "lineNumber"), (0, u "I"), (65, u "declaringClassObject"), (0, u "Ljava/lang/Class;"), (33, .class_ 153), (1, u "java/lang/StackTraceElement$HashedModules"), (17, .class_ 172), (0, u "java/io/Serializable"), (0, u "NATIVE_METHOD"), (1, u "UNKNOWN_SOURCE"), (2, u "BUILTIN_CLASS_LOADER"), (1, u "JDK_NON_UPGRADEABLE_MODULE"), (1, u "serialVersionUID"), (0, u "J")] 51

def k30m0 : Method := { name := "<init>", desc := "()V", sig := { parameters := [], returnType := none }, accessFlags := 2, code := none }
/-- java/lang/StackTraceElement -/
def k30 : Class := { plain "java/lang/StackTraceElement" (some 0) with
  accessFlags := 49
  interfaces := #[2]
  cf := some (fileOf pool30 2 #[.nestMembers #[151]] #[{ accessFlags := 2, nameIndex := 5, descriptorIndex := 11, attributes := #[] }] 49 8 #[171] #[{ accessFlags := 26, nameIndex := 173, descriptorIndex := 19, attributes := #[] }, { accessFlags := 26, nameIndex := 175, descriptorIndex := 19, attributes := #[] }, { accessFlags := 130, nameIndex := 116, descriptorIndex := 117, attributes := #[] }, { accessFlags := 2, nameIndex := 18, descriptorIndex := 19, attributes := #[] }, { accessFlags := 2, nameIndex := 22, descriptorIndex := 19, attributes := #[] }, { accessFlags := 2, nameIndex := 25, descriptorIndex := 19, attributes := #[] }, { accessFlags := 2, nameIndex := 38, descriptorIndex := 19, attributes := #[] }, { accessFlags := 2, nameIndex := 43, descriptorIndex := 19, attributes := #[] }, { accessFlags := 2, nameIndex := 46, descriptorIndex := 19, attributes := #[] }, { accessFlags := 2, nameIndex := 49, descriptorIndex := 50, attributes := #[] }, { accessFlags := 2, nameIndex := 14, descriptorIndex := 15, attributes := #[] }, { accessFlags := 26, nameIndex := 178, descriptorIndex := 15, attributes := #[] }, { accessFlags := 26, nameIndex := 180, descriptorIndex := 15, attributes := #[] }, { accessFlags := 26, nameIndex := 182, descriptorIndex := 183, attributes := #[] }])
  fields := #[{ name := "NATIVE_METHOD", type := (.object "java/lang/String"), accessFlags := 26, slot := 0, constantValue := 0 }, { name := "UNKNOWN_SOURCE", type := (.object "java/lang/String"), accessFlags := 26, slot := 1, constantValue := 0 }, { name := "declaringClassObject", type := (.object "java/lang/Class"), accessFlags := 130, slot := 0, constantValue := 0 }, { name := "classLoaderName", type := (.object "java/lang/String"), accessFlags := 2, slot := 1, constantValue := 0 }, { name := "moduleName", type := (.object "java/lang/String"), accessFlags := 2, slot := 2, constantValue := 0 }, { name := "moduleVersion", type := (.object "java/lang/String"), accessFlags := 2, slot := 3, constantValue := 0 }, { name := "declaringClass", type := (.object "java/lang/String"), accessFlags := 2, slot := 4, constantValue := 0 }, { name := "methodName", type := (.object "java/lang/String"), accessFlags := 2, slot := 5, constantValue := 0 }, { name := "fileName", type := (.object "java/lang/String"), accessFlags := 2, slot := 6, constantValue := 0 }, { name := "lineNumber", type := .int, accessFlags := 2, slot := 7, constantValue := 0 }, { name := "format", type := .byte, accessFlags := 2, slot := 8, constantValue := 0 }, { name := "BUILTIN_CLASS_LOADER", type := .byte, accessFlags := 26, slot := 2, constantValue := 0 }, { name := "JDK_NON_UPGRADEABLE_MODULE", type := .byte, accessFlags := 26, slot := 3, constantValue := 0 }, { name := "serialVersionUID", type := .long, accessFlags := 26, slot := 4, constantValue := 0 }]
  methods := #[k30m0]
  instanceTypes := #[(.object "java/lang/Class"), (.object "java/lang/String"), (.object "java/lang/String"), (.object "java/lang/String"), (.object "java/lang/String"), (.object "java/lang/String"), (.object "java/lang/String"), .int, .byte]
  staticTypes := #[(.object "java/lang/String"), (.object "java/lang/String"), .byte, .byte, .long]
  resolved := Array.replicate 235 none
  statics := none }

def pool31 : Array CpInfo := pool [(1, u "java/lang/Cloneable"), (0, .class_ 1), (0, u "java/lang/Object"), (0, .class_ 3)] 3

/-- java/lang/Cloneable -/
def k31 : Class := { plain "java/lang/Cloneable" (some 0) with
  accessFlags := 1537
  interfaces := #[]
  cf := some (fileOf pool31 2 #[] #[] 1537 4 #[] #[])
  fields := #[]
  methods := #[]
  instanceTypes := #[]
  staticTypes := #[]
  resolved := Array.replicate 8 none
  statics := none }

/-- the primitive byte -/
def k32 : Class := { plain "byte" none with kind := .primitive 'B', accessFlags := 0x411 }
/-- [B -/
def k33 : Class := { plain "[B" (some 0) with kind := .array 32 .byte, interfaces := #[31, 2], accessFlags := 1041 }

/-- the primitive char -/
def k34 : Class := { plain "char" none with kind := .primitive 'C', accessFlags := 0x411 }
/-- [C -/
def k35 : Class := { plain "[C" (some 0) with kind := .array 34 .char, interfaces := #[31, 2], accessFlags := 1041 }

/-- [Ljava/lang/Object; -/
def k36 : Class := { plain "[Ljava/lang/Object;" (some 0) with kind := .array 0 (.object "java/lang/Object"), interfaces := #[31, 2], accessFlags := 1041 }

/-- [Ljava/lang/StackTraceElement; -/
def k37 : Class := { plain "[Ljava/lang/StackTraceElement;" (some 0) with kind := .array 30 (.object "java/lang/StackTraceElement"), interfaces := #[31, 2], accessFlags := 1041 }

/-- [Ljava/lang/Throwable; -/
def k38 : Class := { plain "[Ljava/lang/Throwable;" (some 0) with kind := .array 9 (.object "java/lang/Throwable"), interfaces := #[31, 2], accessFlags := 1041 }

def heap : Heap := #[{ cls := 7, slots := #[.long 0, .int 1, .null, .int 0, .null, .int 0, .int 0], vm := .statics 7 },
  { cls := 9, slots := #[.long 0, .ref 4, .ref 5, .null, .null, .null, .null, .ref 6, .int 1], vm := .statics 9 },
  { cls := 19, slots := #[.null, .null, .null], vm := .statics 19 },
  { cls := 21, slots := #[.int 0, .int 0, .int 0, .int 0, .int 0, .int 0, .int 0, .int 0, .null, .null, .ref 5, .null], vm := .statics 21 },
  { cls := 37, slots := #[], vm := .none },
  { cls := 29, slots := #[.int 0], vm := .none },
  { cls := 38, slots := #[], vm := .none }]
def classes : Array Class := #[k0, k1, k2, k3, k4, k5, k6, k7, k8, k9, k10, k11, k12, k13, k14, k15, k16, k17, k18, k19, k20, k21, k22, k23, k24, k25, k26, k27, k28, k29, k30, k31, k32, k33, k34, k35, k36, k37, k38]
def interned : List (Array UInt16 × Addr) := []
def slotsUsed : Nat := 32
def theMethod : MethodId := ⟨1, 1⟩
def args0 : Array Value := #[.int 5, .int 6, .int 1]
def aboutOver (below : List Frame) : State where
  vm := { classes := classes, interned := interned.toArray }
  heap := heap
  slotsUsed := slotsUsed
  threads := #[{ frames := .invoking theMethod args0 :: below }]
def below0 : List Frame := [.native { method := ⟨0, 0⟩, args := #[] }]
def about1 : State := aboutOver below0
def p0 : Program := .bare "" "" ""
def e0 : Env := launch0.env 0 0 0
theorem w_frames : about1.frames = Frame.invoking theMethod args0 :: below0 := rfl
set_option maxRecDepth 65536 in
theorem w_args : argsFit about1.vm theMethod args0 = true := by decide +kernel
set_option maxRecDepth 65536 in
theorem w_heap : heapFits about1 = true := by decide +kernel
set_option maxRecDepth 65536 in
theorem w_runnable : about1.curStatus? = some .runnable := by decide +kernel
set_option maxRecDepth 65536 in
theorem w_alone : about1.alone = true := by decide +kernel
set_option maxRecDepth 65536 in
theorem w_named : about1.methodNamed? x = some theMethod := by decide +kernel
set_option maxRecDepth 65536 in
theorem w_hears : about1.hears theMethod below0 = true := by decide +kernel
set_option maxRecDepth 65536 in
theorem w_ripe : about1.ripe theMethod args0 below0 = true := by decide +kernel
theorem w_running : about1.status = .running := rfl
set_option maxRecDepth 65536 in
theorem w_room : about1.hasRoom e0.platform room_1 = true :=
  launch0.hasRoom_least _ room_1 (by decide +kernel) (by decide +kernel) (by decide +kernel) (by decide +kernel) (by decide +kernel) (by decide +kernel)
theorem allAtoms_all (ts : List Jvm.Cond) (a : Array Jvm.Value) (st : Jvm.State) : (allAtoms ts).before a st = ts.all (fun c => c.before a st) := by
  induction ts with
  | nil => rfl
  | cons c t ih =>
    show (Jvm.Cond.and c (allAtoms t)).before a st = _
    rw [Jvm.Cond.before_and, ih, List.all_cons]
def words1 : List Jvm.Cond := Jvm.Cond.code x code maxLocals ret :: tables_1
/-- a 'code' word, met by the world's own term for the bytes: nothing is compared byte by byte -/
theorem code_word {y : MethodName} {bytes : ByteArray} {mx : Nat} {rt : Option FieldType} {a : Array Value} {s : State} {m : MethodId} {meth : Method} {c : Code} (h1 : s.methodNamed? y = some m) (h2 : s.vm.method? m = some meth) (h3 : meth.code = some c) (h4 : c.code = bytes)
    (h5 : (c.maxLocals == mx && c.exceptionTable.isEmpty && decide (c.maxStack ≤ mostOperands) && decide (meth.sig.returnType = rt) && !meth.locks && decide (parseMethodDescriptor y.desc = some meth.sig)) = true) : (Jvm.Cond.code y bytes mx rt).before a s = true := by
  simp only [Bool.and_eq_true, beq_iff_eq, Bool.not_eq_true', decide_eq_true_eq] at h5
  obtain ⟨⟨⟨⟨⟨g1, g2⟩, g3⟩, g4⟩, g5⟩, g6⟩ := h5
  simp [Cond.before, Cond.holds, Cond.value, h1, h2, h3, h4, g1, g2, g3, g4, g5, g6]
def isCode : Jvm.Cond → Bool
  | .code _ _ _ _ => true
  | _ => false
theorem all_split {L : List Jvm.Cond} {P : Jvm.Cond → Bool} (h1 : L.all (fun c => isCode c || P c) = true) (h2 : ∀ c ∈ L.filter isCode, P c = true) : L.all P = true := by
  refine List.all_eq_true.mpr fun c hc => ?_
  have h := List.all_eq_true.mp h1 c hc
  rcases Bool.eq_false_or_eq_true (isCode c) with hi | hi
  · exact h2 c (List.mem_filter.mpr ⟨hc, hi⟩)
  · simpa [hi] using h
set_option maxRecDepth 65536 in
theorem w_c0 : (Jvm.Cond.code x code maxLocals ret).before args0 about1 = true := code_word (m := ⟨1, 1⟩) (meth := k1m1) (c := k1c1) (by decide +kernel) rfl rfl rfl (by decide +kernel)
set_option maxRecDepth 65536 in
theorem w_c1 : (Jvm.Cond.code ({ cls := "com/example/staleness/staleness/CommandExceptionUsagePinLaw", name := "mk", desc := "(ICC)Ljava/lang/String;" } : Jvm.MethodName) method_3_code (3 : Nat) (Option.some (Jvm.ClassFile.FieldType.object "java/lang/String"))).before args0 about1 = true := code_word (m := ⟨1, 2⟩) (meth := k1m2) (c := k1c2) (by decide +kernel) rfl rfl rfl (by decide +kernel)
set_option maxRecDepth 65536 in
theorem w_c2 : (Jvm.Cond.code ({ cls := "java/lang/String", name := "<init>", desc := "([C)V" } : Jvm.MethodName) jdk_42_method_3_code (2 : Nat) (Option.none : Option Jvm.ClassFile.FieldType)).before args0 about1 = true := code_word (m := ⟨7, 1⟩) (meth := k7m1) (c := k7c1) (by decide +kernel) rfl rfl rfl (by decide +kernel)
set_option maxRecDepth 65536 in
theorem w_c3 : (Jvm.Cond.code ({ cls := "java/lang/String", name := "<init>", desc := "([CIILjava/lang/Void;)V" } : Jvm.MethodName) jdk_42_method_149_code (6 : Nat) (Option.none : Option Jvm.ClassFile.FieldType)).before args0 about1 = true := code_word (m := ⟨7, 7⟩) (meth := k7m7) (c := k7c7) (by decide +kernel) rfl rfl rfl (by decide +kernel)
set_option maxRecDepth 65536 in
theorem w_c4 : (Jvm.Cond.code ({ cls := "java/lang/Object", name := "<init>", desc := "()V" } : Jvm.MethodName) object_method_1_code (1 : Nat) (Option.none : Option Jvm.ClassFile.FieldType)).before args0 about1 = true := code_word (m := ⟨0, 0⟩) (meth := k0m0) (c := k0c0) (by decide +kernel) rfl rfl rfl (by decide +kernel)
set_option maxRecDepth 65536 in
theorem w_c5 : (Jvm.Cond.code ({ cls := "java/lang/StringUTF16", name := "compress", desc := "([CII)[B" } : Jvm.MethodName) jdk_52_method_16_code (6 : Nat) (Option.some (Jvm.ClassFile.FieldType.array Jvm.ClassFile.FieldType.byte))).before args0 about1 = true := code_word (m := ⟨8, 2⟩) (meth := k8m2) (c := k8c2) (by decide +kernel) rfl rfl rfl (by decide +kernel)
set_option maxRecDepth 65536 in
theorem w_c6 : (Jvm.Cond.code ({ cls := "java/lang/StringUTF16", name := "compress", desc := "([CI[BII)I" } : Jvm.MethodName) jdk_52_method_21_code (7 : Nat) (Option.some Jvm.ClassFile.FieldType.int)).before args0 about1 = true := code_word (m := ⟨8, 3⟩) (meth := k8m3) (c := k8c3) (by decide +kernel) rfl rfl rfl (by decide +kernel)
set_option maxRecDepth 65536 in
theorem w_c7 : (Jvm.Cond.code ({ cls := "java/lang/StringUTF16", name := "coderFromArrayLen", desc := "([BI)B" } : Jvm.MethodName) jdk_52_method_15_code (2 : Nat) (Option.some Jvm.ClassFile.FieldType.byte)).before args0 about1 = true := code_word (m := ⟨8, 1⟩) (meth := k8m1) (c := k8c1) (by decide +kernel) rfl rfl rfl (by decide +kernel)
set_option maxRecDepth 65536 in
theorem w_c8 : (Jvm.Cond.code ({ cls := "com/example/staleness/staleness/CommandException", name := "usage", desc := "(Ljava/lang/String;Ljava/lang/String;)Lcom/example/staleness/staleness/CommandException;" } : Jvm.MethodName) prog_5_method_3_code (2 : Nat) (Option.some (Jvm.ClassFile.FieldType.object "com/example/staleness/staleness/CommandException"))).before args0 about1 = true := code_word (m := ⟨11, 1⟩) (meth := k11m1) (c := k11c1) (by decide +kernel) rfl rfl rfl (by decide +kernel)
set_option maxRecDepth 65536 in
theorem w_c9 : (Jvm.Cond.code ({ cls := "java/lang/StringBuilder", name := "<init>", desc := "()V" } : Jvm.MethodName) jdk_67_method_1_code (1 : Nat) (Option.none : Option Jvm.ClassFile.FieldType)).before args0 about1 = true := code_word (m := ⟨14, 0⟩) (meth := k14m0) (c := k14c0) (by decide +kernel) rfl rfl rfl (by decide +kernel)
set_option maxRecDepth 65536 in
theorem w_c10 : (Jvm.Cond.code ({ cls := "java/lang/AbstractStringBuilder", name := "<init>", desc := "(I)V" } : Jvm.MethodName) jdk_68_method_2_code (2 : Nat) (Option.none : Option Jvm.ClassFile.FieldType)).before args0 about1 = true := code_word (m := ⟨13, 1⟩) (meth := k13m1) (c := k13c1) (by decide +kernel) rfl rfl rfl (by decide +kernel)
set_option maxRecDepth 65536 in
theorem w_c11 : (Jvm.Cond.code ({ cls := "java/lang/StringBuilder", name := "append", desc := "(Ljava/lang/String;)Ljava/lang/StringBuilder;" } : Jvm.MethodName) jdk_67_method_7_code (2 : Nat) (Option.some (Jvm.ClassFile.FieldType.object "java/lang/StringBuilder"))).before args0 about1 = true := code_word (m := ⟨14, 1⟩) (meth := k14m1) (c := k14c1) (by decide +kernel) rfl rfl rfl (by decide +kernel)
set_option maxRecDepth 65536 in
theorem w_c12 : (Jvm.Cond.code ({ cls := "java/lang/AbstractStringBuilder", name := "append", desc := "(Ljava/lang/String;)Ljava/lang/AbstractStringBuilder;" } : Jvm.MethodName) jdk_68_method_22_code (3 : Nat) (Option.some (Jvm.ClassFile.FieldType.object "java/lang/AbstractStringBuilder"))).before args0 about1 = true := code_word (m := ⟨13, 4⟩) (meth := k13m4) (c := k13c4) (by decide +kernel) rfl rfl rfl (by decide +kernel)
set_option maxRecDepth 65536 in
theorem w_c13 : (Jvm.Cond.code ({ cls := "java/lang/String", name := "length", desc := "()I" } : Jvm.MethodName) jdk_42_method_54_code (1 : Nat) (Option.some Jvm.ClassFile.FieldType.int)).before args0 about1 = true := code_word (m := ⟨7, 3⟩) (meth := k7m3) (c := k7c3) (by decide +kernel) rfl rfl rfl (by decide +kernel)
set_option maxRecDepth 65536 in
theorem w_c14 : (Jvm.Cond.code ({ cls := "java/lang/String", name := "coder", desc := "()B" } : Jvm.MethodName) jdk_42_method_152_code (1 : Nat) (Option.some Jvm.ClassFile.FieldType.byte)).before args0 about1 = true := code_word (m := ⟨7, 10⟩) (meth := k7m10) (c := k7c10) (by decide +kernel) rfl rfl rfl (by decide +kernel)
set_option maxRecDepth 65536 in
theorem w_c15 : (Jvm.Cond.code ({ cls := "java/lang/AbstractStringBuilder", name := "ensureCapacityInternal", desc := "(I)V" } : Jvm.MethodName) jdk_68_method_9_code (3 : Nat) (Option.none : Option Jvm.ClassFile.FieldType)).before args0 about1 = true := code_word (m := ⟨13, 3⟩) (meth := k13m3) (c := k13c3) (by decide +kernel) rfl rfl rfl (by decide +kernel)
set_option maxRecDepth 65536 in
theorem w_c16 : (Jvm.Cond.code ({ cls := "java/lang/AbstractStringBuilder", name := "putStringAt", desc := "(ILjava/lang/String;)V" } : Jvm.MethodName) jdk_68_method_73_code (3 : Nat) (Option.none : Option Jvm.ClassFile.FieldType)).before args0 about1 = true := code_word (m := ⟨13, 8⟩) (meth := k13m8) (c := k13c8) (by decide +kernel) rfl rfl rfl (by decide +kernel)
set_option maxRecDepth 65536 in
theorem w_c17 : (Jvm.Cond.code ({ cls := "java/lang/AbstractStringBuilder", name := "inflateIfNeededFor", desc := "(Ljava/lang/String;)V" } : Jvm.MethodName) jdk_68_method_71_code (2 : Nat) (Option.none : Option Jvm.ClassFile.FieldType)).before args0 about1 = true := code_word (m := ⟨13, 7⟩) (meth := k13m7) (c := k13c7) (by decide +kernel) rfl rfl rfl (by decide +kernel)
set_option maxRecDepth 65536 in
theorem w_c18 : (Jvm.Cond.code ({ cls := "java/lang/String", name := "getBytes", desc := "([BIB)V" } : Jvm.MethodName) jdk_42_method_147_code (4 : Nat) (Option.none : Option Jvm.ClassFile.FieldType)).before args0 about1 = true := code_word (m := ⟨7, 6⟩) (meth := k7m6) (c := k7c6) (by decide +kernel) rfl rfl rfl (by decide +kernel)
set_option maxRecDepth 65536 in
theorem w_c19 : (Jvm.Cond.code ({ cls := "java/lang/StringBuilder", name := "toString", desc := "()Ljava/lang/String;" } : Jvm.MethodName) jdk_67_method_42_code (1 : Nat) (Option.some (Jvm.ClassFile.FieldType.object "java/lang/String"))).before args0 about1 = true := code_word (m := ⟨14, 2⟩) (meth := k14m2) (c := k14c2) (by decide +kernel) rfl rfl rfl (by decide +kernel)
set_option maxRecDepth 65536 in
theorem w_c20 : (Jvm.Cond.code ({ cls := "java/lang/String", name := "<init>", desc := "(Ljava/lang/StringBuilder;)V" } : Jvm.MethodName) jdk_42_method_53_code (2 : Nat) (Option.none : Option Jvm.ClassFile.FieldType)).before args0 about1 = true := code_word (m := ⟨7, 2⟩) (meth := k7m2) (c := k7c2) (by decide +kernel) rfl rfl rfl (by decide +kernel)
set_option maxRecDepth 65536 in
theorem w_c21 : (Jvm.Cond.code ({ cls := "java/lang/String", name := "<init>", desc := "(Ljava/lang/AbstractStringBuilder;Ljava/lang/Void;)V" } : Jvm.MethodName) jdk_42_method_150_code (5 : Nat) (Option.none : Option Jvm.ClassFile.FieldType)).before args0 about1 = true := code_word (m := ⟨7, 8⟩) (meth := k7m8) (c := k7c8) (by decide +kernel) rfl rfl rfl (by decide +kernel)
set_option maxRecDepth 65536 in
theorem w_c22 : (Jvm.Cond.code ({ cls := "java/lang/AbstractStringBuilder", name := "getValue", desc := "()[B" } : Jvm.MethodName) jdk_68_method_64_code (1 : Nat) (Option.some (Jvm.ClassFile.FieldType.array Jvm.ClassFile.FieldType.byte))).before args0 about1 = true := code_word (m := ⟨13, 5⟩) (meth := k13m5) (c := k13c5) (by decide +kernel) rfl rfl rfl (by decide +kernel)
set_option maxRecDepth 65536 in
theorem w_c23 : (Jvm.Cond.code ({ cls := "java/lang/StringBuilder", name := "length", desc := "()I" } : Jvm.MethodName) jdk_67_method_93_code (1 : Nat) (Option.some Jvm.ClassFile.FieldType.int)).before args0 about1 = true := code_word (m := ⟨14, 3⟩) (meth := k14m3) (c := k14c3) (by decide +kernel) rfl rfl rfl (by decide +kernel)
set_option maxRecDepth 65536 in
theorem w_c24 : (Jvm.Cond.code ({ cls := "java/lang/AbstractStringBuilder", name := "length", desc := "()I" } : Jvm.MethodName) jdk_68_method_6_code (1 : Nat) (Option.some Jvm.ClassFile.FieldType.int)).before args0 about1 = true := code_word (m := ⟨13, 2⟩) (meth := k13m2) (c := k13c2) (by decide +kernel) rfl rfl rfl (by decide +kernel)
set_option maxRecDepth 65536 in
theorem w_c25 : (Jvm.Cond.code ({ cls := "java/lang/AbstractStringBuilder", name := "isLatin1", desc := "()Z" } : Jvm.MethodName) jdk_68_method_68_code (1 : Nat) (Option.some Jvm.ClassFile.FieldType.boolean)).before args0 about1 = true := code_word (m := ⟨13, 6⟩) (meth := k13m6) (c := k13c6) (by decide +kernel) rfl rfl rfl (by decide +kernel)
set_option maxRecDepth 65536 in
theorem w_c26 : (Jvm.Cond.code ({ cls := "java/util/Arrays", name := "copyOfRange", desc := "([BII)[B" } : Jvm.MethodName) jdk_65_method_132_code (3 : Nat) (Option.some (Jvm.ClassFile.FieldType.array Jvm.ClassFile.FieldType.byte))).before args0 about1 = true := code_word (m := ⟨16, 2⟩) (meth := k16m2) (c := k16c2) (by decide +kernel) rfl rfl rfl (by decide +kernel)
set_option maxRecDepth 65536 in
theorem w_c27 : (Jvm.Cond.code ({ cls := "java/util/Arrays", name := "copyOfRangeByte", desc := "([BII)[B" } : Jvm.MethodName) jdk_65_method_133_code (5 : Nat) (Option.some (Jvm.ClassFile.FieldType.array Jvm.ClassFile.FieldType.byte))).before args0 about1 = true := code_word (m := ⟨16, 3⟩) (meth := k16m3) (c := k16c3) (by decide +kernel) rfl rfl rfl (by decide +kernel)
set_option maxRecDepth 65536 in
theorem w_c28 : (Jvm.Cond.code ({ cls := "java/util/Arrays", name := "checkLength", desc := "(II)V" } : Jvm.MethodName) jdk_65_method_131_code (2 : Nat) (Option.none : Option Jvm.ClassFile.FieldType)).before args0 about1 = true := code_word (m := ⟨16, 1⟩) (meth := k16m1) (c := k16c1) (by decide +kernel) rfl rfl rfl (by decide +kernel)
set_option maxRecDepth 65536 in
theorem w_c29 : (Jvm.Cond.code ({ cls := "java/lang/Math", name := "min", desc := "(II)I" } : Jvm.MethodName) jdk_29_method_69_code (2 : Nat) (Option.some Jvm.ClassFile.FieldType.int)).before args0 about1 = true := code_word (m := ⟨17, 1⟩) (meth := k17m1) (c := k17c1) (by decide +kernel) rfl rfl rfl (by decide +kernel)
set_option maxRecDepth 65536 in
theorem w_c30 : (Jvm.Cond.code ({ cls := "com/example/staleness/staleness/CommandException", name := "<init>", desc := "(Ljava/lang/String;)V" } : Jvm.MethodName) prog_5_method_1_code (2 : Nat) (Option.none : Option Jvm.ClassFile.FieldType)).before args0 about1 = true := code_word (m := ⟨11, 0⟩) (meth := k11m0) (c := k11c0) (by decide +kernel) rfl rfl rfl (by decide +kernel)
set_option maxRecDepth 65536 in
theorem w_c31 : (Jvm.Cond.code ({ cls := "java/lang/Exception", name := "<init>", desc := "(Ljava/lang/String;)V" } : Jvm.MethodName) jdk_59_method_2_code (2 : Nat) (Option.none : Option Jvm.ClassFile.FieldType)).before args0 about1 = true := code_word (m := ⟨10, 1⟩) (meth := k10m1) (c := k10c1) (by decide +kernel) rfl rfl rfl (by decide +kernel)
set_option maxRecDepth 65536 in
theorem w_c32 : (Jvm.Cond.code ({ cls := "java/lang/Throwable", name := "<init>", desc := "(Ljava/lang/String;)V" } : Jvm.MethodName) jdk_78_method_2_code (2 : Nat) (Option.none : Option Jvm.ClassFile.FieldType)).before args0 about1 = true := code_word (m := ⟨9, 1⟩) (meth := k9m1) (c := k9c1) (by decide +kernel) rfl rfl rfl (by decide +kernel)
set_option maxRecDepth 65536 in
theorem w_c33 : (Jvm.Cond.code ({ cls := "java/lang/Throwable", name := "<init>", desc := "()V" } : Jvm.MethodName) jdk_78_method_1_code (1 : Nat) (Option.none : Option Jvm.ClassFile.FieldType)).before args0 about1 = true := code_word (m := ⟨9, 0⟩) (meth := k9m0) (c := k9c0) (by decide +kernel) rfl rfl rfl (by decide +kernel)
set_option maxRecDepth 65536 in
theorem w_c34 : (Jvm.Cond.code ({ cls := "java/lang/Throwable", name := "getMessage", desc := "()Ljava/lang/String;" } : Jvm.MethodName) jdk_78_method_6_code (1 : Nat) (Option.some (Jvm.ClassFile.FieldType.object "java/lang/String"))).before args0 about1 = true := code_word (m := ⟨9, 2⟩) (meth := k9m2) (c := k9c2) (by decide +kernel) rfl rfl rfl (by decide +kernel)
set_option maxRecDepth 65536 in
theorem w_c35 : (Jvm.Cond.code ({ cls := "com/example/staleness/staleness/CommandExceptionUsagePinLaw", name := "ok", desc := "(Ljava/lang/String;IIICCCC)Z" } : Jvm.MethodName) method_5_code (8 : Nat) (Option.some Jvm.ClassFile.FieldType.boolean)).before args0 about1 = true := code_word (m := ⟨1, 4⟩) (meth := k1m4) (c := k1c4) (by decide +kernel) rfl rfl rfl (by decide +kernel)
set_option maxRecDepth 65536 in
theorem w_c36 : (Jvm.Cond.code ({ cls := "java/lang/String", name := "charAt", desc := "(I)C" } : Jvm.MethodName) jdk_42_method_56_code (2 : Nat) (Option.some Jvm.ClassFile.FieldType.char)).before args0 about1 = true := code_word (m := ⟨7, 4⟩) (meth := k7m4) (c := k7c4) (by decide +kernel) rfl rfl rfl (by decide +kernel)
set_option maxRecDepth 65536 in
theorem w_c37 : (Jvm.Cond.code ({ cls := "java/lang/String", name := "isLatin1", desc := "()Z" } : Jvm.MethodName) jdk_42_method_154_code (1 : Nat) (Option.some Jvm.ClassFile.FieldType.boolean)).before args0 about1 = true := code_word (m := ⟨7, 11⟩) (meth := k7m11) (c := k7c11) (by decide +kernel) rfl rfl rfl (by decide +kernel)
set_option maxRecDepth 65536 in
theorem w_c38 : (Jvm.Cond.code ({ cls := "java/lang/StringLatin1", name := "charAt", desc := "([BI)C" } : Jvm.MethodName) jdk_43_method_2_code (2 : Nat) (Option.some Jvm.ClassFile.FieldType.char)).before args0 about1 = true := code_word (m := ⟨18, 1⟩) (meth := k18m1) (c := k18c1) (by decide +kernel) rfl rfl rfl (by decide +kernel)
set_option maxRecDepth 65536 in
theorem w_c39 : (Jvm.Cond.code ({ cls := "java/lang/String", name := "checkIndex", desc := "(II)V" } : Jvm.MethodName) jdk_42_method_155_code (2 : Nat) (Option.none : Option Jvm.ClassFile.FieldType)).before args0 about1 = true := code_word (m := ⟨7, 12⟩) (meth := k7m12) (c := k7c12) (by decide +kernel) rfl rfl rfl (by decide +kernel)
set_option maxRecDepth 65536 in
theorem w_c40 : (Jvm.Cond.code ({ cls := "jdk/internal/util/Preconditions", name := "checkIndex", desc := "(IILjava/util/function/BiFunction;)I" } : Jvm.MethodName) jdk_41_method_11_code (3 : Nat) (Option.some Jvm.ClassFile.FieldType.int)).before args0 about1 = true := code_word (m := ⟨19, 1⟩) (meth := k19m1) (c := k19c1) (by decide +kernel) rfl rfl rfl (by decide +kernel)
set_option maxRecDepth 65536 in
theorem w_c41 : (Jvm.Cond.code ({ cls := "com/example/staleness/staleness/CommandExceptionUsagePinLaw", name := "exp", desc := "(IICCCC)C" } : Jvm.MethodName) method_4_code (7 : Nat) (Option.some Jvm.ClassFile.FieldType.char)).before args0 about1 = true := code_word (m := ⟨1, 3⟩) (meth := k1m3) (c := k1c3) (by decide +kernel) rfl rfl rfl (by decide +kernel)
set_option maxRecDepth 65536 in
theorem w_c42 : (Jvm.Cond.code ({ cls := "java/lang/String", name := "valueOf", desc := "(C)Ljava/lang/String;" } : Jvm.MethodName) jdk_42_method_139_code (1 : Nat) (Option.some (Jvm.ClassFile.FieldType.object "java/lang/String"))).before args0 about1 = true := code_word (m := ⟨7, 5⟩) (meth := k7m5) (c := k7c5) (by decide +kernel) rfl rfl rfl (by decide +kernel)
set_option maxRecDepth 65536 in
theorem w_c43 : (Jvm.Cond.code ({ cls := "java/lang/StringLatin1", name := "canEncode", desc := "(C)Z" } : Jvm.MethodName) jdk_43_method_3_code (1 : Nat) (Option.some Jvm.ClassFile.FieldType.boolean)).before args0 about1 = true := code_word (m := ⟨18, 2⟩) (meth := k18m2) (c := k18c2) (by decide +kernel) rfl rfl rfl (by decide +kernel)
set_option maxRecDepth 65536 in
theorem w_c44 : (Jvm.Cond.code ({ cls := "java/lang/StringLatin1", name := "toBytes", desc := "(C)[B" } : Jvm.MethodName) jdk_43_method_46_code (1 : Nat) (Option.some (Jvm.ClassFile.FieldType.array Jvm.ClassFile.FieldType.byte))).before args0 about1 = true := code_word (m := ⟨18, 3⟩) (meth := k18m3) (c := k18c3) (by decide +kernel) rfl rfl rfl (by decide +kernel)
set_option maxRecDepth 65536 in
theorem w_c45 : (Jvm.Cond.code ({ cls := "java/lang/String", name := "<init>", desc := "([BB)V" } : Jvm.MethodName) jdk_42_method_151_code (3 : Nat) (Option.none : Option Jvm.ClassFile.FieldType)).before args0 about1 = true := code_word (m := ⟨7, 9⟩) (meth := k7m9) (c := k7c9) (by decide +kernel) rfl rfl rfl (by decide +kernel)
def codes1 : List Jvm.Cond := [Jvm.Cond.code x code maxLocals ret, Jvm.Cond.code ({ cls := "com/example/staleness/staleness/CommandExceptionUsagePinLaw", name := "mk", desc := "(ICC)Ljava/lang/String;" } : Jvm.MethodName) method_3_code (3 : Nat) (Option.some (Jvm.ClassFile.FieldType.object "java/lang/String")), Jvm.Cond.code ({ cls := "java/lang/String", name := "<init>", desc := "([C)V" } : Jvm.MethodName) jdk_42_method_3_code (2 : Nat) (Option.none : Option Jvm.ClassFile.FieldType), Jvm.Cond.code ({ cls := "java/lang/String", name := "<init>", desc := "([CIILjava/lang/Void;)V" } : Jvm.MethodName) jdk_42_method_149_code (6 : Nat) (Option.none : Option Jvm.ClassFile.FieldType), Jvm.Cond.code ({ cls := "java/lang/Object", name := "<init>", desc := "()V" } : Jvm.MethodName) object_method_1_code (1 : Nat) (Option.none : Option Jvm.ClassFile.FieldType), Jvm.Cond.code ({ cls := "java/lang/StringUTF16", name := "compress", desc := "([CII)[B" } : Jvm.MethodName) jdk_52_method_16_code (6 : Nat) (Option.some (Jvm.ClassFile.FieldType.array Jvm.ClassFile.FieldType.byte)), Jvm.Cond.code ({ cls := "java/lang/StringUTF16", name := "compress", desc := "([CI[BII)I" } : Jvm.MethodName) jdk_52_method_21_code (7 : Nat) (Option.some Jvm.ClassFile.FieldType.int), Jvm.Cond.code ({ cls := "java/lang/StringUTF16", name := "coderFromArrayLen", desc := "([BI)B" } : Jvm.MethodName) jdk_52_method_15_code (2 : Nat) (Option.some Jvm.ClassFile.FieldType.byte), Jvm.Cond.code ({ cls := "com/example/staleness/staleness/CommandException", name := "usage", desc := "(Ljava/lang/String;Ljava/lang/String;)Lcom/example/staleness/staleness/CommandException;" } : Jvm.MethodName) prog_5_method_3_code (2 : Nat) (Option.some (Jvm.ClassFile.FieldType.object "com/example/staleness/staleness/CommandException")), Jvm.Cond.code ({ cls := "java/lang/StringBuilder", name := "<init>", desc := "()V" } : Jvm.MethodName) jdk_67_method_1_code (1 : Nat) (Option.none : Option Jvm.ClassFile.FieldType), Jvm.Cond.code ({ cls := "java/lang/AbstractStringBuilder", name := "<init>", desc := "(I)V" } : Jvm.MethodName) jdk_68_method_2_code (2 : Nat) (Option.none : Option Jvm.ClassFile.FieldType), Jvm.Cond.code ({ cls := "java/lang/StringBuilder", name := "append", desc := "(Ljava/lang/String;)Ljava/lang/StringBuilder;" } : Jvm.MethodName) jdk_67_method_7_code (2 : Nat) (Option.some (Jvm.ClassFile.FieldType.object "java/lang/StringBuilder")), Jvm.Cond.code ({ cls := "java/lang/AbstractStringBuilder", name := "append", desc := "(Ljava/lang/String;)Ljava/lang/AbstractStringBuilder;" } : Jvm.MethodName) jdk_68_method_22_code (3 : Nat) (Option.some (Jvm.ClassFile.FieldType.object "java/lang/AbstractStringBuilder")), Jvm.Cond.code ({ cls := "java/lang/String", name := "length", desc := "()I" } : Jvm.MethodName) jdk_42_method_54_code (1 : Nat) (Option.some Jvm.ClassFile.FieldType.int), Jvm.Cond.code ({ cls := "java/lang/String", name := "coder", desc := "()B" } : Jvm.MethodName) jdk_42_method_152_code (1 : Nat) (Option.some Jvm.ClassFile.FieldType.byte), Jvm.Cond.code ({ cls := "java/lang/AbstractStringBuilder", name := "ensureCapacityInternal", desc := "(I)V" } : Jvm.MethodName) jdk_68_method_9_code (3 : Nat) (Option.none : Option Jvm.ClassFile.FieldType), Jvm.Cond.code ({ cls := "java/lang/AbstractStringBuilder", name := "putStringAt", desc := "(ILjava/lang/String;)V" } : Jvm.MethodName) jdk_68_method_73_code (3 : Nat) (Option.none : Option Jvm.ClassFile.FieldType), Jvm.Cond.code ({ cls := "java/lang/AbstractStringBuilder", name := "inflateIfNeededFor", desc := "(Ljava/lang/String;)V" } : Jvm.MethodName) jdk_68_method_71_code (2 : Nat) (Option.none : Option Jvm.ClassFile.FieldType), Jvm.Cond.code ({ cls := "java/lang/String", name := "getBytes", desc := "([BIB)V" } : Jvm.MethodName) jdk_42_method_147_code (4 : Nat) (Option.none : Option Jvm.ClassFile.FieldType), Jvm.Cond.code ({ cls := "java/lang/StringBuilder", name := "toString", desc := "()Ljava/lang/String;" } : Jvm.MethodName) jdk_67_method_42_code (1 : Nat) (Option.some (Jvm.ClassFile.FieldType.object "java/lang/String")), Jvm.Cond.code ({ cls := "java/lang/String", name := "<init>", desc := "(Ljava/lang/StringBuilder;)V" } : Jvm.MethodName) jdk_42_method_53_code (2 : Nat) (Option.none : Option Jvm.ClassFile.FieldType), Jvm.Cond.code ({ cls := "java/lang/String", name := "<init>", desc := "(Ljava/lang/AbstractStringBuilder;Ljava/lang/Void;)V" } : Jvm.MethodName) jdk_42_method_150_code (5 : Nat) (Option.none : Option Jvm.ClassFile.FieldType), Jvm.Cond.code ({ cls := "java/lang/AbstractStringBuilder", name := "getValue", desc := "()[B" } : Jvm.MethodName) jdk_68_method_64_code (1 : Nat) (Option.some (Jvm.ClassFile.FieldType.array Jvm.ClassFile.FieldType.byte)), Jvm.Cond.code ({ cls := "java/lang/StringBuilder", name := "length", desc := "()I" } : Jvm.MethodName) jdk_67_method_93_code (1 : Nat) (Option.some Jvm.ClassFile.FieldType.int), Jvm.Cond.code ({ cls := "java/lang/AbstractStringBuilder", name := "length", desc := "()I" } : Jvm.MethodName) jdk_68_method_6_code (1 : Nat) (Option.some Jvm.ClassFile.FieldType.int), Jvm.Cond.code ({ cls := "java/lang/AbstractStringBuilder", name := "isLatin1", desc := "()Z" } : Jvm.MethodName) jdk_68_method_68_code (1 : Nat) (Option.some Jvm.ClassFile.FieldType.boolean), Jvm.Cond.code ({ cls := "java/util/Arrays", name := "copyOfRange", desc := "([BII)[B" } : Jvm.MethodName) jdk_65_method_132_code (3 : Nat) (Option.some (Jvm.ClassFile.FieldType.array Jvm.ClassFile.FieldType.byte)), Jvm.Cond.code ({ cls := "java/util/Arrays", name := "copyOfRangeByte", desc := "([BII)[B" } : Jvm.MethodName) jdk_65_method_133_code (5 : Nat) (Option.some (Jvm.ClassFile.FieldType.array Jvm.ClassFile.FieldType.byte)), Jvm.Cond.code ({ cls := "java/util/Arrays", name := "checkLength", desc := "(II)V" } : Jvm.MethodName) jdk_65_method_131_code (2 : Nat) (Option.none : Option Jvm.ClassFile.FieldType), Jvm.Cond.code ({ cls := "java/lang/Math", name := "min", desc := "(II)I" } : Jvm.MethodName) jdk_29_method_69_code (2 : Nat) (Option.some Jvm.ClassFile.FieldType.int), Jvm.Cond.code ({ cls := "com/example/staleness/staleness/CommandException", name := "<init>", desc := "(Ljava/lang/String;)V" } : Jvm.MethodName) prog_5_method_1_code (2 : Nat) (Option.none : Option Jvm.ClassFile.FieldType), Jvm.Cond.code ({ cls := "java/lang/Exception", name := "<init>", desc := "(Ljava/lang/String;)V" } : Jvm.MethodName) jdk_59_method_2_code (2 : Nat) (Option.none : Option Jvm.ClassFile.FieldType), Jvm.Cond.code ({ cls := "java/lang/Throwable", name := "<init>", desc := "(Ljava/lang/String;)V" } : Jvm.MethodName) jdk_78_method_2_code (2 : Nat) (Option.none : Option Jvm.ClassFile.FieldType), Jvm.Cond.code ({ cls := "java/lang/Throwable", name := "<init>", desc := "()V" } : Jvm.MethodName) jdk_78_method_1_code (1 : Nat) (Option.none : Option Jvm.ClassFile.FieldType), Jvm.Cond.code ({ cls := "java/lang/Throwable", name := "getMessage", desc := "()Ljava/lang/String;" } : Jvm.MethodName) jdk_78_method_6_code (1 : Nat) (Option.some (Jvm.ClassFile.FieldType.object "java/lang/String")), Jvm.Cond.code ({ cls := "com/example/staleness/staleness/CommandExceptionUsagePinLaw", name := "ok", desc := "(Ljava/lang/String;IIICCCC)Z" } : Jvm.MethodName) method_5_code (8 : Nat) (Option.some Jvm.ClassFile.FieldType.boolean), Jvm.Cond.code ({ cls := "java/lang/String", name := "charAt", desc := "(I)C" } : Jvm.MethodName) jdk_42_method_56_code (2 : Nat) (Option.some Jvm.ClassFile.FieldType.char), Jvm.Cond.code ({ cls := "java/lang/String", name := "isLatin1", desc := "()Z" } : Jvm.MethodName) jdk_42_method_154_code (1 : Nat) (Option.some Jvm.ClassFile.FieldType.boolean), Jvm.Cond.code ({ cls := "java/lang/StringLatin1", name := "charAt", desc := "([BI)C" } : Jvm.MethodName) jdk_43_method_2_code (2 : Nat) (Option.some Jvm.ClassFile.FieldType.char), Jvm.Cond.code ({ cls := "java/lang/String", name := "checkIndex", desc := "(II)V" } : Jvm.MethodName) jdk_42_method_155_code (2 : Nat) (Option.none : Option Jvm.ClassFile.FieldType), Jvm.Cond.code ({ cls := "jdk/internal/util/Preconditions", name := "checkIndex", desc := "(IILjava/util/function/BiFunction;)I" } : Jvm.MethodName) jdk_41_method_11_code (3 : Nat) (Option.some Jvm.ClassFile.FieldType.int), Jvm.Cond.code ({ cls := "com/example/staleness/staleness/CommandExceptionUsagePinLaw", name := "exp", desc := "(IICCCC)C" } : Jvm.MethodName) method_4_code (7 : Nat) (Option.some Jvm.ClassFile.FieldType.char), Jvm.Cond.code ({ cls := "java/lang/String", name := "valueOf", desc := "(C)Ljava/lang/String;" } : Jvm.MethodName) jdk_42_method_139_code (1 : Nat) (Option.some (Jvm.ClassFile.FieldType.object "java/lang/String")), Jvm.Cond.code ({ cls := "java/lang/StringLatin1", name := "canEncode", desc := "(C)Z" } : Jvm.MethodName) jdk_43_method_3_code (1 : Nat) (Option.some Jvm.ClassFile.FieldType.boolean), Jvm.Cond.code ({ cls := "java/lang/StringLatin1", name := "toBytes", desc := "(C)[B" } : Jvm.MethodName) jdk_43_method_46_code (1 : Nat) (Option.some (Jvm.ClassFile.FieldType.array Jvm.ClassFile.FieldType.byte)), Jvm.Cond.code ({ cls := "java/lang/String", name := "<init>", desc := "([BB)V" } : Jvm.MethodName) jdk_42_method_151_code (3 : Nat) (Option.none : Option Jvm.ClassFile.FieldType)]
set_option maxRecDepth 65536 in
theorem codes_eq : words1.filter isCode = codes1 := rfl
theorem w_codes : ∀ c ∈ words1.filter isCode, c.before args0 about1 = true := by
  rw [codes_eq]
  intro c hc
  simp only [codes1, List.mem_cons, List.not_mem_nil, or_false] at hc
  rcases hc with rfl | rfl | rfl | rfl | rfl | rfl | rfl | rfl | rfl | rfl | rfl | rfl | rfl | rfl | rfl | rfl | rfl | rfl | rfl | rfl | rfl | rfl | rfl | rfl | rfl | rfl | rfl | rfl | rfl | rfl | rfl | rfl | rfl | rfl | rfl | rfl | rfl | rfl | rfl | rfl | rfl | rfl | rfl | rfl | rfl | rfl
  · exact w_c0
  · exact w_c1
  · exact w_c2
  · exact w_c3
  · exact w_c4
  · exact w_c5
  · exact w_c6
  · exact w_c7
  · exact w_c8
  · exact w_c9
  · exact w_c10
  · exact w_c11
  · exact w_c12
  · exact w_c13
  · exact w_c14
  · exact w_c15
  · exact w_c16
  · exact w_c17
  · exact w_c18
  · exact w_c19
  · exact w_c20
  · exact w_c21
  · exact w_c22
  · exact w_c23
  · exact w_c24
  · exact w_c25
  · exact w_c26
  · exact w_c27
  · exact w_c28
  · exact w_c29
  · exact w_c30
  · exact w_c31
  · exact w_c32
  · exact w_c33
  · exact w_c34
  · exact w_c35
  · exact w_c36
  · exact w_c37
  · exact w_c38
  · exact w_c39
  · exact w_c40
  · exact w_c41
  · exact w_c42
  · exact w_c43
  · exact w_c44
  · exact w_c45
set_option maxRecDepth 65536 in
theorem w_t1 : (words1.take 24).all (fun c => isCode c || c.before args0 about1) = true := by decide +kernel
set_option maxRecDepth 65536 in
theorem w_t2 : ((words1.drop 24).take 24).all (fun c => isCode c || c.before args0 about1) = true := by decide +kernel
set_option maxRecDepth 65536 in
theorem w_t3 : (((words1.drop 24).drop 24).take 24).all (fun c => isCode c || c.before args0 about1) = true := by decide +kernel
set_option maxRecDepth 65536 in
theorem w_t4 : ((((words1.drop 24).drop 24).drop 24).take 24).all (fun c => isCode c || c.before args0 about1) = true := by decide +kernel
set_option maxRecDepth 65536 in
theorem w_t5 : (((((words1.drop 24).drop 24).drop 24).drop 24).take 24).all (fun c => isCode c || c.before args0 about1) = true := by decide +kernel
set_option maxRecDepth 65536 in
theorem w_t6 : ((((((words1.drop 24).drop 24).drop 24).drop 24).drop 24).take 24).all (fun c => isCode c || c.before args0 about1) = true := by decide +kernel
set_option maxRecDepth 65536 in
theorem w_t7 : (((((((words1.drop 24).drop 24).drop 24).drop 24).drop 24).drop 24).take 24).all (fun c => isCode c || c.before args0 about1) = true := by decide +kernel
set_option maxRecDepth 65536 in
theorem w_t8 : ((((((((words1.drop 24).drop 24).drop 24).drop 24).drop 24).drop 24).drop 24).take 24).all (fun c => isCode c || c.before args0 about1) = true := by decide +kernel
set_option maxRecDepth 65536 in
theorem w_t9 : (((((((((words1.drop 24).drop 24).drop 24).drop 24).drop 24).drop 24).drop 24).drop 24).take 24).all (fun c => isCode c || c.before args0 about1) = true := by decide +kernel
set_option maxRecDepth 65536 in
theorem w_t10 : ((((((((((words1.drop 24).drop 24).drop 24).drop 24).drop 24).drop 24).drop 24).drop 24).drop 24).take 24).all (fun c => isCode c || c.before args0 about1) = true := by decide +kernel
set_option maxRecDepth 65536 in
theorem w_t11 : ((((((((((words1.drop 24).drop 24).drop 24).drop 24).drop 24).drop 24).drop 24).drop 24).drop 24).drop 24).all (fun c => isCode c || c.before args0 about1) = true := by decide +kernel
theorem w_tables : (allAtoms (Jvm.Cond.code x code maxLocals ret :: tables_1)).before args0 about1 = true := by
  rw [allAtoms_all]
  show words1.all (fun c => c.before args0 about1) = true
  refine all_split ?_ w_codes
  rw [← List.take_append_drop 24 words1, List.all_append, w_t1, ← List.take_append_drop 24 (words1.drop 24), List.all_append, w_t2, ← List.take_append_drop 24 ((words1.drop 24).drop 24), List.all_append, w_t3, ← List.take_append_drop 24 (((words1.drop 24).drop 24).drop 24), List.all_append, w_t4, ← List.take_append_drop 24 ((((words1.drop 24).drop 24).drop 24).drop 24), List.all_append, w_t5, ← List.take_append_drop 24 (((((words1.drop 24).drop 24).drop 24).drop 24).drop 24), List.all_append, w_t6, ← List.take_append_drop 24 ((((((words1.drop 24).drop 24).drop 24).drop 24).drop 24).drop 24), List.all_append, w_t7, ← List.take_append_drop 24 (((((((words1.drop 24).drop 24).drop 24).drop 24).drop 24).drop 24).drop 24), List.all_append, w_t8, ← List.take_append_drop 24 ((((((((words1.drop 24).drop 24).drop 24).drop 24).drop 24).drop 24).drop 24).drop 24), List.all_append, w_t9, ← List.take_append_drop 24 (((((((((words1.drop 24).drop 24).drop 24).drop 24).drop 24).drop 24).drop 24).drop 24).drop 24), List.all_append, w_t10, w_t11]
  rfl
set_option maxRecDepth 65536 in
theorem w_rest : rest_1_c.before args0 about1 = true := by decide +kernel
set_option maxRecDepth 65536 in
theorem w_case : (Jvm.Cond.and given_1 narrow_1).before args0 about1 = true := by decide +kernel
set_option maxRecDepth 65536 in
theorem w_consts : constsHeld consts_1 about1 := Jvm.Lit.constsHeldB_iff.mp (by decide +kernel)
theorem w_applies : (headSpec (Jvm.Cond.code x code maxLocals ret :: tables_1) room_1).applies x e0.platform about1 = true :=
  (Spec.applies_iff w_frames).mpr ⟨w_running, w_runnable, w_alone, w_named, w_hears, w_ripe, w_room, w_tables⟩
theorem atStart : AtStart classFile x code maxLocals ret World_1 tables_1 room_1 Calls_1 rest_1 Pre_1 launch0 p0 e0 about1 theMethod args0 below0 :=
  ⟨lists_1, trivial, launch0.admits_env _ _ _, launch0.least_env, fairChoices_fair.cas, fairChoices_fair.clock, w_frames, w_args, w_heap, w_applies, ⟨(by decide +kernel : framesKnown about1 = true), ⟨(by decide +kernel : tablesKnown about1 = true), ⟨w_consts, trivial⟩⟩⟩, w_rest, w_case⟩
end start1
theorem witness_1 : WitnessClaimed_1 := ⟨start1.p0, start1.e0, start1.about1, start1.theMethod, start1.args0, start1.below0, start1.atStart⟩
end Jvm.Pilot.@@N@@
