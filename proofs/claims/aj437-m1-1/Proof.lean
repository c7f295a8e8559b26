import JvmDerived
import JvmDerived.Pilot.@@N@@Statement
import JvmDerived.Pilot.@@N@@Code
set_option linter.unusedVariables false
set_option linter.unusedSimpArgs false
namespace Jvm.Pilot.@@N@@
open Jvm Jvm.ClassFile Sem Op Lib Jvm.Free Jvm.Stand Jvm.LawKit Jvm.RoadKit Bundle Jvm.Pilot.@@N@@.Jvm.D
/-! own prelude: a walk as one chain of steps that ends well (Go), contracts (Mt), calls and returns in that form -/
abbrev jv (x : Int64) : Slot := .val (.long x)
section Own
variable {p : Program} {l : Launch} {e : Env} {R : Room} {s : State} {m : MethodId} {args : Array Value} {below : List Frame} {meth : Method} {c : Code} {T T' : State} {locs : List Loc} {cells slots : Nat} {Z : State} {a0 : Array Value} {h : Heap}
theorem own_retI (X : Stand p l e R s m args below meth c T locs cells slots) (hx : p.tables.exec = Jvm.exec) {pc : Nat} {Ls : Array Slot} {z : Int32} {rest : List Value} (hret : meth.sig.returnType = some .int) (hd : decode c.code pc = .ok (.ireturn, 1)) {fs : List Frame}
    (hl : ∀ (f : JFrame) (acts : List Action), f.method = m → f.locked = none → f.entered = [] → (doReturn e (T.setTop f) acts (some (.int z))).1 = T.setFrames fs) : Steps p.tables e below (T.setTop (mkF m pc Ls (.int z :: rest))) (T.setFrames fs) := by
  have hm' : T.vm.method? m = some meth := X.method'
  have hn : narrow .int (.int z) = .int z := rfl
  show Steps p.tables e below (T.setTop { method := m, pc := pc, locals := Ls, stack := _ :: rest, locked := none }) _
  jvm_step X.here [X.here.top, hx, hd, hm', hret, hn]
  first | (intro acts; rw [hl _ acts rfl rfl rfl]) | rw [hl _ _ rfl rfl rfl]
  exact Steps.refl _
theorem own_retL (X : Stand p l e R s m args below meth c T locs cells slots) (hx : p.tables.exec = Jvm.exec) {pc : Nat} {Ls : Array Slot} {z : Int64} {rest : List Value} (hret : meth.sig.returnType = some .long) (hd : decode c.code pc = .ok (.lreturn, 1)) {fs : List Frame}
    (hl : ∀ (f : JFrame) (acts : List Action), f.method = m → f.locked = none → f.entered = [] → (doReturn e (T.setTop f) acts (some (.long z))).1 = T.setFrames fs) : Steps p.tables e below (T.setTop (mkF m pc Ls (.long z :: rest))) (T.setFrames fs) := by
  have hm' : T.vm.method? m = some meth := X.method'
  show Steps p.tables e below (T.setTop { method := m, pc := pc, locals := Ls, stack := _ :: rest, locked := none }) _
  jvm_step X.here [X.here.top, hx, hd, hm', hret, narrow]
  first | (intro acts; rw [hl _ acts rfl rfl rfl]) | rw [hl _ _ rfl rfl rfl]
  exact Steps.refl _
theorem own_retA (X : Stand p l e R s m args below meth c T locs cells slots) (hx : p.tables.exec = Jvm.exec) {pc : Nat} {Ls : Array Slot} {v : Value} {rest : List Value} (hv : v.isRef = true) {t : FieldType} (hret : meth.sig.returnType = some t) (ht : t.isReference = true) (hd : decode c.code pc = .ok (.areturn, 1)) {fs : List Frame}
    (hl : ∀ (f : JFrame) (acts : List Action), f.method = m → f.locked = none → f.entered = [] → (doReturn e (T.setTop f) acts (some v)).1 = T.setFrames fs) : Steps p.tables e below (T.setTop (mkF m pc Ls (v :: rest))) (T.setFrames fs) := by
  have hm' : T.vm.method? m = some meth := X.method'
  show Steps p.tables e below (T.setTop { method := m, pc := pc, locals := Ls, stack := _ :: rest, locked := none }) _
  rcases ref_cases hv with rfl | ⟨a, rfl⟩
  · jvm_step X.here [X.here.top, hx, hd, hm', hret, ht, Value.isRef]
    first | (intro acts; rw [hl _ acts rfl rfl rfl]) | rw [hl _ _ rfl rfl rfl]
    exact Steps.refl _
  · jvm_step X.here [X.here.top, hx, hd, hm', hret, ht, Value.isRef]
    first | (intro acts; rw [hl _ acts rfl rfl rfl]) | rw [hl _ _ rfl rfl rfl]
    exact Steps.refl _
/-- from this frame the walk ends, and W holds of its end -/
def Go (p : Program) (e : Env) (below : List Frame) (W : Outcome → State → Prop) (T : State) (g : JFrame) : Prop := ∃ s₂ o, Steps p.tables e below (T.setTop g) s₂ ∧ s₂.status = .running ∧ Ended s₂ below o ∧ W o s₂
def Wf (s : State) (rc rs : Nat) (Q : Option Value → Heap → List Loc → Prop) (o : Outcome) (t : State) : Prop := ∃ v L, o = .returned v ∧ Q v t.heap L ∧ FrameEnd s o t L rc rs
/-- a method's contract: from these arguments and this heap it returns, and Q -/
def Mt (l : Launch) (Z : State) (y : MethodName) (bytes : ByteArray) (ml : Nat) (ret : Option FieldType) (ws : List Jvm.Cond) (rm : Room) (as' : Array Value) (h0 : Heap) (Q : Option Value → Heap → List Loc → Prop) : Prop :=
  MetFree l y (head1 (Jvm.Cond.code y bytes ml ret :: ws) rm) (fun a U => a = as' ∧ Z.Warmed39 U.vm ∧ U.heap = h0) (fun _ _ _ _ _ => True) (fun _ U o U' => ∃ v L, o = .returned v ∧ Q v U'.heap L ∧ FrameEnd U o U' L rm.cells rm.slots)
variable {W : Outcome → State → Prop} {g g' : JFrame} {Q : Option Value → Heap → List Loc → Prop} {rc rs : Nat}
theorem Go.st (k : Go p e below W T' g') (st : ∀ t, Steps p.tables e below (T'.setTop g') t → Steps p.tables e below (T.setTop g) t) : Go p e below W T g := by
  obtain ⟨s₂, o, h1, h2⟩ := k
  exact ⟨s₂, o, st _ h1, h2⟩
theorem Go.cast (q : g = g') (k : Go p e below W T g') : Go p e below W T g := q ▸ k
theorem Go.mono {W' : Outcome → State → Prop} (k : Go p e below W T g) (q : ∀ o t, W o t → W' o t) : Go p e below W' T g := by
  obtain ⟨s₂, o, h1, h2, h3, h4⟩ := k
  exact ⟨s₂, o, h1, h2, h3, q _ _ h4⟩
theorem Mt.body {y : MethodName} {bytes : ByteArray} {ml : Nat} {ret : Option FieldType} {ws : List Jvm.Cond} {rm : Room} {as' : Array Value} {h0 : Heap} (hpn : plainFor y = true)
    (body : ∀ (p : Program) (e : Env) (s : State) (m : MethodId) (below : List Frame) (meth : Method) (c : Code) (s₁ : State), p.tables.exec = Jvm.exec → c.code = bytes → c.maxLocals = ml → s.vm.findClass y.cls = some m.cls → meth.name = y.name → meth.sig.returnType = ret → meth.locks = false →
      Z.Warmed39 s.vm → Stand p l e rm s m as' below meth c s₁ [] 0 0 → s₁.heap = h0 → Go p e below (Wf s rm.cells rm.slots Q) s₁ (entryFrame m as' ml)) : Mt l Z y bytes ml ret ws rm as' h0 Q := by
  refine MetFree.of_bodySF hpn hisR ?_
  intro p e s m args below meth c s₁ Bd hml0 hP hK
  obtain ⟨rfl, hZ, hh⟩ := hP
  have := body p e s m below meth c s₁ Bd.exec Bd.bytes hml0 (findClass_of_methodNamed Bd.named) (name_of_methodNamed Bd.named Bd.method).1 Bd.returns Bd.notSynchronized hZ (Stand.of_body Bd) (by rw [← hh, Bd.state]; rfl)
  obtain ⟨s₂, o, h1, h2, h3, v, L, h4, h5, h6⟩ := this
  exact ⟨s₂, o, h1, h2, h3, v, L, h4, h5, h6⟩
theorem Go.retV (X : Stand p l e R s m args below meth c T locs cells slots) (hx : p.tables.exec = Jvm.exec) (hlk : meth.locks = false) (hret : meth.sig.returnType = none) {pc : Nat} {Ls : Array Slot} (hd : decode c.code pc = .ok (.return_, 1)) (hc : cells ≤ rc) (hs : slots ≤ rs) (hq : Q none T.heap locs) : Go p e below (Wf s rc rs Q) T (mkF m pc Ls []) := by
  obtain ⟨fs, hr, hrun, hended, hW, hsame⟩ := X.leave (v := none) (fun _ => rfl) hlk
  exact ⟨_, _, X.returnOut hx hret hd hr, hrun, hended, _, _, rfl, hq, ⟨_, rfl⟩, hW, hsame.mono hc hs⟩
theorem Go.retI (X : Stand p l e R s m args below meth c T locs cells slots) (hx : p.tables.exec = Jvm.exec) (hlk : meth.locks = false) (hret : meth.sig.returnType = some .int) {pc : Nat} {Ls : Array Slot} {z : Int32} {st : List Value} (hd : decode c.code pc = .ok (.ireturn, 1)) (hc : cells ≤ rc) (hs : slots ≤ rs) (hq : Q (some (.int z)) T.heap locs) : Go p e below (Wf s rc rs Q) T (mkF m pc Ls (.int z :: st)) := by
  obtain ⟨fs, hr, hrun, hended, hW, hsame⟩ := X.leave (v := some (.int z)) (fun h => by rw [hret] at h; cases h) hlk
  exact ⟨_, _, own_retI X hx hret hd hr, hrun, hended, _, _, rfl, hq, ⟨_, rfl⟩, hW, hsame.mono hc hs⟩
theorem Go.retL (X : Stand p l e R s m args below meth c T locs cells slots) (hx : p.tables.exec = Jvm.exec) (hlk : meth.locks = false) (hret : meth.sig.returnType = some .long) {pc : Nat} {Ls : Array Slot} {z : Int64} {st : List Value} (hd : decode c.code pc = .ok (.lreturn, 1)) (hc : cells ≤ rc) (hs : slots ≤ rs) (hq : Q (some (.long z)) T.heap locs) : Go p e below (Wf s rc rs Q) T (mkF m pc Ls (.long z :: st)) := by
  obtain ⟨fs, hr, hrun, hended, hW, hsame⟩ := X.leave (v := some (.long z)) (fun h => by rw [hret] at h; cases h) hlk
  exact ⟨_, _, own_retL X hx hret hd hr, hrun, hended, _, _, rfl, hq, ⟨_, rfl⟩, hW, hsame.mono hc hs⟩
theorem Go.retA (X : Stand p l e R s m args below meth c T locs cells slots) (hx : p.tables.exec = Jvm.exec) (hlk : meth.locks = false) {t : FieldType} (hret : meth.sig.returnType = some t) (ht : t.isReference = true) {pc : Nat} {Ls : Array Slot} {v : Value} (hv : v.isRef = true) {st : List Value} (hd : decode c.code pc = .ok (.areturn, 1)) (hc : cells ≤ rc) (hs : slots ≤ rs) (hq : Q (some v) T.heap locs) : Go p e below (Wf s rc rs Q) T (mkF m pc Ls (v :: st)) := by
  obtain ⟨fs, hr, hrun, hended, hW, hsame⟩ := X.leave (v := some v) (fun h => by rw [hret] at h; cases h) hlk
  exact ⟨_, _, own_retA X hx hv hret ht hd hr, hrun, hended, _, _, rfl, hq, ⟨_, rfl⟩, hW, hsame.mono hc hs⟩
theorem Go.retN (X : Stand p l e R s m args below meth c T locs cells slots) (hx : p.tables.exec = Jvm.exec) (hlk : meth.locks = false) {t : FieldType} (hret : meth.sig.returnType = some t) (ht : t = .boolean ∨ t = .byte ∨ t = .char ∨ t = .short) {pc : Nat} {Ls : Array Slot} {z z' : Int32} {st : List Value} (hn : narrow t (.int z) = .int z') (hd : decode c.code pc = .ok (.ireturn, 1)) (hc : cells ≤ rc) (hs : slots ≤ rs) (hq : Q (some (.int z')) T.heap locs) : Go p e below (Wf s rc rs Q) T (mkF m pc Ls (.int z :: st)) := by
  obtain ⟨fs, hr, hrun, hended, hW, hsame⟩ := X.leave (v := some (.int z')) (fun h => by rw [hret] at h; cases h) hlk
  refine ⟨_, _, ?_, hrun, hended, _, _, rfl, hq, ⟨_, rfl⟩, hW, hsame.mono hc hs⟩
  have hm' : T.vm.method? m = some meth := X.method'
  show Steps p.tables e below (T.setTop { method := m, pc := pc, locals := Ls, stack := _ :: st, locked := none }) _
  rcases ht with rfl | rfl | rfl | rfl
  all_goals
    jvm_step X.here [X.here.top, hx, hd, hm', hret, hn]
    first | (intro acts; rw [hr _ acts rfl rfl rfl]) | rw [hr _ _ rfl rfl rfl]
    exact Steps.refl _
/-! calls, paid by any Back -/
theorem Go.callSB (X : Stand p l e R s m args below meth c T locs cells slots) (hx : p.tables.exec = Jvm.exec) (hZ : Z.Warmed39 s.vm) {own : String} {index : Nat} {y : MethodName} {bytes : ByteArray} {maxL : Nat} {ret : Option FieldType} (hown : s.vm.findClass own = some m.cls)
    (w1 : (Jvm.Cond.methodLink own index y).before a0 Z = true) (w2 : (Jvm.Cond.static y).before a0 Z = true) (w3 : (Jvm.Cond.initialized y.cls).before a0 Z = true) (w4 : (Jvm.Cond.code y bytes maxL ret).before a0 Z = true) (hy : y.cls ≠ "java/lang/invoke/MethodHandle" ∧ y.cls ≠ "java/lang/invoke/VarHandle")
    {Wd : Nat} {Pre : Pt → Array Value → Prop} {Post : Pt → Array Value → Option Value → Pt → Prop} (hK : Back l R p e below s args y 3 Wd Pre Post)
    {argsL rest : List Value} (hg : g.method = m) (hsize : g.locals.size = c.maxLocals) (hlen : ∀ sig, parseMethodDescriptor y.desc = some sig → argsL.length = sig.parameters.length) (hstack : g.stack = argsL.reverse ++ rest) (hWd : 2 * g.monitorRoom + (rest.map fun v => v.category).sum ≤ Wd) (hd : decode c.code g.pc = .ok (.invokestatic index, 3))
    (hpre : ∀ vm₁, Pre ⟨T.setVm vm₁, locs, cells, slots⟩ argsL.toArray)
    (k : ∀ (v : Option Value) (vm₁ : Vm) (B : Pt), Stand p l e R s m args below meth c B.U B.locs B.cells B.slots → Post ⟨T.setVm vm₁, locs, cells, slots⟩ argsL.toArray v B → Go p e below W B.U { g with pc := g.pc + 3, stack := v.toList ++ rest }) : Go p e below W T g := by
  obtain ⟨v, vm₁, B, -, X', hP, st⟩ := Jvm.LawKit.callS X hx hown (mvT hZ w1) (mvT hZ w2) (mvT hZ w3) (mvT hZ w4) hy hK hg hsize hlen hstack hWd hd (fun vm₁ _ => hpre vm₁)
  exact (k v vm₁ B X' hP).st st
theorem Go.callNB (X : Stand p l e R s m args below meth c T locs cells slots) (hx : p.tables.exec = Jvm.exec) (hZ : Z.Warmed39 s.vm) {own : String} {index : Nat} {y : MethodName} {bytes : ByteArray} {maxL : Nat} (hy1 : y.name = "<init>") (hown : s.vm.findClass own = some m.cls)
    (w1 : (Jvm.Cond.methodLink own index y).before a0 Z = true) (w2 : (Jvm.Cond.instanceMethod y).before a0 Z = true) (w4 : (Jvm.Cond.code y bytes maxL none).before a0 Z = true) (hy : y.cls ≠ "java/lang/invoke/MethodHandle" ∧ y.cls ≠ "java/lang/invoke/VarHandle")
    {Wd : Nat} {Pre : Pt → Array Value → Prop} {Post : Pt → Array Value → Option Value → Pt → Prop} (hK : Back l R p e below s args y 3 Wd Pre Post)
    {a : Addr} {argsL rest : List Value} (hg : g.method = m) (hsize : g.locals.size = c.maxLocals) (hlen : ∀ sig, parseMethodDescriptor y.desc = some sig → argsL.length = sig.parameters.length) (hstack : g.stack = argsL.reverse ++ .ref a :: rest) (hWd : 2 * g.monitorRoom + (rest.map fun v => v.category).sum ≤ Wd) (hd : decode c.code g.pc = .ok (.invokespecial index, 3))
    (hpre : ∀ vm₁, Pre ⟨T.setVm vm₁, locs, cells, slots⟩ (.ref a :: argsL).toArray)
    (k : ∀ (v : Option Value) (vm₁ : Vm) (B : Pt), Stand p l e R s m args below meth c B.U B.locs B.cells B.slots → Post ⟨T.setVm vm₁, locs, cells, slots⟩ (.ref a :: argsL).toArray v B → Go p e below W B.U { g with pc := g.pc + 3, stack := v.toList ++ rest }) : Go p e below W T g := by
  obtain ⟨v, vm₁, B, -, X', hP, st⟩ := X.specialBack hx hy1 hown (mvT hZ w1) (mvT hZ w2) (mvT hZ w4) hy hK hg hsize (Steps.refl _) hlen hstack hWd hd (fun vm₁ _ => hpre vm₁)
  exact (k v vm₁ B X' hP).st fun _ q => st.trans q
theorem Go.callVB (X : Stand p l e R s m args below meth c T locs cells slots) (hx : p.tables.exec = Jvm.exec) (hZ : Z.Warmed39 s.vm) {own C : String} {index : Nat} {y z : MethodName} (hown : s.vm.findClass own = some m.cls)
    (w1 : (Jvm.Cond.methodLink own index y).before a0 Z = true) (w2 : (Jvm.Cond.declares y).before a0 Z = true) (hnf : NotFace s y) (w3 : (Jvm.Cond.selects C y z).before a0 Z = true) (w4 : (Jvm.Cond.instanceMethod z).before a0 Z = true) (hy : y.cls ≠ "java/lang/invoke/MethodHandle" ∧ y.cls ≠ "java/lang/invoke/VarHandle")
    {Wd : Nat} {Pre : Pt → Array Value → Prop} {Post : Pt → Array Value → Option Value → Pt → Prop} (hK : Back l R p e below s args z 3 Wd Pre Post)
    (eT : T.heap = h) {b : Addr} (E : Exa Z h b C) {argsL rest : List Value} (hg : g.method = m) (hsize : g.locals.size = c.maxLocals) (hlen : ∀ sig, parseMethodDescriptor y.desc = some sig → argsL.length = sig.parameters.length) (hstack : g.stack = argsL.reverse ++ .ref b :: rest) (hWd : 2 * g.monitorRoom + (rest.map fun v => v.category).sum ≤ Wd) (hd : decode c.code g.pc = .ok (.invokevirtual index, 3))
    (hpre : ∀ vm₁, Pre ⟨T.setVm vm₁, locs, cells, slots⟩ (.ref b :: argsL).toArray)
    (k : ∀ (v : Option Value) (vm₁ : Vm) (B : Pt), Stand p l e R s m args below meth c B.U B.locs B.cells B.slots → Post ⟨T.setVm vm₁, locs, cells, slots⟩ (.ref b :: argsL).toArray v B → Go p e below W B.U { g with pc := g.pc + 3, stack := v.toList ++ rest }) : Go p e below W T g := by
  obtain ⟨cB, kB, q1, q2, q3⟩ := isOf hZ eT E
  obtain ⟨v, vm₁, B, -, X', hP, st⟩ := X.virtualBack hx hown (mvT hZ w1) (mvT hZ w2) hnf (mvT hZ w3) (mvT hZ w4) hy hK q1 q3 hg hsize (Steps.refl _) hlen hstack hWd hd (fun vm₁ _ => hpre vm₁)
  exact (k v vm₁ B X' hP).st fun _ q => st.trans q
/-! calls, paid by a contract of one's own (Mt) -/
variable {Q' : Option Value → Heap → List Loc → Prop} {rm : Room} {as' : Array Value}
theorem Go.callS (X : Stand p l e R s m args below meth c T locs cells slots) (hx : p.tables.exec = Jvm.exec) (hZ : Z.Warmed39 s.vm) {own : String} {index : Nat} {y : MethodName} {bytes : ByteArray} {maxL : Nat} {ret : Option FieldType} (hown : s.vm.findClass own = some m.cls)
    (w1 : (Jvm.Cond.methodLink own index y).before a0 Z = true) (w2 : (Jvm.Cond.static y).before a0 Z = true) (w3 : (Jvm.Cond.initialized y.cls).before a0 Z = true) (w4 : (Jvm.Cond.code y bytes maxL ret).before a0 Z = true) (hy : y.cls ≠ "java/lang/invoke/MethodHandle" ∧ y.cls ≠ "java/lang/invoke/VarHandle") (Wd : Nat)
    (hM : Mt l Z y bytes maxL ret [] rm as' h Q') (eT : T.heap = h) (hf : rm.frames + 1 ≤ R.frames) (hl : Wd + (maxL + 11) + rm.locals ≤ R.locals) (hc : cells + rm.cells ≤ R.cells) (hs : slots + rm.slots ≤ R.slots)
    {argsL rest : List Value} (hg : g.method = m) (hsize : g.locals.size = c.maxLocals) (hlen : ∀ sig, parseMethodDescriptor y.desc = some sig → argsL.length = sig.parameters.length) (hstack : g.stack = argsL.reverse ++ rest) (ha : argsL.toArray = as') (hWd : 2 * g.monitorRoom + (rest.map fun v => v.category).sum ≤ Wd) (hd : decode c.code g.pc = .ok (.invokestatic index, 3))
    (k : ∀ (v : Option Value) (T' : State) (L : List Loc), Stand p l e R s m args below meth c T' (locs ++ L) (cells + rm.cells) (slots + rm.slots) → Q' v T'.heap L → Go p e below W T' { g with pc := g.pc + 3, stack := v.toList ++ rest }) : Go p e below W T g := by
  refine Go.callSB X hx hZ hown w1 w2 w3 w4 hy (backOf (W := Wd) hM hZ w4 w3 hf hl) hg hsize hlen hstack hWd hd (fun _ => ⟨ha, eT, hc, hs⟩) ?_
  rintro v vm₁ ⟨T1, L1, c1, n1⟩ X1 ⟨L, hQ, e1, e2, e3⟩
  dsimp only [Pt.U, Pt.locs, Pt.cells, Pt.slots] at X1 e1 e2 e3 hQ ⊢
  subst e1 e2 e3
  exact k v T1 L X1 hQ
theorem Go.callN (X : Stand p l e R s m args below meth c T locs cells slots) (hx : p.tables.exec = Jvm.exec) (hZ : Z.Warmed39 s.vm) {own : String} {index : Nat} {y : MethodName} {bytes : ByteArray} {maxL : Nat} (hy1 : y.name = "<init>") (hown : s.vm.findClass own = some m.cls)
    (w1 : (Jvm.Cond.methodLink own index y).before a0 Z = true) (w2 : (Jvm.Cond.instanceMethod y).before a0 Z = true) (w3 : (Jvm.Cond.initialized y.cls).before a0 Z = true) (w4 : (Jvm.Cond.code y bytes maxL none).before a0 Z = true) (hy : y.cls ≠ "java/lang/invoke/MethodHandle" ∧ y.cls ≠ "java/lang/invoke/VarHandle") (Wd : Nat)
    (hM : Mt l Z y bytes maxL none [] rm as' h Q') (eT : T.heap = h) (hf : rm.frames + 1 ≤ R.frames) (hl : Wd + (maxL + 11) + rm.locals ≤ R.locals) (hc : cells + rm.cells ≤ R.cells) (hs : slots + rm.slots ≤ R.slots)
    {a : Addr} {argsL rest : List Value} (hg : g.method = m) (hsize : g.locals.size = c.maxLocals) (hlen : ∀ sig, parseMethodDescriptor y.desc = some sig → argsL.length = sig.parameters.length) (hstack : g.stack = argsL.reverse ++ .ref a :: rest) (ha : (Value.ref a :: argsL).toArray = as') (hWd : 2 * g.monitorRoom + (rest.map fun v => v.category).sum ≤ Wd) (hd : decode c.code g.pc = .ok (.invokespecial index, 3))
    (k : ∀ (v : Option Value) (T' : State) (L : List Loc), Stand p l e R s m args below meth c T' (locs ++ L) (cells + rm.cells) (slots + rm.slots) → Q' v T'.heap L → Go p e below W T' { g with pc := g.pc + 3, stack := v.toList ++ rest }) : Go p e below W T g := by
  refine Go.callNB X hx hZ hy1 hown w1 w2 w4 hy (backOf (W := Wd) hM hZ w4 w3 hf hl) hg hsize hlen hstack hWd hd (fun _ => ⟨ha, eT, hc, hs⟩) ?_
  rintro v vm₁ ⟨T1, L1, c1, n1⟩ X1 ⟨L, hQ, e1, e2, e3⟩
  dsimp only [Pt.U, Pt.locs, Pt.cells, Pt.slots] at X1 e1 e2 e3 hQ ⊢
  subst e1 e2 e3
  exact k v T1 L X1 hQ
theorem Go.callV (X : Stand p l e R s m args below meth c T locs cells slots) (hx : p.tables.exec = Jvm.exec) (hZ : Z.Warmed39 s.vm) {own C : String} {index : Nat} {y z : MethodName} {bytes : ByteArray} {maxL : Nat} {ret : Option FieldType} (hown : s.vm.findClass own = some m.cls)
    (w1 : (Jvm.Cond.methodLink own index y).before a0 Z = true) (w2 : (Jvm.Cond.declares y).before a0 Z = true) (hnf : NotFace s y) (w3 : (Jvm.Cond.selects C y z).before a0 Z = true) (w4 : (Jvm.Cond.instanceMethod z).before a0 Z = true) (w5 : (Jvm.Cond.initialized z.cls).before a0 Z = true) (w6 : (Jvm.Cond.code z bytes maxL ret).before a0 Z = true) (hy : y.cls ≠ "java/lang/invoke/MethodHandle" ∧ y.cls ≠ "java/lang/invoke/VarHandle") (Wd : Nat)
    (hM : Mt l Z z bytes maxL ret [] rm as' h Q') (eT : T.heap = h) (hf : rm.frames + 1 ≤ R.frames) (hl : Wd + (maxL + 11) + rm.locals ≤ R.locals) (hc : cells + rm.cells ≤ R.cells) (hs : slots + rm.slots ≤ R.slots)
    {b : Addr} (E : Exa Z h b C) {argsL rest : List Value} (hg : g.method = m) (hsize : g.locals.size = c.maxLocals) (hlen : ∀ sig, parseMethodDescriptor y.desc = some sig → argsL.length = sig.parameters.length) (hstack : g.stack = argsL.reverse ++ .ref b :: rest) (ha : (Value.ref b :: argsL).toArray = as') (hWd : 2 * g.monitorRoom + (rest.map fun v => v.category).sum ≤ Wd) (hd : decode c.code g.pc = .ok (.invokevirtual index, 3))
    (k : ∀ (v : Option Value) (T' : State) (L : List Loc), Stand p l e R s m args below meth c T' (locs ++ L) (cells + rm.cells) (slots + rm.slots) → Q' v T'.heap L → Go p e below W T' { g with pc := g.pc + 3, stack := v.toList ++ rest }) : Go p e below W T g := by
  refine Go.callVB X hx hZ hown w1 w2 hnf w3 w4 hy (backOf (W := Wd) hM hZ w6 w5 hf hl) eT E hg hsize hlen hstack hWd hd (fun _ => ⟨ha, eT, hc, hs⟩) ?_
  rintro v vm₁ ⟨T1, L1, c1, n1⟩ X1 ⟨L, hQ, e1, e2, e3⟩
  dsimp only [Pt.U, Pt.locs, Pt.cells, Pt.slots] at X1 e1 e2 e3 hQ ⊢
  subst e1 e2 e3
  exact k v T1 L X1 hQ
end Own

/-! own prelude, arrays: Ary Z h a ty vs: at a lies an array of kind ty that holds just vs -/
theorem own_nat {n : Nat} (h : n < 2 ^ 31) : (Int32.ofNat n).toNatClampNeg = n ∧ ¬ Int32.ofNat n < 0 ∧ (Int32.ofNat n).toInt = n := by
  have e : (Int32.ofNat n).toInt = n := Int32.toInt_ofNat_of_lt h
  refine ⟨?_, ?_, e⟩
  · simp only [Int32.toNatClampNeg, e]; rfl
  · rw [Int32.lt_iff_toInt_lt, e]; simp
theorem own_lt {i n : Nat} (hi : i < 2 ^ 31) (hn : n < 2 ^ 31) : Int32.ofNat i < Int32.ofNat n ↔ i < n := by
  rw [Int32.lt_iff_toInt_lt, (own_nat hi).2.2, (own_nat hn).2.2]; omega
theorem own_eq {i n : Nat} (hi : i < 2 ^ 31) (hn : n < 2 ^ 31) : Int32.ofNat i = Int32.ofNat n ↔ i = n := by
  constructor
  · intro h
    have := congrArg Int32.toInt h
    rw [(own_nat hi).2.2, (own_nat hn).2.2] at this; omega
  · rintro rfl; rfl
theorem own_add (i n : Nat) : Int32.ofNat i + Int32.ofNat n = Int32.ofNat (i + n) := (Int32.ofNat_add i n).symm
theorem own_sub {i n : Nat} (h : n ≤ i) : Int32.ofNat i - Int32.ofNat n = Int32.ofNat (i - n) := by
  have : Int32.ofNat i = Int32.ofNat (i - n) + Int32.ofNat n := by rw [own_add]; congr 1; omega
  rw [this]; exact Int32.add_sub_cancel _ _
def Ary (Z : State) (h : Heap) (a : Addr) (ty : FieldType) (vs : List Value) : Prop := vs.length < 2 ^ 31 ∧ ∃ k d, Arv Z h a k ty (Int32.ofNat vs.length) vs d
section OwnA
variable {p : Program} {l : Launch} {e : Env} {R : Room} {s : State} {m : MethodId} {args : Array Value} {below : List Frame} {meth : Method} {c : Code} {T T' : State} {locs : List Loc} {cells slots : Nat} {Z : State} {a0 : Array Value} {h h' : Heap} {a b : Addr} {ty : FieldType} {vs : List Value} {v w : Value} {sl i : Nat} {j : Int32} {g : JFrame} {rest : List Value} {ws : List Addr} {W : Outcome → State → Prop} {t : State}
theorem Ary.lt (A : Ary Z h a ty vs) : a < h.size := by obtain ⟨-, k, d, F⟩ := A; exact F.lt
theorem Ary.ext (A : Ary Z h a ty vs) (E : Ext h h') : Ary Z h' a ty vs := by obtain ⟨q, k, d, F⟩ := A; exact ⟨q, k, d, F.ext E⟩
theorem Ary.other (A : Ary Z h a ty vs) (Wq : Wr h h' b sl w) (q : a ≠ b) : Ary Z h' a ty vs := by obtain ⟨q', k, d, F⟩ := A; exact ⟨q', k, d, F.other Wq q⟩
theorem Ary.keep (A : Ary Z h a ty vs) (K : Keep h h' ws) (q : a ∉ ws) : Ary Z h' a ty vs := by obtain ⟨q', k, d, F⟩ := A; exact ⟨q', k, d, F.keep K q⟩
theorem Ary.at (A : Ary Z h a ty vs) (hi : vs[i]? = some v) (hj : j = Int32.ofNat i) : ∃ cl, Arr Z h a cl ty ∧ ¬ (j < 0 ∨ cl.slots.size ≤ j.toNatClampNeg) ∧ cl.slots[j.toNatClampNeg]? = some v := by
  obtain ⟨q, k, d, cl, A, r1, r2, r3, H, G⟩ := A
  have hl := (List.getElem?_eq_some_iff.mp hi).1
  have n1 := own_nat q
  have n2 := own_nat (Nat.lt_trans hl q)
  subst hj
  rw [n1.1] at r2
  refine ⟨cl, A, ?_, ?_⟩
  · rw [n2.1, r2]; exact fun z => z.elim n2.2.1 fun y => Nat.not_le.mpr hl y
  · rw [n2.1, H i (by rw [r2]; exact hl)]; simp [List.getD_eq_getElem?_getD, hi]
theorem Ary.inb (A : Ary Z h a ty vs) (hi : i < vs.length) (hj : j = Int32.ofNat i) : ∃ cl, Arr Z h a cl ty ∧ ¬ (j < 0 ∨ cl.slots.size ≤ j.toNatClampNeg) := by
  obtain ⟨cl, h1, h2, -⟩ := A.at (v := vs[i]) (List.getElem?_eq_getElem hi) hj
  exact ⟨cl, h1, h2⟩
theorem own_new {k : ClassId} {n : Nat} (q : n < 2 ^ 31) (A : Arr Z h a (newA k ty (Int32.ofNat n)) ty) : Ary Z h a ty (List.replicate n (defaultValue ty)) := by
  refine ⟨by simpa using q, k, defaultValue ty, ?_⟩
  have F := (Arv.new A (own_nat q).2.1).pad (pad_rep [] (defaultValue ty) n)
  simpa using F
theorem Ary.set (A : Ary Z h a ty vs) (hi : i < vs.length) (hj : j = Int32.ofNat i) (hv : fits ty v = true) (Wq : Wr h h' a j.toNatClampNeg v) : Ary Z h' a ty (vs.set i v) := by
  obtain ⟨q, k, d, cl, A, r1, r2, r3, H, G⟩ := A
  refine ⟨by simpa using q, k, d, ?_⟩
  rw [List.length_set]
  exact Arv.set A r1 r2 r3 H G hv Wq i (by rw [hj]; exact (own_nat (Nat.lt_trans hi q)).1) hi
theorem own_laload (X : Stand p l e R s m args below meth c T locs cells slots) (hx : p.tables.exec = Jvm.exec) (hZ : Z.Warmed39 s.vm) (eT : T.heap = h) (A : Ary Z h a .long vs) (hi : vs[i]? = some v) (hj : j = Int32.ofNat i) (hg : g.method = m) (hs : g.stack = .int j :: .ref a :: rest) (hd : decode c.code g.pc = .ok (.laload, 1))
    (k : Steps p.tables e below (T.setTop { g with pc := g.pc + 1, stack := v :: rest }) t) : Steps p.tables e below (T.setTop g) t := by
  obtain ⟨cl, h1, h2, h3⟩ := A.at hi hj
  exact X.laload hx (by rw [eT]; exact h1.1) (State.isArrayOf_alike hZ.alike h1.2.1) h1.2.2 h2 h3 hg hs hd _ k
theorem own_iaload (X : Stand p l e R s m args below meth c T locs cells slots) (hx : p.tables.exec = Jvm.exec) (hZ : Z.Warmed39 s.vm) (eT : T.heap = h) (A : Ary Z h a .int vs) (hi : vs[i]? = some v) (hj : j = Int32.ofNat i) (hg : g.method = m) (hs : g.stack = .int j :: .ref a :: rest) (hd : decode c.code g.pc = .ok (.iaload, 1))
    (k : Steps p.tables e below (T.setTop { g with pc := g.pc + 1, stack := v :: rest }) t) : Steps p.tables e below (T.setTop g) t := by
  obtain ⟨cl, h1, h2, h3⟩ := A.at hi hj
  exact X.iaload hx (by rw [eT]; exact h1.1) (State.isArrayOf_alike hZ.alike h1.2.1) h1.2.2 h2 h3 hg hs hd _ k
theorem own_caload (X : Stand p l e R s m args below meth c T locs cells slots) (hx : p.tables.exec = Jvm.exec) (hZ : Z.Warmed39 s.vm) (eT : T.heap = h) (A : Ary Z h a .char vs) (hi : vs[i]? = some v) (hj : j = Int32.ofNat i) (hg : g.method = m) (hs : g.stack = .int j :: .ref a :: rest) (hd : decode c.code g.pc = .ok (.caload, 1))
    (k : Steps p.tables e below (T.setTop { g with pc := g.pc + 1, stack := v :: rest }) t) : Steps p.tables e below (T.setTop g) t := by
  obtain ⟨cl, h1, h2, h3⟩ := A.at hi hj
  exact X.caload hx (by rw [eT]; exact h1.1) (State.isArrayOf_alike hZ.alike h1.2.1) h1.2.2 h2 h3 hg hs hd _ k
theorem own_baload (X : Stand p l e R s m args below meth c T locs cells slots) (hx : p.tables.exec = Jvm.exec) (hZ : Z.Warmed39 s.vm) (eT : T.heap = h) (A : Ary Z h a .byte vs) (hi : vs[i]? = some v) (hj : j = Int32.ofNat i) (hg : g.method = m) (hs : g.stack = .int j :: .ref a :: rest) (hd : decode c.code g.pc = .ok (.baload, 1))
    (k : Steps p.tables e below (T.setTop { g with pc := g.pc + 1, stack := v :: rest }) t) : Steps p.tables e below (T.setTop g) t := by
  obtain ⟨cl, h1, h2, h3⟩ := A.at hi hj
  exact X.baloadBytes hx (by rw [eT]; exact h1.1) (State.isArrayOf_alike hZ.alike h1.2.1) h1.2.2 h2 h3 hg hs hd _ k
theorem own_aaload (X : Stand p l e R s m args below meth c T locs cells slots) (hx : p.tables.exec = Jvm.exec) (hZ : Z.Warmed39 s.vm) (eT : T.heap = h) (A : Ary Z h a ty vs) (hty : ty.isReference = true) (hi : vs[i]? = some v) (hj : j = Int32.ofNat i) (hg : g.method = m) (hs : g.stack = .int j :: .ref a :: rest) (hd : decode c.code g.pc = .ok (.aaload, 1))
    (k : Steps p.tables e below (T.setTop { g with pc := g.pc + 1, stack := v :: rest }) t) : Steps p.tables e below (T.setTop g) t := by
  obtain ⟨cl, h1, h2, h3⟩ := A.at hi hj
  exact X.aaload hx (by rw [eT]; exact h1.1) (State.isArrayOf_alike hZ.alike h1.2.1) hty h1.2.2 h2 h3 hg hs hd _ k
theorem own_alen (X : Stand p l e R s m args below meth c T locs cells slots) (hx : p.tables.exec = Jvm.exec) (hZ : Z.Warmed39 s.vm) (eT : T.heap = h) (A : Ary Z h a ty vs) {n : Nat} (hn : vs.length = n) (hg : g.method = m) (hs : g.stack = .ref a :: rest) (hd : decode c.code g.pc = .ok (.arraylength, 1))
    (k : Steps p.tables e below (T.setTop { g with pc := g.pc + 1, stack := .int (Int32.ofNat n) :: rest }) t) : Steps p.tables e below (T.setTop g) t := by
  subst hn
  obtain ⟨q, k', d, cl, A, r1, r2, r3, H, G⟩ := A
  refine X.arraylength hx (by rw [eT]; exact A.1) (State.isArrayOf_alike hZ.alike A.2.1) hg hs hd _ ?_
  rw [len_of r2 r3]; exact k
theorem Go.lastore (X : Stand p l e R s m args below meth c T locs cells slots) (hx : p.tables.exec = Jvm.exec) (hZ : Z.Warmed39 s.vm) (eT : T.heap = h) (A : Ary Z h a .long vs) {x : Int64} (hi : i < vs.length) (hj : j = Int32.ofNat i) (hg : g.method = m) (hs : g.stack = .long x :: .int j :: .ref a :: rest) (hd : decode c.code g.pc = .ok (.lastore, 1))
    (k : ∀ (T' : State) (h' : Heap), Stand p l e R s m args below meth c T' (locs ++ [⟨a, j.toNatClampNeg⟩]) cells slots → T'.heap = h' → Wr h h' a j.toNatClampNeg (.long x) → Ary Z h' a .long (vs.set i (.long x)) → Go p e below W T' { g with pc := g.pc + 1, stack := rest }) : Go p e below W T g := by
  obtain ⟨cl, h1, h2⟩ := A.inb hi hj
  obtain ⟨T', h', X', e', W', st⟩ := stJ X hx hZ eT h1 h2 hg hs hd
  exact (k T' h' X' e' W' (A.set hi hj rfl W')).st st
theorem Go.iastore (X : Stand p l e R s m args below meth c T locs cells slots) (hx : p.tables.exec = Jvm.exec) (hZ : Z.Warmed39 s.vm) (eT : T.heap = h) (A : Ary Z h a .int vs) {x : Int32} (hi : i < vs.length) (hj : j = Int32.ofNat i) (hg : g.method = m) (hs : g.stack = .int x :: .int j :: .ref a :: rest) (hd : decode c.code g.pc = .ok (.iastore, 1))
    (k : ∀ (T' : State) (h' : Heap), Stand p l e R s m args below meth c T' (locs ++ [⟨a, j.toNatClampNeg⟩]) cells slots → T'.heap = h' → Wr h h' a j.toNatClampNeg (.int x) → Ary Z h' a .int (vs.set i (.int x)) → Go p e below W T' { g with pc := g.pc + 1, stack := rest }) : Go p e below W T g := by
  obtain ⟨cl, h1, h2⟩ := A.inb hi hj
  obtain ⟨T', h', X', e', W', st⟩ := stI X hx hZ eT h1 h2 hg hs hd
  exact (k T' h' X' e' W' (A.set hi hj rfl W')).st st
theorem Go.castore (X : Stand p l e R s m args below meth c T locs cells slots) (hx : p.tables.exec = Jvm.exec) (hZ : Z.Warmed39 s.vm) (eT : T.heap = h) (A : Ary Z h a .char vs) {x y : Int32} (hn : nar .char x = y) (hi : i < vs.length) (hj : j = Int32.ofNat i) (hg : g.method = m) (hs : g.stack = .int x :: .int j :: .ref a :: rest) (hd : decode c.code g.pc = .ok (.castore, 1))
    (k : ∀ (T' : State) (h' : Heap), Stand p l e R s m args below meth c T' (locs ++ [⟨a, j.toNatClampNeg⟩]) cells slots → T'.heap = h' → Wr h h' a j.toNatClampNeg (.int y) → Ary Z h' a .char (vs.set i (.int y)) → Go p e below W T' { g with pc := g.pc + 1, stack := rest }) : Go p e below W T g := by
  obtain ⟨cl, h1, h2⟩ := A.inb hi hj
  obtain ⟨T', h', X', e', W', st⟩ := stC X hx hZ eT h1 h2 hg hs hd
  rw [hn] at W'
  exact (k T' h' X' e' W' (A.set hi hj (hn ▸ fits_nar_char x) W')).st st
theorem Go.bastore (X : Stand p l e R s m args below meth c T locs cells slots) (hx : p.tables.exec = Jvm.exec) (hZ : Z.Warmed39 s.vm) (eT : T.heap = h) (A : Ary Z h a .byte vs) {x : Int32} (hi : i < vs.length) (hj : j = Int32.ofNat i) (hg : g.method = m) (hs : g.stack = .int x :: .int j :: .ref a :: rest) (hd : decode c.code g.pc = .ok (.bastore, 1))
    (k : ∀ (T' : State) (h' : Heap), Stand p l e R s m args below meth c T' (locs ++ [⟨a, j.toNatClampNeg⟩]) cells slots → T'.heap = h' → Wr h h' a j.toNatClampNeg (.int x.toInt8.toInt32) → Ary Z h' a .byte (vs.set i (.int x.toInt8.toInt32)) → Go p e below W T' { g with pc := g.pc + 1, stack := rest }) : Go p e below W T g := by
  obtain ⟨cl, h1, h2⟩ := A.inb hi hj
  obtain ⟨T', h', X', e', W', st⟩ := stB X hx hZ eT h1 h2 hg hs hd
  exact (k T' h' X' e' W' (A.set hi hj (fits_nar_byte x) W')).st st
theorem Go.newP (X : Stand p l e R s m args below meth c T locs cells slots) (hx : p.tables.exec = Jvm.exec) (hZ : Z.Warmed39 s.vm) {aty : ArrayType} (w : (Jvm.Cond.arrayClass (newarray.typeOf aty)).before a0 Z = true) (eT : T.heap = h) (hg : g.method = m) (hd : decode c.code g.pc = .ok (.newarray aty, 2)) {j : Int32} {n : Nat} (hs : g.stack = .int j :: rest) (hj : j = Int32.ofNat n)
    (cap : Nat) (hcap : n ≤ cap) (hb : cap * 8 ≤ 536870912) (hc : cells + 1 ≤ R.cells) (hl : slots + cap ≤ R.slots)
    (k : ∀ (T' : State) (h' : Heap) (b : Addr), Stand p l e R s m args below meth c T' locs (cells + 1) (slots + cap) → T'.heap = h' → Ext h h' → b = h.size → Ary Z h' b (newarray.typeOf aty) (List.replicate n (defaultValue (newarray.typeOf aty))) → Go p e below W T' { g with pc := g.pc + 2, stack := .ref b :: rest }) : Go p e below W T g := by
  have q : n < 2 ^ 31 := by omega
  have n1 := own_nat q
  subst hj
  obtain ⟨T', h', cA, X', e', E', A', st⟩ := RoadKit.newP X hx hZ w eT hg hd hs n1.2.1 (cap := cap) (by rw [n1.1]; exact hcap) hb hc hl
  exact (k T' h' _ X' e' E' rfl (own_new q A')).st st
end OwnA

/-! own prelude, literals: walks that may load String constants (ldc), with what the constants hold (CHv of the library) -/
def HS (Z : State) (EL : List (String × Nat)) (s : State) (h0 : Heap) (vm : Vm) (h : Heap) : Prop := (∃ k, s.Since vm k ∧ k ≤ h.size) ∧ CHr Z EL s.vm h0 vm h
def WfH (Z : State) (EL : List (String × Nat)) (s : State) (rc rs : Nat) (Q : Option Value → Heap → List Loc → Prop) (o : Outcome) (t : State) : Prop := ∃ v L, o = .returned v ∧ Q v t.heap L ∧ CHr Z EL s.vm s.heap t.vm t.heap ∧ ReturnedEndW s o t L rc rs
def MtH (l : Launch) (Z : State) (EL : List (String × Nat)) (y : MethodName) (bytes : ByteArray) (ml : Nat) (ret : Option FieldType) (ws : List Jvm.Cond) (rm : Room) (as' : Array Value) (h0 : Heap) (Q : Option Value → Heap → List Loc → Prop) : Prop :=
  MetFree l y (head1 (Jvm.Cond.code y bytes ml ret :: ws) rm) (fun a U => a = as' ∧ Z.Warmed39 U.vm ∧ U.heap = h0 ∧ CHv Z EL U.vm h0) (fun _ _ _ _ _ => True) (fun _ U o U' => ∃ v L, o = .returned v ∧ Q v U'.heap L ∧ CHr Z EL U.vm U.heap U'.vm U'.heap ∧ ReturnedEndW U o U' L rm.cells rm.slots)
section OwnH
variable {p : Program} {l : Launch} {e : Env} {R : Room} {s : State} {m : MethodId} {args : Array Value} {below : List Frame} {meth : Method} {c : Code} {T T' : State} {locs : List Loc} {cells slots : Nat} {Z : State} {a0 : Array Value} {h h' h0 : Heap} {EL : List (String × Nat)} {vm0 : Vm} {g : JFrame} {W : Outcome → State → Prop} {Q Q' : Option Value → Heap → List Loc → Prop} {rc rs : Nat} {a x : Addr} {sl : Nat} {v : Value} {ws : List Addr} {rm : Room} {as' : Array Value}
theorem HS.ext (H : HS Z EL s h0 vm0 h) (E : Ext h h') : HS Z EL s h0 vm0 h' := ⟨by obtain ⟨k, a, b⟩ := H.1; exact ⟨k, a, Nat.le_trans b E.1⟩, H.2.trans (CHr.ext E H.2.1)⟩
theorem HS.wr (H : HS Z EL s h0 vm0 h) (Wq : Wr h h' a sl v) (S : Safe Z EL vm0 h a) : HS Z EL s h0 vm0 h' := ⟨by obtain ⟨k, q, b⟩ := H.1; exact ⟨k, q, by rw [Wq.size]; exact b⟩, H.2.trans (CHr.wr Wq S H.2.1)⟩
theorem HS.keep (H : HS Z EL s h0 vm0 h) (K : Keep h h' ws) (hs : ∀ x ∈ ws, Safe Z EL vm0 h x) : HS Z EL s h0 vm0 h' := ⟨by obtain ⟨k, q, b⟩ := H.1; exact ⟨k, q, Nat.le_trans b K.1⟩, H.2.trans (CHr.keep K hs H.2.1)⟩
theorem own_arySafe {ty : FieldType} {vs : List Value} (hal : Z.vm.Alike vm0) (A : Ary Z h x ty vs) (ht : ty ≠ .byte) : Safe Z EL vm0 h x := by obtain ⟨-, k, d, F⟩ := A; exact Safe.arv hal F ht
/-- no literal's cell, and there -/
def Sf (Z : State) (EL : List (String × Nat)) (vm : Vm) (h : Heap) (x : Addr) : Prop := Safe Z EL vm h x ∧ x < h.size
theorem Sf.ext (H : HS Z EL s h0 vm0 h) (E : Ext h h') (S : Sf Z EL vm0 h x) : Sf Z EL vm0 h' x := ⟨Safe.ext E H.2.1 S.1, Nat.lt_of_lt_of_le S.2 E.1⟩
theorem Sf.wr (H : HS Z EL s h0 vm0 h) (Wq : Wr h h' a sl v) (Sa : Safe Z EL vm0 h a) (S : Sf Z EL vm0 h x) : Sf Z EL vm0 h' x := ⟨Safe.wr Wq Sa H.2.1 S.1, by rw [Wq.size]; exact S.2⟩
theorem Sf.keep (H : HS Z EL s h0 vm0 h) (K : Keep h h' ws) (hs : ∀ x ∈ ws, Safe Z EL vm0 h x) (S : Sf Z EL vm0 h x) : Sf Z EL vm0 h' x := ⟨Safe.keep K hs H.2.1 S.1, Nat.lt_of_lt_of_le S.2 K.1⟩
theorem Sf.vm {vm1 : Vm} (hz : h.size ≤ h'.size) (C : ∀ x, x < h.size → Safe Z EL vm0 h x → Safe Z EL vm1 h' x) (S : Sf Z EL vm0 h x) : Sf Z EL vm1 h' x := ⟨C x S.2 S.1, Nat.lt_of_lt_of_le S.2 hz⟩
theorem Sf.born (H : HS Z EL s h0 vm0 h) (E : Ext h h') (q : x = h.size) (lt : x < h'.size) : Sf Z EL vm0 h' x := ⟨Safe.ext E H.2.1 (Safe.new (Nat.le_of_eq q.symm)), lt⟩
theorem Sf.bornK (H : HS Z EL s h0 vm0 h) (K : Keep h h' ws) (hs : ∀ x ∈ ws, Safe Z EL vm0 h x) (hz : h.size ≤ x) (lt : x < h'.size) : Sf Z EL vm0 h' x := ⟨Safe.keep K hs H.2.1 (Safe.new hz), lt⟩
/-- a String that has no bytes yet is no literal's -/
theorem own_nullSafe {vm : Vm} (hal : Z.vm.Alike vm) (E : Exa Z h x "java/lang/String") (Fv : Fld Z h x "java/lang/String" "value" "[B" .null) : Safe Z EL vm h x := fun B => by
  obtain ⟨p, -, u, a, -, q, -, F, e | e⟩ := B
  · have ha : h[q.sa]? = some q.sC := F.ha
    obtain ⟨cS, ⟨⟨-, -, -, ⟨c1, k1, i1, f1, -⟩, -, -, -, v1, -⟩, -⟩, -⟩ := F
    obtain ⟨cell, cf, k, i, f, g1, g2, -, -, -, -, g7⟩ := Fv
    rw [e] at g1
    cases ha.symm.trans g1
    obtain ⟨k3, e3, -⟩ := State.fieldFound?_setVm (s := Z) hal g2
    have e4 := (show (Wst Z vm h).fieldFound? _ _ _ = _ from e3).symm.trans f1
    simp only [Option.some.injEq, Prod.mk.injEq] at e4
    rw [← e4.2.2.2, g7] at v1
    simp at v1
  · have hd : h[q.sd]? = some q.SA := F.hd
    obtain ⟨cell, k, e1, e2, e3, -, -⟩ := E
    rw [e] at e1
    cases hd.symm.trans e1
    obtain ⟨cS, -, -, f, -⟩ := F
    have f' : vm.findClass "[B" = some q.SA.cls := f
    rw [hal.findClass] at f'
    obtain ⟨k1, q1, q2⟩ := Vm.findClass_spec f'
    obtain ⟨k2, q3, q4⟩ := Vm.findClass_spec e2
    cases q1.symm.trans q3
    exact absurd (q2.symm.trans q4) (by decide)
theorem MtH.body {y : MethodName} {bytes : ByteArray} {ml : Nat} {ret : Option FieldType} {ws : List Jvm.Cond} (hpn : plainFor y = true)
    (body : ∀ (p : Program) (e : Env) (s : State) (m : MethodId) (below : List Frame) (meth : Method) (c : Code) (s₁ : State), p.tables.exec = Jvm.exec → c.code = bytes → c.maxLocals = ml → s.vm.findClass y.cls = some m.cls → meth.name = y.name → meth.sig.returnType = ret → meth.locks = false →
      Z.Warmed39 s.vm → Stand p l e rm (s.setVm s.vm) m as' below meth c s₁ [] 0 0 → s₁.heap = h0 → HS Z EL s s.heap s.vm h0 → Go p e below (WfH Z EL s rm.cells rm.slots Q) s₁ (entryFrame m as' ml)) : MtH l Z EL y bytes ml ret ws rm as' h0 Q := by
  refine MetFree.of_bodySF hpn hisR ?_
  intro p e s m args below meth c s₁ Bd hml0 hP hK
  obtain ⟨rfl, hZ, hh, hH⟩ := hP
  have := body p e s m below meth c s₁ Bd.exec Bd.bytes hml0 (findClass_of_methodNamed Bd.named) (name_of_methodNamed Bd.named Bd.method).1 Bd.returns Bd.notSynchronized hZ (Stand.of_body Bd) (by rw [← hh, Bd.state]; rfl) ⟨⟨h0.size, (State.WarmedH.refl s).since _, Nat.le_refl _⟩, by rw [hh]; exact CHr.refl hH⟩
  obtain ⟨s₂, o, h1, h2, h3, v, L, h4, h5, h6, h7⟩ := this
  exact ⟨s₂, o, h1, h2, h3, v, L, h4, h5, h6, h7⟩
theorem own_endH (X : Stand p l e R (s.setVm vm0) m args below meth c T locs cells slots) (hZ : Z.Warmed39 vm0) (hEL : EW Z a0 EL) (H : HS Z EL s s.heap vm0 T.heap) (hc : cells ≤ rc) (hs : slots ≤ rs) {fs : List Frame} {v : Option Value} (hr : ReturnedEndW s (.returned v) (T.setFrames fs) locs cells slots) (hq : Q v T.heap locs) : WfH Z EL s rc rs Q (.returned v) (T.setFrames fs) := by
  have q : CHr Z EL vm0 T.heap T.vm T.heap := CHv.at X hZ hEL H.2.1
  have q2 : CHr Z EL s.vm s.heap T.vm T.heap := H.2.trans q
  exact ⟨v, locs, rfl, hq, q2, hr.1, hr.2.1, hr.2.2.1, hr.2.2.2.mono hc hs⟩
theorem Go.retVH (X : Stand p l e R (s.setVm vm0) m args below meth c T locs cells slots) (hx : p.tables.exec = Jvm.exec) (hlk : meth.locks = false) (hret : meth.sig.returnType = none) {pc : Nat} {Ls : Array Slot} (hd : decode c.code pc = .ok (.return_, 1)) (hc : cells ≤ rc) (hs : slots ≤ rs) (hZ : Z.Warmed39 vm0) (hEL : EW Z a0 EL) (H : HS Z EL s s.heap vm0 T.heap) (hq : Q none T.heap locs) : Go p e below (WfH Z EL s rc rs Q) T (mkF m pc Ls []) := by
  obtain ⟨k, hS, hk⟩ := H.1
  obtain ⟨fs, hr, hrun, hended, hE⟩ := X.leaveW (v := none) hS hk (fun _ => rfl) hlk
  exact ⟨_, _, X.returnOut hx hret hd hr, hrun, hended, own_endH X hZ hEL H hc hs hE hq⟩
theorem Go.retAH (X : Stand p l e R (s.setVm vm0) m args below meth c T locs cells slots) (hx : p.tables.exec = Jvm.exec) (hlk : meth.locks = false) {t : FieldType} (hret : meth.sig.returnType = some t) (ht : t.isReference = true) {pc : Nat} {Ls : Array Slot} {v : Value} (hv : v.isRef = true) {st : List Value} (hd : decode c.code pc = .ok (.areturn, 1)) (hc : cells ≤ rc) (hs : slots ≤ rs) (hZ : Z.Warmed39 vm0) (hEL : EW Z a0 EL) (H : HS Z EL s s.heap vm0 T.heap) (hq : Q (some v) T.heap locs) : Go p e below (WfH Z EL s rc rs Q) T (mkF m pc Ls (v :: st)) := by
  obtain ⟨k, hS, hk⟩ := H.1
  obtain ⟨fs, hr, hrun, hended, hE⟩ := X.leaveW (v := some v) hS hk (fun h => by rw [hret] at h; cases h) hlk
  exact ⟨_, _, own_retA X hx hv hret ht hd hr, hrun, hended, own_endH X hZ hEL H hc hs hE hq⟩
theorem Go.retIH (X : Stand p l e R (s.setVm vm0) m args below meth c T locs cells slots) (hx : p.tables.exec = Jvm.exec) (hlk : meth.locks = false) (hret : meth.sig.returnType = some .int) {pc : Nat} {Ls : Array Slot} {z : Int32} {st : List Value} (hd : decode c.code pc = .ok (.ireturn, 1)) (hc : cells ≤ rc) (hs : slots ≤ rs) (hZ : Z.Warmed39 vm0) (hEL : EW Z a0 EL) (H : HS Z EL s s.heap vm0 T.heap) (hq : Q (some (.int z)) T.heap locs) : Go p e below (WfH Z EL s rc rs Q) T (mkF m pc Ls (.int z :: st)) := by
  obtain ⟨k, hS, hk⟩ := H.1
  obtain ⟨fs, hr, hrun, hended, hE⟩ := X.leaveW (v := some (.int z)) hS hk (fun h => by rw [hret] at h; cases h) hlk
  exact ⟨_, _, own_retI X hx hret hd hr, hrun, hended, own_endH X hZ hEL H hc hs hE hq⟩
theorem Go.retNH (X : Stand p l e R (s.setVm vm0) m args below meth c T locs cells slots) (hx : p.tables.exec = Jvm.exec) (hlk : meth.locks = false) {t : FieldType} (hret : meth.sig.returnType = some t) (ht : t = .boolean ∨ t = .byte ∨ t = .char ∨ t = .short) {pc : Nat} {Ls : Array Slot} {z z' : Int32} {st : List Value} (hn : narrow t (.int z) = .int z') (hd : decode c.code pc = .ok (.ireturn, 1)) (hc : cells ≤ rc) (hs : slots ≤ rs) (hZ : Z.Warmed39 vm0) (hEL : EW Z a0 EL) (H : HS Z EL s s.heap vm0 T.heap) (hq : Q (some (.int z')) T.heap locs) : Go p e below (WfH Z EL s rc rs Q) T (mkF m pc Ls (.int z :: st)) := by
  obtain ⟨k, hS, hk⟩ := H.1
  obtain ⟨fs, hr, hrun, hended, hE⟩ := X.leaveW (v := some (.int z')) hS hk (fun h => by rw [hret] at h; cases h) hlk
  refine ⟨_, _, ?_, hrun, hended, own_endH X hZ hEL H hc hs hE hq⟩
  have hm' : T.vm.method? m = some meth := X.method'
  show Steps p.tables e below (T.setTop { method := m, pc := pc, locals := Ls, stack := _ :: st, locked := none }) _
  rcases ht with rfl | rfl | rfl | rfl
  all_goals
    jvm_step X.here [X.here.top, hx, hd, hm', hret, hn]
    first | (intro acts; rw [hr _ acts rfl rfl rfl]) | rw [hr _ _ rfl rfl rfl]
    exact Steps.refl _
theorem Go.ldcH (X : Stand p l e R (s.setVm vm0) m args below meth c T locs cells slots) (hx : p.tables.exec = Jvm.exec) (hZ : Z.Warmed39 vm0) {own text : String} {index : Nat} (hown : vm0.findClass own = some m.cls) (w : (Jvm.Cond.stringLink own index text).before a0 Z = true) (wS : ∀ a ∈ Bundle.stringAtoms, a.before a0 Z = true)
    (eT : T.heap = h) (H : HS Z EL s h0 vm0 h) (hEL : EW Z a0 EL) (hmem : (own, index) ∈ EL) {vs : List Value} (ht : (∀ c ∈ text.toList, c.toNat < 256) ∧ text.toList.map (fun c => Value.int (Jvm.Lit.byteI c.toNat.toUInt16)) = vs) (hvl : vs.length < 2 ^ 31)
    (hg : g.method = m) (hd : decode c.code g.pc = .ok (.ldc index, 2)) (n : Nat) (hn : 4 * text.toList.length ≤ n) (hbig : n ≤ 536870912) (hc : cells + 2 ≤ R.cells) (hl' : slots + (n + 4) ≤ R.slots)
    (k : ∀ (a b : Addr) (T' : State) (h' : Heap), Stand p l e R (s.setVm T'.vm) m args below meth c T' locs (cells + 2) (slots + (n + 4)) → T'.heap = h' → Ext h h' → Z.Warmed39 T'.vm → T'.vm.findClass own = some m.cls → HS Z EL s h0 T'.vm h' →
      Exa Z h' a "java/lang/String" → Fld Z h' a "java/lang/String" "coder" "B" (.int 0) → Fld Z h' a "java/lang/String" "value" "[B" (.ref b) → Ary Z h' b .byte vs → (∀ x, x < h.size → Safe Z EL vm0 h x → Safe Z EL T'.vm h' x) → (∀ x, Safe Z EL T'.vm h' x → x ≠ a ∧ x ≠ b) →
      Go p e below W T' { g with pc := g.pc + 2, stack := .ref a :: g.stack }) : Go p e below W T g := by
  obtain ⟨k0, hS, hk⟩ := H.1
  have n1 := own_nat hvl
  obtain ⟨a, T', h', k1, b, kk, X', e', E', hS', hk', hZ', ho', A1, F1, F2, V1, -, -, C1, -, D1, st⟩ := ldcCH X hx hZ hown w wS eT hS hk hEL hmem H.2.1 ht n1.2.1 n1.1 hg hd hn hbig hc hl'
  exact (k a b T' h' X' e' E' hZ' ho' ⟨⟨k1, hS', hk'⟩, H.2.trans C1⟩ A1 F1 F2 ⟨hvl, kk, _, V1⟩ (fun x hx' S => C1.safe hx' S) D1).st st
theorem Go.callNH (X : Stand p l e R (s.setVm vm0) m args below meth c T locs cells slots) (hx : p.tables.exec = Jvm.exec) (hZ : Z.Warmed39 vm0) {own : String} {index : Nat} {y : MethodName} {bytes : ByteArray} {maxL : Nat} (hy1 : y.name = "<init>") (hown : vm0.findClass own = some m.cls)
    (w1 : (Jvm.Cond.methodLink own index y).before a0 Z = true) (w2 : (Jvm.Cond.instanceMethod y).before a0 Z = true) (w3 : (Jvm.Cond.initialized y.cls).before a0 Z = true) (w4 : (Jvm.Cond.code y bytes maxL none).before a0 Z = true) (hy : y.cls ≠ "java/lang/invoke/MethodHandle" ∧ y.cls ≠ "java/lang/invoke/VarHandle") (Wd : Nat) (H : HS Z EL s h0 vm0 h) (hEL : EW Z a0 EL)
    (hM : MtH l Z EL y bytes maxL none [] rm as' h Q') (eT : T.heap = h) (hf : rm.frames + 1 ≤ R.frames) (hl : Wd + (maxL + 11) + rm.locals ≤ R.locals) (hc : cells + rm.cells ≤ R.cells) (hs : slots + rm.slots ≤ R.slots)
    {a : Addr} {argsL rest : List Value} (hg : g.method = m) (hsize : g.locals.size = c.maxLocals) (hlen : ∀ sig, parseMethodDescriptor y.desc = some sig → argsL.length = sig.parameters.length) (hstack : g.stack = argsL.reverse ++ .ref a :: rest) (ha : (Value.ref a :: argsL).toArray = as') (hWd : 2 * g.monitorRoom + (rest.map fun v => v.category).sum ≤ Wd) (hd : decode c.code g.pc = .ok (.invokespecial index, 3))
    (k : ∀ (v : Option Value) (T' : State) (L : List Loc), Stand p l e R (s.setVm T'.vm) m args below meth c T' (locs ++ L) (cells + rm.cells) (slots + rm.slots) → Q' v T'.heap L → Z.Warmed39 T'.vm → T'.vm.findClass own = some m.cls → HS Z EL s h0 T'.vm T'.heap → (∀ x, x < h.size → Safe Z EL vm0 h x → Safe Z EL T'.vm T'.heap x) → Go p e below W T' { g with pc := g.pc + 3, stack := v.toList ++ rest }) : Go p e below W T g := by
  obtain ⟨k0, hS, hk⟩ := H.1
  obtain ⟨v, vm₁, ⟨T1, L1, c1, n1⟩, -, X1, hS1, hg1, hP, st⟩ := X.specialBackS hx hy1 hown (mvT (s := s.setVm vm0) hZ w1) (mvT (s := s.setVm vm0) hZ w2) (mvT (s := s.setVm vm0) hZ w4) hy (backOfSH (W := Wd) (a0 := a0) hM hZ w4 w3 hf hl hEL H.2.1) hg hsize (Steps.refl _) hlen hstack hWd hd (fun _ _ => ⟨ha, eT, hc, hs⟩)
  obtain ⟨L, hQ, e1, e2, e3, C1⟩ := hP
  dsimp only [Pt.U, Pt.locs, Pt.cells, Pt.slots] at X1 e1 e2 e3 hQ C1 hS1 hg1 st
  subst e1 e2 e3
  have hW1 : Z.Warmed39 T1.vm := State.Warmed39.trans (t := s.setVm vm0) hZ hS1.1
  exact (k v T1 L X1 hQ hW1 (by rw [hS1.1.alike.findClass]; exact hown) ⟨⟨_, hS.trans hS1 (Nat.le_trans hk (by rw [← eT]; exact hg1)), Nat.le_refl _⟩, H.2.trans C1⟩ (fun x hx' S => C1.safe hx' S)).st fun _ q => st.trans q
theorem Go.callSH (X : Stand p l e R (s.setVm vm0) m args below meth c T locs cells slots) (hx : p.tables.exec = Jvm.exec) (hZ : Z.Warmed39 vm0) {own : String} {index : Nat} {y : MethodName} {bytes : ByteArray} {maxL : Nat} {ret : Option FieldType} (hown : vm0.findClass own = some m.cls)
    (w1 : (Jvm.Cond.methodLink own index y).before a0 Z = true) (w2 : (Jvm.Cond.static y).before a0 Z = true) (w3 : (Jvm.Cond.initialized y.cls).before a0 Z = true) (w4 : (Jvm.Cond.code y bytes maxL ret).before a0 Z = true) (hy : y.cls ≠ "java/lang/invoke/MethodHandle" ∧ y.cls ≠ "java/lang/invoke/VarHandle") (Wd : Nat) (H : HS Z EL s h0 vm0 h) (hEL : EW Z a0 EL)
    (hM : MtH l Z EL y bytes maxL ret [] rm as' h Q') (eT : T.heap = h) (hf : rm.frames + 1 ≤ R.frames) (hl : Wd + (maxL + 11) + rm.locals ≤ R.locals) (hc : cells + rm.cells ≤ R.cells) (hs : slots + rm.slots ≤ R.slots)
    {argsL rest : List Value} (hg : g.method = m) (hsize : g.locals.size = c.maxLocals) (hlen : ∀ sig, parseMethodDescriptor y.desc = some sig → argsL.length = sig.parameters.length) (hstack : g.stack = argsL.reverse ++ rest) (ha : argsL.toArray = as') (hWd : 2 * g.monitorRoom + (rest.map fun v => v.category).sum ≤ Wd) (hd : decode c.code g.pc = .ok (.invokestatic index, 3))
    (k : ∀ (v : Option Value) (T' : State) (L : List Loc), Stand p l e R (s.setVm T'.vm) m args below meth c T' (locs ++ L) (cells + rm.cells) (slots + rm.slots) → Q' v T'.heap L → Z.Warmed39 T'.vm → T'.vm.findClass own = some m.cls → HS Z EL s h0 T'.vm T'.heap → (∀ x, x < h.size → Safe Z EL vm0 h x → Safe Z EL T'.vm T'.heap x) → Go p e below W T' { g with pc := g.pc + 3, stack := v.toList ++ rest }) : Go p e below W T g := by
  obtain ⟨k0, hS, hk⟩ := H.1
  obtain ⟨v, vm₁, ⟨T1, L1, c1, n1⟩, -, X1, hS1, hg1, hP, st⟩ := callSS X hx hown (mvT (s := s.setVm vm0) hZ w1) (mvT (s := s.setVm vm0) hZ w2) (mvT (s := s.setVm vm0) hZ w3) (mvT (s := s.setVm vm0) hZ w4) hy (backOfSH (W := Wd) (a0 := a0) hM hZ w4 w3 hf hl hEL H.2.1) hg hsize hlen hstack hWd hd (fun _ _ => ⟨ha, eT, hc, hs⟩)
  obtain ⟨L, hQ, e1, e2, e3, C1⟩ := hP
  dsimp only [Pt.U, Pt.locs, Pt.cells, Pt.slots] at X1 e1 e2 e3 hQ C1 hS1 hg1 st
  subst e1 e2 e3
  have hW1 : Z.Warmed39 T1.vm := State.Warmed39.trans (t := s.setVm vm0) hZ hS1.1
  exact (k v T1 L X1 hQ hW1 (by rw [hS1.1.alike.findClass]; exact hown) ⟨⟨_, hS.trans hS1 (Nat.le_trans hk (by rw [← eT]; exact hg1)), Nat.le_refl _⟩, H.2.trans C1⟩ (fun x hx' S => C1.safe hx' S)).st fun _ q => st.trans q
end OwnH

/-! own prelude: private and super calls, arraycopy -/
section OwnC
variable {p : Program} {l : Launch} {e : Env} {R : Room} {s : State} {m : MethodId} {args : Array Value} {below : List Frame} {meth : Method} {c : Code} {T T' : State} {locs : List Loc} {cells slots : Nat} {Z : State} {a0 : Array Value} {h h' h0 : Heap} {g : JFrame} {W : Outcome → State → Prop} {Q Q' : Option Value → Heap → List Loc → Prop} {rc rs : Nat} {rm : Room} {as' : Array Value}
theorem own_notFace {y y1 : MethodName} (h1 : NotFace s y1) (hn : ∃ r, s.methodNamed? y1 = some r) (hc : y1.cls = y.cls) : NotFace s y := fun r0 q0 => by
  obtain ⟨r, hr⟩ := hn
  obtain ⟨kr, k1, k2⟩ := h1 r hr
  have a := findClass_of_methodNamed hr
  have b := findClass_of_methodNamed q0
  rw [hc] at a
  have : r.cls = r0.cls := Option.some.inj (a.symm.trans b)
  exact ⟨kr, this ▸ k1, k2⟩
theorem own_same {y : MethodName} (w : (Jvm.Cond.instanceMethod y).before a0 Z = true) (hy : y.cls ≠ "java/lang/invoke/MethodHandle" ∧ y.cls ≠ "java/lang/invoke/VarHandle") (nf : NotFace Z y) : (Jvm.Cond.sameMethod y.cls y.cls y.name y.desc).before a0 Z = true := by
  obtain ⟨mk, methM, hnamed, hmethM, -, -⟩ := Cond.instanceMethod_spec w
  have hfound := State.methodFound?_of_named hnamed hy
  obtain ⟨kr, k1, k2⟩ := nf mk hnamed
  have hc := findClass_of_methodNamed hnamed
  have hn' : Z.methodNamed? ⟨y.cls, y.name, y.desc⟩ = some mk := hnamed
  simp [Cond.before, Cond.holds, Cond.value, hc, hfound, hn', k1, k2]
theorem Go.callP (X : Stand p l e R s m args below meth c T locs cells slots) (hx : p.tables.exec = Jvm.exec) (hZ : Z.Warmed39 s.vm) {own C : String} {index : Nat} {y : MethodName} {bytes : ByteArray} {maxL : Nat} {ret : Option FieldType} (hown : s.vm.findClass own = some m.cls)
    (w1 : (Jvm.Cond.methodLink own index y).before a0 Z = true) (w2 : (Jvm.Cond.instanceMethod y).before a0 Z = true) (w3 : (Jvm.Cond.selects C y y).before a0 Z = true) (wp : (Jvm.Cond.privateMethod y).before a0 Z = true) (w5 : (Jvm.Cond.initialized y.cls).before a0 Z = true) (w6 : (Jvm.Cond.code y bytes maxL ret).before a0 Z = true) (hy : y.cls ≠ "java/lang/invoke/MethodHandle" ∧ y.cls ≠ "java/lang/invoke/VarHandle") (Wd : Nat)
    (hM : Mt l Z y bytes maxL ret [] rm as' h Q') (eT : T.heap = h) (hf : rm.frames + 1 ≤ R.frames) (hl : Wd + (maxL + 11) + rm.locals ≤ R.locals) (hc : cells + rm.cells ≤ R.cells) (hs : slots + rm.slots ≤ R.slots)
    {b : Addr} {K : String} (E : Exa Z h b K) {argsL rest : List Value} (hg : g.method = m) (hsize : g.locals.size = c.maxLocals) (hlen : ∀ sig, parseMethodDescriptor y.desc = some sig → argsL.length = sig.parameters.length) (hstack : g.stack = argsL.reverse ++ .ref b :: rest) (ha : (Value.ref b :: argsL).toArray = as') (hWd : 2 * g.monitorRoom + (rest.map fun v => v.category).sum ≤ Wd) (hd : decode c.code g.pc = .ok (.invokevirtual index, 3))
    (k : ∀ (v : Option Value) (T' : State) (L : List Loc), Stand p l e R s m args below meth c T' (locs ++ L) (cells + rm.cells) (slots + rm.slots) → Q' v T'.heap L → Go p e below W T' { g with pc := g.pc + 3, stack := v.toList ++ rest }) : Go p e below W T g := by
  have hp : s.PrivateAt y := Cond.privateMethod_at (mvP (args := #[]) hZ wp)
  obtain ⟨c2, r2, m2, -, -, q3, -, kP, hkP, hkPi⟩ := Cond.selects_spec (mvT (args := args) hZ w3)
  have hself : (Jvm.Cond.selects y.cls y y).before args s = true := selects_self_of_private (findClass_of_methodNamed q3) hkP hkPi hp (mvT hZ w2) hy
  obtain ⟨cell, z1, z2⟩ := E.cell
  obtain ⟨v, vm₁, ⟨T1, L1, c1, n1⟩, -, X1, hP, st⟩ := X.privateBack hx hown (mvT hZ w1) (mvT hZ w2) hself hp (mvT hZ w6) hy (backOf (W := Wd) hM hZ w6 w5 hf hl) hg hsize (Steps.refl _) (a := b) (by rw [eT]; exact z1) z2 hlen hstack hWd hd (fun _ _ => ⟨ha, eT, hc, hs⟩)
  obtain ⟨L, hQ, e1, e2, e3⟩ := hP
  dsimp only [Pt.U, Pt.locs, Pt.cells, Pt.slots] at X1 e1 e2 e3 hQ st
  subst e1 e2 e3
  exact (k v T1 L X1 hQ).st fun _ q => st.trans q
theorem Go.callU (X : Stand p l e R s m args below meth c T locs cells slots) (hx : p.tables.exec = Jvm.exec) (hZ : Z.Warmed39 s.vm) {own : String} {index : Nat} {y : MethodName} {bytes : ByteArray} {maxL : Nat} {ret : Option FieldType} (hown : s.vm.findClass own = some m.cls)
    (w1 : (Jvm.Cond.methodLink own index y).before a0 Z = true) (w2 : (Jvm.Cond.sameMethod y.cls y.cls y.name y.desc).before a0 Z = true) (w3 : (Jvm.Cond.instanceMethod y).before a0 Z = true) (w4 : (Jvm.Cond.superclass own y.cls).before a0 Z = true) (w5 : (Jvm.Cond.initialized y.cls).before a0 Z = true) (w6 : (Jvm.Cond.code y bytes maxL ret).before a0 Z = true) (hn : y.name ≠ "<init>") (Wd : Nat)
    (hM : Mt l Z y bytes maxL ret [] rm as' h Q') (eT : T.heap = h) (hf : rm.frames + 1 ≤ R.frames) (hl : Wd + (maxL + 11) + rm.locals ≤ R.locals) (hc : cells + rm.cells ≤ R.cells) (hs : slots + rm.slots ≤ R.slots)
    {b : Addr} {K : String} (E : Exa Z h b K) {argsL rest : List Value} (hg : g.method = m) (hsize : g.locals.size = c.maxLocals) (hlen : ∀ sig, parseMethodDescriptor y.desc = some sig → argsL.length = sig.parameters.length) (hstack : g.stack = argsL.reverse ++ .ref b :: rest) (ha : (Value.ref b :: argsL).toArray = as') (hWd : 2 * g.monitorRoom + (rest.map fun v => v.category).sum ≤ Wd) (hd : decode c.code g.pc = .ok (.invokespecial index, 3))
    (k : ∀ (v : Option Value) (T' : State) (L : List Loc), Stand p l e R s m args below meth c T' (locs ++ L) (cells + rm.cells) (slots + rm.slots) → Q' v T'.heap L → Go p e below W T' { g with pc := g.pc + 3, stack := v.toList ++ rest }) : Go p e below W T g := by
  obtain ⟨v, vm₁, ⟨T1, L1, c1, n1⟩, -, X1, hP, st⟩ := superBack X hx hZ hown w1 w2 w3 w4 hn (backOf (W := Wd) hM hZ w6 w5 hf hl) eT (Ins.self E) hg hsize w6 hlen hstack hWd hd (fun _ _ => ⟨ha, eT, hc, hs⟩)
  obtain ⟨L, hQ, e1, e2, e3⟩ := hP
  dsimp only [Pt.U, Pt.locs, Pt.cells, Pt.slots] at X1 e1 e2 e3 hQ st
  subst e1 e2 e3
  exact (k v T1 L X1 hQ).st fun _ q => st.trans q
theorem Go.acopy (X : Stand p l e R s m args below meth c T locs cells slots) (hx : p.tables.exec = Jvm.exec) (hZ : Z.Warmed39 s.vm) {own : String} {index : Nat} (hown : s.vm.findClass own = some m.cls)
    (w1 : (Jvm.Cond.methodLink own index Jvm.Stand.acN).before a0 Z = true) (w2 : (Jvm.Cond.native Jvm.Stand.acN).before a0 Z = true) (w3 : (Jvm.Cond.static Jvm.Stand.acN).before a0 Z = true) (w4 : (Jvm.Cond.initialized "java/lang/System").before a0 Z = true) (eT : T.heap = h)
    {a b : Addr} {ty : FieldType} {vs vd us : List Value} (A : Ary Z h a ty vs) (B : Ary Z h b ty vd) (hp : refKind ty = false) {jn jd js : Int32} {sp dp nn : Nat} (hjn : jn = Int32.ofNat nn) (hjd : jd = Int32.ofNat dp) (hjs : js = Int32.ofNat sp) (h4 : sp + nn ≤ vs.length) (h5 : dp + nn ≤ vd.length)
    (hu : vd.take dp ++ (List.range nn).map (fun i => vs.getD (sp + i) (.int 0)) ++ vd.drop (dp + nn) = us) (hul : us.length = vd.length) {n0 : Nat} (N : Fr n0 locs) (ge : n0 ≤ b)
    (hg : g.method = m) (hsize : g.locals.size = c.maxLocals) {rest : List Value} (hst : g.stack = .int jn :: .int jd :: .ref b :: .int js :: .ref a :: rest) (hd : decode c.code g.pc = .ok (.invokestatic index, 3))
    (hf : 1 ≤ R.frames) (Wd : Nat) (hW : 2 * g.monitorRoom + (rest.map fun v => v.category).sum ≤ Wd) (hlo : Wd + (nativeFrameWords "java/lang/System" "arraycopy" 5 + 11) ≤ R.locals)
    (k : ∀ (T' : State) (h' : Heap) (L : List Loc), Stand p l e R s m args below meth c T' L cells slots → T'.heap = h' → Fr n0 L → Keep h h' [b] → Ary Z h' b ty us → Go p e below W T' { g with pc := g.pc + 3, stack := rest }) : Go p e below W T g := by
  obtain ⟨qa, ka, da, FA⟩ := A
  obtain ⟨qb, kb, db, FB⟩ := B
  subst hjn hjd hjs
  have n1 := own_nat qa; have n2 := own_nat qb
  have m1 := own_nat (n := nn) (by omega); have m2 := own_nat (n := dp) (by omega); have m3 := own_nat (n := sp) (by omega)
  have hus : (List.range nn).map (fun i => vs.getD (sp + i) (.int 0)) = (List.range (Int32.ofNat nn).toNatClampNeg).map fun i => vs.getD ((Int32.ofNat sp).toNatClampNeg + i) da := by
    rw [m1.1, m3.1]
    apply List.map_congr_left
    intro i hi
    have := List.mem_range.mp hi
    simp [List.getD_eq_getElem?_getD, List.getElem?_eq_getElem (show sp + i < vs.length by omega)]
  obtain ⟨T', h', L, X', e', N', K', V', st⟩ := cpA X hx hZ hown w1 w2 w3 w4 eT FA FB (Or.inl ⟨rfl, hp⟩) m3.2.1 m2.2.1 m1.2.1 (by rw [m3.1, m1.1, n1.1]; exact h4) (by rw [m2.1, m1.1, n2.1]; exact h5) hus (by rw [m2.1, m1.1]; exact h5) N ge hg hsize hst hd hf hW hlo
  rw [m2.1, m1.1, hu] at V'
  exact (k T' h' L X' e' N' K' ⟨by rw [hul]; exact qb, kb, db, by rw [hul]; exact V'⟩).st st
end OwnC


/-- n ints, by their place -/
def IL (n : Nat) (f : Nat → Int32) : List Value := (List.range n).map fun q => Value.int (f q)
theorem IL_len (n : Nat) (f : Nat → Int32) : (IL n f).length = n := by simp [IL]
theorem IL_at {n i : Nat} {f : Nat → Int32} (h : i < n) : (IL n f)[i]? = some (.int (f i)) := by simp [IL, h]
theorem IL_congr {n : Nat} {f f' : Nat → Int32} (h : ∀ q, q < n → f q = f' q) : IL n f = IL n f' := by
  simp only [IL]; apply List.map_congr_left; intro q hq; rw [h q (List.mem_range.mp hq)]
theorem IL_set {n i : Nat} {f : Nat → Int32} {x : Int32} (h : i < n) : (IL n f).set i (.int x) = IL n (fun q => if q = i then x else f q) := by
  apply List.ext_getElem?
  intro q
  by_cases hq : q < n
  · rw [IL_at hq]
    by_cases e : i = q
    · subst e; simp [List.getElem?_set, IL_len, h]
    · rw [List.getElem?_set_ne e, IL_at hq]; simp [Ne.symm e]
  · rw [List.getElem?_eq_none (by simp [IL_len]; omega), List.getElem?_eq_none (by simp [IL_len]; omega)]
theorem IL_rep (n : Nat) : List.replicate n (Value.int 0) = IL n (fun _ => 0) := by
  apply List.ext_getElem?
  intro q
  by_cases hq : q < n
  · rw [IL_at hq]; simp [hq]
  · rw [List.getElem?_eq_none (by simp; omega), List.getElem?_eq_none (by simp [IL_len]; omega)]
/-- a char's byte -/
def bI (c : Nat) : Int32 := (Int32.ofNat c).toInt8.toInt32
theorem bI_back (c : Nat) (h : c < 256) : bI c &&& (255 : Int32) = Int32.ofNat c := (by decide +kernel : ∀ c : Fin 256, bI c.val &&& (255 : Int32) = Int32.ofNat c.val) ⟨c, h⟩
theorem bI_twice (c : Nat) (h : c < 256) : (bI c).toInt8.toInt32 = bI c := (by decide +kernel : ∀ c : Fin 256, (bI c.val).toInt8.toInt32 = bI c.val) ⟨c, h⟩
theorem ch_back (c : Nat) (h : c < 256) : (Int32.ofNat c).toUInt32.toUInt16.toUInt32.toInt32 = Int32.ofNat c := (by decide +kernel : ∀ c : Fin 256, (Int32.ofNat c.val).toUInt32.toUInt16.toUInt32.toInt32 = Int32.ofNat c.val) ⟨c, h⟩
theorem ch_nar (c : Nat) (h : c < 256) : narrow .char (.int (Int32.ofNat c)) = .int (Int32.ofNat c) := by
  show Value.int _ = _; congr 1; exact ch_back c h
theorem ch_sto (c : Nat) (h : c < 256) : nar .char (Int32.ofNat c) = Int32.ofNat c := ch_back c h
theorem own_shr0 (x : Int32) : x >>> ((0 : Int32) &&& 31) = x := by
  apply Int32.toBitVec_inj.mp
  rw [Int32.toBitVec_shiftRight]; simp
theorem own_shl0 (x : Int32) : x <<< ((0 : Int32) &&& 31) = x := by
  apply Int32.toBitVec_inj.mp
  rw [Int32.toBitVec_shiftLeft]; simp
theorem own_cat {v : Value} (h : v.isRef = true) : v.category = 1 := by cases v <;> simp_all [Value.isRef, Value.category]
theorem own_nar {t : FieldType} {v : Value} (h : v.isRef = true) : narrow t v = v := by cases v <;> cases t <;> simp_all [Value.isRef, narrow]

theorem own_fill (b : Nat → Int32) (i q : Nat) : (if q = i then b i else if q < i then b q else 0) = if q < i + 1 then b q else 0 := by
  by_cases e : q = i
  · subst e; simp
  · by_cases l : q < i
    · simp [e, l, show q < i + 1 by omega]
    · simp [e, l, show ¬ q < i + 1 by omega]

def apF (k n : Nat) (ft f : Nat → Int32) : Nat → Int32 := fun q => if k ≤ q ∧ q < k + n then ft (q - k) else f q
theorem own_ens (m : Nat) (h : m ≤ 16) : ¬ ((0 : Int32) < (Int32.ofNat m) - (16 : Int32)) := (by decide +kernel : ∀ m : Fin 17, ¬ ((0 : Int32) < (Int32.ofNat m.val) - (16 : Int32))) ⟨m, by omega⟩
theorem own_copy {k n N : Nat} {ft f : Nat → Int32} (h : k + n ≤ N) : (IL N f).take k ++ (List.range n).map (fun i => (IL n ft).getD (0 + i) (.int 0)) ++ (IL N f).drop (k + n) = IL N (apF k n ft f) := by
  apply List.ext_getElem?
  intro q
  have l1 : ((IL N f).take k).length = k := by simp [IL_len]; omega
  have l2 : ((List.range n).map (fun i => (IL n ft).getD (0 + i) (.int 0))).length = n := by simp
  by_cases hq : q < N
  · rw [IL_at hq]; unfold apF
    by_cases c1 : q < k
    · rw [List.append_assoc, List.getElem?_append_left (by omega), List.getElem?_take_of_lt c1, IL_at hq, if_neg (by omega)]
    · by_cases c2 : q < k + n
      · rw [List.getElem?_append_left (by rw [List.length_append]; omega), List.getElem?_append_right (by omega), l1, if_pos ⟨by omega, c2⟩]
        simp [List.getElem?_range (show q - k < n by omega), List.getD_eq_getElem?_getD, IL_at (show q - k < n by omega)]
      · rw [List.getElem?_append_right (by rw [List.length_append]; omega), List.length_append, l1, l2, List.getElem?_drop, if_neg (by omega)]
        rw [show k + n + (q - (k + n)) = q by omega, IL_at hq]
  · rw [List.getElem?_eq_none (by simp [IL_len]; omega), List.getElem?_eq_none (by simp [IL_len]; omega)]
theorem own_copy0 {n N : Nat} {f : Nat → Int32} (h : n ≤ N) : (IL n (fun _ => 0)).take 0 ++ (List.range n).map (fun i => (IL N f).getD (0 + i) (.int 0)) ++ (IL n (fun _ => 0)).drop (0 + n) = IL n f := by
  have e : (IL n (fun _ => 0)).drop (0 + n) = [] := List.drop_eq_nil_of_le (by simp [IL_len])
  rw [e, List.append_nil]
  show ([] : List Value) ++ _ = _
  rw [List.nil_append]
  apply List.map_congr_left
  intro q hq
  have := List.mem_range.mp hq
  simp [List.getD_eq_getElem?_getD, IL_at (show q < N by omega)]


def tk (c : Nat → Nat) (p e : Nat) : Nat := if c p = 92 ∧ p + 1 < e then 2 else 1
def pS (c : Nat → Nat) (e : Nat) : Nat → Nat
  | 0 => 1
  | j + 1 => pS c e j + tk c (pS c e j) e
def oT (c : Nat → Nat) (e j : Nat) : Nat := c (pS c e j + tk c (pS c e j) e - 1)
theorem tk_le (c : Nat → Nat) (p e : Nat) : 1 ≤ tk c p e ∧ tk c p e ≤ 2 ∧ (p < e → p + tk c p e - 1 < e) := by
  unfold tk; split <;> omega
theorem pS_ge (c : Nat → Nat) (e : Nat) : ∀ j, j + 1 ≤ pS c e j := by
  intro j
  induction j with
  | zero => exact Nat.le_refl _
  | succ j ih => have := (tk_le c (pS c e j) e).1; show j + 1 + 1 ≤ pS c e j + tk c (pS c e j) e; omega
theorem own_fill2 (b : Nat → Int32) (i q : Nat) : (if q = i then b i else if q < i then b q else 0) = if q < i + 1 then b q else 0 := own_fill b i q
theorem own_low8 (x : Int32) : ∃ d, d < 256 ∧ x &&& (255 : Int32) = Int32.ofNat d := by
  have h := c_and x 255 (by decide)
  have h255 : (255 : Int32).toInt = 255 := rfl
  refine ⟨(x &&& 255).toInt.toNat, by omega, ?_⟩
  apply Int32.toInt_inj.mp
  rw [(own_nat (by omega)).2.2]; omega
theorem own_m7 (x : Int32) : ∃ n, n ≤ 6 ∧ (x &&& (2147483647 : Int32)) % (7 : Int32) = Int32.ofNat n := by
  have h := c_and x 2147483647 (by decide)
  have q := (c_irem (x &&& 2147483647) 7 7 rfl).1 h.1
  refine ⟨((x &&& 2147483647).toInt % 7).toNat, by omega, ?_⟩
  apply Int32.toInt_inj.mp
  rw [q, (own_nat (by omega)).2.2]; omega
def c6 (d0 d1 d2 d3 d4 d5 : Nat) : Nat → Nat := fun q => [d0, d1, d2, d3, d4, d5].getD q 0
theorem c6_lt {d0 d1 d2 d3 d4 d5 : Nat} (h0 : d0 < 256) (h1 : d1 < 256) (h2 : d2 < 256) (h3 : d3 < 256) (h4 : d4 < 256) (h5 : d5 < 256) : ∀ q, c6 d0 d1 d2 d3 d4 d5 q < 256 := by
  intro q
  match q with
  | 0 => exact h0
  | 1 => exact h1
  | 2 => exact h2
  | 3 => exact h3
  | 4 => exact h4
  | 5 => exact h5
  | q + 6 => show 0 < 256; decide

theorem pS_le (c : Nat → Nat) (e j : Nat) (he : e ≤ 6) (h : ∀ i, i < j → pS c e i < e) : pS c e j ≤ 8 := by
  match j with
  | 0 => show 1 ≤ 8; decide
  | j + 1 => have h1 := h j (by omega); have := (tk_le c (pS c e j) e).2.1; show pS c e j + tk c (pS c e j) e ≤ 8; omega

theorem own_J {c : Nat → Nat} {e J j : Nat} (h1 : ∀ i, i < J → pS c e i < e) (h2 : ¬ pS c e J < e) (g1 : ∀ i, i < j → pS c e i < e) (g2 : ¬ pS c e j < e) : J = j := by
  rcases Nat.lt_trichotomy J j with q | q | q
  · exact absurd (g1 J q) h2
  · exact q
  · exact absurd (h1 j q) g2

theorem pd__28_5bCI_5bBII_29I : parseMethodDescriptor "([CI[BII)I" = some ⟨[(.array .char), .int, (.array .byte), .int, .int], some .int⟩ := by decide +kernel
theorem pd__28_5bCII_29_5bB : parseMethodDescriptor "([CII)[B" = some ⟨[(.array .char), .int, .int], some (.array .byte)⟩ := by decide +kernel
theorem pd__28_5bBI_29B : parseMethodDescriptor "([BI)B" = some ⟨[(.array .byte), .int], some .byte⟩ := by decide +kernel
theorem pd__28_5bCIILjava_2flang_2fVoid_3b_29V : parseMethodDescriptor "([CIILjava/lang/Void;)V" = some ⟨[(.array .char), .int, .int, (.object "java/lang/Void")], none⟩ := by decide +kernel
theorem pd__28_29B : parseMethodDescriptor "()B" = some ⟨[], some .byte⟩ := by decide +kernel
theorem pd__28IILjava_2futil_2ffunction_2fBiFunction_3b_29I : parseMethodDescriptor "(IILjava/util/function/BiFunction;)I" = some ⟨[.int, .int, (.object "java/util/function/BiFunction")], some .int⟩ := by decide +kernel
theorem pd__28II_29V : parseMethodDescriptor "(II)V" = some ⟨[.int, .int], none⟩ := by decide +kernel
theorem pd__28_29Z : parseMethodDescriptor "()Z" = some ⟨[], some .boolean⟩ := by decide +kernel
theorem pd__28_5bBI_29C : parseMethodDescriptor "([BI)C" = some ⟨[(.array .byte), .int], some .char⟩ := by decide +kernel
theorem pd__28I_29V : parseMethodDescriptor "(I)V" = some ⟨[.int], none⟩ := by decide +kernel
theorem pd__28II_29I : parseMethodDescriptor "(II)I" = some ⟨[.int, .int], some .int⟩ := by decide +kernel
theorem pd__28_5bBII_29_5bB : parseMethodDescriptor "([BII)[B" = some ⟨[(.array .byte), .int, .int], some (.array .byte)⟩ := by decide +kernel
theorem pd__28_29I : parseMethodDescriptor "()I" = some ⟨[], some .int⟩ := by decide +kernel
theorem pd__28_29_5bB : parseMethodDescriptor "()[B" = some ⟨[], some (.array .byte)⟩ := by decide +kernel
theorem pd__28Ljava_2flang_2fAbstractStringBuilder_3bLjava_2flang_2fVoid_3b_29V : parseMethodDescriptor "(Ljava/lang/AbstractStringBuilder;Ljava/lang/Void;)V" = some ⟨[(.object "java/lang/AbstractStringBuilder"), (.object "java/lang/Void")], none⟩ := by decide +kernel
theorem pd__28Ljava_2flang_2fStringBuilder_3b_29V : parseMethodDescriptor "(Ljava/lang/StringBuilder;)V" = some ⟨[(.object "java/lang/StringBuilder")], none⟩ := by decide +kernel
theorem pd__28_5bC_29V : parseMethodDescriptor "([C)V" = some ⟨[(.array .char)], none⟩ := by decide +kernel
theorem pd__28I_29C : parseMethodDescriptor "(I)C" = some ⟨[.int], some .char⟩ := by decide +kernel
theorem pd__28C_29Z : parseMethodDescriptor "(C)Z" = some ⟨[.char], some .boolean⟩ := by decide +kernel
theorem pd__28C_29Ljava_2flang_2fAbstractStringBuilder_3b : parseMethodDescriptor "(C)Ljava/lang/AbstractStringBuilder;" = some ⟨[.char], some (.object "java/lang/AbstractStringBuilder")⟩ := by decide +kernel
theorem pd__28_29V : parseMethodDescriptor "()V" = some ⟨[], none⟩ := by decide +kernel
theorem pd__28_29Ljava_2flang_2fString_3b : parseMethodDescriptor "()Ljava/lang/String;" = some ⟨[], some (.object "java/lang/String")⟩ := by decide +kernel
theorem pd__28C_29Ljava_2flang_2fStringBuilder_3b : parseMethodDescriptor "(C)Ljava/lang/StringBuilder;" = some ⟨[.char], some (.object "java/lang/StringBuilder")⟩ := by decide +kernel
theorem pd__28JI_29C : parseMethodDescriptor "(JI)C" = some ⟨[.long, .int], some .char⟩ := by decide +kernel
theorem pd__28_5bCI_29Ljava_2flang_2fString_3b : parseMethodDescriptor "([CI)Ljava/lang/String;" = some ⟨[(.array .char), .int], some (.object "java/lang/String")⟩ := by decide +kernel
theorem pd__28Ljava_2flang_2fString_3b_29Ljava_2flang_2fString_3b : parseMethodDescriptor "(Ljava/lang/String;)Ljava/lang/String;" = some ⟨[(.object "java/lang/String")], some (.object "java/lang/String")⟩ := by decide +kernel
theorem pd__28_5bCII_29I : parseMethodDescriptor "([CII)I" = some ⟨[(.array .char), .int, .int], some .int⟩ := by decide +kernel
theorem pd__28Ljava_2flang_2fString_3b_5bCI_29Z : parseMethodDescriptor "(Ljava/lang/String;[CI)Z" = some ⟨[(.object "java/lang/String"), (.array .char), .int], some .boolean⟩ := by decide +kernel
theorem dcp2_0 : decode jdk_52_method_21_code 0 = .ok (.iconst 0, 1) := by decide +kernel
theorem dcp2_1 : decode jdk_52_method_21_code 1 = .ok (.istore 5, 2) := by decide +kernel
theorem dcp2_3 : decode jdk_52_method_21_code 3 = .ok (.iload 5, 2) := by decide +kernel
theorem dcp2_5 : decode jdk_52_method_21_code 5 = .ok (.iload 4, 2) := by decide +kernel
theorem dcp2_7 : decode jdk_52_method_21_code 7 = .ok (.if_icmp .ge 37, 3) := by decide +kernel
theorem dcp2_10 : decode jdk_52_method_21_code 10 = .ok (.aload_n 0, 1) := by decide +kernel
theorem dcp2_11 : decode jdk_52_method_21_code 11 = .ok (.iload_n 1, 1) := by decide +kernel
theorem dcp2_12 : decode jdk_52_method_21_code 12 = .ok (.caload, 1) := by decide +kernel
theorem dcp2_13 : decode jdk_52_method_21_code 13 = .ok (.istore 6, 2) := by decide +kernel
theorem dcp2_15 : decode jdk_52_method_21_code 15 = .ok (.iload 6, 2) := by decide +kernel
theorem dcp2_17 : decode jdk_52_method_21_code 17 = .ok (.sipush 255, 3) := by decide +kernel
theorem dcp2_20 : decode jdk_52_method_21_code 20 = .ok (.if_icmp .le 6, 3) := by decide +kernel
theorem dcp2_26 : decode jdk_52_method_21_code 26 = .ok (.aload_n 2, 1) := by decide +kernel
theorem dcp2_27 : decode jdk_52_method_21_code 27 = .ok (.iload_n 3, 1) := by decide +kernel
theorem dcp2_28 : decode jdk_52_method_21_code 28 = .ok (.iload 6, 2) := by decide +kernel
theorem dcp2_30 : decode jdk_52_method_21_code 30 = .ok (.i2b, 1) := by decide +kernel
theorem dcp2_31 : decode jdk_52_method_21_code 31 = .ok (.bastore, 1) := by decide +kernel
theorem dcp2_32 : decode jdk_52_method_21_code 32 = .ok (.iinc 1 1, 3) := by decide +kernel
theorem dcp2_35 : decode jdk_52_method_21_code 35 = .ok (.iinc 3 1, 3) := by decide +kernel
theorem dcp2_38 : decode jdk_52_method_21_code 38 = .ok (.iinc 5 1, 3) := by decide +kernel
theorem dcp2_41 : decode jdk_52_method_21_code 41 = .ok (.goto (-38), 3) := by decide +kernel
theorem dcp2_44 : decode jdk_52_method_21_code 44 = .ok (.iload 4, 2) := by decide +kernel
theorem dcp2_46 : decode jdk_52_method_21_code 46 = .ok (.ireturn, 1) := by decide +kernel
theorem pn_cp2 : plainFor (⟨"java/lang/StringUTF16", "compress", "([CI[BII)I"⟩ : MethodName) = true := by first | exact plainFor_of_name (by first | (simp [plainName, overriddenIn]; done) | decide +kernel) | decide +kernel
theorem ef_cp2 (m : MethodId) (x0 : Addr) (x1 : Int32) (x2 : Addr) (x3 : Int32) (x4 : Int32) : entryFrame m #[(.ref x0), (.int x1), (.ref x2), (.int x3), (.int x4)] 7 = mkF m 0 #[rv x0, iv x1, rv x2, iv x3, iv x4, .unset, .unset] [] := by first | (simp [entryFrame, mkF, argsToLocals, Value.category]; done) | rfl
set_option maxRecDepth 65536 in
set_option maxHeartbeats 40000000 in
theorem rm_cp2 (l : Launch) (Z : State) (a0 : Array Value) (hw : ∀ d ∈ tables_1, d.before a0 Z = true) (ws : List Jvm.Cond) (arr dst : Addr) (n : Nat) (ch : Nat → Nat) (n0 : Nat) (h0 : Heap) (Z0 : n0 ≤ h0.size) (hn : n ≤ 8) (hc : ∀ q, q < n → ch q < 256) (V_a : Ary Z h0 arr .char (IL n (fun q => Int32.ofNat (ch q)))) (V_d : Ary Z h0 dst .byte (IL n (fun _ => 0))) (g_d : n0 ≤ dst) (ne_ad : arr ≠ dst) :
    Mt l Z (⟨"java/lang/StringUTF16", "compress", "([CI[BII)I"⟩ : MethodName) jdk_52_method_21_code 7 (some .int) ws ({ frames := 0, cells := 0, slots := 0, locals := 0 } : Room) #[(.ref arr), (.int (0 : Int32)), (.ref dst), (.int (0 : Int32)), (.int (Int32.ofNat n))] h0 (fun v h L => v = some (.int (Int32.ofNat n)) ∧ Fr n0 L ∧ Keep h0 h [dst] ∧ Ary Z h dst .byte (IL n (fun q => bI (ch q)))) := by
  refine Mt.body pn_cp2 ?_
  intro p e s m below meth c s₁ hx hby hml hown hnm hret hlk hZ X0 e0
  refine Go.cast (g' := (mkF m 0 #[rv arr, iv (0 : Int32), rv dst, iv (0 : Int32), iv (Int32.ofNat n), .unset, .unset] [])) (ef_cp2 m arr (0 : Int32) dst (0 : Int32) (Int32.ofNat n)) ?_
  have N0 := Fr.nil n0
  refine Go.st (T' := s₁) (g' := (mkF m 3 #[rv arr, iv (0 : Int32), rv dst, iv (0 : Int32), iv (Int32.ofNat n), iv (0 : Int32), .unset] [])) ?_ (fun _ kk_ => XS.iconst X0.here hx rfl (hb hby dcp2_0) (XS.istore X0.here hx rfl (hb hby dcp2_1) rfl (l' := #[rv arr, iv (0 : Int32), rv dst, iv (0 : Int32), iv (Int32.ofNat n), iv (0 : Int32), .unset]) rfl kk_))
  have loop : ∀ (r i : Nat) (T : State) (h : Heap) (locs : List Loc) (s6 : Slot), i + r = n → Stand p l e ({ frames := 0, cells := 0, slots := 0, locals := 0 } : Room) s m #[.ref arr, .int (0 : Int32), .ref dst, .int (0 : Int32), .int (Int32.ofNat n)] below meth c T locs 0 0 → T.heap = h → Fr n0 locs → Keep h0 h [dst] → n0 ≤ h.size → Ary Z h arr .char (IL n (fun q => Int32.ofNat (ch q))) → Ary Z h dst .byte (IL n (fun q => if q < i then bI (ch q) else 0)) → One s6 → Go p e below (Wf s 0 0 (fun v h L => v = some (.int (Int32.ofNat n)) ∧ Fr n0 L ∧ Keep h0 h [dst] ∧ Ary Z h dst .byte (IL n (fun q => bI (ch q))))) T (mkF m 3 #[rv arr, iv (Int32.ofNat i), rv dst, iv (Int32.ofNat i), iv (Int32.ofNat n), iv (Int32.ofNat i), s6] []) := by
    intro r
    induction r with
    | zero =>
      intro i T h locs s6 hi X e1 NA KA ZA VA VB hs6
      refine Go.st (T' := T) (g' := (mkF m 46 #[rv arr, iv (Int32.ofNat i), rv dst, iv (Int32.ofNat i), iv (Int32.ofNat n), iv (Int32.ofNat i), s6] [(.int (Int32.ofNat n))])) ?_ (fun _ kk_ => XS.iload X.here hx rfl (hb hby dcp2_3) rfl  (XS.iload X.here hx rfl (hb hby dcp2_5) rfl  (XS.icmpYes X.here hx rfl (pc0 := 7) (pc' := 44) rfl (hb hby dcp2_7) rfl (flt ((fun z => by have := (own_lt (by omega) (by omega)).mp z; omega) : ¬ ((Int32.ofNat i) < (Int32.ofNat n)))).2.1 (by decide) (by decide) (XS.iload X.here hx rfl (hb hby dcp2_44) rfl  kk_))))
      refine Go.retI X hx hlk hret (hb hby dcp2_46) (by decide) (by decide) ?_
      try rw [e1]
      exact ⟨rfl, NA, KA, IL_congr (n := n) (f := fun q => if q < i then bI (ch q) else 0) (f' := fun q => bI (ch q)) (fun q hq => if_pos (by omega)) ▸ VB⟩
    | succ r ih =>
      intro i T h locs s6 hi X e1 NA KA ZA VA VB hs6
      refine Go.st (T' := T) (g' := (mkF m 7 #[rv arr, iv (Int32.ofNat i), rv dst, iv (Int32.ofNat i), iv (Int32.ofNat n), iv (Int32.ofNat i), s6] [(.int (Int32.ofNat n)), (.int (Int32.ofNat i))])) ?_ (fun _ kk_ => XS.iload X.here hx rfl (hb hby dcp2_3) rfl  (XS.iload X.here hx rfl (hb hby dcp2_5) rfl  kk_))
      have hin : i < n := by omega
      have hci := hc i hin
      refine Go.st (T' := T) (g' := (mkF m 31 #[rv arr, iv (Int32.ofNat i), rv dst, iv (Int32.ofNat i), iv (Int32.ofNat n), iv (Int32.ofNat i), iv (Int32.ofNat (ch i))] [(.int ((Int32.ofNat (ch i)).toInt8.toInt32)), (.int (Int32.ofNat i)), (.ref dst)])) ?_ (fun _ kk_ => XS.icmpNo X.here hx rfl (hb hby dcp2_7) rfl (tlt (((own_lt (by omega) (by omega)).mpr hin) : (Int32.ofNat i) < (Int32.ofNat n))).2.1 (XS.aloadN X.here hx rfl (hb hby dcp2_10) rfl rfl  (XS.iloadN X.here hx rfl (hb hby dcp2_11) rfl  (own_caload X hx hZ e1 VA (i := i) (v := (.int (Int32.ofNat (ch i)))) (IL_at hin) rfl rfl rfl (hb hby dcp2_12) (XS.istore X.here hx rfl (hb hby dcp2_13) rfl (l' := #[rv arr, iv (Int32.ofNat i), rv dst, iv (Int32.ofNat i), iv (Int32.ofNat n), iv (Int32.ofNat i), iv (Int32.ofNat (ch i))]) (by rcases hs6 with rfl | ⟨w, rfl, hw_⟩ <;> first | rfl | (cases w <;> first | rfl | (simp [Value.category] at hw_))) (XS.iload X.here hx rfl (hb hby dcp2_15) rfl  (XS.sipush X.here hx rfl (hb hby dcp2_17) (XS.icmpYes X.here hx rfl (pc0 := 20) (pc' := 26) rfl (hb hby dcp2_20) rfl (flt ((fun z => by have := (own_lt (i := 255) (by decide) (by omega)).mp z; omega) : ¬ ((255 : Int32) < (Int32.ofNat (ch i))))).2.2.2 (by decide) (by decide) (XS.aloadN X.here hx rfl (hb hby dcp2_26) rfl rfl  (XS.iloadN X.here hx rfl (hb hby dcp2_27) rfl  (XS.iload X.here hx rfl (hb hby dcp2_28) rfl  (XS.i2b X.here hx rfl (hb hby dcp2_30) rfl kk_))))))))))))
      refine Go.bastore X hx hZ e1 VB (i := i) (by rw [IL_len]; exact hin) rfl rfl rfl (hb hby dcp2_31) ?_
      intro T1 h1 X1 e1 W1 V1
      have N2 := Fr.snoc X1 NA g_d
      have K3 : Keep h0 h1 [dst] := KA.wr W1 (Or.inl (List.mem_of_getElem? (i := 0) rfl))
      have Z4 : n0 ≤ h1.size := by rw [W1.size]; exact ZA
      show Go p e below _ T1 (mkF m 32 #[rv arr, iv (Int32.ofNat i), rv dst, iv (Int32.ofNat i), iv (Int32.ofNat n), iv (Int32.ofNat i), iv (Int32.ofNat (ch i))] [])
      rw [show ((Int32.ofNat (ch i)).toInt8.toInt32).toInt8.toInt32 = bI (ch i) from bI_twice _ hci, IL_set hin] at V1
      refine Go.st (T' := T1) (g' := (mkF m 35 #[rv arr, iv ((Int32.ofNat i) + (1 : Int32)), rv dst, iv (Int32.ofNat i), iv (Int32.ofNat n), iv (Int32.ofNat i), iv (Int32.ofNat (ch i))] [])) ?_ (fun _ kk_ => XS.iinc X1.here hx rfl (hb hby dcp2_32) rfl (l' := #[rv arr, iv ((Int32.ofNat i) + (1 : Int32)), rv dst, iv (Int32.ofNat i), iv (Int32.ofNat n), iv (Int32.ofNat i), iv (Int32.ofNat (ch i))]) rfl kk_)
      refine Go.st (T' := T1) (g' := (mkF m 38 #[rv arr, iv ((Int32.ofNat i) + (1 : Int32)), rv dst, iv ((Int32.ofNat i) + (1 : Int32)), iv (Int32.ofNat n), iv (Int32.ofNat i), iv (Int32.ofNat (ch i))] [])) ?_ (fun _ kk_ => XS.iinc X1.here hx rfl (hb hby dcp2_35) rfl (l' := #[rv arr, iv ((Int32.ofNat i) + (1 : Int32)), rv dst, iv ((Int32.ofNat i) + (1 : Int32)), iv (Int32.ofNat n), iv (Int32.ofNat i), iv (Int32.ofNat (ch i))]) rfl kk_)
      refine Go.st (T' := T1) (g' := (mkF m 41 #[rv arr, iv ((Int32.ofNat i) + (1 : Int32)), rv dst, iv ((Int32.ofNat i) + (1 : Int32)), iv (Int32.ofNat n), iv ((Int32.ofNat i) + (1 : Int32)), iv (Int32.ofNat (ch i))] [])) ?_ (fun _ kk_ => XS.iinc X1.here hx rfl (hb hby dcp2_38) rfl (l' := #[rv arr, iv ((Int32.ofNat i) + (1 : Int32)), rv dst, iv ((Int32.ofNat i) + (1 : Int32)), iv (Int32.ofNat n), iv ((Int32.ofNat i) + (1 : Int32)), iv (Int32.ofNat (ch i))]) rfl kk_)
      have eI : Int32.ofNat i + (1 : Int32) = Int32.ofNat (i + 1) := own_add i 1
      rw [eI]
      show Go p e below _ T1 (mkF m 41 #[rv arr, iv (Int32.ofNat (i + 1)), rv dst, iv (Int32.ofNat (i + 1)), iv (Int32.ofNat n), iv (Int32.ofNat (i + 1)), iv (Int32.ofNat (ch i))] [])
      refine Go.st (T' := T1) (g' := (mkF m 3 #[rv arr, iv (Int32.ofNat (i + 1)), rv dst, iv (Int32.ofNat (i + 1)), iv (Int32.ofNat n), iv (Int32.ofNat (i + 1)), iv (Int32.ofNat (ch i))] [])) ?_ (fun _ kk_ => XS.goto X1.here hx rfl (pc0 := 41) (pc' := 3) rfl (hb hby dcp2_41) (by decide) (by decide) kk_)
      have f5 := (VA.other W1 ne_ad)
      exact ih (i + 1) T1 h1 _ _ (by omega) X1 e1 N2 K3 Z4 f5 (IL_congr (f := fun q => if q = i then bI (ch i) else if q < i then bI (ch q) else 0) (f' := fun q => if q < i + 1 then bI (ch q) else 0) (fun q hq => own_fill (fun q => bI (ch q)) i q) ▸ V1) (One.val rfl)
  exact loop n 0 s₁ h0 [] _ (by omega) X0 e0 N0 (Keep.refl _ _) Z0 V_a (IL_congr (f := fun _ => 0) (f' := fun q => if q < 0 then bI (ch q) else 0) (fun q hq => (if_neg (Nat.not_lt_zero q)).symm) ▸ V_d) One.u
theorem dcp1_0 : decode jdk_52_method_16_code 0 = .ok (.iload_n 2, 1) := by decide +kernel
theorem dcp1_1 : decode jdk_52_method_16_code 1 = .ok (.newarray .byte, 2) := by decide +kernel
theorem dcp1_3 : decode jdk_52_method_16_code 3 = .ok (.astore_n 3, 1) := by decide +kernel
theorem dcp1_4 : decode jdk_52_method_16_code 4 = .ok (.aload_n 0, 1) := by decide +kernel
theorem dcp1_5 : decode jdk_52_method_16_code 5 = .ok (.iload_n 1, 1) := by decide +kernel
theorem dcp1_6 : decode jdk_52_method_16_code 6 = .ok (.aload_n 3, 1) := by decide +kernel
theorem dcp1_7 : decode jdk_52_method_16_code 7 = .ok (.iconst 0, 1) := by decide +kernel
theorem dcp1_8 : decode jdk_52_method_16_code 8 = .ok (.iload_n 2, 1) := by decide +kernel
theorem dcp1_9 : decode jdk_52_method_16_code 9 = .ok (.invokestatic 115, 3) := by decide +kernel
theorem dcp1_12 : decode jdk_52_method_16_code 12 = .ok (.istore 4, 2) := by decide +kernel
theorem dcp1_14 : decode jdk_52_method_16_code 14 = .ok (.iload 4, 2) := by decide +kernel
theorem dcp1_16 : decode jdk_52_method_16_code 16 = .ok (.iload_n 2, 1) := by decide +kernel
theorem dcp1_17 : decode jdk_52_method_16_code 17 = .ok (.if_icmp .eq 40, 3) := by decide +kernel
theorem dcp1_57 : decode jdk_52_method_16_code 57 = .ok (.aload_n 3, 1) := by decide +kernel
theorem dcp1_58 : decode jdk_52_method_16_code 58 = .ok (.areturn, 1) := by decide +kernel
theorem pn_cp1 : plainFor (⟨"java/lang/StringUTF16", "compress", "([CII)[B"⟩ : MethodName) = true := by first | exact plainFor_of_name (by first | (simp [plainName, overriddenIn]; done) | decide +kernel) | decide +kernel
theorem ef_cp1 (m : MethodId) (x0 : Addr) (x1 : Int32) (x2 : Int32) : entryFrame m #[(.ref x0), (.int x1), (.int x2)] 6 = mkF m 0 #[rv x0, iv x1, iv x2, .unset, .unset, .unset] [] := by first | (simp [entryFrame, mkF, argsToLocals, Value.category]; done) | rfl
set_option maxRecDepth 65536 in
set_option maxHeartbeats 40000000 in
theorem rm_cp1 (l : Launch) (Z : State) (a0 : Array Value) (hw : ∀ d ∈ tables_1, d.before a0 Z = true) (ws : List Jvm.Cond) (arr : Addr) (n : Nat) (ch : Nat → Nat) (n0 : Nat) (h0 : Heap) (Z0 : n0 ≤ h0.size) (hn : n ≤ 8) (hc : ∀ q, q < n → ch q < 256) (V_arr : Ary Z h0 arr .char (IL n (fun q => Int32.ofNat (ch q)))) :
    Mt l Z (⟨"java/lang/StringUTF16", "compress", "([CII)[B"⟩ : MethodName) jdk_52_method_16_code 6 (some (.array .byte)) ws ({ frames := 1, cells := 1, slots := 8, locals := 20 } : Room) #[(.ref arr), (.int (0 : Int32)), (.int (Int32.ofNat n))] h0 (fun v h L => ∃ t, v = some (.ref t) ∧ Fr n0 L ∧ Keep h0 h [] ∧ h0.size ≤ t ∧ Ary Z h t .byte (IL n (fun q => bI (ch q)))) := by
  refine Mt.body pn_cp1 ?_
  intro p e s m below meth c s₁ hx hby hml hown hnm hret hlk hZ X0 e0
  refine Go.cast (g' := (mkF m 0 #[rv arr, iv (0 : Int32), iv (Int32.ofNat n), .unset, .unset, .unset] [])) (ef_cp1 m arr (0 : Int32) (Int32.ofNat n)) ?_
  have N0 := Fr.nil n0
  have K0 := Keep.refl h0 ([] : List Addr)
  refine Go.st (T' := s₁) (g' := (mkF m 1 #[rv arr, iv (0 : Int32), iv (Int32.ofNat n), .unset, .unset, .unset] [(.int (Int32.ofNat n))])) ?_ (fun _ kk_ => XS.iloadN X0.here hx rfl (hb hby dcp1_0) rfl  kk_)
  refine Go.newP X0 hx hZ (aty := .byte) (hw _ (List.mem_of_getElem? (i := 28) rfl)) e0 rfl (hb hby dcp1_1) (n := n) rfl rfl 8 hn (by decide) (by decide) (by decide) ?_
  intro T1 h1 b1 X1 e1 E1 g1 V1
  have ne_arr_b1 : arr ≠ b1 := Nat.ne_of_lt (Nat.lt_of_lt_of_eq V_arr.lt g1.symm)
  have g_b1 : n0 ≤ b1 := Nat.le_trans Z0 (Nat.le_of_eq g1.symm)
  have sz_b1 : h0.size ≤ b1 := Nat.le_trans K0.1 (Nat.le_of_eq g1.symm)
  have Z2 : n0 ≤ h1.size := Nat.le_trans Z0 E1.1
  have K3 : Keep h0 h1 ([] : List Addr) := K0.ext E1
  change Ary Z h1 b1 .byte (List.replicate n (.int 0)) at V1
  show Go p e below _ T1 (mkF m 3 #[rv arr, iv (0 : Int32), iv (Int32.ofNat n), .unset, .unset, .unset] [(.ref b1)])
  rw [IL_rep] at V1
  refine Go.st (T' := T1) (g' := (mkF m 9 #[rv arr, iv (0 : Int32), iv (Int32.ofNat n), rv b1, .unset, .unset] [(.int (Int32.ofNat n)), (.int (0 : Int32)), (.ref b1), (.int (0 : Int32)), (.ref arr)])) ?_ (fun _ kk_ => XS.astoreN X1.here hx rfl (hb hby dcp1_3) rfl rfl (l' := #[rv arr, iv (0 : Int32), iv (Int32.ofNat n), rv b1, .unset, .unset]) rfl (XS.aloadN X1.here hx rfl (hb hby dcp1_4) rfl rfl  (XS.iloadN X1.here hx rfl (hb hby dcp1_5) rfl  (XS.aloadN X1.here hx rfl (hb hby dcp1_6) rfl rfl  (XS.iconst X1.here hx rfl (hb hby dcp1_7) (XS.iloadN X1.here hx rfl (hb hby dcp1_8) rfl  kk_))))))
  have f4 := (V_arr.ext E1)
  refine Go.callS (y := (⟨"java/lang/StringUTF16", "compress", "([CI[BII)I"⟩ : MethodName)) X1 hx hZ hown (hw _ (List.mem_of_getElem? (i := 29) rfl)) (hw _ (List.mem_of_getElem? (i := 30) rfl)) (hw _ (List.mem_of_getElem? (i := 26) rfl)) (hw _ (List.mem_of_getElem? (i := 31) rfl)) (by decide) 0 (rm_cp2 l Z a0 hw [] arr b1 n ch n0 h1 Z2 hn hc f4 V1 g_b1 ne_arr_b1) e1 (by decide) (by decide) (by decide) (by decide) (argsL := [(.ref arr), (.int (0 : Int32)), (.ref b1), (.int (0 : Int32)), (.int (Int32.ofNat n))]) (rest := []) rfl (by rw [hml]; rfl) (lenOf pd__28_5bCI_5bBII_29I rfl) rfl rfl (by show 2 * 0 + _ ≤ _; exact Nat.le_of_eq rfl) (hb hby dcp1_9) ?_
  rintro _ T5 L5 X5 ⟨rfl, N5, K5, V5⟩
  have N6 := Fr.app N0 N5
  have Z7 : n0 ≤ T5.heap.size := Nat.le_trans Z2 K5.1
  have K8 : Keep h0 T5.heap ([] : List Addr) := K3.trans K5 (allS (P := fun z_ => z_ ∈ ([] : List Addr) ∨ h0.size ≤ z_) (Or.inr sz_b1) all0)
  show Go p e below _ T5 (mkF m 12 #[rv arr, iv (0 : Int32), iv (Int32.ofNat n), rv b1, .unset, .unset] [(.int (Int32.ofNat n))])
  refine Go.st (T' := T5) (g' := (mkF m 58 #[rv arr, iv (0 : Int32), iv (Int32.ofNat n), rv b1, iv (Int32.ofNat n), .unset] [(.ref b1)])) ?_ (fun _ kk_ => XS.istore X5.here hx rfl (hb hby dcp1_12) rfl (l' := #[rv arr, iv (0 : Int32), iv (Int32.ofNat n), rv b1, iv (Int32.ofNat n), .unset]) rfl (XS.iload X5.here hx rfl (hb hby dcp1_14) rfl  (XS.iloadN X5.here hx rfl (hb hby dcp1_16) rfl  (XS.icmpYes X5.here hx rfl (pc0 := 17) (pc' := 57) rfl (hb hby dcp1_17) rfl (teq (rfl : (Int32.ofNat n) = (Int32.ofNat n))).1 (by decide) (by decide) (XS.aloadN X5.here hx rfl (hb hby dcp1_57) rfl rfl  kk_)))))
  refine Go.retA X5 hx hlk hret rfl rfl (hb hby dcp1_58) (by decide) (by decide) ?_
  exact ⟨b1, rfl, N6, K8, sz_b1, V5⟩
theorem dcal_0 : decode jdk_52_method_15_code 0 = .ok (.iload_n 1, 1) := by decide +kernel
theorem dcal_1 : decode jdk_52_method_15_code 1 = .ok (.aload_n 0, 1) := by decide +kernel
theorem dcal_2 : decode jdk_52_method_15_code 2 = .ok (.arraylength, 1) := by decide +kernel
theorem dcal_3 : decode jdk_52_method_15_code 3 = .ok (.isub, 1) := by decide +kernel
theorem dcal_4 : decode jdk_52_method_15_code 4 = .ok (.bipush 31, 2) := by decide +kernel
theorem dcal_6 : decode jdk_52_method_15_code 6 = .ok (.iushr, 1) := by decide +kernel
theorem dcal_7 : decode jdk_52_method_15_code 7 = .ok (.i2b, 1) := by decide +kernel
theorem dcal_8 : decode jdk_52_method_15_code 8 = .ok (.ireturn, 1) := by decide +kernel
theorem pn_cal : plainFor (⟨"java/lang/StringUTF16", "coderFromArrayLen", "([BI)B"⟩ : MethodName) = true := by first | exact plainFor_of_name (by first | (simp [plainName, overriddenIn]; done) | decide +kernel) | decide +kernel
theorem ef_cal (m : MethodId) (x0 : Addr) (x1 : Int32) : entryFrame m #[(.ref x0), (.int x1)] 2 = mkF m 0 #[rv x0, iv x1] [] := by first | (simp [entryFrame, mkF, argsToLocals, Value.category]; done) | rfl
set_option maxRecDepth 65536 in
set_option maxHeartbeats 40000000 in
theorem rm_cal (l : Launch) (Z : State) (a0 : Array Value) (hw : ∀ d ∈ tables_1, d.before a0 Z = true) (ws : List Jvm.Cond) (t : Addr) (n : Nat) (f : Nat → Int32) (h0 : Heap) (V_t : Ary Z h0 t .byte (IL n f)) :
    Mt l Z (⟨"java/lang/StringUTF16", "coderFromArrayLen", "([BI)B"⟩ : MethodName) jdk_52_method_15_code 2 (some .byte) ws ({ frames := 0, cells := 0, slots := 0, locals := 0 } : Room) #[(.ref t), (.int (Int32.ofNat n))] h0 (fun v h L => v = some (.int (0 : Int32)) ∧ h = h0 ∧ L = []) := by
  refine Mt.body pn_cal ?_
  intro p e s m below meth c s₁ hx hby hml hown hnm hret hlk hZ X0 e0
  refine Go.cast (g' := (mkF m 0 #[rv t, iv (Int32.ofNat n)] [])) (ef_cal m t (Int32.ofNat n)) ?_
  have N0 := Fr.nil 0
  refine Go.st (T' := s₁) (g' := (mkF m 4 #[rv t, iv (Int32.ofNat n)] [(.int ((Int32.ofNat n) - (Int32.ofNat n)))])) ?_ (fun _ kk_ => XS.iloadN X0.here hx rfl (hb hby dcal_0) rfl  (XS.aloadN X0.here hx rfl (hb hby dcal_1) rfl rfl  (own_alen X0 hx hZ e0 V_t (IL_len _ _) rfl rfl (hb hby dcal_2) (XS.isub X0.here hx rfl (hb hby dcal_3) rfl kk_))))
  rw [show Int32.ofNat n - Int32.ofNat n = (0 : Int32) from Int32.sub_self _]
  show Go p e below _ s₁ (mkF m 4 #[rv t, iv (Int32.ofNat n)] [(.int (0 : Int32))])
  refine Go.st (T' := s₁) (g' := (mkF m 8 #[rv t, iv (Int32.ofNat n)] [(.int ((((0 : Int32).toUInt32 >>> ((31 : Int32) &&& 31).toUInt32).toInt32).toInt8.toInt32))])) ?_ (fun _ kk_ => XS.bipush X0.here hx rfl (hb hby dcal_4) (XS.iushr X0.here hx rfl (hb hby dcal_6) rfl (XS.i2b X0.here hx rfl (hb hby dcal_7) rfl kk_)))
  refine Go.retN X0 hx hlk (t := .byte) hret (by simp) (z' := (0 : Int32)) (by decide) (hb hby dcal_8) (by decide) (by decide) ?_
  try rw [e0]
  exact ⟨rfl, rfl, rfl⟩
theorem dinV_0 : decode jdk_42_method_149_code 0 = .ok (.aload_n 0, 1) := by decide +kernel
theorem dinV_1 : decode jdk_42_method_149_code 1 = .ok (.invokespecial 1, 3) := by decide +kernel
theorem dinV_4 : decode jdk_42_method_149_code 4 = .ok (.iload_n 3, 1) := by decide +kernel
theorem dinV_5 : decode jdk_42_method_149_code 5 = .ok (.ifCond .ne 22, 3) := by decide +kernel
theorem dinV_27 : decode jdk_42_method_149_code 27 = .ok (.getstatic 38, 3) := by decide +kernel
theorem dinV_30 : decode jdk_42_method_149_code 30 = .ok (.ifCond .eq 28, 3) := by decide +kernel
theorem dinV_33 : decode jdk_42_method_149_code 33 = .ok (.aload_n 1, 1) := by decide +kernel
theorem dinV_34 : decode jdk_42_method_149_code 34 = .ok (.iload_n 2, 1) := by decide +kernel
theorem dinV_35 : decode jdk_42_method_149_code 35 = .ok (.iload_n 3, 1) := by decide +kernel
theorem dinV_36 : decode jdk_42_method_149_code 36 = .ok (.invokestatic 177, 3) := by decide +kernel
theorem dinV_39 : decode jdk_42_method_149_code 39 = .ok (.astore 5, 2) := by decide +kernel
theorem dinV_41 : decode jdk_42_method_149_code 41 = .ok (.aload_n 0, 1) := by decide +kernel
theorem dinV_42 : decode jdk_42_method_149_code 42 = .ok (.aload 5, 2) := by decide +kernel
theorem dinV_44 : decode jdk_42_method_149_code 44 = .ok (.iload_n 3, 1) := by decide +kernel
theorem dinV_45 : decode jdk_42_method_149_code 45 = .ok (.invokestatic 47, 3) := by decide +kernel
theorem dinV_48 : decode jdk_42_method_149_code 48 = .ok (.putfield 15, 3) := by decide +kernel
theorem dinV_51 : decode jdk_42_method_149_code 51 = .ok (.aload_n 0, 1) := by decide +kernel
theorem dinV_52 : decode jdk_42_method_149_code 52 = .ok (.aload 5, 2) := by decide +kernel
theorem dinV_54 : decode jdk_42_method_149_code 54 = .ok (.putfield 9, 3) := by decide +kernel
theorem dinV_57 : decode jdk_42_method_149_code 57 = .ok (.return_, 1) := by decide +kernel
theorem pn_inV : plainFor (⟨"java/lang/String", "<init>", "([CIILjava/lang/Void;)V"⟩ : MethodName) = true := by first | exact plainFor_of_name (by first | (simp [plainName, overriddenIn]; done) | decide +kernel) | decide +kernel
theorem ef_inV (m : MethodId) (x0 : Addr) (x1 : Addr) (x2 : Int32) (x3 : Int32) : entryFrame m #[(.ref x0), (.ref x1), (.int x2), (.int x3), .null] 6 = mkF m 0 #[rv x0, rv x1, iv x2, iv x3, .val .null, .unset] [] := by first | (simp [entryFrame, mkF, argsToLocals, Value.category]; done) | rfl
set_option maxRecDepth 65536 in
set_option maxHeartbeats 40000000 in
theorem rm_inV (l : Launch) (Z : State) (a0 : Array Value) (hw : ∀ d ∈ tables_1, d.before a0 Z = true) (ws : List Jvm.Cond) (x arr : Addr) (n : Nat) (ch : Nat → Nat) (n0 : Nat) (cS : Int32) (h0 : Heap) (Z0 : n0 ≤ h0.size) (hn1 : 1 ≤ n) (hn : n ≤ 8) (hc : ∀ q, q < n → ch q < 256) (V_arr : Ary Z h0 arr .char (IL n (fun q => Int32.ofNat (ch q)))) (E_x : Exa Z h0 x "java/lang/String") (Fv : Fld Z h0 x "java/lang/String" "value" "[B" .null) (Fc : Fld Z h0 x "java/lang/String" "coder" "B" (.int (0 : Int32))) (g_x : n0 ≤ x) (O0 : Old Z n0 h0) (Sc : Sta Z Z.heap "java/lang/String" "COMPACT_STRINGS" "Z" (.int cS)) (hcS : ¬ (cS = (0 : Int32))) (ne_x_arr : x ≠ arr) :
    Mt l Z (⟨"java/lang/String", "<init>", "([CIILjava/lang/Void;)V"⟩ : MethodName) jdk_42_method_149_code 6 none ws ({ frames := 2, cells := 1, slots := 8, locals := 38 } : Room) #[(.ref x), (.ref arr), (.int (0 : Int32)), (.int (Int32.ofNat n)), .null] h0 (fun v h L => v = none ∧ Fr n0 L ∧ Keep h0 h [x] ∧ Fld Z h x "java/lang/String" "coder" "B" (.int (0 : Int32)) ∧ ∃ t, h0.size ≤ t ∧ Fld Z h x "java/lang/String" "value" "[B" (.ref t) ∧ Ary Z h t .byte (IL n (fun q => bI (ch q)))) := by
  refine Mt.body pn_inV ?_
  intro p e s m below meth c s₁ hx hby hml hown hnm hret hlk hZ X0 e0
  refine Go.cast (g' := (mkF m 0 #[rv x, rv arr, iv (0 : Int32), iv (Int32.ofNat n), .val .null, .unset] [])) (ef_inV m x arr (0 : Int32) (Int32.ofNat n)) ?_
  have N0 := Fr.nil n0
  have K0 := Keep.refl h0 [x]
  refine Go.st (T' := s₁) (g' := (mkF m 1 #[rv x, rv arr, iv (0 : Int32), iv (Int32.ofNat n), .val .null, .unset] [(.ref x)])) ?_ (fun _ kk_ => XS.aloadN X0.here hx rfl (hb hby dinV_0) rfl rfl  kk_)
  obtain ⟨T1, X1, e1, st1⟩ := initO X0 hx hZ hown (hw _ (List.mem_of_getElem? (i := 20) rfl)) (hw _ (List.mem_of_getElem? (i := 21) rfl)) (hw _ (List.mem_of_getElem? (i := 22) rfl)) e0 (g := (mkF m 1 #[rv x, rv arr, iv (0 : Int32), iv (Int32.ofNat n), .val .null, .unset] [(.ref x)])) rfl (by rw [hml]; rfl) rfl (hb hby dinV_1) (by decide) (W := 0) (by show 2 * 0 + _ ≤ _; exact Nat.le_of_eq rfl) (by decide)
  refine Go.st (T' := T1) (g' := (mkF m 4 #[rv x, rv arr, iv (0 : Int32), iv (Int32.ofNat n), .val .null, .unset] [])) ?_ st1
  refine Go.st (T' := T1) (g' := (mkF m 27 #[rv x, rv arr, iv (0 : Int32), iv (Int32.ofNat n), .val .null, .unset] [])) ?_ (fun _ kk_ => XS.iloadN X1.here hx rfl (hb hby dinV_4) rfl  (XS.ifYes X1.here hx rfl (pc0 := 5) (pc' := 27) rfl (hb hby dinV_5) rfl ((if0 _ _).trans (feq ((fun z => by have := (own_eq (i := n) (n := 0) (by omega) (by decide)).mp z; omega) : ¬ ((Int32.ofNat n) = (0 : Int32)))).2) (by decide) (by decide) kk_))
  obtain ⟨T2, X2, e2, st2⟩ := getS2 X1 hx hZ hown (host := "") (Or.inl (hw _ (List.mem_of_getElem? (i := 23) rfl))) Via.refl e1 (Sc.ext O0.2) (g := (mkF m 27 #[rv x, rv arr, iv (0 : Int32), iv (Int32.ofNat n), .val .null, .unset] [])) rfl (hb hby dinV_27)
  refine Go.st (T' := T2) (g' := (mkF m 30 #[rv x, rv arr, iv (0 : Int32), iv (Int32.ofNat n), .val .null, .unset] [(.int cS)])) ?_ st2
  refine Go.st (T' := T2) (g' := (mkF m 36 #[rv x, rv arr, iv (0 : Int32), iv (Int32.ofNat n), .val .null, .unset] [(.int (Int32.ofNat n)), (.int (0 : Int32)), (.ref arr)])) ?_ (fun _ kk_ => XS.ifNo X2.here hx rfl (hb hby dinV_30) rfl ((if0 _ _).trans (feq (hcS : ¬ (cS = (0 : Int32)))).1) (XS.aloadN X2.here hx rfl (hb hby dinV_33) rfl rfl  (XS.iloadN X2.here hx rfl (hb hby dinV_34) rfl  (XS.iloadN X2.here hx rfl (hb hby dinV_35) rfl  kk_))))
  refine Go.callS (y := (⟨"java/lang/StringUTF16", "compress", "([CII)[B"⟩ : MethodName)) X2 hx hZ hown (hw _ (List.mem_of_getElem? (i := 24) rfl)) (hw _ (List.mem_of_getElem? (i := 25) rfl)) (hw _ (List.mem_of_getElem? (i := 26) rfl)) (hw _ (List.mem_of_getElem? (i := 27) rfl)) (by decide) 0 (rm_cp1 l Z a0 hw [] arr n ch n0 h0 Z0 hn hc V_arr) e2 (by decide) (by decide) (by decide) (by decide) (argsL := [(.ref arr), (.int (0 : Int32)), (.int (Int32.ofNat n))]) (rest := []) rfl (by rw [hml]; rfl) (lenOf pd__28_5bCII_29_5bB rfl) rfl rfl (by show 2 * 0 + _ ≤ _; exact Nat.le_of_eq rfl) (hb hby dinV_36) ?_
  rintro _ T3 L3 X3 ⟨t, rfl, N3, K3, tz, V3⟩
  have N4 := Fr.app N0 N3
  have O5 := O0.keep K3 all0
  have Z6 : n0 ≤ T3.heap.size := Nat.le_trans Z0 K3.1
  have K7 : Keep h0 T3.heap [x] := K0.trans K3 all0
  show Go p e below _ T3 (mkF m 39 #[rv x, rv arr, iv (0 : Int32), iv (Int32.ofNat n), .val .null, .unset] [(.ref t)])
  have ne_x_t : x ≠ t := Nat.ne_of_lt (Nat.lt_of_lt_of_le E_x.lt tz)
  refine Go.st (T' := T3) (g' := (mkF m 45 #[rv x, rv arr, iv (0 : Int32), iv (Int32.ofNat n), .val .null, rv t] [(.int (Int32.ofNat n)), (.ref t), (.ref x)])) ?_ (fun _ kk_ => XS.astore X3.here hx rfl (hb hby dinV_39) rfl rfl (l' := #[rv x, rv arr, iv (0 : Int32), iv (Int32.ofNat n), .val .null, rv t]) rfl (XS.aloadN X3.here hx rfl (hb hby dinV_41) rfl rfl  (XS.aload X3.here hx rfl (hb hby dinV_42) rfl rfl  (XS.iloadN X3.here hx rfl (hb hby dinV_44) rfl  kk_))))
  refine Go.callS (y := (⟨"java/lang/StringUTF16", "coderFromArrayLen", "([BI)B"⟩ : MethodName)) X3 hx hZ hown (hw _ (List.mem_of_getElem? (i := 32) rfl)) (hw _ (List.mem_of_getElem? (i := 33) rfl)) (hw _ (List.mem_of_getElem? (i := 26) rfl)) (hw _ (List.mem_of_getElem? (i := 34) rfl)) (by decide) 1 (rm_cal l Z a0 hw [] t n _ T3.heap V3) rfl (by decide) (by decide) (by decide) (by decide) (argsL := [(.ref t), (.int (Int32.ofNat n))]) (rest := [(.ref x)]) rfl (by rw [hml]; rfl) (lenOf pd__28_5bBI_29B rfl) rfl rfl (by show 2 * 0 + _ ≤ _; exact Nat.le_of_eq rfl) (hb hby dinV_45) ?_
  rintro _ T8 L8 X8 ⟨rfl, e8, rfl⟩
  have N9 := Fr.app N4 (Fr.nil _)
  show Go p e below _ T8 (mkF m 48 #[rv x, rv arr, iv (0 : Int32), iv (Int32.ofNat n), .val .null, rv t] [(.int (0 : Int32)), (.ref x)])
  have f10 := (Fc.keep K3 nin0)
  have f11 := (E_x.keep K3)
  obtain ⟨T12, h12, X12, e12, W12, st12⟩ := putFN X8 hx hZ hown (hw _ (List.mem_of_getElem? (i := 35) rfl)) Via.refl e8 f10 f11 (Or.inr ⟨(hw _ (List.mem_of_getElem? (i := 36) rfl)), rfl, hnm⟩) (hw _ (List.mem_of_getElem? (i := 11) rfl)) (ty := .byte) (v' := (.int (0 : Int32))) (by decide) (by decide) (by decide) (g := (mkF m 48 #[rv x, rv arr, iv (0 : Int32), iv (Int32.ofNat n), .val .null, rv t] [(.int (0 : Int32)), (.ref x)])) rfl rfl (hb hby dinV_48)
  have N13 := Fr.snoc X12 N9 g_x
  have O14 := O5.wr W12 g_x
  have f15 := f10.same W12
  have K16 : Keep h0 h12 [x] := K7.wr W12 (Or.inl (List.mem_of_getElem? (i := 0) rfl))
  have Z17 : n0 ≤ h12.size := by rw [W12.size]; exact Z6
  refine Go.st (T' := T12) (g' := (mkF m 51 #[rv x, rv arr, iv (0 : Int32), iv (Int32.ofNat n), .val .null, rv t] [])) ?_ st12
  refine Go.st (T' := T12) (g' := (mkF m 54 #[rv x, rv arr, iv (0 : Int32), iv (Int32.ofNat n), .val .null, rv t] [(.ref t), (.ref x)])) ?_ (fun _ kk_ => XS.aloadN X12.here hx rfl (hb hby dinV_51) rfl rfl  (XS.aload X12.here hx rfl (hb hby dinV_52) rfl rfl  kk_))
  have f18 := ((Fv.keep K3 nin0).other W12 (Or.inr (slot_ne (C := "java/lang/String") (Or.inr (hw _ (List.mem_of_getElem? (i := 38) rfl))) (Or.inr (hw _ (List.mem_of_getElem? (i := 36) rfl))) (by decide) (t := (.array .byte)) (t' := .byte) (by decide) (by decide))))
  have f19 := (f11.wr W12)
  obtain ⟨T20, h20, X20, e20, W20, st20⟩ := putF X12 hx hZ hown (host := "") (Or.inl (hw _ (List.mem_of_getElem? (i := 37) rfl))) Via.refl e12 f18 f19 (Or.inr ⟨(hw _ (List.mem_of_getElem? (i := 38) rfl)), rfl, hnm⟩) (hw _ (List.mem_of_getElem? (i := 11) rfl)) (ty := (.array .byte)) (by decide) rfl rfl (g := (mkF m 54 #[rv x, rv arr, iv (0 : Int32), iv (Int32.ofNat n), .val .null, rv t] [(.ref t), (.ref x)])) rfl rfl (hb hby dinV_54)
  have N21 := Fr.snoc X20 N13 g_x
  have O22 := O14.wr W20 g_x
  have f23 := f18.same W20
  have K24 : Keep h0 h20 [x] := K16.wr W20 (Or.inl (List.mem_of_getElem? (i := 0) rfl))
  have Z25 : n0 ≤ h20.size := by rw [W20.size]; exact Z17
  refine Go.st (T' := T20) (g' := (mkF m 57 #[rv x, rv arr, iv (0 : Int32), iv (Int32.ofNat n), .val .null, rv t] [])) ?_ st20
  have f26 := (f15.other W20 (Or.inr (slot_ne (C := "java/lang/String") (Or.inr (hw _ (List.mem_of_getElem? (i := 36) rfl))) (Or.inr (hw _ (List.mem_of_getElem? (i := 38) rfl))) (by decide) (t := .byte) (t' := (.array .byte)) (by decide) (by decide))))
  have f27 := ((V3.other W12 (Ne.symm ne_x_t)).other W20 (Ne.symm ne_x_t))
  refine Go.retV X20 hx hlk hret (hb hby dinV_57) (by decide) (by decide) ?_
  try rw [e20]
  exact ⟨rfl, N21, K24, f26, t, tz, f23, f27⟩
theorem din1_0 : decode jdk_42_method_3_code 0 = .ok (.aload_n 0, 1) := by decide +kernel
theorem din1_1 : decode jdk_42_method_3_code 1 = .ok (.aload_n 1, 1) := by decide +kernel
theorem din1_2 : decode jdk_42_method_3_code 2 = .ok (.iconst 0, 1) := by decide +kernel
theorem din1_3 : decode jdk_42_method_3_code 3 = .ok (.aload_n 1, 1) := by decide +kernel
theorem din1_4 : decode jdk_42_method_3_code 4 = .ok (.arraylength, 1) := by decide +kernel
theorem din1_5 : decode jdk_42_method_3_code 5 = .ok (.aconst_null, 1) := by decide +kernel
theorem din1_6 : decode jdk_42_method_3_code 6 = .ok (.invokespecial 27, 3) := by decide +kernel
theorem din1_9 : decode jdk_42_method_3_code 9 = .ok (.return_, 1) := by decide +kernel
theorem pn_in1 : plainFor (⟨"java/lang/String", "<init>", "([C)V"⟩ : MethodName) = true := by first | exact plainFor_of_name (by first | (simp [plainName, overriddenIn]; done) | decide +kernel) | decide +kernel
theorem ef_in1 (m : MethodId) (x0 : Addr) (x1 : Addr) : entryFrame m #[(.ref x0), (.ref x1)] 2 = mkF m 0 #[rv x0, rv x1] [] := by first | (simp [entryFrame, mkF, argsToLocals, Value.category]; done) | rfl
set_option maxRecDepth 65536 in
set_option maxHeartbeats 40000000 in
theorem rm_in1 (l : Launch) (Z : State) (a0 : Array Value) (hw : ∀ d ∈ tables_1, d.before a0 Z = true) (ws : List Jvm.Cond) (x arr : Addr) (n : Nat) (ch : Nat → Nat) (n0 : Nat) (cS : Int32) (h0 : Heap) (Z0 : n0 ≤ h0.size) (hn1 : 1 ≤ n) (hn : n ≤ 8) (hc : ∀ q, q < n → ch q < 256) (V_arr : Ary Z h0 arr .char (IL n (fun q => Int32.ofNat (ch q)))) (E_x : Exa Z h0 x "java/lang/String") (Fv : Fld Z h0 x "java/lang/String" "value" "[B" .null) (Fc : Fld Z h0 x "java/lang/String" "coder" "B" (.int (0 : Int32))) (g_x : n0 ≤ x) (O0 : Old Z n0 h0) (Sc : Sta Z Z.heap "java/lang/String" "COMPACT_STRINGS" "Z" (.int cS)) (hcS : ¬ (cS = (0 : Int32))) (ne_x_arr : x ≠ arr) :
    Mt l Z (⟨"java/lang/String", "<init>", "([C)V"⟩ : MethodName) jdk_42_method_3_code 2 none ws ({ frames := 3, cells := 1, slots := 8, locals := 55 } : Room) #[(.ref x), (.ref arr)] h0 (fun v h L => v = none ∧ Fr n0 L ∧ Keep h0 h [x] ∧ Fld Z h x "java/lang/String" "coder" "B" (.int (0 : Int32)) ∧ ∃ t, h0.size ≤ t ∧ Fld Z h x "java/lang/String" "value" "[B" (.ref t) ∧ Ary Z h t .byte (IL n (fun q => bI (ch q)))) := by
  refine Mt.body pn_in1 ?_
  intro p e s m below meth c s₁ hx hby hml hown hnm hret hlk hZ X0 e0
  refine Go.cast (g' := (mkF m 0 #[rv x, rv arr] [])) (ef_in1 m x arr) ?_
  have N0 := Fr.nil n0
  have K0 := Keep.refl h0 [x]
  refine Go.st (T' := s₁) (g' := (mkF m 6 #[rv x, rv arr] [.null, (.int (Int32.ofNat n)), (.int (0 : Int32)), (.ref arr), (.ref x)])) ?_ (fun _ kk_ => XS.aloadN X0.here hx rfl (hb hby din1_0) rfl rfl  (XS.aloadN X0.here hx rfl (hb hby din1_1) rfl rfl  (XS.iconst X0.here hx rfl (hb hby din1_2) (XS.aloadN X0.here hx rfl (hb hby din1_3) rfl rfl  (own_alen X0 hx hZ e0 V_arr (IL_len _ _) rfl rfl (hb hby din1_4) (XS.aconstNull X0.here hx rfl (hb hby din1_5) kk_))))))
  refine Go.callN (y := (⟨"java/lang/String", "<init>", "([CIILjava/lang/Void;)V"⟩ : MethodName)) X0 hx hZ rfl hown (hw _ (List.mem_of_getElem? (i := 16) rfl)) (hw _ (List.mem_of_getElem? (i := 17) rfl)) (hw _ (List.mem_of_getElem? (i := 12) rfl)) (hw _ (List.mem_of_getElem? (i := 19) rfl)) (by decide) 0 (rm_inV l Z a0 hw [] x arr n ch n0 cS h0 Z0 hn1 hn hc V_arr E_x Fv Fc g_x O0 Sc hcS ne_x_arr) e0 (by decide) (by decide) (by decide) (by decide) (a := x) (argsL := [(.ref arr), (.int (0 : Int32)), (.int (Int32.ofNat n)), .null]) (rest := []) rfl (by rw [hml]; rfl) (lenOf pd__28_5bCIILjava_2flang_2fVoid_3b_29V rfl) rfl rfl (by show 2 * 0 + _ ≤ _; exact Nat.le_of_eq rfl) (hb hby din1_6) ?_
  rintro _ T1 L1 X1 ⟨rfl, N1, K1, Fc1, t, tz, Fv1, V1⟩
  have N2 := Fr.app N0 N1
  have Z3 : n0 ≤ T1.heap.size := Nat.le_trans Z0 K1.1
  have K4 : Keep h0 T1.heap [x] := K0.trans K1 (allS (P := fun z_ => z_ ∈ [x] ∨ h0.size ≤ z_) (Or.inl (List.mem_of_getElem? (i := 0) rfl)) all0)
  show Go p e below _ T1 (mkF m 9 #[rv x, rv arr] [])
  refine Go.retV X1 hx hlk hret (hb hby din1_9) (by decide) (by decide) ?_
  exact ⟨rfl, N2, K4, Fc1, t, tz, Fv1, V1⟩
theorem dinE_0 : decode jdk_42_method_149_code 0 = .ok (.aload_n 0, 1) := by decide +kernel
theorem dinE_1 : decode jdk_42_method_149_code 1 = .ok (.invokespecial 1, 3) := by decide +kernel
theorem dinE_4 : decode jdk_42_method_149_code 4 = .ok (.iload_n 3, 1) := by decide +kernel
theorem dinE_5 : decode jdk_42_method_149_code 5 = .ok (.ifCond .ne 22, 3) := by decide +kernel
theorem dinE_8 : decode jdk_42_method_149_code 8 = .ok (.aload_n 0, 1) := by decide +kernel
theorem dinE_9 : decode jdk_42_method_149_code 9 = .ok (.ldc 7, 2) := by decide +kernel
theorem dinE_11 : decode jdk_42_method_149_code 11 = .ok (.getfield 9, 3) := by decide +kernel
theorem dinE_14 : decode jdk_42_method_149_code 14 = .ok (.putfield 9, 3) := by decide +kernel
theorem dinE_17 : decode jdk_42_method_149_code 17 = .ok (.aload_n 0, 1) := by decide +kernel
theorem dinE_18 : decode jdk_42_method_149_code 18 = .ok (.ldc 7, 2) := by decide +kernel
theorem dinE_20 : decode jdk_42_method_149_code 20 = .ok (.getfield 15, 3) := by decide +kernel
theorem dinE_23 : decode jdk_42_method_149_code 23 = .ok (.putfield 15, 3) := by decide +kernel
theorem dinE_26 : decode jdk_42_method_149_code 26 = .ok (.return_, 1) := by decide +kernel
theorem pn_inE : plainFor (⟨"java/lang/String", "<init>", "([CIILjava/lang/Void;)V"⟩ : MethodName) = true := by first | exact plainFor_of_name (by first | (simp [plainName, overriddenIn]; done) | decide +kernel) | decide +kernel
theorem ef_inE (m : MethodId) (x0 : Addr) (x1 : Addr) (x2 : Int32) (x3 : Int32) : entryFrame m #[(.ref x0), (.ref x1), (.int x2), (.int x3), .null] 6 = mkF m 0 #[rv x0, rv x1, iv x2, iv x3, .val .null, .unset] [] := by first | (simp [entryFrame, mkF, argsToLocals, Value.category]; done) | rfl
set_option maxRecDepth 65536 in
set_option maxHeartbeats 40000000 in
theorem rm_inE (l : Launch) (Z : State) (a0 : Array Value) (hw : ∀ d ∈ tables_1, d.before a0 Z = true) (ws : List Jvm.Cond) (x arr : Addr) (n0 : Nat) (h0 : Heap) (hEL : EW Z a0 consts_1) (wS : ∀ a ∈ Bundle.stringAtoms, a.before a0 Z = true) (Z0 : n0 ≤ h0.size) (E_x : Exa Z h0 x "java/lang/String") (Fv : Fld Z h0 x "java/lang/String" "value" "[B" .null) (Fc : Fld Z h0 x "java/lang/String" "coder" "B" (.int (0 : Int32))) (g_x : n0 ≤ x) :
    MtH l Z consts_1 (⟨"java/lang/String", "<init>", "([CIILjava/lang/Void;)V"⟩ : MethodName) jdk_42_method_149_code 6 none ws ({ frames := 1, cells := 4, slots := 8, locals := 13 } : Room) #[(.ref x), (.ref arr), (.int (0 : Int32)), (.int (0 : Int32)), .null] h0 (fun v h L => v = none ∧ Fr n0 L ∧ Keep h0 h [x] ∧ Fld Z h x "java/lang/String" "coder" "B" (.int (0 : Int32)) ∧ ∃ t, Fld Z h x "java/lang/String" "value" "[B" (.ref t) ∧ Ary Z h t .byte (IL 0 (fun _ => 0))) := by
  refine MtH.body pn_inE ?_
  intro p e s m below meth c s₁ hx hby hml hown hnm hret hlk hZ X0 e0 HS0
  refine Go.cast (g' := (mkF m 0 #[rv x, rv arr, iv (0 : Int32), iv (0 : Int32), .val .null, .unset] [])) (ef_inE m x arr (0 : Int32) (0 : Int32)) ?_
  have N0 := Fr.nil n0
  have K0 := Keep.refl h0 [x]
  have sfx : Sf Z consts_1 s.vm h0 x := ⟨own_nullSafe hZ.alike E_x Fv, E_x.lt⟩
  refine Go.st (T' := s₁) (g' := (mkF m 1 #[rv x, rv arr, iv (0 : Int32), iv (0 : Int32), .val .null, .unset] [(.ref x)])) ?_ (fun _ kk_ => XS.aloadN X0.here hx rfl (hb hby dinE_0) rfl rfl  kk_)
  obtain ⟨T1, X1, e1, st1⟩ := initO X0 hx hZ hown (hw _ (List.mem_of_getElem? (i := 20) rfl)) (hw _ (List.mem_of_getElem? (i := 21) rfl)) (hw _ (List.mem_of_getElem? (i := 22) rfl)) e0 (g := (mkF m 1 #[rv x, rv arr, iv (0 : Int32), iv (0 : Int32), .val .null, .unset] [(.ref x)])) rfl (by rw [hml]; rfl) rfl (hb hby dinE_1) (by decide) (W := 0) (by show 2 * 0 + _ ≤ _; exact Nat.le_of_eq rfl) (by decide)
  refine Go.st (T' := T1) (g' := (mkF m 4 #[rv x, rv arr, iv (0 : Int32), iv (0 : Int32), .val .null, .unset] [])) ?_ st1
  refine Go.st (T' := T1) (g' := (mkF m 9 #[rv x, rv arr, iv (0 : Int32), iv (0 : Int32), .val .null, .unset] [(.ref x)])) ?_ (fun _ kk_ => XS.iloadN X1.here hx rfl (hb hby dinE_4) rfl  (XS.ifNo X1.here hx rfl (hb hby dinE_5) rfl ((if0 _ _).trans (teq ((by decide) : (0 : Int32) = (0 : Int32))).2) (XS.aloadN X1.here hx rfl (hb hby dinE_8) rfl rfl  kk_)))
  refine Go.ldcH X1 hx hZ hown (hw _ (List.mem_of_getElem? (i := 170) rfl)) wS e1 HS0 hEL (by decide) (vs := []) ⟨by decide, rfl⟩ (by decide) rfl (hb hby dinE_9) 0 (by decide) (by decide) (by decide) (by decide) ?_
  intro a2 b2 T2 h2 X2 e2 E2 hZ2 ho2 HS2 A2 Fc2 Fv2 V2 C2 D2
  have Z3 : n0 ≤ h2.size := Nat.le_trans Z0 E2.1
  have K4 : Keep h0 h2 [x] := K0.ext E2
  have f5 := (Sf.vm E2.1 C2 sfx)
  obtain ⟨ne_x_a2, ne_x_b2⟩ := D2 x (f5).1
  show Go p e below _ T2 (mkF m 11 #[rv x, rv arr, iv (0 : Int32), iv (0 : Int32), .val .null, .unset] [(.ref a2), (.ref x)])
  obtain ⟨T6, X6, e6, st6⟩ := getF X2 hx hZ2 ho2 (host := "") (Or.inl (hw _ (List.mem_of_getElem? (i := 37) rfl))) Via.refl e2 Fv2 (g := (mkF m 11 #[rv x, rv arr, iv (0 : Int32), iv (0 : Int32), .val .null, .unset] [(.ref a2), (.ref x)])) rfl rfl (hb hby dinE_11)
  refine Go.st (T' := T6) (g' := (mkF m 14 #[rv x, rv arr, iv (0 : Int32), iv (0 : Int32), .val .null, .unset] [(.ref b2), (.ref x)])) ?_ st6
  have f7 := (Fv.ext E2)
  have f8 := (E_x.ext E2)
  obtain ⟨T9, h9, X9, e9, W9, st9⟩ := putF X6 hx hZ2 ho2 (host := "") (Or.inl (hw _ (List.mem_of_getElem? (i := 37) rfl))) Via.refl e6 f7 f8 (Or.inr ⟨(hw _ (List.mem_of_getElem? (i := 38) rfl)), rfl, hnm⟩) (hw _ (List.mem_of_getElem? (i := 11) rfl)) (ty := (.array .byte)) (by decide) rfl rfl (g := (mkF m 14 #[rv x, rv arr, iv (0 : Int32), iv (0 : Int32), .val .null, .unset] [(.ref b2), (.ref x)])) rfl rfl (hb hby dinE_14)
  have N10 := Fr.snoc X9 N0 g_x
  have HS11 := HS.wr HS2 W9 (f5).1
  have f12 := f7.same W9
  have K13 : Keep h0 h9 [x] := K4.wr W9 (Or.inl (List.mem_of_getElem? (i := 0) rfl))
  have Z14 : n0 ≤ h9.size := by rw [W9.size]; exact Z3
  refine Go.st (T' := T9) (g' := (mkF m 17 #[rv x, rv arr, iv (0 : Int32), iv (0 : Int32), .val .null, .unset] [])) ?_ st9
  refine Go.st (T' := T9) (g' := (mkF m 18 #[rv x, rv arr, iv (0 : Int32), iv (0 : Int32), .val .null, .unset] [(.ref x)])) ?_ (fun _ kk_ => XS.aloadN X9.here hx rfl (hb hby dinE_17) rfl rfl  kk_)
  refine Go.ldcH X9 hx hZ2 ho2 (hw _ (List.mem_of_getElem? (i := 170) rfl)) wS e9 HS11 hEL (by decide) (vs := []) ⟨by decide, rfl⟩ (by decide) rfl (hb hby dinE_18) 0 (by decide) (by decide) (by decide) (by decide) ?_
  intro a15 b15 T15 h15 X15 e15 E15 hZ15 ho15 HS15 A15 Fc15 Fv15 V15 C15 D15
  have Z16 : n0 ≤ h15.size := Nat.le_trans Z14 E15.1
  have K17 : Keep h0 h15 [x] := K13.ext E15
  have f18 := (Sf.vm E15.1 C15 (Sf.wr HS2 W9 (f5).1 f5))
  obtain ⟨ne_x_a15, ne_x_b15⟩ := D15 x (f18).1
  show Go p e below _ T15 (mkF m 20 #[rv x, rv arr, iv (0 : Int32), iv (0 : Int32), .val .null, .unset] [(.ref a15), (.ref x)])
  obtain ⟨T19, X19, e19, st19⟩ := getF X15 hx hZ15 ho15 (host := "") (Or.inl (hw _ (List.mem_of_getElem? (i := 35) rfl))) Via.refl e15 Fc15 (g := (mkF m 20 #[rv x, rv arr, iv (0 : Int32), iv (0 : Int32), .val .null, .unset] [(.ref a15), (.ref x)])) rfl rfl (hb hby dinE_20)
  refine Go.st (T' := T19) (g' := (mkF m 23 #[rv x, rv arr, iv (0 : Int32), iv (0 : Int32), .val .null, .unset] [(.int (0 : Int32)), (.ref x)])) ?_ st19
  have f20 := (((Fc.ext E2).other W9 (Or.inr (slot_ne (C := "java/lang/String") (Or.inr (hw _ (List.mem_of_getElem? (i := 36) rfl))) (Or.inr (hw _ (List.mem_of_getElem? (i := 38) rfl))) (by decide) (t := .byte) (t' := (.array .byte)) (by decide) (by decide)))).ext E15)
  have f21 := ((f8.wr W9).ext E15)
  obtain ⟨T22, h22, X22, e22, W22, st22⟩ := putFN X19 hx hZ15 ho15 (hw _ (List.mem_of_getElem? (i := 35) rfl)) Via.refl e19 f20 f21 (Or.inr ⟨(hw _ (List.mem_of_getElem? (i := 36) rfl)), rfl, hnm⟩) (hw _ (List.mem_of_getElem? (i := 11) rfl)) (ty := .byte) (v' := (.int (0 : Int32))) (by decide) (by decide) (by decide) (g := (mkF m 23 #[rv x, rv arr, iv (0 : Int32), iv (0 : Int32), .val .null, .unset] [(.int (0 : Int32)), (.ref x)])) rfl rfl (hb hby dinE_23)
  have N23 := Fr.snoc X22 N10 g_x
  have HS24 := HS.wr HS15 W22 (f18).1
  have f25 := f20.same W22
  have K26 : Keep h0 h22 [x] := K17.wr W22 (Or.inl (List.mem_of_getElem? (i := 0) rfl))
  have Z27 : n0 ≤ h22.size := by rw [W22.size]; exact Z16
  refine Go.st (T' := T22) (g' := (mkF m 26 #[rv x, rv arr, iv (0 : Int32), iv (0 : Int32), .val .null, .unset] [])) ?_ st22
  have f28 := ((f12.ext E15).other W22 (Or.inr (slot_ne (C := "java/lang/String") (Or.inr (hw _ (List.mem_of_getElem? (i := 38) rfl))) (Or.inr (hw _ (List.mem_of_getElem? (i := 36) rfl))) (by decide) (t := (.array .byte)) (t' := .byte) (by decide) (by decide))))
  have f29 := (((V2.other W9 (Ne.symm ne_x_b2)).ext E15).other W22 (Ne.symm ne_x_b2))
  refine Go.retVH X22 hx hlk hret (hb hby dinE_26) (by decide) (by decide) hZ15 hEL (by rw [e22]; exact HS24) ?_
  try rw [e22]
  exact ⟨rfl, N23, K26, f25, b2, f28, f29⟩
theorem di1E_0 : decode jdk_42_method_3_code 0 = .ok (.aload_n 0, 1) := by decide +kernel
theorem di1E_1 : decode jdk_42_method_3_code 1 = .ok (.aload_n 1, 1) := by decide +kernel
theorem di1E_2 : decode jdk_42_method_3_code 2 = .ok (.iconst 0, 1) := by decide +kernel
theorem di1E_3 : decode jdk_42_method_3_code 3 = .ok (.aload_n 1, 1) := by decide +kernel
theorem di1E_4 : decode jdk_42_method_3_code 4 = .ok (.arraylength, 1) := by decide +kernel
theorem di1E_5 : decode jdk_42_method_3_code 5 = .ok (.aconst_null, 1) := by decide +kernel
theorem di1E_6 : decode jdk_42_method_3_code 6 = .ok (.invokespecial 27, 3) := by decide +kernel
theorem di1E_9 : decode jdk_42_method_3_code 9 = .ok (.return_, 1) := by decide +kernel
theorem pn_i1E : plainFor (⟨"java/lang/String", "<init>", "([C)V"⟩ : MethodName) = true := by first | exact plainFor_of_name (by first | (simp [plainName, overriddenIn]; done) | decide +kernel) | decide +kernel
theorem ef_i1E (m : MethodId) (x0 : Addr) (x1 : Addr) : entryFrame m #[(.ref x0), (.ref x1)] 2 = mkF m 0 #[rv x0, rv x1] [] := by first | (simp [entryFrame, mkF, argsToLocals, Value.category]; done) | rfl
set_option maxRecDepth 65536 in
set_option maxHeartbeats 40000000 in
theorem rm_i1E (l : Launch) (Z : State) (a0 : Array Value) (hw : ∀ d ∈ tables_1, d.before a0 Z = true) (ws : List Jvm.Cond) (x arr : Addr) (n0 : Nat) (h0 : Heap) (hEL : EW Z a0 consts_1) (wS : ∀ a ∈ Bundle.stringAtoms, a.before a0 Z = true) (Z0 : n0 ≤ h0.size) (V_arr : Ary Z h0 arr .char []) (E_x : Exa Z h0 x "java/lang/String") (Fv : Fld Z h0 x "java/lang/String" "value" "[B" .null) (Fc : Fld Z h0 x "java/lang/String" "coder" "B" (.int (0 : Int32))) (g_x : n0 ≤ x) :
    MtH l Z consts_1 (⟨"java/lang/String", "<init>", "([C)V"⟩ : MethodName) jdk_42_method_3_code 2 none ws ({ frames := 2, cells := 4, slots := 8, locals := 30 } : Room) #[(.ref x), (.ref arr)] h0 (fun v h L => v = none ∧ Fr n0 L ∧ Keep h0 h [x] ∧ Fld Z h x "java/lang/String" "coder" "B" (.int (0 : Int32)) ∧ ∃ t, Fld Z h x "java/lang/String" "value" "[B" (.ref t) ∧ Ary Z h t .byte (IL 0 (fun _ => 0))) := by
  refine MtH.body pn_i1E ?_
  intro p e s m below meth c s₁ hx hby hml hown hnm hret hlk hZ X0 e0 HS0
  refine Go.cast (g' := (mkF m 0 #[rv x, rv arr] [])) (ef_i1E m x arr) ?_
  have N0 := Fr.nil n0
  have K0 := Keep.refl h0 [x]
  have sfx : Sf Z consts_1 s.vm h0 x := ⟨own_nullSafe hZ.alike E_x Fv, E_x.lt⟩
  refine Go.st (T' := s₁) (g' := (mkF m 6 #[rv x, rv arr] [.null, (.int (0 : Int32)), (.int (0 : Int32)), (.ref arr), (.ref x)])) ?_ (fun _ kk_ => XS.aloadN X0.here hx rfl (hb hby di1E_0) rfl rfl  (XS.aloadN X0.here hx rfl (hb hby di1E_1) rfl rfl  (XS.iconst X0.here hx rfl (hb hby di1E_2) (XS.aloadN X0.here hx rfl (hb hby di1E_3) rfl rfl  (own_alen X0 hx hZ e0 V_arr (n := 0) rfl rfl rfl (hb hby di1E_4) (XS.aconstNull X0.here hx rfl (hb hby di1E_5) kk_))))))
  refine Go.callNH (y := (⟨"java/lang/String", "<init>", "([CIILjava/lang/Void;)V"⟩ : MethodName)) X0 hx hZ rfl hown (hw _ (List.mem_of_getElem? (i := 16) rfl)) (hw _ (List.mem_of_getElem? (i := 17) rfl)) (hw _ (List.mem_of_getElem? (i := 12) rfl)) (hw _ (List.mem_of_getElem? (i := 19) rfl)) (by decide) 0 HS0 hEL (rm_inE l Z a0 hw [] x arr n0 h0 hEL wS Z0 E_x Fv Fc g_x) e0 (by decide) (by decide) (by decide) (by decide) (a := x) (argsL := [(.ref arr), (.int (0 : Int32)), (.int (0 : Int32)), .null]) (rest := []) rfl (by rw [hml]; rfl) (lenOf pd__28_5bCIILjava_2flang_2fVoid_3b_29V rfl) rfl rfl (by show 2 * 0 + _ ≤ _; exact Nat.le_of_eq rfl) (hb hby di1E_6) ?_
  rintro _ T1 L1 X1 ⟨rfl, N1, K1, Fc1, t, Fv1, V1⟩ hZ1 ho1 HS1 C1
  have N2 := Fr.app N0 N1
  have Z3 : n0 ≤ T1.heap.size := Nat.le_trans Z0 K1.1
  have K4 : Keep h0 T1.heap [x] := K0.trans K1 (allS (P := fun z_ => z_ ∈ [x] ∨ h0.size ≤ z_) (Or.inl (List.mem_of_getElem? (i := 0) rfl)) all0)
  show Go p e below _ T1 (mkF m 9 #[rv x, rv arr] [])
  refine Go.retVH X1 hx hlk hret (hb hby di1E_9) (by decide) (by decide) hZ1 hEL HS1 ?_
  exact ⟨rfl, N2, K4, Fc1, t, Fv1, V1⟩
theorem dcod_0 : decode jdk_42_method_152_code 0 = .ok (.getstatic 38, 3) := by decide +kernel
theorem dcod_3 : decode jdk_42_method_152_code 3 = .ok (.ifCond .eq 10, 3) := by decide +kernel
theorem dcod_6 : decode jdk_42_method_152_code 6 = .ok (.aload_n 0, 1) := by decide +kernel
theorem dcod_7 : decode jdk_42_method_152_code 7 = .ok (.getfield 15, 3) := by decide +kernel
theorem dcod_10 : decode jdk_42_method_152_code 10 = .ok (.goto 4, 3) := by decide +kernel
theorem dcod_14 : decode jdk_42_method_152_code 14 = .ok (.ireturn, 1) := by decide +kernel
theorem pn_cod : plainFor (⟨"java/lang/String", "coder", "()B"⟩ : MethodName) = true := by first | exact plainFor_of_name (by first | (simp [plainName, overriddenIn]; done) | decide +kernel) | decide +kernel
theorem ef_cod (m : MethodId) (x0 : Addr) : entryFrame m #[(.ref x0)] 1 = mkF m 0 #[rv x0] [] := by first | (simp [entryFrame, mkF, argsToLocals, Value.category]; done) | rfl
set_option maxRecDepth 65536 in
set_option maxHeartbeats 40000000 in
theorem rm_cod (l : Launch) (Z : State) (a0 : Array Value) (hw : ∀ d ∈ tables_1, d.before a0 Z = true) (ws : List Jvm.Cond) (a : Addr) (n0 : Nat) (cS : Int32) (h0 : Heap) (Fc_a : Fld Z h0 a "java/lang/String" "coder" "B" (.int (0 : Int32))) (O0 : Old Z n0 h0) (Sc : Sta Z Z.heap "java/lang/String" "COMPACT_STRINGS" "Z" (.int cS)) (hcS : ¬ (cS = (0 : Int32))) :
    Mt l Z (⟨"java/lang/String", "coder", "()B"⟩ : MethodName) jdk_42_method_152_code 1 (some .byte) ws ({ frames := 0, cells := 0, slots := 0, locals := 0 } : Room) #[(.ref a)] h0 (fun v h L => v = some (.int (0 : Int32)) ∧ h = h0 ∧ L = []) := by
  refine Mt.body pn_cod ?_
  intro p e s m below meth c s₁ hx hby hml hown hnm hret hlk hZ X0 e0
  refine Go.cast (g' := (mkF m 0 #[rv a] [])) (ef_cod m a) ?_
  have N0 := Fr.nil n0
  obtain ⟨T1, X1, e1, st1⟩ := getS2 X0 hx hZ hown (host := "") (Or.inl (hw _ (List.mem_of_getElem? (i := 23) rfl))) Via.refl e0 (Sc.ext O0.2) (g := (mkF m 0 #[rv a] [])) rfl (hb hby dcod_0)
  refine Go.st (T' := T1) (g' := (mkF m 3 #[rv a] [(.int cS)])) ?_ st1
  refine Go.st (T' := T1) (g' := (mkF m 7 #[rv a] [(.ref a)])) ?_ (fun _ kk_ => XS.ifNo X1.here hx rfl (hb hby dcod_3) rfl ((if0 _ _).trans (feq (hcS : ¬ (cS = (0 : Int32)))).1) (XS.aloadN X1.here hx rfl (hb hby dcod_6) rfl rfl  kk_))
  obtain ⟨T2, X2, e2, st2⟩ := getF X1 hx hZ hown (host := "") (Or.inl (hw _ (List.mem_of_getElem? (i := 35) rfl))) Via.refl e1 Fc_a (g := (mkF m 7 #[rv a] [(.ref a)])) rfl rfl (hb hby dcod_7)
  refine Go.st (T' := T2) (g' := (mkF m 10 #[rv a] [(.int (0 : Int32))])) ?_ st2
  refine Go.st (T' := T2) (g' := (mkF m 14 #[rv a] [(.int (0 : Int32))])) ?_ (fun _ kk_ => XS.goto X2.here hx rfl (pc0 := 10) (pc' := 14) rfl (hb hby dcod_10) (by decide) (by decide) kk_)
  refine Go.retN X2 hx hlk (t := .byte) hret (by simp) (z' := (0 : Int32)) rfl (hb hby dcod_14) (by decide) (by decide) ?_
  try rw [e2]
  exact ⟨rfl, rfl, rfl⟩
theorem dlat_0 : decode jdk_42_method_154_code 0 = .ok (.getstatic 38, 3) := by decide +kernel
theorem dlat_3 : decode jdk_42_method_154_code 3 = .ok (.ifCond .eq 14, 3) := by decide +kernel
theorem dlat_6 : decode jdk_42_method_154_code 6 = .ok (.aload_n 0, 1) := by decide +kernel
theorem dlat_7 : decode jdk_42_method_154_code 7 = .ok (.getfield 15, 3) := by decide +kernel
theorem dlat_10 : decode jdk_42_method_154_code 10 = .ok (.ifCond .ne 7, 3) := by decide +kernel
theorem dlat_13 : decode jdk_42_method_154_code 13 = .ok (.iconst 1, 1) := by decide +kernel
theorem dlat_14 : decode jdk_42_method_154_code 14 = .ok (.goto 4, 3) := by decide +kernel
theorem dlat_18 : decode jdk_42_method_154_code 18 = .ok (.ireturn, 1) := by decide +kernel
theorem pn_lat : plainFor (⟨"java/lang/String", "isLatin1", "()Z"⟩ : MethodName) = true := by first | exact plainFor_of_name (by first | (simp [plainName, overriddenIn]; done) | decide +kernel) | decide +kernel
theorem ef_lat (m : MethodId) (x0 : Addr) : entryFrame m #[(.ref x0)] 1 = mkF m 0 #[rv x0] [] := by first | (simp [entryFrame, mkF, argsToLocals, Value.category]; done) | rfl
set_option maxRecDepth 65536 in
set_option maxHeartbeats 40000000 in
theorem rm_lat (l : Launch) (Z : State) (a0 : Array Value) (hw : ∀ d ∈ tables_1, d.before a0 Z = true) (ws : List Jvm.Cond) (a : Addr) (n0 : Nat) (cS : Int32) (h0 : Heap) (Fc_a : Fld Z h0 a "java/lang/String" "coder" "B" (.int (0 : Int32))) (O0 : Old Z n0 h0) (Sc : Sta Z Z.heap "java/lang/String" "COMPACT_STRINGS" "Z" (.int cS)) (hcS : ¬ (cS = (0 : Int32))) :
    Mt l Z (⟨"java/lang/String", "isLatin1", "()Z"⟩ : MethodName) jdk_42_method_154_code 1 (some .boolean) ws ({ frames := 0, cells := 0, slots := 0, locals := 0 } : Room) #[(.ref a)] h0 (fun v h L => v = some (.int (1 : Int32)) ∧ h = h0 ∧ L = []) := by
  refine Mt.body pn_lat ?_
  intro p e s m below meth c s₁ hx hby hml hown hnm hret hlk hZ X0 e0
  refine Go.cast (g' := (mkF m 0 #[rv a] [])) (ef_lat m a) ?_
  have N0 := Fr.nil n0
  obtain ⟨T1, X1, e1, st1⟩ := getS2 X0 hx hZ hown (host := "") (Or.inl (hw _ (List.mem_of_getElem? (i := 23) rfl))) Via.refl e0 (Sc.ext O0.2) (g := (mkF m 0 #[rv a] [])) rfl (hb hby dlat_0)
  refine Go.st (T' := T1) (g' := (mkF m 3 #[rv a] [(.int cS)])) ?_ st1
  refine Go.st (T' := T1) (g' := (mkF m 7 #[rv a] [(.ref a)])) ?_ (fun _ kk_ => XS.ifNo X1.here hx rfl (hb hby dlat_3) rfl ((if0 _ _).trans (feq (hcS : ¬ (cS = (0 : Int32)))).1) (XS.aloadN X1.here hx rfl (hb hby dlat_6) rfl rfl  kk_))
  obtain ⟨T2, X2, e2, st2⟩ := getF X1 hx hZ hown (host := "") (Or.inl (hw _ (List.mem_of_getElem? (i := 35) rfl))) Via.refl e1 Fc_a (g := (mkF m 7 #[rv a] [(.ref a)])) rfl rfl (hb hby dlat_7)
  refine Go.st (T' := T2) (g' := (mkF m 10 #[rv a] [(.int (0 : Int32))])) ?_ st2
  refine Go.st (T' := T2) (g' := (mkF m 18 #[rv a] [(.int (1 : Int32))])) ?_ (fun _ kk_ => XS.ifNo X2.here hx rfl (hb hby dlat_10) rfl ((if0 _ _).trans (teq ((by decide) : (0 : Int32) = (0 : Int32))).2) (XS.iconst X2.here hx rfl (hb hby dlat_13) (XS.goto X2.here hx rfl (pc0 := 14) (pc' := 18) rfl (hb hby dlat_14) (by decide) (by decide) kk_)))
  refine Go.retN X2 hx hlk (t := .boolean) hret (by simp) (z' := (1 : Int32)) rfl (hb hby dlat_18) (by decide) (by decide) ?_
  try rw [e2]
  exact ⟨rfl, rfl, rfl⟩
theorem dlen_0 : decode jdk_42_method_54_code 0 = .ok (.aload_n 0, 1) := by decide +kernel
theorem dlen_1 : decode jdk_42_method_54_code 1 = .ok (.getfield 9, 3) := by decide +kernel
theorem dlen_4 : decode jdk_42_method_54_code 4 = .ok (.arraylength, 1) := by decide +kernel
theorem dlen_5 : decode jdk_42_method_54_code 5 = .ok (.aload_n 0, 1) := by decide +kernel
theorem dlen_6 : decode jdk_42_method_54_code 6 = .ok (.invokevirtual 335, 3) := by decide +kernel
theorem dlen_9 : decode jdk_42_method_54_code 9 = .ok (.ishr, 1) := by decide +kernel
theorem dlen_10 : decode jdk_42_method_54_code 10 = .ok (.ireturn, 1) := by decide +kernel
theorem pn_len : plainFor (⟨"java/lang/String", "length", "()I"⟩ : MethodName) = true := by first | exact plainFor_of_name (by first | (simp [plainName, overriddenIn]; done) | decide +kernel) | decide +kernel
theorem ef_len (m : MethodId) (x0 : Addr) : entryFrame m #[(.ref x0)] 1 = mkF m 0 #[rv x0] [] := by first | (simp [entryFrame, mkF, argsToLocals, Value.category]; done) | rfl
set_option maxRecDepth 65536 in
set_option maxHeartbeats 40000000 in
theorem rm_len (l : Launch) (Z : State) (a0 : Array Value) (hw : ∀ d ∈ tables_1, d.before a0 Z = true) (ws : List Jvm.Cond) (a t : Addr) (n : Nat) (f : Nat → Int32) (n0 : Nat) (cS : Int32) (h0 : Heap) (E_a : Exa Z h0 a "java/lang/String") (Fc_a : Fld Z h0 a "java/lang/String" "coder" "B" (.int (0 : Int32))) (Fv_a : Fld Z h0 a "java/lang/String" "value" "[B" (.ref t)) (V_t : Ary Z h0 t .byte (IL n f)) (O0 : Old Z n0 h0) (Sc : Sta Z Z.heap "java/lang/String" "COMPACT_STRINGS" "Z" (.int cS)) (hcS : ¬ (cS = (0 : Int32))) :
    Mt l Z (⟨"java/lang/String", "length", "()I"⟩ : MethodName) jdk_42_method_54_code 1 (some .int) ws ({ frames := 1, cells := 0, slots := 0, locals := 13 } : Room) #[(.ref a)] h0 (fun v h L => v = some (.int (Int32.ofNat n)) ∧ h = h0 ∧ L = []) := by
  refine Mt.body pn_len ?_
  intro p e s m below meth c s₁ hx hby hml hown hnm hret hlk hZ X0 e0
  refine Go.cast (g' := (mkF m 0 #[rv a] [])) (ef_len m a) ?_
  have N0 := Fr.nil n0
  refine Go.st (T' := s₁) (g' := (mkF m 1 #[rv a] [(.ref a)])) ?_ (fun _ kk_ => XS.aloadN X0.here hx rfl (hb hby dlen_0) rfl rfl  kk_)
  obtain ⟨T1, X1, e1, st1⟩ := getF X0 hx hZ hown (host := "") (Or.inl (hw _ (List.mem_of_getElem? (i := 37) rfl))) Via.refl e0 Fv_a (g := (mkF m 1 #[rv a] [(.ref a)])) rfl rfl (hb hby dlen_1)
  refine Go.st (T' := T1) (g' := (mkF m 4 #[rv a] [(.ref t)])) ?_ st1
  refine Go.st (T' := T1) (g' := (mkF m 6 #[rv a] [(.ref a), (.int (Int32.ofNat n))])) ?_ (fun _ kk_ => own_alen X1 hx hZ e1 V_t (IL_len _ _) rfl rfl (hb hby dlen_4) (XS.aloadN X1.here hx rfl (hb hby dlen_5) rfl rfl  kk_))
  refine Go.callV (y := (⟨"java/lang/String", "coder", "()B"⟩ : MethodName)) (z := (⟨"java/lang/String", "coder", "()B"⟩ : MethodName)) X1 hx hZ hown (hw _ (List.mem_of_getElem? (i := 48) rfl)) (hw _ (List.mem_of_getElem? (i := 49) rfl)) (notFace_of_selects (args := #[]) (mvT hZ (hw _ (List.mem_of_getElem? (i := 51) rfl)))) (hw _ (List.mem_of_getElem? (i := 51) rfl)) (hw _ (List.mem_of_getElem? (i := 50) rfl)) (hw _ (List.mem_of_getElem? (i := 12) rfl)) (hw _ (List.mem_of_getElem? (i := 52) rfl)) (by decide) 1 (rm_cod l Z a0 hw [] a n0 cS h0 Fc_a O0 Sc hcS) e1 (by decide) (by decide) (by decide) (by decide) E_a (argsL := []) (rest := [(.int (Int32.ofNat n))]) rfl (by rw [hml]; rfl) (lenOf pd__28_29B rfl) rfl rfl (by show 2 * 0 + _ ≤ _; exact Nat.le_of_eq rfl) (hb hby dlen_6) ?_
  rintro _ T2 L2 X2 ⟨rfl, e2, rfl⟩
  have N3 := Fr.app N0 (Fr.nil _)
  show Go p e below _ T2 (mkF m 9 #[rv a] [(.int (0 : Int32)), (.int (Int32.ofNat n))])
  refine Go.st (T' := T2) (g' := (mkF m 10 #[rv a] [(.int ((Int32.ofNat n) >>> ((0 : Int32) &&& 31)))])) ?_ (fun _ kk_ => XS.ishr X2.here hx rfl (hb hby dlen_9) rfl kk_)
  rw [own_shr0]
  show Go p e below _ T2 (mkF m 10 #[rv a] [(.int (Int32.ofNat n))])
  refine Go.retI X2 hx hlk hret (hb hby dlen_10) (by decide) (by decide) ?_
  try rw [e2]
  exact ⟨rfl, rfl, rfl⟩
theorem dpci_0 : decode jdk_41_method_11_code 0 = .ok (.iload_n 0, 1) := by decide +kernel
theorem dpci_1 : decode jdk_41_method_11_code 1 = .ok (.ifCond .lt 8, 3) := by decide +kernel
theorem dpci_4 : decode jdk_41_method_11_code 4 = .ok (.iload_n 0, 1) := by decide +kernel
theorem dpci_5 : decode jdk_41_method_11_code 5 = .ok (.iload_n 1, 1) := by decide +kernel
theorem dpci_6 : decode jdk_41_method_11_code 6 = .ok (.if_icmp .lt 10, 3) := by decide +kernel
theorem dpci_16 : decode jdk_41_method_11_code 16 = .ok (.iload_n 0, 1) := by decide +kernel
theorem dpci_17 : decode jdk_41_method_11_code 17 = .ok (.ireturn, 1) := by decide +kernel
theorem pn_pci : plainFor (⟨"jdk/internal/util/Preconditions", "checkIndex", "(IILjava/util/function/BiFunction;)I"⟩ : MethodName) = true := by first | exact plainFor_of_name (by first | (simp [plainName, overriddenIn]; done) | decide +kernel) | decide +kernel
theorem ef_pci (m : MethodId) (x0 : Int32) (x1 : Int32) (x2 : Value) (hx2 : x2.isRef = true) : entryFrame m #[(.int x0), (.int x1), x2] 3 = mkF m 0 #[iv x0, iv x1, .val x2] [] := by rcases ref_cases hx2 with rfl | ⟨y2, rfl⟩ <;> first | (simp [entryFrame, mkF, argsToLocals, Value.category]; done) | rfl
set_option maxRecDepth 65536 in
set_option maxHeartbeats 40000000 in
theorem rm_pci (l : Launch) (Z : State) (a0 : Array Value) (hw : ∀ d ∈ tables_1, d.before a0 Z = true) (ws : List Jvm.Cond) (i n : Nat) (rF : Value) (h0 : Heap) (hr_rF : rF.isRef = true) (hi : i < n) (hn : n < 2 ^ 31) :
    Mt l Z (⟨"jdk/internal/util/Preconditions", "checkIndex", "(IILjava/util/function/BiFunction;)I"⟩ : MethodName) jdk_41_method_11_code 3 (some .int) ws ({ frames := 0, cells := 0, slots := 0, locals := 0 } : Room) #[(.int (Int32.ofNat i)), (.int (Int32.ofNat n)), rF] h0 (fun v h L => v = some (.int (Int32.ofNat i)) ∧ h = h0 ∧ L = []) := by
  refine Mt.body pn_pci ?_
  intro p e s m below meth c s₁ hx hby hml hown hnm hret hlk hZ X0 e0
  refine Go.cast (g' := (mkF m 0 #[iv (Int32.ofNat i), iv (Int32.ofNat n), .val rF] [])) (ef_pci m (Int32.ofNat i) (Int32.ofNat n) rF hr_rF) ?_
  have N0 := Fr.nil 0
  refine Go.st (T' := s₁) (g' := (mkF m 17 #[iv (Int32.ofNat i), iv (Int32.ofNat n), .val rF] [(.int (Int32.ofNat i))])) ?_ (fun _ kk_ => XS.iloadN X0.here hx rfl (hb hby dpci_0) rfl  (XS.ifNo X0.here hx rfl (hb hby dpci_1) rfl ((if0 _ _).trans (flt ((fun z => by have := (own_lt (i := i) (n := 0) (by omega) (by decide)).mp z; omega) : ¬ ((Int32.ofNat i) < (0 : Int32)))).1) (XS.iloadN X0.here hx rfl (hb hby dpci_4) rfl  (XS.iloadN X0.here hx rfl (hb hby dpci_5) rfl  (XS.icmpYes X0.here hx rfl (pc0 := 6) (pc' := 16) rfl (hb hby dpci_6) rfl (tlt (((own_lt (by omega) hn).mpr hi) : (Int32.ofNat i) < (Int32.ofNat n))).1 (by decide) (by decide) (XS.iloadN X0.here hx rfl (hb hby dpci_16) rfl  kk_))))))
  refine Go.retI X0 hx hlk hret (hb hby dpci_17) (by decide) (by decide) ?_
  try rw [e0]
  exact ⟨rfl, rfl, rfl⟩
theorem dchk_0 : decode jdk_42_method_155_code 0 = .ok (.iload_n 0, 1) := by decide +kernel
theorem dchk_1 : decode jdk_42_method_155_code 1 = .ok (.iload_n 1, 1) := by decide +kernel
theorem dchk_2 : decode jdk_42_method_155_code 2 = .ok (.getstatic 1053, 3) := by decide +kernel
theorem dchk_5 : decode jdk_42_method_155_code 5 = .ok (.invokestatic 1059, 3) := by decide +kernel
theorem dchk_8 : decode jdk_42_method_155_code 8 = .ok (.pop, 1) := by decide +kernel
theorem dchk_9 : decode jdk_42_method_155_code 9 = .ok (.return_, 1) := by decide +kernel
theorem pn_chk : plainFor (⟨"java/lang/String", "checkIndex", "(II)V"⟩ : MethodName) = true := by first | exact plainFor_of_name (by first | (simp [plainName, overriddenIn]; done) | decide +kernel) | decide +kernel
theorem ef_chk (m : MethodId) (x0 : Int32) (x1 : Int32) : entryFrame m #[(.int x0), (.int x1)] 2 = mkF m 0 #[iv x0, iv x1] [] := by first | (simp [entryFrame, mkF, argsToLocals, Value.category]; done) | rfl
set_option maxRecDepth 65536 in
set_option maxHeartbeats 40000000 in
theorem rm_chk (l : Launch) (Z : State) (a0 : Array Value) (hw : ∀ d ∈ tables_1, d.before a0 Z = true) (ws : List Jvm.Cond) (i n : Nat) (rF : Value) (n0 : Nat) (h0 : Heap) (hi : i < n) (hn : n < 2 ^ 31) (O0 : Old Z n0 h0) (Sr : Sta Z Z.heap "jdk/internal/util/Preconditions" "SIOOBE_FORMATTER" "Ljava/util/function/BiFunction;" rF) (hr_rF : rF.isRef = true) :
    Mt l Z (⟨"java/lang/String", "checkIndex", "(II)V"⟩ : MethodName) jdk_42_method_155_code 2 none ws ({ frames := 1, cells := 0, slots := 0, locals := 14 } : Room) #[(.int (Int32.ofNat i)), (.int (Int32.ofNat n))] h0 (fun v h L => v = none ∧ h = h0 ∧ L = []) := by
  refine Mt.body pn_chk ?_
  intro p e s m below meth c s₁ hx hby hml hown hnm hret hlk hZ X0 e0
  refine Go.cast (g' := (mkF m 0 #[iv (Int32.ofNat i), iv (Int32.ofNat n)] [])) (ef_chk m (Int32.ofNat i) (Int32.ofNat n)) ?_
  have N0 := Fr.nil n0
  refine Go.st (T' := s₁) (g' := (mkF m 2 #[iv (Int32.ofNat i), iv (Int32.ofNat n)] [(.int (Int32.ofNat n)), (.int (Int32.ofNat i))])) ?_ (fun _ kk_ => XS.iloadN X0.here hx rfl (hb hby dchk_0) rfl  (XS.iloadN X0.here hx rfl (hb hby dchk_1) rfl  kk_))
  obtain ⟨T1, X1, e1, st1⟩ := getS2 X0 hx hZ hown (host := "") (Or.inl (hw _ (List.mem_of_getElem? (i := 70) rfl))) Via.refl e0 (Sr.ext O0.2) (g := (mkF m 2 #[iv (Int32.ofNat i), iv (Int32.ofNat n)] [(.int (Int32.ofNat n)), (.int (Int32.ofNat i))])) rfl (hb hby dchk_2)
  refine Go.st (T' := T1) (g' := (mkF m 5 #[iv (Int32.ofNat i), iv (Int32.ofNat n)] [rF, (.int (Int32.ofNat n)), (.int (Int32.ofNat i))])) ?_ st1
  refine Go.callS (y := (⟨"jdk/internal/util/Preconditions", "checkIndex", "(IILjava/util/function/BiFunction;)I"⟩ : MethodName)) X1 hx hZ hown (hw _ (List.mem_of_getElem? (i := 72) rfl)) (hw _ (List.mem_of_getElem? (i := 73) rfl)) (hw _ (List.mem_of_getElem? (i := 71) rfl)) (hw _ (List.mem_of_getElem? (i := 74) rfl)) (by decide) 0 (rm_pci l Z a0 hw [] i n rF h0 hr_rF hi hn) e1 (by decide) (by decide) (by decide) (by decide) (argsL := [(.int (Int32.ofNat i)), (.int (Int32.ofNat n)), rF]) (rest := []) rfl (by rw [hml]; rfl) (lenOf pd__28IILjava_2futil_2ffunction_2fBiFunction_3b_29I rfl) rfl rfl (by show 2 * 0 + _ ≤ _; exact Nat.le_of_eq rfl) (hb hby dchk_5) ?_
  rintro _ T2 L2 X2 ⟨rfl, e2, rfl⟩
  have N3 := Fr.app N0 (Fr.nil _)
  show Go p e below _ T2 (mkF m 8 #[iv (Int32.ofNat i), iv (Int32.ofNat n)] [(.int (Int32.ofNat i))])
  refine Go.st (T' := T2) (g' := (mkF m 9 #[iv (Int32.ofNat i), iv (Int32.ofNat n)] [])) ?_ (fun _ kk_ => XS.pop X2.here hx rfl (hb hby dchk_8) rfl rfl kk_)
  refine Go.retV X2 hx hlk hret (hb hby dchk_9) (by decide) (by decide) ?_
  try rw [e2]
  exact ⟨rfl, rfl, rfl⟩
theorem dlch_0 : decode jdk_43_method_2_code 0 = .ok (.iload_n 1, 1) := by decide +kernel
theorem dlch_1 : decode jdk_43_method_2_code 1 = .ok (.aload_n 0, 1) := by decide +kernel
theorem dlch_2 : decode jdk_43_method_2_code 2 = .ok (.arraylength, 1) := by decide +kernel
theorem dlch_3 : decode jdk_43_method_2_code 3 = .ok (.invokestatic 9, 3) := by decide +kernel
theorem dlch_6 : decode jdk_43_method_2_code 6 = .ok (.aload_n 0, 1) := by decide +kernel
theorem dlch_7 : decode jdk_43_method_2_code 7 = .ok (.iload_n 1, 1) := by decide +kernel
theorem dlch_8 : decode jdk_43_method_2_code 8 = .ok (.baload, 1) := by decide +kernel
theorem dlch_9 : decode jdk_43_method_2_code 9 = .ok (.sipush 255, 3) := by decide +kernel
theorem dlch_12 : decode jdk_43_method_2_code 12 = .ok (.iand, 1) := by decide +kernel
theorem dlch_13 : decode jdk_43_method_2_code 13 = .ok (.i2c, 1) := by decide +kernel
theorem dlch_14 : decode jdk_43_method_2_code 14 = .ok (.ireturn, 1) := by decide +kernel
theorem pn_lch : plainFor (⟨"java/lang/StringLatin1", "charAt", "([BI)C"⟩ : MethodName) = true := by first | exact plainFor_of_name (by first | (simp [plainName, overriddenIn]; done) | decide +kernel) | decide +kernel
theorem ef_lch (m : MethodId) (x0 : Addr) (x1 : Int32) : entryFrame m #[(.ref x0), (.int x1)] 2 = mkF m 0 #[rv x0, iv x1] [] := by first | (simp [entryFrame, mkF, argsToLocals, Value.category]; done) | rfl
set_option maxRecDepth 65536 in
set_option maxHeartbeats 40000000 in
theorem rm_lch (l : Launch) (Z : State) (a0 : Array Value) (hw : ∀ d ∈ tables_1, d.before a0 Z = true) (ws : List Jvm.Cond) (t : Addr) (i n : Nat) (ch : Nat → Nat) (rF : Value) (n0 : Nat) (h0 : Heap) (hi : i < n) (hn : n < 2 ^ 31) (hc : ∀ q, q < n → ch q < 256) (V_t : Ary Z h0 t .byte (IL n (fun q => bI (ch q)))) (O0 : Old Z n0 h0) (Sr : Sta Z Z.heap "jdk/internal/util/Preconditions" "SIOOBE_FORMATTER" "Ljava/util/function/BiFunction;" rF) (hr_rF : rF.isRef = true) :
    Mt l Z (⟨"java/lang/StringLatin1", "charAt", "([BI)C"⟩ : MethodName) jdk_43_method_2_code 2 (some .char) ws ({ frames := 2, cells := 0, slots := 0, locals := 27 } : Room) #[(.ref t), (.int (Int32.ofNat i))] h0 (fun v h L => v = some (.int (Int32.ofNat (ch i))) ∧ h = h0 ∧ L = []) := by
  refine Mt.body pn_lch ?_
  intro p e s m below meth c s₁ hx hby hml hown hnm hret hlk hZ X0 e0
  refine Go.cast (g' := (mkF m 0 #[rv t, iv (Int32.ofNat i)] [])) (ef_lch m t (Int32.ofNat i)) ?_
  have N0 := Fr.nil n0
  refine Go.st (T' := s₁) (g' := (mkF m 3 #[rv t, iv (Int32.ofNat i)] [(.int (Int32.ofNat n)), (.int (Int32.ofNat i))])) ?_ (fun _ kk_ => XS.iloadN X0.here hx rfl (hb hby dlch_0) rfl  (XS.aloadN X0.here hx rfl (hb hby dlch_1) rfl rfl  (own_alen X0 hx hZ e0 V_t (IL_len _ _) rfl rfl (hb hby dlch_2) kk_)))
  refine Go.callS (y := (⟨"java/lang/String", "checkIndex", "(II)V"⟩ : MethodName)) X0 hx hZ hown (hw _ (List.mem_of_getElem? (i := 67) rfl)) (hw _ (List.mem_of_getElem? (i := 68) rfl)) (hw _ (List.mem_of_getElem? (i := 12) rfl)) (hw _ (List.mem_of_getElem? (i := 69) rfl)) (by decide) 0 (rm_chk l Z a0 hw [] i n rF n0 h0 hi hn O0 Sr hr_rF) e0 (by decide) (by decide) (by decide) (by decide) (argsL := [(.int (Int32.ofNat i)), (.int (Int32.ofNat n))]) (rest := []) rfl (by rw [hml]; rfl) (lenOf pd__28II_29V rfl) rfl rfl (by show 2 * 0 + _ ≤ _; exact Nat.le_of_eq rfl) (hb hby dlch_3) ?_
  rintro _ T1 L1 X1 ⟨rfl, e1, rfl⟩
  have N2 := Fr.app N0 (Fr.nil _)
  show Go p e below _ T1 (mkF m 6 #[rv t, iv (Int32.ofNat i)] [])
  refine Go.st (T' := T1) (g' := (mkF m 13 #[rv t, iv (Int32.ofNat i)] [(.int ((bI (ch i)) &&& (255 : Int32)))])) ?_ (fun _ kk_ => XS.aloadN X1.here hx rfl (hb hby dlch_6) rfl rfl  (XS.iloadN X1.here hx rfl (hb hby dlch_7) rfl  (own_baload X1 hx hZ e1 V_t (i := i) (v := (.int (bI (ch i)))) (IL_at hi) rfl rfl rfl (hb hby dlch_8) (XS.sipush X1.here hx rfl (hb hby dlch_9) (XS.iand X1.here hx rfl (hb hby dlch_12) rfl kk_)))))
  rw [bI_back _ (hc i hi)]
  show Go p e below _ T1 (mkF m 13 #[rv t, iv (Int32.ofNat i)] [(.int (Int32.ofNat (ch i)))])
  refine Go.st (T' := T1) (g' := (mkF m 14 #[rv t, iv (Int32.ofNat i)] [(.int ((Int32.ofNat (ch i)).toUInt32.toUInt16.toUInt32.toInt32))])) ?_ (fun _ kk_ => XS.i2c X1.here hx rfl (hb hby dlch_13) rfl kk_)
  rw [ch_back _ (hc i hi)]
  show Go p e below _ T1 (mkF m 14 #[rv t, iv (Int32.ofNat i)] [(.int (Int32.ofNat (ch i)))])
  refine Go.retN X1 hx hlk (t := .char) hret (by simp) (z' := (Int32.ofNat (ch i))) (ch_nar _ (hc i hi)) (hb hby dlch_14) (by decide) (by decide) ?_
  try rw [e1]
  exact ⟨rfl, rfl, rfl⟩
theorem dcha_0 : decode jdk_42_method_56_code 0 = .ok (.aload_n 0, 1) := by decide +kernel
theorem dcha_1 : decode jdk_42_method_56_code 1 = .ok (.invokevirtual 492, 3) := by decide +kernel
theorem dcha_4 : decode jdk_42_method_56_code 4 = .ok (.ifCond .eq 12, 3) := by decide +kernel
theorem dcha_7 : decode jdk_42_method_56_code 7 = .ok (.aload_n 0, 1) := by decide +kernel
theorem dcha_8 : decode jdk_42_method_56_code 8 = .ok (.getfield 9, 3) := by decide +kernel
theorem dcha_11 : decode jdk_42_method_56_code 11 = .ok (.iload_n 1, 1) := by decide +kernel
theorem dcha_12 : decode jdk_42_method_56_code 12 = .ok (.invokestatic 495, 3) := by decide +kernel
theorem dcha_15 : decode jdk_42_method_56_code 15 = .ok (.ireturn, 1) := by decide +kernel
theorem pn_cha : plainFor (⟨"java/lang/String", "charAt", "(I)C"⟩ : MethodName) = true := by first | exact plainFor_of_name (by first | (simp [plainName, overriddenIn]; done) | decide +kernel) | decide +kernel
theorem ef_cha (m : MethodId) (x0 : Addr) (x1 : Int32) : entryFrame m #[(.ref x0), (.int x1)] 2 = mkF m 0 #[rv x0, iv x1] [] := by first | (simp [entryFrame, mkF, argsToLocals, Value.category]; done) | rfl
set_option maxRecDepth 65536 in
set_option maxHeartbeats 40000000 in
theorem rm_cha (l : Launch) (Z : State) (a0 : Array Value) (hw : ∀ d ∈ tables_1, d.before a0 Z = true) (ws : List Jvm.Cond) (a t : Addr) (i n : Nat) (ch : Nat → Nat) (rF : Value) (n0 : Nat) (cS : Int32) (h0 : Heap) (hi : i < n) (hn : n < 2 ^ 31) (hc : ∀ q, q < n → ch q < 256) (E_a : Exa Z h0 a "java/lang/String") (Fc_a : Fld Z h0 a "java/lang/String" "coder" "B" (.int (0 : Int32))) (Fv_a : Fld Z h0 a "java/lang/String" "value" "[B" (.ref t)) (V_t : Ary Z h0 t .byte (IL n (fun q => bI (ch q)))) (O0 : Old Z n0 h0) (Sc : Sta Z Z.heap "java/lang/String" "COMPACT_STRINGS" "Z" (.int cS)) (hcS : ¬ (cS = (0 : Int32))) (Sr : Sta Z Z.heap "jdk/internal/util/Preconditions" "SIOOBE_FORMATTER" "Ljava/util/function/BiFunction;" rF) (hr_rF : rF.isRef = true) :
    Mt l Z (⟨"java/lang/String", "charAt", "(I)C"⟩ : MethodName) jdk_42_method_56_code 2 (some .char) ws ({ frames := 3, cells := 0, slots := 0, locals := 40 } : Room) #[(.ref a), (.int (Int32.ofNat i))] h0 (fun v h L => v = some (.int (Int32.ofNat (ch i))) ∧ h = h0 ∧ L = []) := by
  refine Mt.body pn_cha ?_
  intro p e s m below meth c s₁ hx hby hml hown hnm hret hlk hZ X0 e0
  refine Go.cast (g' := (mkF m 0 #[rv a, iv (Int32.ofNat i)] [])) (ef_cha m a (Int32.ofNat i)) ?_
  have N0 := Fr.nil n0
  refine Go.st (T' := s₁) (g' := (mkF m 1 #[rv a, iv (Int32.ofNat i)] [(.ref a)])) ?_ (fun _ kk_ => XS.aloadN X0.here hx rfl (hb hby dcha_0) rfl rfl  kk_)
  refine Go.callV (y := (⟨"java/lang/String", "isLatin1", "()Z"⟩ : MethodName)) (z := (⟨"java/lang/String", "isLatin1", "()Z"⟩ : MethodName)) X0 hx hZ hown (hw _ (List.mem_of_getElem? (i := 58) rfl)) (hw _ (List.mem_of_getElem? (i := 59) rfl)) (notFace_of_selects (args := #[]) (mvT hZ (hw _ (List.mem_of_getElem? (i := 61) rfl)))) (hw _ (List.mem_of_getElem? (i := 61) rfl)) (hw _ (List.mem_of_getElem? (i := 60) rfl)) (hw _ (List.mem_of_getElem? (i := 12) rfl)) (hw _ (List.mem_of_getElem? (i := 62) rfl)) (by decide) 0 (rm_lat l Z a0 hw [] a n0 cS h0 Fc_a O0 Sc hcS) e0 (by decide) (by decide) (by decide) (by decide) E_a (argsL := []) (rest := []) rfl (by rw [hml]; rfl) (lenOf pd__28_29Z rfl) rfl rfl (by show 2 * 0 + _ ≤ _; exact Nat.le_of_eq rfl) (hb hby dcha_1) ?_
  rintro _ T1 L1 X1 ⟨rfl, e1, rfl⟩
  have N2 := Fr.app N0 (Fr.nil _)
  show Go p e below _ T1 (mkF m 4 #[rv a, iv (Int32.ofNat i)] [(.int (1 : Int32))])
  refine Go.st (T' := T1) (g' := (mkF m 8 #[rv a, iv (Int32.ofNat i)] [(.ref a)])) ?_ (fun _ kk_ => XS.ifNo X1.here hx rfl (hb hby dcha_4) rfl ((if0 _ _).trans (feq ((by decide) : ¬ ((1 : Int32) = (0 : Int32)))).1) (XS.aloadN X1.here hx rfl (hb hby dcha_7) rfl rfl  kk_))
  obtain ⟨T3, X3, e3, st3⟩ := getF X1 hx hZ hown (host := "") (Or.inl (hw _ (List.mem_of_getElem? (i := 37) rfl))) Via.refl e1 Fv_a (g := (mkF m 8 #[rv a, iv (Int32.ofNat i)] [(.ref a)])) rfl rfl (hb hby dcha_8)
  refine Go.st (T' := T3) (g' := (mkF m 11 #[rv a, iv (Int32.ofNat i)] [(.ref t)])) ?_ st3
  refine Go.st (T' := T3) (g' := (mkF m 12 #[rv a, iv (Int32.ofNat i)] [(.int (Int32.ofNat i)), (.ref t)])) ?_ (fun _ kk_ => XS.iloadN X3.here hx rfl (hb hby dcha_11) rfl  kk_)
  refine Go.callS (y := (⟨"java/lang/StringLatin1", "charAt", "([BI)C"⟩ : MethodName)) X3 hx hZ hown (hw _ (List.mem_of_getElem? (i := 63) rfl)) (hw _ (List.mem_of_getElem? (i := 64) rfl)) (hw _ (List.mem_of_getElem? (i := 65) rfl)) (hw _ (List.mem_of_getElem? (i := 66) rfl)) (by decide) 0 (rm_lch l Z a0 hw [] t i n ch rF n0 h0 hi hn hc V_t O0 Sr hr_rF) e3 (by decide) (by decide) (by decide) (by decide) (argsL := [(.ref t), (.int (Int32.ofNat i))]) (rest := []) rfl (by rw [hml]; rfl) (lenOf pd__28_5bBI_29C rfl) rfl rfl (by show 2 * 0 + _ ≤ _; exact Nat.le_of_eq rfl) (hb hby dcha_12) ?_
  rintro _ T4 L4 X4 ⟨rfl, e4, rfl⟩
  have N5 := Fr.app N2 (Fr.nil _)
  show Go p e below _ T4 (mkF m 15 #[rv a, iv (Int32.ofNat i)] [(.int (Int32.ofNat (ch i)))])
  refine Go.retN X4 hx hlk (t := .char) hret (by simp) (z' := (Int32.ofNat (ch i))) (ch_nar _ (hc i hi)) (hb hby dcha_15) (by decide) (by decide) ?_
  try rw [e4]
  exact ⟨rfl, rfl, rfl⟩
theorem dalt_0 : decode jdk_68_method_68_code 0 = .ok (.getstatic 18, 3) := by decide +kernel
theorem dalt_3 : decode jdk_68_method_68_code 3 = .ok (.ifCond .eq 14, 3) := by decide +kernel
theorem dalt_6 : decode jdk_68_method_68_code 6 = .ok (.aload_n 0, 1) := by decide +kernel
theorem dalt_7 : decode jdk_68_method_68_code 7 = .ok (.getfield 22, 3) := by decide +kernel
theorem dalt_10 : decode jdk_68_method_68_code 10 = .ok (.ifCond .ne 7, 3) := by decide +kernel
theorem dalt_13 : decode jdk_68_method_68_code 13 = .ok (.iconst 1, 1) := by decide +kernel
theorem dalt_14 : decode jdk_68_method_68_code 14 = .ok (.goto 4, 3) := by decide +kernel
theorem dalt_18 : decode jdk_68_method_68_code 18 = .ok (.ireturn, 1) := by decide +kernel
theorem pn_alt : plainFor (⟨"java/lang/AbstractStringBuilder", "isLatin1", "()Z"⟩ : MethodName) = true := by first | exact plainFor_of_name (by first | (simp [plainName, overriddenIn]; done) | decide +kernel) | decide +kernel
theorem ef_alt (m : MethodId) (x0 : Addr) : entryFrame m #[(.ref x0)] 1 = mkF m 0 #[rv x0] [] := by first | (simp [entryFrame, mkF, argsToLocals, Value.category]; done) | rfl
set_option maxRecDepth 65536 in
set_option maxHeartbeats 40000000 in
theorem rm_alt (l : Launch) (Z : State) (a0 : Array Value) (hw : ∀ d ∈ tables_1, d.before a0 Z = true) (ws : List Jvm.Cond) (a : Addr) (n0 : Nat) (cS : Int32) (h0 : Heap) (Fc_a : Fld Z h0 a "java/lang/AbstractStringBuilder" "coder" "B" (.int (0 : Int32))) (O0 : Old Z n0 h0) (Sc : Sta Z Z.heap "java/lang/String" "COMPACT_STRINGS" "Z" (.int cS)) (hcS : ¬ (cS = (0 : Int32))) :
    Mt l Z (⟨"java/lang/AbstractStringBuilder", "isLatin1", "()Z"⟩ : MethodName) jdk_68_method_68_code 1 (some .boolean) ws ({ frames := 0, cells := 0, slots := 0, locals := 0 } : Room) #[(.ref a)] h0 (fun v h L => v = some (.int (1 : Int32)) ∧ h = h0 ∧ L = []) := by
  refine Mt.body pn_alt ?_
  intro p e s m below meth c s₁ hx hby hml hown hnm hret hlk hZ X0 e0
  refine Go.cast (g' := (mkF m 0 #[rv a] [])) (ef_alt m a) ?_
  have N0 := Fr.nil n0
  obtain ⟨T1, X1, e1, st1⟩ := getS2 X0 hx hZ hown (host := "") (Or.inl (hw _ (List.mem_of_getElem? (i := 93) rfl))) Via.refl e0 (Sc.ext O0.2) (g := (mkF m 0 #[rv a] [])) rfl (hb hby dalt_0)
  refine Go.st (T' := T1) (g' := (mkF m 3 #[rv a] [(.int cS)])) ?_ st1
  refine Go.st (T' := T1) (g' := (mkF m 7 #[rv a] [(.ref a)])) ?_ (fun _ kk_ => XS.ifNo X1.here hx rfl (hb hby dalt_3) rfl ((if0 _ _).trans (feq (hcS : ¬ (cS = (0 : Int32)))).1) (XS.aloadN X1.here hx rfl (hb hby dalt_6) rfl rfl  kk_))
  obtain ⟨T2, X2, e2, st2⟩ := getF X1 hx hZ hown (host := "") (Or.inl (hw _ (List.mem_of_getElem? (i := 96) rfl))) Via.refl e1 Fc_a (g := (mkF m 7 #[rv a] [(.ref a)])) rfl rfl (hb hby dalt_7)
  refine Go.st (T' := T2) (g' := (mkF m 10 #[rv a] [(.int (0 : Int32))])) ?_ st2
  refine Go.st (T' := T2) (g' := (mkF m 18 #[rv a] [(.int (1 : Int32))])) ?_ (fun _ kk_ => XS.ifNo X2.here hx rfl (hb hby dalt_10) rfl ((if0 _ _).trans (teq ((by decide) : (0 : Int32) = (0 : Int32))).2) (XS.iconst X2.here hx rfl (hb hby dalt_13) (XS.goto X2.here hx rfl (pc0 := 14) (pc' := 18) rfl (hb hby dalt_14) (by decide) (by decide) kk_)))
  refine Go.retN X2 hx hlk (t := .boolean) hret (by simp) (z' := (1 : Int32)) rfl (hb hby dalt_18) (by decide) (by decide) ?_
  try rw [e2]
  exact ⟨rfl, rfl, rfl⟩
theorem dasi_0 : decode jdk_68_method_2_code 0 = .ok (.aload_n 0, 1) := by decide +kernel
theorem dasi_1 : decode jdk_68_method_2_code 1 = .ok (.invokespecial 3, 3) := by decide +kernel
theorem dasi_4 : decode jdk_68_method_2_code 4 = .ok (.getstatic 18, 3) := by decide +kernel
theorem dasi_7 : decode jdk_68_method_2_code 7 = .ok (.ifCond .eq 18, 3) := by decide +kernel
theorem dasi_10 : decode jdk_68_method_2_code 10 = .ok (.aload_n 0, 1) := by decide +kernel
theorem dasi_11 : decode jdk_68_method_2_code 11 = .ok (.iload_n 1, 1) := by decide +kernel
theorem dasi_12 : decode jdk_68_method_2_code 12 = .ok (.newarray .byte, 2) := by decide +kernel
theorem dasi_14 : decode jdk_68_method_2_code 14 = .ok (.putfield 15, 3) := by decide +kernel
theorem dasi_17 : decode jdk_68_method_2_code 17 = .ok (.aload_n 0, 1) := by decide +kernel
theorem dasi_18 : decode jdk_68_method_2_code 18 = .ok (.iconst 0, 1) := by decide +kernel
theorem dasi_19 : decode jdk_68_method_2_code 19 = .ok (.putfield 22, 3) := by decide +kernel
theorem dasi_22 : decode jdk_68_method_2_code 22 = .ok (.goto 16, 3) := by decide +kernel
theorem dasi_38 : decode jdk_68_method_2_code 38 = .ok (.return_, 1) := by decide +kernel
theorem pn_asi : plainFor (⟨"java/lang/AbstractStringBuilder", "<init>", "(I)V"⟩ : MethodName) = true := by first | exact plainFor_of_name (by first | (simp [plainName, overriddenIn]; done) | decide +kernel) | decide +kernel
theorem ef_asi (m : MethodId) (x0 : Addr) (x1 : Int32) : entryFrame m #[(.ref x0), (.int x1)] 2 = mkF m 0 #[rv x0, iv x1] [] := by first | (simp [entryFrame, mkF, argsToLocals, Value.category]; done) | rfl
set_option maxRecDepth 65536 in
set_option maxHeartbeats 40000000 in
theorem rm_asi (l : Launch) (Z : State) (a0 : Array Value) (hw : ∀ d ∈ tables_1, d.before a0 Z = true) (ws : List Jvm.Cond) (b : Addr) (n0 : Nat) (cS : Int32) (h0 : Heap) (Z0 : n0 ≤ h0.size) (E_b : Exa Z h0 b "java/lang/StringBuilder") (Gv : Fld Z h0 b "java/lang/AbstractStringBuilder" "value" "[B" .null) (Gc : Fld Z h0 b "java/lang/AbstractStringBuilder" "coder" "B" (.int (0 : Int32))) (Gn : Fld Z h0 b "java/lang/AbstractStringBuilder" "count" "I" (.int (0 : Int32))) (g_b : n0 ≤ b) (O0 : Old Z n0 h0) (Sc : Sta Z Z.heap "java/lang/String" "COMPACT_STRINGS" "Z" (.int cS)) (hcS : ¬ (cS = (0 : Int32))) :
    Mt l Z (⟨"java/lang/AbstractStringBuilder", "<init>", "(I)V"⟩ : MethodName) jdk_68_method_2_code 2 none ws ({ frames := 1, cells := 1, slots := 16, locals := 12 } : Room) #[(.ref b), (.int (16 : Int32))] h0 (fun v h L => v = none ∧ Fr n0 L ∧ Keep h0 h [b] ∧ ∃ d, h0.size ≤ d ∧ Fld Z h b "java/lang/AbstractStringBuilder" "value" "[B" (.ref d) ∧ Fld Z h b "java/lang/AbstractStringBuilder" "coder" "B" (.int (0 : Int32)) ∧ Fld Z h b "java/lang/AbstractStringBuilder" "count" "I" (.int (Int32.ofNat (0))) ∧ Ary Z h d .byte (IL 16 (fun _ => 0))) := by
  refine Mt.body pn_asi ?_
  intro p e s m below meth c s₁ hx hby hml hown hnm hret hlk hZ X0 e0
  refine Go.cast (g' := (mkF m 0 #[rv b, iv (16 : Int32)] [])) (ef_asi m b (16 : Int32)) ?_
  have N0 := Fr.nil n0
  have K0 := Keep.refl h0 [b]
  refine Go.st (T' := s₁) (g' := (mkF m 1 #[rv b, iv (16 : Int32)] [(.ref b)])) ?_ (fun _ kk_ => XS.aloadN X0.here hx rfl (hb hby dasi_0) rfl rfl  kk_)
  obtain ⟨T1, X1, e1, st1⟩ := initO X0 hx hZ hown (hw _ (List.mem_of_getElem? (i := 92) rfl)) (hw _ (List.mem_of_getElem? (i := 21) rfl)) (hw _ (List.mem_of_getElem? (i := 22) rfl)) e0 (g := (mkF m 1 #[rv b, iv (16 : Int32)] [(.ref b)])) rfl (by rw [hml]; rfl) rfl (hb hby dasi_1) (by decide) (W := 0) (by show 2 * 0 + _ ≤ _; exact Nat.le_of_eq rfl) (by decide)
  refine Go.st (T' := T1) (g' := (mkF m 4 #[rv b, iv (16 : Int32)] [])) ?_ st1
  obtain ⟨T2, X2, e2, st2⟩ := getS2 X1 hx hZ hown (host := "") (Or.inl (hw _ (List.mem_of_getElem? (i := 93) rfl))) Via.refl e1 (Sc.ext O0.2) (g := (mkF m 4 #[rv b, iv (16 : Int32)] [])) rfl (hb hby dasi_4)
  refine Go.st (T' := T2) (g' := (mkF m 7 #[rv b, iv (16 : Int32)] [(.int cS)])) ?_ st2
  refine Go.st (T' := T2) (g' := (mkF m 12 #[rv b, iv (16 : Int32)] [(.int (16 : Int32)), (.ref b)])) ?_ (fun _ kk_ => XS.ifNo X2.here hx rfl (hb hby dasi_7) rfl ((if0 _ _).trans (feq (hcS : ¬ (cS = (0 : Int32)))).1) (XS.aloadN X2.here hx rfl (hb hby dasi_10) rfl rfl  (XS.iloadN X2.here hx rfl (hb hby dasi_11) rfl  kk_)))
  refine Go.newP X2 hx hZ (aty := .byte) (hw _ (List.mem_of_getElem? (i := 28) rfl)) e2 rfl (hb hby dasi_12) (n := 16) rfl rfl 16 (by decide) (by decide) (by decide) (by decide) ?_
  intro T3 h3 b3 X3 e3 E3 g3 V3
  have ne_b_b3 : b ≠ b3 := Nat.ne_of_lt (Nat.lt_of_lt_of_eq E_b.lt g3.symm)
  have g_b3 : n0 ≤ b3 := Nat.le_trans Z0 (Nat.le_of_eq g3.symm)
  have sz_b3 : h0.size ≤ b3 := Nat.le_trans K0.1 (Nat.le_of_eq g3.symm)
  have O4 := O0.ext E3
  have Z5 : n0 ≤ h3.size := Nat.le_trans Z0 E3.1
  have K6 : Keep h0 h3 [b] := K0.ext E3
  change Ary Z h3 b3 .byte (IL 16 (fun _ => 0)) at V3
  show Go p e below _ T3 (mkF m 14 #[rv b, iv (16 : Int32)] [(.ref b3), (.ref b)])
  have f7 := (Gv.ext E3)
  have f8 := (E_b.ext E3)
  obtain ⟨T9, h9, X9, e9, W9, st9⟩ := putF X3 hx hZ hown (host := "") (Or.inl (hw _ (List.mem_of_getElem? (i := 94) rfl))) Via.refl e3 f7 f8 (Or.inl (hw _ (List.mem_of_getElem? (i := 95) rfl))) (hw _ (List.mem_of_getElem? (i := 81) rfl)) (ty := (.array .byte)) (by decide) rfl rfl (g := (mkF m 14 #[rv b, iv (16 : Int32)] [(.ref b3), (.ref b)])) rfl rfl (hb hby dasi_14)
  have N10 := Fr.snoc X9 N0 g_b
  have O11 := O4.wr W9 g_b
  have f12 := f7.same W9
  have K13 : Keep h0 h9 [b] := K6.wr W9 (Or.inl (List.mem_of_getElem? (i := 0) rfl))
  have Z14 : n0 ≤ h9.size := by rw [W9.size]; exact Z5
  refine Go.st (T' := T9) (g' := (mkF m 17 #[rv b, iv (16 : Int32)] [])) ?_ st9
  refine Go.st (T' := T9) (g' := (mkF m 19 #[rv b, iv (16 : Int32)] [(.int (0 : Int32)), (.ref b)])) ?_ (fun _ kk_ => XS.aloadN X9.here hx rfl (hb hby dasi_17) rfl rfl  (XS.iconst X9.here hx rfl (hb hby dasi_18) kk_))
  have f15 := ((Gc.ext E3).other W9 (Or.inr (slot_ne (C := "java/lang/StringBuilder") (Or.inl (hw _ (List.mem_of_getElem? (i := 97) rfl))) (Or.inl (hw _ (List.mem_of_getElem? (i := 95) rfl))) (by decide) (t := .byte) (t' := (.array .byte)) (by decide) (by decide))))
  have f16 := (f8.wr W9)
  obtain ⟨T17, h17, X17, e17, W17, st17⟩ := putFN X9 hx hZ hown (hw _ (List.mem_of_getElem? (i := 96) rfl)) Via.refl e9 f15 f16 (Or.inl (hw _ (List.mem_of_getElem? (i := 97) rfl))) (hw _ (List.mem_of_getElem? (i := 81) rfl)) (ty := .byte) (v' := (.int (0 : Int32))) (by decide) (by decide) (by decide) (g := (mkF m 19 #[rv b, iv (16 : Int32)] [(.int (0 : Int32)), (.ref b)])) rfl rfl (hb hby dasi_19)
  have N18 := Fr.snoc X17 N10 g_b
  have O19 := O11.wr W17 g_b
  have f20 := f15.same W17
  have K21 : Keep h0 h17 [b] := K13.wr W17 (Or.inl (List.mem_of_getElem? (i := 0) rfl))
  have Z22 : n0 ≤ h17.size := by rw [W17.size]; exact Z14
  refine Go.st (T' := T17) (g' := (mkF m 22 #[rv b, iv (16 : Int32)] [])) ?_ st17
  refine Go.st (T' := T17) (g' := (mkF m 38 #[rv b, iv (16 : Int32)] [])) ?_ (fun _ kk_ => XS.goto X17.here hx rfl (pc0 := 22) (pc' := 38) rfl (hb hby dasi_22) (by decide) (by decide) kk_)
  have f23 := (f12.other W17 (Or.inr (slot_ne (C := "java/lang/StringBuilder") (Or.inl (hw _ (List.mem_of_getElem? (i := 95) rfl))) (Or.inl (hw _ (List.mem_of_getElem? (i := 97) rfl))) (by decide) (t := (.array .byte)) (t' := .byte) (by decide) (by decide))))
  have f24 := (((Gn.ext E3).other W9 (Or.inr (slot_ne (C := "java/lang/StringBuilder") (Or.inl (hw _ (List.mem_of_getElem? (i := 109) rfl))) (Or.inl (hw _ (List.mem_of_getElem? (i := 95) rfl))) (by decide) (t := .int) (t' := (.array .byte)) (by decide) (by decide)))).other W17 (Or.inr (slot_ne (C := "java/lang/StringBuilder") (Or.inl (hw _ (List.mem_of_getElem? (i := 109) rfl))) (Or.inl (hw _ (List.mem_of_getElem? (i := 97) rfl))) (by decide) (t := .int) (t' := .byte) (by decide) (by decide))))
  have f25 := ((V3.other W9 (Ne.symm ne_b_b3)).other W17 (Ne.symm ne_b_b3))
  refine Go.retV X17 hx hlk hret (hb hby dasi_38) (by decide) (by decide) ?_
  try rw [e17]
  exact ⟨rfl, N18, K21, b3, sz_b3, f23, f20, f24, f25⟩
theorem dsbi_0 : decode jdk_67_method_1_code 0 = .ok (.aload_n 0, 1) := by decide +kernel
theorem dsbi_1 : decode jdk_67_method_1_code 1 = .ok (.bipush 16, 2) := by decide +kernel
theorem dsbi_3 : decode jdk_67_method_1_code 3 = .ok (.invokespecial 1, 3) := by decide +kernel
theorem dsbi_6 : decode jdk_67_method_1_code 6 = .ok (.return_, 1) := by decide +kernel
theorem pn_sbi : plainFor (⟨"java/lang/StringBuilder", "<init>", "()V"⟩ : MethodName) = true := by first | exact plainFor_of_name (by first | (simp [plainName, overriddenIn]; done) | decide +kernel) | decide +kernel
theorem ef_sbi (m : MethodId) (x0 : Addr) : entryFrame m #[(.ref x0)] 1 = mkF m 0 #[rv x0] [] := by first | (simp [entryFrame, mkF, argsToLocals, Value.category]; done) | rfl
set_option maxRecDepth 65536 in
set_option maxHeartbeats 40000000 in
theorem rm_sbi (l : Launch) (Z : State) (a0 : Array Value) (hw : ∀ d ∈ tables_1, d.before a0 Z = true) (ws : List Jvm.Cond) (b : Addr) (n0 : Nat) (cS : Int32) (h0 : Heap) (Z0 : n0 ≤ h0.size) (E_b : Exa Z h0 b "java/lang/StringBuilder") (Gv : Fld Z h0 b "java/lang/AbstractStringBuilder" "value" "[B" .null) (Gc : Fld Z h0 b "java/lang/AbstractStringBuilder" "coder" "B" (.int (0 : Int32))) (Gn : Fld Z h0 b "java/lang/AbstractStringBuilder" "count" "I" (.int (0 : Int32))) (g_b : n0 ≤ b) (O0 : Old Z n0 h0) (Sc : Sta Z Z.heap "java/lang/String" "COMPACT_STRINGS" "Z" (.int cS)) (hcS : ¬ (cS = (0 : Int32))) :
    Mt l Z (⟨"java/lang/StringBuilder", "<init>", "()V"⟩ : MethodName) jdk_67_method_1_code 1 none ws ({ frames := 2, cells := 1, slots := 16, locals := 25 } : Room) #[(.ref b)] h0 (fun v h L => v = none ∧ Fr n0 L ∧ Keep h0 h [b] ∧ ∃ d, h0.size ≤ d ∧ Fld Z h b "java/lang/AbstractStringBuilder" "value" "[B" (.ref d) ∧ Fld Z h b "java/lang/AbstractStringBuilder" "coder" "B" (.int (0 : Int32)) ∧ Fld Z h b "java/lang/AbstractStringBuilder" "count" "I" (.int (Int32.ofNat (0))) ∧ Ary Z h d .byte (IL 16 (fun _ => 0))) := by
  refine Mt.body pn_sbi ?_
  intro p e s m below meth c s₁ hx hby hml hown hnm hret hlk hZ X0 e0
  refine Go.cast (g' := (mkF m 0 #[rv b] [])) (ef_sbi m b) ?_
  have N0 := Fr.nil n0
  have K0 := Keep.refl h0 [b]
  refine Go.st (T' := s₁) (g' := (mkF m 3 #[rv b] [(.int (16 : Int32)), (.ref b)])) ?_ (fun _ kk_ => XS.aloadN X0.here hx rfl (hb hby dsbi_0) rfl rfl  (XS.bipush X0.here hx rfl (hb hby dsbi_1) kk_))
  refine Go.callN (y := (⟨"java/lang/AbstractStringBuilder", "<init>", "(I)V"⟩ : MethodName)) X0 hx hZ rfl hown (hw _ (List.mem_of_getElem? (i := 86) rfl)) (hw _ (List.mem_of_getElem? (i := 87) rfl)) (hw _ (List.mem_of_getElem? (i := 90) rfl)) (hw _ (List.mem_of_getElem? (i := 91) rfl)) (by decide) 0 (rm_asi l Z a0 hw [] b n0 cS h0 Z0 E_b Gv Gc Gn g_b O0 Sc hcS) e0 (by decide) (by decide) (by decide) (by decide) (a := b) (argsL := [(.int (16 : Int32))]) (rest := []) rfl (by rw [hml]; rfl) (lenOf pd__28I_29V rfl) rfl rfl (by show 2 * 0 + _ ≤ _; exact Nat.le_of_eq rfl) (hb hby dsbi_3) ?_
  rintro _ T1 L1 X1 ⟨rfl, N1, K1, d, dz, hq1⟩
  have N2 := Fr.app N0 N1
  have O3 := O0.keep K1 (allS (P := fun z_ => n0 ≤ z_) g_b all0)
  have Z4 : n0 ≤ T1.heap.size := Nat.le_trans Z0 K1.1
  have K5 : Keep h0 T1.heap [b] := K0.trans K1 (allS (P := fun z_ => z_ ∈ [b] ∨ h0.size ≤ z_) (Or.inl (List.mem_of_getElem? (i := 0) rfl)) all0)
  show Go p e below _ T1 (mkF m 6 #[rv b] [])
  refine Go.retV X1 hx hlk hret (hb hby dsbi_6) (by decide) (by decide) ?_
  exact ⟨rfl, N2, K5, d, dz, hq1⟩
theorem dens_0 : decode jdk_68_method_9_code 0 = .ok (.aload_n 0, 1) := by decide +kernel
theorem dens_1 : decode jdk_68_method_9_code 1 = .ok (.getfield 15, 3) := by decide +kernel
theorem dens_4 : decode jdk_68_method_9_code 4 = .ok (.arraylength, 1) := by decide +kernel
theorem dens_5 : decode jdk_68_method_9_code 5 = .ok (.aload_n 0, 1) := by decide +kernel
theorem dens_6 : decode jdk_68_method_9_code 6 = .ok (.getfield 22, 3) := by decide +kernel
theorem dens_9 : decode jdk_68_method_9_code 9 = .ok (.ishr, 1) := by decide +kernel
theorem dens_10 : decode jdk_68_method_9_code 10 = .ok (.istore_n 2, 1) := by decide +kernel
theorem dens_11 : decode jdk_68_method_9_code 11 = .ok (.iload_n 1, 1) := by decide +kernel
theorem dens_12 : decode jdk_68_method_9_code 12 = .ok (.iload_n 2, 1) := by decide +kernel
theorem dens_13 : decode jdk_68_method_9_code 13 = .ok (.isub, 1) := by decide +kernel
theorem dens_14 : decode jdk_68_method_9_code 14 = .ok (.ifCond .le 24, 3) := by decide +kernel
theorem dens_38 : decode jdk_68_method_9_code 38 = .ok (.return_, 1) := by decide +kernel
theorem pn_ens : plainFor (⟨"java/lang/AbstractStringBuilder", "ensureCapacityInternal", "(I)V"⟩ : MethodName) = true := by first | exact plainFor_of_name (by first | (simp [plainName, overriddenIn]; done) | decide +kernel) | decide +kernel
theorem ef_ens (m : MethodId) (x0 : Addr) (x1 : Int32) : entryFrame m #[(.ref x0), (.int x1)] 3 = mkF m 0 #[rv x0, iv x1, .unset] [] := by first | (simp [entryFrame, mkF, argsToLocals, Value.category]; done) | rfl
set_option maxRecDepth 65536 in
set_option maxHeartbeats 40000000 in
theorem rm_ens (l : Launch) (Z : State) (a0 : Array Value) (hw : ∀ d ∈ tables_1, d.before a0 Z = true) (ws : List Jvm.Cond) (b d : Addr) (k mm : Nat) (f : Nat → Int32) (n0 : Nat) (h0 : Heap) (hm : mm ≤ 16) (E_b : Exa Z h0 b "java/lang/StringBuilder") (Gv : Fld Z h0 b "java/lang/AbstractStringBuilder" "value" "[B" (.ref d)) (Gc : Fld Z h0 b "java/lang/AbstractStringBuilder" "coder" "B" (.int (0 : Int32))) (Gn : Fld Z h0 b "java/lang/AbstractStringBuilder" "count" "I" (.int (Int32.ofNat k))) (V_d : Ary Z h0 d .byte (IL 16 f)) (g_b : n0 ≤ b) (g_d : n0 ≤ d) (ne_b_d : b ≠ d) :
    Mt l Z (⟨"java/lang/AbstractStringBuilder", "ensureCapacityInternal", "(I)V"⟩ : MethodName) jdk_68_method_9_code 3 none ws ({ frames := 0, cells := 0, slots := 0, locals := 0 } : Room) #[(.ref b), (.int (Int32.ofNat mm))] h0 (fun v h L => v = none ∧ h = h0 ∧ L = []) := by
  refine Mt.body pn_ens ?_
  intro p e s m below meth c s₁ hx hby hml hown hnm hret hlk hZ X0 e0
  refine Go.cast (g' := (mkF m 0 #[rv b, iv (Int32.ofNat mm), .unset] [])) (ef_ens m b (Int32.ofNat mm)) ?_
  have N0 := Fr.nil n0
  refine Go.st (T' := s₁) (g' := (mkF m 1 #[rv b, iv (Int32.ofNat mm), .unset] [(.ref b)])) ?_ (fun _ kk_ => XS.aloadN X0.here hx rfl (hb hby dens_0) rfl rfl  kk_)
  obtain ⟨T1, X1, e1, st1⟩ := getF X0 hx hZ hown (host := "") (Or.inl (hw _ (List.mem_of_getElem? (i := 94) rfl))) Via.refl e0 Gv (g := (mkF m 1 #[rv b, iv (Int32.ofNat mm), .unset] [(.ref b)])) rfl rfl (hb hby dens_1)
  refine Go.st (T' := T1) (g' := (mkF m 4 #[rv b, iv (Int32.ofNat mm), .unset] [(.ref d)])) ?_ st1
  refine Go.st (T' := T1) (g' := (mkF m 6 #[rv b, iv (Int32.ofNat mm), .unset] [(.ref b), (.int (16 : Int32))])) ?_ (fun _ kk_ => own_alen X1 hx hZ e1 V_d (n := 16) (IL_len _ _) rfl rfl (hb hby dens_4) (XS.aloadN X1.here hx rfl (hb hby dens_5) rfl rfl  kk_))
  obtain ⟨T2, X2, e2, st2⟩ := getF X1 hx hZ hown (host := "") (Or.inl (hw _ (List.mem_of_getElem? (i := 96) rfl))) Via.refl e1 Gc (g := (mkF m 6 #[rv b, iv (Int32.ofNat mm), .unset] [(.ref b), (.int (16 : Int32))])) rfl rfl (hb hby dens_6)
  refine Go.st (T' := T2) (g' := (mkF m 9 #[rv b, iv (Int32.ofNat mm), .unset] [(.int (0 : Int32)), (.int (16 : Int32))])) ?_ st2
  refine Go.st (T' := T2) (g' := (mkF m 10 #[rv b, iv (Int32.ofNat mm), .unset] [(.int ((16 : Int32) >>> ((0 : Int32) &&& 31)))])) ?_ (fun _ kk_ => XS.ishr X2.here hx rfl (hb hby dens_9) rfl kk_)
  rw [own_shr0]
  show Go p e below _ T2 (mkF m 10 #[rv b, iv (Int32.ofNat mm), .unset] [(.int (16 : Int32))])
  refine Go.st (T' := T2) (g' := (mkF m 38 #[rv b, iv (Int32.ofNat mm), iv (16 : Int32)] [])) ?_ (fun _ kk_ => XS.istoreN X2.here hx rfl (hb hby dens_10) rfl (l' := #[rv b, iv (Int32.ofNat mm), iv (16 : Int32)]) rfl (XS.iloadN X2.here hx rfl (hb hby dens_11) rfl  (XS.iloadN X2.here hx rfl (hb hby dens_12) rfl  (XS.isub X2.here hx rfl (hb hby dens_13) rfl (XS.ifYes X2.here hx rfl (pc0 := 14) (pc' := 38) rfl (hb hby dens_14) rfl ((if0 _ _).trans (flt ((own_ens mm hm) : ¬ ((0 : Int32) < ((Int32.ofNat mm) - (16 : Int32))))).2.2.2) (by decide) (by decide) kk_)))))
  refine Go.retV X2 hx hlk hret (hb hby dens_38) (by decide) (by decide) ?_
  try rw [e2]
  exact ⟨rfl, rfl, rfl⟩
theorem dmnI_0 : decode jdk_29_method_69_code 0 = .ok (.iload_n 0, 1) := by decide +kernel
theorem dmnI_1 : decode jdk_29_method_69_code 1 = .ok (.iload_n 1, 1) := by decide +kernel
theorem dmnI_2 : decode jdk_29_method_69_code 2 = .ok (.if_icmp .gt 7, 3) := by decide +kernel
theorem dmnI_5 : decode jdk_29_method_69_code 5 = .ok (.iload_n 0, 1) := by decide +kernel
theorem dmnI_6 : decode jdk_29_method_69_code 6 = .ok (.goto 4, 3) := by decide +kernel
theorem dmnI_9 : decode jdk_29_method_69_code 9 = .ok (.iload_n 1, 1) := by decide +kernel
theorem dmnI_10 : decode jdk_29_method_69_code 10 = .ok (.ireturn, 1) := by decide +kernel
theorem pn_mnI : plainFor (⟨"java/lang/Math", "min", "(II)I"⟩ : MethodName) = true := by first | exact plainFor_of_name (by first | (simp [plainName, overriddenIn]; done) | decide +kernel) | decide +kernel
theorem ef_mnI (m : MethodId) (x0 : Int32) (x1 : Int32) : entryFrame m #[(.int x0), (.int x1)] 2 = mkF m 0 #[iv x0, iv x1] [] := by first | (simp [entryFrame, mkF, argsToLocals, Value.category]; done) | rfl
set_option maxRecDepth 65536 in
set_option maxHeartbeats 40000000 in
theorem rm_mnI (l : Launch) (Z : State) (a0 : Array Value) (hw : ∀ d ∈ tables_1, d.before a0 Z = true) (ws : List Jvm.Cond) (x y : Int32) (h0 : Heap)  :
    Mt l Z (⟨"java/lang/Math", "min", "(II)I"⟩ : MethodName) jdk_29_method_69_code 2 (some .int) ws ({ frames := 0, cells := 0, slots := 0, locals := 0 } : Room) #[(.int x), (.int y)] h0 (fun v h L => v = some (.int (if y < x then y else x)) ∧ h = h0 ∧ L = []) := by
  refine Mt.body pn_mnI ?_
  intro p e s m below meth c s₁ hx hby hml hown hnm hret hlk hZ X0 e0
  refine Go.cast (g' := (mkF m 0 #[iv x, iv y] [])) (ef_mnI m x y) ?_
  have N0 := Fr.nil 0
  refine Go.st (T' := s₁) (g' := (mkF m 2 #[iv x, iv y] [(.int y), (.int x)])) ?_ (fun _ kk_ => XS.iloadN X0.here hx rfl (hb hby dmnI_0) rfl  (XS.iloadN X0.here hx rfl (hb hby dmnI_1) rfl  kk_))
  by_cases hc : y < x
  ·
    refine Go.st (T' := s₁) (g' := (mkF m 10 #[iv x, iv y] [(.int y)])) ?_ (fun _ kk_ => XS.icmpYes X0.here hx rfl (pc0 := 2) (pc' := 9) rfl (hb hby dmnI_2) rfl (tlt (hc : y < x)).2.2.1 (by decide) (by decide) (XS.iloadN X0.here hx rfl (hb hby dmnI_9) rfl  kk_))
    refine Go.retI X0 hx hlk hret (hb hby dmnI_10) (by decide) (by decide) ?_
    try rw [e0]
    exact ⟨by rw [if_pos hc], rfl, rfl⟩
  ·
    refine Go.st (T' := s₁) (g' := (mkF m 10 #[iv x, iv y] [(.int x)])) ?_ (fun _ kk_ => XS.icmpNo X0.here hx rfl (hb hby dmnI_2) rfl (flt (hc : ¬ (y < x))).2.2.1 (XS.iloadN X0.here hx rfl (hb hby dmnI_5) rfl  (XS.goto X0.here hx rfl (pc0 := 6) (pc' := 10) rfl (hb hby dmnI_6) (by decide) (by decide) kk_)))
    refine Go.retI X0 hx hlk hret (hb hby dmnI_10) (by decide) (by decide) ?_
    try rw [e0]
    exact ⟨by rw [if_neg hc], rfl, rfl⟩
theorem dckl_0 : decode jdk_65_method_131_code 0 = .ok (.iload_n 1, 1) := by decide +kernel
theorem dckl_1 : decode jdk_65_method_131_code 1 = .ok (.iload_n 0, 1) := by decide +kernel
theorem dckl_2 : decode jdk_65_method_131_code 2 = .ok (.if_icmp .ge 35, 3) := by decide +kernel
theorem dckl_37 : decode jdk_65_method_131_code 37 = .ok (.return_, 1) := by decide +kernel
theorem pn_ckl : plainFor (⟨"java/util/Arrays", "checkLength", "(II)V"⟩ : MethodName) = true := by first | exact plainFor_of_name (by first | (simp [plainName, overriddenIn]; done) | decide +kernel) | decide +kernel
theorem ef_ckl (m : MethodId) (x0 : Int32) (x1 : Int32) : entryFrame m #[(.int x0), (.int x1)] 2 = mkF m 0 #[iv x0, iv x1] [] := by first | (simp [entryFrame, mkF, argsToLocals, Value.category]; done) | rfl
set_option maxRecDepth 65536 in
set_option maxHeartbeats 40000000 in
theorem rm_ckl (l : Launch) (Z : State) (a0 : Array Value) (hw : ∀ d ∈ tables_1, d.before a0 Z = true) (ws : List Jvm.Cond) (n : Nat) (h0 : Heap) (hn : n ≤ 16) :
    Mt l Z (⟨"java/util/Arrays", "checkLength", "(II)V"⟩ : MethodName) jdk_65_method_131_code 2 none ws ({ frames := 0, cells := 0, slots := 0, locals := 0 } : Room) #[(.int (0 : Int32)), (.int (Int32.ofNat n))] h0 (fun v h L => v = none ∧ h = h0 ∧ L = []) := by
  refine Mt.body pn_ckl ?_
  intro p e s m below meth c s₁ hx hby hml hown hnm hret hlk hZ X0 e0
  refine Go.cast (g' := (mkF m 0 #[iv (0 : Int32), iv (Int32.ofNat n)] [])) (ef_ckl m (0 : Int32) (Int32.ofNat n)) ?_
  have N0 := Fr.nil 0
  refine Go.st (T' := s₁) (g' := (mkF m 37 #[iv (0 : Int32), iv (Int32.ofNat n)] [])) ?_ (fun _ kk_ => XS.iloadN X0.here hx rfl (hb hby dckl_0) rfl  (XS.iloadN X0.here hx rfl (hb hby dckl_1) rfl  (XS.icmpYes X0.here hx rfl (pc0 := 2) (pc' := 37) rfl (hb hby dckl_2) rfl (flt ((own_nat (n := n) (by omega)).2.1 : ¬ ((Int32.ofNat n) < (0 : Int32)))).2.1 (by decide) (by decide) kk_)))
  refine Go.retV X0 hx hlk hret (hb hby dckl_37) (by decide) (by decide) ?_
  try rw [e0]
  exact ⟨rfl, rfl, rfl⟩
theorem dcrb_0 : decode jdk_65_method_133_code 0 = .ok (.iload_n 1, 1) := by decide +kernel
theorem dcrb_1 : decode jdk_65_method_133_code 1 = .ok (.iload_n 2, 1) := by decide +kernel
theorem dcrb_2 : decode jdk_65_method_133_code 2 = .ok (.invokestatic 343, 3) := by decide +kernel
theorem dcrb_5 : decode jdk_65_method_133_code 5 = .ok (.iload_n 2, 1) := by decide +kernel
theorem dcrb_6 : decode jdk_65_method_133_code 6 = .ok (.iload_n 1, 1) := by decide +kernel
theorem dcrb_7 : decode jdk_65_method_133_code 7 = .ok (.isub, 1) := by decide +kernel
theorem dcrb_8 : decode jdk_65_method_133_code 8 = .ok (.istore_n 3, 1) := by decide +kernel
theorem dcrb_9 : decode jdk_65_method_133_code 9 = .ok (.iload_n 3, 1) := by decide +kernel
theorem dcrb_10 : decode jdk_65_method_133_code 10 = .ok (.newarray .byte, 2) := by decide +kernel
theorem dcrb_12 : decode jdk_65_method_133_code 12 = .ok (.astore 4, 2) := by decide +kernel
theorem dcrb_14 : decode jdk_65_method_133_code 14 = .ok (.aload_n 0, 1) := by decide +kernel
theorem dcrb_15 : decode jdk_65_method_133_code 15 = .ok (.iload_n 1, 1) := by decide +kernel
theorem dcrb_16 : decode jdk_65_method_133_code 16 = .ok (.aload 4, 2) := by decide +kernel
theorem dcrb_18 : decode jdk_65_method_133_code 18 = .ok (.iconst 0, 1) := by decide +kernel
theorem dcrb_19 : decode jdk_65_method_133_code 19 = .ok (.aload_n 0, 1) := by decide +kernel
theorem dcrb_20 : decode jdk_65_method_133_code 20 = .ok (.arraylength, 1) := by decide +kernel
theorem dcrb_21 : decode jdk_65_method_133_code 21 = .ok (.iload_n 1, 1) := by decide +kernel
theorem dcrb_22 : decode jdk_65_method_133_code 22 = .ok (.isub, 1) := by decide +kernel
theorem dcrb_23 : decode jdk_65_method_133_code 23 = .ok (.iload_n 3, 1) := by decide +kernel
theorem dcrb_24 : decode jdk_65_method_133_code 24 = .ok (.invokestatic 304, 3) := by decide +kernel
theorem dcrb_27 : decode jdk_65_method_133_code 27 = .ok (.invokestatic 150, 3) := by decide +kernel
theorem dcrb_30 : decode jdk_65_method_133_code 30 = .ok (.aload 4, 2) := by decide +kernel
theorem dcrb_32 : decode jdk_65_method_133_code 32 = .ok (.areturn, 1) := by decide +kernel
theorem pn_crb : plainFor (⟨"java/util/Arrays", "copyOfRangeByte", "([BII)[B"⟩ : MethodName) = true := by first | exact plainFor_of_name (by first | (simp [plainName, overriddenIn]; done) | decide +kernel) | decide +kernel
theorem ef_crb (m : MethodId) (x0 : Addr) (x1 : Int32) (x2 : Int32) : entryFrame m #[(.ref x0), (.int x1), (.int x2)] 5 = mkF m 0 #[rv x0, iv x1, iv x2, .unset, .unset] [] := by first | (simp [entryFrame, mkF, argsToLocals, Value.category]; done) | rfl
set_option maxRecDepth 65536 in
set_option maxHeartbeats 40000000 in
theorem rm_crb (l : Launch) (Z : State) (a0 : Array Value) (hw : ∀ d ∈ tables_1, d.before a0 Z = true) (ws : List Jvm.Cond) (d : Addr) (n : Nat) (f : Nat → Int32) (n0 : Nat) (h0 : Heap) (Z0 : n0 ≤ h0.size) (hn : n < 16) (V_d : Ary Z h0 d .byte (IL 16 f)) :
    Mt l Z (⟨"java/util/Arrays", "copyOfRangeByte", "([BII)[B"⟩ : MethodName) jdk_65_method_133_code 5 (some (.array .byte)) ws ({ frames := 1, cells := 1, slots := 16, locals := 60 } : Room) #[(.ref d), (.int (0 : Int32)), (.int (Int32.ofNat n))] h0 (fun v h L => ∃ t, v = some (.ref t) ∧ Fr n0 L ∧ Keep h0 h [] ∧ h0.size ≤ t ∧ Ary Z h t .byte (IL n f)) := by
  refine Mt.body pn_crb ?_
  intro p e s m below meth c s₁ hx hby hml hown hnm hret hlk hZ X0 e0
  refine Go.cast (g' := (mkF m 0 #[rv d, iv (0 : Int32), iv (Int32.ofNat n), .unset, .unset] [])) (ef_crb m d (0 : Int32) (Int32.ofNat n)) ?_
  have N0 := Fr.nil n0
  have K0 := Keep.refl h0 ([] : List Addr)
  refine Go.st (T' := s₁) (g' := (mkF m 2 #[rv d, iv (0 : Int32), iv (Int32.ofNat n), .unset, .unset] [(.int (Int32.ofNat n)), (.int (0 : Int32))])) ?_ (fun _ kk_ => XS.iloadN X0.here hx rfl (hb hby dcrb_0) rfl  (XS.iloadN X0.here hx rfl (hb hby dcrb_1) rfl  kk_))
  refine Go.callS (y := (⟨"java/util/Arrays", "checkLength", "(II)V"⟩ : MethodName)) X0 hx hZ hown (hw _ (List.mem_of_getElem? (i := 156) rfl)) (hw _ (List.mem_of_getElem? (i := 157) rfl)) (hw _ (List.mem_of_getElem? (i := 151) rfl)) (hw _ (List.mem_of_getElem? (i := 158) rfl)) (by decide) 0 (rm_ckl l Z a0 hw [] n h0 (by omega)) e0 (by decide) (by decide) (by decide) (by decide) (argsL := [(.int (0 : Int32)), (.int (Int32.ofNat n))]) (rest := []) rfl (by rw [hml]; rfl) (lenOf pd__28II_29V rfl) rfl rfl (by show 2 * 0 + _ ≤ _; exact Nat.le_of_eq rfl) (hb hby dcrb_2) ?_
  rintro _ T1 L1 X1 ⟨rfl, e1, rfl⟩
  have N2 := Fr.app N0 (Fr.nil _)
  show Go p e below _ T1 (mkF m 5 #[rv d, iv (0 : Int32), iv (Int32.ofNat n), .unset, .unset] [])
  refine Go.st (T' := T1) (g' := (mkF m 8 #[rv d, iv (0 : Int32), iv (Int32.ofNat n), .unset, .unset] [(.int ((Int32.ofNat n) - (0 : Int32)))])) ?_ (fun _ kk_ => XS.iloadN X1.here hx rfl (hb hby dcrb_5) rfl  (XS.iloadN X1.here hx rfl (hb hby dcrb_6) rfl  (XS.isub X1.here hx rfl (hb hby dcrb_7) rfl kk_)))
  rw [show Int32.ofNat n - (0 : Int32) = Int32.ofNat n from Int32.sub_zero _]
  show Go p e below _ T1 (mkF m 8 #[rv d, iv (0 : Int32), iv (Int32.ofNat n), .unset, .unset] [(.int (Int32.ofNat n))])
  refine Go.st (T' := T1) (g' := (mkF m 10 #[rv d, iv (0 : Int32), iv (Int32.ofNat n), iv (Int32.ofNat n), .unset] [(.int (Int32.ofNat n))])) ?_ (fun _ kk_ => XS.istoreN X1.here hx rfl (hb hby dcrb_8) rfl (l' := #[rv d, iv (0 : Int32), iv (Int32.ofNat n), iv (Int32.ofNat n), .unset]) rfl (XS.iloadN X1.here hx rfl (hb hby dcrb_9) rfl  kk_))
  refine Go.newP X1 hx hZ (aty := .byte) (hw _ (List.mem_of_getElem? (i := 28) rfl)) e1 rfl (hb hby dcrb_10) (n := n) rfl rfl 16 (by omega) (by decide) (by decide) (by decide) ?_
  intro T3 h3 b3 X3 e3 E3 g3 V3
  have ne_d_b3 : d ≠ b3 := Nat.ne_of_lt (Nat.lt_of_lt_of_eq V_d.lt g3.symm)
  have g_b3 : n0 ≤ b3 := Nat.le_trans Z0 (Nat.le_of_eq g3.symm)
  have sz_b3 : h0.size ≤ b3 := Nat.le_trans K0.1 (Nat.le_of_eq g3.symm)
  have Z4 : n0 ≤ h3.size := Nat.le_trans Z0 E3.1
  have K5 : Keep h0 h3 ([] : List Addr) := K0.ext E3
  change Ary Z h3 b3 .byte (List.replicate n (.int 0)) at V3
  show Go p e below _ T3 (mkF m 12 #[rv d, iv (0 : Int32), iv (Int32.ofNat n), iv (Int32.ofNat n), .unset] [(.ref b3)])
  rw [IL_rep] at V3
  refine Go.st (T' := T3) (g' := (mkF m 20 #[rv d, iv (0 : Int32), iv (Int32.ofNat n), iv (Int32.ofNat n), rv b3] [(.ref d), (.int (0 : Int32)), (.ref b3), (.int (0 : Int32)), (.ref d)])) ?_ (fun _ kk_ => XS.astore X3.here hx rfl (hb hby dcrb_12) rfl rfl (l' := #[rv d, iv (0 : Int32), iv (Int32.ofNat n), iv (Int32.ofNat n), rv b3]) rfl (XS.aloadN X3.here hx rfl (hb hby dcrb_14) rfl rfl  (XS.iloadN X3.here hx rfl (hb hby dcrb_15) rfl  (XS.aload X3.here hx rfl (hb hby dcrb_16) rfl rfl  (XS.iconst X3.here hx rfl (hb hby dcrb_18) (XS.aloadN X3.here hx rfl (hb hby dcrb_19) rfl rfl  kk_))))))
  have f6 := (V_d.ext E3)
  refine Go.st (T' := T3) (g' := (mkF m 24 #[rv d, iv (0 : Int32), iv (Int32.ofNat n), iv (Int32.ofNat n), rv b3] [(.int (Int32.ofNat n)), (.int (16 : Int32)), (.int (0 : Int32)), (.ref b3), (.int (0 : Int32)), (.ref d)])) ?_ (fun _ kk_ => own_alen X3 hx hZ e3 f6 (n := 16) (IL_len _ _) rfl rfl (hb hby dcrb_20) (XS.iloadN X3.here hx rfl (hb hby dcrb_21) rfl  (XS.isub X3.here hx rfl (hb hby dcrb_22) rfl (XS.iloadN X3.here hx rfl (hb hby dcrb_23) rfl  kk_))))
  refine Go.callS (y := (⟨"java/lang/Math", "min", "(II)I"⟩ : MethodName)) X3 hx hZ hown (hw _ (List.mem_of_getElem? (i := 159) rfl)) (hw _ (List.mem_of_getElem? (i := 160) rfl)) (hw _ (List.mem_of_getElem? (i := 161) rfl)) (hw _ (List.mem_of_getElem? (i := 162) rfl)) (by decide) 4 (rm_mnI l Z a0 hw [] (16 : Int32) (Int32.ofNat n) h3) e3 (by decide) (by decide) (by decide) (by decide) (argsL := [(.int (16 : Int32)), (.int (Int32.ofNat n))]) (rest := [(.int (0 : Int32)), (.ref b3), (.int (0 : Int32)), (.ref d)]) rfl (by rw [hml]; rfl) (lenOf pd__28II_29I rfl) rfl rfl (by show 2 * 0 + _ ≤ _; exact Nat.le_of_eq rfl) (hb hby dcrb_24) ?_
  rintro _ T7 L7 X7 ⟨rfl, e7, rfl⟩
  have N8 := Fr.app N2 (Fr.nil _)
  show Go p e below _ T7 (mkF m 27 #[rv d, iv (0 : Int32), iv (Int32.ofNat n), iv (Int32.ofNat n), rv b3] [(.int (if (Int32.ofNat n) < (16 : Int32) then (Int32.ofNat n) else (16 : Int32))), (.int (0 : Int32)), (.ref b3), (.int (0 : Int32)), (.ref d)])
  rw [show (if (Int32.ofNat n) < (16 : Int32) then (Int32.ofNat n) else (16 : Int32)) = Int32.ofNat n from if_pos ((own_lt (i := n) (n := 16) (by omega) (by decide)).mpr hn)]
  show Go p e below _ T7 (mkF m 27 #[rv d, iv (0 : Int32), iv (Int32.ofNat n), iv (Int32.ofNat n), rv b3] [(.int (Int32.ofNat n)), (.int (0 : Int32)), (.ref b3), (.int (0 : Int32)), (.ref d)])
  refine Go.acopy X7 hx hZ hown (hw _ (List.mem_of_getElem? (i := 163) rfl)) (hw _ (List.mem_of_getElem? (i := 166) rfl)) (hw _ (List.mem_of_getElem? (i := 164) rfl)) (hw _ (List.mem_of_getElem? (i := 165) rfl)) e7 f6 V3 (us := (IL n f)) rfl (sp := 0) (dp := 0) (nn := n) rfl rfl rfl (by rw [IL_len]; omega) (by rw [IL_len]; omega) (own_copy0 (Nat.le_of_lt hn)) (by rw [IL_len, IL_len]) N8 g_b3 rfl (by rw [hml]; rfl) rfl (hb hby dcrb_27) (by decide) 0 (by show 2 * 0 + _ ≤ _; exact Nat.le_of_eq rfl) (by decide) ?_
  intro T9 h9 L9 X9 e9 N9 K9 V9
  have Z10 : n0 ≤ h9.size := Nat.le_trans Z4 K9.1
  have K11 : Keep h0 h9 ([] : List Addr) := K5.trans K9 (allS (P := fun z_ => z_ ∈ ([] : List Addr) ∨ h0.size ≤ z_) (Or.inr sz_b3) all0)
  show Go p e below _ T9 (mkF m 30 #[rv d, iv (0 : Int32), iv (Int32.ofNat n), iv (Int32.ofNat n), rv b3] [])
  refine Go.st (T' := T9) (g' := (mkF m 32 #[rv d, iv (0 : Int32), iv (Int32.ofNat n), iv (Int32.ofNat n), rv b3] [(.ref b3)])) ?_ (fun _ kk_ => XS.aload X9.here hx rfl (hb hby dcrb_30) rfl rfl  kk_)
  refine Go.retA X9 hx hlk hret rfl rfl (hb hby dcrb_32) (by decide) (by decide) ?_
  try rw [e9]
  exact ⟨b3, rfl, N9, K11, sz_b3, V9⟩
theorem dcor_0 : decode jdk_65_method_132_code 0 = .ok (.iload_n 1, 1) := by decide +kernel
theorem dcor_1 : decode jdk_65_method_132_code 1 = .ok (.ifCond .ne 9, 3) := by decide +kernel
theorem dcor_4 : decode jdk_65_method_132_code 4 = .ok (.iload_n 2, 1) := by decide +kernel
theorem dcor_5 : decode jdk_65_method_132_code 5 = .ok (.aload_n 0, 1) := by decide +kernel
theorem dcor_6 : decode jdk_65_method_132_code 6 = .ok (.arraylength, 1) := by decide +kernel
theorem dcor_7 : decode jdk_65_method_132_code 7 = .ok (.if_icmp .eq 10, 3) := by decide +kernel
theorem dcor_10 : decode jdk_65_method_132_code 10 = .ok (.aload_n 0, 1) := by decide +kernel
theorem dcor_11 : decode jdk_65_method_132_code 11 = .ok (.iload_n 1, 1) := by decide +kernel
theorem dcor_12 : decode jdk_65_method_132_code 12 = .ok (.iload_n 2, 1) := by decide +kernel
theorem dcor_13 : decode jdk_65_method_132_code 13 = .ok (.invokestatic 339, 3) := by decide +kernel
theorem dcor_16 : decode jdk_65_method_132_code 16 = .ok (.areturn, 1) := by decide +kernel
theorem pn_cor : plainFor (⟨"java/util/Arrays", "copyOfRange", "([BII)[B"⟩ : MethodName) = true := by first | exact plainFor_of_name (by first | (simp [plainName, overriddenIn]; done) | decide +kernel) | decide +kernel
theorem ef_cor (m : MethodId) (x0 : Addr) (x1 : Int32) (x2 : Int32) : entryFrame m #[(.ref x0), (.int x1), (.int x2)] 3 = mkF m 0 #[rv x0, iv x1, iv x2] [] := by first | (simp [entryFrame, mkF, argsToLocals, Value.category]; done) | rfl
set_option maxRecDepth 65536 in
set_option maxHeartbeats 40000000 in
theorem rm_cor (l : Launch) (Z : State) (a0 : Array Value) (hw : ∀ d ∈ tables_1, d.before a0 Z = true) (ws : List Jvm.Cond) (d : Addr) (n : Nat) (f : Nat → Int32) (n0 : Nat) (h0 : Heap) (Z0 : n0 ≤ h0.size) (hn : n < 16) (V_d : Ary Z h0 d .byte (IL 16 f)) :
    Mt l Z (⟨"java/util/Arrays", "copyOfRange", "([BII)[B"⟩ : MethodName) jdk_65_method_132_code 3 (some (.array .byte)) ws ({ frames := 2, cells := 1, slots := 16, locals := 76 } : Room) #[(.ref d), (.int (0 : Int32)), (.int (Int32.ofNat n))] h0 (fun v h L => ∃ t, v = some (.ref t) ∧ Fr n0 L ∧ Keep h0 h [] ∧ h0.size ≤ t ∧ Ary Z h t .byte (IL n f)) := by
  refine Mt.body pn_cor ?_
  intro p e s m below meth c s₁ hx hby hml hown hnm hret hlk hZ X0 e0
  refine Go.cast (g' := (mkF m 0 #[rv d, iv (0 : Int32), iv (Int32.ofNat n)] [])) (ef_cor m d (0 : Int32) (Int32.ofNat n)) ?_
  have N0 := Fr.nil n0
  have K0 := Keep.refl h0 ([] : List Addr)
  refine Go.st (T' := s₁) (g' := (mkF m 13 #[rv d, iv (0 : Int32), iv (Int32.ofNat n)] [(.int (Int32.ofNat n)), (.int (0 : Int32)), (.ref d)])) ?_ (fun _ kk_ => XS.iloadN X0.here hx rfl (hb hby dcor_0) rfl  (XS.ifNo X0.here hx rfl (hb hby dcor_1) rfl ((if0 _ _).trans (teq ((by decide) : (0 : Int32) = (0 : Int32))).2) (XS.iloadN X0.here hx rfl (hb hby dcor_4) rfl  (XS.aloadN X0.here hx rfl (hb hby dcor_5) rfl rfl  (own_alen X0 hx hZ e0 V_d (IL_len _ _) rfl rfl (hb hby dcor_6) (XS.icmpNo X0.here hx rfl (hb hby dcor_7) rfl (feq ((fun z => by have := (own_eq (i := n) (n := 16) (by omega) (by decide)).mp z; omega) : ¬ ((Int32.ofNat n) = (Int32.ofNat 16)))).1 (XS.aloadN X0.here hx rfl (hb hby dcor_10) rfl rfl  (XS.iloadN X0.here hx rfl (hb hby dcor_11) rfl  (XS.iloadN X0.here hx rfl (hb hby dcor_12) rfl  kk_)))))))))
  refine Go.callS (y := (⟨"java/util/Arrays", "copyOfRangeByte", "([BII)[B"⟩ : MethodName)) X0 hx hZ hown (hw _ (List.mem_of_getElem? (i := 153) rfl)) (hw _ (List.mem_of_getElem? (i := 154) rfl)) (hw _ (List.mem_of_getElem? (i := 151) rfl)) (hw _ (List.mem_of_getElem? (i := 155) rfl)) (by decide) 0 (rm_crb l Z a0 hw [] d n f n0 h0 Z0 hn V_d) e0 (by decide) (by decide) (by decide) (by decide) (argsL := [(.ref d), (.int (0 : Int32)), (.int (Int32.ofNat n))]) (rest := []) rfl (by rw [hml]; rfl) (lenOf pd__28_5bBII_29_5bB rfl) rfl rfl (by show 2 * 0 + _ ≤ _; exact Nat.le_of_eq rfl) (hb hby dcor_13) ?_
  rintro _ T1 L1 X1 ⟨t, rfl, N1, K1, tz, V1⟩
  have N2 := Fr.app N0 N1
  have Z3 : n0 ≤ T1.heap.size := Nat.le_trans Z0 K1.1
  have K4 : Keep h0 T1.heap ([] : List Addr) := K0.trans K1 all0
  show Go p e below _ T1 (mkF m 16 #[rv d, iv (0 : Int32), iv (Int32.ofNat n)] [(.ref t)])
  refine Go.retA X1 hx hlk hret rfl rfl (hb hby dcor_16) (by decide) (by decide) ?_
  exact ⟨t, rfl, N2, K4, tz, V1⟩
theorem dgva_0 : decode jdk_68_method_64_code 0 = .ok (.aload_n 0, 1) := by decide +kernel
theorem dgva_1 : decode jdk_68_method_64_code 1 = .ok (.getfield 15, 3) := by decide +kernel
theorem dgva_4 : decode jdk_68_method_64_code 4 = .ok (.areturn, 1) := by decide +kernel
theorem pn_gva : plainFor (⟨"java/lang/AbstractStringBuilder", "getValue", "()[B"⟩ : MethodName) = true := by first | exact plainFor_of_name (by first | (simp [plainName, overriddenIn]; done) | decide +kernel) | decide +kernel
theorem ef_gva (m : MethodId) (x0 : Addr) : entryFrame m #[(.ref x0)] 1 = mkF m 0 #[rv x0] [] := by first | (simp [entryFrame, mkF, argsToLocals, Value.category]; done) | rfl
set_option maxRecDepth 65536 in
set_option maxHeartbeats 40000000 in
theorem rm_gva (l : Launch) (Z : State) (a0 : Array Value) (hw : ∀ d ∈ tables_1, d.before a0 Z = true) (ws : List Jvm.Cond) (b : Addr) (d : Addr) (h0 : Heap) (Gx : Fld Z h0 b "java/lang/AbstractStringBuilder" "value" "[B" (.ref d)) :
    Mt l Z (⟨"java/lang/AbstractStringBuilder", "getValue", "()[B"⟩ : MethodName) jdk_68_method_64_code 1 (some (.array .byte)) ws ({ frames := 0, cells := 0, slots := 0, locals := 0 } : Room) #[(.ref b)] h0 (fun v h L => v = some (.ref d) ∧ h = h0 ∧ L = []) := by
  refine Mt.body pn_gva ?_
  intro p e s m below meth c s₁ hx hby hml hown hnm hret hlk hZ X0 e0
  refine Go.cast (g' := (mkF m 0 #[rv b] [])) (ef_gva m b) ?_
  have N0 := Fr.nil 0
  refine Go.st (T' := s₁) (g' := (mkF m 1 #[rv b] [(.ref b)])) ?_ (fun _ kk_ => XS.aloadN X0.here hx rfl (hb hby dgva_0) rfl rfl  kk_)
  obtain ⟨T1, X1, e1, st1⟩ := getF X0 hx hZ hown (host := "") (Or.inl (hw _ (List.mem_of_getElem? (i := 94) rfl))) Via.refl e0 Gx (g := (mkF m 1 #[rv b] [(.ref b)])) rfl rfl (hb hby dgva_1)
  refine Go.st (T' := T1) (g' := (mkF m 4 #[rv b] [(.ref d)])) ?_ st1
  refine Go.retA X1 hx hlk hret rfl rfl (hb hby dgva_4) (by decide) (by decide) ?_
  try rw [e1]
  exact ⟨rfl, rfl, rfl⟩
theorem dale_0 : decode jdk_68_method_6_code 0 = .ok (.aload_n 0, 1) := by decide +kernel
theorem dale_1 : decode jdk_68_method_6_code 1 = .ok (.getfield 79, 3) := by decide +kernel
theorem dale_4 : decode jdk_68_method_6_code 4 = .ok (.ireturn, 1) := by decide +kernel
theorem pn_ale : plainFor (⟨"java/lang/AbstractStringBuilder", "length", "()I"⟩ : MethodName) = true := by first | exact plainFor_of_name (by first | (simp [plainName, overriddenIn]; done) | decide +kernel) | decide +kernel
theorem ef_ale (m : MethodId) (x0 : Addr) : entryFrame m #[(.ref x0)] 1 = mkF m 0 #[rv x0] [] := by first | (simp [entryFrame, mkF, argsToLocals, Value.category]; done) | rfl
set_option maxRecDepth 65536 in
set_option maxHeartbeats 40000000 in
theorem rm_ale (l : Launch) (Z : State) (a0 : Array Value) (hw : ∀ d ∈ tables_1, d.before a0 Z = true) (ws : List Jvm.Cond) (b : Addr) (k : Nat) (h0 : Heap) (Gx : Fld Z h0 b "java/lang/AbstractStringBuilder" "count" "I" (.int (Int32.ofNat k))) :
    Mt l Z (⟨"java/lang/AbstractStringBuilder", "length", "()I"⟩ : MethodName) jdk_68_method_6_code 1 (some .int) ws ({ frames := 0, cells := 0, slots := 0, locals := 0 } : Room) #[(.ref b)] h0 (fun v h L => v = some (.int (Int32.ofNat k)) ∧ h = h0 ∧ L = []) := by
  refine Mt.body pn_ale ?_
  intro p e s m below meth c s₁ hx hby hml hown hnm hret hlk hZ X0 e0
  refine Go.cast (g' := (mkF m 0 #[rv b] [])) (ef_ale m b) ?_
  have N0 := Fr.nil 0
  refine Go.st (T' := s₁) (g' := (mkF m 1 #[rv b] [(.ref b)])) ?_ (fun _ kk_ => XS.aloadN X0.here hx rfl (hb hby dale_0) rfl rfl  kk_)
  obtain ⟨T1, X1, e1, st1⟩ := getF X0 hx hZ hown (host := "") (Or.inl (hw _ (List.mem_of_getElem? (i := 108) rfl))) Via.refl e0 Gx (g := (mkF m 1 #[rv b] [(.ref b)])) rfl rfl (hb hby dale_1)
  refine Go.st (T' := T1) (g' := (mkF m 4 #[rv b] [(.int (Int32.ofNat k))])) ?_ st1
  refine Go.retI X1 hx hlk hret (hb hby dale_4) (by decide) (by decide) ?_
  try rw [e1]
  exact ⟨rfl, rfl, rfl⟩
theorem dsle_0 : decode jdk_67_method_93_code 0 = .ok (.aload_n 0, 1) := by decide +kernel
theorem dsle_1 : decode jdk_67_method_93_code 1 = .ok (.invokespecial 343, 3) := by decide +kernel
theorem dsle_4 : decode jdk_67_method_93_code 4 = .ok (.ireturn, 1) := by decide +kernel
theorem pn_sle : plainFor (⟨"java/lang/StringBuilder", "length", "()I"⟩ : MethodName) = true := by first | exact plainFor_of_name (by first | (simp [plainName, overriddenIn]; done) | decide +kernel) | decide +kernel
theorem ef_sle (m : MethodId) (x0 : Addr) : entryFrame m #[(.ref x0)] 1 = mkF m 0 #[rv x0] [] := by first | (simp [entryFrame, mkF, argsToLocals, Value.category]; done) | rfl
set_option maxRecDepth 65536 in
set_option maxHeartbeats 40000000 in
theorem rm_sle (l : Launch) (Z : State) (a0 : Array Value) (hw : ∀ d ∈ tables_1, d.before a0 Z = true) (ws : List Jvm.Cond) (b : Addr) (k : Nat) (h0 : Heap) (E_b : Exa Z h0 b "java/lang/StringBuilder") (Gx : Fld Z h0 b "java/lang/AbstractStringBuilder" "count" "I" (.int (Int32.ofNat k))) :
    Mt l Z (⟨"java/lang/StringBuilder", "length", "()I"⟩ : MethodName) jdk_67_method_93_code 1 (some .int) ws ({ frames := 1, cells := 0, slots := 0, locals := 12 } : Room) #[(.ref b)] h0 (fun v h L => v = some (.int (Int32.ofNat k)) ∧ h = h0 ∧ L = []) := by
  refine Mt.body pn_sle ?_
  intro p e s m below meth c s₁ hx hby hml hown hnm hret hlk hZ X0 e0
  refine Go.cast (g' := (mkF m 0 #[rv b] [])) (ef_sle m b) ?_
  have N0 := Fr.nil 0
  refine Go.st (T' := s₁) (g' := (mkF m 1 #[rv b] [(.ref b)])) ?_ (fun _ kk_ => XS.aloadN X0.here hx rfl (hb hby dsle_0) rfl rfl  kk_)
  refine Go.callU (y := (⟨"java/lang/AbstractStringBuilder", "length", "()I"⟩ : MethodName)) X0 hx hZ hown (hw _ (List.mem_of_getElem? (i := 146) rfl)) (own_same (hw _ (List.mem_of_getElem? (i := 142) rfl)) (by decide) (own_notFace (notFace_of_selects (hw _ (List.mem_of_getElem? (i := 113) rfl))) (Cond.code_named (hw _ (List.mem_of_getElem? (i := 114) rfl))) rfl)) (hw _ (List.mem_of_getElem? (i := 142) rfl)) (hw _ (List.mem_of_getElem? (i := 105) rfl)) (hw _ (List.mem_of_getElem? (i := 90) rfl)) (hw _ (List.mem_of_getElem? (i := 147) rfl)) (by decide) 0 (rm_ale l Z a0 hw [] b k h0 Gx) e0 (by decide) (by decide) (by decide) (by decide) E_b (argsL := []) (rest := []) rfl (by rw [hml]; rfl) (lenOf pd__28_29I rfl) rfl rfl (by show 2 * 0 + _ ≤ _; exact Nat.le_of_eq rfl) (hb hby dsle_1) ?_
  rintro _ T1 L1 X1 ⟨rfl, e1, rfl⟩
  have N2 := Fr.app N0 (Fr.nil _)
  show Go p e below _ T1 (mkF m 4 #[rv b] [(.int (Int32.ofNat k))])
  refine Go.retI X1 hx hlk hret (hb hby dsle_4) (by decide) (by decide) ?_
  try rw [e1]
  exact ⟨rfl, rfl, rfl⟩
theorem diab_0 : decode jdk_42_method_150_code 0 = .ok (.aload_n 0, 1) := by decide +kernel
theorem diab_1 : decode jdk_42_method_150_code 1 = .ok (.invokespecial 1, 3) := by decide +kernel
theorem diab_4 : decode jdk_42_method_150_code 4 = .ok (.aload_n 1, 1) := by decide +kernel
theorem diab_5 : decode jdk_42_method_150_code 5 = .ok (.invokevirtual 552, 3) := by decide +kernel
theorem diab_8 : decode jdk_42_method_150_code 8 = .ok (.astore_n 3, 1) := by decide +kernel
theorem diab_9 : decode jdk_42_method_150_code 9 = .ok (.aload_n 1, 1) := by decide +kernel
theorem diab_10 : decode jdk_42_method_150_code 10 = .ok (.invokevirtual 549, 3) := by decide +kernel
theorem diab_13 : decode jdk_42_method_150_code 13 = .ok (.istore 4, 2) := by decide +kernel
theorem diab_15 : decode jdk_42_method_150_code 15 = .ok (.aload_n 1, 1) := by decide +kernel
theorem diab_16 : decode jdk_42_method_150_code 16 = .ok (.invokevirtual 1047, 3) := by decide +kernel
theorem diab_19 : decode jdk_42_method_150_code 19 = .ok (.ifCond .eq 22, 3) := by decide +kernel
theorem diab_22 : decode jdk_42_method_150_code 22 = .ok (.aload_n 0, 1) := by decide +kernel
theorem diab_23 : decode jdk_42_method_150_code 23 = .ok (.iconst 0, 1) := by decide +kernel
theorem diab_24 : decode jdk_42_method_150_code 24 = .ok (.putfield 15, 3) := by decide +kernel
theorem diab_27 : decode jdk_42_method_150_code 27 = .ok (.aload_n 0, 1) := by decide +kernel
theorem diab_28 : decode jdk_42_method_150_code 28 = .ok (.aload_n 3, 1) := by decide +kernel
theorem diab_29 : decode jdk_42_method_150_code 29 = .ok (.iconst 0, 1) := by decide +kernel
theorem diab_30 : decode jdk_42_method_150_code 30 = .ok (.iload 4, 2) := by decide +kernel
theorem diab_32 : decode jdk_42_method_150_code 32 = .ok (.invokestatic 54, 3) := by decide +kernel
theorem diab_35 : decode jdk_42_method_150_code 35 = .ok (.putfield 9, 3) := by decide +kernel
theorem diab_38 : decode jdk_42_method_150_code 38 = .ok (.goto 59, 3) := by decide +kernel
theorem diab_97 : decode jdk_42_method_150_code 97 = .ok (.return_, 1) := by decide +kernel
theorem pn_iab : plainFor (⟨"java/lang/String", "<init>", "(Ljava/lang/AbstractStringBuilder;Ljava/lang/Void;)V"⟩ : MethodName) = true := by first | exact plainFor_of_name (by first | (simp [plainName, overriddenIn]; done) | decide +kernel) | decide +kernel
theorem ef_iab (m : MethodId) (x0 : Addr) (x1 : Addr) : entryFrame m #[(.ref x0), (.ref x1), .null] 5 = mkF m 0 #[rv x0, rv x1, .val .null, .unset, .unset] [] := by first | (simp [entryFrame, mkF, argsToLocals, Value.category]; done) | rfl
set_option maxRecDepth 65536 in
set_option maxHeartbeats 40000000 in
theorem rm_iab (l : Launch) (Z : State) (a0 : Array Value) (hw : ∀ d ∈ tables_1, d.before a0 Z = true) (ws : List Jvm.Cond) (x b d : Addr) (k : Nat) (f : Nat → Int32) (n0 : Nat) (cS : Int32) (h0 : Heap) (Z0 : n0 ≤ h0.size) (hk : k < 16) (E_x : Exa Z h0 x "java/lang/String") (Fv : Fld Z h0 x "java/lang/String" "value" "[B" .null) (Fc : Fld Z h0 x "java/lang/String" "coder" "B" (.int (0 : Int32))) (g_x : n0 ≤ x) (E_b : Exa Z h0 b "java/lang/StringBuilder") (Gv : Fld Z h0 b "java/lang/AbstractStringBuilder" "value" "[B" (.ref d)) (Gc : Fld Z h0 b "java/lang/AbstractStringBuilder" "coder" "B" (.int (0 : Int32))) (Gn : Fld Z h0 b "java/lang/AbstractStringBuilder" "count" "I" (.int (Int32.ofNat k))) (V_d : Ary Z h0 d .byte (IL 16 f)) (g_b : n0 ≤ b) (g_d : n0 ≤ d) (ne_b_d : b ≠ d) (O0 : Old Z n0 h0) (Sc : Sta Z Z.heap "java/lang/String" "COMPACT_STRINGS" "Z" (.int cS)) (hcS : ¬ (cS = (0 : Int32))) (ne_x_b : x ≠ b) (ne_x_d : x ≠ d) :
    Mt l Z (⟨"java/lang/String", "<init>", "(Ljava/lang/AbstractStringBuilder;Ljava/lang/Void;)V"⟩ : MethodName) jdk_42_method_150_code 5 none ws ({ frames := 3, cells := 1, slots := 16, locals := 91 } : Room) #[(.ref x), (.ref b), .null] h0 (fun v h L => v = none ∧ Fr n0 L ∧ Keep h0 h [x] ∧ Fld Z h x "java/lang/String" "coder" "B" (.int (0 : Int32)) ∧ ∃ t, h0.size ≤ t ∧ Fld Z h x "java/lang/String" "value" "[B" (.ref t) ∧ Ary Z h t .byte (IL k f)) := by
  refine Mt.body pn_iab ?_
  intro p e s m below meth c s₁ hx hby hml hown hnm hret hlk hZ X0 e0
  refine Go.cast (g' := (mkF m 0 #[rv x, rv b, .val .null, .unset, .unset] [])) (ef_iab m x b) ?_
  have N0 := Fr.nil n0
  have K0 := Keep.refl h0 [x]
  refine Go.st (T' := s₁) (g' := (mkF m 1 #[rv x, rv b, .val .null, .unset, .unset] [(.ref x)])) ?_ (fun _ kk_ => XS.aloadN X0.here hx rfl (hb hby diab_0) rfl rfl  kk_)
  obtain ⟨T1, X1, e1, st1⟩ := initO X0 hx hZ hown (hw _ (List.mem_of_getElem? (i := 20) rfl)) (hw _ (List.mem_of_getElem? (i := 21) rfl)) (hw _ (List.mem_of_getElem? (i := 22) rfl)) e0 (g := (mkF m 1 #[rv x, rv b, .val .null, .unset, .unset] [(.ref x)])) rfl (by rw [hml]; rfl) rfl (hb hby diab_1) (by decide) (W := 0) (by show 2 * 0 + _ ≤ _; exact Nat.le_of_eq rfl) (by decide)
  refine Go.st (T' := T1) (g' := (mkF m 4 #[rv x, rv b, .val .null, .unset, .unset] [])) ?_ st1
  refine Go.st (T' := T1) (g' := (mkF m 5 #[rv x, rv b, .val .null, .unset, .unset] [(.ref b)])) ?_ (fun _ kk_ => XS.aloadN X1.here hx rfl (hb hby diab_4) rfl rfl  kk_)
  refine Go.callV (y := (⟨"java/lang/AbstractStringBuilder", "getValue", "()[B"⟩ : MethodName)) (z := (⟨"java/lang/AbstractStringBuilder", "getValue", "()[B"⟩ : MethodName)) X1 hx hZ hown (hw _ (List.mem_of_getElem? (i := 135) rfl)) (hw _ (List.mem_of_getElem? (i := 136) rfl)) (notFace_of_selects (args := #[]) (mvT hZ (hw _ (List.mem_of_getElem? (i := 138) rfl)))) (hw _ (List.mem_of_getElem? (i := 138) rfl)) (hw _ (List.mem_of_getElem? (i := 137) rfl)) (hw _ (List.mem_of_getElem? (i := 90) rfl)) (hw _ (List.mem_of_getElem? (i := 139) rfl)) (by decide) 0 (rm_gva l Z a0 hw [] b d h0 Gv) e1 (by decide) (by decide) (by decide) (by decide) E_b (argsL := []) (rest := []) rfl (by rw [hml]; rfl) (lenOf pd__28_29_5bB rfl) rfl rfl (by show 2 * 0 + _ ≤ _; exact Nat.le_of_eq rfl) (hb hby diab_5) ?_
  rintro _ T2 L2 X2 ⟨rfl, e2, rfl⟩
  have N3 := Fr.app N0 (Fr.nil _)
  show Go p e below _ T2 (mkF m 8 #[rv x, rv b, .val .null, .unset, .unset] [(.ref d)])
  refine Go.st (T' := T2) (g' := (mkF m 10 #[rv x, rv b, .val .null, rv d, .unset] [(.ref b)])) ?_ (fun _ kk_ => XS.astoreN X2.here hx rfl (hb hby diab_8) rfl rfl (l' := #[rv x, rv b, .val .null, rv d, .unset]) rfl (XS.aloadN X2.here hx rfl (hb hby diab_9) rfl rfl  kk_))
  refine Go.callV (y := (⟨"java/lang/AbstractStringBuilder", "length", "()I"⟩ : MethodName)) (z := (⟨"java/lang/StringBuilder", "length", "()I"⟩ : MethodName)) X2 hx hZ hown (hw _ (List.mem_of_getElem? (i := 140) rfl)) (hw _ (List.mem_of_getElem? (i := 141) rfl)) (own_notFace (notFace_of_selects (args := #[]) (mvT hZ (hw _ (List.mem_of_getElem? (i := 113) rfl)))) (Cond.code_named (mvT (args := #[]) hZ (hw _ (List.mem_of_getElem? (i := 114) rfl)))) rfl) (hw _ (List.mem_of_getElem? (i := 143) rfl)) (hw _ (List.mem_of_getElem? (i := 144) rfl)) (hw _ (List.mem_of_getElem? (i := 82) rfl)) (hw _ (List.mem_of_getElem? (i := 145) rfl)) (by decide) 0 (rm_sle l Z a0 hw [] b k h0 E_b Gn) e2 (by decide) (by decide) (by decide) (by decide) E_b (argsL := []) (rest := []) rfl (by rw [hml]; rfl) (lenOf pd__28_29I rfl) rfl rfl (by show 2 * 0 + _ ≤ _; exact Nat.le_of_eq rfl) (hb hby diab_10) ?_
  rintro _ T4 L4 X4 ⟨rfl, e4, rfl⟩
  have N5 := Fr.app N3 (Fr.nil _)
  show Go p e below _ T4 (mkF m 13 #[rv x, rv b, .val .null, rv d, .unset] [(.int (Int32.ofNat k))])
  refine Go.st (T' := T4) (g' := (mkF m 16 #[rv x, rv b, .val .null, rv d, iv (Int32.ofNat k)] [(.ref b)])) ?_ (fun _ kk_ => XS.istore X4.here hx rfl (hb hby diab_13) rfl (l' := #[rv x, rv b, .val .null, rv d, iv (Int32.ofNat k)]) rfl (XS.aloadN X4.here hx rfl (hb hby diab_15) rfl rfl  kk_))
  refine Go.callV (y := (⟨"java/lang/AbstractStringBuilder", "isLatin1", "()Z"⟩ : MethodName)) (z := (⟨"java/lang/AbstractStringBuilder", "isLatin1", "()Z"⟩ : MethodName)) X4 hx hZ hown (hw _ (List.mem_of_getElem? (i := 148) rfl)) (hw _ (List.mem_of_getElem? (i := 116) rfl)) (notFace_of_selects (args := #[]) (mvT hZ (hw _ (List.mem_of_getElem? (i := 118) rfl)))) (hw _ (List.mem_of_getElem? (i := 118) rfl)) (hw _ (List.mem_of_getElem? (i := 117) rfl)) (hw _ (List.mem_of_getElem? (i := 90) rfl)) (hw _ (List.mem_of_getElem? (i := 119) rfl)) (by decide) 0 (rm_alt l Z a0 hw [] b n0 cS h0 Gc O0 Sc hcS) e4 (by decide) (by decide) (by decide) (by decide) E_b (argsL := []) (rest := []) rfl (by rw [hml]; rfl) (lenOf pd__28_29Z rfl) rfl rfl (by show 2 * 0 + _ ≤ _; exact Nat.le_of_eq rfl) (hb hby diab_16) ?_
  rintro _ T6 L6 X6 ⟨rfl, e6, rfl⟩
  have N7 := Fr.app N5 (Fr.nil _)
  show Go p e below _ T6 (mkF m 19 #[rv x, rv b, .val .null, rv d, iv (Int32.ofNat k)] [(.int (1 : Int32))])
  refine Go.st (T' := T6) (g' := (mkF m 24 #[rv x, rv b, .val .null, rv d, iv (Int32.ofNat k)] [(.int (0 : Int32)), (.ref x)])) ?_ (fun _ kk_ => XS.ifNo X6.here hx rfl (hb hby diab_19) rfl ((if0 _ _).trans (feq ((by decide) : ¬ ((1 : Int32) = (0 : Int32)))).1) (XS.aloadN X6.here hx rfl (hb hby diab_22) rfl rfl  (XS.iconst X6.here hx rfl (hb hby diab_23) kk_)))
  obtain ⟨T8, h8, X8, e8, W8, st8⟩ := putFN X6 hx hZ hown (hw _ (List.mem_of_getElem? (i := 35) rfl)) Via.refl e6 Fc E_x (Or.inr ⟨(hw _ (List.mem_of_getElem? (i := 36) rfl)), rfl, hnm⟩) (hw _ (List.mem_of_getElem? (i := 11) rfl)) (ty := .byte) (v' := (.int (0 : Int32))) (by decide) (by decide) (by decide) (g := (mkF m 24 #[rv x, rv b, .val .null, rv d, iv (Int32.ofNat k)] [(.int (0 : Int32)), (.ref x)])) rfl rfl (hb hby diab_24)
  have N9 := Fr.snoc X8 N7 g_x
  have O10 := O0.wr W8 g_x
  have f11 := Fc.same W8
  have K12 : Keep h0 h8 [x] := K0.wr W8 (Or.inl (List.mem_of_getElem? (i := 0) rfl))
  have Z13 : n0 ≤ h8.size := by rw [W8.size]; exact Z0
  refine Go.st (T' := T8) (g' := (mkF m 27 #[rv x, rv b, .val .null, rv d, iv (Int32.ofNat k)] [])) ?_ st8
  refine Go.st (T' := T8) (g' := (mkF m 32 #[rv x, rv b, .val .null, rv d, iv (Int32.ofNat k)] [(.int (Int32.ofNat k)), (.int (0 : Int32)), (.ref d), (.ref x)])) ?_ (fun _ kk_ => XS.aloadN X8.here hx rfl (hb hby diab_27) rfl rfl  (XS.aloadN X8.here hx rfl (hb hby diab_28) rfl rfl  (XS.iconst X8.here hx rfl (hb hby diab_29) (XS.iload X8.here hx rfl (hb hby diab_30) rfl  kk_))))
  have f14 := (V_d.other W8 (Ne.symm ne_x_d))
  refine Go.callS (y := (⟨"java/util/Arrays", "copyOfRange", "([BII)[B"⟩ : MethodName)) X8 hx hZ hown (hw _ (List.mem_of_getElem? (i := 149) rfl)) (hw _ (List.mem_of_getElem? (i := 150) rfl)) (hw _ (List.mem_of_getElem? (i := 151) rfl)) (hw _ (List.mem_of_getElem? (i := 152) rfl)) (by decide) 1 (rm_cor l Z a0 hw [] d k f n0 h8 Z13 hk f14) e8 (by decide) (by decide) (by decide) (by decide) (argsL := [(.ref d), (.int (0 : Int32)), (.int (Int32.ofNat k))]) (rest := [(.ref x)]) rfl (by rw [hml]; rfl) (lenOf pd__28_5bBII_29_5bB rfl) rfl rfl (by show 2 * 0 + _ ≤ _; exact Nat.le_of_eq rfl) (hb hby diab_32) ?_
  rintro _ T15 L15 X15 ⟨t, rfl, N15, K15, tz, V15⟩
  have N16 := Fr.app N9 N15
  have O17 := O10.keep K15 all0
  have Z18 : n0 ≤ T15.heap.size := Nat.le_trans Z13 K15.1
  have K19 : Keep h0 T15.heap [x] := K12.trans K15 all0
  show Go p e below _ T15 (mkF m 35 #[rv x, rv b, .val .null, rv d, iv (Int32.ofNat k)] [(.ref t), (.ref x)])
  have ne_x_t : x ≠ t := Nat.ne_of_lt (Nat.lt_of_lt_of_le (E_x.keep K12).lt tz)
  have tz0 : h0.size ≤ t := Nat.le_trans K12.1 tz
  have f20 := ((Fv.other W8 (Or.inr (slot_ne (C := "java/lang/String") (Or.inr (hw _ (List.mem_of_getElem? (i := 38) rfl))) (Or.inr (hw _ (List.mem_of_getElem? (i := 36) rfl))) (by decide) (t := (.array .byte)) (t' := .byte) (by decide) (by decide)))).keep K15 nin0)
  have f21 := ((E_x.wr W8).keep K15)
  obtain ⟨T22, h22, X22, e22, W22, st22⟩ := putF X15 hx hZ hown (host := "") (Or.inl (hw _ (List.mem_of_getElem? (i := 37) rfl))) Via.refl rfl f20 f21 (Or.inr ⟨(hw _ (List.mem_of_getElem? (i := 38) rfl)), rfl, hnm⟩) (hw _ (List.mem_of_getElem? (i := 11) rfl)) (ty := (.array .byte)) (by decide) rfl rfl (g := (mkF m 35 #[rv x, rv b, .val .null, rv d, iv (Int32.ofNat k)] [(.ref t), (.ref x)])) rfl rfl (hb hby diab_35)
  have N23 := Fr.snoc X22 N16 g_x
  have O24 := O17.wr W22 g_x
  have f25 := f20.same W22
  have K26 : Keep h0 h22 [x] := K19.wr W22 (Or.inl (List.mem_of_getElem? (i := 0) rfl))
  have Z27 : n0 ≤ h22.size := by rw [W22.size]; exact Z18
  refine Go.st (T' := T22) (g' := (mkF m 38 #[rv x, rv b, .val .null, rv d, iv (Int32.ofNat k)] [])) ?_ st22
  refine Go.st (T' := T22) (g' := (mkF m 97 #[rv x, rv b, .val .null, rv d, iv (Int32.ofNat k)] [])) ?_ (fun _ kk_ => XS.goto X22.here hx rfl (pc0 := 38) (pc' := 97) rfl (hb hby diab_38) (by decide) (by decide) kk_)
  have f28 := ((f11.keep K15 nin0).other W22 (Or.inr (slot_ne (C := "java/lang/String") (Or.inr (hw _ (List.mem_of_getElem? (i := 36) rfl))) (Or.inr (hw _ (List.mem_of_getElem? (i := 38) rfl))) (by decide) (t := .byte) (t' := (.array .byte)) (by decide) (by decide))))
  have f29 := (V15.other W22 (Ne.symm ne_x_t))
  refine Go.retV X22 hx hlk hret (hb hby diab_97) (by decide) (by decide) ?_
  try rw [e22]
  exact ⟨rfl, N23, K26, f28, t, tz0, f25, f29⟩
theorem disb_0 : decode jdk_42_method_53_code 0 = .ok (.aload_n 0, 1) := by decide +kernel
theorem disb_1 : decode jdk_42_method_53_code 1 = .ok (.aload_n 1, 1) := by decide +kernel
theorem disb_2 : decode jdk_42_method_53_code 2 = .ok (.aconst_null, 1) := by decide +kernel
theorem disb_3 : decode jdk_42_method_53_code 3 = .ok (.invokespecial 489, 3) := by decide +kernel
theorem disb_6 : decode jdk_42_method_53_code 6 = .ok (.return_, 1) := by decide +kernel
theorem pn_isb : plainFor (⟨"java/lang/String", "<init>", "(Ljava/lang/StringBuilder;)V"⟩ : MethodName) = true := by first | exact plainFor_of_name (by first | (simp [plainName, overriddenIn]; done) | decide +kernel) | decide +kernel
theorem ef_isb (m : MethodId) (x0 : Addr) (x1 : Addr) : entryFrame m #[(.ref x0), (.ref x1)] 2 = mkF m 0 #[rv x0, rv x1] [] := by first | (simp [entryFrame, mkF, argsToLocals, Value.category]; done) | rfl
set_option maxRecDepth 65536 in
set_option maxHeartbeats 40000000 in
theorem rm_isb (l : Launch) (Z : State) (a0 : Array Value) (hw : ∀ d ∈ tables_1, d.before a0 Z = true) (ws : List Jvm.Cond) (x b d : Addr) (k : Nat) (f : Nat → Int32) (n0 : Nat) (cS : Int32) (h0 : Heap) (Z0 : n0 ≤ h0.size) (hk : k < 16) (E_x : Exa Z h0 x "java/lang/String") (Fv : Fld Z h0 x "java/lang/String" "value" "[B" .null) (Fc : Fld Z h0 x "java/lang/String" "coder" "B" (.int (0 : Int32))) (g_x : n0 ≤ x) (E_b : Exa Z h0 b "java/lang/StringBuilder") (Gv : Fld Z h0 b "java/lang/AbstractStringBuilder" "value" "[B" (.ref d)) (Gc : Fld Z h0 b "java/lang/AbstractStringBuilder" "coder" "B" (.int (0 : Int32))) (Gn : Fld Z h0 b "java/lang/AbstractStringBuilder" "count" "I" (.int (Int32.ofNat k))) (V_d : Ary Z h0 d .byte (IL 16 f)) (g_b : n0 ≤ b) (g_d : n0 ≤ d) (ne_b_d : b ≠ d) (O0 : Old Z n0 h0) (Sc : Sta Z Z.heap "java/lang/String" "COMPACT_STRINGS" "Z" (.int cS)) (hcS : ¬ (cS = (0 : Int32))) (ne_x_b : x ≠ b) (ne_x_d : x ≠ d) :
    Mt l Z (⟨"java/lang/String", "<init>", "(Ljava/lang/StringBuilder;)V"⟩ : MethodName) jdk_42_method_53_code 2 none ws ({ frames := 4, cells := 1, slots := 16, locals := 107 } : Room) #[(.ref x), (.ref b)] h0 (fun v h L => v = none ∧ Fr n0 L ∧ Keep h0 h [x] ∧ Fld Z h x "java/lang/String" "coder" "B" (.int (0 : Int32)) ∧ ∃ t, h0.size ≤ t ∧ Fld Z h x "java/lang/String" "value" "[B" (.ref t) ∧ Ary Z h t .byte (IL k f)) := by
  refine Mt.body pn_isb ?_
  intro p e s m below meth c s₁ hx hby hml hown hnm hret hlk hZ X0 e0
  refine Go.cast (g' := (mkF m 0 #[rv x, rv b] [])) (ef_isb m x b) ?_
  have N0 := Fr.nil n0
  have K0 := Keep.refl h0 [x]
  refine Go.st (T' := s₁) (g' := (mkF m 3 #[rv x, rv b] [.null, (.ref b), (.ref x)])) ?_ (fun _ kk_ => XS.aloadN X0.here hx rfl (hb hby disb_0) rfl rfl  (XS.aloadN X0.here hx rfl (hb hby disb_1) rfl rfl  (XS.aconstNull X0.here hx rfl (hb hby disb_2) kk_)))
  refine Go.callN (y := (⟨"java/lang/String", "<init>", "(Ljava/lang/AbstractStringBuilder;Ljava/lang/Void;)V"⟩ : MethodName)) X0 hx hZ rfl hown (hw _ (List.mem_of_getElem? (i := 132) rfl)) (hw _ (List.mem_of_getElem? (i := 133) rfl)) (hw _ (List.mem_of_getElem? (i := 12) rfl)) (hw _ (List.mem_of_getElem? (i := 134) rfl)) (by decide) 0 (rm_iab l Z a0 hw [] x b d k f n0 cS h0 Z0 hk E_x Fv Fc g_x E_b Gv Gc Gn V_d g_b g_d ne_b_d O0 Sc hcS ne_x_b ne_x_d) e0 (by decide) (by decide) (by decide) (by decide) (a := x) (argsL := [(.ref b), .null]) (rest := []) rfl (by rw [hml]; rfl) (lenOf pd__28Ljava_2flang_2fAbstractStringBuilder_3bLjava_2flang_2fVoid_3b_29V rfl) rfl rfl (by show 2 * 0 + _ ≤ _; exact Nat.le_of_eq rfl) (hb hby disb_3) ?_
  rintro _ T1 L1 X1 ⟨rfl, N1, K1, hq1⟩
  have N2 := Fr.app N0 N1
  have Z3 : n0 ≤ T1.heap.size := Nat.le_trans Z0 K1.1
  have K4 : Keep h0 T1.heap [x] := K0.trans K1 (allS (P := fun z_ => z_ ∈ [x] ∨ h0.size ≤ z_) (Or.inl (List.mem_of_getElem? (i := 0) rfl)) all0)
  show Go p e below _ T1 (mkF m 6 #[rv x, rv b] [])
  refine Go.retV X1 hx hlk hret (hb hby disb_6) (by decide) (by decide) ?_
  exact ⟨rfl, N2, K4, hq1⟩
theorem dtos_0 : decode jdk_67_method_42_code 0 = .ok (.new 18, 3) := by decide +kernel
theorem dtos_3 : decode jdk_67_method_42_code 3 = .ok (.dup, 1) := by decide +kernel
theorem dtos_4 : decode jdk_67_method_42_code 4 = .ok (.aload_n 0, 1) := by decide +kernel
theorem dtos_5 : decode jdk_67_method_42_code 5 = .ok (.invokespecial 137, 3) := by decide +kernel
theorem dtos_8 : decode jdk_67_method_42_code 8 = .ok (.areturn, 1) := by decide +kernel
theorem pn_tos : plainFor (⟨"java/lang/StringBuilder", "toString", "()Ljava/lang/String;"⟩ : MethodName) = true := by first | exact plainFor_of_name (by first | (simp [plainName, overriddenIn]; done) | decide +kernel) | decide +kernel
theorem ef_tos (m : MethodId) (x0 : Addr) : entryFrame m #[(.ref x0)] 1 = mkF m 0 #[rv x0] [] := by first | (simp [entryFrame, mkF, argsToLocals, Value.category]; done) | rfl
set_option maxRecDepth 65536 in
set_option maxHeartbeats 40000000 in
theorem rm_tos (l : Launch) (Z : State) (a0 : Array Value) (hw : ∀ d ∈ tables_1, d.before a0 Z = true) (ws : List Jvm.Cond) (b d : Addr) (k : Nat) (f : Nat → Int32) (n0 : Nat) (cS : Int32) (h0 : Heap) (Z0 : n0 ≤ h0.size) (hk : k < 16) (E_b : Exa Z h0 b "java/lang/StringBuilder") (Gv : Fld Z h0 b "java/lang/AbstractStringBuilder" "value" "[B" (.ref d)) (Gc : Fld Z h0 b "java/lang/AbstractStringBuilder" "coder" "B" (.int (0 : Int32))) (Gn : Fld Z h0 b "java/lang/AbstractStringBuilder" "count" "I" (.int (Int32.ofNat k))) (V_d : Ary Z h0 d .byte (IL 16 f)) (g_b : n0 ≤ b) (g_d : n0 ≤ d) (ne_b_d : b ≠ d) (O0 : Old Z n0 h0) (Sc : Sta Z Z.heap "java/lang/String" "COMPACT_STRINGS" "Z" (.int cS)) (hcS : ¬ (cS = (0 : Int32))) :
    Mt l Z (⟨"java/lang/StringBuilder", "toString", "()Ljava/lang/String;"⟩ : MethodName) jdk_67_method_42_code 1 (some (.object "java/lang/String")) ws ({ frames := 5, cells := 2, slots := 20, locals := 121 } : Room) #[(.ref b)] h0 (fun v h L => ∃ x t, v = some (.ref x) ∧ Fr n0 L ∧ Keep h0 h [] ∧ h0.size ≤ x ∧ Exa Z h x "java/lang/String" ∧ Fld Z h x "java/lang/String" "coder" "B" (.int (0 : Int32)) ∧ Fld Z h x "java/lang/String" "value" "[B" (.ref t) ∧ Ary Z h t .byte (IL k f)) := by
  refine Mt.body pn_tos ?_
  intro p e s m below meth c s₁ hx hby hml hown hnm hret hlk hZ X0 e0
  refine Go.cast (g' := (mkF m 0 #[rv b] [])) (ef_tos m b) ?_
  have N0 := Fr.nil n0
  have K0 := Keep.refl h0 ([] : List Addr)
  obtain ⟨T1, h1, X1, e1, E1, A1, D1, -, st1⟩ := newO X0 hx hZ hown (hw _ (List.mem_of_getElem? (i := 128) rfl)) (hw _ (List.mem_of_getElem? (i := 11) rfl)) (hw _ (List.mem_of_getElem? (i := 12) rfl)) e0 (g := (mkF m 0 #[rv b] [])) rfl (hb hby dtos_0) (by decide) (by decide)
  obtain ⟨b1, g1⟩ : ∃ z, z = h0.size := ⟨_, rfl⟩
  rw [← g1] at A1 D1 st1
  have ne_b_b1 : b ≠ b1 := Nat.ne_of_lt (Nat.lt_of_lt_of_eq E_b.lt g1.symm)
  have ne_d_b1 : d ≠ b1 := Nat.ne_of_lt (Nat.lt_of_lt_of_eq V_d.lt g1.symm)
  have g_b1 : n0 ≤ b1 := Nat.le_trans Z0 (Nat.le_of_eq g1.symm)
  have sz_b1 : h0.size ≤ b1 := Nat.le_trans K0.1 (Nat.le_of_eq g1.symm)
  have O2 := O0.ext E1
  have Z3 : n0 ≤ h1.size := Nat.le_trans Z0 E1.1
  have K4 : Keep h0 h1 ([] : List Addr) := K0.ext E1
  have f5 : Fld Z h1 b1 "java/lang/String" "coder" "B" (.int (0 : Int32)) := D1 (Or.inr (hw _ (List.mem_of_getElem? (i := 36) rfl))) (ty := .byte) (by decide)
  have f6 : Fld Z h1 b1 "java/lang/String" "value" "[B" .null := D1 (Or.inr (hw _ (List.mem_of_getElem? (i := 38) rfl))) (ty := (.array .byte)) (by decide)
  refine Go.st (T' := T1) (g' := (mkF m 3 #[rv b] [(.ref b1)])) ?_ st1
  refine Go.st (T' := T1) (g' := (mkF m 5 #[rv b] [(.ref b), (.ref b1), (.ref b1)])) ?_ (fun _ kk_ => XS.dup X1.here hx rfl (hb hby dtos_3) rfl rfl (XS.aloadN X1.here hx rfl (hb hby dtos_4) rfl rfl  kk_))
  have f7 := (E_b.ext E1)
  have f8 := (Gv.ext E1)
  have f9 := (Gc.ext E1)
  have f10 := (Gn.ext E1)
  have f11 := (V_d.ext E1)
  refine Go.callN (y := (⟨"java/lang/String", "<init>", "(Ljava/lang/StringBuilder;)V"⟩ : MethodName)) X1 hx hZ rfl hown (hw _ (List.mem_of_getElem? (i := 129) rfl)) (hw _ (List.mem_of_getElem? (i := 130) rfl)) (hw _ (List.mem_of_getElem? (i := 12) rfl)) (hw _ (List.mem_of_getElem? (i := 131) rfl)) (by decide) 1 (rm_isb l Z a0 hw [] b1 b d k f n0 cS h1 Z3 hk A1 f6 f5 g_b1 f7 f8 f9 f10 f11 g_b g_d ne_b_d O2 Sc hcS (Ne.symm ne_b_b1) (Ne.symm ne_d_b1)) e1 (by decide) (by decide) (by decide) (by decide) (a := b1) (argsL := [(.ref b)]) (rest := [(.ref b1)]) rfl (by rw [hml]; rfl) (lenOf pd__28Ljava_2flang_2fStringBuilder_3b_29V rfl) rfl rfl (by show 2 * 0 + _ ≤ _; exact Nat.le_of_eq rfl) (hb hby dtos_5) ?_
  rintro _ T12 L12 X12 ⟨rfl, N12, K12, Fc12, t, tz, Fv12, V12⟩
  have N13 := Fr.app N0 N12
  have O14 := O2.keep K12 (allS (P := fun z_ => n0 ≤ z_) g_b1 all0)
  have Z15 : n0 ≤ T12.heap.size := Nat.le_trans Z3 K12.1
  have K16 : Keep h0 T12.heap ([] : List Addr) := K4.trans K12 (allS (P := fun z_ => z_ ∈ ([] : List Addr) ∨ h0.size ≤ z_) (Or.inr sz_b1) all0)
  show Go p e below _ T12 (mkF m 8 #[rv b] [(.ref b1)])
  have f17 := (A1.keep K12)
  refine Go.retA X12 hx hlk hret rfl rfl (hb hby dtos_8) (by decide) (by decide) ?_
  exact ⟨b1, t, rfl, N13, K16, sz_b1, f17, Fc12, Fv12, V12⟩
theorem ddrw_0 : decode method_2_code 0 = .ok (.lload_n 0, 1) := by decide +kernel
theorem ddrw_1 : decode method_2_code 1 = .ok (.bipush 10, 2) := by decide +kernel
theorem ddrw_3 : decode method_2_code 3 = .ok (.iload_n 2, 1) := by decide +kernel
theorem ddrw_4 : decode method_2_code 4 = .ok (.imul, 1) := by decide +kernel
theorem ddrw_5 : decode method_2_code 5 = .ok (.lushr, 1) := by decide +kernel
theorem ddrw_6 : decode method_2_code 6 = .ok (.ldc2_w 7, 3) := by decide +kernel
theorem ddrw_9 : decode method_2_code 9 = .ok (.land, 1) := by decide +kernel
theorem ddrw_10 : decode method_2_code 10 = .ok (.l2i, 1) := by decide +kernel
theorem ddrw_11 : decode method_2_code 11 = .ok (.istore_n 3, 1) := by decide +kernel
theorem ddrw_12 : decode method_2_code 12 = .ok (.iload_n 3, 1) := by decide +kernel
theorem ddrw_13 : decode method_2_code 13 = .ok (.iconst 3, 1) := by decide +kernel
theorem ddrw_14 : decode method_2_code 14 = .ok (.iand, 1) := by decide +kernel
theorem ddrw_15 : decode method_2_code 15 = .ok (.istore 4, 2) := by decide +kernel
theorem ddrw_17 : decode method_2_code 17 = .ok (.iload 4, 2) := by decide +kernel
theorem ddrw_19 : decode method_2_code 19 = .ok (.ifCond .ne 6, 3) := by decide +kernel
theorem ddrw_22 : decode method_2_code 22 = .ok (.bipush 34, 2) := by decide +kernel
theorem ddrw_24 : decode method_2_code 24 = .ok (.ireturn, 1) := by decide +kernel
theorem ddrw_25 : decode method_2_code 25 = .ok (.iload 4, 2) := by decide +kernel
theorem ddrw_27 : decode method_2_code 27 = .ok (.iconst 1, 1) := by decide +kernel
theorem ddrw_28 : decode method_2_code 28 = .ok (.if_icmp .ne 6, 3) := by decide +kernel
theorem ddrw_31 : decode method_2_code 31 = .ok (.bipush 92, 2) := by decide +kernel
theorem ddrw_33 : decode method_2_code 33 = .ok (.ireturn, 1) := by decide +kernel
theorem ddrw_34 : decode method_2_code 34 = .ok (.iload_n 3, 1) := by decide +kernel
theorem ddrw_35 : decode method_2_code 35 = .ok (.iconst 2, 1) := by decide +kernel
theorem ddrw_36 : decode method_2_code 36 = .ok (.iushr, 1) := by decide +kernel
theorem ddrw_37 : decode method_2_code 37 = .ok (.sipush 255, 3) := by decide +kernel
theorem ddrw_40 : decode method_2_code 40 = .ok (.iand, 1) := by decide +kernel
theorem ddrw_41 : decode method_2_code 41 = .ok (.i2c, 1) := by decide +kernel
theorem ddrw_42 : decode method_2_code 42 = .ok (.ireturn, 1) := by decide +kernel
theorem pn_drw : plainFor (⟨"com/example/tidewire/tidewire/extender/ManifestHeaderUnquotePinLaw", "draw", "(JI)C"⟩ : MethodName) = true := by first | exact plainFor_of_name (by first | (simp [plainName, overriddenIn]; done) | decide +kernel) | decide +kernel
theorem ef_drw (m : MethodId) (x0 : Int64) (x1 : Int32) : entryFrame m #[(.long x0), (.int x1)] 5 = mkF m 0 #[jv x0, .second, iv x1, .unset, .unset] [] := by first | (simp [entryFrame, mkF, argsToLocals, Value.category]; done) | rfl
set_option maxRecDepth 65536 in
set_option maxHeartbeats 40000000 in
theorem rm_drw (l : Launch) (Z : State) (a0 : Array Value) (hw : ∀ d ∈ tables_1, d.before a0 Z = true) (ws : List Jvm.Cond) (x : Int64) (k : Int32) (h0 : Heap)  :
    Mt l Z (⟨"com/example/tidewire/tidewire/extender/ManifestHeaderUnquotePinLaw", "draw", "(JI)C"⟩ : MethodName) method_2_code 5 (some .char) ws ({ frames := 0, cells := 0, slots := 0, locals := 0 } : Room) #[(.long x), (.int k)] h0 (fun v h L => ∃ d, d < 256 ∧ v = some (.int (Int32.ofNat d)) ∧ h = h0 ∧ L = []) := by
  refine Mt.body pn_drw ?_
  intro p e s m below meth c s₁ hx hby hml hown hnm hret hlk hZ X0 e0
  refine Go.cast (g' := (mkF m 0 #[jv x, .second, iv k, .unset, .unset] [])) (ef_drw m x k) ?_
  have N0 := Fr.nil 0
  refine Go.st (T' := s₁) (g' := (mkF m 11 #[jv x, .second, iv k, .unset, .unset] [(.int ((((x.toUInt64 >>> (((10 : Int32) * k) &&& 0x3f).toInt64.toUInt64).toInt64) &&& (1023 : Int64)).toInt32))])) ?_ (fun _ kk_ => XS.lloadN X0.here hx rfl (hb hby ddrw_0) rfl  (XS.bipush X0.here hx rfl (hb hby ddrw_1) (XS.iloadN X0.here hx rfl (hb hby ddrw_3) rfl  (XS.imul X0.here hx rfl (hb hby ddrw_4) rfl (XS.lushr X0.here hx rfl (hb hby ddrw_5) rfl (X0.ldc2Long hx hown (mvT hZ (hw _ (List.mem_of_getElem? (i := 6) rfl))) (g := (mkF m 6 #[jv x, .second, iv k, .unset, .unset] [(.long ((x.toUInt64 >>> (((10 : Int32) * k) &&& 0x3f).toInt64.toUInt64).toInt64))])) rfl (hb hby ddrw_6) _ (XS.land X0.here hx rfl (hb hby ddrw_9) rfl (XS.l2i X0.here hx rfl (hb hby ddrw_10) rfl kk_))))))))
  obtain ⟨cd, hcd⟩ : ∃ z, z = ((((x.toUInt64 >>> (((10 : Int32) * k) &&& 0x3f).toInt64.toUInt64).toInt64) &&& (1023 : Int64)).toInt32) := ⟨_, rfl⟩
  rw [← hcd]
  show Go p e below _ s₁ (mkF m 11 #[jv x, .second, iv k, .unset, .unset] [(.int cd)])
  refine Go.st (T' := s₁) (g' := (mkF m 19 #[jv x, .second, iv k, iv cd, iv (cd &&& (3 : Int32))] [(.int (cd &&& (3 : Int32)))])) ?_ (fun _ kk_ => XS.istoreN X0.here hx rfl (hb hby ddrw_11) rfl (l' := #[jv x, .second, iv k, iv cd, .unset]) rfl (XS.iloadN X0.here hx rfl (hb hby ddrw_12) rfl  (XS.iconst X0.here hx rfl (hb hby ddrw_13) (XS.iand X0.here hx rfl (hb hby ddrw_14) rfl (XS.istore X0.here hx rfl (hb hby ddrw_15) rfl (l' := #[jv x, .second, iv k, iv cd, iv (cd &&& (3 : Int32))]) rfl (XS.iload X0.here hx rfl (hb hby ddrw_17) rfl  kk_))))))
  by_cases ha : (cd &&& (3 : Int32)) = (0 : Int32)
  ·
    refine Go.st (T' := s₁) (g' := (mkF m 24 #[jv x, .second, iv k, iv cd, iv (cd &&& (3 : Int32))] [(.int (34 : Int32))])) ?_ (fun _ kk_ => XS.ifNo X0.here hx rfl (hb hby ddrw_19) rfl ((if0 _ _).trans (teq (ha : (cd &&& (3 : Int32)) = (0 : Int32))).2) (XS.bipush X0.here hx rfl (hb hby ddrw_22) kk_))
    refine Go.retN X0 hx hlk (t := .char) hret (by simp) (z' := (34 : Int32)) (by decide) (hb hby ddrw_24) (by decide) (by decide) ?_
    try rw [e0]
    exact ⟨34, by decide, rfl, rfl, rfl⟩
  ·
    refine Go.st (T' := s₁) (g' := (mkF m 28 #[jv x, .second, iv k, iv cd, iv (cd &&& (3 : Int32))] [(.int (1 : Int32)), (.int (cd &&& (3 : Int32)))])) ?_ (fun _ kk_ => XS.ifYes X0.here hx rfl (pc0 := 19) (pc' := 25) rfl (hb hby ddrw_19) rfl ((if0 _ _).trans (feq (ha : ¬ ((cd &&& (3 : Int32)) = (0 : Int32)))).2) (by decide) (by decide) (XS.iload X0.here hx rfl (hb hby ddrw_25) rfl  (XS.iconst X0.here hx rfl (hb hby ddrw_27) kk_)))
    by_cases hbb : (cd &&& (3 : Int32)) = (1 : Int32)
    ·
      refine Go.st (T' := s₁) (g' := (mkF m 33 #[jv x, .second, iv k, iv cd, iv (cd &&& (3 : Int32))] [(.int (92 : Int32))])) ?_ (fun _ kk_ => XS.icmpNo X0.here hx rfl (hb hby ddrw_28) rfl (teq (hbb : (cd &&& (3 : Int32)) = (1 : Int32))).2 (XS.bipush X0.here hx rfl (hb hby ddrw_31) kk_))
      refine Go.retN X0 hx hlk (t := .char) hret (by simp) (z' := (92 : Int32)) (by decide) (hb hby ddrw_33) (by decide) (by decide) ?_
      try rw [e0]
      exact ⟨92, by decide, rfl, rfl, rfl⟩
    ·
      refine Go.st (T' := s₁) (g' := (mkF m 41 #[jv x, .second, iv k, iv cd, iv (cd &&& (3 : Int32))] [(.int (((cd.toUInt32 >>> ((2 : Int32) &&& 31).toUInt32).toInt32) &&& (255 : Int32)))])) ?_ (fun _ kk_ => XS.icmpYes X0.here hx rfl (pc0 := 28) (pc' := 34) rfl (hb hby ddrw_28) rfl (feq (hbb : ¬ ((cd &&& (3 : Int32)) = (1 : Int32)))).2 (by decide) (by decide) (XS.iloadN X0.here hx rfl (hb hby ddrw_34) rfl  (XS.iconst X0.here hx rfl (hb hby ddrw_35) (XS.iushr X0.here hx rfl (hb hby ddrw_36) rfl (XS.sipush X0.here hx rfl (hb hby ddrw_37) (XS.iand X0.here hx rfl (hb hby ddrw_40) rfl kk_))))))
      obtain ⟨d, hd, ed⟩ := own_low8 ((cd.toUInt32 >>> ((2 : Int32) &&& 31).toUInt32).toInt32)
      rw [ed]
      show Go p e below _ s₁ (mkF m 41 #[jv x, .second, iv k, iv cd, iv (cd &&& (3 : Int32))] [(.int (Int32.ofNat d))])
      refine Go.st (T' := s₁) (g' := (mkF m 42 #[jv x, .second, iv k, iv cd, iv (cd &&& (3 : Int32))] [(.int ((Int32.ofNat d).toUInt32.toUInt16.toUInt32.toInt32))])) ?_ (fun _ kk_ => XS.i2c X0.here hx rfl (hb hby ddrw_41) rfl kk_)
      rw [ch_back _ hd]
      show Go p e below _ s₁ (mkF m 42 #[jv x, .second, iv k, iv cd, iv (cd &&& (3 : Int32))] [(.int (Int32.ofNat d))])
      refine Go.retN X0 hx hlk (t := .char) hret (by simp) (z' := (Int32.ofNat d)) (ch_nar _ hd) (hb hby ddrw_42) (by decide) (by decide) ?_
      try rw [e0]
      exact ⟨d, hd, rfl, rfl, rfl⟩
theorem dmak_0 : decode method_3_code 0 = .ok (.iload_n 1, 1) := by decide +kernel
theorem dmak_1 : decode method_3_code 1 = .ok (.ifCond .ne 14, 3) := by decide +kernel
theorem dmak_4 : decode method_3_code 4 = .ok (.new 9, 3) := by decide +kernel
theorem dmak_7 : decode method_3_code 7 = .ok (.dup, 1) := by decide +kernel
theorem dmak_8 : decode method_3_code 8 = .ok (.iconst 0, 1) := by decide +kernel
theorem dmak_9 : decode method_3_code 9 = .ok (.newarray .char, 2) := by decide +kernel
theorem dmak_11 : decode method_3_code 11 = .ok (.invokespecial 11, 3) := by decide +kernel
theorem dmak_14 : decode method_3_code 14 = .ok (.areturn, 1) := by decide +kernel
theorem dmak_15 : decode method_3_code 15 = .ok (.iload_n 1, 1) := by decide +kernel
theorem dmak_16 : decode method_3_code 16 = .ok (.iconst 1, 1) := by decide +kernel
theorem dmak_17 : decode method_3_code 17 = .ok (.if_icmp .ne 20, 3) := by decide +kernel
theorem dmak_20 : decode method_3_code 20 = .ok (.new 9, 3) := by decide +kernel
theorem dmak_23 : decode method_3_code 23 = .ok (.dup, 1) := by decide +kernel
theorem dmak_24 : decode method_3_code 24 = .ok (.iconst 1, 1) := by decide +kernel
theorem dmak_25 : decode method_3_code 25 = .ok (.newarray .char, 2) := by decide +kernel
theorem dmak_27 : decode method_3_code 27 = .ok (.dup, 1) := by decide +kernel
theorem dmak_28 : decode method_3_code 28 = .ok (.iconst 0, 1) := by decide +kernel
theorem dmak_29 : decode method_3_code 29 = .ok (.aload_n 0, 1) := by decide +kernel
theorem dmak_30 : decode method_3_code 30 = .ok (.iconst 0, 1) := by decide +kernel
theorem dmak_31 : decode method_3_code 31 = .ok (.caload, 1) := by decide +kernel
theorem dmak_32 : decode method_3_code 32 = .ok (.castore, 1) := by decide +kernel
theorem dmak_33 : decode method_3_code 33 = .ok (.invokespecial 11, 3) := by decide +kernel
theorem dmak_36 : decode method_3_code 36 = .ok (.areturn, 1) := by decide +kernel
theorem dmak_37 : decode method_3_code 37 = .ok (.iload_n 1, 1) := by decide +kernel
theorem dmak_38 : decode method_3_code 38 = .ok (.iconst 2, 1) := by decide +kernel
theorem dmak_39 : decode method_3_code 39 = .ok (.if_icmp .ne 26, 3) := by decide +kernel
theorem dmak_42 : decode method_3_code 42 = .ok (.new 9, 3) := by decide +kernel
theorem dmak_45 : decode method_3_code 45 = .ok (.dup, 1) := by decide +kernel
theorem dmak_46 : decode method_3_code 46 = .ok (.iconst 2, 1) := by decide +kernel
theorem dmak_47 : decode method_3_code 47 = .ok (.newarray .char, 2) := by decide +kernel
theorem dmak_49 : decode method_3_code 49 = .ok (.dup, 1) := by decide +kernel
theorem dmak_50 : decode method_3_code 50 = .ok (.iconst 0, 1) := by decide +kernel
theorem dmak_51 : decode method_3_code 51 = .ok (.aload_n 0, 1) := by decide +kernel
theorem dmak_52 : decode method_3_code 52 = .ok (.iconst 0, 1) := by decide +kernel
theorem dmak_53 : decode method_3_code 53 = .ok (.caload, 1) := by decide +kernel
theorem dmak_54 : decode method_3_code 54 = .ok (.castore, 1) := by decide +kernel
theorem dmak_55 : decode method_3_code 55 = .ok (.dup, 1) := by decide +kernel
theorem dmak_56 : decode method_3_code 56 = .ok (.iconst 1, 1) := by decide +kernel
theorem dmak_57 : decode method_3_code 57 = .ok (.aload_n 0, 1) := by decide +kernel
theorem dmak_58 : decode method_3_code 58 = .ok (.iconst 1, 1) := by decide +kernel
theorem dmak_59 : decode method_3_code 59 = .ok (.caload, 1) := by decide +kernel
theorem dmak_60 : decode method_3_code 60 = .ok (.castore, 1) := by decide +kernel
theorem dmak_61 : decode method_3_code 61 = .ok (.invokespecial 11, 3) := by decide +kernel
theorem dmak_64 : decode method_3_code 64 = .ok (.areturn, 1) := by decide +kernel
theorem dmak_65 : decode method_3_code 65 = .ok (.iload_n 1, 1) := by decide +kernel
theorem dmak_66 : decode method_3_code 66 = .ok (.iconst 3, 1) := by decide +kernel
theorem dmak_67 : decode method_3_code 67 = .ok (.if_icmp .ne 32, 3) := by decide +kernel
theorem dmak_70 : decode method_3_code 70 = .ok (.new 9, 3) := by decide +kernel
theorem dmak_73 : decode method_3_code 73 = .ok (.dup, 1) := by decide +kernel
theorem dmak_74 : decode method_3_code 74 = .ok (.iconst 3, 1) := by decide +kernel
theorem dmak_75 : decode method_3_code 75 = .ok (.newarray .char, 2) := by decide +kernel
theorem dmak_77 : decode method_3_code 77 = .ok (.dup, 1) := by decide +kernel
theorem dmak_78 : decode method_3_code 78 = .ok (.iconst 0, 1) := by decide +kernel
theorem dmak_79 : decode method_3_code 79 = .ok (.aload_n 0, 1) := by decide +kernel
theorem dmak_80 : decode method_3_code 80 = .ok (.iconst 0, 1) := by decide +kernel
theorem dmak_81 : decode method_3_code 81 = .ok (.caload, 1) := by decide +kernel
theorem dmak_82 : decode method_3_code 82 = .ok (.castore, 1) := by decide +kernel
theorem dmak_83 : decode method_3_code 83 = .ok (.dup, 1) := by decide +kernel
theorem dmak_84 : decode method_3_code 84 = .ok (.iconst 1, 1) := by decide +kernel
theorem dmak_85 : decode method_3_code 85 = .ok (.aload_n 0, 1) := by decide +kernel
theorem dmak_86 : decode method_3_code 86 = .ok (.iconst 1, 1) := by decide +kernel
theorem dmak_87 : decode method_3_code 87 = .ok (.caload, 1) := by decide +kernel
theorem dmak_88 : decode method_3_code 88 = .ok (.castore, 1) := by decide +kernel
theorem dmak_89 : decode method_3_code 89 = .ok (.dup, 1) := by decide +kernel
theorem dmak_90 : decode method_3_code 90 = .ok (.iconst 2, 1) := by decide +kernel
theorem dmak_91 : decode method_3_code 91 = .ok (.aload_n 0, 1) := by decide +kernel
theorem dmak_92 : decode method_3_code 92 = .ok (.iconst 2, 1) := by decide +kernel
theorem dmak_93 : decode method_3_code 93 = .ok (.caload, 1) := by decide +kernel
theorem dmak_94 : decode method_3_code 94 = .ok (.castore, 1) := by decide +kernel
theorem dmak_95 : decode method_3_code 95 = .ok (.invokespecial 11, 3) := by decide +kernel
theorem dmak_98 : decode method_3_code 98 = .ok (.areturn, 1) := by decide +kernel
theorem dmak_99 : decode method_3_code 99 = .ok (.iload_n 1, 1) := by decide +kernel
theorem dmak_100 : decode method_3_code 100 = .ok (.iconst 4, 1) := by decide +kernel
theorem dmak_101 : decode method_3_code 101 = .ok (.if_icmp .ne 38, 3) := by decide +kernel
theorem dmak_104 : decode method_3_code 104 = .ok (.new 9, 3) := by decide +kernel
theorem dmak_107 : decode method_3_code 107 = .ok (.dup, 1) := by decide +kernel
theorem dmak_108 : decode method_3_code 108 = .ok (.iconst 4, 1) := by decide +kernel
theorem dmak_109 : decode method_3_code 109 = .ok (.newarray .char, 2) := by decide +kernel
theorem dmak_111 : decode method_3_code 111 = .ok (.dup, 1) := by decide +kernel
theorem dmak_112 : decode method_3_code 112 = .ok (.iconst 0, 1) := by decide +kernel
theorem dmak_113 : decode method_3_code 113 = .ok (.aload_n 0, 1) := by decide +kernel
theorem dmak_114 : decode method_3_code 114 = .ok (.iconst 0, 1) := by decide +kernel
theorem dmak_115 : decode method_3_code 115 = .ok (.caload, 1) := by decide +kernel
theorem dmak_116 : decode method_3_code 116 = .ok (.castore, 1) := by decide +kernel
theorem dmak_117 : decode method_3_code 117 = .ok (.dup, 1) := by decide +kernel
theorem dmak_118 : decode method_3_code 118 = .ok (.iconst 1, 1) := by decide +kernel
theorem dmak_119 : decode method_3_code 119 = .ok (.aload_n 0, 1) := by decide +kernel
theorem dmak_120 : decode method_3_code 120 = .ok (.iconst 1, 1) := by decide +kernel
theorem dmak_121 : decode method_3_code 121 = .ok (.caload, 1) := by decide +kernel
theorem dmak_122 : decode method_3_code 122 = .ok (.castore, 1) := by decide +kernel
theorem dmak_123 : decode method_3_code 123 = .ok (.dup, 1) := by decide +kernel
theorem dmak_124 : decode method_3_code 124 = .ok (.iconst 2, 1) := by decide +kernel
theorem dmak_125 : decode method_3_code 125 = .ok (.aload_n 0, 1) := by decide +kernel
theorem dmak_126 : decode method_3_code 126 = .ok (.iconst 2, 1) := by decide +kernel
theorem dmak_127 : decode method_3_code 127 = .ok (.caload, 1) := by decide +kernel
theorem dmak_128 : decode method_3_code 128 = .ok (.castore, 1) := by decide +kernel
theorem dmak_129 : decode method_3_code 129 = .ok (.dup, 1) := by decide +kernel
theorem dmak_130 : decode method_3_code 130 = .ok (.iconst 3, 1) := by decide +kernel
theorem dmak_131 : decode method_3_code 131 = .ok (.aload_n 0, 1) := by decide +kernel
theorem dmak_132 : decode method_3_code 132 = .ok (.iconst 3, 1) := by decide +kernel
theorem dmak_133 : decode method_3_code 133 = .ok (.caload, 1) := by decide +kernel
theorem dmak_134 : decode method_3_code 134 = .ok (.castore, 1) := by decide +kernel
theorem dmak_135 : decode method_3_code 135 = .ok (.invokespecial 11, 3) := by decide +kernel
theorem dmak_138 : decode method_3_code 138 = .ok (.areturn, 1) := by decide +kernel
theorem dmak_139 : decode method_3_code 139 = .ok (.iload_n 1, 1) := by decide +kernel
theorem dmak_140 : decode method_3_code 140 = .ok (.iconst 5, 1) := by decide +kernel
theorem dmak_141 : decode method_3_code 141 = .ok (.if_icmp .ne 44, 3) := by decide +kernel
theorem dmak_144 : decode method_3_code 144 = .ok (.new 9, 3) := by decide +kernel
theorem dmak_147 : decode method_3_code 147 = .ok (.dup, 1) := by decide +kernel
theorem dmak_148 : decode method_3_code 148 = .ok (.iconst 5, 1) := by decide +kernel
theorem dmak_149 : decode method_3_code 149 = .ok (.newarray .char, 2) := by decide +kernel
theorem dmak_151 : decode method_3_code 151 = .ok (.dup, 1) := by decide +kernel
theorem dmak_152 : decode method_3_code 152 = .ok (.iconst 0, 1) := by decide +kernel
theorem dmak_153 : decode method_3_code 153 = .ok (.aload_n 0, 1) := by decide +kernel
theorem dmak_154 : decode method_3_code 154 = .ok (.iconst 0, 1) := by decide +kernel
theorem dmak_155 : decode method_3_code 155 = .ok (.caload, 1) := by decide +kernel
theorem dmak_156 : decode method_3_code 156 = .ok (.castore, 1) := by decide +kernel
theorem dmak_157 : decode method_3_code 157 = .ok (.dup, 1) := by decide +kernel
theorem dmak_158 : decode method_3_code 158 = .ok (.iconst 1, 1) := by decide +kernel
theorem dmak_159 : decode method_3_code 159 = .ok (.aload_n 0, 1) := by decide +kernel
theorem dmak_160 : decode method_3_code 160 = .ok (.iconst 1, 1) := by decide +kernel
theorem dmak_161 : decode method_3_code 161 = .ok (.caload, 1) := by decide +kernel
theorem dmak_162 : decode method_3_code 162 = .ok (.castore, 1) := by decide +kernel
theorem dmak_163 : decode method_3_code 163 = .ok (.dup, 1) := by decide +kernel
theorem dmak_164 : decode method_3_code 164 = .ok (.iconst 2, 1) := by decide +kernel
theorem dmak_165 : decode method_3_code 165 = .ok (.aload_n 0, 1) := by decide +kernel
theorem dmak_166 : decode method_3_code 166 = .ok (.iconst 2, 1) := by decide +kernel
theorem dmak_167 : decode method_3_code 167 = .ok (.caload, 1) := by decide +kernel
theorem dmak_168 : decode method_3_code 168 = .ok (.castore, 1) := by decide +kernel
theorem dmak_169 : decode method_3_code 169 = .ok (.dup, 1) := by decide +kernel
theorem dmak_170 : decode method_3_code 170 = .ok (.iconst 3, 1) := by decide +kernel
theorem dmak_171 : decode method_3_code 171 = .ok (.aload_n 0, 1) := by decide +kernel
theorem dmak_172 : decode method_3_code 172 = .ok (.iconst 3, 1) := by decide +kernel
theorem dmak_173 : decode method_3_code 173 = .ok (.caload, 1) := by decide +kernel
theorem dmak_174 : decode method_3_code 174 = .ok (.castore, 1) := by decide +kernel
theorem dmak_175 : decode method_3_code 175 = .ok (.dup, 1) := by decide +kernel
theorem dmak_176 : decode method_3_code 176 = .ok (.iconst 4, 1) := by decide +kernel
theorem dmak_177 : decode method_3_code 177 = .ok (.aload_n 0, 1) := by decide +kernel
theorem dmak_178 : decode method_3_code 178 = .ok (.iconst 4, 1) := by decide +kernel
theorem dmak_179 : decode method_3_code 179 = .ok (.caload, 1) := by decide +kernel
theorem dmak_180 : decode method_3_code 180 = .ok (.castore, 1) := by decide +kernel
theorem dmak_181 : decode method_3_code 181 = .ok (.invokespecial 11, 3) := by decide +kernel
theorem dmak_184 : decode method_3_code 184 = .ok (.areturn, 1) := by decide +kernel
theorem dmak_185 : decode method_3_code 185 = .ok (.new 9, 3) := by decide +kernel
theorem dmak_188 : decode method_3_code 188 = .ok (.dup, 1) := by decide +kernel
theorem dmak_189 : decode method_3_code 189 = .ok (.bipush 6, 2) := by decide +kernel
theorem dmak_191 : decode method_3_code 191 = .ok (.newarray .char, 2) := by decide +kernel
theorem dmak_193 : decode method_3_code 193 = .ok (.dup, 1) := by decide +kernel
theorem dmak_194 : decode method_3_code 194 = .ok (.iconst 0, 1) := by decide +kernel
theorem dmak_195 : decode method_3_code 195 = .ok (.aload_n 0, 1) := by decide +kernel
theorem dmak_196 : decode method_3_code 196 = .ok (.iconst 0, 1) := by decide +kernel
theorem dmak_197 : decode method_3_code 197 = .ok (.caload, 1) := by decide +kernel
theorem dmak_198 : decode method_3_code 198 = .ok (.castore, 1) := by decide +kernel
theorem dmak_199 : decode method_3_code 199 = .ok (.dup, 1) := by decide +kernel
theorem dmak_200 : decode method_3_code 200 = .ok (.iconst 1, 1) := by decide +kernel
theorem dmak_201 : decode method_3_code 201 = .ok (.aload_n 0, 1) := by decide +kernel
theorem dmak_202 : decode method_3_code 202 = .ok (.iconst 1, 1) := by decide +kernel
theorem dmak_203 : decode method_3_code 203 = .ok (.caload, 1) := by decide +kernel
theorem dmak_204 : decode method_3_code 204 = .ok (.castore, 1) := by decide +kernel
theorem dmak_205 : decode method_3_code 205 = .ok (.dup, 1) := by decide +kernel
theorem dmak_206 : decode method_3_code 206 = .ok (.iconst 2, 1) := by decide +kernel
theorem dmak_207 : decode method_3_code 207 = .ok (.aload_n 0, 1) := by decide +kernel
theorem dmak_208 : decode method_3_code 208 = .ok (.iconst 2, 1) := by decide +kernel
theorem dmak_209 : decode method_3_code 209 = .ok (.caload, 1) := by decide +kernel
theorem dmak_210 : decode method_3_code 210 = .ok (.castore, 1) := by decide +kernel
theorem dmak_211 : decode method_3_code 211 = .ok (.dup, 1) := by decide +kernel
theorem dmak_212 : decode method_3_code 212 = .ok (.iconst 3, 1) := by decide +kernel
theorem dmak_213 : decode method_3_code 213 = .ok (.aload_n 0, 1) := by decide +kernel
theorem dmak_214 : decode method_3_code 214 = .ok (.iconst 3, 1) := by decide +kernel
theorem dmak_215 : decode method_3_code 215 = .ok (.caload, 1) := by decide +kernel
theorem dmak_216 : decode method_3_code 216 = .ok (.castore, 1) := by decide +kernel
theorem dmak_217 : decode method_3_code 217 = .ok (.dup, 1) := by decide +kernel
theorem dmak_218 : decode method_3_code 218 = .ok (.iconst 4, 1) := by decide +kernel
theorem dmak_219 : decode method_3_code 219 = .ok (.aload_n 0, 1) := by decide +kernel
theorem dmak_220 : decode method_3_code 220 = .ok (.iconst 4, 1) := by decide +kernel
theorem dmak_221 : decode method_3_code 221 = .ok (.caload, 1) := by decide +kernel
theorem dmak_222 : decode method_3_code 222 = .ok (.castore, 1) := by decide +kernel
theorem dmak_223 : decode method_3_code 223 = .ok (.dup, 1) := by decide +kernel
theorem dmak_224 : decode method_3_code 224 = .ok (.iconst 5, 1) := by decide +kernel
theorem dmak_225 : decode method_3_code 225 = .ok (.aload_n 0, 1) := by decide +kernel
theorem dmak_226 : decode method_3_code 226 = .ok (.iconst 5, 1) := by decide +kernel
theorem dmak_227 : decode method_3_code 227 = .ok (.caload, 1) := by decide +kernel
theorem dmak_228 : decode method_3_code 228 = .ok (.castore, 1) := by decide +kernel
theorem dmak_229 : decode method_3_code 229 = .ok (.invokespecial 11, 3) := by decide +kernel
theorem dmak_232 : decode method_3_code 232 = .ok (.areturn, 1) := by decide +kernel
theorem pn_mak : plainFor (⟨"com/example/tidewire/tidewire/extender/ManifestHeaderUnquotePinLaw", "make", "([CI)Ljava/lang/String;"⟩ : MethodName) = true := by first | exact plainFor_of_name (by first | (simp [plainName, overriddenIn]; done) | decide +kernel) | decide +kernel
theorem ef_mak (m : MethodId) (x0 : Addr) (x1 : Int32) : entryFrame m #[(.ref x0), (.int x1)] 2 = mkF m 0 #[rv x0, iv x1] [] := by first | (simp [entryFrame, mkF, argsToLocals, Value.category]; done) | rfl
set_option maxRecDepth 65536 in
set_option maxHeartbeats 40000000 in
theorem rm_mak (l : Launch) (Z : State) (a0 : Array Value) (hw : ∀ d ∈ tables_1, d.before a0 Z = true) (ws : List Jvm.Cond) (src : Addr) (n : Nat) (ch : Nat → Nat) (n0 : Nat) (cS : Int32) (h0 : Heap) (hEL : EW Z a0 consts_1) (wS : ∀ a ∈ Bundle.stringAtoms, a.before a0 Z = true) (Z0 : n0 ≤ h0.size) (hn : n ≤ 6) (hc : ∀ q, ch q < 256) (V_src : Ary Z h0 src .char (IL 6 (fun q => Int32.ofNat (ch q)))) (O0 : Old Z n0 h0) (Sc : Sta Z Z.heap "java/lang/String" "COMPACT_STRINGS" "Z" (.int cS)) (hcS : ¬ (cS = (0 : Int32))) :
    MtH l Z consts_1 (⟨"com/example/tidewire/tidewire/extender/ManifestHeaderUnquotePinLaw", "make", "([CI)Ljava/lang/String;"⟩ : MethodName) method_3_code 2 (some (.object "java/lang/String")) ws ({ frames := 4, cells := 6, slots := 18, locals := 72 } : Room) #[(.ref src), (.int (Int32.ofNat n))] h0 (fun v h L => ∃ a t, v = some (.ref a) ∧ Fr n0 L ∧ Keep h0 h [] ∧ h0.size ≤ a ∧ Exa Z h a "java/lang/String" ∧ Fld Z h a "java/lang/String" "coder" "B" (.int (0 : Int32)) ∧ Fld Z h a "java/lang/String" "value" "[B" (.ref t) ∧ Ary Z h t .byte (IL n (fun q => bI (ch q)))) := by
  refine MtH.body pn_mak ?_
  intro p e s m below meth c s₁ hx hby hml hown hnm hret hlk hZ X0 e0 HS0
  refine Go.cast (g' := (mkF m 0 #[rv src, iv (Int32.ofNat n)] [])) (ef_mak m src (Int32.ofNat n)) ?_
  have N0 := Fr.nil n0
  have K0 := Keep.refl h0 ([] : List Addr)
  rcases (show n = 0 ∨ n = 1 ∨ n = 2 ∨ n = 3 ∨ n = 4 ∨ n = 5 ∨ n = 6 by omega) with rfl | rfl | rfl | rfl | rfl | rfl | rfl
  ·
    show Go p e below _ s₁ (mkF m 0 #[rv src, iv (0 : Int32)] [])
    refine Go.st (T' := s₁) (g' := (mkF m 4 #[rv src, iv (0 : Int32)] [])) ?_ (fun _ kk_ => XS.iloadN X0.here hx rfl (hb hby dmak_0) rfl  (XS.ifNo X0.here hx rfl (hb hby dmak_1) rfl ((if0 _ _).trans (teq ((by decide) : (0 : Int32) = (0 : Int32))).2) kk_))
    obtain ⟨T1, h1, X1, e1, E1, A1, D1, -, st1⟩ := newO X0 hx hZ hown (hw _ (List.mem_of_getElem? (i := 10) rfl)) (hw _ (List.mem_of_getElem? (i := 11) rfl)) (hw _ (List.mem_of_getElem? (i := 12) rfl)) e0 (g := (mkF m 4 #[rv src, iv (0 : Int32)] [])) rfl (hb hby dmak_4) (by decide) (by decide)
    obtain ⟨b1, g1⟩ : ∃ z, z = h0.size := ⟨_, rfl⟩
    rw [← g1] at A1 D1 st1
    have ne_src_b1 : src ≠ b1 := Nat.ne_of_lt (Nat.lt_of_lt_of_eq V_src.lt g1.symm)
    have g_b1 : n0 ≤ b1 := Nat.le_trans Z0 (Nat.le_of_eq g1.symm)
    have sz_b1 : h0.size ≤ b1 := Nat.le_trans K0.1 (Nat.le_of_eq g1.symm)
    have HS2 := HS.ext HS0 E1
    have O3 := O0.ext E1
    have Z4 : n0 ≤ h1.size := Nat.le_trans Z0 E1.1
    have K5 : Keep h0 h1 ([] : List Addr) := K0.ext E1
    have sf6 := Sf.born HS0 E1 g1 A1.lt
    have f7 : Fld Z h1 b1 "java/lang/String" "coder" "B" (.int (0 : Int32)) := D1 (Or.inr (hw _ (List.mem_of_getElem? (i := 36) rfl))) (ty := .byte) (by decide)
    have f8 : Fld Z h1 b1 "java/lang/String" "value" "[B" .null := D1 (Or.inr (hw _ (List.mem_of_getElem? (i := 38) rfl))) (ty := (.array .byte)) (by decide)
    refine Go.st (T' := T1) (g' := (mkF m 7 #[rv src, iv (0 : Int32)] [(.ref b1)])) ?_ st1
    refine Go.st (T' := T1) (g' := (mkF m 9 #[rv src, iv (0 : Int32)] [(.int (0 : Int32)), (.ref b1), (.ref b1)])) ?_ (fun _ kk_ => XS.dup X1.here hx rfl (hb hby dmak_7) rfl rfl (XS.iconst X1.here hx rfl (hb hby dmak_8) kk_))
    refine Go.newP X1 hx hZ (aty := .char) (hw _ (List.mem_of_getElem? (i := 1) rfl)) e1 rfl (hb hby dmak_9) (n := 0) rfl rfl 0 (by decide) (by decide) (by decide) (by decide) ?_
    intro T9 h9 b9 X9 e9 E9 g9 V9
    have f10 := (V_src.ext E1)
    have ne_src_b9 : src ≠ b9 := Nat.ne_of_lt (Nat.lt_of_lt_of_eq f10.lt g9.symm)
    have ne_b1_b9 : b1 ≠ b9 := Nat.ne_of_lt (Nat.lt_of_lt_of_eq A1.lt g9.symm)
    have g_b9 : n0 ≤ b9 := Nat.le_trans Z4 (Nat.le_of_eq g9.symm)
    have sz_b9 : h0.size ≤ b9 := Nat.le_trans K5.1 (Nat.le_of_eq g9.symm)
    have HS11 := HS.ext HS2 E9
    have O12 := O3.ext E9
    have Z13 : n0 ≤ h9.size := Nat.le_trans Z4 E9.1
    have K14 : Keep h0 h9 ([] : List Addr) := K5.ext E9
    change Ary Z h9 b9 .char [] at V9
    have sf15 := Sf.born HS2 E9 g9 V9.lt
    show Go p e below _ T9 (mkF m 11 #[rv src, iv (0 : Int32)] [(.ref b9), (.ref b1), (.ref b1)])
    have f16 := (A1.ext E9)
    have f17 := (f8.ext E9)
    have f18 := (f7.ext E9)
    refine Go.callNH (y := (⟨"java/lang/String", "<init>", "([C)V"⟩ : MethodName)) X9 hx hZ rfl hown (hw _ (List.mem_of_getElem? (i := 13) rfl)) (hw _ (List.mem_of_getElem? (i := 14) rfl)) (hw _ (List.mem_of_getElem? (i := 12) rfl)) (hw _ (List.mem_of_getElem? (i := 15) rfl)) (by decide) 1 HS11 hEL (rm_i1E l Z a0 hw [] b1 b9 n0 h9 hEL wS Z13 V9 f16 f17 f18 g_b1) e9 (by decide) (by decide) (by decide) (by decide) (a := b1) (argsL := [(.ref b9)]) (rest := [(.ref b1)]) rfl (by rw [hml]; rfl) (lenOf pd__28_5bC_29V rfl) rfl rfl (by show 2 * 0 + _ ≤ _; exact Nat.le_of_eq rfl) (hb hby dmak_11) ?_
    rintro _ T19 L19 X19 ⟨rfl, N19, K19, Fc19, t, Fv19, V19⟩ hZ19 ho19 HS19 C19
    have N20 := Fr.app N0 N19
    have O21 := O12.keep K19 (allS (P := fun z_ => n0 ≤ z_) g_b1 all0)
    have Z22 : n0 ≤ T19.heap.size := Nat.le_trans Z13 K19.1
    have K23 : Keep h0 T19.heap ([] : List Addr) := K14.trans K19 (allS (P := fun z_ => z_ ∈ ([] : List Addr) ∨ h0.size ≤ z_) (Or.inr sz_b1) all0)
    show Go p e below _ T19 (mkF m 14 #[rv src, iv (0 : Int32)] [(.ref b1)])
    have f24 := (f16.keep K19)
    refine Go.retAH X19 hx hlk hret rfl rfl (hb hby dmak_14) (by decide) (by decide) hZ19 hEL HS19 ?_
    exact ⟨b1, t, rfl, N20, K23, sz_b1, f24, Fc19, Fv19, V19⟩
  ·
    show Go p e below _ s₁ (mkF m 0 #[rv src, iv (1 : Int32)] [])
    refine Go.st (T' := s₁) (g' := (mkF m 20 #[rv src, iv (1 : Int32)] [])) ?_ (fun _ kk_ => XS.iloadN X0.here hx rfl (hb hby dmak_0) rfl  (XS.ifYes X0.here hx rfl (pc0 := 1) (pc' := 15) rfl (hb hby dmak_1) rfl ((if0 _ _).trans (feq ((by decide) : ¬ ((1 : Int32) = (0 : Int32)))).2) (by decide) (by decide) (XS.iloadN X0.here hx rfl (hb hby dmak_15) rfl  (XS.iconst X0.here hx rfl (hb hby dmak_16) (XS.icmpNo X0.here hx rfl (hb hby dmak_17) rfl (teq ((by decide) : (1 : Int32) = (1 : Int32))).2 kk_)))))
    obtain ⟨T25, h25, X25, e25, E25, A25, D25, -, st25⟩ := newO X0 hx hZ hown (hw _ (List.mem_of_getElem? (i := 10) rfl)) (hw _ (List.mem_of_getElem? (i := 11) rfl)) (hw _ (List.mem_of_getElem? (i := 12) rfl)) e0 (g := (mkF m 20 #[rv src, iv (1 : Int32)] [])) rfl (hb hby dmak_20) (by decide) (by decide)
    obtain ⟨b25, g25⟩ : ∃ z, z = h0.size := ⟨_, rfl⟩
    rw [← g25] at A25 D25 st25
    have ne_src_b25 : src ≠ b25 := Nat.ne_of_lt (Nat.lt_of_lt_of_eq V_src.lt g25.symm)
    have g_b25 : n0 ≤ b25 := Nat.le_trans Z0 (Nat.le_of_eq g25.symm)
    have sz_b25 : h0.size ≤ b25 := Nat.le_trans K0.1 (Nat.le_of_eq g25.symm)
    have HS26 := HS.ext HS0 E25
    have O27 := O0.ext E25
    have Z28 : n0 ≤ h25.size := Nat.le_trans Z0 E25.1
    have K29 : Keep h0 h25 ([] : List Addr) := K0.ext E25
    have sf30 := Sf.born HS0 E25 g25 A25.lt
    have f31 : Fld Z h25 b25 "java/lang/String" "coder" "B" (.int (0 : Int32)) := D25 (Or.inr (hw _ (List.mem_of_getElem? (i := 36) rfl))) (ty := .byte) (by decide)
    have f32 : Fld Z h25 b25 "java/lang/String" "value" "[B" .null := D25 (Or.inr (hw _ (List.mem_of_getElem? (i := 38) rfl))) (ty := (.array .byte)) (by decide)
    refine Go.st (T' := T25) (g' := (mkF m 23 #[rv src, iv (1 : Int32)] [(.ref b25)])) ?_ st25
    refine Go.st (T' := T25) (g' := (mkF m 25 #[rv src, iv (1 : Int32)] [(.int (1 : Int32)), (.ref b25), (.ref b25)])) ?_ (fun _ kk_ => XS.dup X25.here hx rfl (hb hby dmak_23) rfl rfl (XS.iconst X25.here hx rfl (hb hby dmak_24) kk_))
    refine Go.newP X25 hx hZ (aty := .char) (hw _ (List.mem_of_getElem? (i := 1) rfl)) e25 rfl (hb hby dmak_25) (n := 1) rfl rfl 1 (by decide) (by decide) (by decide) (by decide) ?_
    intro T33 h33 b33 X33 e33 E33 g33 V33
    have f34 := (V_src.ext E25)
    have ne_src_b33 : src ≠ b33 := Nat.ne_of_lt (Nat.lt_of_lt_of_eq f34.lt g33.symm)
    have ne_b25_b33 : b25 ≠ b33 := Nat.ne_of_lt (Nat.lt_of_lt_of_eq A25.lt g33.symm)
    have g_b33 : n0 ≤ b33 := Nat.le_trans Z28 (Nat.le_of_eq g33.symm)
    have sz_b33 : h0.size ≤ b33 := Nat.le_trans K29.1 (Nat.le_of_eq g33.symm)
    have HS35 := HS.ext HS26 E33
    have O36 := O27.ext E33
    have Z37 : n0 ≤ h33.size := Nat.le_trans Z28 E33.1
    have K38 : Keep h0 h33 ([] : List Addr) := K29.ext E33
    change Ary Z h33 b33 .char [.int 0] at V33
    have sf39 := Sf.born HS26 E33 g33 V33.lt
    show Go p e below _ T33 (mkF m 27 #[rv src, iv (1 : Int32)] [(.ref b33), (.ref b25), (.ref b25)])
    refine Go.st (T' := T33) (g' := (mkF m 31 #[rv src, iv (1 : Int32)] [(.int (0 : Int32)), (.ref src), (.int (0 : Int32)), (.ref b33), (.ref b33), (.ref b25), (.ref b25)])) ?_ (fun _ kk_ => XS.dup X33.here hx rfl (hb hby dmak_27) rfl rfl (XS.iconst X33.here hx rfl (hb hby dmak_28) (XS.aloadN X33.here hx rfl (hb hby dmak_29) rfl rfl  (XS.iconst X33.here hx rfl (hb hby dmak_30) kk_))))
    have f40 := (f34.ext E33)
    refine Go.st (T' := T33) (g' := (mkF m 32 #[rv src, iv (1 : Int32)] [(.int (Int32.ofNat (ch 0))), (.int (0 : Int32)), (.ref b33), (.ref b33), (.ref b25), (.ref b25)])) ?_ (fun _ kk_ => own_caload X33 hx hZ e33 f40 (i := 0) (v := (.int (Int32.ofNat (ch 0)))) (IL_at (by decide)) rfl rfl rfl (hb hby dmak_31) kk_)
    refine Go.castore X33 hx hZ e33 V33 (y := (Int32.ofNat (ch 0))) (ch_sto _ (hc 0)) (i := 0) (Nat.le_of_ble_eq_true rfl) rfl rfl rfl (hb hby dmak_32) ?_
    intro T41 h41 X41 e41 W41 V41
    have N42 := Fr.snoc X41 N0 g_b33
    have HS43 := HS.wr HS35 W41 (sf39).1
    have O44 := O36.wr W41 g_b33
    change Ary Z h41 b33 .char [.int (Int32.ofNat (ch 0))] at V41
    have K45 : Keep h0 h41 ([] : List Addr) := K38.wr W41 (Or.inr sz_b33)
    have Z46 : n0 ≤ h41.size := by rw [W41.size]; exact Z37
    show Go p e below _ T41 (mkF m 33 #[rv src, iv (1 : Int32)] [(.ref b33), (.ref b25), (.ref b25)])
    have f47 := ((A25.ext E33).wr W41)
    have f48 := ((f32.ext E33).other W41 (Or.inl ne_b25_b33))
    have f49 := ((f31.ext E33).other W41 (Or.inl ne_b25_b33))
    refine Go.callN (y := (⟨"java/lang/String", "<init>", "([C)V"⟩ : MethodName)) X41 hx hZ rfl hown (hw _ (List.mem_of_getElem? (i := 13) rfl)) (hw _ (List.mem_of_getElem? (i := 14) rfl)) (hw _ (List.mem_of_getElem? (i := 12) rfl)) (hw _ (List.mem_of_getElem? (i := 15) rfl)) (by decide) 1 (rm_in1 l Z a0 hw [] b25 b33 1 ch n0 cS h41 Z46 (by decide) (by decide) (fun q _ => hc q) V41 f47 f48 f49 g_b25 O44 Sc hcS ne_b25_b33) e41 (by decide) (by decide) (by decide) (by decide) (a := b25) (argsL := [(.ref b33)]) (rest := [(.ref b25)]) rfl (by rw [hml]; rfl) (lenOf pd__28_5bC_29V rfl) rfl rfl (by show 2 * 0 + _ ≤ _; exact Nat.le_of_eq rfl) (hb hby dmak_33) ?_
    rintro _ T50 L50 X50 ⟨rfl, N50, K50, Fc50, t, tz, Fv50, V50⟩
    have N51 := Fr.app N42 N50
    have f53 := (Sf.wr HS35 W41 (sf39).1 (Sf.ext HS26 E33 sf30))
    have HS52 := HS.keep HS43 K50 (sfS (f53).1 sf0)
    have O54 := O44.keep K50 (allS (P := fun z_ => n0 ≤ z_) g_b25 all0)
    have Z55 : n0 ≤ T50.heap.size := Nat.le_trans Z46 K50.1
    have K56 : Keep h0 T50.heap ([] : List Addr) := K45.trans K50 (allS (P := fun z_ => z_ ∈ ([] : List Addr) ∨ h0.size ≤ z_) (Or.inr sz_b25) all0)
    show Go p e below _ T50 (mkF m 36 #[rv src, iv (1 : Int32)] [(.ref b25)])
    have f57 := (f47.keep K50)
    refine Go.retAH X50 hx hlk hret rfl rfl (hb hby dmak_36) (by decide) (by decide) hZ hEL HS52 ?_
    exact ⟨b25, t, rfl, N51, K56, sz_b25, f57, Fc50, Fv50, V50⟩
  ·
    show Go p e below _ s₁ (mkF m 0 #[rv src, iv (2 : Int32)] [])
    refine Go.st (T' := s₁) (g' := (mkF m 42 #[rv src, iv (2 : Int32)] [])) ?_ (fun _ kk_ => XS.iloadN X0.here hx rfl (hb hby dmak_0) rfl  (XS.ifYes X0.here hx rfl (pc0 := 1) (pc' := 15) rfl (hb hby dmak_1) rfl ((if0 _ _).trans (feq ((by decide) : ¬ ((2 : Int32) = (0 : Int32)))).2) (by decide) (by decide) (XS.iloadN X0.here hx rfl (hb hby dmak_15) rfl  (XS.iconst X0.here hx rfl (hb hby dmak_16) (XS.icmpYes X0.here hx rfl (pc0 := 17) (pc' := 37) rfl (hb hby dmak_17) rfl (feq ((by decide) : ¬ ((2 : Int32) = (1 : Int32)))).2 (by decide) (by decide) (XS.iloadN X0.here hx rfl (hb hby dmak_37) rfl  (XS.iconst X0.here hx rfl (hb hby dmak_38) (XS.icmpNo X0.here hx rfl (hb hby dmak_39) rfl (teq ((by decide) : (2 : Int32) = (2 : Int32))).2 kk_))))))))
    obtain ⟨T58, h58, X58, e58, E58, A58, D58, -, st58⟩ := newO X0 hx hZ hown (hw _ (List.mem_of_getElem? (i := 10) rfl)) (hw _ (List.mem_of_getElem? (i := 11) rfl)) (hw _ (List.mem_of_getElem? (i := 12) rfl)) e0 (g := (mkF m 42 #[rv src, iv (2 : Int32)] [])) rfl (hb hby dmak_42) (by decide) (by decide)
    obtain ⟨b58, g58⟩ : ∃ z, z = h0.size := ⟨_, rfl⟩
    rw [← g58] at A58 D58 st58
    have ne_src_b58 : src ≠ b58 := Nat.ne_of_lt (Nat.lt_of_lt_of_eq V_src.lt g58.symm)
    have g_b58 : n0 ≤ b58 := Nat.le_trans Z0 (Nat.le_of_eq g58.symm)
    have sz_b58 : h0.size ≤ b58 := Nat.le_trans K0.1 (Nat.le_of_eq g58.symm)
    have HS59 := HS.ext HS0 E58
    have O60 := O0.ext E58
    have Z61 : n0 ≤ h58.size := Nat.le_trans Z0 E58.1
    have K62 : Keep h0 h58 ([] : List Addr) := K0.ext E58
    have sf63 := Sf.born HS0 E58 g58 A58.lt
    have f64 : Fld Z h58 b58 "java/lang/String" "coder" "B" (.int (0 : Int32)) := D58 (Or.inr (hw _ (List.mem_of_getElem? (i := 36) rfl))) (ty := .byte) (by decide)
    have f65 : Fld Z h58 b58 "java/lang/String" "value" "[B" .null := D58 (Or.inr (hw _ (List.mem_of_getElem? (i := 38) rfl))) (ty := (.array .byte)) (by decide)
    refine Go.st (T' := T58) (g' := (mkF m 45 #[rv src, iv (2 : Int32)] [(.ref b58)])) ?_ st58
    refine Go.st (T' := T58) (g' := (mkF m 47 #[rv src, iv (2 : Int32)] [(.int (2 : Int32)), (.ref b58), (.ref b58)])) ?_ (fun _ kk_ => XS.dup X58.here hx rfl (hb hby dmak_45) rfl rfl (XS.iconst X58.here hx rfl (hb hby dmak_46) kk_))
    refine Go.newP X58 hx hZ (aty := .char) (hw _ (List.mem_of_getElem? (i := 1) rfl)) e58 rfl (hb hby dmak_47) (n := 2) rfl rfl 2 (by decide) (by decide) (by decide) (by decide) ?_
    intro T66 h66 b66 X66 e66 E66 g66 V66
    have f67 := (V_src.ext E58)
    have ne_src_b66 : src ≠ b66 := Nat.ne_of_lt (Nat.lt_of_lt_of_eq f67.lt g66.symm)
    have ne_b58_b66 : b58 ≠ b66 := Nat.ne_of_lt (Nat.lt_of_lt_of_eq A58.lt g66.symm)
    have g_b66 : n0 ≤ b66 := Nat.le_trans Z61 (Nat.le_of_eq g66.symm)
    have sz_b66 : h0.size ≤ b66 := Nat.le_trans K62.1 (Nat.le_of_eq g66.symm)
    have HS68 := HS.ext HS59 E66
    have O69 := O60.ext E66
    have Z70 : n0 ≤ h66.size := Nat.le_trans Z61 E66.1
    have K71 : Keep h0 h66 ([] : List Addr) := K62.ext E66
    change Ary Z h66 b66 .char [.int 0, .int 0] at V66
    have sf72 := Sf.born HS59 E66 g66 V66.lt
    show Go p e below _ T66 (mkF m 49 #[rv src, iv (2 : Int32)] [(.ref b66), (.ref b58), (.ref b58)])
    refine Go.st (T' := T66) (g' := (mkF m 53 #[rv src, iv (2 : Int32)] [(.int (0 : Int32)), (.ref src), (.int (0 : Int32)), (.ref b66), (.ref b66), (.ref b58), (.ref b58)])) ?_ (fun _ kk_ => XS.dup X66.here hx rfl (hb hby dmak_49) rfl rfl (XS.iconst X66.here hx rfl (hb hby dmak_50) (XS.aloadN X66.here hx rfl (hb hby dmak_51) rfl rfl  (XS.iconst X66.here hx rfl (hb hby dmak_52) kk_))))
    have f73 := (f67.ext E66)
    refine Go.st (T' := T66) (g' := (mkF m 54 #[rv src, iv (2 : Int32)] [(.int (Int32.ofNat (ch 0))), (.int (0 : Int32)), (.ref b66), (.ref b66), (.ref b58), (.ref b58)])) ?_ (fun _ kk_ => own_caload X66 hx hZ e66 f73 (i := 0) (v := (.int (Int32.ofNat (ch 0)))) (IL_at (by decide)) rfl rfl rfl (hb hby dmak_53) kk_)
    refine Go.castore X66 hx hZ e66 V66 (y := (Int32.ofNat (ch 0))) (ch_sto _ (hc 0)) (i := 0) (Nat.le_of_ble_eq_true rfl) rfl rfl rfl (hb hby dmak_54) ?_
    intro T74 h74 X74 e74 W74 V74
    have N75 := Fr.snoc X74 N0 g_b66
    have HS76 := HS.wr HS68 W74 (sf72).1
    have O77 := O69.wr W74 g_b66
    change Ary Z h74 b66 .char [.int (Int32.ofNat (ch 0)), .int 0] at V74
    have K78 : Keep h0 h74 ([] : List Addr) := K71.wr W74 (Or.inr sz_b66)
    have Z79 : n0 ≤ h74.size := by rw [W74.size]; exact Z70
    show Go p e below _ T74 (mkF m 55 #[rv src, iv (2 : Int32)] [(.ref b66), (.ref b58), (.ref b58)])
    refine Go.st (T' := T74) (g' := (mkF m 59 #[rv src, iv (2 : Int32)] [(.int (1 : Int32)), (.ref src), (.int (1 : Int32)), (.ref b66), (.ref b66), (.ref b58), (.ref b58)])) ?_ (fun _ kk_ => XS.dup X74.here hx rfl (hb hby dmak_55) rfl rfl (XS.iconst X74.here hx rfl (hb hby dmak_56) (XS.aloadN X74.here hx rfl (hb hby dmak_57) rfl rfl  (XS.iconst X74.here hx rfl (hb hby dmak_58) kk_))))
    have f80 := (f73.other W74 ne_src_b66)
    refine Go.st (T' := T74) (g' := (mkF m 60 #[rv src, iv (2 : Int32)] [(.int (Int32.ofNat (ch 1))), (.int (1 : Int32)), (.ref b66), (.ref b66), (.ref b58), (.ref b58)])) ?_ (fun _ kk_ => own_caload X74 hx hZ e74 f80 (i := 1) (v := (.int (Int32.ofNat (ch 1)))) (IL_at (by decide)) rfl rfl rfl (hb hby dmak_59) kk_)
    refine Go.castore X74 hx hZ e74 V74 (y := (Int32.ofNat (ch 1))) (ch_sto _ (hc 1)) (i := 1) (Nat.le_of_ble_eq_true rfl) rfl rfl rfl (hb hby dmak_60) ?_
    intro T81 h81 X81 e81 W81 V81
    have N82 := Fr.snoc X81 N75 g_b66
    have f84 := (Sf.wr HS68 W74 (sf72).1 sf72)
    have HS83 := HS.wr HS76 W81 (f84).1
    have O85 := O77.wr W81 g_b66
    change Ary Z h81 b66 .char [.int (Int32.ofNat (ch 0)), .int (Int32.ofNat (ch 1))] at V81
    have K86 : Keep h0 h81 ([] : List Addr) := K78.wr W81 (Or.inr sz_b66)
    have Z87 : n0 ≤ h81.size := by rw [W81.size]; exact Z79
    show Go p e below _ T81 (mkF m 61 #[rv src, iv (2 : Int32)] [(.ref b66), (.ref b58), (.ref b58)])
    have f88 := (((A58.ext E66).wr W74).wr W81)
    have f89 := (((f65.ext E66).other W74 (Or.inl ne_b58_b66)).other W81 (Or.inl ne_b58_b66))
    have f90 := (((f64.ext E66).other W74 (Or.inl ne_b58_b66)).other W81 (Or.inl ne_b58_b66))
    refine Go.callN (y := (⟨"java/lang/String", "<init>", "([C)V"⟩ : MethodName)) X81 hx hZ rfl hown (hw _ (List.mem_of_getElem? (i := 13) rfl)) (hw _ (List.mem_of_getElem? (i := 14) rfl)) (hw _ (List.mem_of_getElem? (i := 12) rfl)) (hw _ (List.mem_of_getElem? (i := 15) rfl)) (by decide) 1 (rm_in1 l Z a0 hw [] b58 b66 2 ch n0 cS h81 Z87 (by decide) (by decide) (fun q _ => hc q) V81 f88 f89 f90 g_b58 O85 Sc hcS ne_b58_b66) e81 (by decide) (by decide) (by decide) (by decide) (a := b58) (argsL := [(.ref b66)]) (rest := [(.ref b58)]) rfl (by rw [hml]; rfl) (lenOf pd__28_5bC_29V rfl) rfl rfl (by show 2 * 0 + _ ≤ _; exact Nat.le_of_eq rfl) (hb hby dmak_61) ?_
    rintro _ T91 L91 X91 ⟨rfl, N91, K91, Fc91, t, tz, Fv91, V91⟩
    have N92 := Fr.app N82 N91
    have f94 := (Sf.wr HS76 W81 (f84).1 (Sf.wr HS68 W74 (sf72).1 (Sf.ext HS59 E66 sf63)))
    have HS93 := HS.keep HS83 K91 (sfS (f94).1 sf0)
    have O95 := O85.keep K91 (allS (P := fun z_ => n0 ≤ z_) g_b58 all0)
    have Z96 : n0 ≤ T91.heap.size := Nat.le_trans Z87 K91.1
    have K97 : Keep h0 T91.heap ([] : List Addr) := K86.trans K91 (allS (P := fun z_ => z_ ∈ ([] : List Addr) ∨ h0.size ≤ z_) (Or.inr sz_b58) all0)
    show Go p e below _ T91 (mkF m 64 #[rv src, iv (2 : Int32)] [(.ref b58)])
    have f98 := (f88.keep K91)
    refine Go.retAH X91 hx hlk hret rfl rfl (hb hby dmak_64) (by decide) (by decide) hZ hEL HS93 ?_
    exact ⟨b58, t, rfl, N92, K97, sz_b58, f98, Fc91, Fv91, V91⟩
  ·
    show Go p e below _ s₁ (mkF m 0 #[rv src, iv (3 : Int32)] [])
    refine Go.st (T' := s₁) (g' := (mkF m 70 #[rv src, iv (3 : Int32)] [])) ?_ (fun _ kk_ => XS.iloadN X0.here hx rfl (hb hby dmak_0) rfl  (XS.ifYes X0.here hx rfl (pc0 := 1) (pc' := 15) rfl (hb hby dmak_1) rfl ((if0 _ _).trans (feq ((by decide) : ¬ ((3 : Int32) = (0 : Int32)))).2) (by decide) (by decide) (XS.iloadN X0.here hx rfl (hb hby dmak_15) rfl  (XS.iconst X0.here hx rfl (hb hby dmak_16) (XS.icmpYes X0.here hx rfl (pc0 := 17) (pc' := 37) rfl (hb hby dmak_17) rfl (feq ((by decide) : ¬ ((3 : Int32) = (1 : Int32)))).2 (by decide) (by decide) (XS.iloadN X0.here hx rfl (hb hby dmak_37) rfl  (XS.iconst X0.here hx rfl (hb hby dmak_38) (XS.icmpYes X0.here hx rfl (pc0 := 39) (pc' := 65) rfl (hb hby dmak_39) rfl (feq ((by decide) : ¬ ((3 : Int32) = (2 : Int32)))).2 (by decide) (by decide) (XS.iloadN X0.here hx rfl (hb hby dmak_65) rfl  (XS.iconst X0.here hx rfl (hb hby dmak_66) (XS.icmpNo X0.here hx rfl (hb hby dmak_67) rfl (teq ((by decide) : (3 : Int32) = (3 : Int32))).2 kk_)))))))))))
    obtain ⟨T99, h99, X99, e99, E99, A99, D99, -, st99⟩ := newO X0 hx hZ hown (hw _ (List.mem_of_getElem? (i := 10) rfl)) (hw _ (List.mem_of_getElem? (i := 11) rfl)) (hw _ (List.mem_of_getElem? (i := 12) rfl)) e0 (g := (mkF m 70 #[rv src, iv (3 : Int32)] [])) rfl (hb hby dmak_70) (by decide) (by decide)
    obtain ⟨b99, g99⟩ : ∃ z, z = h0.size := ⟨_, rfl⟩
    rw [← g99] at A99 D99 st99
    have ne_src_b99 : src ≠ b99 := Nat.ne_of_lt (Nat.lt_of_lt_of_eq V_src.lt g99.symm)
    have g_b99 : n0 ≤ b99 := Nat.le_trans Z0 (Nat.le_of_eq g99.symm)
    have sz_b99 : h0.size ≤ b99 := Nat.le_trans K0.1 (Nat.le_of_eq g99.symm)
    have HS100 := HS.ext HS0 E99
    have O101 := O0.ext E99
    have Z102 : n0 ≤ h99.size := Nat.le_trans Z0 E99.1
    have K103 : Keep h0 h99 ([] : List Addr) := K0.ext E99
    have sf104 := Sf.born HS0 E99 g99 A99.lt
    have f105 : Fld Z h99 b99 "java/lang/String" "coder" "B" (.int (0 : Int32)) := D99 (Or.inr (hw _ (List.mem_of_getElem? (i := 36) rfl))) (ty := .byte) (by decide)
    have f106 : Fld Z h99 b99 "java/lang/String" "value" "[B" .null := D99 (Or.inr (hw _ (List.mem_of_getElem? (i := 38) rfl))) (ty := (.array .byte)) (by decide)
    refine Go.st (T' := T99) (g' := (mkF m 73 #[rv src, iv (3 : Int32)] [(.ref b99)])) ?_ st99
    refine Go.st (T' := T99) (g' := (mkF m 75 #[rv src, iv (3 : Int32)] [(.int (3 : Int32)), (.ref b99), (.ref b99)])) ?_ (fun _ kk_ => XS.dup X99.here hx rfl (hb hby dmak_73) rfl rfl (XS.iconst X99.here hx rfl (hb hby dmak_74) kk_))
    refine Go.newP X99 hx hZ (aty := .char) (hw _ (List.mem_of_getElem? (i := 1) rfl)) e99 rfl (hb hby dmak_75) (n := 3) rfl rfl 3 (by decide) (by decide) (by decide) (by decide) ?_
    intro T107 h107 b107 X107 e107 E107 g107 V107
    have f108 := (V_src.ext E99)
    have ne_src_b107 : src ≠ b107 := Nat.ne_of_lt (Nat.lt_of_lt_of_eq f108.lt g107.symm)
    have ne_b99_b107 : b99 ≠ b107 := Nat.ne_of_lt (Nat.lt_of_lt_of_eq A99.lt g107.symm)
    have g_b107 : n0 ≤ b107 := Nat.le_trans Z102 (Nat.le_of_eq g107.symm)
    have sz_b107 : h0.size ≤ b107 := Nat.le_trans K103.1 (Nat.le_of_eq g107.symm)
    have HS109 := HS.ext HS100 E107
    have O110 := O101.ext E107
    have Z111 : n0 ≤ h107.size := Nat.le_trans Z102 E107.1
    have K112 : Keep h0 h107 ([] : List Addr) := K103.ext E107
    change Ary Z h107 b107 .char [.int 0, .int 0, .int 0] at V107
    have sf113 := Sf.born HS100 E107 g107 V107.lt
    show Go p e below _ T107 (mkF m 77 #[rv src, iv (3 : Int32)] [(.ref b107), (.ref b99), (.ref b99)])
    refine Go.st (T' := T107) (g' := (mkF m 81 #[rv src, iv (3 : Int32)] [(.int (0 : Int32)), (.ref src), (.int (0 : Int32)), (.ref b107), (.ref b107), (.ref b99), (.ref b99)])) ?_ (fun _ kk_ => XS.dup X107.here hx rfl (hb hby dmak_77) rfl rfl (XS.iconst X107.here hx rfl (hb hby dmak_78) (XS.aloadN X107.here hx rfl (hb hby dmak_79) rfl rfl  (XS.iconst X107.here hx rfl (hb hby dmak_80) kk_))))
    have f114 := (f108.ext E107)
    refine Go.st (T' := T107) (g' := (mkF m 82 #[rv src, iv (3 : Int32)] [(.int (Int32.ofNat (ch 0))), (.int (0 : Int32)), (.ref b107), (.ref b107), (.ref b99), (.ref b99)])) ?_ (fun _ kk_ => own_caload X107 hx hZ e107 f114 (i := 0) (v := (.int (Int32.ofNat (ch 0)))) (IL_at (by decide)) rfl rfl rfl (hb hby dmak_81) kk_)
    refine Go.castore X107 hx hZ e107 V107 (y := (Int32.ofNat (ch 0))) (ch_sto _ (hc 0)) (i := 0) (Nat.le_of_ble_eq_true rfl) rfl rfl rfl (hb hby dmak_82) ?_
    intro T115 h115 X115 e115 W115 V115
    have N116 := Fr.snoc X115 N0 g_b107
    have HS117 := HS.wr HS109 W115 (sf113).1
    have O118 := O110.wr W115 g_b107
    change Ary Z h115 b107 .char [.int (Int32.ofNat (ch 0)), .int 0, .int 0] at V115
    have K119 : Keep h0 h115 ([] : List Addr) := K112.wr W115 (Or.inr sz_b107)
    have Z120 : n0 ≤ h115.size := by rw [W115.size]; exact Z111
    show Go p e below _ T115 (mkF m 83 #[rv src, iv (3 : Int32)] [(.ref b107), (.ref b99), (.ref b99)])
    refine Go.st (T' := T115) (g' := (mkF m 87 #[rv src, iv (3 : Int32)] [(.int (1 : Int32)), (.ref src), (.int (1 : Int32)), (.ref b107), (.ref b107), (.ref b99), (.ref b99)])) ?_ (fun _ kk_ => XS.dup X115.here hx rfl (hb hby dmak_83) rfl rfl (XS.iconst X115.here hx rfl (hb hby dmak_84) (XS.aloadN X115.here hx rfl (hb hby dmak_85) rfl rfl  (XS.iconst X115.here hx rfl (hb hby dmak_86) kk_))))
    have f121 := (f114.other W115 ne_src_b107)
    refine Go.st (T' := T115) (g' := (mkF m 88 #[rv src, iv (3 : Int32)] [(.int (Int32.ofNat (ch 1))), (.int (1 : Int32)), (.ref b107), (.ref b107), (.ref b99), (.ref b99)])) ?_ (fun _ kk_ => own_caload X115 hx hZ e115 f121 (i := 1) (v := (.int (Int32.ofNat (ch 1)))) (IL_at (by decide)) rfl rfl rfl (hb hby dmak_87) kk_)
    refine Go.castore X115 hx hZ e115 V115 (y := (Int32.ofNat (ch 1))) (ch_sto _ (hc 1)) (i := 1) (Nat.le_of_ble_eq_true rfl) rfl rfl rfl (hb hby dmak_88) ?_
    intro T122 h122 X122 e122 W122 V122
    have N123 := Fr.snoc X122 N116 g_b107
    have f125 := (Sf.wr HS109 W115 (sf113).1 sf113)
    have HS124 := HS.wr HS117 W122 (f125).1
    have O126 := O118.wr W122 g_b107
    change Ary Z h122 b107 .char [.int (Int32.ofNat (ch 0)), .int (Int32.ofNat (ch 1)), .int 0] at V122
    have K127 : Keep h0 h122 ([] : List Addr) := K119.wr W122 (Or.inr sz_b107)
    have Z128 : n0 ≤ h122.size := by rw [W122.size]; exact Z120
    show Go p e below _ T122 (mkF m 89 #[rv src, iv (3 : Int32)] [(.ref b107), (.ref b99), (.ref b99)])
    refine Go.st (T' := T122) (g' := (mkF m 93 #[rv src, iv (3 : Int32)] [(.int (2 : Int32)), (.ref src), (.int (2 : Int32)), (.ref b107), (.ref b107), (.ref b99), (.ref b99)])) ?_ (fun _ kk_ => XS.dup X122.here hx rfl (hb hby dmak_89) rfl rfl (XS.iconst X122.here hx rfl (hb hby dmak_90) (XS.aloadN X122.here hx rfl (hb hby dmak_91) rfl rfl  (XS.iconst X122.here hx rfl (hb hby dmak_92) kk_))))
    have f129 := (f121.other W122 ne_src_b107)
    refine Go.st (T' := T122) (g' := (mkF m 94 #[rv src, iv (3 : Int32)] [(.int (Int32.ofNat (ch 2))), (.int (2 : Int32)), (.ref b107), (.ref b107), (.ref b99), (.ref b99)])) ?_ (fun _ kk_ => own_caload X122 hx hZ e122 f129 (i := 2) (v := (.int (Int32.ofNat (ch 2)))) (IL_at (by decide)) rfl rfl rfl (hb hby dmak_93) kk_)
    refine Go.castore X122 hx hZ e122 V122 (y := (Int32.ofNat (ch 2))) (ch_sto _ (hc 2)) (i := 2) (Nat.le_of_ble_eq_true rfl) rfl rfl rfl (hb hby dmak_94) ?_
    intro T130 h130 X130 e130 W130 V130
    have N131 := Fr.snoc X130 N123 g_b107
    have f133 := (Sf.wr HS117 W122 (f125).1 f125)
    have HS132 := HS.wr HS124 W130 (f133).1
    have O134 := O126.wr W130 g_b107
    change Ary Z h130 b107 .char [.int (Int32.ofNat (ch 0)), .int (Int32.ofNat (ch 1)), .int (Int32.ofNat (ch 2))] at V130
    have K135 : Keep h0 h130 ([] : List Addr) := K127.wr W130 (Or.inr sz_b107)
    have Z136 : n0 ≤ h130.size := by rw [W130.size]; exact Z128
    show Go p e below _ T130 (mkF m 95 #[rv src, iv (3 : Int32)] [(.ref b107), (.ref b99), (.ref b99)])
    have f137 := ((((A99.ext E107).wr W115).wr W122).wr W130)
    have f138 := ((((f106.ext E107).other W115 (Or.inl ne_b99_b107)).other W122 (Or.inl ne_b99_b107)).other W130 (Or.inl ne_b99_b107))
    have f139 := ((((f105.ext E107).other W115 (Or.inl ne_b99_b107)).other W122 (Or.inl ne_b99_b107)).other W130 (Or.inl ne_b99_b107))
    refine Go.callN (y := (⟨"java/lang/String", "<init>", "([C)V"⟩ : MethodName)) X130 hx hZ rfl hown (hw _ (List.mem_of_getElem? (i := 13) rfl)) (hw _ (List.mem_of_getElem? (i := 14) rfl)) (hw _ (List.mem_of_getElem? (i := 12) rfl)) (hw _ (List.mem_of_getElem? (i := 15) rfl)) (by decide) 1 (rm_in1 l Z a0 hw [] b99 b107 3 ch n0 cS h130 Z136 (by decide) (by decide) (fun q _ => hc q) V130 f137 f138 f139 g_b99 O134 Sc hcS ne_b99_b107) e130 (by decide) (by decide) (by decide) (by decide) (a := b99) (argsL := [(.ref b107)]) (rest := [(.ref b99)]) rfl (by rw [hml]; rfl) (lenOf pd__28_5bC_29V rfl) rfl rfl (by show 2 * 0 + _ ≤ _; exact Nat.le_of_eq rfl) (hb hby dmak_95) ?_
    rintro _ T140 L140 X140 ⟨rfl, N140, K140, Fc140, t, tz, Fv140, V140⟩
    have N141 := Fr.app N131 N140
    have f143 := (Sf.wr HS124 W130 (f133).1 (Sf.wr HS117 W122 (f125).1 (Sf.wr HS109 W115 (sf113).1 (Sf.ext HS100 E107 sf104))))
    have HS142 := HS.keep HS132 K140 (sfS (f143).1 sf0)
    have O144 := O134.keep K140 (allS (P := fun z_ => n0 ≤ z_) g_b99 all0)
    have Z145 : n0 ≤ T140.heap.size := Nat.le_trans Z136 K140.1
    have K146 : Keep h0 T140.heap ([] : List Addr) := K135.trans K140 (allS (P := fun z_ => z_ ∈ ([] : List Addr) ∨ h0.size ≤ z_) (Or.inr sz_b99) all0)
    show Go p e below _ T140 (mkF m 98 #[rv src, iv (3 : Int32)] [(.ref b99)])
    have f147 := (f137.keep K140)
    refine Go.retAH X140 hx hlk hret rfl rfl (hb hby dmak_98) (by decide) (by decide) hZ hEL HS142 ?_
    exact ⟨b99, t, rfl, N141, K146, sz_b99, f147, Fc140, Fv140, V140⟩
  ·
    show Go p e below _ s₁ (mkF m 0 #[rv src, iv (4 : Int32)] [])
    refine Go.st (T' := s₁) (g' := (mkF m 104 #[rv src, iv (4 : Int32)] [])) ?_ (fun _ kk_ => XS.iloadN X0.here hx rfl (hb hby dmak_0) rfl  (XS.ifYes X0.here hx rfl (pc0 := 1) (pc' := 15) rfl (hb hby dmak_1) rfl ((if0 _ _).trans (feq ((by decide) : ¬ ((4 : Int32) = (0 : Int32)))).2) (by decide) (by decide) (XS.iloadN X0.here hx rfl (hb hby dmak_15) rfl  (XS.iconst X0.here hx rfl (hb hby dmak_16) (XS.icmpYes X0.here hx rfl (pc0 := 17) (pc' := 37) rfl (hb hby dmak_17) rfl (feq ((by decide) : ¬ ((4 : Int32) = (1 : Int32)))).2 (by decide) (by decide) (XS.iloadN X0.here hx rfl (hb hby dmak_37) rfl  (XS.iconst X0.here hx rfl (hb hby dmak_38) (XS.icmpYes X0.here hx rfl (pc0 := 39) (pc' := 65) rfl (hb hby dmak_39) rfl (feq ((by decide) : ¬ ((4 : Int32) = (2 : Int32)))).2 (by decide) (by decide) (XS.iloadN X0.here hx rfl (hb hby dmak_65) rfl  (XS.iconst X0.here hx rfl (hb hby dmak_66) (XS.icmpYes X0.here hx rfl (pc0 := 67) (pc' := 99) rfl (hb hby dmak_67) rfl (feq ((by decide) : ¬ ((4 : Int32) = (3 : Int32)))).2 (by decide) (by decide) (XS.iloadN X0.here hx rfl (hb hby dmak_99) rfl  (XS.iconst X0.here hx rfl (hb hby dmak_100) (XS.icmpNo X0.here hx rfl (hb hby dmak_101) rfl (teq ((by decide) : (4 : Int32) = (4 : Int32))).2 kk_))))))))))))))
    obtain ⟨T148, h148, X148, e148, E148, A148, D148, -, st148⟩ := newO X0 hx hZ hown (hw _ (List.mem_of_getElem? (i := 10) rfl)) (hw _ (List.mem_of_getElem? (i := 11) rfl)) (hw _ (List.mem_of_getElem? (i := 12) rfl)) e0 (g := (mkF m 104 #[rv src, iv (4 : Int32)] [])) rfl (hb hby dmak_104) (by decide) (by decide)
    obtain ⟨b148, g148⟩ : ∃ z, z = h0.size := ⟨_, rfl⟩
    rw [← g148] at A148 D148 st148
    have ne_src_b148 : src ≠ b148 := Nat.ne_of_lt (Nat.lt_of_lt_of_eq V_src.lt g148.symm)
    have g_b148 : n0 ≤ b148 := Nat.le_trans Z0 (Nat.le_of_eq g148.symm)
    have sz_b148 : h0.size ≤ b148 := Nat.le_trans K0.1 (Nat.le_of_eq g148.symm)
    have HS149 := HS.ext HS0 E148
    have O150 := O0.ext E148
    have Z151 : n0 ≤ h148.size := Nat.le_trans Z0 E148.1
    have K152 : Keep h0 h148 ([] : List Addr) := K0.ext E148
    have sf153 := Sf.born HS0 E148 g148 A148.lt
    have f154 : Fld Z h148 b148 "java/lang/String" "coder" "B" (.int (0 : Int32)) := D148 (Or.inr (hw _ (List.mem_of_getElem? (i := 36) rfl))) (ty := .byte) (by decide)
    have f155 : Fld Z h148 b148 "java/lang/String" "value" "[B" .null := D148 (Or.inr (hw _ (List.mem_of_getElem? (i := 38) rfl))) (ty := (.array .byte)) (by decide)
    refine Go.st (T' := T148) (g' := (mkF m 107 #[rv src, iv (4 : Int32)] [(.ref b148)])) ?_ st148
    refine Go.st (T' := T148) (g' := (mkF m 109 #[rv src, iv (4 : Int32)] [(.int (4 : Int32)), (.ref b148), (.ref b148)])) ?_ (fun _ kk_ => XS.dup X148.here hx rfl (hb hby dmak_107) rfl rfl (XS.iconst X148.here hx rfl (hb hby dmak_108) kk_))
    refine Go.newP X148 hx hZ (aty := .char) (hw _ (List.mem_of_getElem? (i := 1) rfl)) e148 rfl (hb hby dmak_109) (n := 4) rfl rfl 4 (by decide) (by decide) (by decide) (by decide) ?_
    intro T156 h156 b156 X156 e156 E156 g156 V156
    have f157 := (V_src.ext E148)
    have ne_src_b156 : src ≠ b156 := Nat.ne_of_lt (Nat.lt_of_lt_of_eq f157.lt g156.symm)
    have ne_b148_b156 : b148 ≠ b156 := Nat.ne_of_lt (Nat.lt_of_lt_of_eq A148.lt g156.symm)
    have g_b156 : n0 ≤ b156 := Nat.le_trans Z151 (Nat.le_of_eq g156.symm)
    have sz_b156 : h0.size ≤ b156 := Nat.le_trans K152.1 (Nat.le_of_eq g156.symm)
    have HS158 := HS.ext HS149 E156
    have O159 := O150.ext E156
    have Z160 : n0 ≤ h156.size := Nat.le_trans Z151 E156.1
    have K161 : Keep h0 h156 ([] : List Addr) := K152.ext E156
    change Ary Z h156 b156 .char [.int 0, .int 0, .int 0, .int 0] at V156
    have sf162 := Sf.born HS149 E156 g156 V156.lt
    show Go p e below _ T156 (mkF m 111 #[rv src, iv (4 : Int32)] [(.ref b156), (.ref b148), (.ref b148)])
    refine Go.st (T' := T156) (g' := (mkF m 115 #[rv src, iv (4 : Int32)] [(.int (0 : Int32)), (.ref src), (.int (0 : Int32)), (.ref b156), (.ref b156), (.ref b148), (.ref b148)])) ?_ (fun _ kk_ => XS.dup X156.here hx rfl (hb hby dmak_111) rfl rfl (XS.iconst X156.here hx rfl (hb hby dmak_112) (XS.aloadN X156.here hx rfl (hb hby dmak_113) rfl rfl  (XS.iconst X156.here hx rfl (hb hby dmak_114) kk_))))
    have f163 := (f157.ext E156)
    refine Go.st (T' := T156) (g' := (mkF m 116 #[rv src, iv (4 : Int32)] [(.int (Int32.ofNat (ch 0))), (.int (0 : Int32)), (.ref b156), (.ref b156), (.ref b148), (.ref b148)])) ?_ (fun _ kk_ => own_caload X156 hx hZ e156 f163 (i := 0) (v := (.int (Int32.ofNat (ch 0)))) (IL_at (by decide)) rfl rfl rfl (hb hby dmak_115) kk_)
    refine Go.castore X156 hx hZ e156 V156 (y := (Int32.ofNat (ch 0))) (ch_sto _ (hc 0)) (i := 0) (Nat.le_of_ble_eq_true rfl) rfl rfl rfl (hb hby dmak_116) ?_
    intro T164 h164 X164 e164 W164 V164
    have N165 := Fr.snoc X164 N0 g_b156
    have HS166 := HS.wr HS158 W164 (sf162).1
    have O167 := O159.wr W164 g_b156
    change Ary Z h164 b156 .char [.int (Int32.ofNat (ch 0)), .int 0, .int 0, .int 0] at V164
    have K168 : Keep h0 h164 ([] : List Addr) := K161.wr W164 (Or.inr sz_b156)
    have Z169 : n0 ≤ h164.size := by rw [W164.size]; exact Z160
    show Go p e below _ T164 (mkF m 117 #[rv src, iv (4 : Int32)] [(.ref b156), (.ref b148), (.ref b148)])
    refine Go.st (T' := T164) (g' := (mkF m 121 #[rv src, iv (4 : Int32)] [(.int (1 : Int32)), (.ref src), (.int (1 : Int32)), (.ref b156), (.ref b156), (.ref b148), (.ref b148)])) ?_ (fun _ kk_ => XS.dup X164.here hx rfl (hb hby dmak_117) rfl rfl (XS.iconst X164.here hx rfl (hb hby dmak_118) (XS.aloadN X164.here hx rfl (hb hby dmak_119) rfl rfl  (XS.iconst X164.here hx rfl (hb hby dmak_120) kk_))))
    have f170 := (f163.other W164 ne_src_b156)
    refine Go.st (T' := T164) (g' := (mkF m 122 #[rv src, iv (4 : Int32)] [(.int (Int32.ofNat (ch 1))), (.int (1 : Int32)), (.ref b156), (.ref b156), (.ref b148), (.ref b148)])) ?_ (fun _ kk_ => own_caload X164 hx hZ e164 f170 (i := 1) (v := (.int (Int32.ofNat (ch 1)))) (IL_at (by decide)) rfl rfl rfl (hb hby dmak_121) kk_)
    refine Go.castore X164 hx hZ e164 V164 (y := (Int32.ofNat (ch 1))) (ch_sto _ (hc 1)) (i := 1) (Nat.le_of_ble_eq_true rfl) rfl rfl rfl (hb hby dmak_122) ?_
    intro T171 h171 X171 e171 W171 V171
    have N172 := Fr.snoc X171 N165 g_b156
    have f174 := (Sf.wr HS158 W164 (sf162).1 sf162)
    have HS173 := HS.wr HS166 W171 (f174).1
    have O175 := O167.wr W171 g_b156
    change Ary Z h171 b156 .char [.int (Int32.ofNat (ch 0)), .int (Int32.ofNat (ch 1)), .int 0, .int 0] at V171
    have K176 : Keep h0 h171 ([] : List Addr) := K168.wr W171 (Or.inr sz_b156)
    have Z177 : n0 ≤ h171.size := by rw [W171.size]; exact Z169
    show Go p e below _ T171 (mkF m 123 #[rv src, iv (4 : Int32)] [(.ref b156), (.ref b148), (.ref b148)])
    refine Go.st (T' := T171) (g' := (mkF m 127 #[rv src, iv (4 : Int32)] [(.int (2 : Int32)), (.ref src), (.int (2 : Int32)), (.ref b156), (.ref b156), (.ref b148), (.ref b148)])) ?_ (fun _ kk_ => XS.dup X171.here hx rfl (hb hby dmak_123) rfl rfl (XS.iconst X171.here hx rfl (hb hby dmak_124) (XS.aloadN X171.here hx rfl (hb hby dmak_125) rfl rfl  (XS.iconst X171.here hx rfl (hb hby dmak_126) kk_))))
    have f178 := (f170.other W171 ne_src_b156)
    refine Go.st (T' := T171) (g' := (mkF m 128 #[rv src, iv (4 : Int32)] [(.int (Int32.ofNat (ch 2))), (.int (2 : Int32)), (.ref b156), (.ref b156), (.ref b148), (.ref b148)])) ?_ (fun _ kk_ => own_caload X171 hx hZ e171 f178 (i := 2) (v := (.int (Int32.ofNat (ch 2)))) (IL_at (by decide)) rfl rfl rfl (hb hby dmak_127) kk_)
    refine Go.castore X171 hx hZ e171 V171 (y := (Int32.ofNat (ch 2))) (ch_sto _ (hc 2)) (i := 2) (Nat.le_of_ble_eq_true rfl) rfl rfl rfl (hb hby dmak_128) ?_
    intro T179 h179 X179 e179 W179 V179
    have N180 := Fr.snoc X179 N172 g_b156
    have f182 := (Sf.wr HS166 W171 (f174).1 f174)
    have HS181 := HS.wr HS173 W179 (f182).1
    have O183 := O175.wr W179 g_b156
    change Ary Z h179 b156 .char [.int (Int32.ofNat (ch 0)), .int (Int32.ofNat (ch 1)), .int (Int32.ofNat (ch 2)), .int 0] at V179
    have K184 : Keep h0 h179 ([] : List Addr) := K176.wr W179 (Or.inr sz_b156)
    have Z185 : n0 ≤ h179.size := by rw [W179.size]; exact Z177
    show Go p e below _ T179 (mkF m 129 #[rv src, iv (4 : Int32)] [(.ref b156), (.ref b148), (.ref b148)])
    refine Go.st (T' := T179) (g' := (mkF m 133 #[rv src, iv (4 : Int32)] [(.int (3 : Int32)), (.ref src), (.int (3 : Int32)), (.ref b156), (.ref b156), (.ref b148), (.ref b148)])) ?_ (fun _ kk_ => XS.dup X179.here hx rfl (hb hby dmak_129) rfl rfl (XS.iconst X179.here hx rfl (hb hby dmak_130) (XS.aloadN X179.here hx rfl (hb hby dmak_131) rfl rfl  (XS.iconst X179.here hx rfl (hb hby dmak_132) kk_))))
    have f186 := (f178.other W179 ne_src_b156)
    refine Go.st (T' := T179) (g' := (mkF m 134 #[rv src, iv (4 : Int32)] [(.int (Int32.ofNat (ch 3))), (.int (3 : Int32)), (.ref b156), (.ref b156), (.ref b148), (.ref b148)])) ?_ (fun _ kk_ => own_caload X179 hx hZ e179 f186 (i := 3) (v := (.int (Int32.ofNat (ch 3)))) (IL_at (by decide)) rfl rfl rfl (hb hby dmak_133) kk_)
    refine Go.castore X179 hx hZ e179 V179 (y := (Int32.ofNat (ch 3))) (ch_sto _ (hc 3)) (i := 3) (Nat.le_of_ble_eq_true rfl) rfl rfl rfl (hb hby dmak_134) ?_
    intro T187 h187 X187 e187 W187 V187
    have N188 := Fr.snoc X187 N180 g_b156
    have f190 := (Sf.wr HS173 W179 (f182).1 f182)
    have HS189 := HS.wr HS181 W187 (f190).1
    have O191 := O183.wr W187 g_b156
    change Ary Z h187 b156 .char [.int (Int32.ofNat (ch 0)), .int (Int32.ofNat (ch 1)), .int (Int32.ofNat (ch 2)), .int (Int32.ofNat (ch 3))] at V187
    have K192 : Keep h0 h187 ([] : List Addr) := K184.wr W187 (Or.inr sz_b156)
    have Z193 : n0 ≤ h187.size := by rw [W187.size]; exact Z185
    show Go p e below _ T187 (mkF m 135 #[rv src, iv (4 : Int32)] [(.ref b156), (.ref b148), (.ref b148)])
    have f194 := (((((A148.ext E156).wr W164).wr W171).wr W179).wr W187)
    have f195 := (((((f155.ext E156).other W164 (Or.inl ne_b148_b156)).other W171 (Or.inl ne_b148_b156)).other W179 (Or.inl ne_b148_b156)).other W187 (Or.inl ne_b148_b156))
    have f196 := (((((f154.ext E156).other W164 (Or.inl ne_b148_b156)).other W171 (Or.inl ne_b148_b156)).other W179 (Or.inl ne_b148_b156)).other W187 (Or.inl ne_b148_b156))
    refine Go.callN (y := (⟨"java/lang/String", "<init>", "([C)V"⟩ : MethodName)) X187 hx hZ rfl hown (hw _ (List.mem_of_getElem? (i := 13) rfl)) (hw _ (List.mem_of_getElem? (i := 14) rfl)) (hw _ (List.mem_of_getElem? (i := 12) rfl)) (hw _ (List.mem_of_getElem? (i := 15) rfl)) (by decide) 1 (rm_in1 l Z a0 hw [] b148 b156 4 ch n0 cS h187 Z193 (by decide) (by decide) (fun q _ => hc q) V187 f194 f195 f196 g_b148 O191 Sc hcS ne_b148_b156) e187 (by decide) (by decide) (by decide) (by decide) (a := b148) (argsL := [(.ref b156)]) (rest := [(.ref b148)]) rfl (by rw [hml]; rfl) (lenOf pd__28_5bC_29V rfl) rfl rfl (by show 2 * 0 + _ ≤ _; exact Nat.le_of_eq rfl) (hb hby dmak_135) ?_
    rintro _ T197 L197 X197 ⟨rfl, N197, K197, Fc197, t, tz, Fv197, V197⟩
    have N198 := Fr.app N188 N197
    have f200 := (Sf.wr HS181 W187 (f190).1 (Sf.wr HS173 W179 (f182).1 (Sf.wr HS166 W171 (f174).1 (Sf.wr HS158 W164 (sf162).1 (Sf.ext HS149 E156 sf153)))))
    have HS199 := HS.keep HS189 K197 (sfS (f200).1 sf0)
    have O201 := O191.keep K197 (allS (P := fun z_ => n0 ≤ z_) g_b148 all0)
    have Z202 : n0 ≤ T197.heap.size := Nat.le_trans Z193 K197.1
    have K203 : Keep h0 T197.heap ([] : List Addr) := K192.trans K197 (allS (P := fun z_ => z_ ∈ ([] : List Addr) ∨ h0.size ≤ z_) (Or.inr sz_b148) all0)
    show Go p e below _ T197 (mkF m 138 #[rv src, iv (4 : Int32)] [(.ref b148)])
    have f204 := (f194.keep K197)
    refine Go.retAH X197 hx hlk hret rfl rfl (hb hby dmak_138) (by decide) (by decide) hZ hEL HS199 ?_
    exact ⟨b148, t, rfl, N198, K203, sz_b148, f204, Fc197, Fv197, V197⟩
  ·
    show Go p e below _ s₁ (mkF m 0 #[rv src, iv (5 : Int32)] [])
    refine Go.st (T' := s₁) (g' := (mkF m 139 #[rv src, iv (5 : Int32)] [])) ?_ (fun _ kk_ => XS.iloadN X0.here hx rfl (hb hby dmak_0) rfl  (XS.ifYes X0.here hx rfl (pc0 := 1) (pc' := 15) rfl (hb hby dmak_1) rfl ((if0 _ _).trans (feq ((by decide) : ¬ ((5 : Int32) = (0 : Int32)))).2) (by decide) (by decide) (XS.iloadN X0.here hx rfl (hb hby dmak_15) rfl  (XS.iconst X0.here hx rfl (hb hby dmak_16) (XS.icmpYes X0.here hx rfl (pc0 := 17) (pc' := 37) rfl (hb hby dmak_17) rfl (feq ((by decide) : ¬ ((5 : Int32) = (1 : Int32)))).2 (by decide) (by decide) (XS.iloadN X0.here hx rfl (hb hby dmak_37) rfl  (XS.iconst X0.here hx rfl (hb hby dmak_38) (XS.icmpYes X0.here hx rfl (pc0 := 39) (pc' := 65) rfl (hb hby dmak_39) rfl (feq ((by decide) : ¬ ((5 : Int32) = (2 : Int32)))).2 (by decide) (by decide) (XS.iloadN X0.here hx rfl (hb hby dmak_65) rfl  (XS.iconst X0.here hx rfl (hb hby dmak_66) (XS.icmpYes X0.here hx rfl (pc0 := 67) (pc' := 99) rfl (hb hby dmak_67) rfl (feq ((by decide) : ¬ ((5 : Int32) = (3 : Int32)))).2 (by decide) (by decide) (XS.iloadN X0.here hx rfl (hb hby dmak_99) rfl  (XS.iconst X0.here hx rfl (hb hby dmak_100) (XS.icmpYes X0.here hx rfl (pc0 := 101) (pc' := 139) rfl (hb hby dmak_101) rfl (feq ((by decide) : ¬ ((5 : Int32) = (4 : Int32)))).2 (by decide) (by decide) kk_))))))))))))))
    refine Go.st (T' := s₁) (g' := (mkF m 144 #[rv src, iv (5 : Int32)] [])) ?_ (fun _ kk_ => XS.iloadN X0.here hx rfl (hb hby dmak_139) rfl  (XS.iconst X0.here hx rfl (hb hby dmak_140) (XS.icmpNo X0.here hx rfl (hb hby dmak_141) rfl (teq ((by decide) : (5 : Int32) = (5 : Int32))).2 kk_)))
    obtain ⟨T205, h205, X205, e205, E205, A205, D205, -, st205⟩ := newO X0 hx hZ hown (hw _ (List.mem_of_getElem? (i := 10) rfl)) (hw _ (List.mem_of_getElem? (i := 11) rfl)) (hw _ (List.mem_of_getElem? (i := 12) rfl)) e0 (g := (mkF m 144 #[rv src, iv (5 : Int32)] [])) rfl (hb hby dmak_144) (by decide) (by decide)
    obtain ⟨b205, g205⟩ : ∃ z, z = h0.size := ⟨_, rfl⟩
    rw [← g205] at A205 D205 st205
    have ne_src_b205 : src ≠ b205 := Nat.ne_of_lt (Nat.lt_of_lt_of_eq V_src.lt g205.symm)
    have g_b205 : n0 ≤ b205 := Nat.le_trans Z0 (Nat.le_of_eq g205.symm)
    have sz_b205 : h0.size ≤ b205 := Nat.le_trans K0.1 (Nat.le_of_eq g205.symm)
    have HS206 := HS.ext HS0 E205
    have O207 := O0.ext E205
    have Z208 : n0 ≤ h205.size := Nat.le_trans Z0 E205.1
    have K209 : Keep h0 h205 ([] : List Addr) := K0.ext E205
    have sf210 := Sf.born HS0 E205 g205 A205.lt
    have f211 : Fld Z h205 b205 "java/lang/String" "coder" "B" (.int (0 : Int32)) := D205 (Or.inr (hw _ (List.mem_of_getElem? (i := 36) rfl))) (ty := .byte) (by decide)
    have f212 : Fld Z h205 b205 "java/lang/String" "value" "[B" .null := D205 (Or.inr (hw _ (List.mem_of_getElem? (i := 38) rfl))) (ty := (.array .byte)) (by decide)
    refine Go.st (T' := T205) (g' := (mkF m 147 #[rv src, iv (5 : Int32)] [(.ref b205)])) ?_ st205
    refine Go.st (T' := T205) (g' := (mkF m 149 #[rv src, iv (5 : Int32)] [(.int (5 : Int32)), (.ref b205), (.ref b205)])) ?_ (fun _ kk_ => XS.dup X205.here hx rfl (hb hby dmak_147) rfl rfl (XS.iconst X205.here hx rfl (hb hby dmak_148) kk_))
    refine Go.newP X205 hx hZ (aty := .char) (hw _ (List.mem_of_getElem? (i := 1) rfl)) e205 rfl (hb hby dmak_149) (n := 5) rfl rfl 5 (by decide) (by decide) (by decide) (by decide) ?_
    intro T213 h213 b213 X213 e213 E213 g213 V213
    have f214 := (V_src.ext E205)
    have ne_src_b213 : src ≠ b213 := Nat.ne_of_lt (Nat.lt_of_lt_of_eq f214.lt g213.symm)
    have ne_b205_b213 : b205 ≠ b213 := Nat.ne_of_lt (Nat.lt_of_lt_of_eq A205.lt g213.symm)
    have g_b213 : n0 ≤ b213 := Nat.le_trans Z208 (Nat.le_of_eq g213.symm)
    have sz_b213 : h0.size ≤ b213 := Nat.le_trans K209.1 (Nat.le_of_eq g213.symm)
    have HS215 := HS.ext HS206 E213
    have O216 := O207.ext E213
    have Z217 : n0 ≤ h213.size := Nat.le_trans Z208 E213.1
    have K218 : Keep h0 h213 ([] : List Addr) := K209.ext E213
    change Ary Z h213 b213 .char [.int 0, .int 0, .int 0, .int 0, .int 0] at V213
    have sf219 := Sf.born HS206 E213 g213 V213.lt
    show Go p e below _ T213 (mkF m 151 #[rv src, iv (5 : Int32)] [(.ref b213), (.ref b205), (.ref b205)])
    refine Go.st (T' := T213) (g' := (mkF m 155 #[rv src, iv (5 : Int32)] [(.int (0 : Int32)), (.ref src), (.int (0 : Int32)), (.ref b213), (.ref b213), (.ref b205), (.ref b205)])) ?_ (fun _ kk_ => XS.dup X213.here hx rfl (hb hby dmak_151) rfl rfl (XS.iconst X213.here hx rfl (hb hby dmak_152) (XS.aloadN X213.here hx rfl (hb hby dmak_153) rfl rfl  (XS.iconst X213.here hx rfl (hb hby dmak_154) kk_))))
    have f220 := (f214.ext E213)
    refine Go.st (T' := T213) (g' := (mkF m 156 #[rv src, iv (5 : Int32)] [(.int (Int32.ofNat (ch 0))), (.int (0 : Int32)), (.ref b213), (.ref b213), (.ref b205), (.ref b205)])) ?_ (fun _ kk_ => own_caload X213 hx hZ e213 f220 (i := 0) (v := (.int (Int32.ofNat (ch 0)))) (IL_at (by decide)) rfl rfl rfl (hb hby dmak_155) kk_)
    refine Go.castore X213 hx hZ e213 V213 (y := (Int32.ofNat (ch 0))) (ch_sto _ (hc 0)) (i := 0) (Nat.le_of_ble_eq_true rfl) rfl rfl rfl (hb hby dmak_156) ?_
    intro T221 h221 X221 e221 W221 V221
    have N222 := Fr.snoc X221 N0 g_b213
    have HS223 := HS.wr HS215 W221 (sf219).1
    have O224 := O216.wr W221 g_b213
    change Ary Z h221 b213 .char [.int (Int32.ofNat (ch 0)), .int 0, .int 0, .int 0, .int 0] at V221
    have K225 : Keep h0 h221 ([] : List Addr) := K218.wr W221 (Or.inr sz_b213)
    have Z226 : n0 ≤ h221.size := by rw [W221.size]; exact Z217
    show Go p e below _ T221 (mkF m 157 #[rv src, iv (5 : Int32)] [(.ref b213), (.ref b205), (.ref b205)])
    refine Go.st (T' := T221) (g' := (mkF m 161 #[rv src, iv (5 : Int32)] [(.int (1 : Int32)), (.ref src), (.int (1 : Int32)), (.ref b213), (.ref b213), (.ref b205), (.ref b205)])) ?_ (fun _ kk_ => XS.dup X221.here hx rfl (hb hby dmak_157) rfl rfl (XS.iconst X221.here hx rfl (hb hby dmak_158) (XS.aloadN X221.here hx rfl (hb hby dmak_159) rfl rfl  (XS.iconst X221.here hx rfl (hb hby dmak_160) kk_))))
    have f227 := (f220.other W221 ne_src_b213)
    refine Go.st (T' := T221) (g' := (mkF m 162 #[rv src, iv (5 : Int32)] [(.int (Int32.ofNat (ch 1))), (.int (1 : Int32)), (.ref b213), (.ref b213), (.ref b205), (.ref b205)])) ?_ (fun _ kk_ => own_caload X221 hx hZ e221 f227 (i := 1) (v := (.int (Int32.ofNat (ch 1)))) (IL_at (by decide)) rfl rfl rfl (hb hby dmak_161) kk_)
    refine Go.castore X221 hx hZ e221 V221 (y := (Int32.ofNat (ch 1))) (ch_sto _ (hc 1)) (i := 1) (Nat.le_of_ble_eq_true rfl) rfl rfl rfl (hb hby dmak_162) ?_
    intro T228 h228 X228 e228 W228 V228
    have N229 := Fr.snoc X228 N222 g_b213
    have f231 := (Sf.wr HS215 W221 (sf219).1 sf219)
    have HS230 := HS.wr HS223 W228 (f231).1
    have O232 := O224.wr W228 g_b213
    change Ary Z h228 b213 .char [.int (Int32.ofNat (ch 0)), .int (Int32.ofNat (ch 1)), .int 0, .int 0, .int 0] at V228
    have K233 : Keep h0 h228 ([] : List Addr) := K225.wr W228 (Or.inr sz_b213)
    have Z234 : n0 ≤ h228.size := by rw [W228.size]; exact Z226
    show Go p e below _ T228 (mkF m 163 #[rv src, iv (5 : Int32)] [(.ref b213), (.ref b205), (.ref b205)])
    refine Go.st (T' := T228) (g' := (mkF m 167 #[rv src, iv (5 : Int32)] [(.int (2 : Int32)), (.ref src), (.int (2 : Int32)), (.ref b213), (.ref b213), (.ref b205), (.ref b205)])) ?_ (fun _ kk_ => XS.dup X228.here hx rfl (hb hby dmak_163) rfl rfl (XS.iconst X228.here hx rfl (hb hby dmak_164) (XS.aloadN X228.here hx rfl (hb hby dmak_165) rfl rfl  (XS.iconst X228.here hx rfl (hb hby dmak_166) kk_))))
    have f235 := (f227.other W228 ne_src_b213)
    refine Go.st (T' := T228) (g' := (mkF m 168 #[rv src, iv (5 : Int32)] [(.int (Int32.ofNat (ch 2))), (.int (2 : Int32)), (.ref b213), (.ref b213), (.ref b205), (.ref b205)])) ?_ (fun _ kk_ => own_caload X228 hx hZ e228 f235 (i := 2) (v := (.int (Int32.ofNat (ch 2)))) (IL_at (by decide)) rfl rfl rfl (hb hby dmak_167) kk_)
    refine Go.castore X228 hx hZ e228 V228 (y := (Int32.ofNat (ch 2))) (ch_sto _ (hc 2)) (i := 2) (Nat.le_of_ble_eq_true rfl) rfl rfl rfl (hb hby dmak_168) ?_
    intro T236 h236 X236 e236 W236 V236
    have N237 := Fr.snoc X236 N229 g_b213
    have f239 := (Sf.wr HS223 W228 (f231).1 f231)
    have HS238 := HS.wr HS230 W236 (f239).1
    have O240 := O232.wr W236 g_b213
    change Ary Z h236 b213 .char [.int (Int32.ofNat (ch 0)), .int (Int32.ofNat (ch 1)), .int (Int32.ofNat (ch 2)), .int 0, .int 0] at V236
    have K241 : Keep h0 h236 ([] : List Addr) := K233.wr W236 (Or.inr sz_b213)
    have Z242 : n0 ≤ h236.size := by rw [W236.size]; exact Z234
    show Go p e below _ T236 (mkF m 169 #[rv src, iv (5 : Int32)] [(.ref b213), (.ref b205), (.ref b205)])
    refine Go.st (T' := T236) (g' := (mkF m 173 #[rv src, iv (5 : Int32)] [(.int (3 : Int32)), (.ref src), (.int (3 : Int32)), (.ref b213), (.ref b213), (.ref b205), (.ref b205)])) ?_ (fun _ kk_ => XS.dup X236.here hx rfl (hb hby dmak_169) rfl rfl (XS.iconst X236.here hx rfl (hb hby dmak_170) (XS.aloadN X236.here hx rfl (hb hby dmak_171) rfl rfl  (XS.iconst X236.here hx rfl (hb hby dmak_172) kk_))))
    have f243 := (f235.other W236 ne_src_b213)
    refine Go.st (T' := T236) (g' := (mkF m 174 #[rv src, iv (5 : Int32)] [(.int (Int32.ofNat (ch 3))), (.int (3 : Int32)), (.ref b213), (.ref b213), (.ref b205), (.ref b205)])) ?_ (fun _ kk_ => own_caload X236 hx hZ e236 f243 (i := 3) (v := (.int (Int32.ofNat (ch 3)))) (IL_at (by decide)) rfl rfl rfl (hb hby dmak_173) kk_)
    refine Go.castore X236 hx hZ e236 V236 (y := (Int32.ofNat (ch 3))) (ch_sto _ (hc 3)) (i := 3) (Nat.le_of_ble_eq_true rfl) rfl rfl rfl (hb hby dmak_174) ?_
    intro T244 h244 X244 e244 W244 V244
    have N245 := Fr.snoc X244 N237 g_b213
    have f247 := (Sf.wr HS230 W236 (f239).1 f239)
    have HS246 := HS.wr HS238 W244 (f247).1
    have O248 := O240.wr W244 g_b213
    change Ary Z h244 b213 .char [.int (Int32.ofNat (ch 0)), .int (Int32.ofNat (ch 1)), .int (Int32.ofNat (ch 2)), .int (Int32.ofNat (ch 3)), .int 0] at V244
    have K249 : Keep h0 h244 ([] : List Addr) := K241.wr W244 (Or.inr sz_b213)
    have Z250 : n0 ≤ h244.size := by rw [W244.size]; exact Z242
    show Go p e below _ T244 (mkF m 175 #[rv src, iv (5 : Int32)] [(.ref b213), (.ref b205), (.ref b205)])
    refine Go.st (T' := T244) (g' := (mkF m 179 #[rv src, iv (5 : Int32)] [(.int (4 : Int32)), (.ref src), (.int (4 : Int32)), (.ref b213), (.ref b213), (.ref b205), (.ref b205)])) ?_ (fun _ kk_ => XS.dup X244.here hx rfl (hb hby dmak_175) rfl rfl (XS.iconst X244.here hx rfl (hb hby dmak_176) (XS.aloadN X244.here hx rfl (hb hby dmak_177) rfl rfl  (XS.iconst X244.here hx rfl (hb hby dmak_178) kk_))))
    have f251 := (f243.other W244 ne_src_b213)
    refine Go.st (T' := T244) (g' := (mkF m 180 #[rv src, iv (5 : Int32)] [(.int (Int32.ofNat (ch 4))), (.int (4 : Int32)), (.ref b213), (.ref b213), (.ref b205), (.ref b205)])) ?_ (fun _ kk_ => own_caload X244 hx hZ e244 f251 (i := 4) (v := (.int (Int32.ofNat (ch 4)))) (IL_at (by decide)) rfl rfl rfl (hb hby dmak_179) kk_)
    refine Go.castore X244 hx hZ e244 V244 (y := (Int32.ofNat (ch 4))) (ch_sto _ (hc 4)) (i := 4) (Nat.le_of_ble_eq_true rfl) rfl rfl rfl (hb hby dmak_180) ?_
    intro T252 h252 X252 e252 W252 V252
    have N253 := Fr.snoc X252 N245 g_b213
    have f255 := (Sf.wr HS238 W244 (f247).1 f247)
    have HS254 := HS.wr HS246 W252 (f255).1
    have O256 := O248.wr W252 g_b213
    change Ary Z h252 b213 .char [.int (Int32.ofNat (ch 0)), .int (Int32.ofNat (ch 1)), .int (Int32.ofNat (ch 2)), .int (Int32.ofNat (ch 3)), .int (Int32.ofNat (ch 4))] at V252
    have K257 : Keep h0 h252 ([] : List Addr) := K249.wr W252 (Or.inr sz_b213)
    have Z258 : n0 ≤ h252.size := by rw [W252.size]; exact Z250
    show Go p e below _ T252 (mkF m 181 #[rv src, iv (5 : Int32)] [(.ref b213), (.ref b205), (.ref b205)])
    have f259 := ((((((A205.ext E213).wr W221).wr W228).wr W236).wr W244).wr W252)
    have f260 := ((((((f212.ext E213).other W221 (Or.inl ne_b205_b213)).other W228 (Or.inl ne_b205_b213)).other W236 (Or.inl ne_b205_b213)).other W244 (Or.inl ne_b205_b213)).other W252 (Or.inl ne_b205_b213))
    have f261 := ((((((f211.ext E213).other W221 (Or.inl ne_b205_b213)).other W228 (Or.inl ne_b205_b213)).other W236 (Or.inl ne_b205_b213)).other W244 (Or.inl ne_b205_b213)).other W252 (Or.inl ne_b205_b213))
    refine Go.callN (y := (⟨"java/lang/String", "<init>", "([C)V"⟩ : MethodName)) X252 hx hZ rfl hown (hw _ (List.mem_of_getElem? (i := 13) rfl)) (hw _ (List.mem_of_getElem? (i := 14) rfl)) (hw _ (List.mem_of_getElem? (i := 12) rfl)) (hw _ (List.mem_of_getElem? (i := 15) rfl)) (by decide) 1 (rm_in1 l Z a0 hw [] b205 b213 5 ch n0 cS h252 Z258 (by decide) (by decide) (fun q _ => hc q) V252 f259 f260 f261 g_b205 O256 Sc hcS ne_b205_b213) e252 (by decide) (by decide) (by decide) (by decide) (a := b205) (argsL := [(.ref b213)]) (rest := [(.ref b205)]) rfl (by rw [hml]; rfl) (lenOf pd__28_5bC_29V rfl) rfl rfl (by show 2 * 0 + _ ≤ _; exact Nat.le_of_eq rfl) (hb hby dmak_181) ?_
    rintro _ T262 L262 X262 ⟨rfl, N262, K262, Fc262, t, tz, Fv262, V262⟩
    have N263 := Fr.app N253 N262
    have f265 := (Sf.wr HS246 W252 (f255).1 (Sf.wr HS238 W244 (f247).1 (Sf.wr HS230 W236 (f239).1 (Sf.wr HS223 W228 (f231).1 (Sf.wr HS215 W221 (sf219).1 (Sf.ext HS206 E213 sf210))))))
    have HS264 := HS.keep HS254 K262 (sfS (f265).1 sf0)
    have O266 := O256.keep K262 (allS (P := fun z_ => n0 ≤ z_) g_b205 all0)
    have Z267 : n0 ≤ T262.heap.size := Nat.le_trans Z258 K262.1
    have K268 : Keep h0 T262.heap ([] : List Addr) := K257.trans K262 (allS (P := fun z_ => z_ ∈ ([] : List Addr) ∨ h0.size ≤ z_) (Or.inr sz_b205) all0)
    show Go p e below _ T262 (mkF m 184 #[rv src, iv (5 : Int32)] [(.ref b205)])
    have f269 := (f259.keep K262)
    refine Go.retAH X262 hx hlk hret rfl rfl (hb hby dmak_184) (by decide) (by decide) hZ hEL HS264 ?_
    exact ⟨b205, t, rfl, N263, K268, sz_b205, f269, Fc262, Fv262, V262⟩
  ·
    show Go p e below _ s₁ (mkF m 0 #[rv src, iv (6 : Int32)] [])
    refine Go.st (T' := s₁) (g' := (mkF m 139 #[rv src, iv (6 : Int32)] [])) ?_ (fun _ kk_ => XS.iloadN X0.here hx rfl (hb hby dmak_0) rfl  (XS.ifYes X0.here hx rfl (pc0 := 1) (pc' := 15) rfl (hb hby dmak_1) rfl ((if0 _ _).trans (feq ((by decide) : ¬ ((6 : Int32) = (0 : Int32)))).2) (by decide) (by decide) (XS.iloadN X0.here hx rfl (hb hby dmak_15) rfl  (XS.iconst X0.here hx rfl (hb hby dmak_16) (XS.icmpYes X0.here hx rfl (pc0 := 17) (pc' := 37) rfl (hb hby dmak_17) rfl (feq ((by decide) : ¬ ((6 : Int32) = (1 : Int32)))).2 (by decide) (by decide) (XS.iloadN X0.here hx rfl (hb hby dmak_37) rfl  (XS.iconst X0.here hx rfl (hb hby dmak_38) (XS.icmpYes X0.here hx rfl (pc0 := 39) (pc' := 65) rfl (hb hby dmak_39) rfl (feq ((by decide) : ¬ ((6 : Int32) = (2 : Int32)))).2 (by decide) (by decide) (XS.iloadN X0.here hx rfl (hb hby dmak_65) rfl  (XS.iconst X0.here hx rfl (hb hby dmak_66) (XS.icmpYes X0.here hx rfl (pc0 := 67) (pc' := 99) rfl (hb hby dmak_67) rfl (feq ((by decide) : ¬ ((6 : Int32) = (3 : Int32)))).2 (by decide) (by decide) (XS.iloadN X0.here hx rfl (hb hby dmak_99) rfl  (XS.iconst X0.here hx rfl (hb hby dmak_100) (XS.icmpYes X0.here hx rfl (pc0 := 101) (pc' := 139) rfl (hb hby dmak_101) rfl (feq ((by decide) : ¬ ((6 : Int32) = (4 : Int32)))).2 (by decide) (by decide) kk_))))))))))))))
    refine Go.st (T' := s₁) (g' := (mkF m 185 #[rv src, iv (6 : Int32)] [])) ?_ (fun _ kk_ => XS.iloadN X0.here hx rfl (hb hby dmak_139) rfl  (XS.iconst X0.here hx rfl (hb hby dmak_140) (XS.icmpYes X0.here hx rfl (pc0 := 141) (pc' := 185) rfl (hb hby dmak_141) rfl (feq ((by decide) : ¬ ((6 : Int32) = (5 : Int32)))).2 (by decide) (by decide) kk_)))
    obtain ⟨T270, h270, X270, e270, E270, A270, D270, -, st270⟩ := newO X0 hx hZ hown (hw _ (List.mem_of_getElem? (i := 10) rfl)) (hw _ (List.mem_of_getElem? (i := 11) rfl)) (hw _ (List.mem_of_getElem? (i := 12) rfl)) e0 (g := (mkF m 185 #[rv src, iv (6 : Int32)] [])) rfl (hb hby dmak_185) (by decide) (by decide)
    obtain ⟨b270, g270⟩ : ∃ z, z = h0.size := ⟨_, rfl⟩
    rw [← g270] at A270 D270 st270
    have ne_src_b270 : src ≠ b270 := Nat.ne_of_lt (Nat.lt_of_lt_of_eq V_src.lt g270.symm)
    have g_b270 : n0 ≤ b270 := Nat.le_trans Z0 (Nat.le_of_eq g270.symm)
    have sz_b270 : h0.size ≤ b270 := Nat.le_trans K0.1 (Nat.le_of_eq g270.symm)
    have HS271 := HS.ext HS0 E270
    have O272 := O0.ext E270
    have Z273 : n0 ≤ h270.size := Nat.le_trans Z0 E270.1
    have K274 : Keep h0 h270 ([] : List Addr) := K0.ext E270
    have sf275 := Sf.born HS0 E270 g270 A270.lt
    have f276 : Fld Z h270 b270 "java/lang/String" "coder" "B" (.int (0 : Int32)) := D270 (Or.inr (hw _ (List.mem_of_getElem? (i := 36) rfl))) (ty := .byte) (by decide)
    have f277 : Fld Z h270 b270 "java/lang/String" "value" "[B" .null := D270 (Or.inr (hw _ (List.mem_of_getElem? (i := 38) rfl))) (ty := (.array .byte)) (by decide)
    refine Go.st (T' := T270) (g' := (mkF m 188 #[rv src, iv (6 : Int32)] [(.ref b270)])) ?_ st270
    refine Go.st (T' := T270) (g' := (mkF m 191 #[rv src, iv (6 : Int32)] [(.int (6 : Int32)), (.ref b270), (.ref b270)])) ?_ (fun _ kk_ => XS.dup X270.here hx rfl (hb hby dmak_188) rfl rfl (XS.bipush X270.here hx rfl (hb hby dmak_189) kk_))
    refine Go.newP X270 hx hZ (aty := .char) (hw _ (List.mem_of_getElem? (i := 1) rfl)) e270 rfl (hb hby dmak_191) (n := 6) rfl rfl 6 (by decide) (by decide) (by decide) (by decide) ?_
    intro T278 h278 b278 X278 e278 E278 g278 V278
    have f279 := (V_src.ext E270)
    have ne_src_b278 : src ≠ b278 := Nat.ne_of_lt (Nat.lt_of_lt_of_eq f279.lt g278.symm)
    have ne_b270_b278 : b270 ≠ b278 := Nat.ne_of_lt (Nat.lt_of_lt_of_eq A270.lt g278.symm)
    have g_b278 : n0 ≤ b278 := Nat.le_trans Z273 (Nat.le_of_eq g278.symm)
    have sz_b278 : h0.size ≤ b278 := Nat.le_trans K274.1 (Nat.le_of_eq g278.symm)
    have HS280 := HS.ext HS271 E278
    have O281 := O272.ext E278
    have Z282 : n0 ≤ h278.size := Nat.le_trans Z273 E278.1
    have K283 : Keep h0 h278 ([] : List Addr) := K274.ext E278
    change Ary Z h278 b278 .char [.int 0, .int 0, .int 0, .int 0, .int 0, .int 0] at V278
    have sf284 := Sf.born HS271 E278 g278 V278.lt
    show Go p e below _ T278 (mkF m 193 #[rv src, iv (6 : Int32)] [(.ref b278), (.ref b270), (.ref b270)])
    refine Go.st (T' := T278) (g' := (mkF m 197 #[rv src, iv (6 : Int32)] [(.int (0 : Int32)), (.ref src), (.int (0 : Int32)), (.ref b278), (.ref b278), (.ref b270), (.ref b270)])) ?_ (fun _ kk_ => XS.dup X278.here hx rfl (hb hby dmak_193) rfl rfl (XS.iconst X278.here hx rfl (hb hby dmak_194) (XS.aloadN X278.here hx rfl (hb hby dmak_195) rfl rfl  (XS.iconst X278.here hx rfl (hb hby dmak_196) kk_))))
    have f285 := (f279.ext E278)
    refine Go.st (T' := T278) (g' := (mkF m 198 #[rv src, iv (6 : Int32)] [(.int (Int32.ofNat (ch 0))), (.int (0 : Int32)), (.ref b278), (.ref b278), (.ref b270), (.ref b270)])) ?_ (fun _ kk_ => own_caload X278 hx hZ e278 f285 (i := 0) (v := (.int (Int32.ofNat (ch 0)))) (IL_at (by decide)) rfl rfl rfl (hb hby dmak_197) kk_)
    refine Go.castore X278 hx hZ e278 V278 (y := (Int32.ofNat (ch 0))) (ch_sto _ (hc 0)) (i := 0) (Nat.le_of_ble_eq_true rfl) rfl rfl rfl (hb hby dmak_198) ?_
    intro T286 h286 X286 e286 W286 V286
    have N287 := Fr.snoc X286 N0 g_b278
    have HS288 := HS.wr HS280 W286 (sf284).1
    have O289 := O281.wr W286 g_b278
    change Ary Z h286 b278 .char [.int (Int32.ofNat (ch 0)), .int 0, .int 0, .int 0, .int 0, .int 0] at V286
    have K290 : Keep h0 h286 ([] : List Addr) := K283.wr W286 (Or.inr sz_b278)
    have Z291 : n0 ≤ h286.size := by rw [W286.size]; exact Z282
    show Go p e below _ T286 (mkF m 199 #[rv src, iv (6 : Int32)] [(.ref b278), (.ref b270), (.ref b270)])
    refine Go.st (T' := T286) (g' := (mkF m 203 #[rv src, iv (6 : Int32)] [(.int (1 : Int32)), (.ref src), (.int (1 : Int32)), (.ref b278), (.ref b278), (.ref b270), (.ref b270)])) ?_ (fun _ kk_ => XS.dup X286.here hx rfl (hb hby dmak_199) rfl rfl (XS.iconst X286.here hx rfl (hb hby dmak_200) (XS.aloadN X286.here hx rfl (hb hby dmak_201) rfl rfl  (XS.iconst X286.here hx rfl (hb hby dmak_202) kk_))))
    have f292 := (f285.other W286 ne_src_b278)
    refine Go.st (T' := T286) (g' := (mkF m 204 #[rv src, iv (6 : Int32)] [(.int (Int32.ofNat (ch 1))), (.int (1 : Int32)), (.ref b278), (.ref b278), (.ref b270), (.ref b270)])) ?_ (fun _ kk_ => own_caload X286 hx hZ e286 f292 (i := 1) (v := (.int (Int32.ofNat (ch 1)))) (IL_at (by decide)) rfl rfl rfl (hb hby dmak_203) kk_)
    refine Go.castore X286 hx hZ e286 V286 (y := (Int32.ofNat (ch 1))) (ch_sto _ (hc 1)) (i := 1) (Nat.le_of_ble_eq_true rfl) rfl rfl rfl (hb hby dmak_204) ?_
    intro T293 h293 X293 e293 W293 V293
    have N294 := Fr.snoc X293 N287 g_b278
    have f296 := (Sf.wr HS280 W286 (sf284).1 sf284)
    have HS295 := HS.wr HS288 W293 (f296).1
    have O297 := O289.wr W293 g_b278
    change Ary Z h293 b278 .char [.int (Int32.ofNat (ch 0)), .int (Int32.ofNat (ch 1)), .int 0, .int 0, .int 0, .int 0] at V293
    have K298 : Keep h0 h293 ([] : List Addr) := K290.wr W293 (Or.inr sz_b278)
    have Z299 : n0 ≤ h293.size := by rw [W293.size]; exact Z291
    show Go p e below _ T293 (mkF m 205 #[rv src, iv (6 : Int32)] [(.ref b278), (.ref b270), (.ref b270)])
    refine Go.st (T' := T293) (g' := (mkF m 209 #[rv src, iv (6 : Int32)] [(.int (2 : Int32)), (.ref src), (.int (2 : Int32)), (.ref b278), (.ref b278), (.ref b270), (.ref b270)])) ?_ (fun _ kk_ => XS.dup X293.here hx rfl (hb hby dmak_205) rfl rfl (XS.iconst X293.here hx rfl (hb hby dmak_206) (XS.aloadN X293.here hx rfl (hb hby dmak_207) rfl rfl  (XS.iconst X293.here hx rfl (hb hby dmak_208) kk_))))
    have f300 := (f292.other W293 ne_src_b278)
    refine Go.st (T' := T293) (g' := (mkF m 210 #[rv src, iv (6 : Int32)] [(.int (Int32.ofNat (ch 2))), (.int (2 : Int32)), (.ref b278), (.ref b278), (.ref b270), (.ref b270)])) ?_ (fun _ kk_ => own_caload X293 hx hZ e293 f300 (i := 2) (v := (.int (Int32.ofNat (ch 2)))) (IL_at (by decide)) rfl rfl rfl (hb hby dmak_209) kk_)
    refine Go.castore X293 hx hZ e293 V293 (y := (Int32.ofNat (ch 2))) (ch_sto _ (hc 2)) (i := 2) (Nat.le_of_ble_eq_true rfl) rfl rfl rfl (hb hby dmak_210) ?_
    intro T301 h301 X301 e301 W301 V301
    have N302 := Fr.snoc X301 N294 g_b278
    have f304 := (Sf.wr HS288 W293 (f296).1 f296)
    have HS303 := HS.wr HS295 W301 (f304).1
    have O305 := O297.wr W301 g_b278
    change Ary Z h301 b278 .char [.int (Int32.ofNat (ch 0)), .int (Int32.ofNat (ch 1)), .int (Int32.ofNat (ch 2)), .int 0, .int 0, .int 0] at V301
    have K306 : Keep h0 h301 ([] : List Addr) := K298.wr W301 (Or.inr sz_b278)
    have Z307 : n0 ≤ h301.size := by rw [W301.size]; exact Z299
    show Go p e below _ T301 (mkF m 211 #[rv src, iv (6 : Int32)] [(.ref b278), (.ref b270), (.ref b270)])
    refine Go.st (T' := T301) (g' := (mkF m 215 #[rv src, iv (6 : Int32)] [(.int (3 : Int32)), (.ref src), (.int (3 : Int32)), (.ref b278), (.ref b278), (.ref b270), (.ref b270)])) ?_ (fun _ kk_ => XS.dup X301.here hx rfl (hb hby dmak_211) rfl rfl (XS.iconst X301.here hx rfl (hb hby dmak_212) (XS.aloadN X301.here hx rfl (hb hby dmak_213) rfl rfl  (XS.iconst X301.here hx rfl (hb hby dmak_214) kk_))))
    have f308 := (f300.other W301 ne_src_b278)
    refine Go.st (T' := T301) (g' := (mkF m 216 #[rv src, iv (6 : Int32)] [(.int (Int32.ofNat (ch 3))), (.int (3 : Int32)), (.ref b278), (.ref b278), (.ref b270), (.ref b270)])) ?_ (fun _ kk_ => own_caload X301 hx hZ e301 f308 (i := 3) (v := (.int (Int32.ofNat (ch 3)))) (IL_at (by decide)) rfl rfl rfl (hb hby dmak_215) kk_)
    refine Go.castore X301 hx hZ e301 V301 (y := (Int32.ofNat (ch 3))) (ch_sto _ (hc 3)) (i := 3) (Nat.le_of_ble_eq_true rfl) rfl rfl rfl (hb hby dmak_216) ?_
    intro T309 h309 X309 e309 W309 V309
    have N310 := Fr.snoc X309 N302 g_b278
    have f312 := (Sf.wr HS295 W301 (f304).1 f304)
    have HS311 := HS.wr HS303 W309 (f312).1
    have O313 := O305.wr W309 g_b278
    change Ary Z h309 b278 .char [.int (Int32.ofNat (ch 0)), .int (Int32.ofNat (ch 1)), .int (Int32.ofNat (ch 2)), .int (Int32.ofNat (ch 3)), .int 0, .int 0] at V309
    have K314 : Keep h0 h309 ([] : List Addr) := K306.wr W309 (Or.inr sz_b278)
    have Z315 : n0 ≤ h309.size := by rw [W309.size]; exact Z307
    show Go p e below _ T309 (mkF m 217 #[rv src, iv (6 : Int32)] [(.ref b278), (.ref b270), (.ref b270)])
    refine Go.st (T' := T309) (g' := (mkF m 221 #[rv src, iv (6 : Int32)] [(.int (4 : Int32)), (.ref src), (.int (4 : Int32)), (.ref b278), (.ref b278), (.ref b270), (.ref b270)])) ?_ (fun _ kk_ => XS.dup X309.here hx rfl (hb hby dmak_217) rfl rfl (XS.iconst X309.here hx rfl (hb hby dmak_218) (XS.aloadN X309.here hx rfl (hb hby dmak_219) rfl rfl  (XS.iconst X309.here hx rfl (hb hby dmak_220) kk_))))
    have f316 := (f308.other W309 ne_src_b278)
    refine Go.st (T' := T309) (g' := (mkF m 222 #[rv src, iv (6 : Int32)] [(.int (Int32.ofNat (ch 4))), (.int (4 : Int32)), (.ref b278), (.ref b278), (.ref b270), (.ref b270)])) ?_ (fun _ kk_ => own_caload X309 hx hZ e309 f316 (i := 4) (v := (.int (Int32.ofNat (ch 4)))) (IL_at (by decide)) rfl rfl rfl (hb hby dmak_221) kk_)
    refine Go.castore X309 hx hZ e309 V309 (y := (Int32.ofNat (ch 4))) (ch_sto _ (hc 4)) (i := 4) (Nat.le_of_ble_eq_true rfl) rfl rfl rfl (hb hby dmak_222) ?_
    intro T317 h317 X317 e317 W317 V317
    have N318 := Fr.snoc X317 N310 g_b278
    have f320 := (Sf.wr HS303 W309 (f312).1 f312)
    have HS319 := HS.wr HS311 W317 (f320).1
    have O321 := O313.wr W317 g_b278
    change Ary Z h317 b278 .char [.int (Int32.ofNat (ch 0)), .int (Int32.ofNat (ch 1)), .int (Int32.ofNat (ch 2)), .int (Int32.ofNat (ch 3)), .int (Int32.ofNat (ch 4)), .int 0] at V317
    have K322 : Keep h0 h317 ([] : List Addr) := K314.wr W317 (Or.inr sz_b278)
    have Z323 : n0 ≤ h317.size := by rw [W317.size]; exact Z315
    show Go p e below _ T317 (mkF m 223 #[rv src, iv (6 : Int32)] [(.ref b278), (.ref b270), (.ref b270)])
    refine Go.st (T' := T317) (g' := (mkF m 227 #[rv src, iv (6 : Int32)] [(.int (5 : Int32)), (.ref src), (.int (5 : Int32)), (.ref b278), (.ref b278), (.ref b270), (.ref b270)])) ?_ (fun _ kk_ => XS.dup X317.here hx rfl (hb hby dmak_223) rfl rfl (XS.iconst X317.here hx rfl (hb hby dmak_224) (XS.aloadN X317.here hx rfl (hb hby dmak_225) rfl rfl  (XS.iconst X317.here hx rfl (hb hby dmak_226) kk_))))
    have f324 := (f316.other W317 ne_src_b278)
    refine Go.st (T' := T317) (g' := (mkF m 228 #[rv src, iv (6 : Int32)] [(.int (Int32.ofNat (ch 5))), (.int (5 : Int32)), (.ref b278), (.ref b278), (.ref b270), (.ref b270)])) ?_ (fun _ kk_ => own_caload X317 hx hZ e317 f324 (i := 5) (v := (.int (Int32.ofNat (ch 5)))) (IL_at (by decide)) rfl rfl rfl (hb hby dmak_227) kk_)
    refine Go.castore X317 hx hZ e317 V317 (y := (Int32.ofNat (ch 5))) (ch_sto _ (hc 5)) (i := 5) (Nat.le_of_ble_eq_true rfl) rfl rfl rfl (hb hby dmak_228) ?_
    intro T325 h325 X325 e325 W325 V325
    have N326 := Fr.snoc X325 N318 g_b278
    have f328 := (Sf.wr HS311 W317 (f320).1 f320)
    have HS327 := HS.wr HS319 W325 (f328).1
    have O329 := O321.wr W325 g_b278
    change Ary Z h325 b278 .char [.int (Int32.ofNat (ch 0)), .int (Int32.ofNat (ch 1)), .int (Int32.ofNat (ch 2)), .int (Int32.ofNat (ch 3)), .int (Int32.ofNat (ch 4)), .int (Int32.ofNat (ch 5))] at V325
    have K330 : Keep h0 h325 ([] : List Addr) := K322.wr W325 (Or.inr sz_b278)
    have Z331 : n0 ≤ h325.size := by rw [W325.size]; exact Z323
    show Go p e below _ T325 (mkF m 229 #[rv src, iv (6 : Int32)] [(.ref b278), (.ref b270), (.ref b270)])
    have f332 := (((((((A270.ext E278).wr W286).wr W293).wr W301).wr W309).wr W317).wr W325)
    have f333 := (((((((f277.ext E278).other W286 (Or.inl ne_b270_b278)).other W293 (Or.inl ne_b270_b278)).other W301 (Or.inl ne_b270_b278)).other W309 (Or.inl ne_b270_b278)).other W317 (Or.inl ne_b270_b278)).other W325 (Or.inl ne_b270_b278))
    have f334 := (((((((f276.ext E278).other W286 (Or.inl ne_b270_b278)).other W293 (Or.inl ne_b270_b278)).other W301 (Or.inl ne_b270_b278)).other W309 (Or.inl ne_b270_b278)).other W317 (Or.inl ne_b270_b278)).other W325 (Or.inl ne_b270_b278))
    refine Go.callN (y := (⟨"java/lang/String", "<init>", "([C)V"⟩ : MethodName)) X325 hx hZ rfl hown (hw _ (List.mem_of_getElem? (i := 13) rfl)) (hw _ (List.mem_of_getElem? (i := 14) rfl)) (hw _ (List.mem_of_getElem? (i := 12) rfl)) (hw _ (List.mem_of_getElem? (i := 15) rfl)) (by decide) 1 (rm_in1 l Z a0 hw [] b270 b278 6 ch n0 cS h325 Z331 (by decide) (by decide) (fun q _ => hc q) V325 f332 f333 f334 g_b270 O329 Sc hcS ne_b270_b278) e325 (by decide) (by decide) (by decide) (by decide) (a := b270) (argsL := [(.ref b278)]) (rest := [(.ref b270)]) rfl (by rw [hml]; rfl) (lenOf pd__28_5bC_29V rfl) rfl rfl (by show 2 * 0 + _ ≤ _; exact Nat.le_of_eq rfl) (hb hby dmak_229) ?_
    rintro _ T335 L335 X335 ⟨rfl, N335, K335, Fc335, t, tz, Fv335, V335⟩
    have N336 := Fr.app N326 N335
    have f338 := (Sf.wr HS319 W325 (f328).1 (Sf.wr HS311 W317 (f320).1 (Sf.wr HS303 W309 (f312).1 (Sf.wr HS295 W301 (f304).1 (Sf.wr HS288 W293 (f296).1 (Sf.wr HS280 W286 (sf284).1 (Sf.ext HS271 E278 sf275)))))))
    have HS337 := HS.keep HS327 K335 (sfS (f338).1 sf0)
    have O339 := O329.keep K335 (allS (P := fun z_ => n0 ≤ z_) g_b270 all0)
    have Z340 : n0 ≤ T335.heap.size := Nat.le_trans Z331 K335.1
    have K341 : Keep h0 T335.heap ([] : List Addr) := K330.trans K335 (allS (P := fun z_ => z_ ∈ ([] : List Addr) ∨ h0.size ≤ z_) (Or.inr sz_b270) all0)
    show Go p e below _ T335 (mkF m 232 #[rv src, iv (6 : Int32)] [(.ref b270)])
    have f342 := (f332.keep K335)
    refine Go.retAH X335 hx hlk hret rfl rfl (hb hby dmak_232) (by decide) (by decide) hZ hEL HS337 ?_
    exact ⟨b270, t, rfl, N336, K341, sz_b270, f342, Fc335, Fv335, V335⟩
theorem dtok_0 : decode method_4_code 0 = .ok (.aload_n 0, 1) := by decide +kernel
theorem dtok_1 : decode method_4_code 1 = .ok (.iload_n 1, 1) := by decide +kernel
theorem dtok_2 : decode method_4_code 2 = .ok (.caload, 1) := by decide +kernel
theorem dtok_3 : decode method_4_code 3 = .ok (.bipush 92, 2) := by decide +kernel
theorem dtok_5 : decode method_4_code 5 = .ok (.if_icmp .ne 14, 3) := by decide +kernel
theorem dtok_8 : decode method_4_code 8 = .ok (.iload_n 1, 1) := by decide +kernel
theorem dtok_9 : decode method_4_code 9 = .ok (.iconst 1, 1) := by decide +kernel
theorem dtok_10 : decode method_4_code 10 = .ok (.iadd, 1) := by decide +kernel
theorem dtok_11 : decode method_4_code 11 = .ok (.iload_n 2, 1) := by decide +kernel
theorem dtok_12 : decode method_4_code 12 = .ok (.if_icmp .ge 7, 3) := by decide +kernel
theorem dtok_15 : decode method_4_code 15 = .ok (.iconst 2, 1) := by decide +kernel
theorem dtok_16 : decode method_4_code 16 = .ok (.goto 4, 3) := by decide +kernel
theorem dtok_19 : decode method_4_code 19 = .ok (.iconst 1, 1) := by decide +kernel
theorem dtok_20 : decode method_4_code 20 = .ok (.ireturn, 1) := by decide +kernel
theorem pn_tok : plainFor (⟨"com/example/tidewire/tidewire/extender/ManifestHeaderUnquotePinLaw", "tok", "([CII)I"⟩ : MethodName) = true := by first | exact plainFor_of_name (by first | (simp [plainName, overriddenIn]; done) | decide +kernel) | decide +kernel
theorem ef_tok (m : MethodId) (x0 : Addr) (x1 : Int32) (x2 : Int32) : entryFrame m #[(.ref x0), (.int x1), (.int x2)] 3 = mkF m 0 #[rv x0, iv x1, iv x2] [] := by first | (simp [entryFrame, mkF, argsToLocals, Value.category]; done) | rfl
set_option maxRecDepth 65536 in
set_option maxHeartbeats 40000000 in
theorem rm_tok (l : Launch) (Z : State) (a0 : Array Value) (hw : ∀ d ∈ tables_1, d.before a0 Z = true) (ws : List Jvm.Cond) (src : Addr) (ch : Nat → Nat) (i e_ : Nat) (h0 : Heap) (hi : i < 6) (he : e_ ≤ 6) (hc : ∀ q, ch q < 256) (V_src : Ary Z h0 src .char (IL 6 (fun q => Int32.ofNat (ch q)))) :
    Mt l Z (⟨"com/example/tidewire/tidewire/extender/ManifestHeaderUnquotePinLaw", "tok", "([CII)I"⟩ : MethodName) method_4_code 3 (some .int) ws ({ frames := 0, cells := 0, slots := 0, locals := 0 } : Room) #[(.ref src), (.int (Int32.ofNat i)), (.int (Int32.ofNat e_))] h0 (fun v h L => v = some (.int (Int32.ofNat (tk ch i e_))) ∧ h = h0 ∧ L = []) := by
  refine Mt.body pn_tok ?_
  intro p e s m below meth c s₁ hx hby hml hown hnm hret hlk hZ X0 e0
  refine Go.cast (g' := (mkF m 0 #[rv src, iv (Int32.ofNat i), iv (Int32.ofNat e_)] [])) (ef_tok m src (Int32.ofNat i) (Int32.ofNat e_)) ?_
  have N0 := Fr.nil 0
  have hci := hc i
  refine Go.st (T' := s₁) (g' := (mkF m 5 #[rv src, iv (Int32.ofNat i), iv (Int32.ofNat e_)] [(.int (92 : Int32)), (.int (Int32.ofNat (ch i)))])) ?_ (fun _ kk_ => XS.aloadN X0.here hx rfl (hb hby dtok_0) rfl rfl  (XS.iloadN X0.here hx rfl (hb hby dtok_1) rfl  (own_caload X0 hx hZ e0 V_src (i := i) (v := (.int (Int32.ofNat (ch i)))) (IL_at hi) rfl rfl rfl (hb hby dtok_2) (XS.bipush X0.here hx rfl (hb hby dtok_3) kk_))))
  by_cases hx1 : (Int32.ofNat (ch i)) = (92 : Int32)
  ·
    refine Go.st (T' := s₁) (g' := (mkF m 8 #[rv src, iv (Int32.ofNat i), iv (Int32.ofNat e_)] [])) ?_ (fun _ kk_ => XS.icmpNo X0.here hx rfl (hb hby dtok_5) rfl (teq (hx1 : (Int32.ofNat (ch i)) = (92 : Int32))).2 kk_)
    have h1 := (own_eq (i := ch i) (n := 92) (by omega) (by decide)).mp hx1
    refine Go.st (T' := s₁) (g' := (mkF m 12 #[rv src, iv (Int32.ofNat i), iv (Int32.ofNat e_)] [(.int (Int32.ofNat e_)), (.int ((Int32.ofNat i) + (1 : Int32)))])) ?_ (fun _ kk_ => XS.iloadN X0.here hx rfl (hb hby dtok_8) rfl  (XS.iconst X0.here hx rfl (hb hby dtok_9) (XS.iadd X0.here hx rfl (hb hby dtok_10) rfl (XS.iloadN X0.here hx rfl (hb hby dtok_11) rfl  kk_))))
    rw [show Int32.ofNat i + (1 : Int32) = Int32.ofNat (i + 1) from own_add i 1]
    show Go p e below _ s₁ (mkF m 12 #[rv src, iv (Int32.ofNat i), iv (Int32.ofNat e_)] [(.int (Int32.ofNat e_)), (.int (Int32.ofNat (i + 1)))])
    by_cases hx2 : (Int32.ofNat (i + 1)) < (Int32.ofNat e_)
    ·
      refine Go.st (T' := s₁) (g' := (mkF m 15 #[rv src, iv (Int32.ofNat i), iv (Int32.ofNat e_)] [])) ?_ (fun _ kk_ => XS.icmpNo X0.here hx rfl (hb hby dtok_12) rfl (tlt (hx2 : (Int32.ofNat (i + 1)) < (Int32.ofNat e_))).2.1 kk_)
      have h2 := (own_lt (i := i + 1) (n := e_) (by omega) (by omega)).mp hx2
      refine Go.st (T' := s₁) (g' := (mkF m 20 #[rv src, iv (Int32.ofNat i), iv (Int32.ofNat e_)] [(.int (2 : Int32))])) ?_ (fun _ kk_ => XS.iconst X0.here hx rfl (hb hby dtok_15) (XS.goto X0.here hx rfl (pc0 := 16) (pc' := 20) rfl (hb hby dtok_16) (by decide) (by decide) kk_))
      refine Go.retI X0 hx hlk hret (hb hby dtok_20) (by decide) (by decide) ?_
      try rw [e0]
      exact ⟨by unfold tk; rw [if_pos ⟨h1, h2⟩]; rfl, rfl, rfl⟩
    ·
      refine Go.st (T' := s₁) (g' := (mkF m 19 #[rv src, iv (Int32.ofNat i), iv (Int32.ofNat e_)] [])) ?_ (fun _ kk_ => XS.icmpYes X0.here hx rfl (pc0 := 12) (pc' := 19) rfl (hb hby dtok_12) rfl (flt (hx2 : ¬ ((Int32.ofNat (i + 1)) < (Int32.ofNat e_)))).2.1 (by decide) (by decide) kk_)
      have h2 : ¬ i + 1 < e_ := fun z => hx2 ((own_lt (i := i + 1) (n := e_) (by omega) (by omega)).mpr z)
      refine Go.st (T' := s₁) (g' := (mkF m 20 #[rv src, iv (Int32.ofNat i), iv (Int32.ofNat e_)] [(.int (1 : Int32))])) ?_ (fun _ kk_ => XS.iconst X0.here hx rfl (hb hby dtok_19) kk_)
      refine Go.retI X0 hx hlk hret (hb hby dtok_20) (by decide) (by decide) ?_
      try rw [e0]
      exact ⟨by unfold tk; rw [if_neg (fun z => h2 z.2)]; rfl, rfl, rfl⟩
  ·
    refine Go.st (T' := s₁) (g' := (mkF m 19 #[rv src, iv (Int32.ofNat i), iv (Int32.ofNat e_)] [])) ?_ (fun _ kk_ => XS.icmpYes X0.here hx rfl (pc0 := 5) (pc' := 19) rfl (hb hby dtok_5) rfl (feq (hx1 : ¬ ((Int32.ofNat (ch i)) = (92 : Int32)))).2 (by decide) (by decide) kk_)
    have h1 : ¬ ch i = 92 := fun z => hx1 ((own_eq (i := ch i) (n := 92) (by omega) (by decide)).mpr z)
    refine Go.st (T' := s₁) (g' := (mkF m 20 #[rv src, iv (Int32.ofNat i), iv (Int32.ofNat e_)] [(.int (1 : Int32))])) ?_ (fun _ kk_ => XS.iconst X0.here hx rfl (hb hby dtok_19) kk_)
    refine Go.retI X0 hx hlk hret (hb hby dtok_20) (by decide) (by decide) ?_
    try rw [e0]
    exact ⟨by unfold tk; rw [if_neg (fun z => h1 z.1)]; rfl, rfl, rfl⟩
theorem dsam_0 : decode method_5_code 0 = .ok (.aload_n 0, 1) := by decide +kernel
theorem dsam_1 : decode method_5_code 1 = .ok (.invokevirtual 14, 3) := by decide +kernel
theorem dsam_4 : decode method_5_code 4 = .ok (.iload_n 2, 1) := by decide +kernel
theorem dsam_5 : decode method_5_code 5 = .ok (.if_icmp .eq 5, 3) := by decide +kernel
theorem dsam_10 : decode method_5_code 10 = .ok (.iload_n 2, 1) := by decide +kernel
theorem dsam_11 : decode method_5_code 11 = .ok (.ifCond .le 14, 3) := by decide +kernel
theorem dsam_14 : decode method_5_code 14 = .ok (.aload_n 0, 1) := by decide +kernel
theorem dsam_15 : decode method_5_code 15 = .ok (.iconst 0, 1) := by decide +kernel
theorem dsam_16 : decode method_5_code 16 = .ok (.invokevirtual 18, 3) := by decide +kernel
theorem dsam_19 : decode method_5_code 19 = .ok (.aload_n 1, 1) := by decide +kernel
theorem dsam_20 : decode method_5_code 20 = .ok (.iconst 0, 1) := by decide +kernel
theorem dsam_21 : decode method_5_code 21 = .ok (.caload, 1) := by decide +kernel
theorem dsam_22 : decode method_5_code 22 = .ok (.if_icmp .ne 87, 3) := by decide +kernel
theorem dsam_25 : decode method_5_code 25 = .ok (.iload_n 2, 1) := by decide +kernel
theorem dsam_26 : decode method_5_code 26 = .ok (.iconst 1, 1) := by decide +kernel
theorem dsam_27 : decode method_5_code 27 = .ok (.if_icmp .le 14, 3) := by decide +kernel
theorem dsam_30 : decode method_5_code 30 = .ok (.aload_n 0, 1) := by decide +kernel
theorem dsam_31 : decode method_5_code 31 = .ok (.iconst 1, 1) := by decide +kernel
theorem dsam_32 : decode method_5_code 32 = .ok (.invokevirtual 18, 3) := by decide +kernel
theorem dsam_35 : decode method_5_code 35 = .ok (.aload_n 1, 1) := by decide +kernel
theorem dsam_36 : decode method_5_code 36 = .ok (.iconst 1, 1) := by decide +kernel
theorem dsam_37 : decode method_5_code 37 = .ok (.caload, 1) := by decide +kernel
theorem dsam_38 : decode method_5_code 38 = .ok (.if_icmp .ne 71, 3) := by decide +kernel
theorem dsam_41 : decode method_5_code 41 = .ok (.iload_n 2, 1) := by decide +kernel
theorem dsam_42 : decode method_5_code 42 = .ok (.iconst 2, 1) := by decide +kernel
theorem dsam_43 : decode method_5_code 43 = .ok (.if_icmp .le 14, 3) := by decide +kernel
theorem dsam_46 : decode method_5_code 46 = .ok (.aload_n 0, 1) := by decide +kernel
theorem dsam_47 : decode method_5_code 47 = .ok (.iconst 2, 1) := by decide +kernel
theorem dsam_48 : decode method_5_code 48 = .ok (.invokevirtual 18, 3) := by decide +kernel
theorem dsam_51 : decode method_5_code 51 = .ok (.aload_n 1, 1) := by decide +kernel
theorem dsam_52 : decode method_5_code 52 = .ok (.iconst 2, 1) := by decide +kernel
theorem dsam_53 : decode method_5_code 53 = .ok (.caload, 1) := by decide +kernel
theorem dsam_54 : decode method_5_code 54 = .ok (.if_icmp .ne 55, 3) := by decide +kernel
theorem dsam_57 : decode method_5_code 57 = .ok (.iload_n 2, 1) := by decide +kernel
theorem dsam_58 : decode method_5_code 58 = .ok (.iconst 3, 1) := by decide +kernel
theorem dsam_59 : decode method_5_code 59 = .ok (.if_icmp .le 14, 3) := by decide +kernel
theorem dsam_62 : decode method_5_code 62 = .ok (.aload_n 0, 1) := by decide +kernel
theorem dsam_63 : decode method_5_code 63 = .ok (.iconst 3, 1) := by decide +kernel
theorem dsam_64 : decode method_5_code 64 = .ok (.invokevirtual 18, 3) := by decide +kernel
theorem dsam_67 : decode method_5_code 67 = .ok (.aload_n 1, 1) := by decide +kernel
theorem dsam_68 : decode method_5_code 68 = .ok (.iconst 3, 1) := by decide +kernel
theorem dsam_69 : decode method_5_code 69 = .ok (.caload, 1) := by decide +kernel
theorem dsam_70 : decode method_5_code 70 = .ok (.if_icmp .ne 39, 3) := by decide +kernel
theorem dsam_73 : decode method_5_code 73 = .ok (.iload_n 2, 1) := by decide +kernel
theorem dsam_74 : decode method_5_code 74 = .ok (.iconst 4, 1) := by decide +kernel
theorem dsam_75 : decode method_5_code 75 = .ok (.if_icmp .le 14, 3) := by decide +kernel
theorem dsam_78 : decode method_5_code 78 = .ok (.aload_n 0, 1) := by decide +kernel
theorem dsam_79 : decode method_5_code 79 = .ok (.iconst 4, 1) := by decide +kernel
theorem dsam_80 : decode method_5_code 80 = .ok (.invokevirtual 18, 3) := by decide +kernel
theorem dsam_83 : decode method_5_code 83 = .ok (.aload_n 1, 1) := by decide +kernel
theorem dsam_84 : decode method_5_code 84 = .ok (.iconst 4, 1) := by decide +kernel
theorem dsam_85 : decode method_5_code 85 = .ok (.caload, 1) := by decide +kernel
theorem dsam_86 : decode method_5_code 86 = .ok (.if_icmp .ne 23, 3) := by decide +kernel
theorem dsam_89 : decode method_5_code 89 = .ok (.iload_n 2, 1) := by decide +kernel
theorem dsam_90 : decode method_5_code 90 = .ok (.iconst 5, 1) := by decide +kernel
theorem dsam_91 : decode method_5_code 91 = .ok (.if_icmp .le 14, 3) := by decide +kernel
theorem dsam_94 : decode method_5_code 94 = .ok (.aload_n 0, 1) := by decide +kernel
theorem dsam_95 : decode method_5_code 95 = .ok (.iconst 5, 1) := by decide +kernel
theorem dsam_96 : decode method_5_code 96 = .ok (.invokevirtual 18, 3) := by decide +kernel
theorem dsam_99 : decode method_5_code 99 = .ok (.aload_n 1, 1) := by decide +kernel
theorem dsam_100 : decode method_5_code 100 = .ok (.iconst 5, 1) := by decide +kernel
theorem dsam_101 : decode method_5_code 101 = .ok (.caload, 1) := by decide +kernel
theorem dsam_102 : decode method_5_code 102 = .ok (.if_icmp .ne 7, 3) := by decide +kernel
theorem dsam_105 : decode method_5_code 105 = .ok (.iconst 1, 1) := by decide +kernel
theorem dsam_106 : decode method_5_code 106 = .ok (.goto 4, 3) := by decide +kernel
theorem dsam_110 : decode method_5_code 110 = .ok (.ireturn, 1) := by decide +kernel
theorem pn_sam : plainFor (⟨"com/example/tidewire/tidewire/extender/ManifestHeaderUnquotePinLaw", "same", "(Ljava/lang/String;[CI)Z"⟩ : MethodName) = true := by first | exact plainFor_of_name (by first | (simp [plainName, overriddenIn]; done) | decide +kernel) | decide +kernel
theorem ef_sam (m : MethodId) (x0 : Addr) (x1 : Addr) (x2 : Int32) : entryFrame m #[(.ref x0), (.ref x1), (.int x2)] 3 = mkF m 0 #[rv x0, rv x1, iv x2] [] := by first | (simp [entryFrame, mkF, argsToLocals, Value.category]; done) | rfl
set_option maxRecDepth 65536 in
set_option maxHeartbeats 40000000 in
theorem rm_sam (l : Launch) (Z : State) (a0 : Array Value) (hw : ∀ d ∈ tables_1, d.before a0 Z = true) (ws : List Jvm.Cond) (a t arr : Addr) (k : Nat) (ch : Nat → Nat) (f : Nat → Int32) (n0 : Nat) (cS : Int32) (rF : Value) (h0 : Heap) (hk : k ≤ 6) (hc : ∀ q, ch q < 256) (hf : ∀ q, q < k → f q = Int32.ofNat (ch q)) (V_arr : Ary Z h0 arr .char (IL 6 f)) (E_a : Exa Z h0 a "java/lang/String") (Fc_a : Fld Z h0 a "java/lang/String" "coder" "B" (.int (0 : Int32))) (Fv_a : Fld Z h0 a "java/lang/String" "value" "[B" (.ref t)) (V_t : Ary Z h0 t .byte (IL k (fun q => bI (ch q)))) (O0 : Old Z n0 h0) (Sc : Sta Z Z.heap "java/lang/String" "COMPACT_STRINGS" "Z" (.int cS)) (hcS : ¬ (cS = (0 : Int32))) (Sr : Sta Z Z.heap "jdk/internal/util/Preconditions" "SIOOBE_FORMATTER" "Ljava/util/function/BiFunction;" rF) (hr_rF : rF.isRef = true) :
    Mt l Z (⟨"com/example/tidewire/tidewire/extender/ManifestHeaderUnquotePinLaw", "same", "(Ljava/lang/String;[CI)Z"⟩ : MethodName) method_5_code 3 (some .boolean) ws ({ frames := 4, cells := 0, slots := 0, locals := 53 } : Room) #[(.ref a), (.ref arr), (.int (Int32.ofNat k))] h0 (fun v h L => v = some (.int (1 : Int32)) ∧ h = h0 ∧ L = []) := by
  refine Mt.body pn_sam ?_
  intro p e s m below meth c s₁ hx hby hml hown hnm hret hlk hZ X0 e0
  refine Go.cast (g' := (mkF m 0 #[rv a, rv arr, iv (Int32.ofNat k)] [])) (ef_sam m a arr (Int32.ofNat k)) ?_
  have N0 := Fr.nil n0
  refine Go.st (T' := s₁) (g' := (mkF m 1 #[rv a, rv arr, iv (Int32.ofNat k)] [(.ref a)])) ?_ (fun _ kk_ => XS.aloadN X0.here hx rfl (hb hby dsam_0) rfl rfl  kk_)
  refine Go.callV (y := (⟨"java/lang/String", "length", "()I"⟩ : MethodName)) (z := (⟨"java/lang/String", "length", "()I"⟩ : MethodName)) X0 hx hZ hown (hw _ (List.mem_of_getElem? (i := 78) rfl)) (hw _ (List.mem_of_getElem? (i := 44) rfl)) (notFace_of_selects (args := #[]) (mvT hZ (hw _ (List.mem_of_getElem? (i := 46) rfl)))) (hw _ (List.mem_of_getElem? (i := 46) rfl)) (hw _ (List.mem_of_getElem? (i := 45) rfl)) (hw _ (List.mem_of_getElem? (i := 12) rfl)) (hw _ (List.mem_of_getElem? (i := 47) rfl)) (by decide) 0 (rm_len l Z a0 hw [] a t k _ n0 cS h0 E_a Fc_a Fv_a V_t O0 Sc hcS) e0 (by decide) (by decide) (by decide) (by decide) E_a (argsL := []) (rest := []) rfl (by rw [hml]; rfl) (lenOf pd__28_29I rfl) rfl rfl (by show 2 * 0 + _ ≤ _; exact Nat.le_of_eq rfl) (hb hby dsam_1) ?_
  rintro _ T1 L1 X1 ⟨rfl, e1, rfl⟩
  have N2 := Fr.app N0 (Fr.nil _)
  show Go p e below _ T1 (mkF m 4 #[rv a, rv arr, iv (Int32.ofNat k)] [(.int (Int32.ofNat k))])
  refine Go.st (T' := T1) (g' := (mkF m 10 #[rv a, rv arr, iv (Int32.ofNat k)] [])) ?_ (fun _ kk_ => XS.iloadN X1.here hx rfl (hb hby dsam_4) rfl  (XS.icmpYes X1.here hx rfl (pc0 := 5) (pc' := 10) rfl (hb hby dsam_5) rfl (teq (rfl : (Int32.ofNat k) = (Int32.ofNat k))).1 (by decide) (by decide) kk_))
  rcases (show k = 0 ∨ k = 1 ∨ k = 2 ∨ k = 3 ∨ k = 4 ∨ k = 5 ∨ k = 6 by omega) with rfl | rfl | rfl | rfl | rfl | rfl | rfl
  ·
    show Go p e below _ T1 (mkF m 10 #[rv a, rv arr, iv (0 : Int32)] [])
    refine Go.st (T' := T1) (g' := (mkF m 89 #[rv a, rv arr, iv (0 : Int32)] [])) ?_ (fun _ kk_ => XS.iloadN X1.here hx rfl (hb hby dsam_10) rfl  (XS.ifYes X1.here hx rfl (pc0 := 11) (pc' := 25) rfl (hb hby dsam_11) rfl ((if0 _ _).trans (flt ((by decide) : ¬ ((0 : Int32) < (0 : Int32)))).2.2.2) (by decide) (by decide) (XS.iloadN X1.here hx rfl (hb hby dsam_25) rfl  (XS.iconst X1.here hx rfl (hb hby dsam_26) (XS.icmpYes X1.here hx rfl (pc0 := 27) (pc' := 41) rfl (hb hby dsam_27) rfl (flt ((by decide) : ¬ ((1 : Int32) < (0 : Int32)))).2.2.2 (by decide) (by decide) (XS.iloadN X1.here hx rfl (hb hby dsam_41) rfl  (XS.iconst X1.here hx rfl (hb hby dsam_42) (XS.icmpYes X1.here hx rfl (pc0 := 43) (pc' := 57) rfl (hb hby dsam_43) rfl (flt ((by decide) : ¬ ((2 : Int32) < (0 : Int32)))).2.2.2 (by decide) (by decide) (XS.iloadN X1.here hx rfl (hb hby dsam_57) rfl  (XS.iconst X1.here hx rfl (hb hby dsam_58) (XS.icmpYes X1.here hx rfl (pc0 := 59) (pc' := 73) rfl (hb hby dsam_59) rfl (flt ((by decide) : ¬ ((3 : Int32) < (0 : Int32)))).2.2.2 (by decide) (by decide) (XS.iloadN X1.here hx rfl (hb hby dsam_73) rfl  (XS.iconst X1.here hx rfl (hb hby dsam_74) (XS.icmpYes X1.here hx rfl (pc0 := 75) (pc' := 89) rfl (hb hby dsam_75) rfl (flt ((by decide) : ¬ ((4 : Int32) < (0 : Int32)))).2.2.2 (by decide) (by decide) kk_))))))))))))))
    refine Go.st (T' := T1) (g' := (mkF m 110 #[rv a, rv arr, iv (0 : Int32)] [(.int (1 : Int32))])) ?_ (fun _ kk_ => XS.iloadN X1.here hx rfl (hb hby dsam_89) rfl  (XS.iconst X1.here hx rfl (hb hby dsam_90) (XS.icmpYes X1.here hx rfl (pc0 := 91) (pc' := 105) rfl (hb hby dsam_91) rfl (flt ((by decide) : ¬ ((5 : Int32) < (0 : Int32)))).2.2.2 (by decide) (by decide) (XS.iconst X1.here hx rfl (hb hby dsam_105) (XS.goto X1.here hx rfl (pc0 := 106) (pc' := 110) rfl (hb hby dsam_106) (by decide) (by decide) kk_)))))
    refine Go.retN X1 hx hlk (t := .boolean) hret (by simp) (z' := (1 : Int32)) rfl (hb hby dsam_110) (by decide) (by decide) ?_
    try rw [e1]
    exact ⟨rfl, rfl, rfl⟩
  ·
    show Go p e below _ T1 (mkF m 10 #[rv a, rv arr, iv (1 : Int32)] [])
    refine Go.st (T' := T1) (g' := (mkF m 16 #[rv a, rv arr, iv (1 : Int32)] [(.int (0 : Int32)), (.ref a)])) ?_ (fun _ kk_ => XS.iloadN X1.here hx rfl (hb hby dsam_10) rfl  (XS.ifNo X1.here hx rfl (hb hby dsam_11) rfl ((if0 _ _).trans (tlt ((by decide) : (0 : Int32) < (1 : Int32))).2.2.2) (XS.aloadN X1.here hx rfl (hb hby dsam_14) rfl rfl  (XS.iconst X1.here hx rfl (hb hby dsam_15) kk_))))
    refine Go.callV (y := (⟨"java/lang/String", "charAt", "(I)C"⟩ : MethodName)) (z := (⟨"java/lang/String", "charAt", "(I)C"⟩ : MethodName)) X1 hx hZ hown (hw _ (List.mem_of_getElem? (i := 79) rfl)) (hw _ (List.mem_of_getElem? (i := 54) rfl)) (notFace_of_selects (args := #[]) (mvT hZ (hw _ (List.mem_of_getElem? (i := 56) rfl)))) (hw _ (List.mem_of_getElem? (i := 56) rfl)) (hw _ (List.mem_of_getElem? (i := 55) rfl)) (hw _ (List.mem_of_getElem? (i := 12) rfl)) (hw _ (List.mem_of_getElem? (i := 57) rfl)) (by decide) 0 (rm_cha l Z a0 hw [] a t 0 1 ch rF n0 cS h0 (by decide) (by decide) (fun q _ => hc q) E_a Fc_a Fv_a V_t O0 Sc hcS Sr hr_rF) e1 (by decide) (by decide) (by decide) (by decide) E_a (argsL := [(.int (0 : Int32))]) (rest := []) rfl (by rw [hml]; rfl) (lenOf pd__28I_29C rfl) rfl rfl (by show 2 * 0 + _ ≤ _; exact Nat.le_of_eq rfl) (hb hby dsam_16) ?_
    rintro _ T3 L3 X3 ⟨rfl, e3, rfl⟩
    have N4 := Fr.app N2 (Fr.nil _)
    show Go p e below _ T3 (mkF m 19 #[rv a, rv arr, iv (1 : Int32)] [(.int (Int32.ofNat (ch 0)))])
    refine Go.st (T' := T3) (g' := (mkF m 74 #[rv a, rv arr, iv (1 : Int32)] [(.int (1 : Int32))])) ?_ (fun _ kk_ => XS.aloadN X3.here hx rfl (hb hby dsam_19) rfl rfl  (XS.iconst X3.here hx rfl (hb hby dsam_20) (own_caload X3 hx hZ e3 V_arr (i := 0) (v := (.int (f 0))) (IL_at (by decide)) rfl rfl rfl (hb hby dsam_21) (XS.icmpNo X3.here hx rfl (hb hby dsam_22) rfl (teq ((hf 0 (by decide)).symm : (Int32.ofNat (ch 0)) = (f 0))).2 (XS.iloadN X3.here hx rfl (hb hby dsam_25) rfl  (XS.iconst X3.here hx rfl (hb hby dsam_26) (XS.icmpYes X3.here hx rfl (pc0 := 27) (pc' := 41) rfl (hb hby dsam_27) rfl (flt ((by decide) : ¬ ((1 : Int32) < (1 : Int32)))).2.2.2 (by decide) (by decide) (XS.iloadN X3.here hx rfl (hb hby dsam_41) rfl  (XS.iconst X3.here hx rfl (hb hby dsam_42) (XS.icmpYes X3.here hx rfl (pc0 := 43) (pc' := 57) rfl (hb hby dsam_43) rfl (flt ((by decide) : ¬ ((2 : Int32) < (1 : Int32)))).2.2.2 (by decide) (by decide) (XS.iloadN X3.here hx rfl (hb hby dsam_57) rfl  (XS.iconst X3.here hx rfl (hb hby dsam_58) (XS.icmpYes X3.here hx rfl (pc0 := 59) (pc' := 73) rfl (hb hby dsam_59) rfl (flt ((by decide) : ¬ ((3 : Int32) < (1 : Int32)))).2.2.2 (by decide) (by decide) (XS.iloadN X3.here hx rfl (hb hby dsam_73) rfl  kk_))))))))))))))
    refine Go.st (T' := T3) (g' := (mkF m 110 #[rv a, rv arr, iv (1 : Int32)] [(.int (1 : Int32))])) ?_ (fun _ kk_ => XS.iconst X3.here hx rfl (hb hby dsam_74) (XS.icmpYes X3.here hx rfl (pc0 := 75) (pc' := 89) rfl (hb hby dsam_75) rfl (flt ((by decide) : ¬ ((4 : Int32) < (1 : Int32)))).2.2.2 (by decide) (by decide) (XS.iloadN X3.here hx rfl (hb hby dsam_89) rfl  (XS.iconst X3.here hx rfl (hb hby dsam_90) (XS.icmpYes X3.here hx rfl (pc0 := 91) (pc' := 105) rfl (hb hby dsam_91) rfl (flt ((by decide) : ¬ ((5 : Int32) < (1 : Int32)))).2.2.2 (by decide) (by decide) (XS.iconst X3.here hx rfl (hb hby dsam_105) (XS.goto X3.here hx rfl (pc0 := 106) (pc' := 110) rfl (hb hby dsam_106) (by decide) (by decide) kk_)))))))
    refine Go.retN X3 hx hlk (t := .boolean) hret (by simp) (z' := (1 : Int32)) rfl (hb hby dsam_110) (by decide) (by decide) ?_
    try rw [e3]
    exact ⟨rfl, rfl, rfl⟩
  ·
    show Go p e below _ T1 (mkF m 10 #[rv a, rv arr, iv (2 : Int32)] [])
    refine Go.st (T' := T1) (g' := (mkF m 16 #[rv a, rv arr, iv (2 : Int32)] [(.int (0 : Int32)), (.ref a)])) ?_ (fun _ kk_ => XS.iloadN X1.here hx rfl (hb hby dsam_10) rfl  (XS.ifNo X1.here hx rfl (hb hby dsam_11) rfl ((if0 _ _).trans (tlt ((by decide) : (0 : Int32) < (2 : Int32))).2.2.2) (XS.aloadN X1.here hx rfl (hb hby dsam_14) rfl rfl  (XS.iconst X1.here hx rfl (hb hby dsam_15) kk_))))
    refine Go.callV (y := (⟨"java/lang/String", "charAt", "(I)C"⟩ : MethodName)) (z := (⟨"java/lang/String", "charAt", "(I)C"⟩ : MethodName)) X1 hx hZ hown (hw _ (List.mem_of_getElem? (i := 79) rfl)) (hw _ (List.mem_of_getElem? (i := 54) rfl)) (notFace_of_selects (args := #[]) (mvT hZ (hw _ (List.mem_of_getElem? (i := 56) rfl)))) (hw _ (List.mem_of_getElem? (i := 56) rfl)) (hw _ (List.mem_of_getElem? (i := 55) rfl)) (hw _ (List.mem_of_getElem? (i := 12) rfl)) (hw _ (List.mem_of_getElem? (i := 57) rfl)) (by decide) 0 (rm_cha l Z a0 hw [] a t 0 2 ch rF n0 cS h0 (by decide) (by decide) (fun q _ => hc q) E_a Fc_a Fv_a V_t O0 Sc hcS Sr hr_rF) e1 (by decide) (by decide) (by decide) (by decide) E_a (argsL := [(.int (0 : Int32))]) (rest := []) rfl (by rw [hml]; rfl) (lenOf pd__28I_29C rfl) rfl rfl (by show 2 * 0 + _ ≤ _; exact Nat.le_of_eq rfl) (hb hby dsam_16) ?_
    rintro _ T5 L5 X5 ⟨rfl, e5, rfl⟩
    have N6 := Fr.app N2 (Fr.nil _)
    show Go p e below _ T5 (mkF m 19 #[rv a, rv arr, iv (2 : Int32)] [(.int (Int32.ofNat (ch 0)))])
    refine Go.st (T' := T5) (g' := (mkF m 32 #[rv a, rv arr, iv (2 : Int32)] [(.int (1 : Int32)), (.ref a)])) ?_ (fun _ kk_ => XS.aloadN X5.here hx rfl (hb hby dsam_19) rfl rfl  (XS.iconst X5.here hx rfl (hb hby dsam_20) (own_caload X5 hx hZ e5 V_arr (i := 0) (v := (.int (f 0))) (IL_at (by decide)) rfl rfl rfl (hb hby dsam_21) (XS.icmpNo X5.here hx rfl (hb hby dsam_22) rfl (teq ((hf 0 (by decide)).symm : (Int32.ofNat (ch 0)) = (f 0))).2 (XS.iloadN X5.here hx rfl (hb hby dsam_25) rfl  (XS.iconst X5.here hx rfl (hb hby dsam_26) (XS.icmpNo X5.here hx rfl (hb hby dsam_27) rfl (tlt ((by decide) : (1 : Int32) < (2 : Int32))).2.2.2 (XS.aloadN X5.here hx rfl (hb hby dsam_30) rfl rfl  (XS.iconst X5.here hx rfl (hb hby dsam_31) kk_)))))))))
    refine Go.callV (y := (⟨"java/lang/String", "charAt", "(I)C"⟩ : MethodName)) (z := (⟨"java/lang/String", "charAt", "(I)C"⟩ : MethodName)) X5 hx hZ hown (hw _ (List.mem_of_getElem? (i := 79) rfl)) (hw _ (List.mem_of_getElem? (i := 54) rfl)) (notFace_of_selects (args := #[]) (mvT hZ (hw _ (List.mem_of_getElem? (i := 56) rfl)))) (hw _ (List.mem_of_getElem? (i := 56) rfl)) (hw _ (List.mem_of_getElem? (i := 55) rfl)) (hw _ (List.mem_of_getElem? (i := 12) rfl)) (hw _ (List.mem_of_getElem? (i := 57) rfl)) (by decide) 0 (rm_cha l Z a0 hw [] a t 1 2 ch rF n0 cS h0 (by decide) (by decide) (fun q _ => hc q) E_a Fc_a Fv_a V_t O0 Sc hcS Sr hr_rF) e5 (by decide) (by decide) (by decide) (by decide) E_a (argsL := [(.int (1 : Int32))]) (rest := []) rfl (by rw [hml]; rfl) (lenOf pd__28I_29C rfl) rfl rfl (by show 2 * 0 + _ ≤ _; exact Nat.le_of_eq rfl) (hb hby dsam_32) ?_
    rintro _ T7 L7 X7 ⟨rfl, e7, rfl⟩
    have N8 := Fr.app N6 (Fr.nil _)
    show Go p e below _ T7 (mkF m 35 #[rv a, rv arr, iv (2 : Int32)] [(.int (Int32.ofNat (ch 1)))])
    refine Go.st (T' := T7) (g' := (mkF m 90 #[rv a, rv arr, iv (2 : Int32)] [(.int (2 : Int32))])) ?_ (fun _ kk_ => XS.aloadN X7.here hx rfl (hb hby dsam_35) rfl rfl  (XS.iconst X7.here hx rfl (hb hby dsam_36) (own_caload X7 hx hZ e7 V_arr (i := 1) (v := (.int (f 1))) (IL_at (by decide)) rfl rfl rfl (hb hby dsam_37) (XS.icmpNo X7.here hx rfl (hb hby dsam_38) rfl (teq ((hf 1 (by decide)).symm : (Int32.ofNat (ch 1)) = (f 1))).2 (XS.iloadN X7.here hx rfl (hb hby dsam_41) rfl  (XS.iconst X7.here hx rfl (hb hby dsam_42) (XS.icmpYes X7.here hx rfl (pc0 := 43) (pc' := 57) rfl (hb hby dsam_43) rfl (flt ((by decide) : ¬ ((2 : Int32) < (2 : Int32)))).2.2.2 (by decide) (by decide) (XS.iloadN X7.here hx rfl (hb hby dsam_57) rfl  (XS.iconst X7.here hx rfl (hb hby dsam_58) (XS.icmpYes X7.here hx rfl (pc0 := 59) (pc' := 73) rfl (hb hby dsam_59) rfl (flt ((by decide) : ¬ ((3 : Int32) < (2 : Int32)))).2.2.2 (by decide) (by decide) (XS.iloadN X7.here hx rfl (hb hby dsam_73) rfl  (XS.iconst X7.here hx rfl (hb hby dsam_74) (XS.icmpYes X7.here hx rfl (pc0 := 75) (pc' := 89) rfl (hb hby dsam_75) rfl (flt ((by decide) : ¬ ((4 : Int32) < (2 : Int32)))).2.2.2 (by decide) (by decide) (XS.iloadN X7.here hx rfl (hb hby dsam_89) rfl  kk_))))))))))))))
    refine Go.st (T' := T7) (g' := (mkF m 110 #[rv a, rv arr, iv (2 : Int32)] [(.int (1 : Int32))])) ?_ (fun _ kk_ => XS.iconst X7.here hx rfl (hb hby dsam_90) (XS.icmpYes X7.here hx rfl (pc0 := 91) (pc' := 105) rfl (hb hby dsam_91) rfl (flt ((by decide) : ¬ ((5 : Int32) < (2 : Int32)))).2.2.2 (by decide) (by decide) (XS.iconst X7.here hx rfl (hb hby dsam_105) (XS.goto X7.here hx rfl (pc0 := 106) (pc' := 110) rfl (hb hby dsam_106) (by decide) (by decide) kk_))))
    refine Go.retN X7 hx hlk (t := .boolean) hret (by simp) (z' := (1 : Int32)) rfl (hb hby dsam_110) (by decide) (by decide) ?_
    try rw [e7]
    exact ⟨rfl, rfl, rfl⟩
  ·
    show Go p e below _ T1 (mkF m 10 #[rv a, rv arr, iv (3 : Int32)] [])
    refine Go.st (T' := T1) (g' := (mkF m 16 #[rv a, rv arr, iv (3 : Int32)] [(.int (0 : Int32)), (.ref a)])) ?_ (fun _ kk_ => XS.iloadN X1.here hx rfl (hb hby dsam_10) rfl  (XS.ifNo X1.here hx rfl (hb hby dsam_11) rfl ((if0 _ _).trans (tlt ((by decide) : (0 : Int32) < (3 : Int32))).2.2.2) (XS.aloadN X1.here hx rfl (hb hby dsam_14) rfl rfl  (XS.iconst X1.here hx rfl (hb hby dsam_15) kk_))))
    refine Go.callV (y := (⟨"java/lang/String", "charAt", "(I)C"⟩ : MethodName)) (z := (⟨"java/lang/String", "charAt", "(I)C"⟩ : MethodName)) X1 hx hZ hown (hw _ (List.mem_of_getElem? (i := 79) rfl)) (hw _ (List.mem_of_getElem? (i := 54) rfl)) (notFace_of_selects (args := #[]) (mvT hZ (hw _ (List.mem_of_getElem? (i := 56) rfl)))) (hw _ (List.mem_of_getElem? (i := 56) rfl)) (hw _ (List.mem_of_getElem? (i := 55) rfl)) (hw _ (List.mem_of_getElem? (i := 12) rfl)) (hw _ (List.mem_of_getElem? (i := 57) rfl)) (by decide) 0 (rm_cha l Z a0 hw [] a t 0 3 ch rF n0 cS h0 (by decide) (by decide) (fun q _ => hc q) E_a Fc_a Fv_a V_t O0 Sc hcS Sr hr_rF) e1 (by decide) (by decide) (by decide) (by decide) E_a (argsL := [(.int (0 : Int32))]) (rest := []) rfl (by rw [hml]; rfl) (lenOf pd__28I_29C rfl) rfl rfl (by show 2 * 0 + _ ≤ _; exact Nat.le_of_eq rfl) (hb hby dsam_16) ?_
    rintro _ T9 L9 X9 ⟨rfl, e9, rfl⟩
    have N10 := Fr.app N2 (Fr.nil _)
    show Go p e below _ T9 (mkF m 19 #[rv a, rv arr, iv (3 : Int32)] [(.int (Int32.ofNat (ch 0)))])
    refine Go.st (T' := T9) (g' := (mkF m 32 #[rv a, rv arr, iv (3 : Int32)] [(.int (1 : Int32)), (.ref a)])) ?_ (fun _ kk_ => XS.aloadN X9.here hx rfl (hb hby dsam_19) rfl rfl  (XS.iconst X9.here hx rfl (hb hby dsam_20) (own_caload X9 hx hZ e9 V_arr (i := 0) (v := (.int (f 0))) (IL_at (by decide)) rfl rfl rfl (hb hby dsam_21) (XS.icmpNo X9.here hx rfl (hb hby dsam_22) rfl (teq ((hf 0 (by decide)).symm : (Int32.ofNat (ch 0)) = (f 0))).2 (XS.iloadN X9.here hx rfl (hb hby dsam_25) rfl  (XS.iconst X9.here hx rfl (hb hby dsam_26) (XS.icmpNo X9.here hx rfl (hb hby dsam_27) rfl (tlt ((by decide) : (1 : Int32) < (3 : Int32))).2.2.2 (XS.aloadN X9.here hx rfl (hb hby dsam_30) rfl rfl  (XS.iconst X9.here hx rfl (hb hby dsam_31) kk_)))))))))
    refine Go.callV (y := (⟨"java/lang/String", "charAt", "(I)C"⟩ : MethodName)) (z := (⟨"java/lang/String", "charAt", "(I)C"⟩ : MethodName)) X9 hx hZ hown (hw _ (List.mem_of_getElem? (i := 79) rfl)) (hw _ (List.mem_of_getElem? (i := 54) rfl)) (notFace_of_selects (args := #[]) (mvT hZ (hw _ (List.mem_of_getElem? (i := 56) rfl)))) (hw _ (List.mem_of_getElem? (i := 56) rfl)) (hw _ (List.mem_of_getElem? (i := 55) rfl)) (hw _ (List.mem_of_getElem? (i := 12) rfl)) (hw _ (List.mem_of_getElem? (i := 57) rfl)) (by decide) 0 (rm_cha l Z a0 hw [] a t 1 3 ch rF n0 cS h0 (by decide) (by decide) (fun q _ => hc q) E_a Fc_a Fv_a V_t O0 Sc hcS Sr hr_rF) e9 (by decide) (by decide) (by decide) (by decide) E_a (argsL := [(.int (1 : Int32))]) (rest := []) rfl (by rw [hml]; rfl) (lenOf pd__28I_29C rfl) rfl rfl (by show 2 * 0 + _ ≤ _; exact Nat.le_of_eq rfl) (hb hby dsam_32) ?_
    rintro _ T11 L11 X11 ⟨rfl, e11, rfl⟩
    have N12 := Fr.app N10 (Fr.nil _)
    show Go p e below _ T11 (mkF m 35 #[rv a, rv arr, iv (3 : Int32)] [(.int (Int32.ofNat (ch 1)))])
    refine Go.st (T' := T11) (g' := (mkF m 48 #[rv a, rv arr, iv (3 : Int32)] [(.int (2 : Int32)), (.ref a)])) ?_ (fun _ kk_ => XS.aloadN X11.here hx rfl (hb hby dsam_35) rfl rfl  (XS.iconst X11.here hx rfl (hb hby dsam_36) (own_caload X11 hx hZ e11 V_arr (i := 1) (v := (.int (f 1))) (IL_at (by decide)) rfl rfl rfl (hb hby dsam_37) (XS.icmpNo X11.here hx rfl (hb hby dsam_38) rfl (teq ((hf 1 (by decide)).symm : (Int32.ofNat (ch 1)) = (f 1))).2 (XS.iloadN X11.here hx rfl (hb hby dsam_41) rfl  (XS.iconst X11.here hx rfl (hb hby dsam_42) (XS.icmpNo X11.here hx rfl (hb hby dsam_43) rfl (tlt ((by decide) : (2 : Int32) < (3 : Int32))).2.2.2 (XS.aloadN X11.here hx rfl (hb hby dsam_46) rfl rfl  (XS.iconst X11.here hx rfl (hb hby dsam_47) kk_)))))))))
    refine Go.callV (y := (⟨"java/lang/String", "charAt", "(I)C"⟩ : MethodName)) (z := (⟨"java/lang/String", "charAt", "(I)C"⟩ : MethodName)) X11 hx hZ hown (hw _ (List.mem_of_getElem? (i := 79) rfl)) (hw _ (List.mem_of_getElem? (i := 54) rfl)) (notFace_of_selects (args := #[]) (mvT hZ (hw _ (List.mem_of_getElem? (i := 56) rfl)))) (hw _ (List.mem_of_getElem? (i := 56) rfl)) (hw _ (List.mem_of_getElem? (i := 55) rfl)) (hw _ (List.mem_of_getElem? (i := 12) rfl)) (hw _ (List.mem_of_getElem? (i := 57) rfl)) (by decide) 0 (rm_cha l Z a0 hw [] a t 2 3 ch rF n0 cS h0 (by decide) (by decide) (fun q _ => hc q) E_a Fc_a Fv_a V_t O0 Sc hcS Sr hr_rF) e11 (by decide) (by decide) (by decide) (by decide) E_a (argsL := [(.int (2 : Int32))]) (rest := []) rfl (by rw [hml]; rfl) (lenOf pd__28I_29C rfl) rfl rfl (by show 2 * 0 + _ ≤ _; exact Nat.le_of_eq rfl) (hb hby dsam_48) ?_
    rintro _ T13 L13 X13 ⟨rfl, e13, rfl⟩
    have N14 := Fr.app N12 (Fr.nil _)
    show Go p e below _ T13 (mkF m 51 #[rv a, rv arr, iv (3 : Int32)] [(.int (Int32.ofNat (ch 2)))])
    refine Go.st (T' := T13) (g' := (mkF m 106 #[rv a, rv arr, iv (3 : Int32)] [(.int (1 : Int32))])) ?_ (fun _ kk_ => XS.aloadN X13.here hx rfl (hb hby dsam_51) rfl rfl  (XS.iconst X13.here hx rfl (hb hby dsam_52) (own_caload X13 hx hZ e13 V_arr (i := 2) (v := (.int (f 2))) (IL_at (by decide)) rfl rfl rfl (hb hby dsam_53) (XS.icmpNo X13.here hx rfl (hb hby dsam_54) rfl (teq ((hf 2 (by decide)).symm : (Int32.ofNat (ch 2)) = (f 2))).2 (XS.iloadN X13.here hx rfl (hb hby dsam_57) rfl  (XS.iconst X13.here hx rfl (hb hby dsam_58) (XS.icmpYes X13.here hx rfl (pc0 := 59) (pc' := 73) rfl (hb hby dsam_59) rfl (flt ((by decide) : ¬ ((3 : Int32) < (3 : Int32)))).2.2.2 (by decide) (by decide) (XS.iloadN X13.here hx rfl (hb hby dsam_73) rfl  (XS.iconst X13.here hx rfl (hb hby dsam_74) (XS.icmpYes X13.here hx rfl (pc0 := 75) (pc' := 89) rfl (hb hby dsam_75) rfl (flt ((by decide) : ¬ ((4 : Int32) < (3 : Int32)))).2.2.2 (by decide) (by decide) (XS.iloadN X13.here hx rfl (hb hby dsam_89) rfl  (XS.iconst X13.here hx rfl (hb hby dsam_90) (XS.icmpYes X13.here hx rfl (pc0 := 91) (pc' := 105) rfl (hb hby dsam_91) rfl (flt ((by decide) : ¬ ((5 : Int32) < (3 : Int32)))).2.2.2 (by decide) (by decide) (XS.iconst X13.here hx rfl (hb hby dsam_105) kk_))))))))))))))
    refine Go.st (T' := T13) (g' := (mkF m 110 #[rv a, rv arr, iv (3 : Int32)] [(.int (1 : Int32))])) ?_ (fun _ kk_ => XS.goto X13.here hx rfl (pc0 := 106) (pc' := 110) rfl (hb hby dsam_106) (by decide) (by decide) kk_)
    refine Go.retN X13 hx hlk (t := .boolean) hret (by simp) (z' := (1 : Int32)) rfl (hb hby dsam_110) (by decide) (by decide) ?_
    try rw [e13]
    exact ⟨rfl, rfl, rfl⟩
  ·
    show Go p e below _ T1 (mkF m 10 #[rv a, rv arr, iv (4 : Int32)] [])
    refine Go.st (T' := T1) (g' := (mkF m 16 #[rv a, rv arr, iv (4 : Int32)] [(.int (0 : Int32)), (.ref a)])) ?_ (fun _ kk_ => XS.iloadN X1.here hx rfl (hb hby dsam_10) rfl  (XS.ifNo X1.here hx rfl (hb hby dsam_11) rfl ((if0 _ _).trans (tlt ((by decide) : (0 : Int32) < (4 : Int32))).2.2.2) (XS.aloadN X1.here hx rfl (hb hby dsam_14) rfl rfl  (XS.iconst X1.here hx rfl (hb hby dsam_15) kk_))))
    refine Go.callV (y := (⟨"java/lang/String", "charAt", "(I)C"⟩ : MethodName)) (z := (⟨"java/lang/String", "charAt", "(I)C"⟩ : MethodName)) X1 hx hZ hown (hw _ (List.mem_of_getElem? (i := 79) rfl)) (hw _ (List.mem_of_getElem? (i := 54) rfl)) (notFace_of_selects (args := #[]) (mvT hZ (hw _ (List.mem_of_getElem? (i := 56) rfl)))) (hw _ (List.mem_of_getElem? (i := 56) rfl)) (hw _ (List.mem_of_getElem? (i := 55) rfl)) (hw _ (List.mem_of_getElem? (i := 12) rfl)) (hw _ (List.mem_of_getElem? (i := 57) rfl)) (by decide) 0 (rm_cha l Z a0 hw [] a t 0 4 ch rF n0 cS h0 (by decide) (by decide) (fun q _ => hc q) E_a Fc_a Fv_a V_t O0 Sc hcS Sr hr_rF) e1 (by decide) (by decide) (by decide) (by decide) E_a (argsL := [(.int (0 : Int32))]) (rest := []) rfl (by rw [hml]; rfl) (lenOf pd__28I_29C rfl) rfl rfl (by show 2 * 0 + _ ≤ _; exact Nat.le_of_eq rfl) (hb hby dsam_16) ?_
    rintro _ T15 L15 X15 ⟨rfl, e15, rfl⟩
    have N16 := Fr.app N2 (Fr.nil _)
    show Go p e below _ T15 (mkF m 19 #[rv a, rv arr, iv (4 : Int32)] [(.int (Int32.ofNat (ch 0)))])
    refine Go.st (T' := T15) (g' := (mkF m 32 #[rv a, rv arr, iv (4 : Int32)] [(.int (1 : Int32)), (.ref a)])) ?_ (fun _ kk_ => XS.aloadN X15.here hx rfl (hb hby dsam_19) rfl rfl  (XS.iconst X15.here hx rfl (hb hby dsam_20) (own_caload X15 hx hZ e15 V_arr (i := 0) (v := (.int (f 0))) (IL_at (by decide)) rfl rfl rfl (hb hby dsam_21) (XS.icmpNo X15.here hx rfl (hb hby dsam_22) rfl (teq ((hf 0 (by decide)).symm : (Int32.ofNat (ch 0)) = (f 0))).2 (XS.iloadN X15.here hx rfl (hb hby dsam_25) rfl  (XS.iconst X15.here hx rfl (hb hby dsam_26) (XS.icmpNo X15.here hx rfl (hb hby dsam_27) rfl (tlt ((by decide) : (1 : Int32) < (4 : Int32))).2.2.2 (XS.aloadN X15.here hx rfl (hb hby dsam_30) rfl rfl  (XS.iconst X15.here hx rfl (hb hby dsam_31) kk_)))))))))
    refine Go.callV (y := (⟨"java/lang/String", "charAt", "(I)C"⟩ : MethodName)) (z := (⟨"java/lang/String", "charAt", "(I)C"⟩ : MethodName)) X15 hx hZ hown (hw _ (List.mem_of_getElem? (i := 79) rfl)) (hw _ (List.mem_of_getElem? (i := 54) rfl)) (notFace_of_selects (args := #[]) (mvT hZ (hw _ (List.mem_of_getElem? (i := 56) rfl)))) (hw _ (List.mem_of_getElem? (i := 56) rfl)) (hw _ (List.mem_of_getElem? (i := 55) rfl)) (hw _ (List.mem_of_getElem? (i := 12) rfl)) (hw _ (List.mem_of_getElem? (i := 57) rfl)) (by decide) 0 (rm_cha l Z a0 hw [] a t 1 4 ch rF n0 cS h0 (by decide) (by decide) (fun q _ => hc q) E_a Fc_a Fv_a V_t O0 Sc hcS Sr hr_rF) e15 (by decide) (by decide) (by decide) (by decide) E_a (argsL := [(.int (1 : Int32))]) (rest := []) rfl (by rw [hml]; rfl) (lenOf pd__28I_29C rfl) rfl rfl (by show 2 * 0 + _ ≤ _; exact Nat.le_of_eq rfl) (hb hby dsam_32) ?_
    rintro _ T17 L17 X17 ⟨rfl, e17, rfl⟩
    have N18 := Fr.app N16 (Fr.nil _)
    show Go p e below _ T17 (mkF m 35 #[rv a, rv arr, iv (4 : Int32)] [(.int (Int32.ofNat (ch 1)))])
    refine Go.st (T' := T17) (g' := (mkF m 48 #[rv a, rv arr, iv (4 : Int32)] [(.int (2 : Int32)), (.ref a)])) ?_ (fun _ kk_ => XS.aloadN X17.here hx rfl (hb hby dsam_35) rfl rfl  (XS.iconst X17.here hx rfl (hb hby dsam_36) (own_caload X17 hx hZ e17 V_arr (i := 1) (v := (.int (f 1))) (IL_at (by decide)) rfl rfl rfl (hb hby dsam_37) (XS.icmpNo X17.here hx rfl (hb hby dsam_38) rfl (teq ((hf 1 (by decide)).symm : (Int32.ofNat (ch 1)) = (f 1))).2 (XS.iloadN X17.here hx rfl (hb hby dsam_41) rfl  (XS.iconst X17.here hx rfl (hb hby dsam_42) (XS.icmpNo X17.here hx rfl (hb hby dsam_43) rfl (tlt ((by decide) : (2 : Int32) < (4 : Int32))).2.2.2 (XS.aloadN X17.here hx rfl (hb hby dsam_46) rfl rfl  (XS.iconst X17.here hx rfl (hb hby dsam_47) kk_)))))))))
    refine Go.callV (y := (⟨"java/lang/String", "charAt", "(I)C"⟩ : MethodName)) (z := (⟨"java/lang/String", "charAt", "(I)C"⟩ : MethodName)) X17 hx hZ hown (hw _ (List.mem_of_getElem? (i := 79) rfl)) (hw _ (List.mem_of_getElem? (i := 54) rfl)) (notFace_of_selects (args := #[]) (mvT hZ (hw _ (List.mem_of_getElem? (i := 56) rfl)))) (hw _ (List.mem_of_getElem? (i := 56) rfl)) (hw _ (List.mem_of_getElem? (i := 55) rfl)) (hw _ (List.mem_of_getElem? (i := 12) rfl)) (hw _ (List.mem_of_getElem? (i := 57) rfl)) (by decide) 0 (rm_cha l Z a0 hw [] a t 2 4 ch rF n0 cS h0 (by decide) (by decide) (fun q _ => hc q) E_a Fc_a Fv_a V_t O0 Sc hcS Sr hr_rF) e17 (by decide) (by decide) (by decide) (by decide) E_a (argsL := [(.int (2 : Int32))]) (rest := []) rfl (by rw [hml]; rfl) (lenOf pd__28I_29C rfl) rfl rfl (by show 2 * 0 + _ ≤ _; exact Nat.le_of_eq rfl) (hb hby dsam_48) ?_
    rintro _ T19 L19 X19 ⟨rfl, e19, rfl⟩
    have N20 := Fr.app N18 (Fr.nil _)
    show Go p e below _ T19 (mkF m 51 #[rv a, rv arr, iv (4 : Int32)] [(.int (Int32.ofNat (ch 2)))])
    refine Go.st (T' := T19) (g' := (mkF m 64 #[rv a, rv arr, iv (4 : Int32)] [(.int (3 : Int32)), (.ref a)])) ?_ (fun _ kk_ => XS.aloadN X19.here hx rfl (hb hby dsam_51) rfl rfl  (XS.iconst X19.here hx rfl (hb hby dsam_52) (own_caload X19 hx hZ e19 V_arr (i := 2) (v := (.int (f 2))) (IL_at (by decide)) rfl rfl rfl (hb hby dsam_53) (XS.icmpNo X19.here hx rfl (hb hby dsam_54) rfl (teq ((hf 2 (by decide)).symm : (Int32.ofNat (ch 2)) = (f 2))).2 (XS.iloadN X19.here hx rfl (hb hby dsam_57) rfl  (XS.iconst X19.here hx rfl (hb hby dsam_58) (XS.icmpNo X19.here hx rfl (hb hby dsam_59) rfl (tlt ((by decide) : (3 : Int32) < (4 : Int32))).2.2.2 (XS.aloadN X19.here hx rfl (hb hby dsam_62) rfl rfl  (XS.iconst X19.here hx rfl (hb hby dsam_63) kk_)))))))))
    refine Go.callV (y := (⟨"java/lang/String", "charAt", "(I)C"⟩ : MethodName)) (z := (⟨"java/lang/String", "charAt", "(I)C"⟩ : MethodName)) X19 hx hZ hown (hw _ (List.mem_of_getElem? (i := 79) rfl)) (hw _ (List.mem_of_getElem? (i := 54) rfl)) (notFace_of_selects (args := #[]) (mvT hZ (hw _ (List.mem_of_getElem? (i := 56) rfl)))) (hw _ (List.mem_of_getElem? (i := 56) rfl)) (hw _ (List.mem_of_getElem? (i := 55) rfl)) (hw _ (List.mem_of_getElem? (i := 12) rfl)) (hw _ (List.mem_of_getElem? (i := 57) rfl)) (by decide) 0 (rm_cha l Z a0 hw [] a t 3 4 ch rF n0 cS h0 (by decide) (by decide) (fun q _ => hc q) E_a Fc_a Fv_a V_t O0 Sc hcS Sr hr_rF) e19 (by decide) (by decide) (by decide) (by decide) E_a (argsL := [(.int (3 : Int32))]) (rest := []) rfl (by rw [hml]; rfl) (lenOf pd__28I_29C rfl) rfl rfl (by show 2 * 0 + _ ≤ _; exact Nat.le_of_eq rfl) (hb hby dsam_64) ?_
    rintro _ T21 L21 X21 ⟨rfl, e21, rfl⟩
    have N22 := Fr.app N20 (Fr.nil _)
    show Go p e below _ T21 (mkF m 67 #[rv a, rv arr, iv (4 : Int32)] [(.int (Int32.ofNat (ch 3)))])
    refine Go.st (T' := T21) (g' := (mkF m 110 #[rv a, rv arr, iv (4 : Int32)] [(.int (1 : Int32))])) ?_ (fun _ kk_ => XS.aloadN X21.here hx rfl (hb hby dsam_67) rfl rfl  (XS.iconst X21.here hx rfl (hb hby dsam_68) (own_caload X21 hx hZ e21 V_arr (i := 3) (v := (.int (f 3))) (IL_at (by decide)) rfl rfl rfl (hb hby dsam_69) (XS.icmpNo X21.here hx rfl (hb hby dsam_70) rfl (teq ((hf 3 (by decide)).symm : (Int32.ofNat (ch 3)) = (f 3))).2 (XS.iloadN X21.here hx rfl (hb hby dsam_73) rfl  (XS.iconst X21.here hx rfl (hb hby dsam_74) (XS.icmpYes X21.here hx rfl (pc0 := 75) (pc' := 89) rfl (hb hby dsam_75) rfl (flt ((by decide) : ¬ ((4 : Int32) < (4 : Int32)))).2.2.2 (by decide) (by decide) (XS.iloadN X21.here hx rfl (hb hby dsam_89) rfl  (XS.iconst X21.here hx rfl (hb hby dsam_90) (XS.icmpYes X21.here hx rfl (pc0 := 91) (pc' := 105) rfl (hb hby dsam_91) rfl (flt ((by decide) : ¬ ((5 : Int32) < (4 : Int32)))).2.2.2 (by decide) (by decide) (XS.iconst X21.here hx rfl (hb hby dsam_105) (XS.goto X21.here hx rfl (pc0 := 106) (pc' := 110) rfl (hb hby dsam_106) (by decide) (by decide) kk_))))))))))))
    refine Go.retN X21 hx hlk (t := .boolean) hret (by simp) (z' := (1 : Int32)) rfl (hb hby dsam_110) (by decide) (by decide) ?_
    try rw [e21]
    exact ⟨rfl, rfl, rfl⟩
  ·
    show Go p e below _ T1 (mkF m 10 #[rv a, rv arr, iv (5 : Int32)] [])
    refine Go.st (T' := T1) (g' := (mkF m 16 #[rv a, rv arr, iv (5 : Int32)] [(.int (0 : Int32)), (.ref a)])) ?_ (fun _ kk_ => XS.iloadN X1.here hx rfl (hb hby dsam_10) rfl  (XS.ifNo X1.here hx rfl (hb hby dsam_11) rfl ((if0 _ _).trans (tlt ((by decide) : (0 : Int32) < (5 : Int32))).2.2.2) (XS.aloadN X1.here hx rfl (hb hby dsam_14) rfl rfl  (XS.iconst X1.here hx rfl (hb hby dsam_15) kk_))))
    refine Go.callV (y := (⟨"java/lang/String", "charAt", "(I)C"⟩ : MethodName)) (z := (⟨"java/lang/String", "charAt", "(I)C"⟩ : MethodName)) X1 hx hZ hown (hw _ (List.mem_of_getElem? (i := 79) rfl)) (hw _ (List.mem_of_getElem? (i := 54) rfl)) (notFace_of_selects (args := #[]) (mvT hZ (hw _ (List.mem_of_getElem? (i := 56) rfl)))) (hw _ (List.mem_of_getElem? (i := 56) rfl)) (hw _ (List.mem_of_getElem? (i := 55) rfl)) (hw _ (List.mem_of_getElem? (i := 12) rfl)) (hw _ (List.mem_of_getElem? (i := 57) rfl)) (by decide) 0 (rm_cha l Z a0 hw [] a t 0 5 ch rF n0 cS h0 (by decide) (by decide) (fun q _ => hc q) E_a Fc_a Fv_a V_t O0 Sc hcS Sr hr_rF) e1 (by decide) (by decide) (by decide) (by decide) E_a (argsL := [(.int (0 : Int32))]) (rest := []) rfl (by rw [hml]; rfl) (lenOf pd__28I_29C rfl) rfl rfl (by show 2 * 0 + _ ≤ _; exact Nat.le_of_eq rfl) (hb hby dsam_16) ?_
    rintro _ T23 L23 X23 ⟨rfl, e23, rfl⟩
    have N24 := Fr.app N2 (Fr.nil _)
    show Go p e below _ T23 (mkF m 19 #[rv a, rv arr, iv (5 : Int32)] [(.int (Int32.ofNat (ch 0)))])
    refine Go.st (T' := T23) (g' := (mkF m 32 #[rv a, rv arr, iv (5 : Int32)] [(.int (1 : Int32)), (.ref a)])) ?_ (fun _ kk_ => XS.aloadN X23.here hx rfl (hb hby dsam_19) rfl rfl  (XS.iconst X23.here hx rfl (hb hby dsam_20) (own_caload X23 hx hZ e23 V_arr (i := 0) (v := (.int (f 0))) (IL_at (by decide)) rfl rfl rfl (hb hby dsam_21) (XS.icmpNo X23.here hx rfl (hb hby dsam_22) rfl (teq ((hf 0 (by decide)).symm : (Int32.ofNat (ch 0)) = (f 0))).2 (XS.iloadN X23.here hx rfl (hb hby dsam_25) rfl  (XS.iconst X23.here hx rfl (hb hby dsam_26) (XS.icmpNo X23.here hx rfl (hb hby dsam_27) rfl (tlt ((by decide) : (1 : Int32) < (5 : Int32))).2.2.2 (XS.aloadN X23.here hx rfl (hb hby dsam_30) rfl rfl  (XS.iconst X23.here hx rfl (hb hby dsam_31) kk_)))))))))
    refine Go.callV (y := (⟨"java/lang/String", "charAt", "(I)C"⟩ : MethodName)) (z := (⟨"java/lang/String", "charAt", "(I)C"⟩ : MethodName)) X23 hx hZ hown (hw _ (List.mem_of_getElem? (i := 79) rfl)) (hw _ (List.mem_of_getElem? (i := 54) rfl)) (notFace_of_selects (args := #[]) (mvT hZ (hw _ (List.mem_of_getElem? (i := 56) rfl)))) (hw _ (List.mem_of_getElem? (i := 56) rfl)) (hw _ (List.mem_of_getElem? (i := 55) rfl)) (hw _ (List.mem_of_getElem? (i := 12) rfl)) (hw _ (List.mem_of_getElem? (i := 57) rfl)) (by decide) 0 (rm_cha l Z a0 hw [] a t 1 5 ch rF n0 cS h0 (by decide) (by decide) (fun q _ => hc q) E_a Fc_a Fv_a V_t O0 Sc hcS Sr hr_rF) e23 (by decide) (by decide) (by decide) (by decide) E_a (argsL := [(.int (1 : Int32))]) (rest := []) rfl (by rw [hml]; rfl) (lenOf pd__28I_29C rfl) rfl rfl (by show 2 * 0 + _ ≤ _; exact Nat.le_of_eq rfl) (hb hby dsam_32) ?_
    rintro _ T25 L25 X25 ⟨rfl, e25, rfl⟩
    have N26 := Fr.app N24 (Fr.nil _)
    show Go p e below _ T25 (mkF m 35 #[rv a, rv arr, iv (5 : Int32)] [(.int (Int32.ofNat (ch 1)))])
    refine Go.st (T' := T25) (g' := (mkF m 48 #[rv a, rv arr, iv (5 : Int32)] [(.int (2 : Int32)), (.ref a)])) ?_ (fun _ kk_ => XS.aloadN X25.here hx rfl (hb hby dsam_35) rfl rfl  (XS.iconst X25.here hx rfl (hb hby dsam_36) (own_caload X25 hx hZ e25 V_arr (i := 1) (v := (.int (f 1))) (IL_at (by decide)) rfl rfl rfl (hb hby dsam_37) (XS.icmpNo X25.here hx rfl (hb hby dsam_38) rfl (teq ((hf 1 (by decide)).symm : (Int32.ofNat (ch 1)) = (f 1))).2 (XS.iloadN X25.here hx rfl (hb hby dsam_41) rfl  (XS.iconst X25.here hx rfl (hb hby dsam_42) (XS.icmpNo X25.here hx rfl (hb hby dsam_43) rfl (tlt ((by decide) : (2 : Int32) < (5 : Int32))).2.2.2 (XS.aloadN X25.here hx rfl (hb hby dsam_46) rfl rfl  (XS.iconst X25.here hx rfl (hb hby dsam_47) kk_)))))))))
    refine Go.callV (y := (⟨"java/lang/String", "charAt", "(I)C"⟩ : MethodName)) (z := (⟨"java/lang/String", "charAt", "(I)C"⟩ : MethodName)) X25 hx hZ hown (hw _ (List.mem_of_getElem? (i := 79) rfl)) (hw _ (List.mem_of_getElem? (i := 54) rfl)) (notFace_of_selects (args := #[]) (mvT hZ (hw _ (List.mem_of_getElem? (i := 56) rfl)))) (hw _ (List.mem_of_getElem? (i := 56) rfl)) (hw _ (List.mem_of_getElem? (i := 55) rfl)) (hw _ (List.mem_of_getElem? (i := 12) rfl)) (hw _ (List.mem_of_getElem? (i := 57) rfl)) (by decide) 0 (rm_cha l Z a0 hw [] a t 2 5 ch rF n0 cS h0 (by decide) (by decide) (fun q _ => hc q) E_a Fc_a Fv_a V_t O0 Sc hcS Sr hr_rF) e25 (by decide) (by decide) (by decide) (by decide) E_a (argsL := [(.int (2 : Int32))]) (rest := []) rfl (by rw [hml]; rfl) (lenOf pd__28I_29C rfl) rfl rfl (by show 2 * 0 + _ ≤ _; exact Nat.le_of_eq rfl) (hb hby dsam_48) ?_
    rintro _ T27 L27 X27 ⟨rfl, e27, rfl⟩
    have N28 := Fr.app N26 (Fr.nil _)
    show Go p e below _ T27 (mkF m 51 #[rv a, rv arr, iv (5 : Int32)] [(.int (Int32.ofNat (ch 2)))])
    refine Go.st (T' := T27) (g' := (mkF m 64 #[rv a, rv arr, iv (5 : Int32)] [(.int (3 : Int32)), (.ref a)])) ?_ (fun _ kk_ => XS.aloadN X27.here hx rfl (hb hby dsam_51) rfl rfl  (XS.iconst X27.here hx rfl (hb hby dsam_52) (own_caload X27 hx hZ e27 V_arr (i := 2) (v := (.int (f 2))) (IL_at (by decide)) rfl rfl rfl (hb hby dsam_53) (XS.icmpNo X27.here hx rfl (hb hby dsam_54) rfl (teq ((hf 2 (by decide)).symm : (Int32.ofNat (ch 2)) = (f 2))).2 (XS.iloadN X27.here hx rfl (hb hby dsam_57) rfl  (XS.iconst X27.here hx rfl (hb hby dsam_58) (XS.icmpNo X27.here hx rfl (hb hby dsam_59) rfl (tlt ((by decide) : (3 : Int32) < (5 : Int32))).2.2.2 (XS.aloadN X27.here hx rfl (hb hby dsam_62) rfl rfl  (XS.iconst X27.here hx rfl (hb hby dsam_63) kk_)))))))))
    refine Go.callV (y := (⟨"java/lang/String", "charAt", "(I)C"⟩ : MethodName)) (z := (⟨"java/lang/String", "charAt", "(I)C"⟩ : MethodName)) X27 hx hZ hown (hw _ (List.mem_of_getElem? (i := 79) rfl)) (hw _ (List.mem_of_getElem? (i := 54) rfl)) (notFace_of_selects (args := #[]) (mvT hZ (hw _ (List.mem_of_getElem? (i := 56) rfl)))) (hw _ (List.mem_of_getElem? (i := 56) rfl)) (hw _ (List.mem_of_getElem? (i := 55) rfl)) (hw _ (List.mem_of_getElem? (i := 12) rfl)) (hw _ (List.mem_of_getElem? (i := 57) rfl)) (by decide) 0 (rm_cha l Z a0 hw [] a t 3 5 ch rF n0 cS h0 (by decide) (by decide) (fun q _ => hc q) E_a Fc_a Fv_a V_t O0 Sc hcS Sr hr_rF) e27 (by decide) (by decide) (by decide) (by decide) E_a (argsL := [(.int (3 : Int32))]) (rest := []) rfl (by rw [hml]; rfl) (lenOf pd__28I_29C rfl) rfl rfl (by show 2 * 0 + _ ≤ _; exact Nat.le_of_eq rfl) (hb hby dsam_64) ?_
    rintro _ T29 L29 X29 ⟨rfl, e29, rfl⟩
    have N30 := Fr.app N28 (Fr.nil _)
    show Go p e below _ T29 (mkF m 67 #[rv a, rv arr, iv (5 : Int32)] [(.int (Int32.ofNat (ch 3)))])
    refine Go.st (T' := T29) (g' := (mkF m 80 #[rv a, rv arr, iv (5 : Int32)] [(.int (4 : Int32)), (.ref a)])) ?_ (fun _ kk_ => XS.aloadN X29.here hx rfl (hb hby dsam_67) rfl rfl  (XS.iconst X29.here hx rfl (hb hby dsam_68) (own_caload X29 hx hZ e29 V_arr (i := 3) (v := (.int (f 3))) (IL_at (by decide)) rfl rfl rfl (hb hby dsam_69) (XS.icmpNo X29.here hx rfl (hb hby dsam_70) rfl (teq ((hf 3 (by decide)).symm : (Int32.ofNat (ch 3)) = (f 3))).2 (XS.iloadN X29.here hx rfl (hb hby dsam_73) rfl  (XS.iconst X29.here hx rfl (hb hby dsam_74) (XS.icmpNo X29.here hx rfl (hb hby dsam_75) rfl (tlt ((by decide) : (4 : Int32) < (5 : Int32))).2.2.2 (XS.aloadN X29.here hx rfl (hb hby dsam_78) rfl rfl  (XS.iconst X29.here hx rfl (hb hby dsam_79) kk_)))))))))
    refine Go.callV (y := (⟨"java/lang/String", "charAt", "(I)C"⟩ : MethodName)) (z := (⟨"java/lang/String", "charAt", "(I)C"⟩ : MethodName)) X29 hx hZ hown (hw _ (List.mem_of_getElem? (i := 79) rfl)) (hw _ (List.mem_of_getElem? (i := 54) rfl)) (notFace_of_selects (args := #[]) (mvT hZ (hw _ (List.mem_of_getElem? (i := 56) rfl)))) (hw _ (List.mem_of_getElem? (i := 56) rfl)) (hw _ (List.mem_of_getElem? (i := 55) rfl)) (hw _ (List.mem_of_getElem? (i := 12) rfl)) (hw _ (List.mem_of_getElem? (i := 57) rfl)) (by decide) 0 (rm_cha l Z a0 hw [] a t 4 5 ch rF n0 cS h0 (by decide) (by decide) (fun q _ => hc q) E_a Fc_a Fv_a V_t O0 Sc hcS Sr hr_rF) e29 (by decide) (by decide) (by decide) (by decide) E_a (argsL := [(.int (4 : Int32))]) (rest := []) rfl (by rw [hml]; rfl) (lenOf pd__28I_29C rfl) rfl rfl (by show 2 * 0 + _ ≤ _; exact Nat.le_of_eq rfl) (hb hby dsam_80) ?_
    rintro _ T31 L31 X31 ⟨rfl, e31, rfl⟩
    have N32 := Fr.app N30 (Fr.nil _)
    show Go p e below _ T31 (mkF m 83 #[rv a, rv arr, iv (5 : Int32)] [(.int (Int32.ofNat (ch 4)))])
    refine Go.st (T' := T31) (g' := (mkF m 110 #[rv a, rv arr, iv (5 : Int32)] [(.int (1 : Int32))])) ?_ (fun _ kk_ => XS.aloadN X31.here hx rfl (hb hby dsam_83) rfl rfl  (XS.iconst X31.here hx rfl (hb hby dsam_84) (own_caload X31 hx hZ e31 V_arr (i := 4) (v := (.int (f 4))) (IL_at (by decide)) rfl rfl rfl (hb hby dsam_85) (XS.icmpNo X31.here hx rfl (hb hby dsam_86) rfl (teq ((hf 4 (by decide)).symm : (Int32.ofNat (ch 4)) = (f 4))).2 (XS.iloadN X31.here hx rfl (hb hby dsam_89) rfl  (XS.iconst X31.here hx rfl (hb hby dsam_90) (XS.icmpYes X31.here hx rfl (pc0 := 91) (pc' := 105) rfl (hb hby dsam_91) rfl (flt ((by decide) : ¬ ((5 : Int32) < (5 : Int32)))).2.2.2 (by decide) (by decide) (XS.iconst X31.here hx rfl (hb hby dsam_105) (XS.goto X31.here hx rfl (pc0 := 106) (pc' := 110) rfl (hb hby dsam_106) (by decide) (by decide) kk_)))))))))
    refine Go.retN X31 hx hlk (t := .boolean) hret (by simp) (z' := (1 : Int32)) rfl (hb hby dsam_110) (by decide) (by decide) ?_
    try rw [e31]
    exact ⟨rfl, rfl, rfl⟩
  ·
    show Go p e below _ T1 (mkF m 10 #[rv a, rv arr, iv (6 : Int32)] [])
    refine Go.st (T' := T1) (g' := (mkF m 16 #[rv a, rv arr, iv (6 : Int32)] [(.int (0 : Int32)), (.ref a)])) ?_ (fun _ kk_ => XS.iloadN X1.here hx rfl (hb hby dsam_10) rfl  (XS.ifNo X1.here hx rfl (hb hby dsam_11) rfl ((if0 _ _).trans (tlt ((by decide) : (0 : Int32) < (6 : Int32))).2.2.2) (XS.aloadN X1.here hx rfl (hb hby dsam_14) rfl rfl  (XS.iconst X1.here hx rfl (hb hby dsam_15) kk_))))
    refine Go.callV (y := (⟨"java/lang/String", "charAt", "(I)C"⟩ : MethodName)) (z := (⟨"java/lang/String", "charAt", "(I)C"⟩ : MethodName)) X1 hx hZ hown (hw _ (List.mem_of_getElem? (i := 79) rfl)) (hw _ (List.mem_of_getElem? (i := 54) rfl)) (notFace_of_selects (args := #[]) (mvT hZ (hw _ (List.mem_of_getElem? (i := 56) rfl)))) (hw _ (List.mem_of_getElem? (i := 56) rfl)) (hw _ (List.mem_of_getElem? (i := 55) rfl)) (hw _ (List.mem_of_getElem? (i := 12) rfl)) (hw _ (List.mem_of_getElem? (i := 57) rfl)) (by decide) 0 (rm_cha l Z a0 hw [] a t 0 6 ch rF n0 cS h0 (by decide) (by decide) (fun q _ => hc q) E_a Fc_a Fv_a V_t O0 Sc hcS Sr hr_rF) e1 (by decide) (by decide) (by decide) (by decide) E_a (argsL := [(.int (0 : Int32))]) (rest := []) rfl (by rw [hml]; rfl) (lenOf pd__28I_29C rfl) rfl rfl (by show 2 * 0 + _ ≤ _; exact Nat.le_of_eq rfl) (hb hby dsam_16) ?_
    rintro _ T33 L33 X33 ⟨rfl, e33, rfl⟩
    have N34 := Fr.app N2 (Fr.nil _)
    show Go p e below _ T33 (mkF m 19 #[rv a, rv arr, iv (6 : Int32)] [(.int (Int32.ofNat (ch 0)))])
    refine Go.st (T' := T33) (g' := (mkF m 32 #[rv a, rv arr, iv (6 : Int32)] [(.int (1 : Int32)), (.ref a)])) ?_ (fun _ kk_ => XS.aloadN X33.here hx rfl (hb hby dsam_19) rfl rfl  (XS.iconst X33.here hx rfl (hb hby dsam_20) (own_caload X33 hx hZ e33 V_arr (i := 0) (v := (.int (f 0))) (IL_at (by decide)) rfl rfl rfl (hb hby dsam_21) (XS.icmpNo X33.here hx rfl (hb hby dsam_22) rfl (teq ((hf 0 (by decide)).symm : (Int32.ofNat (ch 0)) = (f 0))).2 (XS.iloadN X33.here hx rfl (hb hby dsam_25) rfl  (XS.iconst X33.here hx rfl (hb hby dsam_26) (XS.icmpNo X33.here hx rfl (hb hby dsam_27) rfl (tlt ((by decide) : (1 : Int32) < (6 : Int32))).2.2.2 (XS.aloadN X33.here hx rfl (hb hby dsam_30) rfl rfl  (XS.iconst X33.here hx rfl (hb hby dsam_31) kk_)))))))))
    refine Go.callV (y := (⟨"java/lang/String", "charAt", "(I)C"⟩ : MethodName)) (z := (⟨"java/lang/String", "charAt", "(I)C"⟩ : MethodName)) X33 hx hZ hown (hw _ (List.mem_of_getElem? (i := 79) rfl)) (hw _ (List.mem_of_getElem? (i := 54) rfl)) (notFace_of_selects (args := #[]) (mvT hZ (hw _ (List.mem_of_getElem? (i := 56) rfl)))) (hw _ (List.mem_of_getElem? (i := 56) rfl)) (hw _ (List.mem_of_getElem? (i := 55) rfl)) (hw _ (List.mem_of_getElem? (i := 12) rfl)) (hw _ (List.mem_of_getElem? (i := 57) rfl)) (by decide) 0 (rm_cha l Z a0 hw [] a t 1 6 ch rF n0 cS h0 (by decide) (by decide) (fun q _ => hc q) E_a Fc_a Fv_a V_t O0 Sc hcS Sr hr_rF) e33 (by decide) (by decide) (by decide) (by decide) E_a (argsL := [(.int (1 : Int32))]) (rest := []) rfl (by rw [hml]; rfl) (lenOf pd__28I_29C rfl) rfl rfl (by show 2 * 0 + _ ≤ _; exact Nat.le_of_eq rfl) (hb hby dsam_32) ?_
    rintro _ T35 L35 X35 ⟨rfl, e35, rfl⟩
    have N36 := Fr.app N34 (Fr.nil _)
    show Go p e below _ T35 (mkF m 35 #[rv a, rv arr, iv (6 : Int32)] [(.int (Int32.ofNat (ch 1)))])
    refine Go.st (T' := T35) (g' := (mkF m 48 #[rv a, rv arr, iv (6 : Int32)] [(.int (2 : Int32)), (.ref a)])) ?_ (fun _ kk_ => XS.aloadN X35.here hx rfl (hb hby dsam_35) rfl rfl  (XS.iconst X35.here hx rfl (hb hby dsam_36) (own_caload X35 hx hZ e35 V_arr (i := 1) (v := (.int (f 1))) (IL_at (by decide)) rfl rfl rfl (hb hby dsam_37) (XS.icmpNo X35.here hx rfl (hb hby dsam_38) rfl (teq ((hf 1 (by decide)).symm : (Int32.ofNat (ch 1)) = (f 1))).2 (XS.iloadN X35.here hx rfl (hb hby dsam_41) rfl  (XS.iconst X35.here hx rfl (hb hby dsam_42) (XS.icmpNo X35.here hx rfl (hb hby dsam_43) rfl (tlt ((by decide) : (2 : Int32) < (6 : Int32))).2.2.2 (XS.aloadN X35.here hx rfl (hb hby dsam_46) rfl rfl  (XS.iconst X35.here hx rfl (hb hby dsam_47) kk_)))))))))
    refine Go.callV (y := (⟨"java/lang/String", "charAt", "(I)C"⟩ : MethodName)) (z := (⟨"java/lang/String", "charAt", "(I)C"⟩ : MethodName)) X35 hx hZ hown (hw _ (List.mem_of_getElem? (i := 79) rfl)) (hw _ (List.mem_of_getElem? (i := 54) rfl)) (notFace_of_selects (args := #[]) (mvT hZ (hw _ (List.mem_of_getElem? (i := 56) rfl)))) (hw _ (List.mem_of_getElem? (i := 56) rfl)) (hw _ (List.mem_of_getElem? (i := 55) rfl)) (hw _ (List.mem_of_getElem? (i := 12) rfl)) (hw _ (List.mem_of_getElem? (i := 57) rfl)) (by decide) 0 (rm_cha l Z a0 hw [] a t 2 6 ch rF n0 cS h0 (by decide) (by decide) (fun q _ => hc q) E_a Fc_a Fv_a V_t O0 Sc hcS Sr hr_rF) e35 (by decide) (by decide) (by decide) (by decide) E_a (argsL := [(.int (2 : Int32))]) (rest := []) rfl (by rw [hml]; rfl) (lenOf pd__28I_29C rfl) rfl rfl (by show 2 * 0 + _ ≤ _; exact Nat.le_of_eq rfl) (hb hby dsam_48) ?_
    rintro _ T37 L37 X37 ⟨rfl, e37, rfl⟩
    have N38 := Fr.app N36 (Fr.nil _)
    show Go p e below _ T37 (mkF m 51 #[rv a, rv arr, iv (6 : Int32)] [(.int (Int32.ofNat (ch 2)))])
    refine Go.st (T' := T37) (g' := (mkF m 64 #[rv a, rv arr, iv (6 : Int32)] [(.int (3 : Int32)), (.ref a)])) ?_ (fun _ kk_ => XS.aloadN X37.here hx rfl (hb hby dsam_51) rfl rfl  (XS.iconst X37.here hx rfl (hb hby dsam_52) (own_caload X37 hx hZ e37 V_arr (i := 2) (v := (.int (f 2))) (IL_at (by decide)) rfl rfl rfl (hb hby dsam_53) (XS.icmpNo X37.here hx rfl (hb hby dsam_54) rfl (teq ((hf 2 (by decide)).symm : (Int32.ofNat (ch 2)) = (f 2))).2 (XS.iloadN X37.here hx rfl (hb hby dsam_57) rfl  (XS.iconst X37.here hx rfl (hb hby dsam_58) (XS.icmpNo X37.here hx rfl (hb hby dsam_59) rfl (tlt ((by decide) : (3 : Int32) < (6 : Int32))).2.2.2 (XS.aloadN X37.here hx rfl (hb hby dsam_62) rfl rfl  (XS.iconst X37.here hx rfl (hb hby dsam_63) kk_)))))))))
    refine Go.callV (y := (⟨"java/lang/String", "charAt", "(I)C"⟩ : MethodName)) (z := (⟨"java/lang/String", "charAt", "(I)C"⟩ : MethodName)) X37 hx hZ hown (hw _ (List.mem_of_getElem? (i := 79) rfl)) (hw _ (List.mem_of_getElem? (i := 54) rfl)) (notFace_of_selects (args := #[]) (mvT hZ (hw _ (List.mem_of_getElem? (i := 56) rfl)))) (hw _ (List.mem_of_getElem? (i := 56) rfl)) (hw _ (List.mem_of_getElem? (i := 55) rfl)) (hw _ (List.mem_of_getElem? (i := 12) rfl)) (hw _ (List.mem_of_getElem? (i := 57) rfl)) (by decide) 0 (rm_cha l Z a0 hw [] a t 3 6 ch rF n0 cS h0 (by decide) (by decide) (fun q _ => hc q) E_a Fc_a Fv_a V_t O0 Sc hcS Sr hr_rF) e37 (by decide) (by decide) (by decide) (by decide) E_a (argsL := [(.int (3 : Int32))]) (rest := []) rfl (by rw [hml]; rfl) (lenOf pd__28I_29C rfl) rfl rfl (by show 2 * 0 + _ ≤ _; exact Nat.le_of_eq rfl) (hb hby dsam_64) ?_
    rintro _ T39 L39 X39 ⟨rfl, e39, rfl⟩
    have N40 := Fr.app N38 (Fr.nil _)
    show Go p e below _ T39 (mkF m 67 #[rv a, rv arr, iv (6 : Int32)] [(.int (Int32.ofNat (ch 3)))])
    refine Go.st (T' := T39) (g' := (mkF m 80 #[rv a, rv arr, iv (6 : Int32)] [(.int (4 : Int32)), (.ref a)])) ?_ (fun _ kk_ => XS.aloadN X39.here hx rfl (hb hby dsam_67) rfl rfl  (XS.iconst X39.here hx rfl (hb hby dsam_68) (own_caload X39 hx hZ e39 V_arr (i := 3) (v := (.int (f 3))) (IL_at (by decide)) rfl rfl rfl (hb hby dsam_69) (XS.icmpNo X39.here hx rfl (hb hby dsam_70) rfl (teq ((hf 3 (by decide)).symm : (Int32.ofNat (ch 3)) = (f 3))).2 (XS.iloadN X39.here hx rfl (hb hby dsam_73) rfl  (XS.iconst X39.here hx rfl (hb hby dsam_74) (XS.icmpNo X39.here hx rfl (hb hby dsam_75) rfl (tlt ((by decide) : (4 : Int32) < (6 : Int32))).2.2.2 (XS.aloadN X39.here hx rfl (hb hby dsam_78) rfl rfl  (XS.iconst X39.here hx rfl (hb hby dsam_79) kk_)))))))))
    refine Go.callV (y := (⟨"java/lang/String", "charAt", "(I)C"⟩ : MethodName)) (z := (⟨"java/lang/String", "charAt", "(I)C"⟩ : MethodName)) X39 hx hZ hown (hw _ (List.mem_of_getElem? (i := 79) rfl)) (hw _ (List.mem_of_getElem? (i := 54) rfl)) (notFace_of_selects (args := #[]) (mvT hZ (hw _ (List.mem_of_getElem? (i := 56) rfl)))) (hw _ (List.mem_of_getElem? (i := 56) rfl)) (hw _ (List.mem_of_getElem? (i := 55) rfl)) (hw _ (List.mem_of_getElem? (i := 12) rfl)) (hw _ (List.mem_of_getElem? (i := 57) rfl)) (by decide) 0 (rm_cha l Z a0 hw [] a t 4 6 ch rF n0 cS h0 (by decide) (by decide) (fun q _ => hc q) E_a Fc_a Fv_a V_t O0 Sc hcS Sr hr_rF) e39 (by decide) (by decide) (by decide) (by decide) E_a (argsL := [(.int (4 : Int32))]) (rest := []) rfl (by rw [hml]; rfl) (lenOf pd__28I_29C rfl) rfl rfl (by show 2 * 0 + _ ≤ _; exact Nat.le_of_eq rfl) (hb hby dsam_80) ?_
    rintro _ T41 L41 X41 ⟨rfl, e41, rfl⟩
    have N42 := Fr.app N40 (Fr.nil _)
    show Go p e below _ T41 (mkF m 83 #[rv a, rv arr, iv (6 : Int32)] [(.int (Int32.ofNat (ch 4)))])
    refine Go.st (T' := T41) (g' := (mkF m 96 #[rv a, rv arr, iv (6 : Int32)] [(.int (5 : Int32)), (.ref a)])) ?_ (fun _ kk_ => XS.aloadN X41.here hx rfl (hb hby dsam_83) rfl rfl  (XS.iconst X41.here hx rfl (hb hby dsam_84) (own_caload X41 hx hZ e41 V_arr (i := 4) (v := (.int (f 4))) (IL_at (by decide)) rfl rfl rfl (hb hby dsam_85) (XS.icmpNo X41.here hx rfl (hb hby dsam_86) rfl (teq ((hf 4 (by decide)).symm : (Int32.ofNat (ch 4)) = (f 4))).2 (XS.iloadN X41.here hx rfl (hb hby dsam_89) rfl  (XS.iconst X41.here hx rfl (hb hby dsam_90) (XS.icmpNo X41.here hx rfl (hb hby dsam_91) rfl (tlt ((by decide) : (5 : Int32) < (6 : Int32))).2.2.2 (XS.aloadN X41.here hx rfl (hb hby dsam_94) rfl rfl  (XS.iconst X41.here hx rfl (hb hby dsam_95) kk_)))))))))
    refine Go.callV (y := (⟨"java/lang/String", "charAt", "(I)C"⟩ : MethodName)) (z := (⟨"java/lang/String", "charAt", "(I)C"⟩ : MethodName)) X41 hx hZ hown (hw _ (List.mem_of_getElem? (i := 79) rfl)) (hw _ (List.mem_of_getElem? (i := 54) rfl)) (notFace_of_selects (args := #[]) (mvT hZ (hw _ (List.mem_of_getElem? (i := 56) rfl)))) (hw _ (List.mem_of_getElem? (i := 56) rfl)) (hw _ (List.mem_of_getElem? (i := 55) rfl)) (hw _ (List.mem_of_getElem? (i := 12) rfl)) (hw _ (List.mem_of_getElem? (i := 57) rfl)) (by decide) 0 (rm_cha l Z a0 hw [] a t 5 6 ch rF n0 cS h0 (by decide) (by decide) (fun q _ => hc q) E_a Fc_a Fv_a V_t O0 Sc hcS Sr hr_rF) e41 (by decide) (by decide) (by decide) (by decide) E_a (argsL := [(.int (5 : Int32))]) (rest := []) rfl (by rw [hml]; rfl) (lenOf pd__28I_29C rfl) rfl rfl (by show 2 * 0 + _ ≤ _; exact Nat.le_of_eq rfl) (hb hby dsam_96) ?_
    rintro _ T43 L43 X43 ⟨rfl, e43, rfl⟩
    have N44 := Fr.app N42 (Fr.nil _)
    show Go p e below _ T43 (mkF m 99 #[rv a, rv arr, iv (6 : Int32)] [(.int (Int32.ofNat (ch 5)))])
    refine Go.st (T' := T43) (g' := (mkF m 110 #[rv a, rv arr, iv (6 : Int32)] [(.int (1 : Int32))])) ?_ (fun _ kk_ => XS.aloadN X43.here hx rfl (hb hby dsam_99) rfl rfl  (XS.iconst X43.here hx rfl (hb hby dsam_100) (own_caload X43 hx hZ e43 V_arr (i := 5) (v := (.int (f 5))) (IL_at (by decide)) rfl rfl rfl (hb hby dsam_101) (XS.icmpNo X43.here hx rfl (hb hby dsam_102) rfl (teq ((hf 5 (by decide)).symm : (Int32.ofNat (ch 5)) = (f 5))).2 (XS.iconst X43.here hx rfl (hb hby dsam_105) (XS.goto X43.here hx rfl (pc0 := 106) (pc' := 110) rfl (hb hby dsam_106) (by decide) (by decide) kk_))))))
    refine Go.retN X43 hx hlk (t := .boolean) hret (by simp) (z' := (1 : Int32)) rfl (hb hby dsam_110) (by decide) (by decide) ?_
    try rw [e43]
    exact ⟨rfl, rfl, rfl⟩
theorem dcan_0 : decode jdk_43_method_3_code 0 = .ok (.iload_n 0, 1) := by decide +kernel
theorem dcan_1 : decode jdk_43_method_3_code 1 = .ok (.sipush 255, 3) := by decide +kernel
theorem dcan_4 : decode jdk_43_method_3_code 4 = .ok (.if_icmp .gt 7, 3) := by decide +kernel
theorem dcan_7 : decode jdk_43_method_3_code 7 = .ok (.iconst 1, 1) := by decide +kernel
theorem dcan_8 : decode jdk_43_method_3_code 8 = .ok (.goto 4, 3) := by decide +kernel
theorem dcan_12 : decode jdk_43_method_3_code 12 = .ok (.ireturn, 1) := by decide +kernel
theorem pn_can : plainFor (⟨"java/lang/StringLatin1", "canEncode", "(C)Z"⟩ : MethodName) = true := by first | exact plainFor_of_name (by first | (simp [plainName, overriddenIn]; done) | decide +kernel) | decide +kernel
theorem ef_can (m : MethodId) (x0 : Int32) : entryFrame m #[(.int x0)] 1 = mkF m 0 #[iv x0] [] := by first | (simp [entryFrame, mkF, argsToLocals, Value.category]; done) | rfl
set_option maxRecDepth 65536 in
set_option maxHeartbeats 40000000 in
theorem rm_can (l : Launch) (Z : State) (a0 : Array Value) (hw : ∀ d ∈ tables_1, d.before a0 Z = true) (ws : List Jvm.Cond) (x : Nat) (h0 : Heap) (hx_ : x < 256) :
    Mt l Z (⟨"java/lang/StringLatin1", "canEncode", "(C)Z"⟩ : MethodName) jdk_43_method_3_code 1 (some .boolean) ws ({ frames := 0, cells := 0, slots := 0, locals := 0 } : Room) #[(.int (Int32.ofNat x))] h0 (fun v h L => v = some (.int (1 : Int32)) ∧ h = h0 ∧ L = []) := by
  refine Mt.body pn_can ?_
  intro p e s m below meth c s₁ hx hby hml hown hnm hret hlk hZ X0 e0
  refine Go.cast (g' := (mkF m 0 #[iv (Int32.ofNat x)] [])) (ef_can m (Int32.ofNat x)) ?_
  have N0 := Fr.nil 0
  refine Go.st (T' := s₁) (g' := (mkF m 12 #[iv (Int32.ofNat x)] [(.int (1 : Int32))])) ?_ (fun _ kk_ => XS.iloadN X0.here hx rfl (hb hby dcan_0) rfl  (XS.sipush X0.here hx rfl (hb hby dcan_1) (XS.icmpNo X0.here hx rfl (hb hby dcan_4) rfl (flt ((fun z => by have := (own_lt (i := 255) (n := x) (by decide) (by omega)).mp z; omega) : ¬ ((255 : Int32) < (Int32.ofNat x)))).2.2.1 (XS.iconst X0.here hx rfl (hb hby dcan_7) (XS.goto X0.here hx rfl (pc0 := 8) (pc' := 12) rfl (hb hby dcan_8) (by decide) (by decide) kk_)))))
  refine Go.retN X0 hx hlk (t := .boolean) hret (by simp) (z' := (1 : Int32)) rfl (hb hby dcan_12) (by decide) (by decide) ?_
  try rw [e0]
  exact ⟨rfl, rfl, rfl⟩
theorem daac_0 : decode jdk_68_method_31_code 0 = .ok (.aload_n 0, 1) := by decide +kernel
theorem daac_1 : decode jdk_68_method_31_code 1 = .ok (.aload_n 0, 1) := by decide +kernel
theorem daac_2 : decode jdk_68_method_31_code 2 = .ok (.getfield 79, 3) := by decide +kernel
theorem daac_5 : decode jdk_68_method_31_code 5 = .ok (.iconst 1, 1) := by decide +kernel
theorem daac_6 : decode jdk_68_method_31_code 6 = .ok (.iadd, 1) := by decide +kernel
theorem daac_7 : decode jdk_68_method_31_code 7 = .ok (.invokevirtual 100, 3) := by decide +kernel
theorem daac_10 : decode jdk_68_method_31_code 10 = .ok (.aload_n 0, 1) := by decide +kernel
theorem daac_11 : decode jdk_68_method_31_code 11 = .ok (.invokevirtual 83, 3) := by decide +kernel
theorem daac_14 : decode jdk_68_method_31_code 14 = .ok (.ifCond .eq 31, 3) := by decide +kernel
theorem daac_17 : decode jdk_68_method_31_code 17 = .ok (.iload_n 1, 1) := by decide +kernel
theorem daac_18 : decode jdk_68_method_31_code 18 = .ok (.invokestatic 191, 3) := by decide +kernel
theorem daac_21 : decode jdk_68_method_31_code 21 = .ok (.ifCond .eq 24, 3) := by decide +kernel
theorem daac_24 : decode jdk_68_method_31_code 24 = .ok (.aload_n 0, 1) := by decide +kernel
theorem daac_25 : decode jdk_68_method_31_code 25 = .ok (.getfield 15, 3) := by decide +kernel
theorem daac_28 : decode jdk_68_method_31_code 28 = .ok (.aload_n 0, 1) := by decide +kernel
theorem daac_29 : decode jdk_68_method_31_code 29 = .ok (.dup, 1) := by decide +kernel
theorem daac_30 : decode jdk_68_method_31_code 30 = .ok (.getfield 79, 3) := by decide +kernel
theorem daac_33 : decode jdk_68_method_31_code 33 = .ok (.dup_x1, 1) := by decide +kernel
theorem daac_34 : decode jdk_68_method_31_code 34 = .ok (.iconst 1, 1) := by decide +kernel
theorem daac_35 : decode jdk_68_method_31_code 35 = .ok (.iadd, 1) := by decide +kernel
theorem daac_36 : decode jdk_68_method_31_code 36 = .ok (.putfield 79, 3) := by decide +kernel
theorem daac_39 : decode jdk_68_method_31_code 39 = .ok (.iload_n 1, 1) := by decide +kernel
theorem daac_40 : decode jdk_68_method_31_code 40 = .ok (.i2b, 1) := by decide +kernel
theorem daac_41 : decode jdk_68_method_31_code 41 = .ok (.bastore, 1) := by decide +kernel
theorem daac_42 : decode jdk_68_method_31_code 42 = .ok (.goto 33, 3) := by decide +kernel
theorem daac_75 : decode jdk_68_method_31_code 75 = .ok (.aload_n 0, 1) := by decide +kernel
theorem daac_76 : decode jdk_68_method_31_code 76 = .ok (.areturn, 1) := by decide +kernel
theorem pn_aac : plainFor (⟨"java/lang/AbstractStringBuilder", "append", "(C)Ljava/lang/AbstractStringBuilder;"⟩ : MethodName) = true := by first | exact plainFor_of_name (by first | (simp [plainName, overriddenIn]; done) | decide +kernel) | decide +kernel
theorem ef_aac (m : MethodId) (x0 : Addr) (x1 : Int32) : entryFrame m #[(.ref x0), (.int x1)] 2 = mkF m 0 #[rv x0, iv x1] [] := by first | (simp [entryFrame, mkF, argsToLocals, Value.category]; done) | rfl
set_option maxRecDepth 65536 in
set_option maxHeartbeats 40000000 in
theorem rm_aac (l : Launch) (Z : State) (a0 : Array Value) (hw : ∀ d ∈ tables_1, d.before a0 Z = true) (ws : List Jvm.Cond) (b d : Addr) (k x : Nat) (f : Nat → Int32) (n0 : Nat) (cS : Int32) (h0 : Heap) (Z0 : n0 ≤ h0.size) (hk : k + 1 ≤ 16) (hx_ : x < 256) (E_b : Exa Z h0 b "java/lang/StringBuilder") (Gv : Fld Z h0 b "java/lang/AbstractStringBuilder" "value" "[B" (.ref d)) (Gc : Fld Z h0 b "java/lang/AbstractStringBuilder" "coder" "B" (.int (0 : Int32))) (Gn : Fld Z h0 b "java/lang/AbstractStringBuilder" "count" "I" (.int (Int32.ofNat k))) (V_d : Ary Z h0 d .byte (IL 16 f)) (g_b : n0 ≤ b) (g_d : n0 ≤ d) (ne_b_d : b ≠ d) (O0 : Old Z n0 h0) (Sc : Sta Z Z.heap "java/lang/String" "COMPACT_STRINGS" "Z" (.int cS)) (hcS : ¬ (cS = (0 : Int32))) :
    Mt l Z (⟨"java/lang/AbstractStringBuilder", "append", "(C)Ljava/lang/AbstractStringBuilder;"⟩ : MethodName) jdk_68_method_31_code 2 (some (.object "java/lang/AbstractStringBuilder")) ws ({ frames := 1, cells := 0, slots := 0, locals := 16 } : Room) #[(.ref b), (.int (Int32.ofNat x))] h0 (fun v h L => v = some (.ref b) ∧ Fr n0 L ∧ Keep h0 h [b, d] ∧ Fld Z h b "java/lang/AbstractStringBuilder" "value" "[B" (.ref d) ∧ Fld Z h b "java/lang/AbstractStringBuilder" "coder" "B" (.int (0 : Int32)) ∧ Fld Z h b "java/lang/AbstractStringBuilder" "count" "I" (.int (Int32.ofNat (k + 1))) ∧ Ary Z h d .byte (IL 16 (fun q => if q = k then bI x else f q))) := by
  refine Mt.body pn_aac ?_
  intro p e s m below meth c s₁ hx hby hml hown hnm hret hlk hZ X0 e0
  refine Go.cast (g' := (mkF m 0 #[rv b, iv (Int32.ofNat x)] [])) (ef_aac m b (Int32.ofNat x)) ?_
  have N0 := Fr.nil n0
  have K0 := Keep.refl h0 [b, d]
  refine Go.st (T' := s₁) (g' := (mkF m 2 #[rv b, iv (Int32.ofNat x)] [(.ref b), (.ref b)])) ?_ (fun _ kk_ => XS.aloadN X0.here hx rfl (hb hby daac_0) rfl rfl  (XS.aloadN X0.here hx rfl (hb hby daac_1) rfl rfl  kk_))
  obtain ⟨T1, X1, e1, st1⟩ := getF X0 hx hZ hown (host := "") (Or.inl (hw _ (List.mem_of_getElem? (i := 108) rfl))) Via.refl e0 Gn (g := (mkF m 2 #[rv b, iv (Int32.ofNat x)] [(.ref b), (.ref b)])) rfl rfl (hb hby daac_2)
  refine Go.st (T' := T1) (g' := (mkF m 5 #[rv b, iv (Int32.ofNat x)] [(.int (Int32.ofNat k)), (.ref b)])) ?_ st1
  refine Go.st (T' := T1) (g' := (mkF m 7 #[rv b, iv (Int32.ofNat x)] [(.int ((Int32.ofNat k) + (1 : Int32))), (.ref b)])) ?_ (fun _ kk_ => XS.iconst X1.here hx rfl (hb hby daac_5) (XS.iadd X1.here hx rfl (hb hby daac_6) rfl kk_))
  rw [show Int32.ofNat k + (1 : Int32) = Int32.ofNat (k + 1) from own_add k 1]
  show Go p e below _ T1 (mkF m 7 #[rv b, iv (Int32.ofNat x)] [(.int (Int32.ofNat (k + 1))), (.ref b)])
  refine Go.callP (y := (⟨"java/lang/AbstractStringBuilder", "ensureCapacityInternal", "(I)V"⟩ : MethodName)) X1 hx hZ hown (hw _ (List.mem_of_getElem? (i := 110) rfl)) (hw _ (List.mem_of_getElem? (i := 111) rfl)) (hw _ (List.mem_of_getElem? (i := 113) rfl)) (hw _ (List.mem_of_getElem? (i := 112) rfl)) (hw _ (List.mem_of_getElem? (i := 90) rfl)) (hw _ (List.mem_of_getElem? (i := 114) rfl)) (by decide) 0 (rm_ens l Z a0 hw [] b d k (k + 1) f n0 h0 hk E_b Gv Gc Gn V_d g_b g_d ne_b_d) e1 (by decide) (by decide) (by decide) (by decide) E_b (argsL := [(.int (Int32.ofNat (k + 1)))]) (rest := []) rfl (by rw [hml]; rfl) (lenOf pd__28I_29V rfl) rfl rfl (by show 2 * 0 + _ ≤ _; exact Nat.le_of_eq rfl) (hb hby daac_7) ?_
  rintro _ T2 L2 X2 ⟨rfl, e2, rfl⟩
  have N3 := Fr.app N0 (Fr.nil _)
  show Go p e below _ T2 (mkF m 10 #[rv b, iv (Int32.ofNat x)] [])
  refine Go.st (T' := T2) (g' := (mkF m 11 #[rv b, iv (Int32.ofNat x)] [(.ref b)])) ?_ (fun _ kk_ => XS.aloadN X2.here hx rfl (hb hby daac_10) rfl rfl  kk_)
  refine Go.callV (y := (⟨"java/lang/AbstractStringBuilder", "isLatin1", "()Z"⟩ : MethodName)) (z := (⟨"java/lang/AbstractStringBuilder", "isLatin1", "()Z"⟩ : MethodName)) X2 hx hZ hown (hw _ (List.mem_of_getElem? (i := 115) rfl)) (hw _ (List.mem_of_getElem? (i := 116) rfl)) (notFace_of_selects (args := #[]) (mvT hZ (hw _ (List.mem_of_getElem? (i := 118) rfl)))) (hw _ (List.mem_of_getElem? (i := 118) rfl)) (hw _ (List.mem_of_getElem? (i := 117) rfl)) (hw _ (List.mem_of_getElem? (i := 90) rfl)) (hw _ (List.mem_of_getElem? (i := 119) rfl)) (by decide) 0 (rm_alt l Z a0 hw [] b n0 cS h0 Gc O0 Sc hcS) e2 (by decide) (by decide) (by decide) (by decide) E_b (argsL := []) (rest := []) rfl (by rw [hml]; rfl) (lenOf pd__28_29Z rfl) rfl rfl (by show 2 * 0 + _ ≤ _; exact Nat.le_of_eq rfl) (hb hby daac_11) ?_
  rintro _ T4 L4 X4 ⟨rfl, e4, rfl⟩
  have N5 := Fr.app N3 (Fr.nil _)
  show Go p e below _ T4 (mkF m 14 #[rv b, iv (Int32.ofNat x)] [(.int (1 : Int32))])
  refine Go.st (T' := T4) (g' := (mkF m 18 #[rv b, iv (Int32.ofNat x)] [(.int (Int32.ofNat x))])) ?_ (fun _ kk_ => XS.ifNo X4.here hx rfl (hb hby daac_14) rfl ((if0 _ _).trans (feq ((by decide) : ¬ ((1 : Int32) = (0 : Int32)))).1) (XS.iloadN X4.here hx rfl (hb hby daac_17) rfl  kk_))
  refine Go.callS (y := (⟨"java/lang/StringLatin1", "canEncode", "(C)Z"⟩ : MethodName)) X4 hx hZ hown (hw _ (List.mem_of_getElem? (i := 120) rfl)) (hw _ (List.mem_of_getElem? (i := 121) rfl)) (hw _ (List.mem_of_getElem? (i := 65) rfl)) (hw _ (List.mem_of_getElem? (i := 122) rfl)) (by decide) 0 (rm_can l Z a0 hw [] x h0 hx_) e4 (by decide) (by decide) (by decide) (by decide) (argsL := [(.int (Int32.ofNat x))]) (rest := []) rfl (by rw [hml]; rfl) (lenOf pd__28C_29Z rfl) rfl rfl (by show 2 * 0 + _ ≤ _; exact Nat.le_of_eq rfl) (hb hby daac_18) ?_
  rintro _ T6 L6 X6 ⟨rfl, e6, rfl⟩
  have N7 := Fr.app N5 (Fr.nil _)
  show Go p e below _ T6 (mkF m 21 #[rv b, iv (Int32.ofNat x)] [(.int (1 : Int32))])
  refine Go.st (T' := T6) (g' := (mkF m 25 #[rv b, iv (Int32.ofNat x)] [(.ref b)])) ?_ (fun _ kk_ => XS.ifNo X6.here hx rfl (hb hby daac_21) rfl ((if0 _ _).trans (feq ((by decide) : ¬ ((1 : Int32) = (0 : Int32)))).1) (XS.aloadN X6.here hx rfl (hb hby daac_24) rfl rfl  kk_))
  obtain ⟨T8, X8, e8, st8⟩ := getF X6 hx hZ hown (host := "") (Or.inl (hw _ (List.mem_of_getElem? (i := 94) rfl))) Via.refl e6 Gv (g := (mkF m 25 #[rv b, iv (Int32.ofNat x)] [(.ref b)])) rfl rfl (hb hby daac_25)
  refine Go.st (T' := T8) (g' := (mkF m 28 #[rv b, iv (Int32.ofNat x)] [(.ref d)])) ?_ st8
  refine Go.st (T' := T8) (g' := (mkF m 30 #[rv b, iv (Int32.ofNat x)] [(.ref b), (.ref b), (.ref d)])) ?_ (fun _ kk_ => XS.aloadN X8.here hx rfl (hb hby daac_28) rfl rfl  (XS.dup X8.here hx rfl (hb hby daac_29) rfl rfl kk_))
  obtain ⟨T9, X9, e9, st9⟩ := getF X8 hx hZ hown (host := "") (Or.inl (hw _ (List.mem_of_getElem? (i := 108) rfl))) Via.refl e8 Gn (g := (mkF m 30 #[rv b, iv (Int32.ofNat x)] [(.ref b), (.ref b), (.ref d)])) rfl rfl (hb hby daac_30)
  refine Go.st (T' := T9) (g' := (mkF m 33 #[rv b, iv (Int32.ofNat x)] [(.int (Int32.ofNat k)), (.ref b), (.ref d)])) ?_ st9
  refine Go.st (T' := T9) (g' := (mkF m 36 #[rv b, iv (Int32.ofNat x)] [(.int ((Int32.ofNat k) + (1 : Int32))), (.ref b), (.int (Int32.ofNat k)), (.ref d)])) ?_ (fun _ kk_ => XS.dupX1 X9.here hx rfl (hb hby daac_33) rfl rfl rfl (XS.iconst X9.here hx rfl (hb hby daac_34) (XS.iadd X9.here hx rfl (hb hby daac_35) rfl kk_)))
  rw [show Int32.ofNat k + (1 : Int32) = Int32.ofNat (k + 1) from own_add k 1]
  show Go p e below _ T9 (mkF m 36 #[rv b, iv (Int32.ofNat x)] [(.int (Int32.ofNat (k + 1))), (.ref b), (.int (Int32.ofNat k)), (.ref d)])
  obtain ⟨T10, h10, X10, e10, W10, st10⟩ := putF X9 hx hZ hown (host := "") (Or.inl (hw _ (List.mem_of_getElem? (i := 108) rfl))) Via.refl e9 Gn E_b (Or.inl (hw _ (List.mem_of_getElem? (i := 109) rfl))) (hw _ (List.mem_of_getElem? (i := 81) rfl)) (ty := .int) (by decide) rfl rfl (g := (mkF m 36 #[rv b, iv (Int32.ofNat x)] [(.int (Int32.ofNat (k + 1))), (.ref b), (.int (Int32.ofNat k)), (.ref d)])) rfl rfl (hb hby daac_36)
  have N11 := Fr.snoc X10 N7 g_b
  have O12 := O0.wr W10 g_b
  have f13 := Gn.same W10
  have K14 : Keep h0 h10 [b, d] := K0.wr W10 (Or.inl (List.mem_of_getElem? (i := 0) rfl))
  have Z15 : n0 ≤ h10.size := by rw [W10.size]; exact Z0
  refine Go.st (T' := T10) (g' := (mkF m 39 #[rv b, iv (Int32.ofNat x)] [(.int (Int32.ofNat k)), (.ref d)])) ?_ st10
  refine Go.st (T' := T10) (g' := (mkF m 41 #[rv b, iv (Int32.ofNat x)] [(.int ((Int32.ofNat x).toInt8.toInt32)), (.int (Int32.ofNat k)), (.ref d)])) ?_ (fun _ kk_ => XS.iloadN X10.here hx rfl (hb hby daac_39) rfl  (XS.i2b X10.here hx rfl (hb hby daac_40) rfl kk_))
  have f16 := (V_d.other W10 (Ne.symm ne_b_d))
  refine Go.bastore X10 hx hZ e10 f16 (i := k) (by rw [IL_len]; omega) rfl rfl rfl (hb hby daac_41) ?_
  intro T17 h17 X17 e17 W17 V17
  have N18 := Fr.snoc X17 N11 g_d
  have O19 := O12.wr W17 g_d
  have K20 : Keep h0 h17 [b, d] := K14.wr W17 (Or.inl (List.mem_of_getElem? (i := 1) rfl))
  have Z21 : n0 ≤ h17.size := by rw [W17.size]; exact Z15
  show Go p e below _ T17 (mkF m 42 #[rv b, iv (Int32.ofNat x)] [])
  rw [show ((Int32.ofNat x).toInt8.toInt32).toInt8.toInt32 = bI x from bI_twice _ hx_, IL_set (show k < 16 by omega)] at V17
  refine Go.st (T' := T17) (g' := (mkF m 76 #[rv b, iv (Int32.ofNat x)] [(.ref b)])) ?_ (fun _ kk_ => XS.goto X17.here hx rfl (pc0 := 42) (pc' := 75) rfl (hb hby daac_42) (by decide) (by decide) (XS.aloadN X17.here hx rfl (hb hby daac_75) rfl rfl  kk_))
  have f22 := ((Gv.other W10 (Or.inr (slot_ne (C := "java/lang/StringBuilder") (Or.inl (hw _ (List.mem_of_getElem? (i := 95) rfl))) (Or.inl (hw _ (List.mem_of_getElem? (i := 109) rfl))) (by decide) (t := (.array .byte)) (t' := .int) (by decide) (by decide)))).other W17 (Or.inl ne_b_d))
  have f23 := ((Gc.other W10 (Or.inr (slot_ne (C := "java/lang/StringBuilder") (Or.inl (hw _ (List.mem_of_getElem? (i := 97) rfl))) (Or.inl (hw _ (List.mem_of_getElem? (i := 109) rfl))) (by decide) (t := .byte) (t' := .int) (by decide) (by decide)))).other W17 (Or.inl ne_b_d))
  have f24 := (f13.other W17 (Or.inl ne_b_d))
  refine Go.retA X17 hx hlk hret rfl rfl (hb hby daac_76) (by decide) (by decide) ?_
  try rw [e17]
  exact ⟨rfl, N18, K20, f22, f23, f24, V17⟩
theorem dsac_0 : decode jdk_67_method_14_code 0 = .ok (.aload_n 0, 1) := by decide +kernel
theorem dsac_1 : decode jdk_67_method_14_code 1 = .ok (.iload_n 1, 1) := by decide +kernel
theorem dsac_2 : decode jdk_67_method_14_code 2 = .ok (.invokespecial 50, 3) := by decide +kernel
theorem dsac_5 : decode jdk_67_method_14_code 5 = .ok (.pop, 1) := by decide +kernel
theorem dsac_6 : decode jdk_67_method_14_code 6 = .ok (.aload_n 0, 1) := by decide +kernel
theorem dsac_7 : decode jdk_67_method_14_code 7 = .ok (.areturn, 1) := by decide +kernel
theorem pn_sac : plainFor (⟨"java/lang/StringBuilder", "append", "(C)Ljava/lang/StringBuilder;"⟩ : MethodName) = true := by first | exact plainFor_of_name (by first | (simp [plainName, overriddenIn]; done) | decide +kernel) | decide +kernel
theorem ef_sac (m : MethodId) (x0 : Addr) (x1 : Int32) : entryFrame m #[(.ref x0), (.int x1)] 2 = mkF m 0 #[rv x0, iv x1] [] := by first | (simp [entryFrame, mkF, argsToLocals, Value.category]; done) | rfl
set_option maxRecDepth 65536 in
set_option maxHeartbeats 40000000 in
theorem rm_sac (l : Launch) (Z : State) (a0 : Array Value) (hw : ∀ d ∈ tables_1, d.before a0 Z = true) (ws : List Jvm.Cond) (b d : Addr) (k x : Nat) (f : Nat → Int32) (n0 : Nat) (cS : Int32) (h0 : Heap) (Z0 : n0 ≤ h0.size) (hk : k + 1 ≤ 16) (hx_ : x < 256) (E_b : Exa Z h0 b "java/lang/StringBuilder") (Gv : Fld Z h0 b "java/lang/AbstractStringBuilder" "value" "[B" (.ref d)) (Gc : Fld Z h0 b "java/lang/AbstractStringBuilder" "coder" "B" (.int (0 : Int32))) (Gn : Fld Z h0 b "java/lang/AbstractStringBuilder" "count" "I" (.int (Int32.ofNat k))) (V_d : Ary Z h0 d .byte (IL 16 f)) (g_b : n0 ≤ b) (g_d : n0 ≤ d) (ne_b_d : b ≠ d) (O0 : Old Z n0 h0) (Sc : Sta Z Z.heap "java/lang/String" "COMPACT_STRINGS" "Z" (.int cS)) (hcS : ¬ (cS = (0 : Int32))) :
    Mt l Z (⟨"java/lang/StringBuilder", "append", "(C)Ljava/lang/StringBuilder;"⟩ : MethodName) jdk_67_method_14_code 2 (some (.object "java/lang/StringBuilder")) ws ({ frames := 2, cells := 0, slots := 0, locals := 30 } : Room) #[(.ref b), (.int (Int32.ofNat x))] h0 (fun v h L => v = some (.ref b) ∧ Fr n0 L ∧ Keep h0 h [b, d] ∧ Fld Z h b "java/lang/AbstractStringBuilder" "value" "[B" (.ref d) ∧ Fld Z h b "java/lang/AbstractStringBuilder" "coder" "B" (.int (0 : Int32)) ∧ Fld Z h b "java/lang/AbstractStringBuilder" "count" "I" (.int (Int32.ofNat (k + 1))) ∧ Ary Z h d .byte (IL 16 (fun q => if q = k then bI x else f q))) := by
  refine Mt.body pn_sac ?_
  intro p e s m below meth c s₁ hx hby hml hown hnm hret hlk hZ X0 e0
  refine Go.cast (g' := (mkF m 0 #[rv b, iv (Int32.ofNat x)] [])) (ef_sac m b (Int32.ofNat x)) ?_
  have N0 := Fr.nil n0
  have K0 := Keep.refl h0 [b, d]
  refine Go.st (T' := s₁) (g' := (mkF m 2 #[rv b, iv (Int32.ofNat x)] [(.int (Int32.ofNat x)), (.ref b)])) ?_ (fun _ kk_ => XS.aloadN X0.here hx rfl (hb hby dsac_0) rfl rfl  (XS.iloadN X0.here hx rfl (hb hby dsac_1) rfl  kk_))
  refine Go.callU (y := (⟨"java/lang/AbstractStringBuilder", "append", "(C)Ljava/lang/AbstractStringBuilder;"⟩ : MethodName)) X0 hx hZ hown (hw _ (List.mem_of_getElem? (i := 103) rfl)) (own_same (hw _ (List.mem_of_getElem? (i := 104) rfl)) (by decide) (own_notFace (notFace_of_selects (hw _ (List.mem_of_getElem? (i := 113) rfl))) (Cond.code_named (hw _ (List.mem_of_getElem? (i := 114) rfl))) rfl)) (hw _ (List.mem_of_getElem? (i := 104) rfl)) (hw _ (List.mem_of_getElem? (i := 105) rfl)) (hw _ (List.mem_of_getElem? (i := 90) rfl)) (hw _ (List.mem_of_getElem? (i := 107) rfl)) (by decide) 0 (rm_aac l Z a0 hw [] b d k x f n0 cS h0 Z0 hk hx_ E_b Gv Gc Gn V_d g_b g_d ne_b_d O0 Sc hcS) e0 (by decide) (by decide) (by decide) (by decide) E_b (argsL := [(.int (Int32.ofNat x))]) (rest := []) rfl (by rw [hml]; rfl) (lenOf pd__28C_29Ljava_2flang_2fAbstractStringBuilder_3b rfl) rfl rfl (by show 2 * 0 + _ ≤ _; exact Nat.le_of_eq rfl) (hb hby dsac_2) ?_
  rintro _ T1 L1 X1 ⟨rfl, N1, K1, hq1⟩
  have N2 := Fr.app N0 N1
  have Z3 : n0 ≤ T1.heap.size := Nat.le_trans Z0 K1.1
  have K4 : Keep h0 T1.heap [b, d] := K0.trans K1 (allS (P := fun z_ => z_ ∈ [b, d] ∨ h0.size ≤ z_) (Or.inl (List.mem_of_getElem? (i := 0) rfl)) (allS (P := fun z_ => z_ ∈ [b, d] ∨ h0.size ≤ z_) (Or.inl (List.mem_of_getElem? (i := 1) rfl)) all0))
  show Go p e below _ T1 (mkF m 5 #[rv b, iv (Int32.ofNat x)] [(.ref b)])
  refine Go.st (T' := T1) (g' := (mkF m 7 #[rv b, iv (Int32.ofNat x)] [(.ref b)])) ?_ (fun _ kk_ => XS.pop X1.here hx rfl (hb hby dsac_5) rfl rfl (XS.aloadN X1.here hx rfl (hb hby dsac_6) rfl rfl  kk_))
  refine Go.retA X1 hx hlk hret rfl rfl (hb hby dsac_7) (by decide) (by decide) ?_
  exact ⟨rfl, N2, K4, hq1⟩
theorem dunN_0 : decode prog_6_method_5_code 0 = .ok (.aload_n 0, 1) := by decide +kernel
theorem dunN_1 : decode prog_6_method_5_code 1 = .ok (.invokevirtual 105, 3) := by decide +kernel
theorem dunN_4 : decode prog_6_method_5_code 4 = .ok (.iconst 2, 1) := by decide +kernel
theorem dunN_5 : decode prog_6_method_5_code 5 = .ok (.if_icmp .lt 28, 3) := by decide +kernel
theorem dunN_8 : decode prog_6_method_5_code 8 = .ok (.aload_n 0, 1) := by decide +kernel
theorem dunN_9 : decode prog_6_method_5_code 9 = .ok (.iconst 0, 1) := by decide +kernel
theorem dunN_10 : decode prog_6_method_5_code 10 = .ok (.invokevirtual 46, 3) := by decide +kernel
theorem dunN_13 : decode prog_6_method_5_code 13 = .ok (.bipush 34, 2) := by decide +kernel
theorem dunN_15 : decode prog_6_method_5_code 15 = .ok (.if_icmp .ne 18, 3) := by decide +kernel
theorem dunN_18 : decode prog_6_method_5_code 18 = .ok (.aload_n 0, 1) := by decide +kernel
theorem dunN_19 : decode prog_6_method_5_code 19 = .ok (.aload_n 0, 1) := by decide +kernel
theorem dunN_20 : decode prog_6_method_5_code 20 = .ok (.invokevirtual 105, 3) := by decide +kernel
theorem dunN_23 : decode prog_6_method_5_code 23 = .ok (.iconst 1, 1) := by decide +kernel
theorem dunN_24 : decode prog_6_method_5_code 24 = .ok (.isub, 1) := by decide +kernel
theorem dunN_25 : decode prog_6_method_5_code 25 = .ok (.invokevirtual 46, 3) := by decide +kernel
theorem dunN_28 : decode prog_6_method_5_code 28 = .ok (.bipush 34, 2) := by decide +kernel
theorem dunN_30 : decode prog_6_method_5_code 30 = .ok (.if_icmp .eq 5, 3) := by decide +kernel
theorem dunN_33 : decode prog_6_method_5_code 33 = .ok (.aload_n 0, 1) := by decide +kernel
theorem dunN_34 : decode prog_6_method_5_code 34 = .ok (.areturn, 1) := by decide +kernel
theorem pn_unN : plainFor (⟨"com/example/tidewire/tidewire/extender/ManifestHeader", "unquote", "(Ljava/lang/String;)Ljava/lang/String;"⟩ : MethodName) = true := by first | exact plainFor_of_name (by first | (simp [plainName, overriddenIn]; done) | decide +kernel) | decide +kernel
theorem ef_unN (m : MethodId) (x0 : Addr) : entryFrame m #[(.ref x0)] 4 = mkF m 0 #[rv x0, .unset, .unset, .unset] [] := by first | (simp [entryFrame, mkF, argsToLocals, Value.category]; done) | rfl
set_option maxRecDepth 65536 in
set_option maxHeartbeats 40000000 in
theorem rm_unN (l : Launch) (Z : State) (a0 : Array Value) (hw : ∀ d ∈ tables_1, d.before a0 Z = true) (ws : List Jvm.Cond) (a t : Addr) (n : Nat) (ch : Nat → Nat) (n0 : Nat) (cS : Int32) (rF : Value) (h0 : Heap) (hn : n ≤ 6) (hc : ∀ q, ch q < 256) (hq : ¬ (2 ≤ n ∧ ch 0 = 34 ∧ ch (n - 1) = 34)) (E_a : Exa Z h0 a "java/lang/String") (Fc_a : Fld Z h0 a "java/lang/String" "coder" "B" (.int (0 : Int32))) (Fv_a : Fld Z h0 a "java/lang/String" "value" "[B" (.ref t)) (V_t : Ary Z h0 t .byte (IL n (fun q => bI (ch q)))) (O0 : Old Z n0 h0) (Sc : Sta Z Z.heap "java/lang/String" "COMPACT_STRINGS" "Z" (.int cS)) (hcS : ¬ (cS = (0 : Int32))) (Sr : Sta Z Z.heap "jdk/internal/util/Preconditions" "SIOOBE_FORMATTER" "Ljava/util/function/BiFunction;" rF) (hr_rF : rF.isRef = true) :
    Mt l Z (⟨"com/example/tidewire/tidewire/extender/ManifestHeader", "unquote", "(Ljava/lang/String;)Ljava/lang/String;"⟩ : MethodName) prog_6_method_5_code 4 (some (.object "java/lang/String")) ws ({ frames := 4, cells := 0, slots := 0, locals := 54 } : Room) #[(.ref a)] h0 (fun v h L => v = some (.ref a) ∧ h = h0 ∧ L = []) := by
  refine Mt.body pn_unN ?_
  intro p e s m below meth c s₁ hx hby hml hown hnm hret hlk hZ X0 e0
  refine Go.cast (g' := (mkF m 0 #[rv a, .unset, .unset, .unset] [])) (ef_unN m a) ?_
  have N0 := Fr.nil n0
  have c0 := hc 0
  have c1 := hc (n - 1)
  refine Go.st (T' := s₁) (g' := (mkF m 1 #[rv a, .unset, .unset, .unset] [(.ref a)])) ?_ (fun _ kk_ => XS.aloadN X0.here hx rfl (hb hby dunN_0) rfl rfl  kk_)
  refine Go.callV (y := (⟨"java/lang/String", "length", "()I"⟩ : MethodName)) (z := (⟨"java/lang/String", "length", "()I"⟩ : MethodName)) X0 hx hZ hown (hw _ (List.mem_of_getElem? (i := 43) rfl)) (hw _ (List.mem_of_getElem? (i := 44) rfl)) (notFace_of_selects (args := #[]) (mvT hZ (hw _ (List.mem_of_getElem? (i := 46) rfl)))) (hw _ (List.mem_of_getElem? (i := 46) rfl)) (hw _ (List.mem_of_getElem? (i := 45) rfl)) (hw _ (List.mem_of_getElem? (i := 12) rfl)) (hw _ (List.mem_of_getElem? (i := 47) rfl)) (by decide) 0 (rm_len l Z a0 hw [] a t n _ n0 cS h0 E_a Fc_a Fv_a V_t O0 Sc hcS) e0 (by decide) (by decide) (by decide) (by decide) E_a (argsL := []) (rest := []) rfl (by rw [hml]; rfl) (lenOf pd__28_29I rfl) rfl rfl (by show 2 * 0 + _ ≤ _; exact Nat.le_of_eq rfl) (hb hby dunN_1) ?_
  rintro _ T1 L1 X1 ⟨rfl, e1, rfl⟩
  have N2 := Fr.app N0 (Fr.nil _)
  show Go p e below _ T1 (mkF m 4 #[rv a, .unset, .unset, .unset] [(.int (Int32.ofNat n))])
  refine Go.st (T' := T1) (g' := (mkF m 5 #[rv a, .unset, .unset, .unset] [(.int (2 : Int32)), (.int (Int32.ofNat n))])) ?_ (fun _ kk_ => XS.iconst X1.here hx rfl (hb hby dunN_4) kk_)
  by_cases hx1 : (Int32.ofNat n) < (2 : Int32)
  ·
    refine Go.st (T' := T1) (g' := (mkF m 34 #[rv a, .unset, .unset, .unset] [(.ref a)])) ?_ (fun _ kk_ => XS.icmpYes X1.here hx rfl (pc0 := 5) (pc' := 33) rfl (hb hby dunN_5) rfl (tlt (hx1 : (Int32.ofNat n) < (2 : Int32))).1 (by decide) (by decide) (XS.aloadN X1.here hx rfl (hb hby dunN_33) rfl rfl  kk_))
    refine Go.retA X1 hx hlk hret rfl rfl (hb hby dunN_34) (by decide) (by decide) ?_
    try rw [e1]
    exact ⟨rfl, rfl, rfl⟩
  ·
    refine Go.st (T' := T1) (g' := (mkF m 8 #[rv a, .unset, .unset, .unset] [])) ?_ (fun _ kk_ => XS.icmpNo X1.here hx rfl (hb hby dunN_5) rfl (flt (hx1 : ¬ ((Int32.ofNat n) < (2 : Int32)))).1 kk_)
    have g1 : ¬ n < 2 := fun z => hx1 ((own_lt (i := n) (n := 2) (by omega) (by decide)).mpr z)
    refine Go.st (T' := T1) (g' := (mkF m 10 #[rv a, .unset, .unset, .unset] [(.int (0 : Int32)), (.ref a)])) ?_ (fun _ kk_ => XS.aloadN X1.here hx rfl (hb hby dunN_8) rfl rfl  (XS.iconst X1.here hx rfl (hb hby dunN_9) kk_))
    refine Go.callV (y := (⟨"java/lang/String", "charAt", "(I)C"⟩ : MethodName)) (z := (⟨"java/lang/String", "charAt", "(I)C"⟩ : MethodName)) X1 hx hZ hown (hw _ (List.mem_of_getElem? (i := 53) rfl)) (hw _ (List.mem_of_getElem? (i := 54) rfl)) (notFace_of_selects (args := #[]) (mvT hZ (hw _ (List.mem_of_getElem? (i := 56) rfl)))) (hw _ (List.mem_of_getElem? (i := 56) rfl)) (hw _ (List.mem_of_getElem? (i := 55) rfl)) (hw _ (List.mem_of_getElem? (i := 12) rfl)) (hw _ (List.mem_of_getElem? (i := 57) rfl)) (by decide) 0 (rm_cha l Z a0 hw [] a t 0 n ch rF n0 cS h0 (by omega) (by omega) (fun q _ => hc q) E_a Fc_a Fv_a V_t O0 Sc hcS Sr hr_rF) e1 (by decide) (by decide) (by decide) (by decide) E_a (argsL := [(.int (0 : Int32))]) (rest := []) rfl (by rw [hml]; rfl) (lenOf pd__28I_29C rfl) rfl rfl (by show 2 * 0 + _ ≤ _; exact Nat.le_of_eq rfl) (hb hby dunN_10) ?_
    rintro _ T3 L3 X3 ⟨rfl, e3, rfl⟩
    have N4 := Fr.app N2 (Fr.nil _)
    show Go p e below _ T3 (mkF m 13 #[rv a, .unset, .unset, .unset] [(.int (Int32.ofNat (ch 0)))])
    refine Go.st (T' := T3) (g' := (mkF m 15 #[rv a, .unset, .unset, .unset] [(.int (34 : Int32)), (.int (Int32.ofNat (ch 0)))])) ?_ (fun _ kk_ => XS.bipush X3.here hx rfl (hb hby dunN_13) kk_)
    by_cases hx2 : (Int32.ofNat (ch 0)) = (34 : Int32)
    ·
      refine Go.st (T' := T3) (g' := (mkF m 18 #[rv a, .unset, .unset, .unset] [])) ?_ (fun _ kk_ => XS.icmpNo X3.here hx rfl (hb hby dunN_15) rfl (teq (hx2 : (Int32.ofNat (ch 0)) = (34 : Int32))).2 kk_)
      have g2 := (own_eq (i := ch 0) (n := 34) (by omega) (by decide)).mp hx2
      refine Go.st (T' := T3) (g' := (mkF m 20 #[rv a, .unset, .unset, .unset] [(.ref a), (.ref a)])) ?_ (fun _ kk_ => XS.aloadN X3.here hx rfl (hb hby dunN_18) rfl rfl  (XS.aloadN X3.here hx rfl (hb hby dunN_19) rfl rfl  kk_))
      refine Go.callV (y := (⟨"java/lang/String", "length", "()I"⟩ : MethodName)) (z := (⟨"java/lang/String", "length", "()I"⟩ : MethodName)) X3 hx hZ hown (hw _ (List.mem_of_getElem? (i := 43) rfl)) (hw _ (List.mem_of_getElem? (i := 44) rfl)) (notFace_of_selects (args := #[]) (mvT hZ (hw _ (List.mem_of_getElem? (i := 46) rfl)))) (hw _ (List.mem_of_getElem? (i := 46) rfl)) (hw _ (List.mem_of_getElem? (i := 45) rfl)) (hw _ (List.mem_of_getElem? (i := 12) rfl)) (hw _ (List.mem_of_getElem? (i := 47) rfl)) (by decide) 1 (rm_len l Z a0 hw [] a t n _ n0 cS h0 E_a Fc_a Fv_a V_t O0 Sc hcS) e3 (by decide) (by decide) (by decide) (by decide) E_a (argsL := []) (rest := [(.ref a)]) rfl (by rw [hml]; rfl) (lenOf pd__28_29I rfl) rfl rfl (by show 2 * 0 + _ ≤ _; exact Nat.le_of_eq rfl) (hb hby dunN_20) ?_
      rintro _ T5 L5 X5 ⟨rfl, e5, rfl⟩
      have N6 := Fr.app N4 (Fr.nil _)
      show Go p e below _ T5 (mkF m 23 #[rv a, .unset, .unset, .unset] [(.int (Int32.ofNat n)), (.ref a)])
      refine Go.st (T' := T5) (g' := (mkF m 25 #[rv a, .unset, .unset, .unset] [(.int ((Int32.ofNat n) - (1 : Int32))), (.ref a)])) ?_ (fun _ kk_ => XS.iconst X5.here hx rfl (hb hby dunN_23) (XS.isub X5.here hx rfl (hb hby dunN_24) rfl kk_))
      rw [show Int32.ofNat n - (1 : Int32) = Int32.ofNat (n - 1) from own_sub (n := 1) (by omega)]
      show Go p e below _ T5 (mkF m 25 #[rv a, .unset, .unset, .unset] [(.int (Int32.ofNat (n - 1))), (.ref a)])
      refine Go.callV (y := (⟨"java/lang/String", "charAt", "(I)C"⟩ : MethodName)) (z := (⟨"java/lang/String", "charAt", "(I)C"⟩ : MethodName)) X5 hx hZ hown (hw _ (List.mem_of_getElem? (i := 53) rfl)) (hw _ (List.mem_of_getElem? (i := 54) rfl)) (notFace_of_selects (args := #[]) (mvT hZ (hw _ (List.mem_of_getElem? (i := 56) rfl)))) (hw _ (List.mem_of_getElem? (i := 56) rfl)) (hw _ (List.mem_of_getElem? (i := 55) rfl)) (hw _ (List.mem_of_getElem? (i := 12) rfl)) (hw _ (List.mem_of_getElem? (i := 57) rfl)) (by decide) 0 (rm_cha l Z a0 hw [] a t (n - 1) n ch rF n0 cS h0 (by omega) (by omega) (fun q _ => hc q) E_a Fc_a Fv_a V_t O0 Sc hcS Sr hr_rF) e5 (by decide) (by decide) (by decide) (by decide) E_a (argsL := [(.int (Int32.ofNat (n - 1)))]) (rest := []) rfl (by rw [hml]; rfl) (lenOf pd__28I_29C rfl) rfl rfl (by show 2 * 0 + _ ≤ _; exact Nat.le_of_eq rfl) (hb hby dunN_25) ?_
      rintro _ T7 L7 X7 ⟨rfl, e7, rfl⟩
      have N8 := Fr.app N6 (Fr.nil _)
      show Go p e below _ T7 (mkF m 28 #[rv a, .unset, .unset, .unset] [(.int (Int32.ofNat (ch (n - 1))))])
      refine Go.st (T' := T7) (g' := (mkF m 34 #[rv a, .unset, .unset, .unset] [(.ref a)])) ?_ (fun _ kk_ => XS.bipush X7.here hx rfl (hb hby dunN_28) (XS.icmpNo X7.here hx rfl (hb hby dunN_30) rfl (feq ((fun z => hq ⟨by omega, g2, (own_eq (i := ch (n - 1)) (n := 34) (by omega) (by decide)).mp z⟩) : ¬ ((Int32.ofNat (ch (n - 1))) = (34 : Int32)))).1 (XS.aloadN X7.here hx rfl (hb hby dunN_33) rfl rfl  kk_)))
      refine Go.retA X7 hx hlk hret rfl rfl (hb hby dunN_34) (by decide) (by decide) ?_
      try rw [e7]
      exact ⟨rfl, rfl, rfl⟩
    ·
      refine Go.st (T' := T3) (g' := (mkF m 34 #[rv a, .unset, .unset, .unset] [(.ref a)])) ?_ (fun _ kk_ => XS.icmpYes X3.here hx rfl (pc0 := 15) (pc' := 33) rfl (hb hby dunN_15) rfl (feq (hx2 : ¬ ((Int32.ofNat (ch 0)) = (34 : Int32)))).2 (by decide) (by decide) (XS.aloadN X3.here hx rfl (hb hby dunN_33) rfl rfl  kk_))
      refine Go.retA X3 hx hlk hret rfl rfl (hb hby dunN_34) (by decide) (by decide) ?_
      try rw [e3]
      exact ⟨rfl, rfl, rfl⟩
theorem dunQ_0 : decode prog_6_method_5_code 0 = .ok (.aload_n 0, 1) := by decide +kernel
theorem dunQ_1 : decode prog_6_method_5_code 1 = .ok (.invokevirtual 105, 3) := by decide +kernel
theorem dunQ_4 : decode prog_6_method_5_code 4 = .ok (.iconst 2, 1) := by decide +kernel
theorem dunQ_5 : decode prog_6_method_5_code 5 = .ok (.if_icmp .lt 28, 3) := by decide +kernel
theorem dunQ_8 : decode prog_6_method_5_code 8 = .ok (.aload_n 0, 1) := by decide +kernel
theorem dunQ_9 : decode prog_6_method_5_code 9 = .ok (.iconst 0, 1) := by decide +kernel
theorem dunQ_10 : decode prog_6_method_5_code 10 = .ok (.invokevirtual 46, 3) := by decide +kernel
theorem dunQ_13 : decode prog_6_method_5_code 13 = .ok (.bipush 34, 2) := by decide +kernel
theorem dunQ_15 : decode prog_6_method_5_code 15 = .ok (.if_icmp .ne 18, 3) := by decide +kernel
theorem dunQ_18 : decode prog_6_method_5_code 18 = .ok (.aload_n 0, 1) := by decide +kernel
theorem dunQ_19 : decode prog_6_method_5_code 19 = .ok (.aload_n 0, 1) := by decide +kernel
theorem dunQ_20 : decode prog_6_method_5_code 20 = .ok (.invokevirtual 105, 3) := by decide +kernel
theorem dunQ_23 : decode prog_6_method_5_code 23 = .ok (.iconst 1, 1) := by decide +kernel
theorem dunQ_24 : decode prog_6_method_5_code 24 = .ok (.isub, 1) := by decide +kernel
theorem dunQ_25 : decode prog_6_method_5_code 25 = .ok (.invokevirtual 46, 3) := by decide +kernel
theorem dunQ_28 : decode prog_6_method_5_code 28 = .ok (.bipush 34, 2) := by decide +kernel
theorem dunQ_30 : decode prog_6_method_5_code 30 = .ok (.if_icmp .eq 5, 3) := by decide +kernel
theorem dunQ_35 : decode prog_6_method_5_code 35 = .ok (.new 110, 3) := by decide +kernel
theorem dunQ_38 : decode prog_6_method_5_code 38 = .ok (.dup, 1) := by decide +kernel
theorem dunQ_39 : decode prog_6_method_5_code 39 = .ok (.invokespecial 112, 3) := by decide +kernel
theorem dunQ_42 : decode prog_6_method_5_code 42 = .ok (.astore_n 1, 1) := by decide +kernel
theorem dunQ_43 : decode prog_6_method_5_code 43 = .ok (.iconst 1, 1) := by decide +kernel
theorem dunQ_44 : decode prog_6_method_5_code 44 = .ok (.istore_n 2, 1) := by decide +kernel
theorem dunQ_45 : decode prog_6_method_5_code 45 = .ok (.iload_n 2, 1) := by decide +kernel
theorem dunQ_46 : decode prog_6_method_5_code 46 = .ok (.aload_n 0, 1) := by decide +kernel
theorem dunQ_47 : decode prog_6_method_5_code 47 = .ok (.invokevirtual 105, 3) := by decide +kernel
theorem dunQ_50 : decode prog_6_method_5_code 50 = .ok (.iconst 1, 1) := by decide +kernel
theorem dunQ_51 : decode prog_6_method_5_code 51 = .ok (.isub, 1) := by decide +kernel
theorem dunQ_52 : decode prog_6_method_5_code 52 = .ok (.if_icmp .ge 48, 3) := by decide +kernel
theorem dunQ_55 : decode prog_6_method_5_code 55 = .ok (.aload_n 0, 1) := by decide +kernel
theorem dunQ_56 : decode prog_6_method_5_code 56 = .ok (.iload_n 2, 1) := by decide +kernel
theorem dunQ_57 : decode prog_6_method_5_code 57 = .ok (.invokevirtual 46, 3) := by decide +kernel
theorem dunQ_60 : decode prog_6_method_5_code 60 = .ok (.istore_n 3, 1) := by decide +kernel
theorem dunQ_61 : decode prog_6_method_5_code 61 = .ok (.iload_n 3, 1) := by decide +kernel
theorem dunQ_62 : decode prog_6_method_5_code 62 = .ok (.bipush 92, 2) := by decide +kernel
theorem dunQ_64 : decode prog_6_method_5_code 64 = .ok (.if_icmp .ne 24, 3) := by decide +kernel
theorem dunQ_67 : decode prog_6_method_5_code 67 = .ok (.iload_n 2, 1) := by decide +kernel
theorem dunQ_68 : decode prog_6_method_5_code 68 = .ok (.iconst 1, 1) := by decide +kernel
theorem dunQ_69 : decode prog_6_method_5_code 69 = .ok (.iadd, 1) := by decide +kernel
theorem dunQ_70 : decode prog_6_method_5_code 70 = .ok (.aload_n 0, 1) := by decide +kernel
theorem dunQ_71 : decode prog_6_method_5_code 71 = .ok (.invokevirtual 105, 3) := by decide +kernel
theorem dunQ_74 : decode prog_6_method_5_code 74 = .ok (.iconst 1, 1) := by decide +kernel
theorem dunQ_75 : decode prog_6_method_5_code 75 = .ok (.isub, 1) := by decide +kernel
theorem dunQ_76 : decode prog_6_method_5_code 76 = .ok (.if_icmp .ge 12, 3) := by decide +kernel
theorem dunQ_79 : decode prog_6_method_5_code 79 = .ok (.iinc 2 1, 3) := by decide +kernel
theorem dunQ_82 : decode prog_6_method_5_code 82 = .ok (.aload_n 0, 1) := by decide +kernel
theorem dunQ_83 : decode prog_6_method_5_code 83 = .ok (.iload_n 2, 1) := by decide +kernel
theorem dunQ_84 : decode prog_6_method_5_code 84 = .ok (.invokevirtual 46, 3) := by decide +kernel
theorem dunQ_87 : decode prog_6_method_5_code 87 = .ok (.istore_n 3, 1) := by decide +kernel
theorem dunQ_88 : decode prog_6_method_5_code 88 = .ok (.aload_n 1, 1) := by decide +kernel
theorem dunQ_89 : decode prog_6_method_5_code 89 = .ok (.iload_n 3, 1) := by decide +kernel
theorem dunQ_90 : decode prog_6_method_5_code 90 = .ok (.invokevirtual 113, 3) := by decide +kernel
theorem dunQ_93 : decode prog_6_method_5_code 93 = .ok (.pop, 1) := by decide +kernel
theorem dunQ_94 : decode prog_6_method_5_code 94 = .ok (.iinc 2 1, 3) := by decide +kernel
theorem dunQ_97 : decode prog_6_method_5_code 97 = .ok (.goto (-52), 3) := by decide +kernel
theorem dunQ_100 : decode prog_6_method_5_code 100 = .ok (.aload_n 1, 1) := by decide +kernel
theorem dunQ_101 : decode prog_6_method_5_code 101 = .ok (.invokevirtual 117, 3) := by decide +kernel
theorem dunQ_104 : decode prog_6_method_5_code 104 = .ok (.areturn, 1) := by decide +kernel
theorem pn_unQ : plainFor (⟨"com/example/tidewire/tidewire/extender/ManifestHeader", "unquote", "(Ljava/lang/String;)Ljava/lang/String;"⟩ : MethodName) = true := by first | exact plainFor_of_name (by first | (simp [plainName, overriddenIn]; done) | decide +kernel) | decide +kernel
theorem ef_unQ (m : MethodId) (x0 : Addr) : entryFrame m #[(.ref x0)] 4 = mkF m 0 #[rv x0, .unset, .unset, .unset] [] := by first | (simp [entryFrame, mkF, argsToLocals, Value.category]; done) | rfl
set_option maxRecDepth 65536 in
set_option maxHeartbeats 40000000 in
theorem rm_unQ (l : Launch) (Z : State) (a0 : Array Value) (hw : ∀ d ∈ tables_1, d.before a0 Z = true) (ws : List Jvm.Cond) (a t : Addr) (n : Nat) (ch : Nat → Nat) (n0 : Nat) (cS : Int32) (rF : Value) (h0 : Heap) (Z0 : n0 ≤ h0.size) (hn : n ≤ 6) (hc : ∀ q, ch q < 256) (hq1 : 2 ≤ n) (hq2 : ch 0 = 34) (hq3 : ch (n - 1) = 34) (E_a : Exa Z h0 a "java/lang/String") (Fc_a : Fld Z h0 a "java/lang/String" "coder" "B" (.int (0 : Int32))) (Fv_a : Fld Z h0 a "java/lang/String" "value" "[B" (.ref t)) (V_t : Ary Z h0 t .byte (IL n (fun q => bI (ch q)))) (O0 : Old Z n0 h0) (Sc : Sta Z Z.heap "java/lang/String" "COMPACT_STRINGS" "Z" (.int cS)) (hcS : ¬ (cS = (0 : Int32))) (Sr : Sta Z Z.heap "jdk/internal/util/Preconditions" "SIOOBE_FORMATTER" "Ljava/util/function/BiFunction;" rF) (hr_rF : rF.isRef = true) :
    Mt l Z (⟨"com/example/tidewire/tidewire/extender/ManifestHeader", "unquote", "(Ljava/lang/String;)Ljava/lang/String;"⟩ : MethodName) prog_6_method_5_code 4 (some (.object "java/lang/String")) ws ({ frames := 6, cells := 4, slots := 40, locals := 133 } : Room) #[(.ref a)] h0 (fun v h L => ∃ J x tx, v = some (.ref x) ∧ Fr n0 L ∧ Keep h0 h [] ∧ (∀ j, j < J → pS ch (n - 1) j < n - 1) ∧ ¬ pS ch (n - 1) J < n - 1 ∧ Exa Z h x "java/lang/String" ∧ Fld Z h x "java/lang/String" "coder" "B" (.int (0 : Int32)) ∧ Fld Z h x "java/lang/String" "value" "[B" (.ref tx) ∧ Ary Z h tx .byte (IL J (fun q => bI (oT ch (n - 1) q)))) := by
  refine Mt.body pn_unQ ?_
  intro p e s m below meth c s₁ hx hby hml hown hnm hret hlk hZ X0 e0
  refine Go.cast (g' := (mkF m 0 #[rv a, .unset, .unset, .unset] [])) (ef_unQ m a) ?_
  have N0 := Fr.nil n0
  have K0 := Keep.refl h0 ([] : List Addr)
  refine Go.st (T' := s₁) (g' := (mkF m 1 #[rv a, .unset, .unset, .unset] [(.ref a)])) ?_ (fun _ kk_ => XS.aloadN X0.here hx rfl (hb hby dunQ_0) rfl rfl  kk_)
  refine Go.callV (y := (⟨"java/lang/String", "length", "()I"⟩ : MethodName)) (z := (⟨"java/lang/String", "length", "()I"⟩ : MethodName)) X0 hx hZ hown (hw _ (List.mem_of_getElem? (i := 43) rfl)) (hw _ (List.mem_of_getElem? (i := 44) rfl)) (notFace_of_selects (args := #[]) (mvT hZ (hw _ (List.mem_of_getElem? (i := 46) rfl)))) (hw _ (List.mem_of_getElem? (i := 46) rfl)) (hw _ (List.mem_of_getElem? (i := 45) rfl)) (hw _ (List.mem_of_getElem? (i := 12) rfl)) (hw _ (List.mem_of_getElem? (i := 47) rfl)) (by decide) 0 (rm_len l Z a0 hw [] a t n _ n0 cS h0 E_a Fc_a Fv_a V_t O0 Sc hcS) e0 (by decide) (by decide) (by decide) (by decide) E_a (argsL := []) (rest := []) rfl (by rw [hml]; rfl) (lenOf pd__28_29I rfl) rfl rfl (by show 2 * 0 + _ ≤ _; exact Nat.le_of_eq rfl) (hb hby dunQ_1) ?_
  rintro _ T1 L1 X1 ⟨rfl, e1, rfl⟩
  have N2 := Fr.app N0 (Fr.nil _)
  show Go p e below _ T1 (mkF m 4 #[rv a, .unset, .unset, .unset] [(.int (Int32.ofNat n))])
  refine Go.st (T' := T1) (g' := (mkF m 10 #[rv a, .unset, .unset, .unset] [(.int (0 : Int32)), (.ref a)])) ?_ (fun _ kk_ => XS.iconst X1.here hx rfl (hb hby dunQ_4) (XS.icmpNo X1.here hx rfl (hb hby dunQ_5) rfl (flt ((fun z => by have := (own_lt (i := n) (n := 2) (by omega) (by decide)).mp z; omega) : ¬ ((Int32.ofNat n) < (2 : Int32)))).1 (XS.aloadN X1.here hx rfl (hb hby dunQ_8) rfl rfl  (XS.iconst X1.here hx rfl (hb hby dunQ_9) kk_))))
  refine Go.callV (y := (⟨"java/lang/String", "charAt", "(I)C"⟩ : MethodName)) (z := (⟨"java/lang/String", "charAt", "(I)C"⟩ : MethodName)) X1 hx hZ hown (hw _ (List.mem_of_getElem? (i := 53) rfl)) (hw _ (List.mem_of_getElem? (i := 54) rfl)) (notFace_of_selects (args := #[]) (mvT hZ (hw _ (List.mem_of_getElem? (i := 56) rfl)))) (hw _ (List.mem_of_getElem? (i := 56) rfl)) (hw _ (List.mem_of_getElem? (i := 55) rfl)) (hw _ (List.mem_of_getElem? (i := 12) rfl)) (hw _ (List.mem_of_getElem? (i := 57) rfl)) (by decide) 0 (rm_cha l Z a0 hw [] a t 0 n ch rF n0 cS h0 (by omega) (by omega) (fun q _ => hc q) E_a Fc_a Fv_a V_t O0 Sc hcS Sr hr_rF) e1 (by decide) (by decide) (by decide) (by decide) E_a (argsL := [(.int (0 : Int32))]) (rest := []) rfl (by rw [hml]; rfl) (lenOf pd__28I_29C rfl) rfl rfl (by show 2 * 0 + _ ≤ _; exact Nat.le_of_eq rfl) (hb hby dunQ_10) ?_
  rintro _ T3 L3 X3 ⟨rfl, e3, rfl⟩
  have N4 := Fr.app N2 (Fr.nil _)
  show Go p e below _ T3 (mkF m 13 #[rv a, .unset, .unset, .unset] [(.int (Int32.ofNat (ch 0)))])
  refine Go.st (T' := T3) (g' := (mkF m 20 #[rv a, .unset, .unset, .unset] [(.ref a), (.ref a)])) ?_ (fun _ kk_ => XS.bipush X3.here hx rfl (hb hby dunQ_13) (XS.icmpNo X3.here hx rfl (hb hby dunQ_15) rfl (teq ((show Int32.ofNat (ch 0) = (34 : Int32) by rw [hq2]; rfl) : (Int32.ofNat (ch 0)) = (34 : Int32))).2 (XS.aloadN X3.here hx rfl (hb hby dunQ_18) rfl rfl  (XS.aloadN X3.here hx rfl (hb hby dunQ_19) rfl rfl  kk_))))
  refine Go.callV (y := (⟨"java/lang/String", "length", "()I"⟩ : MethodName)) (z := (⟨"java/lang/String", "length", "()I"⟩ : MethodName)) X3 hx hZ hown (hw _ (List.mem_of_getElem? (i := 43) rfl)) (hw _ (List.mem_of_getElem? (i := 44) rfl)) (notFace_of_selects (args := #[]) (mvT hZ (hw _ (List.mem_of_getElem? (i := 46) rfl)))) (hw _ (List.mem_of_getElem? (i := 46) rfl)) (hw _ (List.mem_of_getElem? (i := 45) rfl)) (hw _ (List.mem_of_getElem? (i := 12) rfl)) (hw _ (List.mem_of_getElem? (i := 47) rfl)) (by decide) 1 (rm_len l Z a0 hw [] a t n _ n0 cS h0 E_a Fc_a Fv_a V_t O0 Sc hcS) e3 (by decide) (by decide) (by decide) (by decide) E_a (argsL := []) (rest := [(.ref a)]) rfl (by rw [hml]; rfl) (lenOf pd__28_29I rfl) rfl rfl (by show 2 * 0 + _ ≤ _; exact Nat.le_of_eq rfl) (hb hby dunQ_20) ?_
  rintro _ T5 L5 X5 ⟨rfl, e5, rfl⟩
  have N6 := Fr.app N4 (Fr.nil _)
  show Go p e below _ T5 (mkF m 23 #[rv a, .unset, .unset, .unset] [(.int (Int32.ofNat n)), (.ref a)])
  refine Go.st (T' := T5) (g' := (mkF m 25 #[rv a, .unset, .unset, .unset] [(.int ((Int32.ofNat n) - (1 : Int32))), (.ref a)])) ?_ (fun _ kk_ => XS.iconst X5.here hx rfl (hb hby dunQ_23) (XS.isub X5.here hx rfl (hb hby dunQ_24) rfl kk_))
  rw [show Int32.ofNat n - (1 : Int32) = Int32.ofNat (n - 1) from own_sub (n := 1) (by omega)]
  show Go p e below _ T5 (mkF m 25 #[rv a, .unset, .unset, .unset] [(.int (Int32.ofNat (n - 1))), (.ref a)])
  refine Go.callV (y := (⟨"java/lang/String", "charAt", "(I)C"⟩ : MethodName)) (z := (⟨"java/lang/String", "charAt", "(I)C"⟩ : MethodName)) X5 hx hZ hown (hw _ (List.mem_of_getElem? (i := 53) rfl)) (hw _ (List.mem_of_getElem? (i := 54) rfl)) (notFace_of_selects (args := #[]) (mvT hZ (hw _ (List.mem_of_getElem? (i := 56) rfl)))) (hw _ (List.mem_of_getElem? (i := 56) rfl)) (hw _ (List.mem_of_getElem? (i := 55) rfl)) (hw _ (List.mem_of_getElem? (i := 12) rfl)) (hw _ (List.mem_of_getElem? (i := 57) rfl)) (by decide) 0 (rm_cha l Z a0 hw [] a t (n - 1) n ch rF n0 cS h0 (by omega) (by omega) (fun q _ => hc q) E_a Fc_a Fv_a V_t O0 Sc hcS Sr hr_rF) e5 (by decide) (by decide) (by decide) (by decide) E_a (argsL := [(.int (Int32.ofNat (n - 1)))]) (rest := []) rfl (by rw [hml]; rfl) (lenOf pd__28I_29C rfl) rfl rfl (by show 2 * 0 + _ ≤ _; exact Nat.le_of_eq rfl) (hb hby dunQ_25) ?_
  rintro _ T7 L7 X7 ⟨rfl, e7, rfl⟩
  have N8 := Fr.app N6 (Fr.nil _)
  show Go p e below _ T7 (mkF m 28 #[rv a, .unset, .unset, .unset] [(.int (Int32.ofNat (ch (n - 1))))])
  refine Go.st (T' := T7) (g' := (mkF m 35 #[rv a, .unset, .unset, .unset] [])) ?_ (fun _ kk_ => XS.bipush X7.here hx rfl (hb hby dunQ_28) (XS.icmpYes X7.here hx rfl (pc0 := 30) (pc' := 35) rfl (hb hby dunQ_30) rfl (teq ((show Int32.ofNat (ch (n - 1)) = (34 : Int32) by rw [hq3]; rfl) : (Int32.ofNat (ch (n - 1))) = (34 : Int32))).1 (by decide) (by decide) kk_))
  obtain ⟨T9, h9, X9, e9, E9, A9, D9, -, st9⟩ := newO X7 hx hZ hown (hw _ (List.mem_of_getElem? (i := 80) rfl)) (hw _ (List.mem_of_getElem? (i := 81) rfl)) (hw _ (List.mem_of_getElem? (i := 82) rfl)) e7 (g := (mkF m 35 #[rv a, .unset, .unset, .unset] [])) rfl (hb hby dunQ_35) (by decide) (by decide)
  obtain ⟨b9, g9⟩ : ∃ z, z = h0.size := ⟨_, rfl⟩
  rw [← g9] at A9 D9 st9
  have ne_a_b9 : a ≠ b9 := Nat.ne_of_lt (Nat.lt_of_lt_of_eq E_a.lt g9.symm)
  have ne_t_b9 : t ≠ b9 := Nat.ne_of_lt (Nat.lt_of_lt_of_eq V_t.lt g9.symm)
  have g_b9 : n0 ≤ b9 := Nat.le_trans Z0 (Nat.le_of_eq g9.symm)
  have sz_b9 : h0.size ≤ b9 := Nat.le_trans K0.1 (Nat.le_of_eq g9.symm)
  have O10 := O0.ext E9
  have Z11 : n0 ≤ h9.size := Nat.le_trans Z0 E9.1
  have K12 : Keep h0 h9 ([] : List Addr) := K0.ext E9
  have f13 : Fld Z h9 b9 "java/lang/AbstractStringBuilder" "value" "[B" .null := D9 (Or.inl (hw _ (List.mem_of_getElem? (i := 95) rfl))) (ty := (.array .byte)) (by decide)
  have f14 : Fld Z h9 b9 "java/lang/AbstractStringBuilder" "coder" "B" (.int (0 : Int32)) := D9 (Or.inl (hw _ (List.mem_of_getElem? (i := 97) rfl))) (ty := .byte) (by decide)
  have f15 : Fld Z h9 b9 "java/lang/AbstractStringBuilder" "count" "I" (.int (0 : Int32)) := D9 (Or.inl (hw _ (List.mem_of_getElem? (i := 109) rfl))) (ty := .int) (by decide)
  refine Go.st (T' := T9) (g' := (mkF m 38 #[rv a, .unset, .unset, .unset] [(.ref b9)])) ?_ st9
  refine Go.st (T' := T9) (g' := (mkF m 39 #[rv a, .unset, .unset, .unset] [(.ref b9), (.ref b9)])) ?_ (fun _ kk_ => XS.dup X9.here hx rfl (hb hby dunQ_38) rfl rfl kk_)
  have f16 := (E_a.ext E9)
  have f17 := (V_t.ext E9)
  refine Go.callN (y := (⟨"java/lang/StringBuilder", "<init>", "()V"⟩ : MethodName)) X9 hx hZ rfl hown (hw _ (List.mem_of_getElem? (i := 83) rfl)) (hw _ (List.mem_of_getElem? (i := 84) rfl)) (hw _ (List.mem_of_getElem? (i := 82) rfl)) (hw _ (List.mem_of_getElem? (i := 85) rfl)) (by decide) 1 (rm_sbi l Z a0 hw [] b9 n0 cS h9 Z11 A9 f13 f14 f15 g_b9 O10 Sc hcS) e9 (by decide) (by decide) (by decide) (by decide) (a := b9) (argsL := []) (rest := [(.ref b9)]) rfl (by rw [hml]; rfl) (lenOf pd__28_29V rfl) rfl rfl (by show 2 * 0 + _ ≤ _; exact Nat.le_of_eq rfl) (hb hby dunQ_39) ?_
  rintro _ T18 L18 X18 ⟨rfl, N18, K18, d, dz, Gv18, Gc18, Gn18, V18⟩
  have N19 := Fr.app N8 N18
  have O20 := O10.keep K18 (allS (P := fun z_ => n0 ≤ z_) g_b9 all0)
  have Z21 : n0 ≤ T18.heap.size := Nat.le_trans Z11 K18.1
  have K22 : Keep h0 T18.heap ([] : List Addr) := K12.trans K18 (allS (P := fun z_ => z_ ∈ ([] : List Addr) ∨ h0.size ≤ z_) (Or.inr sz_b9) all0)
  show Go p e below _ T18 (mkF m 42 #[rv a, .unset, .unset, .unset] [(.ref b9)])
  have ne_a_d : a ≠ d := Nat.ne_of_lt (Nat.lt_of_lt_of_le f16.lt dz)
  have ne_t_d : t ≠ d := Nat.ne_of_lt (Nat.lt_of_lt_of_le f17.lt dz)
  have ne_b9_d : b9 ≠ d := Nat.ne_of_lt (Nat.lt_of_lt_of_le A9.lt dz)
  have g_d : n0 ≤ d := Nat.le_trans Z11 dz
  have sz_d : h0.size ≤ d := Nat.le_trans K12.1 dz
  refine Go.st (T' := T18) (g' := (mkF m 45 #[rv a, rv b9, iv (1 : Int32), .unset] [])) ?_ (fun _ kk_ => XS.astoreN X18.here hx rfl (hb hby dunQ_42) rfl rfl (l' := #[rv a, rv b9, .unset, .unset]) rfl (XS.iconst X18.here hx rfl (hb hby dunQ_43) (XS.istoreN X18.here hx rfl (hb hby dunQ_44) rfl (l' := #[rv a, rv b9, iv (1 : Int32), .unset]) rfl kk_)))
  have loop : ∀ (r j : Nat) (f : Nat → Int32) (T : State) (h : Heap) (locs : List Loc) (s3 : Slot), n - 1 ≤ pS ch (n - 1) j + r → (∀ i, i < j → pS ch (n - 1) i < n - 1) → (∀ q, q < j → f q = bI (oT ch (n - 1) q)) → Stand p l e ({ frames := 6, cells := 4, slots := 40, locals := 133 } : Room) s m #[.ref a] below meth c T locs 2 20 → T.heap = h → Fr n0 locs → Keep h0 h [] → n0 ≤ h.size → Old Z n0 h → Exa Z h a "java/lang/String" → Fld Z h a "java/lang/String" "coder" "B" (.int (0 : Int32)) → Fld Z h a "java/lang/String" "value" "[B" (.ref t) → Ary Z h t .byte (IL n (fun q => bI (ch q))) → Exa Z h b9 "java/lang/StringBuilder" → Fld Z h b9 "java/lang/AbstractStringBuilder" "value" "[B" (.ref d) → Fld Z h b9 "java/lang/AbstractStringBuilder" "coder" "B" (.int (0 : Int32)) → Fld Z h b9 "java/lang/AbstractStringBuilder" "count" "I" (.int (Int32.ofNat j)) → Ary Z h d .byte (IL 16 f) → One s3 → Go p e below (Wf s 4 40 (fun v h L => ∃ J x tx, v = some (.ref x) ∧ Fr n0 L ∧ Keep h0 h [] ∧ (∀ j, j < J → pS ch (n - 1) j < n - 1) ∧ ¬ pS ch (n - 1) J < n - 1 ∧ Exa Z h x "java/lang/String" ∧ Fld Z h x "java/lang/String" "coder" "B" (.int (0 : Int32)) ∧ Fld Z h x "java/lang/String" "value" "[B" (.ref tx) ∧ Ary Z h tx .byte (IL J (fun q => bI (oT ch (n - 1) q))))) T (mkF m 45 #[rv a, rv b9, iv (Int32.ofNat (pS ch (n - 1) j)), s3] []) := by
    intro r
    induction r with
    | zero =>
      intro j f T h locs s3 hr hjl hf X eh NA KA ZA OA EA Fc_ Fv_ VT EB Gv_ Gc_ Gn_ VD hs3
      have hj4 : j ≤ 6 := (Nat.eq_zero_or_pos j).elim (fun z => by omega) (fun z => by have := hjl (j - 1) (by omega); have := pS_ge ch (n - 1) (j - 1); omega)
      have hend : ¬ pS ch (n - 1) j < n - 1 := by omega
      refine Go.st (T' := T) (g' := (mkF m 47 #[rv a, rv b9, iv (Int32.ofNat (pS ch (n - 1) j)), s3] [(.ref a), (.int (Int32.ofNat (pS ch (n - 1) j)))])) ?_ (fun _ kk_ => XS.iloadN X.here hx rfl (hb hby dunQ_45) rfl  (XS.aloadN X.here hx rfl (hb hby dunQ_46) rfl rfl  kk_))
      refine Go.callV (y := (⟨"java/lang/String", "length", "()I"⟩ : MethodName)) (z := (⟨"java/lang/String", "length", "()I"⟩ : MethodName)) X hx hZ hown (hw _ (List.mem_of_getElem? (i := 43) rfl)) (hw _ (List.mem_of_getElem? (i := 44) rfl)) (notFace_of_selects (args := #[]) (mvT hZ (hw _ (List.mem_of_getElem? (i := 46) rfl)))) (hw _ (List.mem_of_getElem? (i := 46) rfl)) (hw _ (List.mem_of_getElem? (i := 45) rfl)) (hw _ (List.mem_of_getElem? (i := 12) rfl)) (hw _ (List.mem_of_getElem? (i := 47) rfl)) (by decide) 1 (rm_len l Z a0 hw [] a t n _ n0 cS h EA Fc_ Fv_ VT OA Sc hcS) eh (by decide) (by decide) (by decide) (by decide) EA (argsL := []) (rest := [(.int (Int32.ofNat (pS ch (n - 1) j)))]) rfl (by rw [hml]; rfl) (lenOf pd__28_29I rfl) rfl rfl (by show 2 * 0 + _ ≤ _; exact Nat.le_of_eq rfl) (hb hby dunQ_47) ?_
      rintro _ T23 L23 X23 ⟨rfl, e23, rfl⟩
      have N24 := Fr.app NA (Fr.nil _)
      show Go p e below _ T23 (mkF m 50 #[rv a, rv b9, iv (Int32.ofNat (pS ch (n - 1) j)), s3] [(.int (Int32.ofNat n)), (.int (Int32.ofNat (pS ch (n - 1) j)))])
      refine Go.st (T' := T23) (g' := (mkF m 52 #[rv a, rv b9, iv (Int32.ofNat (pS ch (n - 1) j)), s3] [(.int ((Int32.ofNat n) - (1 : Int32))), (.int (Int32.ofNat (pS ch (n - 1) j)))])) ?_ (fun _ kk_ => XS.iconst X23.here hx rfl (hb hby dunQ_50) (XS.isub X23.here hx rfl (hb hby dunQ_51) rfl kk_))
      rw [show Int32.ofNat n - (1 : Int32) = Int32.ofNat (n - 1) from own_sub (n := 1) (by omega)]
      show Go p e below _ T23 (mkF m 52 #[rv a, rv b9, iv (Int32.ofNat (pS ch (n - 1) j)), s3] [(.int (Int32.ofNat (n - 1))), (.int (Int32.ofNat (pS ch (n - 1) j)))])
      by_cases hpb : pS ch (n - 1) j < 2 ^ 31
      ·
        refine Go.st (T' := T23) (g' := (mkF m 101 #[rv a, rv b9, iv (Int32.ofNat (pS ch (n - 1) j)), s3] [(.ref b9)])) ?_ (fun _ kk_ => XS.icmpYes X23.here hx rfl (pc0 := 52) (pc' := 100) rfl (hb hby dunQ_52) rfl (flt ((fun z => by have := (own_lt hpb (by omega)).mp z; omega) : ¬ ((Int32.ofNat (pS ch (n - 1) j)) < (Int32.ofNat (n - 1))))).2.1 (by decide) (by decide) (XS.aloadN X23.here hx rfl (hb hby dunQ_100) rfl rfl  kk_))
        refine Go.callV (y := (⟨"java/lang/StringBuilder", "toString", "()Ljava/lang/String;"⟩ : MethodName)) (z := (⟨"java/lang/StringBuilder", "toString", "()Ljava/lang/String;"⟩ : MethodName)) X23 hx hZ hown (hw _ (List.mem_of_getElem? (i := 123) rfl)) (hw _ (List.mem_of_getElem? (i := 124) rfl)) (notFace_of_selects (args := #[]) (mvT hZ (hw _ (List.mem_of_getElem? (i := 126) rfl)))) (hw _ (List.mem_of_getElem? (i := 126) rfl)) (hw _ (List.mem_of_getElem? (i := 125) rfl)) (hw _ (List.mem_of_getElem? (i := 82) rfl)) (hw _ (List.mem_of_getElem? (i := 127) rfl)) (by decide) 0 (rm_tos l Z a0 hw [] b9 d j f n0 cS h ZA (by omega) EB Gv_ Gc_ Gn_ VD g_b9 g_d ne_b9_d OA Sc hcS) e23 (by decide) (by decide) (by decide) (by decide) EB (argsL := []) (rest := []) rfl (by rw [hml]; rfl) (lenOf pd__28_29Ljava_2flang_2fString_3b rfl) rfl rfl (by show 2 * 0 + _ ≤ _; exact Nat.le_of_eq rfl) (hb hby dunQ_101) ?_
        rintro _ T25 L25 X25 ⟨x, tx, rfl, N25, K25, xz, E25, Fc25, Fv25, V25⟩
        have N26 := Fr.app N24 N25
        have O27 := OA.keep K25 all0
        have Z28 : n0 ≤ T25.heap.size := Nat.le_trans ZA K25.1
        have K29 : Keep h0 T25.heap ([] : List Addr) := KA.trans K25 all0
        show Go p e below _ T25 (mkF m 104 #[rv a, rv b9, iv (Int32.ofNat (pS ch (n - 1) j)), s3] [(.ref x)])
        refine Go.retA X25 hx hlk hret rfl rfl (hb hby dunQ_104) (by decide) (by decide) ?_
        exact ⟨j, x, tx, rfl, N26, K29, hjl, hend, E25, Fc25, Fv25, IL_congr (n := j) hf ▸ V25⟩
      ·
        exact absurd (pS_le ch (n - 1) j (by omega) hjl) (by omega)
    | succ r ih =>
      intro j f T h locs s3 hr hjl hf X eh NA KA ZA OA EA Fc_ Fv_ VT EB Gv_ Gc_ Gn_ VD hs3
      have hj4 : j ≤ 6 := (Nat.eq_zero_or_pos j).elim (fun z => by omega) (fun z => by have := hjl (j - 1) (by omega); have := pS_ge ch (n - 1) (j - 1); omega)
      refine Go.st (T' := T) (g' := (mkF m 47 #[rv a, rv b9, iv (Int32.ofNat (pS ch (n - 1) j)), s3] [(.ref a), (.int (Int32.ofNat (pS ch (n - 1) j)))])) ?_ (fun _ kk_ => XS.iloadN X.here hx rfl (hb hby dunQ_45) rfl  (XS.aloadN X.here hx rfl (hb hby dunQ_46) rfl rfl  kk_))
      refine Go.callV (y := (⟨"java/lang/String", "length", "()I"⟩ : MethodName)) (z := (⟨"java/lang/String", "length", "()I"⟩ : MethodName)) X hx hZ hown (hw _ (List.mem_of_getElem? (i := 43) rfl)) (hw _ (List.mem_of_getElem? (i := 44) rfl)) (notFace_of_selects (args := #[]) (mvT hZ (hw _ (List.mem_of_getElem? (i := 46) rfl)))) (hw _ (List.mem_of_getElem? (i := 46) rfl)) (hw _ (List.mem_of_getElem? (i := 45) rfl)) (hw _ (List.mem_of_getElem? (i := 12) rfl)) (hw _ (List.mem_of_getElem? (i := 47) rfl)) (by decide) 1 (rm_len l Z a0 hw [] a t n _ n0 cS h EA Fc_ Fv_ VT OA Sc hcS) eh (by decide) (by decide) (by decide) (by decide) EA (argsL := []) (rest := [(.int (Int32.ofNat (pS ch (n - 1) j)))]) rfl (by rw [hml]; rfl) (lenOf pd__28_29I rfl) rfl rfl (by show 2 * 0 + _ ≤ _; exact Nat.le_of_eq rfl) (hb hby dunQ_47) ?_
      rintro _ T30 L30 X30 ⟨rfl, e30, rfl⟩
      have N31 := Fr.app NA (Fr.nil _)
      show Go p e below _ T30 (mkF m 50 #[rv a, rv b9, iv (Int32.ofNat (pS ch (n - 1) j)), s3] [(.int (Int32.ofNat n)), (.int (Int32.ofNat (pS ch (n - 1) j)))])
      refine Go.st (T' := T30) (g' := (mkF m 52 #[rv a, rv b9, iv (Int32.ofNat (pS ch (n - 1) j)), s3] [(.int ((Int32.ofNat n) - (1 : Int32))), (.int (Int32.ofNat (pS ch (n - 1) j)))])) ?_ (fun _ kk_ => XS.iconst X30.here hx rfl (hb hby dunQ_50) (XS.isub X30.here hx rfl (hb hby dunQ_51) rfl kk_))
      rw [show Int32.ofNat n - (1 : Int32) = Int32.ofNat (n - 1) from own_sub (n := 1) (by omega)]
      show Go p e below _ T30 (mkF m 52 #[rv a, rv b9, iv (Int32.ofNat (pS ch (n - 1) j)), s3] [(.int (Int32.ofNat (n - 1))), (.int (Int32.ofNat (pS ch (n - 1) j)))])
      have hpb : pS ch (n - 1) j < 2 ^ 31 := by have := pS_le ch (n - 1) j (by omega) hjl; omega
      by_cases hend : pS ch (n - 1) j < n - 1
      ·
        refine Go.st (T' := T30) (g' := (mkF m 57 #[rv a, rv b9, iv (Int32.ofNat (pS ch (n - 1) j)), s3] [(.int (Int32.ofNat (pS ch (n - 1) j))), (.ref a)])) ?_ (fun _ kk_ => XS.icmpNo X30.here hx rfl (hb hby dunQ_52) rfl (tlt (((own_lt hpb (by omega)).mpr hend) : (Int32.ofNat (pS ch (n - 1) j)) < (Int32.ofNat (n - 1)))).2.1 (XS.aloadN X30.here hx rfl (hb hby dunQ_55) rfl rfl  (XS.iloadN X30.here hx rfl (hb hby dunQ_56) rfl  kk_)))
        obtain ⟨i, hi⟩ : ∃ i, i = pS ch (n - 1) j := ⟨_, rfl⟩
        have hi5 : i < n - 1 := by omega
        have hci := hc i
        rw [← hi]
        show Go p e below _ T30 (mkF m 57 #[rv a, rv b9, iv (Int32.ofNat i), s3] [(.int (Int32.ofNat i)), (.ref a)])
        refine Go.callV (y := (⟨"java/lang/String", "charAt", "(I)C"⟩ : MethodName)) (z := (⟨"java/lang/String", "charAt", "(I)C"⟩ : MethodName)) X30 hx hZ hown (hw _ (List.mem_of_getElem? (i := 53) rfl)) (hw _ (List.mem_of_getElem? (i := 54) rfl)) (notFace_of_selects (args := #[]) (mvT hZ (hw _ (List.mem_of_getElem? (i := 56) rfl)))) (hw _ (List.mem_of_getElem? (i := 56) rfl)) (hw _ (List.mem_of_getElem? (i := 55) rfl)) (hw _ (List.mem_of_getElem? (i := 12) rfl)) (hw _ (List.mem_of_getElem? (i := 57) rfl)) (by decide) 0 (rm_cha l Z a0 hw [] a t i n ch rF n0 cS h (by omega) (by omega) (fun q _ => hc q) EA Fc_ Fv_ VT OA Sc hcS Sr hr_rF) e30 (by decide) (by decide) (by decide) (by decide) EA (argsL := [(.int (Int32.ofNat i))]) (rest := []) rfl (by rw [hml]; rfl) (lenOf pd__28I_29C rfl) rfl rfl (by show 2 * 0 + _ ≤ _; exact Nat.le_of_eq rfl) (hb hby dunQ_57) ?_
        rintro _ T32 L32 X32 ⟨rfl, e32, rfl⟩
        have N33 := Fr.app N31 (Fr.nil _)
        show Go p e below _ T32 (mkF m 60 #[rv a, rv b9, iv (Int32.ofNat i), s3] [(.int (Int32.ofNat (ch i)))])
        refine Go.st (T' := T32) (g' := (mkF m 64 #[rv a, rv b9, iv (Int32.ofNat i), iv (Int32.ofNat (ch i))] [(.int (92 : Int32)), (.int (Int32.ofNat (ch i)))])) ?_ (fun _ kk_ => XS.istoreN X32.here hx rfl (hb hby dunQ_60) rfl (l' := #[rv a, rv b9, iv (Int32.ofNat i), iv (Int32.ofNat (ch i))]) (by rcases hs3 with rfl | ⟨w, rfl, hw_⟩ <;> first | rfl | (cases w <;> first | rfl | (simp [Value.category] at hw_))) (XS.iloadN X32.here hx rfl (hb hby dunQ_61) rfl  (XS.bipush X32.here hx rfl (hb hby dunQ_62) kk_)))
        by_cases hx1 : (Int32.ofNat (ch i)) = (92 : Int32)
        ·
          refine Go.st (T' := T32) (g' := (mkF m 67 #[rv a, rv b9, iv (Int32.ofNat i), iv (Int32.ofNat (ch i))] [])) ?_ (fun _ kk_ => XS.icmpNo X32.here hx rfl (hb hby dunQ_64) rfl (teq (hx1 : (Int32.ofNat (ch i)) = (92 : Int32))).2 kk_)
          have g1 := (own_eq (i := ch i) (n := 92) (by omega) (by decide)).mp hx1
          refine Go.st (T' := T32) (g' := (mkF m 71 #[rv a, rv b9, iv (Int32.ofNat i), iv (Int32.ofNat (ch i))] [(.ref a), (.int ((Int32.ofNat i) + (1 : Int32)))])) ?_ (fun _ kk_ => XS.iloadN X32.here hx rfl (hb hby dunQ_67) rfl  (XS.iconst X32.here hx rfl (hb hby dunQ_68) (XS.iadd X32.here hx rfl (hb hby dunQ_69) rfl (XS.aloadN X32.here hx rfl (hb hby dunQ_70) rfl rfl  kk_))))
          refine Go.callV (y := (⟨"java/lang/String", "length", "()I"⟩ : MethodName)) (z := (⟨"java/lang/String", "length", "()I"⟩ : MethodName)) X32 hx hZ hown (hw _ (List.mem_of_getElem? (i := 43) rfl)) (hw _ (List.mem_of_getElem? (i := 44) rfl)) (notFace_of_selects (args := #[]) (mvT hZ (hw _ (List.mem_of_getElem? (i := 46) rfl)))) (hw _ (List.mem_of_getElem? (i := 46) rfl)) (hw _ (List.mem_of_getElem? (i := 45) rfl)) (hw _ (List.mem_of_getElem? (i := 12) rfl)) (hw _ (List.mem_of_getElem? (i := 47) rfl)) (by decide) 1 (rm_len l Z a0 hw [] a t n _ n0 cS h EA Fc_ Fv_ VT OA Sc hcS) e32 (by decide) (by decide) (by decide) (by decide) EA (argsL := []) (rest := [(.int ((Int32.ofNat i) + (1 : Int32)))]) rfl (by rw [hml]; rfl) (lenOf pd__28_29I rfl) rfl rfl (by show 2 * 0 + _ ≤ _; exact Nat.le_of_eq rfl) (hb hby dunQ_71) ?_
          rintro _ T34 L34 X34 ⟨rfl, e34, rfl⟩
          have N35 := Fr.app N33 (Fr.nil _)
          show Go p e below _ T34 (mkF m 74 #[rv a, rv b9, iv (Int32.ofNat i), iv (Int32.ofNat (ch i))] [(.int (Int32.ofNat n)), (.int ((Int32.ofNat i) + (1 : Int32)))])
          refine Go.st (T' := T34) (g' := (mkF m 76 #[rv a, rv b9, iv (Int32.ofNat i), iv (Int32.ofNat (ch i))] [(.int ((Int32.ofNat n) - (1 : Int32))), (.int ((Int32.ofNat i) + (1 : Int32)))])) ?_ (fun _ kk_ => XS.iconst X34.here hx rfl (hb hby dunQ_74) (XS.isub X34.here hx rfl (hb hby dunQ_75) rfl kk_))
          rw [show Int32.ofNat n - (1 : Int32) = Int32.ofNat (n - 1) from own_sub (n := 1) (by omega)]
          show Go p e below _ T34 (mkF m 76 #[rv a, rv b9, iv (Int32.ofNat i), iv (Int32.ofNat (ch i))] [(.int (Int32.ofNat (n - 1))), (.int ((Int32.ofNat i) + (1 : Int32)))])
          rw [show Int32.ofNat i + (1 : Int32) = Int32.ofNat (i + 1) from own_add i 1]
          show Go p e below _ T34 (mkF m 76 #[rv a, rv b9, iv (Int32.ofNat i), iv (Int32.ofNat (ch i))] [(.int (Int32.ofNat (n - 1))), (.int (Int32.ofNat (i + 1)))])
          by_cases hx2 : (Int32.ofNat (i + 1)) < (Int32.ofNat (n - 1))
          ·
            refine Go.st (T' := T34) (g' := (mkF m 79 #[rv a, rv b9, iv (Int32.ofNat i), iv (Int32.ofNat (ch i))] [])) ?_ (fun _ kk_ => XS.icmpNo X34.here hx rfl (hb hby dunQ_76) rfl (tlt (hx2 : (Int32.ofNat (i + 1)) < (Int32.ofNat (n - 1)))).2.1 kk_)
            have g2 := (own_lt (i := i + 1) (n := n - 1) (by omega) (by omega)).mp hx2
            refine Go.st (T' := T34) (g' := (mkF m 82 #[rv a, rv b9, iv ((Int32.ofNat i) + (1 : Int32)), iv (Int32.ofNat (ch i))] [])) ?_ (fun _ kk_ => XS.iinc X34.here hx rfl (hb hby dunQ_79) rfl (l' := #[rv a, rv b9, iv ((Int32.ofNat i) + (1 : Int32)), iv (Int32.ofNat (ch i))]) rfl kk_)
            rw [show Int32.ofNat i + (1 : Int32) = Int32.ofNat (i + 1) from own_add i 1]
            show Go p e below _ T34 (mkF m 82 #[rv a, rv b9, iv (Int32.ofNat (i + 1)), iv (Int32.ofNat (ch i))] [])
            refine Go.st (T' := T34) (g' := (mkF m 84 #[rv a, rv b9, iv (Int32.ofNat (i + 1)), iv (Int32.ofNat (ch i))] [(.int (Int32.ofNat (i + 1))), (.ref a)])) ?_ (fun _ kk_ => XS.aloadN X34.here hx rfl (hb hby dunQ_82) rfl rfl  (XS.iloadN X34.here hx rfl (hb hby dunQ_83) rfl  kk_))
            refine Go.callV (y := (⟨"java/lang/String", "charAt", "(I)C"⟩ : MethodName)) (z := (⟨"java/lang/String", "charAt", "(I)C"⟩ : MethodName)) X34 hx hZ hown (hw _ (List.mem_of_getElem? (i := 53) rfl)) (hw _ (List.mem_of_getElem? (i := 54) rfl)) (notFace_of_selects (args := #[]) (mvT hZ (hw _ (List.mem_of_getElem? (i := 56) rfl)))) (hw _ (List.mem_of_getElem? (i := 56) rfl)) (hw _ (List.mem_of_getElem? (i := 55) rfl)) (hw _ (List.mem_of_getElem? (i := 12) rfl)) (hw _ (List.mem_of_getElem? (i := 57) rfl)) (by decide) 0 (rm_cha l Z a0 hw [] a t (i + 1) n ch rF n0 cS h (by omega) (by omega) (fun q _ => hc q) EA Fc_ Fv_ VT OA Sc hcS Sr hr_rF) e34 (by decide) (by decide) (by decide) (by decide) EA (argsL := [(.int (Int32.ofNat (i + 1)))]) (rest := []) rfl (by rw [hml]; rfl) (lenOf pd__28I_29C rfl) rfl rfl (by show 2 * 0 + _ ≤ _; exact Nat.le_of_eq rfl) (hb hby dunQ_84) ?_
            rintro _ T36 L36 X36 ⟨rfl, e36, rfl⟩
            have N37 := Fr.app N35 (Fr.nil _)
            show Go p e below _ T36 (mkF m 87 #[rv a, rv b9, iv (Int32.ofNat (i + 1)), iv (Int32.ofNat (ch i))] [(.int (Int32.ofNat (ch (i + 1))))])
            refine Go.st (T' := T36) (g' := (mkF m 90 #[rv a, rv b9, iv (Int32.ofNat (i + 1)), iv (Int32.ofNat (ch (i + 1)))] [(.int (Int32.ofNat (ch (i + 1)))), (.ref b9)])) ?_ (fun _ kk_ => XS.istoreN X36.here hx rfl (hb hby dunQ_87) rfl (l' := #[rv a, rv b9, iv (Int32.ofNat (i + 1)), iv (Int32.ofNat (ch (i + 1)))]) rfl (XS.aloadN X36.here hx rfl (hb hby dunQ_88) rfl rfl  (XS.iloadN X36.here hx rfl (hb hby dunQ_89) rfl  kk_)))
            refine Go.callV (y := (⟨"java/lang/StringBuilder", "append", "(C)Ljava/lang/StringBuilder;"⟩ : MethodName)) (z := (⟨"java/lang/StringBuilder", "append", "(C)Ljava/lang/StringBuilder;"⟩ : MethodName)) X36 hx hZ hown (hw _ (List.mem_of_getElem? (i := 98) rfl)) (hw _ (List.mem_of_getElem? (i := 99) rfl)) (notFace_of_selects (args := #[]) (mvT hZ (hw _ (List.mem_of_getElem? (i := 101) rfl)))) (hw _ (List.mem_of_getElem? (i := 101) rfl)) (hw _ (List.mem_of_getElem? (i := 100) rfl)) (hw _ (List.mem_of_getElem? (i := 82) rfl)) (hw _ (List.mem_of_getElem? (i := 102) rfl)) (by decide) 0 (rm_sac l Z a0 hw [] b9 d j (ch (i + 1)) f n0 cS h ZA (by omega) (hc (i + 1)) EB Gv_ Gc_ Gn_ VD g_b9 g_d ne_b9_d OA Sc hcS) e36 (by decide) (by decide) (by decide) (by decide) EB (argsL := [(.int (Int32.ofNat (ch (i + 1))))]) (rest := []) rfl (by rw [hml]; rfl) (lenOf pd__28C_29Ljava_2flang_2fStringBuilder_3b rfl) rfl rfl (by show 2 * 0 + _ ≤ _; exact Nat.le_of_eq rfl) (hb hby dunQ_90) ?_
            rintro _ T38 L38 X38 ⟨rfl, N38, K38, Gv38, Gc38, Gn38, V38⟩
            have N39 := Fr.app N37 N38
            have O40 := OA.keep K38 (allS (P := fun z_ => n0 ≤ z_) g_b9 (allS (P := fun z_ => n0 ≤ z_) g_d all0))
            have Z41 : n0 ≤ T38.heap.size := Nat.le_trans ZA K38.1
            have K42 : Keep h0 T38.heap ([] : List Addr) := KA.trans K38 (allS (P := fun z_ => z_ ∈ ([] : List Addr) ∨ h0.size ≤ z_) (Or.inr sz_b9) (allS (P := fun z_ => z_ ∈ ([] : List Addr) ∨ h0.size ≤ z_) (Or.inr sz_d) all0))
            show Go p e below _ T38 (mkF m 93 #[rv a, rv b9, iv (Int32.ofNat (i + 1)), iv (Int32.ofNat (ch (i + 1)))] [(.ref b9)])
            refine Go.st (T' := T38) (g' := (mkF m 97 #[rv a, rv b9, iv ((Int32.ofNat (i + 1)) + (1 : Int32)), iv (Int32.ofNat (ch (i + 1)))] [])) ?_ (fun _ kk_ => XS.pop X38.here hx rfl (hb hby dunQ_93) rfl rfl (XS.iinc X38.here hx rfl (hb hby dunQ_94) rfl (l' := #[rv a, rv b9, iv ((Int32.ofNat (i + 1)) + (1 : Int32)), iv (Int32.ofNat (ch (i + 1)))]) rfl kk_))
            have ep : (i + 1) + 1 = pS ch (n - 1) (j + 1) := by show i + 1 + 1 = pS ch (n - 1) j + tk ch (pS ch (n - 1) j) (n - 1); rw [← hi]; unfold tk; rw [if_pos ⟨g1, g2⟩]
            rw [show Int32.ofNat (i + 1) + (1 : Int32) = Int32.ofNat (pS ch (n - 1) (j + 1)) from (own_add (i + 1) 1).trans (congrArg Int32.ofNat ep)]
            show Go p e below _ T38 (mkF m 97 #[rv a, rv b9, iv (Int32.ofNat (pS ch (n - 1) (j + 1))), iv (Int32.ofNat (ch (i + 1)))] [])
            refine Go.st (T' := T38) (g' := (mkF m 45 #[rv a, rv b9, iv (Int32.ofNat (pS ch (n - 1) (j + 1))), iv (Int32.ofNat (ch (i + 1)))] [])) ?_ (fun _ kk_ => XS.goto X38.here hx rfl (pc0 := 97) (pc' := 45) rfl (hb hby dunQ_97) (by decide) (by decide) kk_)
            have eo : oT ch (n - 1) j = ch (i + 1) := by unfold oT; congr 1; have := ep; show pS ch (n - 1) j + tk ch (pS ch (n - 1) j) (n - 1) - 1 = (i + 1); change (i + 1) + 1 = pS ch (n - 1) j + tk ch (pS ch (n - 1) j) (n - 1) at this; omega
            have f43 := (EA.keep K38)
            have f44 := (Fc_.keep K38 (ninS ne_a_b9 (ninS ne_a_d nin0)))
            have f45 := (Fv_.keep K38 (ninS ne_a_b9 (ninS ne_a_d nin0)))
            have f46 := (VT.keep K38 (ninS ne_t_b9 (ninS ne_t_d nin0)))
            have f47 := (EB.keep K38)
            exact ih (j + 1) _ T38 _ _ _ (by rw [← ep]; omega) (fun q hq => if z : q = j then (by subst z; omega) else hjl q (by omega)) (fun q hq => if z : q = j then (by subst z; rw [if_pos rfl, eo]) else (by rw [if_neg z]; exact hf q (by omega))) X38 rfl N39 K42 Z41 O40 f43 f44 f45 f46 f47 Gv38 Gc38 Gn38 V38 (One.val rfl)
          ·
            refine Go.st (T' := T34) (g' := (mkF m 88 #[rv a, rv b9, iv (Int32.ofNat i), iv (Int32.ofNat (ch i))] [])) ?_ (fun _ kk_ => XS.icmpYes X34.here hx rfl (pc0 := 76) (pc' := 88) rfl (hb hby dunQ_76) rfl (flt (hx2 : ¬ ((Int32.ofNat (i + 1)) < (Int32.ofNat (n - 1))))).2.1 (by decide) (by decide) kk_)
            have g2 : ¬ i + 1 < n - 1 := fun z => hx2 ((own_lt (i := i + 1) (n := n - 1) (by omega) (by omega)).mpr z)
            refine Go.st (T' := T34) (g' := (mkF m 90 #[rv a, rv b9, iv (Int32.ofNat i), iv (Int32.ofNat (ch i))] [(.int (Int32.ofNat (ch i))), (.ref b9)])) ?_ (fun _ kk_ => XS.aloadN X34.here hx rfl (hb hby dunQ_88) rfl rfl  (XS.iloadN X34.here hx rfl (hb hby dunQ_89) rfl  kk_))
            refine Go.callV (y := (⟨"java/lang/StringBuilder", "append", "(C)Ljava/lang/StringBuilder;"⟩ : MethodName)) (z := (⟨"java/lang/StringBuilder", "append", "(C)Ljava/lang/StringBuilder;"⟩ : MethodName)) X34 hx hZ hown (hw _ (List.mem_of_getElem? (i := 98) rfl)) (hw _ (List.mem_of_getElem? (i := 99) rfl)) (notFace_of_selects (args := #[]) (mvT hZ (hw _ (List.mem_of_getElem? (i := 101) rfl)))) (hw _ (List.mem_of_getElem? (i := 101) rfl)) (hw _ (List.mem_of_getElem? (i := 100) rfl)) (hw _ (List.mem_of_getElem? (i := 82) rfl)) (hw _ (List.mem_of_getElem? (i := 102) rfl)) (by decide) 0 (rm_sac l Z a0 hw [] b9 d j (ch i) f n0 cS h ZA (by omega) (hc i) EB Gv_ Gc_ Gn_ VD g_b9 g_d ne_b9_d OA Sc hcS) e34 (by decide) (by decide) (by decide) (by decide) EB (argsL := [(.int (Int32.ofNat (ch i)))]) (rest := []) rfl (by rw [hml]; rfl) (lenOf pd__28C_29Ljava_2flang_2fStringBuilder_3b rfl) rfl rfl (by show 2 * 0 + _ ≤ _; exact Nat.le_of_eq rfl) (hb hby dunQ_90) ?_
            rintro _ T48 L48 X48 ⟨rfl, N48, K48, Gv48, Gc48, Gn48, V48⟩
            have N49 := Fr.app N35 N48
            have O50 := OA.keep K48 (allS (P := fun z_ => n0 ≤ z_) g_b9 (allS (P := fun z_ => n0 ≤ z_) g_d all0))
            have Z51 : n0 ≤ T48.heap.size := Nat.le_trans ZA K48.1
            have K52 : Keep h0 T48.heap ([] : List Addr) := KA.trans K48 (allS (P := fun z_ => z_ ∈ ([] : List Addr) ∨ h0.size ≤ z_) (Or.inr sz_b9) (allS (P := fun z_ => z_ ∈ ([] : List Addr) ∨ h0.size ≤ z_) (Or.inr sz_d) all0))
            show Go p e below _ T48 (mkF m 93 #[rv a, rv b9, iv (Int32.ofNat i), iv (Int32.ofNat (ch i))] [(.ref b9)])
            refine Go.st (T' := T48) (g' := (mkF m 97 #[rv a, rv b9, iv ((Int32.ofNat i) + (1 : Int32)), iv (Int32.ofNat (ch i))] [])) ?_ (fun _ kk_ => XS.pop X48.here hx rfl (hb hby dunQ_93) rfl rfl (XS.iinc X48.here hx rfl (hb hby dunQ_94) rfl (l' := #[rv a, rv b9, iv ((Int32.ofNat i) + (1 : Int32)), iv (Int32.ofNat (ch i))]) rfl kk_))
            have ep : i + 1 = pS ch (n - 1) (j + 1) := by show i + 1 = pS ch (n - 1) j + tk ch (pS ch (n - 1) j) (n - 1); rw [← hi]; unfold tk; rw [if_neg (fun z => g2 z.2)]
            rw [show Int32.ofNat i + (1 : Int32) = Int32.ofNat (pS ch (n - 1) (j + 1)) from (own_add i 1).trans (congrArg Int32.ofNat ep)]
            show Go p e below _ T48 (mkF m 97 #[rv a, rv b9, iv (Int32.ofNat (pS ch (n - 1) (j + 1))), iv (Int32.ofNat (ch i))] [])
            refine Go.st (T' := T48) (g' := (mkF m 45 #[rv a, rv b9, iv (Int32.ofNat (pS ch (n - 1) (j + 1))), iv (Int32.ofNat (ch i))] [])) ?_ (fun _ kk_ => XS.goto X48.here hx rfl (pc0 := 97) (pc' := 45) rfl (hb hby dunQ_97) (by decide) (by decide) kk_)
            have eo : oT ch (n - 1) j = ch i := by unfold oT; congr 1; have := ep; show pS ch (n - 1) j + tk ch (pS ch (n - 1) j) (n - 1) - 1 = i; change i + 1 = pS ch (n - 1) j + tk ch (pS ch (n - 1) j) (n - 1) at this; omega
            have f53 := (EA.keep K48)
            have f54 := (Fc_.keep K48 (ninS ne_a_b9 (ninS ne_a_d nin0)))
            have f55 := (Fv_.keep K48 (ninS ne_a_b9 (ninS ne_a_d nin0)))
            have f56 := (VT.keep K48 (ninS ne_t_b9 (ninS ne_t_d nin0)))
            have f57 := (EB.keep K48)
            exact ih (j + 1) _ T48 _ _ _ (by rw [← ep]; omega) (fun q hq => if z : q = j then (by subst z; omega) else hjl q (by omega)) (fun q hq => if z : q = j then (by subst z; rw [if_pos rfl, eo]) else (by rw [if_neg z]; exact hf q (by omega))) X48 rfl N49 K52 Z51 O50 f53 f54 f55 f56 f57 Gv48 Gc48 Gn48 V48 (One.val rfl)
        ·
          refine Go.st (T' := T32) (g' := (mkF m 88 #[rv a, rv b9, iv (Int32.ofNat i), iv (Int32.ofNat (ch i))] [])) ?_ (fun _ kk_ => XS.icmpYes X32.here hx rfl (pc0 := 64) (pc' := 88) rfl (hb hby dunQ_64) rfl (feq (hx1 : ¬ ((Int32.ofNat (ch i)) = (92 : Int32)))).2 (by decide) (by decide) kk_)
          have g1 : ¬ ch i = 92 := fun z => hx1 ((own_eq (i := ch i) (n := 92) (by omega) (by decide)).mpr z)
          refine Go.st (T' := T32) (g' := (mkF m 90 #[rv a, rv b9, iv (Int32.ofNat i), iv (Int32.ofNat (ch i))] [(.int (Int32.ofNat (ch i))), (.ref b9)])) ?_ (fun _ kk_ => XS.aloadN X32.here hx rfl (hb hby dunQ_88) rfl rfl  (XS.iloadN X32.here hx rfl (hb hby dunQ_89) rfl  kk_))
          refine Go.callV (y := (⟨"java/lang/StringBuilder", "append", "(C)Ljava/lang/StringBuilder;"⟩ : MethodName)) (z := (⟨"java/lang/StringBuilder", "append", "(C)Ljava/lang/StringBuilder;"⟩ : MethodName)) X32 hx hZ hown (hw _ (List.mem_of_getElem? (i := 98) rfl)) (hw _ (List.mem_of_getElem? (i := 99) rfl)) (notFace_of_selects (args := #[]) (mvT hZ (hw _ (List.mem_of_getElem? (i := 101) rfl)))) (hw _ (List.mem_of_getElem? (i := 101) rfl)) (hw _ (List.mem_of_getElem? (i := 100) rfl)) (hw _ (List.mem_of_getElem? (i := 82) rfl)) (hw _ (List.mem_of_getElem? (i := 102) rfl)) (by decide) 0 (rm_sac l Z a0 hw [] b9 d j (ch i) f n0 cS h ZA (by omega) (hc i) EB Gv_ Gc_ Gn_ VD g_b9 g_d ne_b9_d OA Sc hcS) e32 (by decide) (by decide) (by decide) (by decide) EB (argsL := [(.int (Int32.ofNat (ch i)))]) (rest := []) rfl (by rw [hml]; rfl) (lenOf pd__28C_29Ljava_2flang_2fStringBuilder_3b rfl) rfl rfl (by show 2 * 0 + _ ≤ _; exact Nat.le_of_eq rfl) (hb hby dunQ_90) ?_
          rintro _ T58 L58 X58 ⟨rfl, N58, K58, Gv58, Gc58, Gn58, V58⟩
          have N59 := Fr.app N33 N58
          have O60 := OA.keep K58 (allS (P := fun z_ => n0 ≤ z_) g_b9 (allS (P := fun z_ => n0 ≤ z_) g_d all0))
          have Z61 : n0 ≤ T58.heap.size := Nat.le_trans ZA K58.1
          have K62 : Keep h0 T58.heap ([] : List Addr) := KA.trans K58 (allS (P := fun z_ => z_ ∈ ([] : List Addr) ∨ h0.size ≤ z_) (Or.inr sz_b9) (allS (P := fun z_ => z_ ∈ ([] : List Addr) ∨ h0.size ≤ z_) (Or.inr sz_d) all0))
          show Go p e below _ T58 (mkF m 93 #[rv a, rv b9, iv (Int32.ofNat i), iv (Int32.ofNat (ch i))] [(.ref b9)])
          refine Go.st (T' := T58) (g' := (mkF m 97 #[rv a, rv b9, iv ((Int32.ofNat i) + (1 : Int32)), iv (Int32.ofNat (ch i))] [])) ?_ (fun _ kk_ => XS.pop X58.here hx rfl (hb hby dunQ_93) rfl rfl (XS.iinc X58.here hx rfl (hb hby dunQ_94) rfl (l' := #[rv a, rv b9, iv ((Int32.ofNat i) + (1 : Int32)), iv (Int32.ofNat (ch i))]) rfl kk_))
          have ep : i + 1 = pS ch (n - 1) (j + 1) := by show i + 1 = pS ch (n - 1) j + tk ch (pS ch (n - 1) j) (n - 1); rw [← hi]; unfold tk; rw [if_neg (fun z => g1 z.1)]
          rw [show Int32.ofNat i + (1 : Int32) = Int32.ofNat (pS ch (n - 1) (j + 1)) from (own_add i 1).trans (congrArg Int32.ofNat ep)]
          show Go p e below _ T58 (mkF m 97 #[rv a, rv b9, iv (Int32.ofNat (pS ch (n - 1) (j + 1))), iv (Int32.ofNat (ch i))] [])
          refine Go.st (T' := T58) (g' := (mkF m 45 #[rv a, rv b9, iv (Int32.ofNat (pS ch (n - 1) (j + 1))), iv (Int32.ofNat (ch i))] [])) ?_ (fun _ kk_ => XS.goto X58.here hx rfl (pc0 := 97) (pc' := 45) rfl (hb hby dunQ_97) (by decide) (by decide) kk_)
          have eo : oT ch (n - 1) j = ch i := by unfold oT; congr 1; have := ep; show pS ch (n - 1) j + tk ch (pS ch (n - 1) j) (n - 1) - 1 = i; change i + 1 = pS ch (n - 1) j + tk ch (pS ch (n - 1) j) (n - 1) at this; omega
          have f63 := (EA.keep K58)
          have f64 := (Fc_.keep K58 (ninS ne_a_b9 (ninS ne_a_d nin0)))
          have f65 := (Fv_.keep K58 (ninS ne_a_b9 (ninS ne_a_d nin0)))
          have f66 := (VT.keep K58 (ninS ne_t_b9 (ninS ne_t_d nin0)))
          have f67 := (EB.keep K58)
          exact ih (j + 1) _ T58 _ _ _ (by rw [← ep]; omega) (fun q hq => if z : q = j then (by subst z; omega) else hjl q (by omega)) (fun q hq => if z : q = j then (by subst z; rw [if_pos rfl, eo]) else (by rw [if_neg z]; exact hf q (by omega))) X58 rfl N59 K62 Z61 O60 f63 f64 f65 f66 f67 Gv58 Gc58 Gn58 V58 (One.val rfl)
      ·
        refine Go.st (T' := T30) (g' := (mkF m 101 #[rv a, rv b9, iv (Int32.ofNat (pS ch (n - 1) j)), s3] [(.ref b9)])) ?_ (fun _ kk_ => XS.icmpYes X30.here hx rfl (pc0 := 52) (pc' := 100) rfl (hb hby dunQ_52) rfl (flt ((fun z => by have := (own_lt hpb (by omega)).mp z; omega) : ¬ ((Int32.ofNat (pS ch (n - 1) j)) < (Int32.ofNat (n - 1))))).2.1 (by decide) (by decide) (XS.aloadN X30.here hx rfl (hb hby dunQ_100) rfl rfl  kk_))
        refine Go.callV (y := (⟨"java/lang/StringBuilder", "toString", "()Ljava/lang/String;"⟩ : MethodName)) (z := (⟨"java/lang/StringBuilder", "toString", "()Ljava/lang/String;"⟩ : MethodName)) X30 hx hZ hown (hw _ (List.mem_of_getElem? (i := 123) rfl)) (hw _ (List.mem_of_getElem? (i := 124) rfl)) (notFace_of_selects (args := #[]) (mvT hZ (hw _ (List.mem_of_getElem? (i := 126) rfl)))) (hw _ (List.mem_of_getElem? (i := 126) rfl)) (hw _ (List.mem_of_getElem? (i := 125) rfl)) (hw _ (List.mem_of_getElem? (i := 82) rfl)) (hw _ (List.mem_of_getElem? (i := 127) rfl)) (by decide) 0 (rm_tos l Z a0 hw [] b9 d j f n0 cS h ZA (by omega) EB Gv_ Gc_ Gn_ VD g_b9 g_d ne_b9_d OA Sc hcS) e30 (by decide) (by decide) (by decide) (by decide) EB (argsL := []) (rest := []) rfl (by rw [hml]; rfl) (lenOf pd__28_29Ljava_2flang_2fString_3b rfl) rfl rfl (by show 2 * 0 + _ ≤ _; exact Nat.le_of_eq rfl) (hb hby dunQ_101) ?_
        rintro _ T68 L68 X68 ⟨x, tx, rfl, N68, K68, xz, E68, Fc68, Fv68, V68⟩
        have N69 := Fr.app N31 N68
        have O70 := OA.keep K68 all0
        have Z71 : n0 ≤ T68.heap.size := Nat.le_trans ZA K68.1
        have K72 : Keep h0 T68.heap ([] : List Addr) := KA.trans K68 all0
        show Go p e below _ T68 (mkF m 104 #[rv a, rv b9, iv (Int32.ofNat (pS ch (n - 1) j)), s3] [(.ref x)])
        refine Go.retA X68 hx hlk hret rfl rfl (hb hby dunQ_104) (by decide) (by decide) ?_
        exact ⟨j, x, tx, rfl, N69, K72, hjl, hend, E68, Fc68, Fv68, IL_congr (n := j) hf ▸ V68⟩
  have f73 := (f16.keep K18)
  have f74 := ((Fc_a.ext E9).keep K18 (ninS ne_a_b9 nin0))
  have f75 := ((Fv_a.ext E9).keep K18 (ninS ne_a_b9 nin0))
  have f76 := (f17.keep K18 (ninS ne_t_b9 nin0))
  have f77 := (A9.keep K18)
  exact loop (n - 1) 0 _ T18 _ _ _ (by omega) (fun i q => by omega) (fun q z => by omega) X18 rfl N19 K22 Z21 O20 f73 f74 f75 f76 f77 Gv18 Gc18 Gn18 V18 One.u
theorem pn_law : plainFor x = true := by first | exact plainFor_of_name (by first | (simp [plainName, overriddenIn]; done) | decide +kernel) | decide +kernel
theorem ef_law (m : MethodId) (x0 : Int64) (x1 : Int32) : entryFrame m #[(.long x0), (.int x1)] maxLocals = mkF m 0 #[jv x0, .second, iv x1, .unset, .unset, .unset, .unset, .unset, .unset, .unset, .unset, .unset, .unset] [] := by first | (simp [entryFrame, mkF, argsToLocals, Value.category, maxLocals]; done) | rfl
set_option maxRecDepth 65536 in
set_option maxHeartbeats 40000000 in
theorem rm_law (l : Launch) (Z : State) (a0 : Array Value) (hw : ∀ d ∈ tables_1, d.before a0 Z = true) (ws : List Jvm.Cond) (p0 : Int64) (p1 : Int32) (n0 : Nat) (cS : Int32) (rF : Value) (h0 : Heap) (hEL : EW Z a0 consts_1) (wS : ∀ a ∈ Bundle.stringAtoms, a.before a0 Z = true) (Z0 : n0 ≤ h0.size) (O0 : Old Z n0 h0) (Sc : Sta Z Z.heap "java/lang/String" "COMPACT_STRINGS" "Z" (.int cS)) (hcS : ¬ (cS = (0 : Int32))) (Sr : Sta Z Z.heap "jdk/internal/util/Preconditions" "SIOOBE_FORMATTER" "Ljava/util/function/BiFunction;" rF) (hr_rF : rF.isRef = true) :
    MtH l Z consts_1 x code maxLocals ret ws room_1 #[(.long p0), (.int p1)] h0 (fun v h L => v = some (.int (1 : Int32)) ∧ Fr n0 L) := by
  refine MtH.body pn_law ?_
  intro p e s m below meth c s₁ hx hby hml hown hnm hret hlk hZ X0 e0 HS0
  refine Go.cast (g' := (mkF m 0 #[jv p0, .second, iv p1, .unset, .unset, .unset, .unset, .unset, .unset, .unset, .unset, .unset, .unset] [])) (ef_law m p0 p1) ?_
  have N0 := Fr.nil n0
  obtain ⟨n, hn, eN⟩ := own_m7 p1
  refine Go.st (T' := s₁) (g' := (mkF m 7 #[jv p0, .second, iv p1, .unset, .unset, .unset, .unset, .unset, .unset, .unset, .unset, .unset, .unset] [(.int ((p1 &&& (2147483647 : Int32)) % (7 : Int32)))])) ?_ (fun _ kk_ => XS.iloadN X0.here hx rfl (hb hby at_0) rfl  (X0.ldcInt hx hown (mvT hZ (hw _ (List.mem_of_getElem? (i := 0) rfl))) (g := (mkF m 1 #[jv p0, .second, iv p1, .unset, .unset, .unset, .unset, .unset, .unset, .unset, .unset, .unset, .unset] [(.int p1)])) rfl (hb hby at_1) _ (XS.iand X0.here hx rfl (hb hby at_3) rfl (XS.bipush X0.here hx rfl (hb hby at_4) (iremM X0 hx rfl (hb hby at_6) rfl (by decide) kk_)))))
  rw [eN]
  show Go p e below _ s₁ (mkF m 7 #[jv p0, .second, iv p1, .unset, .unset, .unset, .unset, .unset, .unset, .unset, .unset, .unset, .unset] [(.int (Int32.ofNat n))])
  refine Go.st (T' := s₁) (g' := (mkF m 10 #[jv p0, .second, iv p1, iv (Int32.ofNat n), .unset, .unset, .unset, .unset, .unset, .unset, .unset, .unset, .unset] [(.int (6 : Int32))])) ?_ (fun _ kk_ => XS.istoreN X0.here hx rfl (hb hby at_7) rfl (l' := #[jv p0, .second, iv p1, iv (Int32.ofNat n), .unset, .unset, .unset, .unset, .unset, .unset, .unset, .unset, .unset]) rfl (XS.bipush X0.here hx rfl (hb hby at_8) kk_))
  refine Go.newP X0 hx hZ (aty := .char) (hw _ (List.mem_of_getElem? (i := 1) rfl)) e0 rfl (hb hby at_10) (n := 6) rfl rfl 6 (by decide) (by decide) (by decide) (by decide) ?_
  intro T1 h1 b1 X1 e1 E1 g1 V1
  have g_b1 : n0 ≤ b1 := Nat.le_trans Z0 (Nat.le_of_eq g1.symm)
  have HS2 := HS.ext HS0 E1
  have O3 := O0.ext E1
  have Z4 : n0 ≤ h1.size := Nat.le_trans Z0 E1.1
  change Ary Z h1 b1 .char [.int 0, .int 0, .int 0, .int 0, .int 0, .int 0] at V1
  have sf5 := Sf.born HS0 E1 g1 V1.lt
  show Go p e below _ T1 (mkF m 12 #[jv p0, .second, iv p1, iv (Int32.ofNat n), .unset, .unset, .unset, .unset, .unset, .unset, .unset, .unset, .unset] [(.ref b1)])
  refine Go.st (T' := T1) (g' := (mkF m 19 #[jv p0, .second, iv p1, iv (Int32.ofNat n), rv b1, .unset, .unset, .unset, .unset, .unset, .unset, .unset, .unset] [(.int (0 : Int32)), (.long p0), (.int (0 : Int32)), (.ref b1)])) ?_ (fun _ kk_ => XS.astore X1.here hx rfl (hb hby at_12) rfl rfl (l' := #[jv p0, .second, iv p1, iv (Int32.ofNat n), rv b1, .unset, .unset, .unset, .unset, .unset, .unset, .unset, .unset]) rfl (XS.aload X1.here hx rfl (hb hby at_14) rfl rfl  (XS.iconst X1.here hx rfl (hb hby at_16) (XS.lloadN X1.here hx rfl (hb hby at_17) rfl  (XS.iconst X1.here hx rfl (hb hby at_18) kk_)))))
  refine Go.callS (y := (⟨"com/example/tidewire/tidewire/extender/ManifestHeaderUnquotePinLaw", "draw", "(JI)C"⟩ : MethodName)) X1 hx hZ hown (hw _ (List.mem_of_getElem? (i := 2) rfl)) (hw _ (List.mem_of_getElem? (i := 3) rfl)) (hw _ (List.mem_of_getElem? (i := 4) rfl)) (hw _ (List.mem_of_getElem? (i := 5) rfl)) (by decide) 2 (rm_drw l Z a0 hw [] p0 (0 : Int32) h1) e1 (by decide) (by decide) (by decide) (by decide) (argsL := [(.long p0), (.int (0 : Int32))]) (rest := [(.int (0 : Int32)), (.ref b1)]) rfl (by rw [hml]; rfl) (lenOf pd__28JI_29C rfl) rfl rfl (by show 2 * 0 + _ ≤ _; exact Nat.le_of_eq rfl) (hb hby at_19) ?_
  rintro _ T6 L6 X6 ⟨d0, hd0, rfl, e6, rfl⟩
  have N7 := Fr.app N0 (Fr.nil _)
  show Go p e below _ T6 (mkF m 22 #[jv p0, .second, iv p1, iv (Int32.ofNat n), rv b1, .unset, .unset, .unset, .unset, .unset, .unset, .unset, .unset] [(.int (Int32.ofNat d0)), (.int (0 : Int32)), (.ref b1)])
  refine Go.castore X6 hx hZ e6 V1 (y := (Int32.ofNat d0)) (ch_sto _ hd0) (i := 0) (Nat.le_of_ble_eq_true rfl) rfl rfl rfl (hb hby at_22) ?_
  intro T8 h8 X8 e8 W8 V8
  have N9 := Fr.snoc X8 N7 g_b1
  have HS10 := HS.wr HS2 W8 (sf5).1
  have O11 := O3.wr W8 g_b1
  change Ary Z h8 b1 .char [.int (Int32.ofNat d0), .int 0, .int 0, .int 0, .int 0, .int 0] at V8
  have Z12 : n0 ≤ h8.size := by rw [W8.size]; exact Z4
  show Go p e below _ T8 (mkF m 23 #[jv p0, .second, iv p1, iv (Int32.ofNat n), rv b1, .unset, .unset, .unset, .unset, .unset, .unset, .unset, .unset] [])
  refine Go.st (T' := T8) (g' := (mkF m 28 #[jv p0, .second, iv p1, iv (Int32.ofNat n), rv b1, .unset, .unset, .unset, .unset, .unset, .unset, .unset, .unset] [(.int (1 : Int32)), (.long p0), (.int (1 : Int32)), (.ref b1)])) ?_ (fun _ kk_ => XS.aload X8.here hx rfl (hb hby at_23) rfl rfl  (XS.iconst X8.here hx rfl (hb hby at_25) (XS.lloadN X8.here hx rfl (hb hby at_26) rfl  (XS.iconst X8.here hx rfl (hb hby at_27) kk_))))
  refine Go.callS (y := (⟨"com/example/tidewire/tidewire/extender/ManifestHeaderUnquotePinLaw", "draw", "(JI)C"⟩ : MethodName)) X8 hx hZ hown (hw _ (List.mem_of_getElem? (i := 2) rfl)) (hw _ (List.mem_of_getElem? (i := 3) rfl)) (hw _ (List.mem_of_getElem? (i := 4) rfl)) (hw _ (List.mem_of_getElem? (i := 5) rfl)) (by decide) 2 (rm_drw l Z a0 hw [] p0 (1 : Int32) h8) e8 (by decide) (by decide) (by decide) (by decide) (argsL := [(.long p0), (.int (1 : Int32))]) (rest := [(.int (1 : Int32)), (.ref b1)]) rfl (by rw [hml]; rfl) (lenOf pd__28JI_29C rfl) rfl rfl (by show 2 * 0 + _ ≤ _; exact Nat.le_of_eq rfl) (hb hby at_28) ?_
  rintro _ T13 L13 X13 ⟨d1, hd1, rfl, e13, rfl⟩
  have N14 := Fr.app N9 (Fr.nil _)
  show Go p e below _ T13 (mkF m 31 #[jv p0, .second, iv p1, iv (Int32.ofNat n), rv b1, .unset, .unset, .unset, .unset, .unset, .unset, .unset, .unset] [(.int (Int32.ofNat d1)), (.int (1 : Int32)), (.ref b1)])
  refine Go.castore X13 hx hZ e13 V8 (y := (Int32.ofNat d1)) (ch_sto _ hd1) (i := 1) (Nat.le_of_ble_eq_true rfl) rfl rfl rfl (hb hby at_31) ?_
  intro T15 h15 X15 e15 W15 V15
  have N16 := Fr.snoc X15 N14 g_b1
  have f18 := (Sf.wr HS2 W8 (sf5).1 sf5)
  have HS17 := HS.wr HS10 W15 (f18).1
  have O19 := O11.wr W15 g_b1
  change Ary Z h15 b1 .char [.int (Int32.ofNat d0), .int (Int32.ofNat d1), .int 0, .int 0, .int 0, .int 0] at V15
  have Z20 : n0 ≤ h15.size := by rw [W15.size]; exact Z12
  show Go p e below _ T15 (mkF m 32 #[jv p0, .second, iv p1, iv (Int32.ofNat n), rv b1, .unset, .unset, .unset, .unset, .unset, .unset, .unset, .unset] [])
  refine Go.st (T' := T15) (g' := (mkF m 37 #[jv p0, .second, iv p1, iv (Int32.ofNat n), rv b1, .unset, .unset, .unset, .unset, .unset, .unset, .unset, .unset] [(.int (2 : Int32)), (.long p0), (.int (2 : Int32)), (.ref b1)])) ?_ (fun _ kk_ => XS.aload X15.here hx rfl (hb hby at_32) rfl rfl  (XS.iconst X15.here hx rfl (hb hby at_34) (XS.lloadN X15.here hx rfl (hb hby at_35) rfl  (XS.iconst X15.here hx rfl (hb hby at_36) kk_))))
  refine Go.callS (y := (⟨"com/example/tidewire/tidewire/extender/ManifestHeaderUnquotePinLaw", "draw", "(JI)C"⟩ : MethodName)) X15 hx hZ hown (hw _ (List.mem_of_getElem? (i := 2) rfl)) (hw _ (List.mem_of_getElem? (i := 3) rfl)) (hw _ (List.mem_of_getElem? (i := 4) rfl)) (hw _ (List.mem_of_getElem? (i := 5) rfl)) (by decide) 2 (rm_drw l Z a0 hw [] p0 (2 : Int32) h15) e15 (by decide) (by decide) (by decide) (by decide) (argsL := [(.long p0), (.int (2 : Int32))]) (rest := [(.int (2 : Int32)), (.ref b1)]) rfl (by rw [hml]; rfl) (lenOf pd__28JI_29C rfl) rfl rfl (by show 2 * 0 + _ ≤ _; exact Nat.le_of_eq rfl) (hb hby at_37) ?_
  rintro _ T21 L21 X21 ⟨d2, hd2, rfl, e21, rfl⟩
  have N22 := Fr.app N16 (Fr.nil _)
  show Go p e below _ T21 (mkF m 40 #[jv p0, .second, iv p1, iv (Int32.ofNat n), rv b1, .unset, .unset, .unset, .unset, .unset, .unset, .unset, .unset] [(.int (Int32.ofNat d2)), (.int (2 : Int32)), (.ref b1)])
  refine Go.castore X21 hx hZ e21 V15 (y := (Int32.ofNat d2)) (ch_sto _ hd2) (i := 2) (Nat.le_of_ble_eq_true rfl) rfl rfl rfl (hb hby at_40) ?_
  intro T23 h23 X23 e23 W23 V23
  have N24 := Fr.snoc X23 N22 g_b1
  have f26 := (Sf.wr HS10 W15 (f18).1 f18)
  have HS25 := HS.wr HS17 W23 (f26).1
  have O27 := O19.wr W23 g_b1
  change Ary Z h23 b1 .char [.int (Int32.ofNat d0), .int (Int32.ofNat d1), .int (Int32.ofNat d2), .int 0, .int 0, .int 0] at V23
  have Z28 : n0 ≤ h23.size := by rw [W23.size]; exact Z20
  show Go p e below _ T23 (mkF m 41 #[jv p0, .second, iv p1, iv (Int32.ofNat n), rv b1, .unset, .unset, .unset, .unset, .unset, .unset, .unset, .unset] [])
  refine Go.st (T' := T23) (g' := (mkF m 46 #[jv p0, .second, iv p1, iv (Int32.ofNat n), rv b1, .unset, .unset, .unset, .unset, .unset, .unset, .unset, .unset] [(.int (3 : Int32)), (.long p0), (.int (3 : Int32)), (.ref b1)])) ?_ (fun _ kk_ => XS.aload X23.here hx rfl (hb hby at_41) rfl rfl  (XS.iconst X23.here hx rfl (hb hby at_43) (XS.lloadN X23.here hx rfl (hb hby at_44) rfl  (XS.iconst X23.here hx rfl (hb hby at_45) kk_))))
  refine Go.callS (y := (⟨"com/example/tidewire/tidewire/extender/ManifestHeaderUnquotePinLaw", "draw", "(JI)C"⟩ : MethodName)) X23 hx hZ hown (hw _ (List.mem_of_getElem? (i := 2) rfl)) (hw _ (List.mem_of_getElem? (i := 3) rfl)) (hw _ (List.mem_of_getElem? (i := 4) rfl)) (hw _ (List.mem_of_getElem? (i := 5) rfl)) (by decide) 2 (rm_drw l Z a0 hw [] p0 (3 : Int32) h23) e23 (by decide) (by decide) (by decide) (by decide) (argsL := [(.long p0), (.int (3 : Int32))]) (rest := [(.int (3 : Int32)), (.ref b1)]) rfl (by rw [hml]; rfl) (lenOf pd__28JI_29C rfl) rfl rfl (by show 2 * 0 + _ ≤ _; exact Nat.le_of_eq rfl) (hb hby at_46) ?_
  rintro _ T29 L29 X29 ⟨d3, hd3, rfl, e29, rfl⟩
  have N30 := Fr.app N24 (Fr.nil _)
  show Go p e below _ T29 (mkF m 49 #[jv p0, .second, iv p1, iv (Int32.ofNat n), rv b1, .unset, .unset, .unset, .unset, .unset, .unset, .unset, .unset] [(.int (Int32.ofNat d3)), (.int (3 : Int32)), (.ref b1)])
  refine Go.castore X29 hx hZ e29 V23 (y := (Int32.ofNat d3)) (ch_sto _ hd3) (i := 3) (Nat.le_of_ble_eq_true rfl) rfl rfl rfl (hb hby at_49) ?_
  intro T31 h31 X31 e31 W31 V31
  have N32 := Fr.snoc X31 N30 g_b1
  have f34 := (Sf.wr HS17 W23 (f26).1 f26)
  have HS33 := HS.wr HS25 W31 (f34).1
  have O35 := O27.wr W31 g_b1
  change Ary Z h31 b1 .char [.int (Int32.ofNat d0), .int (Int32.ofNat d1), .int (Int32.ofNat d2), .int (Int32.ofNat d3), .int 0, .int 0] at V31
  have Z36 : n0 ≤ h31.size := by rw [W31.size]; exact Z28
  show Go p e below _ T31 (mkF m 50 #[jv p0, .second, iv p1, iv (Int32.ofNat n), rv b1, .unset, .unset, .unset, .unset, .unset, .unset, .unset, .unset] [])
  refine Go.st (T' := T31) (g' := (mkF m 55 #[jv p0, .second, iv p1, iv (Int32.ofNat n), rv b1, .unset, .unset, .unset, .unset, .unset, .unset, .unset, .unset] [(.int (4 : Int32)), (.long p0), (.int (4 : Int32)), (.ref b1)])) ?_ (fun _ kk_ => XS.aload X31.here hx rfl (hb hby at_50) rfl rfl  (XS.iconst X31.here hx rfl (hb hby at_52) (XS.lloadN X31.here hx rfl (hb hby at_53) rfl  (XS.iconst X31.here hx rfl (hb hby at_54) kk_))))
  refine Go.callS (y := (⟨"com/example/tidewire/tidewire/extender/ManifestHeaderUnquotePinLaw", "draw", "(JI)C"⟩ : MethodName)) X31 hx hZ hown (hw _ (List.mem_of_getElem? (i := 2) rfl)) (hw _ (List.mem_of_getElem? (i := 3) rfl)) (hw _ (List.mem_of_getElem? (i := 4) rfl)) (hw _ (List.mem_of_getElem? (i := 5) rfl)) (by decide) 2 (rm_drw l Z a0 hw [] p0 (4 : Int32) h31) e31 (by decide) (by decide) (by decide) (by decide) (argsL := [(.long p0), (.int (4 : Int32))]) (rest := [(.int (4 : Int32)), (.ref b1)]) rfl (by rw [hml]; rfl) (lenOf pd__28JI_29C rfl) rfl rfl (by show 2 * 0 + _ ≤ _; exact Nat.le_of_eq rfl) (hb hby at_55) ?_
  rintro _ T37 L37 X37 ⟨d4, hd4, rfl, e37, rfl⟩
  have N38 := Fr.app N32 (Fr.nil _)
  show Go p e below _ T37 (mkF m 58 #[jv p0, .second, iv p1, iv (Int32.ofNat n), rv b1, .unset, .unset, .unset, .unset, .unset, .unset, .unset, .unset] [(.int (Int32.ofNat d4)), (.int (4 : Int32)), (.ref b1)])
  refine Go.castore X37 hx hZ e37 V31 (y := (Int32.ofNat d4)) (ch_sto _ hd4) (i := 4) (Nat.le_of_ble_eq_true rfl) rfl rfl rfl (hb hby at_58) ?_
  intro T39 h39 X39 e39 W39 V39
  have N40 := Fr.snoc X39 N38 g_b1
  have f42 := (Sf.wr HS25 W31 (f34).1 f34)
  have HS41 := HS.wr HS33 W39 (f42).1
  have O43 := O35.wr W39 g_b1
  change Ary Z h39 b1 .char [.int (Int32.ofNat d0), .int (Int32.ofNat d1), .int (Int32.ofNat d2), .int (Int32.ofNat d3), .int (Int32.ofNat d4), .int 0] at V39
  have Z44 : n0 ≤ h39.size := by rw [W39.size]; exact Z36
  show Go p e below _ T39 (mkF m 59 #[jv p0, .second, iv p1, iv (Int32.ofNat n), rv b1, .unset, .unset, .unset, .unset, .unset, .unset, .unset, .unset] [])
  refine Go.st (T' := T39) (g' := (mkF m 64 #[jv p0, .second, iv p1, iv (Int32.ofNat n), rv b1, .unset, .unset, .unset, .unset, .unset, .unset, .unset, .unset] [(.int (5 : Int32)), (.long p0), (.int (5 : Int32)), (.ref b1)])) ?_ (fun _ kk_ => XS.aload X39.here hx rfl (hb hby at_59) rfl rfl  (XS.iconst X39.here hx rfl (hb hby at_61) (XS.lloadN X39.here hx rfl (hb hby at_62) rfl  (XS.iconst X39.here hx rfl (hb hby at_63) kk_))))
  refine Go.callS (y := (⟨"com/example/tidewire/tidewire/extender/ManifestHeaderUnquotePinLaw", "draw", "(JI)C"⟩ : MethodName)) X39 hx hZ hown (hw _ (List.mem_of_getElem? (i := 2) rfl)) (hw _ (List.mem_of_getElem? (i := 3) rfl)) (hw _ (List.mem_of_getElem? (i := 4) rfl)) (hw _ (List.mem_of_getElem? (i := 5) rfl)) (by decide) 2 (rm_drw l Z a0 hw [] p0 (5 : Int32) h39) e39 (by decide) (by decide) (by decide) (by decide) (argsL := [(.long p0), (.int (5 : Int32))]) (rest := [(.int (5 : Int32)), (.ref b1)]) rfl (by rw [hml]; rfl) (lenOf pd__28JI_29C rfl) rfl rfl (by show 2 * 0 + _ ≤ _; exact Nat.le_of_eq rfl) (hb hby at_64) ?_
  rintro _ T45 L45 X45 ⟨d5, hd5, rfl, e45, rfl⟩
  have N46 := Fr.app N40 (Fr.nil _)
  show Go p e below _ T45 (mkF m 67 #[jv p0, .second, iv p1, iv (Int32.ofNat n), rv b1, .unset, .unset, .unset, .unset, .unset, .unset, .unset, .unset] [(.int (Int32.ofNat d5)), (.int (5 : Int32)), (.ref b1)])
  refine Go.castore X45 hx hZ e45 V39 (y := (Int32.ofNat d5)) (ch_sto _ hd5) (i := 5) (Nat.le_of_ble_eq_true rfl) rfl rfl rfl (hb hby at_67) ?_
  intro T47 h47 X47 e47 W47 V47
  have N48 := Fr.snoc X47 N46 g_b1
  have f50 := (Sf.wr HS33 W39 (f42).1 f42)
  have HS49 := HS.wr HS41 W47 (f50).1
  have O51 := O43.wr W47 g_b1
  change Ary Z h47 b1 .char [.int (Int32.ofNat d0), .int (Int32.ofNat d1), .int (Int32.ofNat d2), .int (Int32.ofNat d3), .int (Int32.ofNat d4), .int (Int32.ofNat d5)] at V47
  have Z52 : n0 ≤ h47.size := by rw [W47.size]; exact Z44
  show Go p e below _ T47 (mkF m 68 #[jv p0, .second, iv p1, iv (Int32.ofNat n), rv b1, .unset, .unset, .unset, .unset, .unset, .unset, .unset, .unset] [])
  refine Go.st (T' := T47) (g' := (mkF m 74 #[jv p0, .second, iv p1, iv (Int32.ofNat n), rv b1, .unset, .unset, .unset, .unset, .unset, .unset, .unset, .unset] [(.int (((p1.toUInt32 >>> ((8 : Int32) &&& 31).toUInt32).toInt32) &&& (3 : Int32)))])) ?_ (fun _ kk_ => XS.iloadN X47.here hx rfl (hb hby at_68) rfl  (XS.bipush X47.here hx rfl (hb hby at_69) (XS.iushr X47.here hx rfl (hb hby at_71) rfl (XS.iconst X47.here hx rfl (hb hby at_72) (XS.iand X47.here hx rfl (hb hby at_73) rfl kk_)))))
  have hc6 := c6_lt hd0 hd1 hd2 hd3 hd4 hd5
  change Ary Z h47 b1 .char (IL 6 (fun q => Int32.ofNat ((c6 d0 d1 d2 d3 d4 d5) q))) at V47
  have tail : ∀ (ch : Nat → Nat) (T : State) (h : Heap) (locs : List Loc), (∀ q, ch q < 256) → Stand p l e room_1 (s.setVm s.vm) m #[.long p0, .int p1] below meth c T locs 1 6 → T.heap = h → Fr n0 locs → n0 ≤ h.size → Old Z n0 h → HS Z consts_1 s s.heap s.vm h → Ary Z h b1 .char (IL 6 (fun q => Int32.ofNat (ch q))) → Go p e below (WfH Z consts_1 s 32 1216 (fun v h L => v = some (.int (1 : Int32)) ∧ Fr n0 L)) T (mkF m 96 #[jv p0, .second, iv p1, iv (Int32.ofNat n), rv b1, .unset, .unset, .unset, .unset, .unset, .unset, .unset, .unset] []) := by
    intro ch T h locs hc X eh NA ZA OA HA VA
    refine Go.st (T' := T) (g' := (mkF m 99 #[jv p0, .second, iv p1, iv (Int32.ofNat n), rv b1, .unset, .unset, .unset, .unset, .unset, .unset, .unset, .unset] [(.int (Int32.ofNat n)), (.ref b1)])) ?_ (fun _ kk_ => XS.aload X.here hx rfl (hb hby at_96) rfl rfl  (XS.iloadN X.here hx rfl (hb hby at_98) rfl  kk_))
    refine Go.callSH (y := (⟨"com/example/tidewire/tidewire/extender/ManifestHeaderUnquotePinLaw", "make", "([CI)Ljava/lang/String;"⟩ : MethodName)) X hx hZ hown (hw _ (List.mem_of_getElem? (i := 7) rfl)) (hw _ (List.mem_of_getElem? (i := 8) rfl)) (hw _ (List.mem_of_getElem? (i := 4) rfl)) (hw _ (List.mem_of_getElem? (i := 9) rfl)) (by decide) 0 HA hEL (rm_mak l Z a0 hw [] b1 n ch n0 cS h hEL wS ZA hn hc VA OA Sc hcS) eh (by decide) (by decide) (by decide) (by decide) (argsL := [(.ref b1), (.int (Int32.ofNat n))]) (rest := []) rfl (by rw [hml]; rfl) (lenOf pd__28_5bCI_29Ljava_2flang_2fString_3b rfl) rfl rfl (by show 2 * 0 + _ ≤ _; exact Nat.le_of_eq rfl) (hb hby at_99) ?_
    rintro _ T53 L53 X53 ⟨a, t, rfl, N53, K53, az, E_a, Fc_a, Fv_a, V_t⟩ hZ53 ho53 HS53 C53
    have N54 := Fr.app NA N53
    have O55 := OA.keep K53 all0
    have Z56 : n0 ≤ T53.heap.size := Nat.le_trans ZA K53.1
    show Go p e below _ T53 (mkF m 102 #[jv p0, .second, iv p1, iv (Int32.ofNat n), rv b1, .unset, .unset, .unset, .unset, .unset, .unset, .unset, .unset] [(.ref a)])
    refine Go.st (T' := T53) (g' := (mkF m 106 #[jv p0, .second, iv p1, iv (Int32.ofNat n), rv b1, rv a, .unset, .unset, .unset, .unset, .unset, .unset, .unset] [(.ref a)])) ?_ (fun _ kk_ => XS.astore X53.here hx rfl (hb hby at_102) rfl rfl (l' := #[jv p0, .second, iv p1, iv (Int32.ofNat n), rv b1, rv a, .unset, .unset, .unset, .unset, .unset, .unset, .unset]) rfl (XS.aload X53.here hx rfl (hb hby at_104) rfl rfl  kk_))
    have c0 := hc 0
    have c1 := hc (n - 1)
    by_cases hq : 2 ≤ n ∧ ch 0 = 34 ∧ ch (n - 1) = 34
    ·
      obtain ⟨hq1, hq2, hq3⟩ := hq
      have f57 := (VA.keep K53 nin0)
      refine Go.callS (y := (⟨"com/example/tidewire/tidewire/extender/ManifestHeader", "unquote", "(Ljava/lang/String;)Ljava/lang/String;"⟩ : MethodName)) X53 hx hZ53 ho53 (hw _ (List.mem_of_getElem? (i := 39) rfl)) (hw _ (List.mem_of_getElem? (i := 40) rfl)) (hw _ (List.mem_of_getElem? (i := 41) rfl)) (hw _ (List.mem_of_getElem? (i := 42) rfl)) (by decide) 0 (rm_unQ l Z a0 hw [] a t n ch n0 cS rF T53.heap Z56 hn hc hq1 hq2 hq3 E_a Fc_a Fv_a V_t O55 Sc hcS Sr hr_rF) rfl (by decide) (by decide) (by decide) (by decide) (argsL := [(.ref a)]) (rest := []) rfl (by rw [hml]; rfl) (lenOf pd__28Ljava_2flang_2fString_3b_29Ljava_2flang_2fString_3b rfl) rfl rfl (by show 2 * 0 + _ ≤ _; exact Nat.le_of_eq rfl) (hb hby at_106) ?_
      rintro _ T58 L58 X58 ⟨J, x, tx, rfl, N58, K58, hJ1, hJ2, E_x, Fc_x, Fv_x, V_tx⟩
      have N59 := Fr.app N54 N58
      have HS60 := HS.keep HS53 K58 sf0
      have O61 := O55.keep K58 all0
      have Z62 : n0 ≤ T58.heap.size := Nat.le_trans Z56 K58.1
      show Go p e below _ T58 (mkF m 109 #[jv p0, .second, iv p1, iv (Int32.ofNat n), rv b1, rv a, .unset, .unset, .unset, .unset, .unset, .unset, .unset] [(.ref x)])
      refine Go.st (T' := T58) (g' := (mkF m 113 #[jv p0, .second, iv p1, iv (Int32.ofNat n), rv b1, rv a, rv x, .unset, .unset, .unset, .unset, .unset, .unset] [(.int (6 : Int32))])) ?_ (fun _ kk_ => XS.astore X58.here hx rfl (hb hby at_109) rfl rfl (l' := #[jv p0, .second, iv p1, iv (Int32.ofNat n), rv b1, rv a, rv x, .unset, .unset, .unset, .unset, .unset, .unset]) rfl (XS.bipush X58.here hx rfl (hb hby at_111) kk_))
      refine Go.newP X58 hx hZ53 (aty := .char) (hw _ (List.mem_of_getElem? (i := 1) rfl)) rfl rfl (hb hby at_113) (n := 6) rfl rfl 6 (by decide) (by decide) (by decide) (by decide) ?_
      intro T63 h63 b63 X63 e63 E63 g63 V63
      have f64 := (f57.keep K58 nin0)
      have ne_b1_b63 : b1 ≠ b63 := Nat.ne_of_lt (Nat.lt_of_lt_of_eq f64.lt g63.symm)
      have f65 := (E_a.keep K58)
      have ne_a_b63 : a ≠ b63 := Nat.ne_of_lt (Nat.lt_of_lt_of_eq f65.lt g63.symm)
      have f66 := (V_t.keep K58 nin0)
      have ne_t_b63 : t ≠ b63 := Nat.ne_of_lt (Nat.lt_of_lt_of_eq f66.lt g63.symm)
      have ne_x_b63 : x ≠ b63 := Nat.ne_of_lt (Nat.lt_of_lt_of_eq E_x.lt g63.symm)
      have ne_tx_b63 : tx ≠ b63 := Nat.ne_of_lt (Nat.lt_of_lt_of_eq V_tx.lt g63.symm)
      have g_b63 : n0 ≤ b63 := Nat.le_trans Z62 (Nat.le_of_eq g63.symm)
      have HS67 := HS.ext HS60 E63
      have O68 := O61.ext E63
      have Z69 : n0 ≤ h63.size := Nat.le_trans Z62 E63.1
      change Ary Z h63 b63 .char (IL 6 (fun q => if q < 0 then Int32.ofNat (oT ch (n - 1) q) else 0)) at V63
      have sf70 := Sf.born HS60 E63 g63 V63.lt
      show Go p e below _ T63 (mkF m 115 #[jv p0, .second, iv p1, iv (Int32.ofNat n), rv b1, rv a, rv x, .unset, .unset, .unset, .unset, .unset, .unset] [(.ref b63)])
      refine Go.st (T' := T63) (g' := (mkF m 128 #[jv p0, .second, iv p1, iv (Int32.ofNat n), rv b1, rv a, rv x, rv b63, iv (0 : Int32), .unset, .unset, .unset, .unset] [(.int (0 : Int32)), (.ref b1)])) ?_ (fun _ kk_ => XS.astore X63.here hx rfl (hb hby at_115) rfl rfl (l' := #[jv p0, .second, iv p1, iv (Int32.ofNat n), rv b1, rv a, rv x, rv b63, .unset, .unset, .unset, .unset, .unset]) rfl (XS.iconst X63.here hx rfl (hb hby at_117) (XS.istore X63.here hx rfl (hb hby at_118) rfl (l' := #[jv p0, .second, iv p1, iv (Int32.ofNat n), rv b1, rv a, rv x, rv b63, iv (0 : Int32), .unset, .unset, .unset, .unset]) rfl (XS.iloadN X63.here hx rfl (hb hby at_120) rfl  (XS.iconst X63.here hx rfl (hb hby at_121) (XS.icmpNo X63.here hx rfl (hb hby at_122) rfl (flt ((fun z => by have := (own_lt (i := n) (n := 2) (by omega) (by decide)).mp z; omega) : ¬ ((Int32.ofNat n) < (2 : Int32)))).1 (XS.aload X63.here hx rfl (hb hby at_125) rfl rfl  (XS.iconst X63.here hx rfl (hb hby at_127) kk_))))))))
      have f71 := (f64.ext E63)
      refine Go.st (T' := T63) (g' := (mkF m 139 #[jv p0, .second, iv p1, iv (Int32.ofNat n), rv b1, rv a, rv x, rv b63, iv (0 : Int32), .unset, .unset, .unset, .unset] [(.int ((Int32.ofNat n) - (1 : Int32))), (.ref b1)])) ?_ (fun _ kk_ => own_caload X63 hx hZ53 e63 f71 (i := 0) (v := (.int (Int32.ofNat (ch 0)))) (IL_at (by decide)) rfl rfl rfl (hb hby at_128) (XS.bipush X63.here hx rfl (hb hby at_129) (XS.icmpNo X63.here hx rfl (hb hby at_131) rfl (teq ((show Int32.ofNat (ch 0) = (34 : Int32) by rw [hq2]; rfl) : (Int32.ofNat (ch 0)) = (34 : Int32))).2 (XS.aload X63.here hx rfl (hb hby at_134) rfl rfl  (XS.iloadN X63.here hx rfl (hb hby at_136) rfl  (XS.iconst X63.here hx rfl (hb hby at_137) (XS.isub X63.here hx rfl (hb hby at_138) rfl kk_)))))))
      rw [show Int32.ofNat n - (1 : Int32) = Int32.ofNat (n - 1) from own_sub (n := 1) (by omega)]
      show Go p e below _ T63 (mkF m 139 #[jv p0, .second, iv p1, iv (Int32.ofNat n), rv b1, rv a, rv x, rv b63, iv (0 : Int32), .unset, .unset, .unset, .unset] [(.int (Int32.ofNat (n - 1))), (.ref b1)])
      refine Go.st (T' := T63) (g' := (mkF m 170 #[jv p0, .second, iv p1, iv (Int32.ofNat n), rv b1, rv a, rv x, rv b63, iv (0 : Int32), iv (1 : Int32), .unset, .unset, .unset] [(.int ((Int32.ofNat n) - (1 : Int32)))])) ?_ (fun _ kk_ => own_caload X63 hx hZ53 e63 f71 (i := (n - 1)) (v := (.int (Int32.ofNat (ch (n - 1))))) (IL_at (by omega)) rfl rfl rfl (hb hby at_139) (XS.bipush X63.here hx rfl (hb hby at_140) (XS.icmpNo X63.here hx rfl (hb hby at_142) rfl (teq ((show Int32.ofNat (ch (n - 1)) = (34 : Int32) by rw [hq3]; rfl) : (Int32.ofNat (ch (n - 1))) = (34 : Int32))).2 (XS.iconst X63.here hx rfl (hb hby at_145) (XS.goto X63.here hx rfl (pc0 := 146) (pc' := 150) rfl (hb hby at_146) (by decide) (by decide) (XS.istore X63.here hx rfl (hb hby at_150) rfl (l' := #[jv p0, .second, iv p1, iv (Int32.ofNat n), rv b1, rv a, rv x, rv b63, iv (0 : Int32), iv (1 : Int32), .unset, .unset, .unset]) rfl (XS.iload X63.here hx rfl (hb hby at_152) rfl  (XS.ifYes X63.here hx rfl (pc0 := 154) (pc' := 167) rfl (hb hby at_154) rfl ((if0 _ _).trans (feq ((by decide) : ¬ ((1 : Int32) = (0 : Int32)))).2) (by decide) (by decide) (XS.iloadN X63.here hx rfl (hb hby at_167) rfl  (XS.iconst X63.here hx rfl (hb hby at_168) (XS.isub X63.here hx rfl (hb hby at_169) rfl kk_)))))))))))
      rw [show Int32.ofNat n - (1 : Int32) = Int32.ofNat (n - 1) from own_sub (n := 1) (by omega)]
      show Go p e below _ T63 (mkF m 170 #[jv p0, .second, iv p1, iv (Int32.ofNat n), rv b1, rv a, rv x, rv b63, iv (0 : Int32), iv (1 : Int32), .unset, .unset, .unset] [(.int (Int32.ofNat (n - 1)))])
      refine Go.st (T' := T63) (g' := (mkF m 175 #[jv p0, .second, iv p1, iv (Int32.ofNat n), rv b1, rv a, rv x, rv b63, iv (0 : Int32), iv (1 : Int32), iv (Int32.ofNat (n - 1)), iv (1 : Int32), .unset] [])) ?_ (fun _ kk_ => XS.istore X63.here hx rfl (hb hby at_170) rfl (l' := #[jv p0, .second, iv p1, iv (Int32.ofNat n), rv b1, rv a, rv x, rv b63, iv (0 : Int32), iv (1 : Int32), iv (Int32.ofNat (n - 1)), .unset, .unset]) rfl (XS.iconst X63.here hx rfl (hb hby at_172) (XS.istore X63.here hx rfl (hb hby at_173) rfl (l' := #[jv p0, .second, iv p1, iv (Int32.ofNat n), rv b1, rv a, rv x, rv b63, iv (0 : Int32), iv (1 : Int32), iv (Int32.ofNat (n - 1)), iv (1 : Int32), .unset]) rfl kk_)))
      show Go p e below _ T63 (mkF m 175 #[jv p0, .second, iv p1, iv (Int32.ofNat n), rv b1, rv a, rv x, rv b63, iv (0 : Int32), iv (1 : Int32), iv (Int32.ofNat (n - 1)), iv (Int32.ofNat (pS ch (n - 1) 0)), .unset] [])
      have hl0 : ∀ i, i < 0 → pS ch (n - 1) i < n - 1 := fun i q => absurd q (Nat.not_lt_zero i)
      refine Go.st (T' := T63) (g' := (mkF m 179 #[jv p0, .second, iv p1, iv (Int32.ofNat n), rv b1, rv a, rv x, rv b63, iv (0 : Int32), iv (1 : Int32), iv (Int32.ofNat (n - 1)), iv (Int32.ofNat (pS ch (n - 1) 0)), .unset] [(.int (Int32.ofNat (n - 1))), (.int (Int32.ofNat (pS ch (n - 1) 0)))])) ?_ (fun _ kk_ => XS.iload X63.here hx rfl (hb hby at_175) rfl  (XS.iload X63.here hx rfl (hb hby at_177) rfl  kk_))
      by_cases hx0 : (Int32.ofNat (pS ch (n - 1) 0)) < (Int32.ofNat (n - 1))
      ·
        refine Go.st (T' := T63) (g' := (mkF m 182 #[jv p0, .second, iv p1, iv (Int32.ofNat n), rv b1, rv a, rv x, rv b63, iv (0 : Int32), iv (1 : Int32), iv (Int32.ofNat (n - 1)), iv (Int32.ofNat (pS ch (n - 1) 0)), .unset] [])) ?_ (fun _ kk_ => XS.icmpNo X63.here hx rfl (hb hby at_179) rfl (tlt (hx0 : (Int32.ofNat (pS ch (n - 1) 0)) < (Int32.ofNat (n - 1)))).2.1 kk_)
        have he0 : pS ch (n - 1) 0 < n - 1 := (own_lt (by have := pS_le ch (n - 1) 0 (by omega) hl0; omega) (by omega)).mp hx0
        have hl1 : ∀ i, i < 1 → pS ch (n - 1) i < n - 1 := fun i q => if z : i = 0 then (by rw [z]; exact he0) else hl0 i (by omega)
        refine Go.st (T' := T63) (g' := (mkF m 188 #[jv p0, .second, iv p1, iv (Int32.ofNat n), rv b1, rv a, rv x, rv b63, iv (0 : Int32), iv (1 : Int32), iv (Int32.ofNat (n - 1)), iv (Int32.ofNat (pS ch (n - 1) 0)), .unset] [(.int (Int32.ofNat (n - 1))), (.int (Int32.ofNat (pS ch (n - 1) 0))), (.ref b1)])) ?_ (fun _ kk_ => XS.aload X63.here hx rfl (hb hby at_182) rfl rfl  (XS.iload X63.here hx rfl (hb hby at_184) rfl  (XS.iload X63.here hx rfl (hb hby at_186) rfl  kk_)))
        refine Go.callS (y := (⟨"com/example/tidewire/tidewire/extender/ManifestHeaderUnquotePinLaw", "tok", "([CII)I"⟩ : MethodName)) X63 hx hZ53 ho53 (hw _ (List.mem_of_getElem? (i := 167) rfl)) (hw _ (List.mem_of_getElem? (i := 168) rfl)) (hw _ (List.mem_of_getElem? (i := 4) rfl)) (hw _ (List.mem_of_getElem? (i := 169) rfl)) (by decide) 0 (rm_tok l Z a0 hw [] b1 ch (pS ch (n - 1) 0) (n - 1) h63 (by omega) (by omega) hc f71) e63 (by decide) (by decide) (by decide) (by decide) (argsL := [(.ref b1), (.int (Int32.ofNat (pS ch (n - 1) 0))), (.int (Int32.ofNat (n - 1)))]) (rest := []) rfl (by rw [hml]; rfl) (lenOf pd__28_5bCII_29I rfl) rfl rfl (by show 2 * 0 + _ ≤ _; exact Nat.le_of_eq rfl) (hb hby at_188) ?_
        rintro _ T72 L72 X72 ⟨rfl, e72, rfl⟩
        have N73 := Fr.app N59 (Fr.nil _)
        show Go p e below _ T72 (mkF m 191 #[jv p0, .second, iv p1, iv (Int32.ofNat n), rv b1, rv a, rv x, rv b63, iv (0 : Int32), iv (1 : Int32), iv (Int32.ofNat (n - 1)), iv (Int32.ofNat (pS ch (n - 1) 0)), .unset] [(.int (Int32.ofNat (tk ch (pS ch (n - 1) 0) (n - 1))))])
        have ht0 := tk_le ch (pS ch (n - 1) 0) (n - 1)
        refine Go.st (T' := T72) (g' := (mkF m 206 #[jv p0, .second, iv p1, iv (Int32.ofNat n), rv b1, rv a, rv x, rv b63, iv (0 : Int32), iv (1 : Int32), iv (Int32.ofNat (n - 1)), iv (Int32.ofNat (pS ch (n - 1) 0)), iv (Int32.ofNat (tk ch (pS ch (n - 1) 0) (n - 1)))] [(.int (((Int32.ofNat (pS ch (n - 1) 0)) + (Int32.ofNat (tk ch (pS ch (n - 1) 0) (n - 1)))) - (1 : Int32))), (.ref b1), (.int (0 : Int32)), (.ref b63)])) ?_ (fun _ kk_ => XS.istore X72.here hx rfl (hb hby at_191) rfl (l' := #[jv p0, .second, iv p1, iv (Int32.ofNat n), rv b1, rv a, rv x, rv b63, iv (0 : Int32), iv (1 : Int32), iv (Int32.ofNat (n - 1)), iv (Int32.ofNat (pS ch (n - 1) 0)), iv (Int32.ofNat (tk ch (pS ch (n - 1) 0) (n - 1)))]) rfl (XS.aload X72.here hx rfl (hb hby at_193) rfl rfl  (XS.iload X72.here hx rfl (hb hby at_195) rfl  (XS.aload X72.here hx rfl (hb hby at_197) rfl rfl  (XS.iload X72.here hx rfl (hb hby at_199) rfl  (XS.iload X72.here hx rfl (hb hby at_201) rfl  (XS.iadd X72.here hx rfl (hb hby at_203) rfl (XS.iconst X72.here hx rfl (hb hby at_204) (XS.isub X72.here hx rfl (hb hby at_205) rfl kk_)))))))))
        have ei0 : (Int32.ofNat (pS ch (n - 1) 0) + Int32.ofNat (tk ch (pS ch (n - 1) 0) (n - 1))) - (1 : Int32) = Int32.ofNat (pS ch (n - 1) 0 + tk ch (pS ch (n - 1) 0) (n - 1) - 1) := by rw [own_add]; exact own_sub (n := 1) (by omega)
        rw [ei0]
        show Go p e below _ T72 (mkF m 206 #[jv p0, .second, iv p1, iv (Int32.ofNat n), rv b1, rv a, rv x, rv b63, iv (0 : Int32), iv (1 : Int32), iv (Int32.ofNat (n - 1)), iv (Int32.ofNat (pS ch (n - 1) 0)), iv (Int32.ofNat (tk ch (pS ch (n - 1) 0) (n - 1)))] [(.int (Int32.ofNat (pS ch (n - 1) 0 + tk ch (pS ch (n - 1) 0) (n - 1) - 1))), (.ref b1), (.int (0 : Int32)), (.ref b63)])
        refine Go.st (T' := T72) (g' := (mkF m 207 #[jv p0, .second, iv p1, iv (Int32.ofNat n), rv b1, rv a, rv x, rv b63, iv (0 : Int32), iv (1 : Int32), iv (Int32.ofNat (n - 1)), iv (Int32.ofNat (pS ch (n - 1) 0)), iv (Int32.ofNat (tk ch (pS ch (n - 1) 0) (n - 1)))] [(.int (Int32.ofNat (oT ch (n - 1) 0))), (.int (0 : Int32)), (.ref b63)])) ?_ (fun _ kk_ => own_caload X72 hx hZ53 e72 f71 (i := (pS ch (n - 1) 0 + tk ch (pS ch (n - 1) 0) (n - 1) - 1)) (v := (.int (Int32.ofNat (oT ch (n - 1) 0)))) (IL_at (by omega)) rfl rfl rfl (hb hby at_206) kk_)
        refine Go.castore X72 hx hZ53 e72 V63 (y := (Int32.ofNat (oT ch (n - 1) 0))) (ch_sto _ (hc _)) (i := 0) (by rw [IL_len]; decide) rfl rfl rfl (hb hby at_207) ?_
        intro T74 h74 X74 e74 W74 V74
        have N75 := Fr.snoc X74 N73 g_b63
        have HS76 := HS.wr HS67 W74 (sf70).1
        have O77 := O68.wr W74 g_b63
        have Z78 : n0 ≤ h74.size := by rw [W74.size]; exact Z69
        show Go p e below _ T74 (mkF m 208 #[jv p0, .second, iv p1, iv (Int32.ofNat n), rv b1, rv a, rv x, rv b63, iv (0 : Int32), iv (1 : Int32), iv (Int32.ofNat (n - 1)), iv (Int32.ofNat (pS ch (n - 1) 0)), iv (Int32.ofNat (tk ch (pS ch (n - 1) 0) (n - 1)))] [])
        rw [IL_set (by decide), IL_congr (n := 6) (f := fun q => if q = 0 then Int32.ofNat (oT ch (n - 1) 0) else if q < 0 then Int32.ofNat (oT ch (n - 1) q) else 0) (f' := fun q => if q < 1 then Int32.ofNat (oT ch (n - 1) q) else 0) (fun q _ => own_fill2 (fun q => Int32.ofNat (oT ch (n - 1) q)) 0 q)] at V74
        refine Go.st (T' := T74) (g' := (mkF m 216 #[jv p0, .second, iv p1, iv (Int32.ofNat n), rv b1, rv a, rv x, rv b63, iv (1 : Int32), iv (1 : Int32), iv (Int32.ofNat (n - 1)), iv (Int32.ofNat (pS ch (n - 1) 0)), iv (Int32.ofNat (tk ch (pS ch (n - 1) 0) (n - 1)))] [(.int ((Int32.ofNat (pS ch (n - 1) 0)) + (Int32.ofNat (tk ch (pS ch (n - 1) 0) (n - 1)))))])) ?_ (fun _ kk_ => XS.iinc X74.here hx rfl (hb hby at_208) rfl (l' := #[jv p0, .second, iv p1, iv (Int32.ofNat n), rv b1, rv a, rv x, rv b63, iv (1 : Int32), iv (1 : Int32), iv (Int32.ofNat (n - 1)), iv (Int32.ofNat (pS ch (n - 1) 0)), iv (Int32.ofNat (tk ch (pS ch (n - 1) 0) (n - 1)))]) rfl (XS.iload X74.here hx rfl (hb hby at_211) rfl  (XS.iload X74.here hx rfl (hb hby at_213) rfl  (XS.iadd X74.here hx rfl (hb hby at_215) rfl kk_))))
        rw [show ((Int32.ofNat (pS ch (n - 1) 0)) + (Int32.ofNat (tk ch (pS ch (n - 1) 0) (n - 1)))) = Int32.ofNat (pS ch (n - 1) 1) from own_add _ _]
        show Go p e below _ T74 (mkF m 216 #[jv p0, .second, iv p1, iv (Int32.ofNat n), rv b1, rv a, rv x, rv b63, iv (1 : Int32), iv (1 : Int32), iv (Int32.ofNat (n - 1)), iv (Int32.ofNat (pS ch (n - 1) 0)), iv (Int32.ofNat (tk ch (pS ch (n - 1) 0) (n - 1)))] [(.int (Int32.ofNat (pS ch (n - 1) 1)))])
        refine Go.st (T' := T74) (g' := (mkF m 222 #[jv p0, .second, iv p1, iv (Int32.ofNat n), rv b1, rv a, rv x, rv b63, iv (1 : Int32), iv (1 : Int32), iv (Int32.ofNat (n - 1)), iv (Int32.ofNat (pS ch (n - 1) 1)), iv (Int32.ofNat (tk ch (pS ch (n - 1) 0) (n - 1)))] [(.int (Int32.ofNat (n - 1))), (.int (Int32.ofNat (pS ch (n - 1) 1)))])) ?_ (fun _ kk_ => XS.istore X74.here hx rfl (hb hby at_216) rfl (l' := #[jv p0, .second, iv p1, iv (Int32.ofNat n), rv b1, rv a, rv x, rv b63, iv (1 : Int32), iv (1 : Int32), iv (Int32.ofNat (n - 1)), iv (Int32.ofNat (pS ch (n - 1) 1)), iv (Int32.ofNat (tk ch (pS ch (n - 1) 0) (n - 1)))]) rfl (XS.iload X74.here hx rfl (hb hby at_218) rfl  (XS.iload X74.here hx rfl (hb hby at_220) rfl  kk_)))
        by_cases hx1 : (Int32.ofNat (pS ch (n - 1) 1)) < (Int32.ofNat (n - 1))
        ·
          refine Go.st (T' := T74) (g' := (mkF m 225 #[jv p0, .second, iv p1, iv (Int32.ofNat n), rv b1, rv a, rv x, rv b63, iv (1 : Int32), iv (1 : Int32), iv (Int32.ofNat (n - 1)), iv (Int32.ofNat (pS ch (n - 1) 1)), iv (Int32.ofNat (tk ch (pS ch (n - 1) 0) (n - 1)))] [])) ?_ (fun _ kk_ => XS.icmpNo X74.here hx rfl (hb hby at_222) rfl (tlt (hx1 : (Int32.ofNat (pS ch (n - 1) 1)) < (Int32.ofNat (n - 1)))).2.1 kk_)
          have he1 : pS ch (n - 1) 1 < n - 1 := (own_lt (by have := pS_le ch (n - 1) 1 (by omega) hl1; omega) (by omega)).mp hx1
          have hl2 : ∀ i, i < 2 → pS ch (n - 1) i < n - 1 := fun i q => if z : i = 1 then (by rw [z]; exact he1) else hl1 i (by omega)
          refine Go.st (T' := T74) (g' := (mkF m 231 #[jv p0, .second, iv p1, iv (Int32.ofNat n), rv b1, rv a, rv x, rv b63, iv (1 : Int32), iv (1 : Int32), iv (Int32.ofNat (n - 1)), iv (Int32.ofNat (pS ch (n - 1) 1)), iv (Int32.ofNat (tk ch (pS ch (n - 1) 0) (n - 1)))] [(.int (Int32.ofNat (n - 1))), (.int (Int32.ofNat (pS ch (n - 1) 1))), (.ref b1)])) ?_ (fun _ kk_ => XS.aload X74.here hx rfl (hb hby at_225) rfl rfl  (XS.iload X74.here hx rfl (hb hby at_227) rfl  (XS.iload X74.here hx rfl (hb hby at_229) rfl  kk_)))
          have f79 := (f71.other W74 ne_b1_b63)
          refine Go.callS (y := (⟨"com/example/tidewire/tidewire/extender/ManifestHeaderUnquotePinLaw", "tok", "([CII)I"⟩ : MethodName)) X74 hx hZ53 ho53 (hw _ (List.mem_of_getElem? (i := 167) rfl)) (hw _ (List.mem_of_getElem? (i := 168) rfl)) (hw _ (List.mem_of_getElem? (i := 4) rfl)) (hw _ (List.mem_of_getElem? (i := 169) rfl)) (by decide) 0 (rm_tok l Z a0 hw [] b1 ch (pS ch (n - 1) 1) (n - 1) h74 (by omega) (by omega) hc f79) e74 (by decide) (by decide) (by decide) (by decide) (argsL := [(.ref b1), (.int (Int32.ofNat (pS ch (n - 1) 1))), (.int (Int32.ofNat (n - 1)))]) (rest := []) rfl (by rw [hml]; rfl) (lenOf pd__28_5bCII_29I rfl) rfl rfl (by show 2 * 0 + _ ≤ _; exact Nat.le_of_eq rfl) (hb hby at_231) ?_
          rintro _ T80 L80 X80 ⟨rfl, e80, rfl⟩
          have N81 := Fr.app N75 (Fr.nil _)
          show Go p e below _ T80 (mkF m 234 #[jv p0, .second, iv p1, iv (Int32.ofNat n), rv b1, rv a, rv x, rv b63, iv (1 : Int32), iv (1 : Int32), iv (Int32.ofNat (n - 1)), iv (Int32.ofNat (pS ch (n - 1) 1)), iv (Int32.ofNat (tk ch (pS ch (n - 1) 0) (n - 1)))] [(.int (Int32.ofNat (tk ch (pS ch (n - 1) 1) (n - 1))))])
          have ht1 := tk_le ch (pS ch (n - 1) 1) (n - 1)
          refine Go.st (T' := T80) (g' := (mkF m 249 #[jv p0, .second, iv p1, iv (Int32.ofNat n), rv b1, rv a, rv x, rv b63, iv (1 : Int32), iv (1 : Int32), iv (Int32.ofNat (n - 1)), iv (Int32.ofNat (pS ch (n - 1) 1)), iv (Int32.ofNat (tk ch (pS ch (n - 1) 1) (n - 1)))] [(.int (((Int32.ofNat (pS ch (n - 1) 1)) + (Int32.ofNat (tk ch (pS ch (n - 1) 1) (n - 1)))) - (1 : Int32))), (.ref b1), (.int (1 : Int32)), (.ref b63)])) ?_ (fun _ kk_ => XS.istore X80.here hx rfl (hb hby at_234) rfl (l' := #[jv p0, .second, iv p1, iv (Int32.ofNat n), rv b1, rv a, rv x, rv b63, iv (1 : Int32), iv (1 : Int32), iv (Int32.ofNat (n - 1)), iv (Int32.ofNat (pS ch (n - 1) 1)), iv (Int32.ofNat (tk ch (pS ch (n - 1) 1) (n - 1)))]) rfl (XS.aload X80.here hx rfl (hb hby at_236) rfl rfl  (XS.iload X80.here hx rfl (hb hby at_238) rfl  (XS.aload X80.here hx rfl (hb hby at_240) rfl rfl  (XS.iload X80.here hx rfl (hb hby at_242) rfl  (XS.iload X80.here hx rfl (hb hby at_244) rfl  (XS.iadd X80.here hx rfl (hb hby at_246) rfl (XS.iconst X80.here hx rfl (hb hby at_247) (XS.isub X80.here hx rfl (hb hby at_248) rfl kk_)))))))))
          have ei1 : (Int32.ofNat (pS ch (n - 1) 1) + Int32.ofNat (tk ch (pS ch (n - 1) 1) (n - 1))) - (1 : Int32) = Int32.ofNat (pS ch (n - 1) 1 + tk ch (pS ch (n - 1) 1) (n - 1) - 1) := by rw [own_add]; exact own_sub (n := 1) (by omega)
          rw [ei1]
          show Go p e below _ T80 (mkF m 249 #[jv p0, .second, iv p1, iv (Int32.ofNat n), rv b1, rv a, rv x, rv b63, iv (1 : Int32), iv (1 : Int32), iv (Int32.ofNat (n - 1)), iv (Int32.ofNat (pS ch (n - 1) 1)), iv (Int32.ofNat (tk ch (pS ch (n - 1) 1) (n - 1)))] [(.int (Int32.ofNat (pS ch (n - 1) 1 + tk ch (pS ch (n - 1) 1) (n - 1) - 1))), (.ref b1), (.int (1 : Int32)), (.ref b63)])
          refine Go.st (T' := T80) (g' := (mkF m 250 #[jv p0, .second, iv p1, iv (Int32.ofNat n), rv b1, rv a, rv x, rv b63, iv (1 : Int32), iv (1 : Int32), iv (Int32.ofNat (n - 1)), iv (Int32.ofNat (pS ch (n - 1) 1)), iv (Int32.ofNat (tk ch (pS ch (n - 1) 1) (n - 1)))] [(.int (Int32.ofNat (oT ch (n - 1) 1))), (.int (1 : Int32)), (.ref b63)])) ?_ (fun _ kk_ => own_caload X80 hx hZ53 e80 f79 (i := (pS ch (n - 1) 1 + tk ch (pS ch (n - 1) 1) (n - 1) - 1)) (v := (.int (Int32.ofNat (oT ch (n - 1) 1)))) (IL_at (by omega)) rfl rfl rfl (hb hby at_249) kk_)
          refine Go.castore X80 hx hZ53 e80 V74 (y := (Int32.ofNat (oT ch (n - 1) 1))) (ch_sto _ (hc _)) (i := 1) (by rw [IL_len]; decide) rfl rfl rfl (hb hby at_250) ?_
          intro T82 h82 X82 e82 W82 V82
          have N83 := Fr.snoc X82 N81 g_b63
          have f85 := (Sf.wr HS67 W74 (sf70).1 sf70)
          have HS84 := HS.wr HS76 W82 (f85).1
          have O86 := O77.wr W82 g_b63
          have Z87 : n0 ≤ h82.size := by rw [W82.size]; exact Z78
          show Go p e below _ T82 (mkF m 251 #[jv p0, .second, iv p1, iv (Int32.ofNat n), rv b1, rv a, rv x, rv b63, iv (1 : Int32), iv (1 : Int32), iv (Int32.ofNat (n - 1)), iv (Int32.ofNat (pS ch (n - 1) 1)), iv (Int32.ofNat (tk ch (pS ch (n - 1) 1) (n - 1)))] [])
          rw [IL_set (by decide), IL_congr (n := 6) (f := fun q => if q = 1 then Int32.ofNat (oT ch (n - 1) 1) else if q < 1 then Int32.ofNat (oT ch (n - 1) q) else 0) (f' := fun q => if q < 2 then Int32.ofNat (oT ch (n - 1) q) else 0) (fun q _ => own_fill2 (fun q => Int32.ofNat (oT ch (n - 1) q)) 1 q)] at V82
          refine Go.st (T' := T82) (g' := (mkF m 259 #[jv p0, .second, iv p1, iv (Int32.ofNat n), rv b1, rv a, rv x, rv b63, iv (2 : Int32), iv (1 : Int32), iv (Int32.ofNat (n - 1)), iv (Int32.ofNat (pS ch (n - 1) 1)), iv (Int32.ofNat (tk ch (pS ch (n - 1) 1) (n - 1)))] [(.int ((Int32.ofNat (pS ch (n - 1) 1)) + (Int32.ofNat (tk ch (pS ch (n - 1) 1) (n - 1)))))])) ?_ (fun _ kk_ => XS.iinc X82.here hx rfl (hb hby at_251) rfl (l' := #[jv p0, .second, iv p1, iv (Int32.ofNat n), rv b1, rv a, rv x, rv b63, iv (2 : Int32), iv (1 : Int32), iv (Int32.ofNat (n - 1)), iv (Int32.ofNat (pS ch (n - 1) 1)), iv (Int32.ofNat (tk ch (pS ch (n - 1) 1) (n - 1)))]) rfl (XS.iload X82.here hx rfl (hb hby at_254) rfl  (XS.iload X82.here hx rfl (hb hby at_256) rfl  (XS.iadd X82.here hx rfl (hb hby at_258) rfl kk_))))
          rw [show ((Int32.ofNat (pS ch (n - 1) 1)) + (Int32.ofNat (tk ch (pS ch (n - 1) 1) (n - 1)))) = Int32.ofNat (pS ch (n - 1) 2) from own_add _ _]
          show Go p e below _ T82 (mkF m 259 #[jv p0, .second, iv p1, iv (Int32.ofNat n), rv b1, rv a, rv x, rv b63, iv (2 : Int32), iv (1 : Int32), iv (Int32.ofNat (n - 1)), iv (Int32.ofNat (pS ch (n - 1) 1)), iv (Int32.ofNat (tk ch (pS ch (n - 1) 1) (n - 1)))] [(.int (Int32.ofNat (pS ch (n - 1) 2)))])
          refine Go.st (T' := T82) (g' := (mkF m 265 #[jv p0, .second, iv p1, iv (Int32.ofNat n), rv b1, rv a, rv x, rv b63, iv (2 : Int32), iv (1 : Int32), iv (Int32.ofNat (n - 1)), iv (Int32.ofNat (pS ch (n - 1) 2)), iv (Int32.ofNat (tk ch (pS ch (n - 1) 1) (n - 1)))] [(.int (Int32.ofNat (n - 1))), (.int (Int32.ofNat (pS ch (n - 1) 2)))])) ?_ (fun _ kk_ => XS.istore X82.here hx rfl (hb hby at_259) rfl (l' := #[jv p0, .second, iv p1, iv (Int32.ofNat n), rv b1, rv a, rv x, rv b63, iv (2 : Int32), iv (1 : Int32), iv (Int32.ofNat (n - 1)), iv (Int32.ofNat (pS ch (n - 1) 2)), iv (Int32.ofNat (tk ch (pS ch (n - 1) 1) (n - 1)))]) rfl (XS.iload X82.here hx rfl (hb hby at_261) rfl  (XS.iload X82.here hx rfl (hb hby at_263) rfl  kk_)))
          by_cases hx2 : (Int32.ofNat (pS ch (n - 1) 2)) < (Int32.ofNat (n - 1))
          ·
            refine Go.st (T' := T82) (g' := (mkF m 268 #[jv p0, .second, iv p1, iv (Int32.ofNat n), rv b1, rv a, rv x, rv b63, iv (2 : Int32), iv (1 : Int32), iv (Int32.ofNat (n - 1)), iv (Int32.ofNat (pS ch (n - 1) 2)), iv (Int32.ofNat (tk ch (pS ch (n - 1) 1) (n - 1)))] [])) ?_ (fun _ kk_ => XS.icmpNo X82.here hx rfl (hb hby at_265) rfl (tlt (hx2 : (Int32.ofNat (pS ch (n - 1) 2)) < (Int32.ofNat (n - 1)))).2.1 kk_)
            have he2 : pS ch (n - 1) 2 < n - 1 := (own_lt (by have := pS_le ch (n - 1) 2 (by omega) hl2; omega) (by omega)).mp hx2
            have hl3 : ∀ i, i < 3 → pS ch (n - 1) i < n - 1 := fun i q => if z : i = 2 then (by rw [z]; exact he2) else hl2 i (by omega)
            refine Go.st (T' := T82) (g' := (mkF m 274 #[jv p0, .second, iv p1, iv (Int32.ofNat n), rv b1, rv a, rv x, rv b63, iv (2 : Int32), iv (1 : Int32), iv (Int32.ofNat (n - 1)), iv (Int32.ofNat (pS ch (n - 1) 2)), iv (Int32.ofNat (tk ch (pS ch (n - 1) 1) (n - 1)))] [(.int (Int32.ofNat (n - 1))), (.int (Int32.ofNat (pS ch (n - 1) 2))), (.ref b1)])) ?_ (fun _ kk_ => XS.aload X82.here hx rfl (hb hby at_268) rfl rfl  (XS.iload X82.here hx rfl (hb hby at_270) rfl  (XS.iload X82.here hx rfl (hb hby at_272) rfl  kk_)))
            have f88 := (f79.other W82 ne_b1_b63)
            refine Go.callS (y := (⟨"com/example/tidewire/tidewire/extender/ManifestHeaderUnquotePinLaw", "tok", "([CII)I"⟩ : MethodName)) X82 hx hZ53 ho53 (hw _ (List.mem_of_getElem? (i := 167) rfl)) (hw _ (List.mem_of_getElem? (i := 168) rfl)) (hw _ (List.mem_of_getElem? (i := 4) rfl)) (hw _ (List.mem_of_getElem? (i := 169) rfl)) (by decide) 0 (rm_tok l Z a0 hw [] b1 ch (pS ch (n - 1) 2) (n - 1) h82 (by omega) (by omega) hc f88) e82 (by decide) (by decide) (by decide) (by decide) (argsL := [(.ref b1), (.int (Int32.ofNat (pS ch (n - 1) 2))), (.int (Int32.ofNat (n - 1)))]) (rest := []) rfl (by rw [hml]; rfl) (lenOf pd__28_5bCII_29I rfl) rfl rfl (by show 2 * 0 + _ ≤ _; exact Nat.le_of_eq rfl) (hb hby at_274) ?_
            rintro _ T89 L89 X89 ⟨rfl, e89, rfl⟩
            have N90 := Fr.app N83 (Fr.nil _)
            show Go p e below _ T89 (mkF m 277 #[jv p0, .second, iv p1, iv (Int32.ofNat n), rv b1, rv a, rv x, rv b63, iv (2 : Int32), iv (1 : Int32), iv (Int32.ofNat (n - 1)), iv (Int32.ofNat (pS ch (n - 1) 2)), iv (Int32.ofNat (tk ch (pS ch (n - 1) 1) (n - 1)))] [(.int (Int32.ofNat (tk ch (pS ch (n - 1) 2) (n - 1))))])
            have ht2 := tk_le ch (pS ch (n - 1) 2) (n - 1)
            refine Go.st (T' := T89) (g' := (mkF m 292 #[jv p0, .second, iv p1, iv (Int32.ofNat n), rv b1, rv a, rv x, rv b63, iv (2 : Int32), iv (1 : Int32), iv (Int32.ofNat (n - 1)), iv (Int32.ofNat (pS ch (n - 1) 2)), iv (Int32.ofNat (tk ch (pS ch (n - 1) 2) (n - 1)))] [(.int (((Int32.ofNat (pS ch (n - 1) 2)) + (Int32.ofNat (tk ch (pS ch (n - 1) 2) (n - 1)))) - (1 : Int32))), (.ref b1), (.int (2 : Int32)), (.ref b63)])) ?_ (fun _ kk_ => XS.istore X89.here hx rfl (hb hby at_277) rfl (l' := #[jv p0, .second, iv p1, iv (Int32.ofNat n), rv b1, rv a, rv x, rv b63, iv (2 : Int32), iv (1 : Int32), iv (Int32.ofNat (n - 1)), iv (Int32.ofNat (pS ch (n - 1) 2)), iv (Int32.ofNat (tk ch (pS ch (n - 1) 2) (n - 1)))]) rfl (XS.aload X89.here hx rfl (hb hby at_279) rfl rfl  (XS.iload X89.here hx rfl (hb hby at_281) rfl  (XS.aload X89.here hx rfl (hb hby at_283) rfl rfl  (XS.iload X89.here hx rfl (hb hby at_285) rfl  (XS.iload X89.here hx rfl (hb hby at_287) rfl  (XS.iadd X89.here hx rfl (hb hby at_289) rfl (XS.iconst X89.here hx rfl (hb hby at_290) (XS.isub X89.here hx rfl (hb hby at_291) rfl kk_)))))))))
            have ei2 : (Int32.ofNat (pS ch (n - 1) 2) + Int32.ofNat (tk ch (pS ch (n - 1) 2) (n - 1))) - (1 : Int32) = Int32.ofNat (pS ch (n - 1) 2 + tk ch (pS ch (n - 1) 2) (n - 1) - 1) := by rw [own_add]; exact own_sub (n := 1) (by omega)
            rw [ei2]
            show Go p e below _ T89 (mkF m 292 #[jv p0, .second, iv p1, iv (Int32.ofNat n), rv b1, rv a, rv x, rv b63, iv (2 : Int32), iv (1 : Int32), iv (Int32.ofNat (n - 1)), iv (Int32.ofNat (pS ch (n - 1) 2)), iv (Int32.ofNat (tk ch (pS ch (n - 1) 2) (n - 1)))] [(.int (Int32.ofNat (pS ch (n - 1) 2 + tk ch (pS ch (n - 1) 2) (n - 1) - 1))), (.ref b1), (.int (2 : Int32)), (.ref b63)])
            refine Go.st (T' := T89) (g' := (mkF m 293 #[jv p0, .second, iv p1, iv (Int32.ofNat n), rv b1, rv a, rv x, rv b63, iv (2 : Int32), iv (1 : Int32), iv (Int32.ofNat (n - 1)), iv (Int32.ofNat (pS ch (n - 1) 2)), iv (Int32.ofNat (tk ch (pS ch (n - 1) 2) (n - 1)))] [(.int (Int32.ofNat (oT ch (n - 1) 2))), (.int (2 : Int32)), (.ref b63)])) ?_ (fun _ kk_ => own_caload X89 hx hZ53 e89 f88 (i := (pS ch (n - 1) 2 + tk ch (pS ch (n - 1) 2) (n - 1) - 1)) (v := (.int (Int32.ofNat (oT ch (n - 1) 2)))) (IL_at (by omega)) rfl rfl rfl (hb hby at_292) kk_)
            refine Go.castore X89 hx hZ53 e89 V82 (y := (Int32.ofNat (oT ch (n - 1) 2))) (ch_sto _ (hc _)) (i := 2) (by rw [IL_len]; decide) rfl rfl rfl (hb hby at_293) ?_
            intro T91 h91 X91 e91 W91 V91
            have N92 := Fr.snoc X91 N90 g_b63
            have f94 := (Sf.wr HS76 W82 (f85).1 f85)
            have HS93 := HS.wr HS84 W91 (f94).1
            have O95 := O86.wr W91 g_b63
            have Z96 : n0 ≤ h91.size := by rw [W91.size]; exact Z87
            show Go p e below _ T91 (mkF m 294 #[jv p0, .second, iv p1, iv (Int32.ofNat n), rv b1, rv a, rv x, rv b63, iv (2 : Int32), iv (1 : Int32), iv (Int32.ofNat (n - 1)), iv (Int32.ofNat (pS ch (n - 1) 2)), iv (Int32.ofNat (tk ch (pS ch (n - 1) 2) (n - 1)))] [])
            rw [IL_set (by decide), IL_congr (n := 6) (f := fun q => if q = 2 then Int32.ofNat (oT ch (n - 1) 2) else if q < 2 then Int32.ofNat (oT ch (n - 1) q) else 0) (f' := fun q => if q < 3 then Int32.ofNat (oT ch (n - 1) q) else 0) (fun q _ => own_fill2 (fun q => Int32.ofNat (oT ch (n - 1) q)) 2 q)] at V91
            refine Go.st (T' := T91) (g' := (mkF m 302 #[jv p0, .second, iv p1, iv (Int32.ofNat n), rv b1, rv a, rv x, rv b63, iv (3 : Int32), iv (1 : Int32), iv (Int32.ofNat (n - 1)), iv (Int32.ofNat (pS ch (n - 1) 2)), iv (Int32.ofNat (tk ch (pS ch (n - 1) 2) (n - 1)))] [(.int ((Int32.ofNat (pS ch (n - 1) 2)) + (Int32.ofNat (tk ch (pS ch (n - 1) 2) (n - 1)))))])) ?_ (fun _ kk_ => XS.iinc X91.here hx rfl (hb hby at_294) rfl (l' := #[jv p0, .second, iv p1, iv (Int32.ofNat n), rv b1, rv a, rv x, rv b63, iv (3 : Int32), iv (1 : Int32), iv (Int32.ofNat (n - 1)), iv (Int32.ofNat (pS ch (n - 1) 2)), iv (Int32.ofNat (tk ch (pS ch (n - 1) 2) (n - 1)))]) rfl (XS.iload X91.here hx rfl (hb hby at_297) rfl  (XS.iload X91.here hx rfl (hb hby at_299) rfl  (XS.iadd X91.here hx rfl (hb hby at_301) rfl kk_))))
            rw [show ((Int32.ofNat (pS ch (n - 1) 2)) + (Int32.ofNat (tk ch (pS ch (n - 1) 2) (n - 1)))) = Int32.ofNat (pS ch (n - 1) 3) from own_add _ _]
            show Go p e below _ T91 (mkF m 302 #[jv p0, .second, iv p1, iv (Int32.ofNat n), rv b1, rv a, rv x, rv b63, iv (3 : Int32), iv (1 : Int32), iv (Int32.ofNat (n - 1)), iv (Int32.ofNat (pS ch (n - 1) 2)), iv (Int32.ofNat (tk ch (pS ch (n - 1) 2) (n - 1)))] [(.int (Int32.ofNat (pS ch (n - 1) 3)))])
            refine Go.st (T' := T91) (g' := (mkF m 308 #[jv p0, .second, iv p1, iv (Int32.ofNat n), rv b1, rv a, rv x, rv b63, iv (3 : Int32), iv (1 : Int32), iv (Int32.ofNat (n - 1)), iv (Int32.ofNat (pS ch (n - 1) 3)), iv (Int32.ofNat (tk ch (pS ch (n - 1) 2) (n - 1)))] [(.int (Int32.ofNat (n - 1))), (.int (Int32.ofNat (pS ch (n - 1) 3)))])) ?_ (fun _ kk_ => XS.istore X91.here hx rfl (hb hby at_302) rfl (l' := #[jv p0, .second, iv p1, iv (Int32.ofNat n), rv b1, rv a, rv x, rv b63, iv (3 : Int32), iv (1 : Int32), iv (Int32.ofNat (n - 1)), iv (Int32.ofNat (pS ch (n - 1) 3)), iv (Int32.ofNat (tk ch (pS ch (n - 1) 2) (n - 1)))]) rfl (XS.iload X91.here hx rfl (hb hby at_304) rfl  (XS.iload X91.here hx rfl (hb hby at_306) rfl  kk_)))
            by_cases hx3 : (Int32.ofNat (pS ch (n - 1) 3)) < (Int32.ofNat (n - 1))
            ·
              refine Go.st (T' := T91) (g' := (mkF m 311 #[jv p0, .second, iv p1, iv (Int32.ofNat n), rv b1, rv a, rv x, rv b63, iv (3 : Int32), iv (1 : Int32), iv (Int32.ofNat (n - 1)), iv (Int32.ofNat (pS ch (n - 1) 3)), iv (Int32.ofNat (tk ch (pS ch (n - 1) 2) (n - 1)))] [])) ?_ (fun _ kk_ => XS.icmpNo X91.here hx rfl (hb hby at_308) rfl (tlt (hx3 : (Int32.ofNat (pS ch (n - 1) 3)) < (Int32.ofNat (n - 1)))).2.1 kk_)
              have he3 : pS ch (n - 1) 3 < n - 1 := (own_lt (by have := pS_le ch (n - 1) 3 (by omega) hl3; omega) (by omega)).mp hx3
              have hl4 : ∀ i, i < 4 → pS ch (n - 1) i < n - 1 := fun i q => if z : i = 3 then (by rw [z]; exact he3) else hl3 i (by omega)
              refine Go.st (T' := T91) (g' := (mkF m 317 #[jv p0, .second, iv p1, iv (Int32.ofNat n), rv b1, rv a, rv x, rv b63, iv (3 : Int32), iv (1 : Int32), iv (Int32.ofNat (n - 1)), iv (Int32.ofNat (pS ch (n - 1) 3)), iv (Int32.ofNat (tk ch (pS ch (n - 1) 2) (n - 1)))] [(.int (Int32.ofNat (n - 1))), (.int (Int32.ofNat (pS ch (n - 1) 3))), (.ref b1)])) ?_ (fun _ kk_ => XS.aload X91.here hx rfl (hb hby at_311) rfl rfl  (XS.iload X91.here hx rfl (hb hby at_313) rfl  (XS.iload X91.here hx rfl (hb hby at_315) rfl  kk_)))
              have f97 := (f88.other W91 ne_b1_b63)
              refine Go.callS (y := (⟨"com/example/tidewire/tidewire/extender/ManifestHeaderUnquotePinLaw", "tok", "([CII)I"⟩ : MethodName)) X91 hx hZ53 ho53 (hw _ (List.mem_of_getElem? (i := 167) rfl)) (hw _ (List.mem_of_getElem? (i := 168) rfl)) (hw _ (List.mem_of_getElem? (i := 4) rfl)) (hw _ (List.mem_of_getElem? (i := 169) rfl)) (by decide) 0 (rm_tok l Z a0 hw [] b1 ch (pS ch (n - 1) 3) (n - 1) h91 (by omega) (by omega) hc f97) e91 (by decide) (by decide) (by decide) (by decide) (argsL := [(.ref b1), (.int (Int32.ofNat (pS ch (n - 1) 3))), (.int (Int32.ofNat (n - 1)))]) (rest := []) rfl (by rw [hml]; rfl) (lenOf pd__28_5bCII_29I rfl) rfl rfl (by show 2 * 0 + _ ≤ _; exact Nat.le_of_eq rfl) (hb hby at_317) ?_
              rintro _ T98 L98 X98 ⟨rfl, e98, rfl⟩
              have N99 := Fr.app N92 (Fr.nil _)
              show Go p e below _ T98 (mkF m 320 #[jv p0, .second, iv p1, iv (Int32.ofNat n), rv b1, rv a, rv x, rv b63, iv (3 : Int32), iv (1 : Int32), iv (Int32.ofNat (n - 1)), iv (Int32.ofNat (pS ch (n - 1) 3)), iv (Int32.ofNat (tk ch (pS ch (n - 1) 2) (n - 1)))] [(.int (Int32.ofNat (tk ch (pS ch (n - 1) 3) (n - 1))))])
              have ht3 := tk_le ch (pS ch (n - 1) 3) (n - 1)
              refine Go.st (T' := T98) (g' := (mkF m 335 #[jv p0, .second, iv p1, iv (Int32.ofNat n), rv b1, rv a, rv x, rv b63, iv (3 : Int32), iv (1 : Int32), iv (Int32.ofNat (n - 1)), iv (Int32.ofNat (pS ch (n - 1) 3)), iv (Int32.ofNat (tk ch (pS ch (n - 1) 3) (n - 1)))] [(.int (((Int32.ofNat (pS ch (n - 1) 3)) + (Int32.ofNat (tk ch (pS ch (n - 1) 3) (n - 1)))) - (1 : Int32))), (.ref b1), (.int (3 : Int32)), (.ref b63)])) ?_ (fun _ kk_ => XS.istore X98.here hx rfl (hb hby at_320) rfl (l' := #[jv p0, .second, iv p1, iv (Int32.ofNat n), rv b1, rv a, rv x, rv b63, iv (3 : Int32), iv (1 : Int32), iv (Int32.ofNat (n - 1)), iv (Int32.ofNat (pS ch (n - 1) 3)), iv (Int32.ofNat (tk ch (pS ch (n - 1) 3) (n - 1)))]) rfl (XS.aload X98.here hx rfl (hb hby at_322) rfl rfl  (XS.iload X98.here hx rfl (hb hby at_324) rfl  (XS.aload X98.here hx rfl (hb hby at_326) rfl rfl  (XS.iload X98.here hx rfl (hb hby at_328) rfl  (XS.iload X98.here hx rfl (hb hby at_330) rfl  (XS.iadd X98.here hx rfl (hb hby at_332) rfl (XS.iconst X98.here hx rfl (hb hby at_333) (XS.isub X98.here hx rfl (hb hby at_334) rfl kk_)))))))))
              have ei3 : (Int32.ofNat (pS ch (n - 1) 3) + Int32.ofNat (tk ch (pS ch (n - 1) 3) (n - 1))) - (1 : Int32) = Int32.ofNat (pS ch (n - 1) 3 + tk ch (pS ch (n - 1) 3) (n - 1) - 1) := by rw [own_add]; exact own_sub (n := 1) (by omega)
              rw [ei3]
              show Go p e below _ T98 (mkF m 335 #[jv p0, .second, iv p1, iv (Int32.ofNat n), rv b1, rv a, rv x, rv b63, iv (3 : Int32), iv (1 : Int32), iv (Int32.ofNat (n - 1)), iv (Int32.ofNat (pS ch (n - 1) 3)), iv (Int32.ofNat (tk ch (pS ch (n - 1) 3) (n - 1)))] [(.int (Int32.ofNat (pS ch (n - 1) 3 + tk ch (pS ch (n - 1) 3) (n - 1) - 1))), (.ref b1), (.int (3 : Int32)), (.ref b63)])
              refine Go.st (T' := T98) (g' := (mkF m 336 #[jv p0, .second, iv p1, iv (Int32.ofNat n), rv b1, rv a, rv x, rv b63, iv (3 : Int32), iv (1 : Int32), iv (Int32.ofNat (n - 1)), iv (Int32.ofNat (pS ch (n - 1) 3)), iv (Int32.ofNat (tk ch (pS ch (n - 1) 3) (n - 1)))] [(.int (Int32.ofNat (oT ch (n - 1) 3))), (.int (3 : Int32)), (.ref b63)])) ?_ (fun _ kk_ => own_caload X98 hx hZ53 e98 f97 (i := (pS ch (n - 1) 3 + tk ch (pS ch (n - 1) 3) (n - 1) - 1)) (v := (.int (Int32.ofNat (oT ch (n - 1) 3)))) (IL_at (by omega)) rfl rfl rfl (hb hby at_335) kk_)
              refine Go.castore X98 hx hZ53 e98 V91 (y := (Int32.ofNat (oT ch (n - 1) 3))) (ch_sto _ (hc _)) (i := 3) (by rw [IL_len]; decide) rfl rfl rfl (hb hby at_336) ?_
              intro T100 h100 X100 e100 W100 V100
              have N101 := Fr.snoc X100 N99 g_b63
              have f103 := (Sf.wr HS84 W91 (f94).1 f94)
              have HS102 := HS.wr HS93 W100 (f103).1
              have O104 := O95.wr W100 g_b63
              have Z105 : n0 ≤ h100.size := by rw [W100.size]; exact Z96
              show Go p e below _ T100 (mkF m 337 #[jv p0, .second, iv p1, iv (Int32.ofNat n), rv b1, rv a, rv x, rv b63, iv (3 : Int32), iv (1 : Int32), iv (Int32.ofNat (n - 1)), iv (Int32.ofNat (pS ch (n - 1) 3)), iv (Int32.ofNat (tk ch (pS ch (n - 1) 3) (n - 1)))] [])
              rw [IL_set (by decide), IL_congr (n := 6) (f := fun q => if q = 3 then Int32.ofNat (oT ch (n - 1) 3) else if q < 3 then Int32.ofNat (oT ch (n - 1) q) else 0) (f' := fun q => if q < 4 then Int32.ofNat (oT ch (n - 1) q) else 0) (fun q _ => own_fill2 (fun q => Int32.ofNat (oT ch (n - 1) q)) 3 q)] at V100
              refine Go.st (T' := T100) (g' := (mkF m 345 #[jv p0, .second, iv p1, iv (Int32.ofNat n), rv b1, rv a, rv x, rv b63, iv (4 : Int32), iv (1 : Int32), iv (Int32.ofNat (n - 1)), iv (Int32.ofNat (pS ch (n - 1) 3)), iv (Int32.ofNat (tk ch (pS ch (n - 1) 3) (n - 1)))] [(.int ((Int32.ofNat (pS ch (n - 1) 3)) + (Int32.ofNat (tk ch (pS ch (n - 1) 3) (n - 1)))))])) ?_ (fun _ kk_ => XS.iinc X100.here hx rfl (hb hby at_337) rfl (l' := #[jv p0, .second, iv p1, iv (Int32.ofNat n), rv b1, rv a, rv x, rv b63, iv (4 : Int32), iv (1 : Int32), iv (Int32.ofNat (n - 1)), iv (Int32.ofNat (pS ch (n - 1) 3)), iv (Int32.ofNat (tk ch (pS ch (n - 1) 3) (n - 1)))]) rfl (XS.iload X100.here hx rfl (hb hby at_340) rfl  (XS.iload X100.here hx rfl (hb hby at_342) rfl  (XS.iadd X100.here hx rfl (hb hby at_344) rfl kk_))))
              rw [show ((Int32.ofNat (pS ch (n - 1) 3)) + (Int32.ofNat (tk ch (pS ch (n - 1) 3) (n - 1)))) = Int32.ofNat (pS ch (n - 1) 4) from own_add _ _]
              show Go p e below _ T100 (mkF m 345 #[jv p0, .second, iv p1, iv (Int32.ofNat n), rv b1, rv a, rv x, rv b63, iv (4 : Int32), iv (1 : Int32), iv (Int32.ofNat (n - 1)), iv (Int32.ofNat (pS ch (n - 1) 3)), iv (Int32.ofNat (tk ch (pS ch (n - 1) 3) (n - 1)))] [(.int (Int32.ofNat (pS ch (n - 1) 4)))])
              refine Go.st (T' := T100) (g' := (mkF m 353 #[jv p0, .second, iv p1, iv (Int32.ofNat n), rv b1, rv a, rv x, rv b63, iv (4 : Int32), iv (1 : Int32), iv (Int32.ofNat (n - 1)), iv (Int32.ofNat (pS ch (n - 1) 4)), iv (Int32.ofNat (tk ch (pS ch (n - 1) 3) (n - 1)))] [(.int (4 : Int32)), (.ref b63), (.ref x)])) ?_ (fun _ kk_ => XS.istore X100.here hx rfl (hb hby at_345) rfl (l' := #[jv p0, .second, iv p1, iv (Int32.ofNat n), rv b1, rv a, rv x, rv b63, iv (4 : Int32), iv (1 : Int32), iv (Int32.ofNat (n - 1)), iv (Int32.ofNat (pS ch (n - 1) 4)), iv (Int32.ofNat (tk ch (pS ch (n - 1) 3) (n - 1)))]) rfl (XS.aload X100.here hx rfl (hb hby at_347) rfl rfl  (XS.aload X100.here hx rfl (hb hby at_349) rfl rfl  (XS.iload X100.here hx rfl (hb hby at_351) rfl  kk_))))
              have he4 : ¬ pS ch (n - 1) 4 < n - 1 := by have := pS_ge ch (n - 1) 4; omega
              have eJ : J = 4 := own_J hJ1 hJ2 hl4 he4
              subst eJ
              have f106 := (((((E_x.ext E63).wr W74).wr W82).wr W91).wr W100)
              have f107 := (((((Fc_x.ext E63).other W74 (Or.inl ne_x_b63)).other W82 (Or.inl ne_x_b63)).other W91 (Or.inl ne_x_b63)).other W100 (Or.inl ne_x_b63))
              have f108 := (((((Fv_x.ext E63).other W74 (Or.inl ne_x_b63)).other W82 (Or.inl ne_x_b63)).other W91 (Or.inl ne_x_b63)).other W100 (Or.inl ne_x_b63))
              have f109 := (((((V_tx.ext E63).other W74 ne_tx_b63).other W82 ne_tx_b63).other W91 ne_tx_b63).other W100 ne_tx_b63)
              refine Go.callS (y := (⟨"com/example/tidewire/tidewire/extender/ManifestHeaderUnquotePinLaw", "same", "(Ljava/lang/String;[CI)Z"⟩ : MethodName)) X100 hx hZ53 ho53 (hw _ (List.mem_of_getElem? (i := 75) rfl)) (hw _ (List.mem_of_getElem? (i := 76) rfl)) (hw _ (List.mem_of_getElem? (i := 4) rfl)) (hw _ (List.mem_of_getElem? (i := 77) rfl)) (by decide) 0 (rm_sam l Z a0 hw [] x tx b63 4 (oT ch (n - 1)) _ n0 cS rF h100 (by decide) (fun q => hc _) (fun q z => if_pos z) V100 f106 f107 f108 f109 O104 Sc hcS Sr hr_rF) e100 (by decide) (by decide) (by decide) (by decide) (argsL := [(.ref x), (.ref b63), (.int (4 : Int32))]) (rest := []) rfl (by rw [hml]; rfl) (lenOf pd__28Ljava_2flang_2fString_3b_5bCI_29Z rfl) rfl rfl (by show 2 * 0 + _ ≤ _; exact Nat.le_of_eq rfl) (hb hby at_353) ?_
              rintro _ T110 L110 X110 ⟨rfl, e110, rfl⟩
              have N111 := Fr.app N101 (Fr.nil _)
              show Go p e below _ T110 (mkF m 356 #[jv p0, .second, iv p1, iv (Int32.ofNat n), rv b1, rv a, rv x, rv b63, iv (4 : Int32), iv (1 : Int32), iv (Int32.ofNat (n - 1)), iv (Int32.ofNat (pS ch (n - 1) 4)), iv (Int32.ofNat (tk ch (pS ch (n - 1) 3) (n - 1)))] [(.int (1 : Int32))])
              refine Go.retNH X110 hx hlk (t := .boolean) hret (by simp) (z' := (1 : Int32)) rfl (hb hby at_356) (by decide) (by decide) hZ53 hEL (by rw [e110]; exact HS102) ?_
              try rw [e110]
              exact ⟨rfl, N111⟩
            ·
              refine Go.st (T' := T91) (g' := (mkF m 347 #[jv p0, .second, iv p1, iv (Int32.ofNat n), rv b1, rv a, rv x, rv b63, iv (3 : Int32), iv (1 : Int32), iv (Int32.ofNat (n - 1)), iv (Int32.ofNat (pS ch (n - 1) 3)), iv (Int32.ofNat (tk ch (pS ch (n - 1) 2) (n - 1)))] [])) ?_ (fun _ kk_ => XS.icmpYes X91.here hx rfl (pc0 := 308) (pc' := 347) rfl (hb hby at_308) rfl (flt (hx3 : ¬ ((Int32.ofNat (pS ch (n - 1) 3)) < (Int32.ofNat (n - 1))))).2.1 (by decide) (by decide) kk_)
              have he3 : ¬ pS ch (n - 1) 3 < n - 1 := fun z => hx3 ((own_lt (by have := pS_le ch (n - 1) 3 (by omega) hl3; omega) (by omega)).mpr z)
              have eJ : J = 3 := own_J hJ1 hJ2 hl3 he3
              subst eJ
              refine Go.st (T' := T91) (g' := (mkF m 353 #[jv p0, .second, iv p1, iv (Int32.ofNat n), rv b1, rv a, rv x, rv b63, iv (3 : Int32), iv (1 : Int32), iv (Int32.ofNat (n - 1)), iv (Int32.ofNat (pS ch (n - 1) 3)), iv (Int32.ofNat (tk ch (pS ch (n - 1) 2) (n - 1)))] [(.int (3 : Int32)), (.ref b63), (.ref x)])) ?_ (fun _ kk_ => XS.aload X91.here hx rfl (hb hby at_347) rfl rfl  (XS.aload X91.here hx rfl (hb hby at_349) rfl rfl  (XS.iload X91.here hx rfl (hb hby at_351) rfl  kk_)))
              have f112 := ((((E_x.ext E63).wr W74).wr W82).wr W91)
              have f113 := ((((Fc_x.ext E63).other W74 (Or.inl ne_x_b63)).other W82 (Or.inl ne_x_b63)).other W91 (Or.inl ne_x_b63))
              have f114 := ((((Fv_x.ext E63).other W74 (Or.inl ne_x_b63)).other W82 (Or.inl ne_x_b63)).other W91 (Or.inl ne_x_b63))
              have f115 := ((((V_tx.ext E63).other W74 ne_tx_b63).other W82 ne_tx_b63).other W91 ne_tx_b63)
              refine Go.callS (y := (⟨"com/example/tidewire/tidewire/extender/ManifestHeaderUnquotePinLaw", "same", "(Ljava/lang/String;[CI)Z"⟩ : MethodName)) X91 hx hZ53 ho53 (hw _ (List.mem_of_getElem? (i := 75) rfl)) (hw _ (List.mem_of_getElem? (i := 76) rfl)) (hw _ (List.mem_of_getElem? (i := 4) rfl)) (hw _ (List.mem_of_getElem? (i := 77) rfl)) (by decide) 0 (rm_sam l Z a0 hw [] x tx b63 3 (oT ch (n - 1)) _ n0 cS rF h91 (by decide) (fun q => hc _) (fun q z => if_pos z) V91 f112 f113 f114 f115 O95 Sc hcS Sr hr_rF) e91 (by decide) (by decide) (by decide) (by decide) (argsL := [(.ref x), (.ref b63), (.int (3 : Int32))]) (rest := []) rfl (by rw [hml]; rfl) (lenOf pd__28Ljava_2flang_2fString_3b_5bCI_29Z rfl) rfl rfl (by show 2 * 0 + _ ≤ _; exact Nat.le_of_eq rfl) (hb hby at_353) ?_
              rintro _ T116 L116 X116 ⟨rfl, e116, rfl⟩
              have N117 := Fr.app N92 (Fr.nil _)
              show Go p e below _ T116 (mkF m 356 #[jv p0, .second, iv p1, iv (Int32.ofNat n), rv b1, rv a, rv x, rv b63, iv (3 : Int32), iv (1 : Int32), iv (Int32.ofNat (n - 1)), iv (Int32.ofNat (pS ch (n - 1) 3)), iv (Int32.ofNat (tk ch (pS ch (n - 1) 2) (n - 1)))] [(.int (1 : Int32))])
              refine Go.retNH X116 hx hlk (t := .boolean) hret (by simp) (z' := (1 : Int32)) rfl (hb hby at_356) (by decide) (by decide) hZ53 hEL (by rw [e116]; exact HS93) ?_
              try rw [e116]
              exact ⟨rfl, N117⟩
          ·
            refine Go.st (T' := T82) (g' := (mkF m 304 #[jv p0, .second, iv p1, iv (Int32.ofNat n), rv b1, rv a, rv x, rv b63, iv (2 : Int32), iv (1 : Int32), iv (Int32.ofNat (n - 1)), iv (Int32.ofNat (pS ch (n - 1) 2)), iv (Int32.ofNat (tk ch (pS ch (n - 1) 1) (n - 1)))] [])) ?_ (fun _ kk_ => XS.icmpYes X82.here hx rfl (pc0 := 265) (pc' := 304) rfl (hb hby at_265) rfl (flt (hx2 : ¬ ((Int32.ofNat (pS ch (n - 1) 2)) < (Int32.ofNat (n - 1))))).2.1 (by decide) (by decide) kk_)
            have he2 : ¬ pS ch (n - 1) 2 < n - 1 := fun z => hx2 ((own_lt (by have := pS_le ch (n - 1) 2 (by omega) hl2; omega) (by omega)).mpr z)
            have eJ : J = 2 := own_J hJ1 hJ2 hl2 he2
            subst eJ
            refine Go.st (T' := T82) (g' := (mkF m 353 #[jv p0, .second, iv p1, iv (Int32.ofNat n), rv b1, rv a, rv x, rv b63, iv (2 : Int32), iv (1 : Int32), iv (Int32.ofNat (n - 1)), iv (Int32.ofNat (pS ch (n - 1) 2)), iv (Int32.ofNat (tk ch (pS ch (n - 1) 1) (n - 1)))] [(.int (2 : Int32)), (.ref b63), (.ref x)])) ?_ (fun _ kk_ => XS.iload X82.here hx rfl (hb hby at_304) rfl  (XS.iload X82.here hx rfl (hb hby at_306) rfl  (XS.icmpYes X82.here hx rfl (pc0 := 308) (pc' := 347) rfl (hb hby at_308) rfl (flt (hx2 : ¬ ((Int32.ofNat (pS ch (n - 1) 2)) < (Int32.ofNat (n - 1))))).2.1 (by decide) (by decide) (XS.aload X82.here hx rfl (hb hby at_347) rfl rfl  (XS.aload X82.here hx rfl (hb hby at_349) rfl rfl  (XS.iload X82.here hx rfl (hb hby at_351) rfl  kk_))))))
            have f118 := (((E_x.ext E63).wr W74).wr W82)
            have f119 := (((Fc_x.ext E63).other W74 (Or.inl ne_x_b63)).other W82 (Or.inl ne_x_b63))
            have f120 := (((Fv_x.ext E63).other W74 (Or.inl ne_x_b63)).other W82 (Or.inl ne_x_b63))
            have f121 := (((V_tx.ext E63).other W74 ne_tx_b63).other W82 ne_tx_b63)
            refine Go.callS (y := (⟨"com/example/tidewire/tidewire/extender/ManifestHeaderUnquotePinLaw", "same", "(Ljava/lang/String;[CI)Z"⟩ : MethodName)) X82 hx hZ53 ho53 (hw _ (List.mem_of_getElem? (i := 75) rfl)) (hw _ (List.mem_of_getElem? (i := 76) rfl)) (hw _ (List.mem_of_getElem? (i := 4) rfl)) (hw _ (List.mem_of_getElem? (i := 77) rfl)) (by decide) 0 (rm_sam l Z a0 hw [] x tx b63 2 (oT ch (n - 1)) _ n0 cS rF h82 (by decide) (fun q => hc _) (fun q z => if_pos z) V82 f118 f119 f120 f121 O86 Sc hcS Sr hr_rF) e82 (by decide) (by decide) (by decide) (by decide) (argsL := [(.ref x), (.ref b63), (.int (2 : Int32))]) (rest := []) rfl (by rw [hml]; rfl) (lenOf pd__28Ljava_2flang_2fString_3b_5bCI_29Z rfl) rfl rfl (by show 2 * 0 + _ ≤ _; exact Nat.le_of_eq rfl) (hb hby at_353) ?_
            rintro _ T122 L122 X122 ⟨rfl, e122, rfl⟩
            have N123 := Fr.app N83 (Fr.nil _)
            show Go p e below _ T122 (mkF m 356 #[jv p0, .second, iv p1, iv (Int32.ofNat n), rv b1, rv a, rv x, rv b63, iv (2 : Int32), iv (1 : Int32), iv (Int32.ofNat (n - 1)), iv (Int32.ofNat (pS ch (n - 1) 2)), iv (Int32.ofNat (tk ch (pS ch (n - 1) 1) (n - 1)))] [(.int (1 : Int32))])
            refine Go.retNH X122 hx hlk (t := .boolean) hret (by simp) (z' := (1 : Int32)) rfl (hb hby at_356) (by decide) (by decide) hZ53 hEL (by rw [e122]; exact HS84) ?_
            try rw [e122]
            exact ⟨rfl, N123⟩
        ·
          refine Go.st (T' := T74) (g' := (mkF m 261 #[jv p0, .second, iv p1, iv (Int32.ofNat n), rv b1, rv a, rv x, rv b63, iv (1 : Int32), iv (1 : Int32), iv (Int32.ofNat (n - 1)), iv (Int32.ofNat (pS ch (n - 1) 1)), iv (Int32.ofNat (tk ch (pS ch (n - 1) 0) (n - 1)))] [])) ?_ (fun _ kk_ => XS.icmpYes X74.here hx rfl (pc0 := 222) (pc' := 261) rfl (hb hby at_222) rfl (flt (hx1 : ¬ ((Int32.ofNat (pS ch (n - 1) 1)) < (Int32.ofNat (n - 1))))).2.1 (by decide) (by decide) kk_)
          have he1 : ¬ pS ch (n - 1) 1 < n - 1 := fun z => hx1 ((own_lt (by have := pS_le ch (n - 1) 1 (by omega) hl1; omega) (by omega)).mpr z)
          have eJ : J = 1 := own_J hJ1 hJ2 hl1 he1
          subst eJ
          refine Go.st (T' := T74) (g' := (mkF m 353 #[jv p0, .second, iv p1, iv (Int32.ofNat n), rv b1, rv a, rv x, rv b63, iv (1 : Int32), iv (1 : Int32), iv (Int32.ofNat (n - 1)), iv (Int32.ofNat (pS ch (n - 1) 1)), iv (Int32.ofNat (tk ch (pS ch (n - 1) 0) (n - 1)))] [(.int (1 : Int32)), (.ref b63), (.ref x)])) ?_ (fun _ kk_ => XS.iload X74.here hx rfl (hb hby at_261) rfl  (XS.iload X74.here hx rfl (hb hby at_263) rfl  (XS.icmpYes X74.here hx rfl (pc0 := 265) (pc' := 304) rfl (hb hby at_265) rfl (flt (hx1 : ¬ ((Int32.ofNat (pS ch (n - 1) 1)) < (Int32.ofNat (n - 1))))).2.1 (by decide) (by decide) (XS.iload X74.here hx rfl (hb hby at_304) rfl  (XS.iload X74.here hx rfl (hb hby at_306) rfl  (XS.icmpYes X74.here hx rfl (pc0 := 308) (pc' := 347) rfl (hb hby at_308) rfl (flt (hx1 : ¬ ((Int32.ofNat (pS ch (n - 1) 1)) < (Int32.ofNat (n - 1))))).2.1 (by decide) (by decide) (XS.aload X74.here hx rfl (hb hby at_347) rfl rfl  (XS.aload X74.here hx rfl (hb hby at_349) rfl rfl  (XS.iload X74.here hx rfl (hb hby at_351) rfl  kk_)))))))))
          have f124 := ((E_x.ext E63).wr W74)
          have f125 := ((Fc_x.ext E63).other W74 (Or.inl ne_x_b63))
          have f126 := ((Fv_x.ext E63).other W74 (Or.inl ne_x_b63))
          have f127 := ((V_tx.ext E63).other W74 ne_tx_b63)
          refine Go.callS (y := (⟨"com/example/tidewire/tidewire/extender/ManifestHeaderUnquotePinLaw", "same", "(Ljava/lang/String;[CI)Z"⟩ : MethodName)) X74 hx hZ53 ho53 (hw _ (List.mem_of_getElem? (i := 75) rfl)) (hw _ (List.mem_of_getElem? (i := 76) rfl)) (hw _ (List.mem_of_getElem? (i := 4) rfl)) (hw _ (List.mem_of_getElem? (i := 77) rfl)) (by decide) 0 (rm_sam l Z a0 hw [] x tx b63 1 (oT ch (n - 1)) _ n0 cS rF h74 (by decide) (fun q => hc _) (fun q z => if_pos z) V74 f124 f125 f126 f127 O77 Sc hcS Sr hr_rF) e74 (by decide) (by decide) (by decide) (by decide) (argsL := [(.ref x), (.ref b63), (.int (1 : Int32))]) (rest := []) rfl (by rw [hml]; rfl) (lenOf pd__28Ljava_2flang_2fString_3b_5bCI_29Z rfl) rfl rfl (by show 2 * 0 + _ ≤ _; exact Nat.le_of_eq rfl) (hb hby at_353) ?_
          rintro _ T128 L128 X128 ⟨rfl, e128, rfl⟩
          have N129 := Fr.app N75 (Fr.nil _)
          show Go p e below _ T128 (mkF m 356 #[jv p0, .second, iv p1, iv (Int32.ofNat n), rv b1, rv a, rv x, rv b63, iv (1 : Int32), iv (1 : Int32), iv (Int32.ofNat (n - 1)), iv (Int32.ofNat (pS ch (n - 1) 1)), iv (Int32.ofNat (tk ch (pS ch (n - 1) 0) (n - 1)))] [(.int (1 : Int32))])
          refine Go.retNH X128 hx hlk (t := .boolean) hret (by simp) (z' := (1 : Int32)) rfl (hb hby at_356) (by decide) (by decide) hZ53 hEL (by rw [e128]; exact HS76) ?_
          try rw [e128]
          exact ⟨rfl, N129⟩
      ·
        refine Go.st (T' := T63) (g' := (mkF m 218 #[jv p0, .second, iv p1, iv (Int32.ofNat n), rv b1, rv a, rv x, rv b63, iv (0 : Int32), iv (1 : Int32), iv (Int32.ofNat (n - 1)), iv (Int32.ofNat (pS ch (n - 1) 0)), .unset] [])) ?_ (fun _ kk_ => XS.icmpYes X63.here hx rfl (pc0 := 179) (pc' := 218) rfl (hb hby at_179) rfl (flt (hx0 : ¬ ((Int32.ofNat (pS ch (n - 1) 0)) < (Int32.ofNat (n - 1))))).2.1 (by decide) (by decide) kk_)
        have he0 : ¬ pS ch (n - 1) 0 < n - 1 := fun z => hx0 ((own_lt (by have := pS_le ch (n - 1) 0 (by omega) hl0; omega) (by omega)).mpr z)
        have eJ : J = 0 := own_J hJ1 hJ2 hl0 he0
        subst eJ
        refine Go.st (T' := T63) (g' := (mkF m 353 #[jv p0, .second, iv p1, iv (Int32.ofNat n), rv b1, rv a, rv x, rv b63, iv (0 : Int32), iv (1 : Int32), iv (Int32.ofNat (n - 1)), iv (Int32.ofNat (pS ch (n - 1) 0)), .unset] [(.int (0 : Int32)), (.ref b63), (.ref x)])) ?_ (fun _ kk_ => XS.iload X63.here hx rfl (hb hby at_218) rfl  (XS.iload X63.here hx rfl (hb hby at_220) rfl  (XS.icmpYes X63.here hx rfl (pc0 := 222) (pc' := 261) rfl (hb hby at_222) rfl (flt (hx0 : ¬ ((Int32.ofNat (pS ch (n - 1) 0)) < (Int32.ofNat (n - 1))))).2.1 (by decide) (by decide) (XS.iload X63.here hx rfl (hb hby at_261) rfl  (XS.iload X63.here hx rfl (hb hby at_263) rfl  (XS.icmpYes X63.here hx rfl (pc0 := 265) (pc' := 304) rfl (hb hby at_265) rfl (flt (hx0 : ¬ ((Int32.ofNat (pS ch (n - 1) 0)) < (Int32.ofNat (n - 1))))).2.1 (by decide) (by decide) (XS.iload X63.here hx rfl (hb hby at_304) rfl  (XS.iload X63.here hx rfl (hb hby at_306) rfl  (XS.icmpYes X63.here hx rfl (pc0 := 308) (pc' := 347) rfl (hb hby at_308) rfl (flt (hx0 : ¬ ((Int32.ofNat (pS ch (n - 1) 0)) < (Int32.ofNat (n - 1))))).2.1 (by decide) (by decide) (XS.aload X63.here hx rfl (hb hby at_347) rfl rfl  (XS.aload X63.here hx rfl (hb hby at_349) rfl rfl  (XS.iload X63.here hx rfl (hb hby at_351) rfl  kk_))))))))))))
        have f130 := (E_x.ext E63)
        have f131 := (Fc_x.ext E63)
        have f132 := (Fv_x.ext E63)
        have f133 := (V_tx.ext E63)
        refine Go.callS (y := (⟨"com/example/tidewire/tidewire/extender/ManifestHeaderUnquotePinLaw", "same", "(Ljava/lang/String;[CI)Z"⟩ : MethodName)) X63 hx hZ53 ho53 (hw _ (List.mem_of_getElem? (i := 75) rfl)) (hw _ (List.mem_of_getElem? (i := 76) rfl)) (hw _ (List.mem_of_getElem? (i := 4) rfl)) (hw _ (List.mem_of_getElem? (i := 77) rfl)) (by decide) 0 (rm_sam l Z a0 hw [] x tx b63 0 (oT ch (n - 1)) _ n0 cS rF h63 (by decide) (fun q => hc _) (fun q z => if_pos z) V63 f130 f131 f132 f133 O68 Sc hcS Sr hr_rF) e63 (by decide) (by decide) (by decide) (by decide) (argsL := [(.ref x), (.ref b63), (.int (0 : Int32))]) (rest := []) rfl (by rw [hml]; rfl) (lenOf pd__28Ljava_2flang_2fString_3b_5bCI_29Z rfl) rfl rfl (by show 2 * 0 + _ ≤ _; exact Nat.le_of_eq rfl) (hb hby at_353) ?_
        rintro _ T134 L134 X134 ⟨rfl, e134, rfl⟩
        have N135 := Fr.app N59 (Fr.nil _)
        show Go p e below _ T134 (mkF m 356 #[jv p0, .second, iv p1, iv (Int32.ofNat n), rv b1, rv a, rv x, rv b63, iv (0 : Int32), iv (1 : Int32), iv (Int32.ofNat (n - 1)), iv (Int32.ofNat (pS ch (n - 1) 0)), .unset] [(.int (1 : Int32))])
        refine Go.retNH X134 hx hlk (t := .boolean) hret (by simp) (z' := (1 : Int32)) rfl (hb hby at_356) (by decide) (by decide) hZ53 hEL (by rw [e134]; exact HS67) ?_
        try rw [e134]
        exact ⟨rfl, N135⟩
    ·
      refine Go.callS (y := (⟨"com/example/tidewire/tidewire/extender/ManifestHeader", "unquote", "(Ljava/lang/String;)Ljava/lang/String;"⟩ : MethodName)) X53 hx hZ53 ho53 (hw _ (List.mem_of_getElem? (i := 39) rfl)) (hw _ (List.mem_of_getElem? (i := 40) rfl)) (hw _ (List.mem_of_getElem? (i := 41) rfl)) (hw _ (List.mem_of_getElem? (i := 42) rfl)) (by decide) 0 (rm_unN l Z a0 hw [] a t n ch n0 cS rF T53.heap hn hc hq E_a Fc_a Fv_a V_t O55 Sc hcS Sr hr_rF) rfl (by decide) (by decide) (by decide) (by decide) (argsL := [(.ref a)]) (rest := []) rfl (by rw [hml]; rfl) (lenOf pd__28Ljava_2flang_2fString_3b_29Ljava_2flang_2fString_3b rfl) rfl rfl (by show 2 * 0 + _ ≤ _; exact Nat.le_of_eq rfl) (hb hby at_106) ?_
      rintro _ T136 L136 X136 ⟨rfl, e136, rfl⟩
      have N137 := Fr.app N54 (Fr.nil _)
      show Go p e below _ T136 (mkF m 109 #[jv p0, .second, iv p1, iv (Int32.ofNat n), rv b1, rv a, .unset, .unset, .unset, .unset, .unset, .unset, .unset] [(.ref a)])
      refine Go.st (T' := T136) (g' := (mkF m 113 #[jv p0, .second, iv p1, iv (Int32.ofNat n), rv b1, rv a, rv a, .unset, .unset, .unset, .unset, .unset, .unset] [(.int (6 : Int32))])) ?_ (fun _ kk_ => XS.astore X136.here hx rfl (hb hby at_109) rfl rfl (l' := #[jv p0, .second, iv p1, iv (Int32.ofNat n), rv b1, rv a, rv a, .unset, .unset, .unset, .unset, .unset, .unset]) rfl (XS.bipush X136.here hx rfl (hb hby at_111) kk_))
      refine Go.newP X136 hx hZ53 (aty := .char) (hw _ (List.mem_of_getElem? (i := 1) rfl)) e136 rfl (hb hby at_113) (n := 6) rfl rfl 6 (by decide) (by decide) (by decide) (by decide) ?_
      intro T138 h138 b138 X138 e138 E138 g138 V138
      have f139 := (VA.keep K53 nin0)
      have ne_b1_b138 : b1 ≠ b138 := Nat.ne_of_lt (Nat.lt_of_lt_of_eq f139.lt g138.symm)
      have ne_a_b138 : a ≠ b138 := Nat.ne_of_lt (Nat.lt_of_lt_of_eq E_a.lt g138.symm)
      have ne_t_b138 : t ≠ b138 := Nat.ne_of_lt (Nat.lt_of_lt_of_eq V_t.lt g138.symm)
      have g_b138 : n0 ≤ b138 := Nat.le_trans Z56 (Nat.le_of_eq g138.symm)
      have HS140 := HS.ext HS53 E138
      have O141 := O55.ext E138
      have Z142 : n0 ≤ h138.size := Nat.le_trans Z56 E138.1
      change Ary Z h138 b138 .char [.int 0, .int 0, .int 0, .int 0, .int 0, .int 0] at V138
      have sf143 := Sf.born HS53 E138 g138 V138.lt
      show Go p e below _ T138 (mkF m 115 #[jv p0, .second, iv p1, iv (Int32.ofNat n), rv b1, rv a, rv a, .unset, .unset, .unset, .unset, .unset, .unset] [(.ref b138)])
      refine Go.st (T' := T138) (g' := (mkF m 122 #[jv p0, .second, iv p1, iv (Int32.ofNat n), rv b1, rv a, rv a, rv b138, iv (0 : Int32), .unset, .unset, .unset, .unset] [(.int (2 : Int32)), (.int (Int32.ofNat n))])) ?_ (fun _ kk_ => XS.astore X138.here hx rfl (hb hby at_115) rfl rfl (l' := #[jv p0, .second, iv p1, iv (Int32.ofNat n), rv b1, rv a, rv a, rv b138, .unset, .unset, .unset, .unset, .unset]) rfl (XS.iconst X138.here hx rfl (hb hby at_117) (XS.istore X138.here hx rfl (hb hby at_118) rfl (l' := #[jv p0, .second, iv p1, iv (Int32.ofNat n), rv b1, rv a, rv a, rv b138, iv (0 : Int32), .unset, .unset, .unset, .unset]) rfl (XS.iloadN X138.here hx rfl (hb hby at_120) rfl  (XS.iconst X138.here hx rfl (hb hby at_121) kk_)))))
      by_cases hy1 : (Int32.ofNat n) < (2 : Int32)
      ·
        refine Go.st (T' := T138) (g' := (mkF m 353 #[jv p0, .second, iv p1, iv (Int32.ofNat n), rv b1, rv a, rv a, rv b1, iv (Int32.ofNat n), iv (0 : Int32), .unset, .unset, .unset] [(.int (Int32.ofNat n)), (.ref b1), (.ref a)])) ?_ (fun _ kk_ => XS.icmpYes X138.here hx rfl (pc0 := 122) (pc' := 149) rfl (hb hby at_122) rfl (tlt (hy1 : (Int32.ofNat n) < (2 : Int32))).1 (by decide) (by decide) (XS.iconst X138.here hx rfl (hb hby at_149) (XS.istore X138.here hx rfl (hb hby at_150) rfl (l' := #[jv p0, .second, iv p1, iv (Int32.ofNat n), rv b1, rv a, rv a, rv b138, iv (0 : Int32), iv (0 : Int32), .unset, .unset, .unset]) rfl (XS.iload X138.here hx rfl (hb hby at_152) rfl  (XS.ifNo X138.here hx rfl (hb hby at_154) rfl ((if0 _ _).trans (teq ((by decide) : (0 : Int32) = (0 : Int32))).2) (XS.aload X138.here hx rfl (hb hby at_157) rfl rfl  (XS.astore X138.here hx rfl (hb hby at_159) rfl rfl (l' := #[jv p0, .second, iv p1, iv (Int32.ofNat n), rv b1, rv a, rv a, rv b1, iv (0 : Int32), iv (0 : Int32), .unset, .unset, .unset]) rfl (XS.iloadN X138.here hx rfl (hb hby at_161) rfl  (XS.istore X138.here hx rfl (hb hby at_162) rfl (l' := #[jv p0, .second, iv p1, iv (Int32.ofNat n), rv b1, rv a, rv a, rv b1, iv (Int32.ofNat n), iv (0 : Int32), .unset, .unset, .unset]) rfl (XS.goto X138.here hx rfl (pc0 := 164) (pc' := 347) rfl (hb hby at_164) (by decide) (by decide) (XS.aload X138.here hx rfl (hb hby at_347) rfl rfl  (XS.aload X138.here hx rfl (hb hby at_349) rfl rfl  (XS.iload X138.here hx rfl (hb hby at_351) rfl  kk_)))))))))))))
        have f144 := (f139.ext E138)
        have f145 := (E_a.ext E138)
        have f146 := (Fc_a.ext E138)
        have f147 := (Fv_a.ext E138)
        have f148 := (V_t.ext E138)
        refine Go.callS (y := (⟨"com/example/tidewire/tidewire/extender/ManifestHeaderUnquotePinLaw", "same", "(Ljava/lang/String;[CI)Z"⟩ : MethodName)) X138 hx hZ53 ho53 (hw _ (List.mem_of_getElem? (i := 75) rfl)) (hw _ (List.mem_of_getElem? (i := 76) rfl)) (hw _ (List.mem_of_getElem? (i := 4) rfl)) (hw _ (List.mem_of_getElem? (i := 77) rfl)) (by decide) 0 (rm_sam l Z a0 hw [] a t b1 n ch _ n0 cS rF h138 hn hc (fun q _ => rfl) f144 f145 f146 f147 f148 O141 Sc hcS Sr hr_rF) e138 (by decide) (by decide) (by decide) (by decide) (argsL := [(.ref a), (.ref b1), (.int (Int32.ofNat n))]) (rest := []) rfl (by rw [hml]; rfl) (lenOf pd__28Ljava_2flang_2fString_3b_5bCI_29Z rfl) rfl rfl (by show 2 * 0 + _ ≤ _; exact Nat.le_of_eq rfl) (hb hby at_353) ?_
        rintro _ T149 L149 X149 ⟨rfl, e149, rfl⟩
        have N150 := Fr.app N137 (Fr.nil _)
        show Go p e below _ T149 (mkF m 356 #[jv p0, .second, iv p1, iv (Int32.ofNat n), rv b1, rv a, rv a, rv b1, iv (Int32.ofNat n), iv (0 : Int32), .unset, .unset, .unset] [(.int (1 : Int32))])
        refine Go.retNH X149 hx hlk (t := .boolean) hret (by simp) (z' := (1 : Int32)) rfl (hb hby at_356) (by decide) (by decide) hZ53 hEL (by rw [e149]; exact HS140) ?_
        try rw [e149]
        exact ⟨rfl, N150⟩
      ·
        refine Go.st (T' := T138) (g' := (mkF m 125 #[jv p0, .second, iv p1, iv (Int32.ofNat n), rv b1, rv a, rv a, rv b138, iv (0 : Int32), .unset, .unset, .unset, .unset] [])) ?_ (fun _ kk_ => XS.icmpNo X138.here hx rfl (hb hby at_122) rfl (flt (hy1 : ¬ ((Int32.ofNat n) < (2 : Int32)))).1 kk_)
        have g1 : ¬ n < 2 := fun z => hy1 ((own_lt (i := n) (n := 2) (by omega) (by decide)).mpr z)
        refine Go.st (T' := T138) (g' := (mkF m 128 #[jv p0, .second, iv p1, iv (Int32.ofNat n), rv b1, rv a, rv a, rv b138, iv (0 : Int32), .unset, .unset, .unset, .unset] [(.int (0 : Int32)), (.ref b1)])) ?_ (fun _ kk_ => XS.aload X138.here hx rfl (hb hby at_125) rfl rfl  (XS.iconst X138.here hx rfl (hb hby at_127) kk_))
        have f151 := (f139.ext E138)
        refine Go.st (T' := T138) (g' := (mkF m 131 #[jv p0, .second, iv p1, iv (Int32.ofNat n), rv b1, rv a, rv a, rv b138, iv (0 : Int32), .unset, .unset, .unset, .unset] [(.int (34 : Int32)), (.int (Int32.ofNat (ch 0)))])) ?_ (fun _ kk_ => own_caload X138 hx hZ53 e138 f151 (i := 0) (v := (.int (Int32.ofNat (ch 0)))) (IL_at (by decide)) rfl rfl rfl (hb hby at_128) (XS.bipush X138.here hx rfl (hb hby at_129) kk_))
        by_cases hy2 : (Int32.ofNat (ch 0)) = (34 : Int32)
        ·
          refine Go.st (T' := T138) (g' := (mkF m 134 #[jv p0, .second, iv p1, iv (Int32.ofNat n), rv b1, rv a, rv a, rv b138, iv (0 : Int32), .unset, .unset, .unset, .unset] [])) ?_ (fun _ kk_ => XS.icmpNo X138.here hx rfl (hb hby at_131) rfl (teq (hy2 : (Int32.ofNat (ch 0)) = (34 : Int32))).2 kk_)
          have g2 := (own_eq (i := ch 0) (n := 34) (by omega) (by decide)).mp hy2
          refine Go.st (T' := T138) (g' := (mkF m 139 #[jv p0, .second, iv p1, iv (Int32.ofNat n), rv b1, rv a, rv a, rv b138, iv (0 : Int32), .unset, .unset, .unset, .unset] [(.int ((Int32.ofNat n) - (1 : Int32))), (.ref b1)])) ?_ (fun _ kk_ => XS.aload X138.here hx rfl (hb hby at_134) rfl rfl  (XS.iloadN X138.here hx rfl (hb hby at_136) rfl  (XS.iconst X138.here hx rfl (hb hby at_137) (XS.isub X138.here hx rfl (hb hby at_138) rfl kk_))))
          rw [show Int32.ofNat n - (1 : Int32) = Int32.ofNat (n - 1) from own_sub (n := 1) (by omega)]
          show Go p e below _ T138 (mkF m 139 #[jv p0, .second, iv p1, iv (Int32.ofNat n), rv b1, rv a, rv a, rv b138, iv (0 : Int32), .unset, .unset, .unset, .unset] [(.int (Int32.ofNat (n - 1))), (.ref b1)])
          refine Go.st (T' := T138) (g' := (mkF m 351 #[jv p0, .second, iv p1, iv (Int32.ofNat n), rv b1, rv a, rv a, rv b1, iv (Int32.ofNat n), iv (0 : Int32), .unset, .unset, .unset] [(.ref b1), (.ref a)])) ?_ (fun _ kk_ => own_caload X138 hx hZ53 e138 f151 (i := (n - 1)) (v := (.int (Int32.ofNat (ch (n - 1))))) (IL_at (by omega)) rfl rfl rfl (hb hby at_139) (XS.bipush X138.here hx rfl (hb hby at_140) (XS.icmpYes X138.here hx rfl (pc0 := 142) (pc' := 149) rfl (hb hby at_142) rfl (feq ((fun z => hq ⟨by omega, g2, (own_eq (i := ch (n - 1)) (n := 34) (by omega) (by decide)).mp z⟩) : ¬ ((Int32.ofNat (ch (n - 1))) = (34 : Int32)))).2 (by decide) (by decide) (XS.iconst X138.here hx rfl (hb hby at_149) (XS.istore X138.here hx rfl (hb hby at_150) rfl (l' := #[jv p0, .second, iv p1, iv (Int32.ofNat n), rv b1, rv a, rv a, rv b138, iv (0 : Int32), iv (0 : Int32), .unset, .unset, .unset]) rfl (XS.iload X138.here hx rfl (hb hby at_152) rfl  (XS.ifNo X138.here hx rfl (hb hby at_154) rfl ((if0 _ _).trans (teq ((by decide) : (0 : Int32) = (0 : Int32))).2) (XS.aload X138.here hx rfl (hb hby at_157) rfl rfl  (XS.astore X138.here hx rfl (hb hby at_159) rfl rfl (l' := #[jv p0, .second, iv p1, iv (Int32.ofNat n), rv b1, rv a, rv a, rv b1, iv (0 : Int32), iv (0 : Int32), .unset, .unset, .unset]) rfl (XS.iloadN X138.here hx rfl (hb hby at_161) rfl  (XS.istore X138.here hx rfl (hb hby at_162) rfl (l' := #[jv p0, .second, iv p1, iv (Int32.ofNat n), rv b1, rv a, rv a, rv b1, iv (Int32.ofNat n), iv (0 : Int32), .unset, .unset, .unset]) rfl (XS.goto X138.here hx rfl (pc0 := 164) (pc' := 347) rfl (hb hby at_164) (by decide) (by decide) (XS.aload X138.here hx rfl (hb hby at_347) rfl rfl  (XS.aload X138.here hx rfl (hb hby at_349) rfl rfl  kk_))))))))))))))
          refine Go.st (T' := T138) (g' := (mkF m 353 #[jv p0, .second, iv p1, iv (Int32.ofNat n), rv b1, rv a, rv a, rv b1, iv (Int32.ofNat n), iv (0 : Int32), .unset, .unset, .unset] [(.int (Int32.ofNat n)), (.ref b1), (.ref a)])) ?_ (fun _ kk_ => XS.iload X138.here hx rfl (hb hby at_351) rfl  kk_)
          have f152 := (E_a.ext E138)
          have f153 := (Fc_a.ext E138)
          have f154 := (Fv_a.ext E138)
          have f155 := (V_t.ext E138)
          refine Go.callS (y := (⟨"com/example/tidewire/tidewire/extender/ManifestHeaderUnquotePinLaw", "same", "(Ljava/lang/String;[CI)Z"⟩ : MethodName)) X138 hx hZ53 ho53 (hw _ (List.mem_of_getElem? (i := 75) rfl)) (hw _ (List.mem_of_getElem? (i := 76) rfl)) (hw _ (List.mem_of_getElem? (i := 4) rfl)) (hw _ (List.mem_of_getElem? (i := 77) rfl)) (by decide) 0 (rm_sam l Z a0 hw [] a t b1 n ch _ n0 cS rF h138 hn hc (fun q _ => rfl) f151 f152 f153 f154 f155 O141 Sc hcS Sr hr_rF) e138 (by decide) (by decide) (by decide) (by decide) (argsL := [(.ref a), (.ref b1), (.int (Int32.ofNat n))]) (rest := []) rfl (by rw [hml]; rfl) (lenOf pd__28Ljava_2flang_2fString_3b_5bCI_29Z rfl) rfl rfl (by show 2 * 0 + _ ≤ _; exact Nat.le_of_eq rfl) (hb hby at_353) ?_
          rintro _ T156 L156 X156 ⟨rfl, e156, rfl⟩
          have N157 := Fr.app N137 (Fr.nil _)
          show Go p e below _ T156 (mkF m 356 #[jv p0, .second, iv p1, iv (Int32.ofNat n), rv b1, rv a, rv a, rv b1, iv (Int32.ofNat n), iv (0 : Int32), .unset, .unset, .unset] [(.int (1 : Int32))])
          refine Go.retNH X156 hx hlk (t := .boolean) hret (by simp) (z' := (1 : Int32)) rfl (hb hby at_356) (by decide) (by decide) hZ53 hEL (by rw [e156]; exact HS140) ?_
          try rw [e156]
          exact ⟨rfl, N157⟩
        ·
          refine Go.st (T' := T138) (g' := (mkF m 353 #[jv p0, .second, iv p1, iv (Int32.ofNat n), rv b1, rv a, rv a, rv b1, iv (Int32.ofNat n), iv (0 : Int32), .unset, .unset, .unset] [(.int (Int32.ofNat n)), (.ref b1), (.ref a)])) ?_ (fun _ kk_ => XS.icmpYes X138.here hx rfl (pc0 := 131) (pc' := 149) rfl (hb hby at_131) rfl (feq (hy2 : ¬ ((Int32.ofNat (ch 0)) = (34 : Int32)))).2 (by decide) (by decide) (XS.iconst X138.here hx rfl (hb hby at_149) (XS.istore X138.here hx rfl (hb hby at_150) rfl (l' := #[jv p0, .second, iv p1, iv (Int32.ofNat n), rv b1, rv a, rv a, rv b138, iv (0 : Int32), iv (0 : Int32), .unset, .unset, .unset]) rfl (XS.iload X138.here hx rfl (hb hby at_152) rfl  (XS.ifNo X138.here hx rfl (hb hby at_154) rfl ((if0 _ _).trans (teq ((by decide) : (0 : Int32) = (0 : Int32))).2) (XS.aload X138.here hx rfl (hb hby at_157) rfl rfl  (XS.astore X138.here hx rfl (hb hby at_159) rfl rfl (l' := #[jv p0, .second, iv p1, iv (Int32.ofNat n), rv b1, rv a, rv a, rv b1, iv (0 : Int32), iv (0 : Int32), .unset, .unset, .unset]) rfl (XS.iloadN X138.here hx rfl (hb hby at_161) rfl  (XS.istore X138.here hx rfl (hb hby at_162) rfl (l' := #[jv p0, .second, iv p1, iv (Int32.ofNat n), rv b1, rv a, rv a, rv b1, iv (Int32.ofNat n), iv (0 : Int32), .unset, .unset, .unset]) rfl (XS.goto X138.here hx rfl (pc0 := 164) (pc' := 347) rfl (hb hby at_164) (by decide) (by decide) (XS.aload X138.here hx rfl (hb hby at_347) rfl rfl  (XS.aload X138.here hx rfl (hb hby at_349) rfl rfl  (XS.iload X138.here hx rfl (hb hby at_351) rfl  kk_)))))))))))))
          have f158 := (E_a.ext E138)
          have f159 := (Fc_a.ext E138)
          have f160 := (Fv_a.ext E138)
          have f161 := (V_t.ext E138)
          refine Go.callS (y := (⟨"com/example/tidewire/tidewire/extender/ManifestHeaderUnquotePinLaw", "same", "(Ljava/lang/String;[CI)Z"⟩ : MethodName)) X138 hx hZ53 ho53 (hw _ (List.mem_of_getElem? (i := 75) rfl)) (hw _ (List.mem_of_getElem? (i := 76) rfl)) (hw _ (List.mem_of_getElem? (i := 4) rfl)) (hw _ (List.mem_of_getElem? (i := 77) rfl)) (by decide) 0 (rm_sam l Z a0 hw [] a t b1 n ch _ n0 cS rF h138 hn hc (fun q _ => rfl) f151 f158 f159 f160 f161 O141 Sc hcS Sr hr_rF) e138 (by decide) (by decide) (by decide) (by decide) (argsL := [(.ref a), (.ref b1), (.int (Int32.ofNat n))]) (rest := []) rfl (by rw [hml]; rfl) (lenOf pd__28Ljava_2flang_2fString_3b_5bCI_29Z rfl) rfl rfl (by show 2 * 0 + _ ≤ _; exact Nat.le_of_eq rfl) (hb hby at_353) ?_
          rintro _ T162 L162 X162 ⟨rfl, e162, rfl⟩
          have N163 := Fr.app N137 (Fr.nil _)
          show Go p e below _ T162 (mkF m 356 #[jv p0, .second, iv p1, iv (Int32.ofNat n), rv b1, rv a, rv a, rv b1, iv (Int32.ofNat n), iv (0 : Int32), .unset, .unset, .unset] [(.int (1 : Int32))])
          refine Go.retNH X162 hx hlk (t := .boolean) hret (by simp) (z' := (1 : Int32)) rfl (hb hby at_356) (by decide) (by decide) hZ53 hEL (by rw [e162]; exact HS140) ?_
          try rw [e162]
          exact ⟨rfl, N163⟩
  by_cases hz1 : (((p1.toUInt32 >>> ((8 : Int32) &&& 31).toUInt32).toInt32) &&& (3 : Int32)) = (0 : Int32)
  ·
    refine Go.st (T' := T47) (g' := (mkF m 96 #[jv p0, .second, iv p1, iv (Int32.ofNat n), rv b1, .unset, .unset, .unset, .unset, .unset, .unset, .unset, .unset] [])) ?_ (fun _ kk_ => XS.ifYes X47.here hx rfl (pc0 := 74) (pc' := 96) rfl (hb hby at_74) rfl ((if0 _ _).trans (teq (hz1 : (((p1.toUInt32 >>> ((8 : Int32) &&& 31).toUInt32).toInt32) &&& (3 : Int32)) = (0 : Int32))).1) (by decide) (by decide) kk_)
    exact tail (c6 d0 d1 d2 d3 d4 d5) T47 h47 _ hc6 X47 e47 N48 Z52 O51 HS49 V47
  ·
    refine Go.st (T' := T47) (g' := (mkF m 79 #[jv p0, .second, iv p1, iv (Int32.ofNat n), rv b1, .unset, .unset, .unset, .unset, .unset, .unset, .unset, .unset] [(.int (1 : Int32)), (.int (Int32.ofNat n))])) ?_ (fun _ kk_ => XS.ifNo X47.here hx rfl (hb hby at_74) rfl ((if0 _ _).trans (feq (hz1 : ¬ ((((p1.toUInt32 >>> ((8 : Int32) &&& 31).toUInt32).toInt32) &&& (3 : Int32)) = (0 : Int32)))).1) (XS.iloadN X47.here hx rfl (hb hby at_77) rfl  (XS.iconst X47.here hx rfl (hb hby at_78) kk_)))
    by_cases hz2 : (Int32.ofNat n) < (1 : Int32)
    ·
      refine Go.st (T' := T47) (g' := (mkF m 96 #[jv p0, .second, iv p1, iv (Int32.ofNat n), rv b1, .unset, .unset, .unset, .unset, .unset, .unset, .unset, .unset] [])) ?_ (fun _ kk_ => XS.icmpYes X47.here hx rfl (pc0 := 79) (pc' := 96) rfl (hb hby at_79) rfl (tlt (hz2 : (Int32.ofNat n) < (1 : Int32))).1 (by decide) (by decide) kk_)
      exact tail (c6 d0 d1 d2 d3 d4 d5) T47 h47 _ hc6 X47 e47 N48 Z52 O51 HS49 V47
    ·
      refine Go.st (T' := T47) (g' := (mkF m 82 #[jv p0, .second, iv p1, iv (Int32.ofNat n), rv b1, .unset, .unset, .unset, .unset, .unset, .unset, .unset, .unset] [])) ?_ (fun _ kk_ => XS.icmpNo X47.here hx rfl (hb hby at_79) rfl (flt (hz2 : ¬ ((Int32.ofNat n) < (1 : Int32)))).1 kk_)
      have g1 : ¬ n < 1 := fun z => hz2 ((own_lt (i := n) (n := 1) (by omega) (by decide)).mpr z)
      refine Go.st (T' := T47) (g' := (mkF m 87 #[jv p0, .second, iv p1, iv (Int32.ofNat n), rv b1, .unset, .unset, .unset, .unset, .unset, .unset, .unset, .unset] [(.int (34 : Int32)), (.int (0 : Int32)), (.ref b1)])) ?_ (fun _ kk_ => XS.aload X47.here hx rfl (hb hby at_82) rfl rfl  (XS.iconst X47.here hx rfl (hb hby at_84) (XS.bipush X47.here hx rfl (hb hby at_85) kk_)))
      refine Go.castore X47 hx hZ e47 V47 (y := (34 : Int32)) (by decide) (i := 0) (by rw [IL_len]; decide) rfl rfl rfl (hb hby at_87) ?_
      intro T164 h164 X164 e164 W164 V164
      have N165 := Fr.snoc X164 N48 g_b1
      have f167 := (Sf.wr HS41 W47 (f50).1 f50)
      have HS166 := HS.wr HS49 W164 (f167).1
      have O168 := O51.wr W164 g_b1
      have Z169 : n0 ≤ h164.size := by rw [W164.size]; exact Z52
      show Go p e below _ T164 (mkF m 88 #[jv p0, .second, iv p1, iv (Int32.ofNat n), rv b1, .unset, .unset, .unset, .unset, .unset, .unset, .unset, .unset] [])
      rw [IL_set (by decide)] at V164
      refine Go.st (T' := T164) (g' := (mkF m 95 #[jv p0, .second, iv p1, iv (Int32.ofNat n), rv b1, .unset, .unset, .unset, .unset, .unset, .unset, .unset, .unset] [(.int (34 : Int32)), (.int ((Int32.ofNat n) - (1 : Int32))), (.ref b1)])) ?_ (fun _ kk_ => XS.aload X164.here hx rfl (hb hby at_88) rfl rfl  (XS.iloadN X164.here hx rfl (hb hby at_90) rfl  (XS.iconst X164.here hx rfl (hb hby at_91) (XS.isub X164.here hx rfl (hb hby at_92) rfl (XS.bipush X164.here hx rfl (hb hby at_93) kk_)))))
      rw [show Int32.ofNat n - (1 : Int32) = Int32.ofNat (n - 1) from own_sub (n := 1) (by omega)]
      show Go p e below _ T164 (mkF m 95 #[jv p0, .second, iv p1, iv (Int32.ofNat n), rv b1, .unset, .unset, .unset, .unset, .unset, .unset, .unset, .unset] [(.int (34 : Int32)), (.int (Int32.ofNat (n - 1))), (.ref b1)])
      refine Go.castore X164 hx hZ e164 V164 (y := (34 : Int32)) (by decide) (i := (n - 1)) (by rw [IL_len]; omega) rfl rfl rfl (hb hby at_95) ?_
      intro T170 h170 X170 e170 W170 V170
      have N171 := Fr.snoc X170 N165 g_b1
      have f173 := (Sf.wr HS49 W164 (f167).1 f167)
      have HS172 := HS.wr HS166 W170 (f173).1
      have O174 := O168.wr W170 g_b1
      have Z175 : n0 ≤ h170.size := by rw [W170.size]; exact Z169
      show Go p e below _ T170 (mkF m 96 #[jv p0, .second, iv p1, iv (Int32.ofNat n), rv b1, .unset, .unset, .unset, .unset, .unset, .unset, .unset, .unset] [])
      rw [IL_set (show n - 1 < 6 by omega)] at V170
      rw [IL_congr (n := 6) (f := fun q => if q = n - 1 then (34 : Int32) else if q = 0 then (34 : Int32) else Int32.ofNat ((c6 d0 d1 d2 d3 d4 d5) q)) (f' := fun q => Int32.ofNat ((fun q => if q = n - 1 then 34 else if q = 0 then 34 else (c6 d0 d1 d2 d3 d4 d5) q) q)) (fun q _ => by dsimp only; split <;> first | rfl | (split <;> rfl))] at V170
      exact tail (fun q => if q = n - 1 then 34 else if q = 0 then 34 else (c6 d0 d1 d2 d3 d4 d5) q) T170 h170 _ (fun q => by (try dsimp only); split <;> first | decide | (split <;> first | decide | exact hc6 q)) X170 e170 N171 Z175 O174 HS172 V170
set_option maxRecDepth 65536 in
set_option maxHeartbeats 40000000 in
theorem comes_1 {Post : Tables → Env → Array Value → State → Outcome → State → Prop} (hpost : ∀ tb e args s v u, (limb_1_1.after args s (.returned v) u = true ∧ limb_1_2.after args s (.returned v) u = true ∧ True) → ReturnedEndW s (.returned v) u (Jvm.fieldLocs frame_1_writes args s ++ Jvm.arrayLocs frame_1_arrays args s ++ Jvm.staticLocs frame_1_statics s) 32 1216 → Post tb e args s (.returned v) u) :
    ArmFor flags0 classFile x code maxLocals ret World_1 tables_1 room_1 Calls_1 rest_1 Pre_1 Post := by
  intro l hfl _ _ p e ha hc hk s m args below hf hA hF happ hP
  obtain ⟨hcalls, hrest, hpre⟩ := hP
  obtain ⟨-, -, -, hnamed, -, -, -, hat⟩ := (Spec.applies_iff hf).mp happ
  obtain ⟨hg, hn⟩ := and_e (Cond.before_iff.mp (show (Jvm.Cond.and given_1 narrow_1).before args s = true from hpre))
  obtain ⟨h1, q0⟩ := and_e hg
  obtain ⟨w0, w1, rfl⟩ : ∃ w0 w1 : Value, args = #[w0, w1] := by
    have hs : args.size = 2 := by simpa [Cond.value, given_1] using h1
    obtain ⟨L⟩ := args
    match L, hs with
    | [w0, w1], _ => exact ⟨w0, w1, rfl⟩
  obtain ⟨a0, q1⟩ := and_e q0
  obtain ⟨i0, e0⟩ := isL_v a0
  obtain rfl : w0 = (.long i0) := Option.some.inj e0
  obtain ⟨i1, e1⟩ := is_v q1
  obtain rfl : w1 = (.int i1) := Option.some.inj e1
  have hw := fun d (hd : d ∈ tables_1) => atoms_spec (ws := Jvm.Cond.code x code maxLocals ret :: tables_1) hat d (List.mem_cons_of_mem _ hd)
  have hfit : Fit s := fun {y c} hc i hi => by
    obtain ⟨ha, rfl⟩ := Array.getElem?_eq_some_iff.mp hc
    have q := List.all_eq_true.mp ((Array.all_eq_true_iff_forall_mem.mp hF) _ (Array.getElem_mem ha)) i (List.mem_range.mpr hi)
    simpa [Array.getElem?_eq_getElem hi] using q
  obtain ⟨hsets, hown0⟩ := atoms_of _ (rest_1_c_eq ▸ (show rest_1_c.before _ s = true from hrest))
  have hEL : EW s _ consts_1 := (EW.cons (hw _ (List.mem_of_getElem? (i := 170) rfl)) (by decide) EW.nil)
  have hsub : ∀ a ∈ Bundle.stringAtoms, a ∈ tables_1 := by decide +kernel
  have wS : ∀ a ∈ Bundle.stringAtoms, a.before _ s = true := fun a q => hw a (hsub a q)
  have n5 := not_v (Cond.before_iff.mp (hsets _ (List.mem_of_getElem? (i := 2) rfl)))
  obtain ⟨cS, eS⟩ := is_v (Cond.before_iff.mp (hsets _ (List.mem_of_getElem? (i := 1) rfl)))
  have Sc : Sta s s.heap "java/lang/String" "COMPACT_STRINGS" "Z" (.int cS) := Sta.start eS (Or.inl (hsets _ (List.mem_of_getElem? (i := 0) rfl)))
  have hcS : ¬ (cS = (0 : Int32)) := gotF (Cond.eq_ints eS (Term.int_eval (0))) n5
  obtain ⟨rF, eF, hrF⟩ := isR_v (Cond.before_iff.mp (hsets _ (List.mem_of_getElem? (i := 8) rfl)))
  have Sr : Sta s s.heap "jdk/internal/util/Preconditions" "SIOOBE_FORMATTER" "Ljava/util/function/BiFunction;" rF := Sta.start eF (Or.inl (hsets _ (List.mem_of_getElem? (i := 7) rfl)))
  have hh : ∀ p ∈ consts_1, Jvm.Lit.constHeld s p.1 p.2 := hcalls.1
  have hCH : CHv s consts_1 s.vm s.heap := CHv.start hEL hh (hsets _ (List.mem_of_getElem? (i := 2) rfl)) (hw _ (List.mem_of_getElem? (i := 28) rfl)) (hw _ (List.mem_of_getElem? (i := 11) rfl))
  obtain ⟨n, o, h1, h2, h3, _, L, rfl, ⟨rfl, N⟩, -, hq⟩ := rm_law l s _ hw tables_1 i0 i1 s.heap.size cS rF s.heap hEL wS (Nat.le_refl _) (Old.start s) Sc hcS Sr hrF p e ha hc hk s m _ below hf ((Spec.applies_iff_loose hf).mp happ).1 ⟨rfl, State.Warmed39.refl s, rfl, hCH⟩ trivial
  refine ⟨n, _, h1, h2, h3, hpost _ _ _ _ _ _ ⟨Cond.after_iff.mpr rfl, Cond.after_iff.mpr (eq_i res_at (Term.int_eval (1)) rfl), trivial⟩ ⟨hq.1, hq.2.1, hq.2.2.1, (hq.2.2.2.sift fun y hy => Or.inr (N y hy)).mono (by decide) (by decide)⟩⟩
theorem main_1_1 : Claimed_1_1 := comes_1 fun _ _ _ _ _ _ h hF => ⟨h.1, hF⟩
theorem main_1_2 : Claimed_1_2 := comes_1 fun _ _ _ _ _ _ h hF => ⟨h.2.1, hF⟩
end Jvm.Pilot.@@N@@
namespace Jvm.Pilot.@@N@@
open Jvm Jvm.ClassFile Sem Op Lib Jvm.Free Jvm.Stand Jvm.Pilot.@@N@@.Jvm.D
/-! MADE BY PROGRAM (witnessworld.py) out of the Statement's table words and the real class files: 26 classes; the members and pool entries that the words name. The judged class is class 1, her method 5. -/
namespace start1
open Jvm.ClassFile
def u (s : String) : CpInfo := .utf8 (stringToUtf16 s)
/-- a pool by its gaps: so many unusable entries, then the entry; so many at the end -/
def gap : Nat → List CpInfo → List CpInfo
  | 0, r => r
  | n + 1, r => .unusable :: gap n r
def poolList (es : List (Nat × CpInfo)) (last : Nat) : List CpInfo := es.foldr (fun e r => gap e.1 (e.2 :: r)) (gap last [])
def pool (es : List (Nat × CpInfo)) (last : Nat) : Array CpInfo := ⟨poolList es last⟩
def fileOf (pool : Array CpInfo) (this : Nat) (attrs : Array Attribute := #[]) (ms : Array MethodInfo := #[]) (fl : Nat := 33) (sup : Nat := 0) (ifs : Array Nat := #[]) (fds : Array FieldInfo := #[]) : ClassFile where
  minorVersion := 0
  majorVersion := 65
  constantPool := pool
  accessFlags := fl
  thisClass := this
  superClass := sup
  interfaces := ifs
  fields := fds
  methods := ms
  attributes := attrs
def plain (name : String) (sup : Option ClassId) : Class where
  name := name
  kind := .ordinary
  loader := none
  accessFlags := 33
  super := sup
  interfaces := #[]
  cf := none
  fields := #[]
  methods := #[]
  instanceTypes := #[]
  staticTypes := #[]
  resolved := #[]
  callSites := []
  init := .initialized
  statics := none
  mirror := none

def pool0 : Array CpInfo := pool [(5, u "<init>"), (0, u "()V"), (1, .class_ 10), (1, u "java/lang/Object")] 113

def k0c0 : Code := { maxStack := 0, maxLocals := 1, code := object_method_1_code, exceptionTable := #[], attributes := #[] }
def k0m0 : Method := { name := "<init>", desc := "()V", sig := { parameters := [], returnType := none }, accessFlags := 1, code := some k0c0 }
/-- java/lang/Object -/
def k0 : Class := { plain "java/lang/Object" none with
  accessFlags := 33
  interfaces := #[]
  cf := some (fileOf pool0 8 #[] #[{ accessFlags := 1, nameIndex := 5, descriptorIndex := 6, attributes := #[] }] 33 0 #[] #[])
  fields := #[]
  methods := #[k0m0]
  instanceTypes := #[]
  staticTypes := #[]
  resolved := Array.replicate 124 none
  statics := none }

def pool1 : Array CpInfo := pool [(2, .class_ 4), (1, u "java/lang/Object"), (0, u "<init>"), (0, u "()V"), (0, .long 1023), (1, .class_ 10), (0, u "java/lang/String"), (0, .methodref 9 12), (0, .nameAndType 5 13), (0, u "([C)V"), (0, .methodref 9 15), (0, .nameAndType 16 17), (0, u "length"), (0, u "()I"), (0, .methodref 9 19), (0, .nameAndType 20 21), (0, u "charAt"), (0, u "(I)C"), (0, .integer 2147483647), (0, .methodref 24 25), (0, .class_ 26), (0, .nameAndType 27 28), (0, u "com/example/tidewire/tidewire/extender/ManifestHeaderUnquotePinLaw"), (0, u "draw"), (0, u "(JI)C"), (0, .methodref 24 30), (0, .nameAndType 31 32), (0, u "make"), (0, u "([CI)Ljava/lang/String;"), (0, .methodref 34 35), (0, .class_ 36), (0, .nameAndType 37 38), (0, u "com/example/tidewire/tidewire/extender/ManifestHeader"), (0, u "unquote"), (0, u "(Ljava/lang/String;)Ljava/lang/String;"), (0, .methodref 24 40), (0, .nameAndType 41 42), (0, u "tok"), (0, u "([CII)I"), (0, .methodref 24 44), (0, .nameAndType 45 46), (0, u "same"), (0, u "(Ljava/lang/String;[CI)Z"), (3, u "law"), (0, u "(JI)Z")] 4

def k1m0 : Method := { name := "<init>", desc := "()V", sig := { parameters := [], returnType := none }, accessFlags := 1, code := none }
def k1c1 : Code := { maxStack := 4, maxLocals := 5, code := method_2_code, exceptionTable := #[], attributes := #[] }
def k1m1 : Method := { name := "draw", desc := "(JI)C", sig := { parameters := [.long, .int], returnType := some .char }, accessFlags := 10, code := some k1c1 }
def k1c2 : Code := { maxStack := 7, maxLocals := 2, code := method_3_code, exceptionTable := #[], attributes := #[] }
def k1m2 : Method := { name := "make", desc := "([CI)Ljava/lang/String;", sig := { parameters := [(.array .char), .int], returnType := some (.object "java/lang/String") }, accessFlags := 10, code := some k1c2 }
def k1c3 : Code := { maxStack := 2, maxLocals := 3, code := method_4_code, exceptionTable := #[], attributes := #[] }
def k1m3 : Method := { name := "tok", desc := "([CII)I", sig := { parameters := [(.array .char), .int, .int], returnType := some .int }, accessFlags := 10, code := some k1c3 }
def k1c4 : Code := { maxStack := 3, maxLocals := 3, code := method_5_code, exceptionTable := #[], attributes := #[] }
def k1m4 : Method := { name := "same", desc := "(Ljava/lang/String;[CI)Z", sig := { parameters := [(.object "java/lang/String"), (.array .char), .int], returnType := some .boolean }, accessFlags := 10, code := some k1c4 }
def k1c5 : Code := { maxStack := 5, maxLocals := 13, code := code, exceptionTable := #[], attributes := #[] }
def k1m5 : Method := { name := "law", desc := "(JI)Z", sig := { parameters := [.long, .int], returnType := some .boolean }, accessFlags := 9, code := some k1c5 }
/-- com/example/tidewire/tidewire/extender/ManifestHeaderUnquotePinLaw -/
def k1 : Class := { plain "com/example/tidewire/tidewire/extender/ManifestHeaderUnquotePinLaw" (some 0) with
  accessFlags := 49
  interfaces := #[]
  cf := some (fileOf pool1 24 #[] #[{ accessFlags := 1, nameIndex := 5, descriptorIndex := 6, attributes := #[] }, { accessFlags := 10, nameIndex := 27, descriptorIndex := 28, attributes := #[] }, { accessFlags := 10, nameIndex := 31, descriptorIndex := 32, attributes := #[] }, { accessFlags := 10, nameIndex := 41, descriptorIndex := 42, attributes := #[] }, { accessFlags := 10, nameIndex := 45, descriptorIndex := 46, attributes := #[] }, { accessFlags := 9, nameIndex := 50, descriptorIndex := 51, attributes := #[] }] 49 2 #[] #[])
  fields := #[]
  methods := #[k1m0, k1m1, k1m2, k1m3, k1m4, k1m5]
  instanceTypes := #[]
  staticTypes := #[]
  resolved := Array.replicate 56 none
  statics := none }

def pool2 : Array CpInfo := pool [(1, .class_ 2), (0, u "java/io/Serializable"), (0, .class_ 4), (0, u "java/lang/Object")] 2

/-- java/io/Serializable -/
def k2 : Class := { plain "java/io/Serializable" (some 0) with
  accessFlags := 1537
  interfaces := #[]
  cf := some (fileOf pool2 1 #[] #[] 1537 3 #[] #[])
  fields := #[]
  methods := #[]
  instanceTypes := #[]
  staticTypes := #[]
  resolved := Array.replicate 7 none
  statics := none }

def pool3 : Array CpInfo := pool [(1, .class_ 2), (0, u "java/lang/Comparable"), (0, .class_ 4), (0, u "java/lang/Object")] 7

/-- java/lang/Comparable -/
def k3 : Class := { plain "java/lang/Comparable" (some 0) with
  accessFlags := 1537
  interfaces := #[]
  cf := some (fileOf pool3 1 #[] #[] 1537 3 #[] #[])
  fields := #[]
  methods := #[]
  instanceTypes := #[]
  staticTypes := #[]
  resolved := Array.replicate 12 none
  statics := none }

def pool4 : Array CpInfo := pool [(2, .class_ 4), (1, u "java/lang/CharSequence"), (42, .class_ 48), (0, u "java/lang/CharSequence$1CodePointIterator"), (10, .class_ 60), (0, u "java/lang/CharSequence$1CharIterator"), (5, .class_ 67), (0, u "java/lang/Object")] 63

/-- java/lang/CharSequence -/
def k4 : Class := { plain "java/lang/CharSequence" (some 0) with
  accessFlags := 1537
  interfaces := #[]
  cf := some (fileOf pool4 2 #[.nestMembers #[47, 59]] #[] 1537 66 #[] #[])
  fields := #[]
  methods := #[]
  instanceTypes := #[]
  staticTypes := #[]
  resolved := Array.replicate 131 none
  statics := none }

def pool5 : Array CpInfo := pool [(1, .class_ 2), (0, u "java/lang/constant/Constable"), (0, .class_ 4), (0, u "java/lang/Object")] 6

/-- java/lang/constant/Constable -/
def k5 : Class := { plain "java/lang/constant/Constable" (some 0) with
  accessFlags := 1537
  interfaces := #[]
  cf := some (fileOf pool5 1 #[] #[] 1537 3 #[] #[])
  fields := #[]
  methods := #[]
  instanceTypes := #[]
  staticTypes := #[]
  resolved := Array.replicate 11 none
  statics := none }

def pool6 : Array CpInfo := pool [(1, .class_ 2), (0, u "java/lang/constant/ConstantDesc"), (0, .class_ 4), (0, u "java/lang/Object")] 32

/-- java/lang/constant/ConstantDesc -/
def k6 : Class := { plain "java/lang/constant/ConstantDesc" (some 0) with
  accessFlags := 1537
  interfaces := #[]
  cf := some (fileOf pool6 1 #[] #[] 1537 3 #[] #[])
  fields := #[]
  methods := #[]
  instanceTypes := #[]
  staticTypes := #[]
  resolved := Array.replicate 37 none
  statics := none }

def pool7 : Array CpInfo := pool [(1, .methodref 2 3), (0, .class_ 4), (0, .nameAndType 5 6), (0, u "java/lang/Object"), (0, u "<init>"), (0, u "()V"), (0, .string 8), (0, u ""), (0, .fieldref 10 11), (0, .class_ 12), (0, .nameAndType 13 14), (0, u "java/lang/String"), (0, u "value"), (0, u "[B"), (0, .fieldref 10 16), (0, .nameAndType 17 18), (0, u "coder"), (0, u "B"), (2, u "hash"), (0, u "I"), (2, u "hashIsZero"), (0, u "Z"), (0, .methodref 10 28), (0, .nameAndType 5 29), (0, u "([CIILjava/lang/Void;)V"), (8, .fieldref 10 39), (0, .nameAndType 40 26), (0, u "COMPACT_STRINGS"), (1, .class_ 44), (1, u "java/lang/StringUTF16"), (0, u "compress"), (1, .methodref 42 48), (0, .nameAndType 49 50), (0, u "coderFromArrayLen"), (0, u "([BI)B"), (3, .methodref 55 56), (0, .class_ 57), (0, .nameAndType 58 59), (0, u "java/util/Arrays"), (0, u "copyOfRange"), (0, u "([BII)[B"), (47, .class_ 109), (1, u "java/lang/StringLatin1"), (32, u "()Z"), (34, .methodref 42 178), (0, .nameAndType 45 179), (0, u "([CII)[B"), (154, u "()I"), (0, .methodref 10 336), (0, .nameAndType 17 337), (0, u "()B"), (2, u "()[B"), (22, u "([BI)C"), (27, u "(II)V"), (35, u "(I)C"), (61, .methodref 10 490), (0, .nameAndType 5 491), (0, u "(Ljava/lang/AbstractStringBuilder;Ljava/lang/Void;)V"), (0, .methodref 10 493), (0, .nameAndType 494 142), (0, u "isLatin1"), (0, .methodref 107 496), (0, .nameAndType 497 363), (0, u "charAt"), (3, u "checkIndex"), (4, .nameAndType 507 334), (0, u "length"), (41, .methodref 550 506), (0, .class_ 551), (0, u "java/lang/AbstractStringBuilder"), (0, .methodref 550 553), (0, .nameAndType 554 340), (0, u "getValue"), (20, .class_ 576), (0, u "java/lang/CharSequence"), (22, u "CASE_INSENSITIVE_ORDER"), (0, u "Ljava/util/Comparator;"), (409, u "([C)V"), (36, .methodref 550 493), (5, .fieldref 1054 1055), (0, .class_ 1056), (0, .nameAndType 1057 1058), (0, u "jdk/internal/util/Preconditions"), (0, u "SIOOBE_FORMATTER"), (0, u "Ljava/util/function/BiFunction;"), (0, .methodref 1054 1060), (0, .nameAndType 501 1061), (0, u "(IILjava/util/function/BiFunction;)I"), (39, u "serialPersistentFields"), (0, u "[Ljava/io/ObjectStreamField;"), (0, .class_ 1104), (0, u "java/lang/String$CaseInsensitiveComparator"), (1, .class_ 1107), (0, u "java/io/Serializable"), (0, .class_ 1109), (0, u "java/lang/Comparable"), (0, .class_ 1111), (0, u "java/lang/constant/Constable"), (0, .class_ 1113), (0, u "java/lang/constant/ConstantDesc"), (2, u "serialVersionUID"), (0, u "J"), (3, u "REPL"), (0, u "C"), (2, u "LATIN1"), (1, u "UTF16"), (105, u "(Ljava/lang/StringBuilder;)V")] 217

def k7m0 : Method := { name := "<init>", desc := "()V", sig := { parameters := [], returnType := none }, accessFlags := 1, code := none }
def k7c1 : Code := { maxStack := 5, maxLocals := 2, code := jdk_42_method_3_code, exceptionTable := #[], attributes := #[] }
def k7m1 : Method := { name := "<init>", desc := "([C)V", sig := { parameters := [(.array .char)], returnType := none }, accessFlags := 1, code := some k7c1 }
def k7c2 : Code := { maxStack := 3, maxLocals := 2, code := jdk_42_method_53_code, exceptionTable := #[], attributes := #[] }
def k7m2 : Method := { name := "<init>", desc := "(Ljava/lang/StringBuilder;)V", sig := { parameters := [(.object "java/lang/StringBuilder")], returnType := none }, accessFlags := 1, code := some k7c2 }
def k7c3 : Code := { maxStack := 2, maxLocals := 1, code := jdk_42_method_54_code, exceptionTable := #[], attributes := #[] }
def k7m3 : Method := { name := "length", desc := "()I", sig := { parameters := [], returnType := some .int }, accessFlags := 1, code := some k7c3 }
def k7c4 : Code := { maxStack := 2, maxLocals := 2, code := jdk_42_method_56_code, exceptionTable := #[], attributes := #[] }
def k7m4 : Method := { name := "charAt", desc := "(I)C", sig := { parameters := [.int], returnType := some .char }, accessFlags := 1, code := some k7c4 }
def k7c5 : Code := { maxStack := 4, maxLocals := 6, code := jdk_42_method_149_code, exceptionTable := #[], attributes := #[] }
def k7m5 : Method := { name := "<init>", desc := "([CIILjava/lang/Void;)V", sig := { parameters := [(.array .char), .int, .int, (.object "java/lang/Void")], returnType := none }, accessFlags := 2, code := some k7c5 }
def k7c6 : Code := { maxStack := 5, maxLocals := 5, code := jdk_42_method_150_code, exceptionTable := #[], attributes := #[] }
def k7m6 : Method := { name := "<init>", desc := "(Ljava/lang/AbstractStringBuilder;Ljava/lang/Void;)V", sig := { parameters := [(.object "java/lang/AbstractStringBuilder"), (.object "java/lang/Void")], returnType := none }, accessFlags := 0, code := some k7c6 }
def k7c7 : Code := { maxStack := 1, maxLocals := 1, code := jdk_42_method_152_code, exceptionTable := #[], attributes := #[] }
def k7m7 : Method := { name := "coder", desc := "()B", sig := { parameters := [], returnType := some .byte }, accessFlags := 0, code := some k7c7 }
def k7c8 : Code := { maxStack := 1, maxLocals := 1, code := jdk_42_method_154_code, exceptionTable := #[], attributes := #[] }
def k7m8 : Method := { name := "isLatin1", desc := "()Z", sig := { parameters := [], returnType := some .boolean }, accessFlags := 0, code := some k7c8 }
def k7c9 : Code := { maxStack := 3, maxLocals := 2, code := jdk_42_method_155_code, exceptionTable := #[], attributes := #[] }
def k7m9 : Method := { name := "checkIndex", desc := "(II)V", sig := { parameters := [.int, .int], returnType := none }, accessFlags := 8, code := some k7c9 }
/-- java/lang/String -/
def k7 : Class := { plain "java/lang/String" (some 0) with
  accessFlags := 49
  interfaces := #[2, 3, 4, 5, 6]
  cf := some (fileOf pool7 10 #[.nestMembers #[1103]] #[{ accessFlags := 1, nameIndex := 5, descriptorIndex := 6, attributes := #[] }, { accessFlags := 1, nameIndex := 5, descriptorIndex := 1010, attributes := #[] }, { accessFlags := 1, nameIndex := 5, descriptorIndex := 1233, attributes := #[] }, { accessFlags := 1, nameIndex := 507, descriptorIndex := 334, attributes := #[] }, { accessFlags := 1, nameIndex := 497, descriptorIndex := 427, attributes := #[] }, { accessFlags := 2, nameIndex := 5, descriptorIndex := 29, attributes := #[] }, { accessFlags := 0, nameIndex := 5, descriptorIndex := 491, attributes := #[] }, { accessFlags := 0, nameIndex := 17, descriptorIndex := 337, attributes := #[] }, { accessFlags := 0, nameIndex := 494, descriptorIndex := 142, attributes := #[] }, { accessFlags := 8, nameIndex := 501, descriptorIndex := 391, attributes := #[] }] 49 2 #[1106, 1108, 575, 1110, 1112] #[{ accessFlags := 18, nameIndex := 13, descriptorIndex := 14, attributes := #[] }, { accessFlags := 18, nameIndex := 17, descriptorIndex := 18, attributes := #[] }, { accessFlags := 2, nameIndex := 21, descriptorIndex := 22, attributes := #[] }, { accessFlags := 2, nameIndex := 25, descriptorIndex := 26, attributes := #[] }, { accessFlags := 26, nameIndex := 1116, descriptorIndex := 1117, attributes := #[] }, { accessFlags := 24, nameIndex := 40, descriptorIndex := 26, attributes := #[] }, { accessFlags := 26, nameIndex := 1101, descriptorIndex := 1102, attributes := #[] }, { accessFlags := 26, nameIndex := 1121, descriptorIndex := 1122, attributes := #[] }, { accessFlags := 25, nameIndex := 599, descriptorIndex := 600, attributes := #[] }, { accessFlags := 24, nameIndex := 1125, descriptorIndex := 18, attributes := #[] }, { accessFlags := 24, nameIndex := 1127, descriptorIndex := 18, attributes := #[] }])
  fields := #[{ name := "value", type := (.array .byte), accessFlags := 18, slot := 0, constantValue := 0 }, { name := "coder", type := .byte, accessFlags := 18, slot := 1, constantValue := 0 }, { name := "hash", type := .int, accessFlags := 2, slot := 2, constantValue := 0 }, { name := "hashIsZero", type := .boolean, accessFlags := 2, slot := 3, constantValue := 0 }, { name := "serialVersionUID", type := .long, accessFlags := 26, slot := 0, constantValue := 0 }, { name := "COMPACT_STRINGS", type := .boolean, accessFlags := 24, slot := 1, constantValue := 0 }, { name := "serialPersistentFields", type := (.array (.object "java/io/ObjectStreamField")), accessFlags := 26, slot := 2, constantValue := 0 }, { name := "REPL", type := .char, accessFlags := 26, slot := 3, constantValue := 0 }, { name := "CASE_INSENSITIVE_ORDER", type := (.object "java/util/Comparator"), accessFlags := 25, slot := 4, constantValue := 0 }, { name := "LATIN1", type := .byte, accessFlags := 24, slot := 5, constantValue := 0 }, { name := "UTF16", type := .byte, accessFlags := 24, slot := 6, constantValue := 0 }]
  methods := #[k7m0, k7m1, k7m2, k7m3, k7m4, k7m5, k7m6, k7m7, k7m8, k7m9]
  instanceTypes := #[(.array .byte), .byte, .int, .boolean]
  staticTypes := #[.long, .boolean, (.array (.object "java/io/ObjectStreamField")), .char, (.object "java/util/Comparator"), .byte, .byte]
  resolved := Array.replicate 1451 none
  statics := some 0 }

def pool8 : Array CpInfo := pool [(6, .class_ 8), (1, u "java/lang/Object"), (0, u "<init>"), (0, u "()V"), (1, .class_ 14), (1, u "java/lang/StringUTF16"), (31, u "$assertionsDisabled"), (0, u "Z"), (13, u "HI_BYTE_SHIFT"), (0, u "I"), (2, u "LO_BYTE_SHIFT"), (49, .methodref 12 116), (0, .nameAndType 117 118), (0, u "compress"), (0, u "([CI[BII)I"), (3, u "([CII)[B"), (138, u "coderFromArrayLen"), (0, u "([BI)B"), (106, .class_ 371), (1, u "java/lang/StringUTF16$LinesSpliterator"), (58, u "MAX_LENGTH"), (196, .class_ 628), (0, u "java/lang/StringUTF16$CodePointsSpliterator"), (0, .class_ 630), (0, u "java/lang/StringUTF16$CharsSpliterator")] 4

def k8m0 : Method := { name := "<init>", desc := "()V", sig := { parameters := [], returnType := none }, accessFlags := 0, code := none }
def k8c1 : Code := { maxStack := 2, maxLocals := 2, code := jdk_52_method_15_code, exceptionTable := #[], attributes := #[] }
def k8m1 : Method := { name := "coderFromArrayLen", desc := "([BI)B", sig := { parameters := [(.array .byte), .int], returnType := some .byte }, accessFlags := 8, code := some k8c1 }
def k8c2 : Code := { maxStack := 5, maxLocals := 6, code := jdk_52_method_16_code, exceptionTable := #[], attributes := #[] }
def k8m2 : Method := { name := "compress", desc := "([CII)[B", sig := { parameters := [(.array .char), .int, .int], returnType := some (.array .byte) }, accessFlags := 9, code := some k8c2 }
def k8c3 : Code := { maxStack := 3, maxLocals := 7, code := jdk_52_method_21_code, exceptionTable := #[], attributes := #[] }
def k8m3 : Method := { name := "compress", desc := "([CI[BII)I", sig := { parameters := [(.array .char), .int, (.array .byte), .int, .int], returnType := some .int }, accessFlags := 9, code := some k8c3 }
/-- java/lang/StringUTF16 -/
def k8 : Class := { plain "java/lang/StringUTF16" (some 0) with
  accessFlags := 48
  interfaces := #[]
  cf := some (fileOf pool8 12 #[.nestMembers #[627, 629, 369]] #[{ accessFlags := 0, nameIndex := 9, descriptorIndex := 10, attributes := #[] }, { accessFlags := 8, nameIndex := 261, descriptorIndex := 262, attributes := #[] }, { accessFlags := 9, nameIndex := 117, descriptorIndex := 122, attributes := #[] }, { accessFlags := 9, nameIndex := 117, descriptorIndex := 118, attributes := #[] }] 48 6 #[] #[{ accessFlags := 26, nameIndex := 61, descriptorIndex := 62, attributes := #[] }, { accessFlags := 26, nameIndex := 65, descriptorIndex := 62, attributes := #[] }, { accessFlags := 24, nameIndex := 430, descriptorIndex := 62, attributes := #[] }, { accessFlags := 4120, nameIndex := 46, descriptorIndex := 47, attributes := #[] }])
  fields := #[{ name := "HI_BYTE_SHIFT", type := .int, accessFlags := 26, slot := 0, constantValue := 0 }, { name := "LO_BYTE_SHIFT", type := .int, accessFlags := 26, slot := 1, constantValue := 0 }, { name := "MAX_LENGTH", type := .int, accessFlags := 24, slot := 2, constantValue := 0 }, { name := "$assertionsDisabled", type := .boolean, accessFlags := 4120, slot := 3, constantValue := 0 }]
  methods := #[k8m0, k8m1, k8m2, k8m3]
  instanceTypes := #[]
  staticTypes := #[.int, .int, .int, .boolean]
  resolved := Array.replicate 635 none
  statics := none }

def pool9 : Array CpInfo := pool [(2, .class_ 4), (0, .nameAndType 5 6), (0, u "java/lang/Object"), (0, u "<init>"), (0, u "()V"), (4, .class_ 13), (1, u "com/example/tidewire/tidewire/extender/ManifestHeader"), (18, .class_ 33), (0, u "java/lang/String"), (6, u "unquote"), (0, u "(Ljava/lang/String;)Ljava/lang/String;"), (4, .methodref 32 47), (0, .nameAndType 48 49), (0, u "charAt"), (0, u "(I)C"), (7, u "()Ljava/lang/String;"), (11, .class_ 70), (0, u "com/example/tidewire/tidewire/extender/ManifestHeader$Directive"), (7, .class_ 79), (0, u "com/example/tidewire/tidewire/extender/ManifestHeader$Clause"), (25, .methodref 32 106), (0, .nameAndType 107 108), (0, u "length"), (0, u "()I"), (1, .class_ 111), (0, u "java/lang/StringBuilder"), (0, .methodref 110 3), (0, .methodref 110 114), (0, .nameAndType 115 116), (0, u "append"), (0, u "(C)Ljava/lang/StringBuilder;"), (0, .methodref 110 118), (0, .nameAndType 119 57), (0, u "toString"), (0, u "QUOTE"), (0, u "C"), (2, u "ESCAPE")] 45

def k9m0 : Method := { name := "<init>", desc := "()V", sig := { parameters := [], returnType := none }, accessFlags := 2, code := none }
def k9c1 : Code := { maxStack := 3, maxLocals := 4, code := prog_6_method_5_code, exceptionTable := #[], attributes := #[] }
def k9m1 : Method := { name := "unquote", desc := "(Ljava/lang/String;)Ljava/lang/String;", sig := { parameters := [(.object "java/lang/String")], returnType := some (.object "java/lang/String") }, accessFlags := 8, code := some k9c1 }
/-- com/example/tidewire/tidewire/extender/ManifestHeader -/
def k9 : Class := { plain "com/example/tidewire/tidewire/extender/ManifestHeader" (some 0) with
  accessFlags := 48
  interfaces := #[]
  cf := some (fileOf pool9 11 #[.nestMembers #[69, 78]] #[{ accessFlags := 2, nameIndex := 5, descriptorIndex := 6, attributes := #[] }, { accessFlags := 8, nameIndex := 40, descriptorIndex := 41, attributes := #[] }] 48 2 #[] #[{ accessFlags := 26, nameIndex := 120, descriptorIndex := 121, attributes := #[] }, { accessFlags := 26, nameIndex := 124, descriptorIndex := 121, attributes := #[] }])
  fields := #[{ name := "QUOTE", type := .char, accessFlags := 26, slot := 0, constantValue := 0 }, { name := "ESCAPE", type := .char, accessFlags := 26, slot := 1, constantValue := 0 }]
  methods := #[k9m0, k9m1]
  instanceTypes := #[]
  staticTypes := #[.char, .char]
  resolved := Array.replicate 170 none
  statics := none }

def pool10 : Array CpInfo := pool [(1, .class_ 2), (0, u "java/lang/String"), (1, .class_ 6), (1, u "java/lang/Object"), (0, u "<init>"), (0, u "()V"), (0, .methodref 1 10), (0, .nameAndType 11 12), (0, u "checkIndex"), (0, u "(II)V"), (1, .class_ 16), (1, u "java/lang/StringLatin1"), (36, u "([BI)C"), (36, u "canEncode"), (14, u "(C)Z"), (15, u "$assertionsDisabled"), (0, u "Z"), (98, .class_ 223), (1, u "java/lang/StringLatin1$LinesSpliterator"), (28, u "charAt"), (137, .class_ 391), (0, u "java/lang/StringLatin1$CharsSpliterator")] 3

def k10m0 : Method := { name := "<init>", desc := "()V", sig := { parameters := [], returnType := none }, accessFlags := 0, code := none }
def k10c1 : Code := { maxStack := 2, maxLocals := 2, code := jdk_43_method_2_code, exceptionTable := #[], attributes := #[] }
def k10m1 : Method := { name := "charAt", desc := "([BI)C", sig := { parameters := [(.array .byte), .int], returnType := some .char }, accessFlags := 9, code := some k10c1 }
def k10c2 : Code := { maxStack := 2, maxLocals := 1, code := jdk_43_method_3_code, exceptionTable := #[], attributes := #[] }
def k10m2 : Method := { name := "canEncode", desc := "(C)Z", sig := { parameters := [.char], returnType := some .boolean }, accessFlags := 9, code := some k10c2 }
/-- java/lang/StringLatin1 -/
def k10 : Class := { plain "java/lang/StringLatin1" (some 0) with
  accessFlags := 48
  interfaces := #[]
  cf := some (fileOf pool10 14 #[.nestMembers #[390, 221]] #[{ accessFlags := 0, nameIndex := 7, descriptorIndex := 8, attributes := #[] }, { accessFlags := 9, nameIndex := 252, descriptorIndex := 53, attributes := #[] }, { accessFlags := 9, nameIndex := 90, descriptorIndex := 105, attributes := #[] }] 48 4 #[] #[{ accessFlags := 4120, nameIndex := 121, descriptorIndex := 122, attributes := #[] }])
  fields := #[{ name := "$assertionsDisabled", type := .boolean, accessFlags := 4120, slot := 0, constantValue := 0 }]
  methods := #[k10m0, k10m1, k10m2]
  instanceTypes := #[]
  staticTypes := #[.boolean]
  resolved := Array.replicate 395 none
  statics := none }

def pool11 : Array CpInfo := pool [(2, .class_ 4), (1, u "java/lang/Object"), (0, u "<init>"), (0, u "()V"), (17, .class_ 26), (1, u "jdk/internal/util/Preconditions"), (6, u "checkIndex"), (21, .class_ 56), (0, u "jdk/internal/util/Preconditions$4"), (57, .class_ 115), (0, u "jdk/internal/util/Preconditions$1"), (7, u "SIOOBE_FORMATTER"), (0, u "Ljava/util/function/BiFunction;"), (0, .class_ 126), (0, u "jdk/internal/util/Preconditions$2"), (3, u "AIOOBE_FORMATTER"), (0, .class_ 132), (0, u "jdk/internal/util/Preconditions$3"), (3, u "IOOBE_FORMATTER"), (41, u "(IILjava/util/function/BiFunction;)I")] 15

def k11m0 : Method := { name := "<init>", desc := "()V", sig := { parameters := [], returnType := none }, accessFlags := 1, code := none }
def k11c1 : Code := { maxStack := 3, maxLocals := 3, code := jdk_41_method_11_code, exceptionTable := #[], attributes := #[] }
def k11m1 : Method := { name := "checkIndex", desc := "(IILjava/util/function/BiFunction;)I", sig := { parameters := [.int, .int, (.object "java/util/function/BiFunction")], returnType := some .int }, accessFlags := 9, code := some k11c1 }
/-- jdk/internal/util/Preconditions -/
def k11 : Class := { plain "jdk/internal/util/Preconditions" (some 0) with
  accessFlags := 33
  interfaces := #[]
  cf := some (fileOf pool11 24 #[.nestMembers #[55, 131, 125, 114]] #[{ accessFlags := 1, nameIndex := 5, descriptorIndex := 6, attributes := #[] }, { accessFlags := 9, nameIndex := 33, descriptorIndex := 178, attributes := #[] }] 33 2 #[] #[{ accessFlags := 25, nameIndex := 123, descriptorIndex := 124, attributes := #[] }, { accessFlags := 25, nameIndex := 130, descriptorIndex := 124, attributes := #[] }, { accessFlags := 25, nameIndex := 136, descriptorIndex := 124, attributes := #[] }])
  fields := #[{ name := "SIOOBE_FORMATTER", type := (.object "java/util/function/BiFunction"), accessFlags := 25, slot := 0, constantValue := 0 }, { name := "AIOOBE_FORMATTER", type := (.object "java/util/function/BiFunction"), accessFlags := 25, slot := 1, constantValue := 0 }, { name := "IOOBE_FORMATTER", type := (.object "java/util/function/BiFunction"), accessFlags := 25, slot := 2, constantValue := 0 }]
  methods := #[k11m0, k11m1]
  instanceTypes := #[]
  staticTypes := #[(.object "java/util/function/BiFunction"), (.object "java/util/function/BiFunction"), (.object "java/util/function/BiFunction")]
  resolved := Array.replicate 194 none
  statics := some 1 }

def pool12 : Array CpInfo := pool [(1, .class_ 2), (0, u "java/lang/Appendable"), (0, .class_ 4), (0, u "java/lang/Object")] 9

/-- java/lang/Appendable -/
def k12 : Class := { plain "java/lang/Appendable" (some 0) with
  accessFlags := 1537
  interfaces := #[]
  cf := some (fileOf pool12 1 #[] #[] 1537 3 #[] #[])
  fields := #[]
  methods := #[]
  instanceTypes := #[]
  staticTypes := #[]
  resolved := Array.replicate 14 none
  statics := none }

def pool13 : Array CpInfo := pool [(1, .class_ 2), (0, u "java/lang/String"), (0, .methodref 4 5), (0, .class_ 6), (0, .nameAndType 7 8), (0, u "java/lang/Object"), (0, u "<init>"), (0, u "()V"), (1, .class_ 12), (1, u "java/lang/AbstractStringBuilder"), (0, u "EMPTYVALUE"), (0, u "[B"), (0, .fieldref 10 16), (0, .nameAndType 17 14), (0, u "value"), (0, .fieldref 1 19), (0, .nameAndType 20 21), (0, u "COMPACT_STRINGS"), (0, u "Z"), (0, .fieldref 10 23), (0, .nameAndType 24 25), (0, u "coder"), (0, u "B"), (8, u "length"), (0, u "()I"), (9, u "append"), (2, .class_ 49), (0, u "java/lang/CharSequence"), (25, u "maybeLatin1"), (3, .fieldref 10 80), (0, .nameAndType 81 82), (0, u "count"), (0, u "I"), (0, .methodref 10 84), (0, .nameAndType 85 86), (0, u "isLatin1"), (0, u "()Z"), (1, .class_ 90), (1, u "java/lang/StringLatin1"), (9, .methodref 10 101), (0, .nameAndType 102 103), (0, u "ensureCapacityInternal"), (0, u "(I)V"), (87, .methodref 88 192), (0, .nameAndType 193 194), (0, u "canEncode"), (0, u "(C)Z"), (97, u "(C)Ljava/lang/AbstractStringBuilder;"), (110, u "()[B"), (40, .class_ 445), (0, u "java/lang/Appendable"), (106, u "getValue")] 56

def k13m0 : Method := { name := "<init>", desc := "()V", sig := { parameters := [], returnType := none }, accessFlags := 0, code := none }
def k13c1 : Code := { maxStack := 2, maxLocals := 2, code := jdk_68_method_2_code, exceptionTable := #[], attributes := #[] }
def k13m1 : Method := { name := "<init>", desc := "(I)V", sig := { parameters := [.int], returnType := none }, accessFlags := 0, code := some k13c1 }
def k13c2 : Code := { maxStack := 1, maxLocals := 1, code := jdk_68_method_6_code, exceptionTable := #[], attributes := #[] }
def k13m2 : Method := { name := "length", desc := "()I", sig := { parameters := [], returnType := some .int }, accessFlags := 1, code := some k13c2 }
def k13c3 : Code := { maxStack := 4, maxLocals := 3, code := jdk_68_method_9_code, exceptionTable := #[], attributes := #[] }
def k13m3 : Method := { name := "ensureCapacityInternal", desc := "(I)V", sig := { parameters := [.int], returnType := none }, accessFlags := 2, code := some k13c3 }
def k13c4 : Code := { maxStack := 5, maxLocals := 2, code := jdk_68_method_31_code, exceptionTable := #[], attributes := #[] }
def k13m4 : Method := { name := "append", desc := "(C)Ljava/lang/AbstractStringBuilder;", sig := { parameters := [.char], returnType := some (.object "java/lang/AbstractStringBuilder") }, accessFlags := 1, code := some k13c4 }
def k13c5 : Code := { maxStack := 1, maxLocals := 1, code := jdk_68_method_64_code, exceptionTable := #[], attributes := #[] }
def k13m5 : Method := { name := "getValue", desc := "()[B", sig := { parameters := [], returnType := some (.array .byte) }, accessFlags := 16, code := some k13c5 }
def k13c6 : Code := { maxStack := 1, maxLocals := 1, code := jdk_68_method_68_code, exceptionTable := #[], attributes := #[] }
def k13m6 : Method := { name := "isLatin1", desc := "()Z", sig := { parameters := [], returnType := some .boolean }, accessFlags := 16, code := some k13c6 }
/-- java/lang/AbstractStringBuilder -/
def k13 : Class := { plain "java/lang/AbstractStringBuilder" (some 0) with
  accessFlags := 1056
  interfaces := #[12, 4]
  cf := some (fileOf pool13 10 #[] #[{ accessFlags := 0, nameIndex := 7, descriptorIndex := 8, attributes := #[] }, { accessFlags := 0, nameIndex := 7, descriptorIndex := 103, attributes := #[] }, { accessFlags := 1, nameIndex := 34, descriptorIndex := 35, attributes := #[] }, { accessFlags := 2, nameIndex := 102, descriptorIndex := 103, attributes := #[] }, { accessFlags := 1, nameIndex := 45, descriptorIndex := 292, attributes := #[] }, { accessFlags := 16, nameIndex := 552, descriptorIndex := 403, attributes := #[] }, { accessFlags := 16, nameIndex := 85, descriptorIndex := 86, attributes := #[] }] 1056 4 #[444, 48] #[{ accessFlags := 0, nameIndex := 17, descriptorIndex := 14, attributes := #[] }, { accessFlags := 0, nameIndex := 24, descriptorIndex := 25, attributes := #[] }, { accessFlags := 0, nameIndex := 75, descriptorIndex := 21, attributes := #[] }, { accessFlags := 0, nameIndex := 81, descriptorIndex := 82, attributes := #[] }, { accessFlags := 26, nameIndex := 13, descriptorIndex := 14, attributes := #[] }])
  fields := #[{ name := "value", type := (.array .byte), accessFlags := 0, slot := 0, constantValue := 0 }, { name := "coder", type := .byte, accessFlags := 0, slot := 1, constantValue := 0 }, { name := "maybeLatin1", type := .boolean, accessFlags := 0, slot := 2, constantValue := 0 }, { name := "count", type := .int, accessFlags := 0, slot := 3, constantValue := 0 }, { name := "EMPTYVALUE", type := (.array .byte), accessFlags := 26, slot := 0, constantValue := 0 }]
  methods := #[k13m0, k13m1, k13m2, k13m3, k13m4, k13m5, k13m6]
  instanceTypes := #[(.array .byte), .byte, .boolean, .int]
  staticTypes := #[(.array .byte)]
  resolved := Array.replicate 609 none
  statics := none }

def pool14 : Array CpInfo := pool [(1, .methodref 2 3), (0, .class_ 4), (0, .nameAndType 5 6), (0, u "java/lang/AbstractStringBuilder"), (0, u "<init>"), (0, u "(I)V"), (11, .class_ 20), (1, u "java/lang/String"), (3, .class_ 26), (1, u "java/lang/StringBuilder"), (0, u "append"), (22, .methodref 2 51), (0, .nameAndType 27 52), (0, u "(C)Ljava/lang/AbstractStringBuilder;"), (84, .methodref 18 138), (0, .nameAndType 5 139), (0, u "(Ljava/lang/StringBuilder;)V"), (5, u "()V"), (10, u "()I"), (129, u "(C)Ljava/lang/StringBuilder;"), (56, .methodref 2 344), (0, .nameAndType 345 156), (0, u "length"), (3, .class_ 350), (0, u "java/lang/Appendable"), (0, .class_ 352), (0, u "java/io/Serializable"), (0, .class_ 354), (0, u "java/lang/Comparable"), (0, .class_ 356), (0, u "java/lang/CharSequence"), (0, u "serialVersionUID"), (0, u "J"), (40, u "toString"), (0, u "()Ljava/lang/String;")] 21

def k14c0 : Code := { maxStack := 2, maxLocals := 1, code := jdk_67_method_1_code, exceptionTable := #[], attributes := #[] }
def k14m0 : Method := { name := "<init>", desc := "()V", sig := { parameters := [], returnType := none }, accessFlags := 1, code := some k14c0 }
def k14c1 : Code := { maxStack := 2, maxLocals := 2, code := jdk_67_method_14_code, exceptionTable := #[], attributes := #[] }
def k14m1 : Method := { name := "append", desc := "(C)Ljava/lang/StringBuilder;", sig := { parameters := [.char], returnType := some (.object "java/lang/StringBuilder") }, accessFlags := 1, code := some k14c1 }
def k14c2 : Code := { maxStack := 3, maxLocals := 1, code := jdk_67_method_42_code, exceptionTable := #[], attributes := #[] }
def k14m2 : Method := { name := "toString", desc := "()Ljava/lang/String;", sig := { parameters := [], returnType := some (.object "java/lang/String") }, accessFlags := 1, code := some k14c2 }
def k14c3 : Code := { maxStack := 1, maxLocals := 1, code := jdk_67_method_93_code, exceptionTable := #[], attributes := #[] }
def k14m3 : Method := { name := "length", desc := "()I", sig := { parameters := [], returnType := some .int }, accessFlags := 4161, code := some k14c3 }
/-- java/lang/StringBuilder -/
def k14 : Class := { plain "java/lang/StringBuilder" (some 13) with
  accessFlags := 49
  interfaces := #[12, 2, 3, 4]
  cf := some (fileOf pool14 24 #[] #[{ accessFlags := 1, nameIndex := 5, descriptorIndex := 145, attributes := #[] }, { accessFlags := 1, nameIndex := 27, descriptorIndex := 286, attributes := #[] }, { accessFlags := 1, nameIndex := 399, descriptorIndex := 400, attributes := #[] }, { accessFlags := 4161, nameIndex := 345, descriptorIndex := 156, attributes := #[] }] 49 2 #[349, 351, 353, 355] #[{ accessFlags := 24, nameIndex := 357, descriptorIndex := 358, attributes := #[] }])
  fields := #[{ name := "serialVersionUID", type := .long, accessFlags := 24, slot := 0, constantValue := 0 }]
  methods := #[k14m0, k14m1, k14m2, k14m3]
  instanceTypes := #[(.array .byte), .byte, .boolean, .int]
  staticTypes := #[.long]
  resolved := Array.replicate 422 none
  statics := none }

def pool15 : Array CpInfo := pool [(2, .class_ 4), (1, u "java/lang/Object"), (0, u "<init>"), (0, u "()V"), (7, .class_ 16), (1, u "java/util/Arrays"), (57, .class_ 76), (1, u "java/util/Arrays$NaturalOrder"), (36, .class_ 115), (1, u "java/util/Arrays$LegacyMergeSort"), (1, u "Z"), (21, u "copyOfRange"), (10, .methodref 151 152), (0, .class_ 153), (0, .nameAndType 154 155), (0, u "java/lang/System"), (0, u "arraycopy"), (0, u "(Ljava/lang/Object;ILjava/lang/Object;II)V"), (148, .methodref 305 306), (0, .class_ 307), (0, .nameAndType 308 309), (0, u "java/lang/Math"), (0, u "min"), (0, u "(II)I"), (29, .methodref 14 340), (0, .nameAndType 341 342), (0, u "copyOfRangeByte"), (0, u "([BII)[B"), (0, .methodref 14 344), (0, .nameAndType 345 346), (0, u "checkLength"), (0, u "(II)V"), (28, .class_ 376), (0, u "java/util/Arrays$ArrayList"), (68, u "$assertionsDisabled"), (269, u "MIN_ARRAY_SORT_GRAN"), (0, u "I"), (2, u "INSERTIONSORT_THRESHOLD"), (255, .class_ 976), (0, u "java/util/Arrays$ArrayItr")] 52

def k15m0 : Method := { name := "<init>", desc := "()V", sig := { parameters := [], returnType := none }, accessFlags := 2, code := none }
def k15c1 : Code := { maxStack := 4, maxLocals := 2, code := jdk_65_method_131_code, exceptionTable := #[], attributes := #[] }
def k15m1 : Method := { name := "checkLength", desc := "(II)V", sig := { parameters := [.int, .int], returnType := none }, accessFlags := 10, code := some k15c1 }
def k15c2 : Code := { maxStack := 3, maxLocals := 3, code := jdk_65_method_132_code, exceptionTable := #[], attributes := #[] }
def k15m2 : Method := { name := "copyOfRange", desc := "([BII)[B", sig := { parameters := [(.array .byte), .int, .int], returnType := some (.array .byte) }, accessFlags := 9, code := some k15c2 }
def k15c3 : Code := { maxStack := 6, maxLocals := 5, code := jdk_65_method_133_code, exceptionTable := #[], attributes := #[] }
def k15m3 : Method := { name := "copyOfRangeByte", desc := "([BII)[B", sig := { parameters := [(.array .byte), .int, .int], returnType := some (.array .byte) }, accessFlags := 10, code := some k15c3 }
/-- java/util/Arrays -/
def k15 : Class := { plain "java/util/Arrays" (some 0) with
  accessFlags := 49
  interfaces := #[]
  cf := some (fileOf pool15 14 #[.nestMembers #[975, 375, 113, 74]] #[{ accessFlags := 2, nameIndex := 5, descriptorIndex := 6, attributes := #[] }, { accessFlags := 10, nameIndex := 345, descriptorIndex := 346, attributes := #[] }, { accessFlags := 9, nameIndex := 139, descriptorIndex := 342, attributes := #[] }, { accessFlags := 10, nameIndex := 341, descriptorIndex := 342, attributes := #[] }] 49 2 #[] #[{ accessFlags := 26, nameIndex := 715, descriptorIndex := 716, attributes := #[] }, { accessFlags := 26, nameIndex := 719, descriptorIndex := 716, attributes := #[] }, { accessFlags := 4120, nameIndex := 445, descriptorIndex := 117, attributes := #[] }])
  fields := #[{ name := "MIN_ARRAY_SORT_GRAN", type := .int, accessFlags := 26, slot := 0, constantValue := 0 }, { name := "INSERTIONSORT_THRESHOLD", type := .int, accessFlags := 26, slot := 1, constantValue := 0 }, { name := "$assertionsDisabled", type := .boolean, accessFlags := 4120, slot := 2, constantValue := 0 }]
  methods := #[k15m0, k15m1, k15m2, k15m3]
  instanceTypes := #[]
  staticTypes := #[.int, .int, .boolean]
  resolved := Array.replicate 1029 none
  statics := none }

def pool16 : Array CpInfo := pool [(1, .class_ 2), (0, u "java/lang/Math"), (1, .class_ 6), (1, u "java/lang/Object"), (0, u "<init>"), (0, u "()V"), (89, .class_ 100), (1, u "java/lang/Math$RandomNumberGeneratorHolder"), (71, u "negativeZeroFloatBits"), (0, u "J"), (2, u "negativeZeroDoubleBits"), (24, u "min"), (43, u "$assertionsDisabled"), (0, u "Z"), (88, u "(II)I"), (2, u "twoToTheDoubleScaleDown"), (0, u "D"), (4, u "twoToTheDoubleScaleUp"), (9, u "E"), (3, u "PI"), (2, u "TAU"), (2, u "DEGREES_TO_RADIANS"), (0, u "RADIANS_TO_DEGREES")] 94

def k16m0 : Method := { name := "<init>", desc := "()V", sig := { parameters := [], returnType := none }, accessFlags := 2, code := none }
def k16c1 : Code := { maxStack := 2, maxLocals := 2, code := jdk_29_method_69_code, exceptionTable := #[], attributes := #[] }
def k16m1 : Method := { name := "min", desc := "(II)I", sig := { parameters := [.int, .int], returnType := some .int }, accessFlags := 9, code := some k16c1 }
/-- java/lang/Math -/
def k16 : Class := { plain "java/lang/Math" (some 0) with
  accessFlags := 49
  interfaces := #[]
  cf := some (fileOf pool16 1 #[.nestMembers #[98]] #[{ accessFlags := 2, nameIndex := 7, descriptorIndex := 8, attributes := #[] }, { accessFlags := 9, nameIndex := 201, descriptorIndex := 335, attributes := #[] }] 49 4 #[] #[{ accessFlags := 25, nameIndex := 354, descriptorIndex := 339, attributes := #[] }, { accessFlags := 25, nameIndex := 358, descriptorIndex := 339, attributes := #[] }, { accessFlags := 25, nameIndex := 361, descriptorIndex := 339, attributes := #[] }, { accessFlags := 26, nameIndex := 364, descriptorIndex := 339, attributes := #[] }, { accessFlags := 26, nameIndex := 365, descriptorIndex := 339, attributes := #[] }, { accessFlags := 26, nameIndex := 172, descriptorIndex := 173, attributes := #[] }, { accessFlags := 26, nameIndex := 176, descriptorIndex := 173, attributes := #[] }, { accessFlags := 8, nameIndex := 344, descriptorIndex := 339, attributes := #[] }, { accessFlags := 8, nameIndex := 338, descriptorIndex := 339, attributes := #[] }, { accessFlags := 4120, nameIndex := 245, descriptorIndex := 246, attributes := #[] }])
  fields := #[{ name := "E", type := .double, accessFlags := 25, slot := 0, constantValue := 0 }, { name := "PI", type := .double, accessFlags := 25, slot := 1, constantValue := 0 }, { name := "TAU", type := .double, accessFlags := 25, slot := 2, constantValue := 0 }, { name := "DEGREES_TO_RADIANS", type := .double, accessFlags := 26, slot := 3, constantValue := 0 }, { name := "RADIANS_TO_DEGREES", type := .double, accessFlags := 26, slot := 4, constantValue := 0 }, { name := "negativeZeroFloatBits", type := .long, accessFlags := 26, slot := 5, constantValue := 0 }, { name := "negativeZeroDoubleBits", type := .long, accessFlags := 26, slot := 6, constantValue := 0 }, { name := "twoToTheDoubleScaleUp", type := .double, accessFlags := 8, slot := 7, constantValue := 0 }, { name := "twoToTheDoubleScaleDown", type := .double, accessFlags := 8, slot := 8, constantValue := 0 }, { name := "$assertionsDisabled", type := .boolean, accessFlags := 4120, slot := 9, constantValue := 0 }]
  methods := #[k16m0, k16m1]
  instanceTypes := #[]
  staticTypes := #[.double, .double, .double, .double, .double, .long, .long, .double, .double, .boolean]
  resolved := Array.replicate 460 none
  statics := none }

def pool17 : Array CpInfo := pool [(2, .class_ 4), (1, u "java/lang/Object"), (0, u "<init>"), (0, u "()V"), (1, .class_ 10), (1, u "java/lang/System"), (0, u "allowSecurityManager"), (0, u "I"), (16, u "cons"), (0, u "Ljava/io/Console;"), (77, .class_ 110), (1, u "java/lang/System$CallersHolder"), (43, u "initialErrStream"), (0, u "Ljava/io/PrintStream;"), (19, u "security"), (0, u "Ljava/lang/SecurityManager;"), (31, .class_ 209), (0, u "java/lang/System$1"), (7, u "props"), (0, u "Ljava/util/Properties;"), (2, u "lineSeparator"), (0, u "Ljava/lang/String;"), (96, .class_ 321), (1, u "java/lang/System$LoggerFinder"), (5, .class_ 328), (0, u "java/lang/System$Logger"), (67, u "err"), (2, u "out"), (91, u "notSupportedJnuEncoding"), (15, u "in"), (17, u "initialIn"), (0, u "Ljava/io/InputStream;"), (35, u "bootLayer"), (0, u "Ljava/lang/ModuleLayer;"), (99, .class_ 664), (0, u "java/lang/System$2"), (9, u "NEVER"), (2, u "MAYBE"), (49, u "arraycopy"), (0, u "(Ljava/lang/Object;ILjava/lang/Object;II)V"), (72, .class_ 802), (0, u "java/lang/System$Logger$Level")] 31

def k17m0 : Method := { name := "<init>", desc := "()V", sig := { parameters := [], returnType := none }, accessFlags := 2, code := none }
def k17m1 : Method := { name := "arraycopy", desc := "(Ljava/lang/Object;ILjava/lang/Object;II)V", sig := { parameters := [(.object "java/lang/Object"), .int, (.object "java/lang/Object"), .int, .int], returnType := none }, accessFlags := 265, code := none }
/-- java/lang/System -/
def k17 : Class := { plain "java/lang/System" (some 0) with
  accessFlags := 49
  interfaces := #[]
  cf := some (fileOf pool17 8 #[.nestMembers #[319, 327, 801, 108, 663, 208]] #[{ accessFlags := 2, nameIndex := 5, descriptorIndex := 6, attributes := #[] }, { accessFlags := 265, nameIndex := 727, descriptorIndex := 728, attributes := #[] }] 49 2 #[] #[{ accessFlags := 25, nameIndex := 507, descriptorIndex := 526, attributes := #[] }, { accessFlags := 25, nameIndex := 399, descriptorIndex := 155, attributes := #[] }, { accessFlags := 25, nameIndex := 396, descriptorIndex := 155, attributes := #[] }, { accessFlags := 10, nameIndex := 525, descriptorIndex := 526, attributes := #[] }, { accessFlags := 26, nameIndex := 674, descriptorIndex := 12, attributes := #[] }, { accessFlags := 26, nameIndex := 677, descriptorIndex := 12, attributes := #[] }, { accessFlags := 10, nameIndex := 11, descriptorIndex := 12, attributes := #[] }, { accessFlags := 74, nameIndex := 175, descriptorIndex := 176, attributes := #[] }, { accessFlags := 10, nameIndex := 491, descriptorIndex := 222, attributes := #[] }, { accessFlags := 74, nameIndex := 29, descriptorIndex := 30, attributes := #[] }, { accessFlags := 74, nameIndex := 154, descriptorIndex := 155, attributes := #[] }, { accessFlags := 10, nameIndex := 217, descriptorIndex := 218, attributes := #[] }, { accessFlags := 10, nameIndex := 221, descriptorIndex := 222, attributes := #[] }, { accessFlags := 8, nameIndex := 562, descriptorIndex := 563, attributes := #[] }])
  fields := #[{ name := "in", type := (.object "java/io/InputStream"), accessFlags := 25, slot := 0, constantValue := 0 }, { name := "out", type := (.object "java/io/PrintStream"), accessFlags := 25, slot := 1, constantValue := 0 }, { name := "err", type := (.object "java/io/PrintStream"), accessFlags := 25, slot := 2, constantValue := 0 }, { name := "initialIn", type := (.object "java/io/InputStream"), accessFlags := 10, slot := 3, constantValue := 0 }, { name := "NEVER", type := .int, accessFlags := 26, slot := 4, constantValue := 0 }, { name := "MAYBE", type := .int, accessFlags := 26, slot := 5, constantValue := 0 }, { name := "allowSecurityManager", type := .int, accessFlags := 10, slot := 6, constantValue := 0 }, { name := "security", type := (.object "java/lang/SecurityManager"), accessFlags := 74, slot := 7, constantValue := 0 }, { name := "notSupportedJnuEncoding", type := (.object "java/lang/String"), accessFlags := 10, slot := 8, constantValue := 0 }, { name := "cons", type := (.object "java/io/Console"), accessFlags := 74, slot := 9, constantValue := 0 }, { name := "initialErrStream", type := (.object "java/io/PrintStream"), accessFlags := 74, slot := 10, constantValue := 0 }, { name := "props", type := (.object "java/util/Properties"), accessFlags := 10, slot := 11, constantValue := 0 }, { name := "lineSeparator", type := (.object "java/lang/String"), accessFlags := 10, slot := 12, constantValue := 0 }, { name := "bootLayer", type := (.object "java/lang/ModuleLayer"), accessFlags := 8, slot := 13, constantValue := 0 }]
  methods := #[k17m0, k17m1]
  instanceTypes := #[]
  staticTypes := #[(.object "java/io/InputStream"), (.object "java/io/PrintStream"), (.object "java/io/PrintStream"), (.object "java/io/InputStream"), .int, .int, .int, (.object "java/lang/SecurityManager"), (.object "java/lang/String"), (.object "java/io/Console"), (.object "java/io/PrintStream"), (.object "java/util/Properties"), (.object "java/lang/String"), (.object "java/lang/ModuleLayer")]
  resolved := Array.replicate 834 none
  statics := none }

def pool18 : Array CpInfo := pool [(9, u "<init>"), (6, .class_ 18), (1, u "java/lang/Object"), (0, u "()V"), (1, .class_ 23), (1, u "jdk/internal/util/ArraysSupport"), (0, u "LOG2_ARRAY_LONG_INDEX_SCALE"), (0, u "I"), (2, u "U"), (0, u "Ljdk/internal/misc/Unsafe;"), (8, u "BIG_ENDIAN"), (0, u "Z"), (8, u "LOG2_BYTE_BIT_SIZE"), (4, u "LOG2_ARRAY_INT_INDEX_SCALE"), (54, u "JLA"), (0, u "Ljdk/internal/access/JavaLangAccess;"), (11, u "LOG2_ARRAY_BOOLEAN_INDEX_SCALE"), (9, u "LOG2_ARRAY_BYTE_INDEX_SCALE"), (5, u "LOG2_ARRAY_CHAR_INDEX_SCALE"), (5, u "LOG2_ARRAY_SHORT_INDEX_SCALE"), (18, u "LOG2_ARRAY_FLOAT_INDEX_SCALE"), (24, u "LOG2_ARRAY_DOUBLE_INDEX_SCALE"), (89, u "T_BOOLEAN"), (2, u "T_CHAR"), (1, u "T_FLOAT"), (1, u "T_DOUBLE"), (1, u "T_BYTE"), (1, u "T_SHORT"), (1, u "T_INT"), (1, u "T_LONG"), (1, u "SOFT_MAX_ARRAY_LENGTH")] 83

def k18m0 : Method := { name := "<init>", desc := "()V", sig := { parameters := [], returnType := none }, accessFlags := 2, code := none }
/-- jdk/internal/util/ArraysSupport -/
def k18 : Class := { plain "jdk/internal/util/ArraysSupport" (some 0) with
  accessFlags := 33
  interfaces := #[]
  cf := some (fileOf pool18 21 #[] #[{ accessFlags := 2, nameIndex := 9, descriptorIndex := 19, attributes := #[] }] 33 16 #[] #[{ accessFlags := 24, nameIndex := 28, descriptorIndex := 29, attributes := #[] }, { accessFlags := 26, nameIndex := 38, descriptorIndex := 39, attributes := #[] }, { accessFlags := 25, nameIndex := 121, descriptorIndex := 25, attributes := #[] }, { accessFlags := 25, nameIndex := 131, descriptorIndex := 25, attributes := #[] }, { accessFlags := 25, nameIndex := 137, descriptorIndex := 25, attributes := #[] }, { accessFlags := 25, nameIndex := 143, descriptorIndex := 25, attributes := #[] }, { accessFlags := 25, nameIndex := 53, descriptorIndex := 25, attributes := #[] }, { accessFlags := 25, nameIndex := 24, descriptorIndex := 25, attributes := #[] }, { accessFlags := 25, nameIndex := 162, descriptorIndex := 25, attributes := #[] }, { accessFlags := 25, nameIndex := 187, descriptorIndex := 25, attributes := #[] }, { accessFlags := 26, nameIndex := 48, descriptorIndex := 25, attributes := #[] }, { accessFlags := 25, nameIndex := 277, descriptorIndex := 25, attributes := #[] }, { accessFlags := 25, nameIndex := 280, descriptorIndex := 25, attributes := #[] }, { accessFlags := 25, nameIndex := 282, descriptorIndex := 25, attributes := #[] }, { accessFlags := 25, nameIndex := 284, descriptorIndex := 25, attributes := #[] }, { accessFlags := 25, nameIndex := 286, descriptorIndex := 25, attributes := #[] }, { accessFlags := 25, nameIndex := 288, descriptorIndex := 25, attributes := #[] }, { accessFlags := 25, nameIndex := 290, descriptorIndex := 25, attributes := #[] }, { accessFlags := 25, nameIndex := 292, descriptorIndex := 25, attributes := #[] }, { accessFlags := 26, nameIndex := 108, descriptorIndex := 109, attributes := #[] }, { accessFlags := 25, nameIndex := 294, descriptorIndex := 25, attributes := #[] }])
  fields := #[{ name := "U", type := (.object "jdk/internal/misc/Unsafe"), accessFlags := 24, slot := 0, constantValue := 0 }, { name := "BIG_ENDIAN", type := .boolean, accessFlags := 26, slot := 1, constantValue := 0 }, { name := "LOG2_ARRAY_BOOLEAN_INDEX_SCALE", type := .int, accessFlags := 25, slot := 2, constantValue := 0 }, { name := "LOG2_ARRAY_BYTE_INDEX_SCALE", type := .int, accessFlags := 25, slot := 3, constantValue := 0 }, { name := "LOG2_ARRAY_CHAR_INDEX_SCALE", type := .int, accessFlags := 25, slot := 4, constantValue := 0 }, { name := "LOG2_ARRAY_SHORT_INDEX_SCALE", type := .int, accessFlags := 25, slot := 5, constantValue := 0 }, { name := "LOG2_ARRAY_INT_INDEX_SCALE", type := .int, accessFlags := 25, slot := 6, constantValue := 0 }, { name := "LOG2_ARRAY_LONG_INDEX_SCALE", type := .int, accessFlags := 25, slot := 7, constantValue := 0 }, { name := "LOG2_ARRAY_FLOAT_INDEX_SCALE", type := .int, accessFlags := 25, slot := 8, constantValue := 0 }, { name := "LOG2_ARRAY_DOUBLE_INDEX_SCALE", type := .int, accessFlags := 25, slot := 9, constantValue := 0 }, { name := "LOG2_BYTE_BIT_SIZE", type := .int, accessFlags := 26, slot := 10, constantValue := 0 }, { name := "T_BOOLEAN", type := .int, accessFlags := 25, slot := 11, constantValue := 0 }, { name := "T_CHAR", type := .int, accessFlags := 25, slot := 12, constantValue := 0 }, { name := "T_FLOAT", type := .int, accessFlags := 25, slot := 13, constantValue := 0 }, { name := "T_DOUBLE", type := .int, accessFlags := 25, slot := 14, constantValue := 0 }, { name := "T_BYTE", type := .int, accessFlags := 25, slot := 15, constantValue := 0 }, { name := "T_SHORT", type := .int, accessFlags := 25, slot := 16, constantValue := 0 }, { name := "T_INT", type := .int, accessFlags := 25, slot := 17, constantValue := 0 }, { name := "T_LONG", type := .int, accessFlags := 25, slot := 18, constantValue := 0 }, { name := "JLA", type := (.object "jdk/internal/access/JavaLangAccess"), accessFlags := 26, slot := 19, constantValue := 0 }, { name := "SOFT_MAX_ARRAY_LENGTH", type := .int, accessFlags := 25, slot := 20, constantValue := 0 }]
  methods := #[k18m0]
  instanceTypes := #[]
  staticTypes := #[(.object "jdk/internal/misc/Unsafe"), .boolean, .int, .int, .int, .int, .int, .int, .int, .int, .int, .int, .int, .int, .int, .int, .int, .int, .int, (.object "jdk/internal/access/JavaLangAccess"), .int]
  resolved := Array.replicate 378 none
  statics := none }

def pool19 : Array CpInfo := pool [(1, u "java/lang/Cloneable"), (0, .class_ 1), (0, u "java/lang/Object"), (0, .class_ 3)] 3

/-- java/lang/Cloneable -/
def k19 : Class := { plain "java/lang/Cloneable" (some 0) with
  accessFlags := 1537
  interfaces := #[]
  cf := some (fileOf pool19 2 #[] #[] 1537 4 #[] #[])
  fields := #[]
  methods := #[]
  instanceTypes := #[]
  staticTypes := #[]
  resolved := Array.replicate 8 none
  statics := none }

/-- the primitive byte -/
def k20 : Class := { plain "byte" none with kind := .primitive 'B', accessFlags := 0x411 }
/-- [B -/
def k21 : Class := { plain "[B" (some 0) with kind := .array 20 .byte, interfaces := #[19, 2], accessFlags := 1041 }

/-- the primitive char -/
def k22 : Class := { plain "char" none with kind := .primitive 'C', accessFlags := 0x411 }
/-- [C -/
def k23 : Class := { plain "[C" (some 0) with kind := .array 22 .char, interfaces := #[19, 2], accessFlags := 1041 }

/-- the primitive int -/
def k24 : Class := { plain "int" none with kind := .primitive 'I', accessFlags := 0x411 }
/-- [I -/
def k25 : Class := { plain "[I" (some 0) with kind := .array 24 .int, interfaces := #[19, 2], accessFlags := 1041 }

def heap : Heap := #[{ cls := 7, slots := #[.long 0, .int 1, .null, .int 0, .null, .int 0, .int 0], vm := .statics 7 },
  { cls := 11, slots := #[.null, .null, .null], vm := .statics 11 }]
def classes : Array Class := #[k0, k1, k2, k3, k4, k5, k6, k7, k8, k9, k10, k11, k12, k13, k14, k15, k16, k17, k18, k19, k20, k21, k22, k23, k24, k25]
def interned : List (Array UInt16 × Addr) := []
def slotsUsed : Nat := 10
def theMethod : MethodId := ⟨1, 5⟩
def args0 : Array Value := #[.long 5, .int 3]
def aboutOver (below : List Frame) : State where
  vm := { classes := classes, interned := interned.toArray }
  heap := heap
  slotsUsed := slotsUsed
  threads := #[{ frames := .invoking theMethod args0 :: below }]
def below0 : List Frame := [.native { method := ⟨0, 0⟩, args := #[] }]
def about1 : State := aboutOver below0
def p0 : Program := .bare "" "" ""
def e0 : Env := launch0.env 0 0 0
theorem w_frames : about1.frames = Frame.invoking theMethod args0 :: below0 := rfl
set_option maxRecDepth 65536 in
theorem w_args : argsFit about1.vm theMethod args0 = true := by decide +kernel
set_option maxRecDepth 65536 in
theorem w_heap : heapFits about1 = true := by decide +kernel
set_option maxRecDepth 65536 in
theorem w_runnable : about1.curStatus? = some .runnable := by decide +kernel
set_option maxRecDepth 65536 in
theorem w_alone : about1.alone = true := by decide +kernel
set_option maxRecDepth 65536 in
theorem w_named : about1.methodNamed? x = some theMethod := by decide +kernel
set_option maxRecDepth 65536 in
theorem w_hears : about1.hears theMethod below0 = true := by decide +kernel
set_option maxRecDepth 65536 in
theorem w_ripe : about1.ripe theMethod args0 below0 = true := by decide +kernel
theorem w_running : about1.status = .running := rfl
set_option maxRecDepth 65536 in
theorem w_room : about1.hasRoom e0.platform room_1 = true :=
  launch0.hasRoom_least _ room_1 (by decide +kernel) (by decide +kernel) (by decide +kernel) (by decide +kernel) (by decide +kernel) (by decide +kernel)
theorem allAtoms_all (ts : List Jvm.Cond) (a : Array Jvm.Value) (st : Jvm.State) : (allAtoms ts).before a st = ts.all (fun c => c.before a st) := by
  induction ts with
  | nil => rfl
  | cons c t ih =>
    show (Jvm.Cond.and c (allAtoms t)).before a st = _
    rw [Jvm.Cond.before_and, ih, List.all_cons]
def words1 : List Jvm.Cond := Jvm.Cond.code x code maxLocals ret :: tables_1
/-- a 'code' word, met by the world's own term for the bytes: nothing is compared byte by byte -/
theorem code_word {y : MethodName} {bytes : ByteArray} {mx : Nat} {rt : Option FieldType} {a : Array Value} {s : State} {m : MethodId} {meth : Method} {c : Code} (h1 : s.methodNamed? y = some m) (h2 : s.vm.method? m = some meth) (h3 : meth.code = some c) (h4 : c.code = bytes)
    (h5 : (c.maxLocals == mx && c.exceptionTable.isEmpty && decide (c.maxStack ≤ mostOperands) && decide (meth.sig.returnType = rt) && !meth.locks && decide (parseMethodDescriptor y.desc = some meth.sig)) = true) : (Jvm.Cond.code y bytes mx rt).before a s = true := by
  simp only [Bool.and_eq_true, beq_iff_eq, Bool.not_eq_true', decide_eq_true_eq] at h5
  obtain ⟨⟨⟨⟨⟨g1, g2⟩, g3⟩, g4⟩, g5⟩, g6⟩ := h5
  simp [Cond.before, Cond.holds, Cond.value, h1, h2, h3, h4, g1, g2, g3, g4, g5, g6]
def isCode : Jvm.Cond → Bool
  | .code _ _ _ _ => true
  | _ => false
theorem all_split {L : List Jvm.Cond} {P : Jvm.Cond → Bool} (h1 : L.all (fun c => isCode c || P c) = true) (h2 : ∀ c ∈ L.filter isCode, P c = true) : L.all P = true := by
  refine List.all_eq_true.mpr fun c hc => ?_
  have h := List.all_eq_true.mp h1 c hc
  rcases Bool.eq_false_or_eq_true (isCode c) with hi | hi
  · exact h2 c (List.mem_filter.mpr ⟨hc, hi⟩)
  · simpa [hi] using h
set_option maxRecDepth 65536 in
theorem w_c0 : (Jvm.Cond.code x code maxLocals ret).before args0 about1 = true := code_word (m := ⟨1, 5⟩) (meth := k1m5) (c := k1c5) (by decide +kernel) rfl rfl rfl (by decide +kernel)
set_option maxRecDepth 65536 in
theorem w_c1 : (Jvm.Cond.code ({ cls := "com/example/tidewire/tidewire/extender/ManifestHeaderUnquotePinLaw", name := "draw", desc := "(JI)C" } : Jvm.MethodName) method_2_code (5 : Nat) (Option.some Jvm.ClassFile.FieldType.char)).before args0 about1 = true := code_word (m := ⟨1, 1⟩) (meth := k1m1) (c := k1c1) (by decide +kernel) rfl rfl rfl (by decide +kernel)
set_option maxRecDepth 65536 in
theorem w_c2 : (Jvm.Cond.code ({ cls := "com/example/tidewire/tidewire/extender/ManifestHeaderUnquotePinLaw", name := "make", desc := "([CI)Ljava/lang/String;" } : Jvm.MethodName) method_3_code (2 : Nat) (Option.some (Jvm.ClassFile.FieldType.object "java/lang/String"))).before args0 about1 = true := code_word (m := ⟨1, 2⟩) (meth := k1m2) (c := k1c2) (by decide +kernel) rfl rfl rfl (by decide +kernel)
set_option maxRecDepth 65536 in
theorem w_c3 : (Jvm.Cond.code ({ cls := "java/lang/String", name := "<init>", desc := "([C)V" } : Jvm.MethodName) jdk_42_method_3_code (2 : Nat) (Option.none : Option Jvm.ClassFile.FieldType)).before args0 about1 = true := code_word (m := ⟨7, 1⟩) (meth := k7m1) (c := k7c1) (by decide +kernel) rfl rfl rfl (by decide +kernel)
set_option maxRecDepth 65536 in
theorem w_c4 : (Jvm.Cond.code ({ cls := "java/lang/String", name := "<init>", desc := "([CIILjava/lang/Void;)V" } : Jvm.MethodName) jdk_42_method_149_code (6 : Nat) (Option.none : Option Jvm.ClassFile.FieldType)).before args0 about1 = true := code_word (m := ⟨7, 5⟩) (meth := k7m5) (c := k7c5) (by decide +kernel) rfl rfl rfl (by decide +kernel)
set_option maxRecDepth 65536 in
theorem w_c5 : (Jvm.Cond.code ({ cls := "java/lang/Object", name := "<init>", desc := "()V" } : Jvm.MethodName) object_method_1_code (1 : Nat) (Option.none : Option Jvm.ClassFile.FieldType)).before args0 about1 = true := code_word (m := ⟨0, 0⟩) (meth := k0m0) (c := k0c0) (by decide +kernel) rfl rfl rfl (by decide +kernel)
set_option maxRecDepth 65536 in
theorem w_c6 : (Jvm.Cond.code ({ cls := "java/lang/StringUTF16", name := "compress", desc := "([CII)[B" } : Jvm.MethodName) jdk_52_method_16_code (6 : Nat) (Option.some (Jvm.ClassFile.FieldType.array Jvm.ClassFile.FieldType.byte))).before args0 about1 = true := code_word (m := ⟨8, 2⟩) (meth := k8m2) (c := k8c2) (by decide +kernel) rfl rfl rfl (by decide +kernel)
set_option maxRecDepth 65536 in
theorem w_c7 : (Jvm.Cond.code ({ cls := "java/lang/StringUTF16", name := "compress", desc := "([CI[BII)I" } : Jvm.MethodName) jdk_52_method_21_code (7 : Nat) (Option.some Jvm.ClassFile.FieldType.int)).before args0 about1 = true := code_word (m := ⟨8, 3⟩) (meth := k8m3) (c := k8c3) (by decide +kernel) rfl rfl rfl (by decide +kernel)
set_option maxRecDepth 65536 in
theorem w_c8 : (Jvm.Cond.code ({ cls := "java/lang/StringUTF16", name := "coderFromArrayLen", desc := "([BI)B" } : Jvm.MethodName) jdk_52_method_15_code (2 : Nat) (Option.some Jvm.ClassFile.FieldType.byte)).before args0 about1 = true := code_word (m := ⟨8, 1⟩) (meth := k8m1) (c := k8c1) (by decide +kernel) rfl rfl rfl (by decide +kernel)
set_option maxRecDepth 65536 in
theorem w_c9 : (Jvm.Cond.code ({ cls := "com/example/tidewire/tidewire/extender/ManifestHeader", name := "unquote", desc := "(Ljava/lang/String;)Ljava/lang/String;" } : Jvm.MethodName) prog_6_method_5_code (4 : Nat) (Option.some (Jvm.ClassFile.FieldType.object "java/lang/String"))).before args0 about1 = true := code_word (m := ⟨9, 1⟩) (meth := k9m1) (c := k9c1) (by decide +kernel) rfl rfl rfl (by decide +kernel)
set_option maxRecDepth 65536 in
theorem w_c10 : (Jvm.Cond.code ({ cls := "java/lang/String", name := "length", desc := "()I" } : Jvm.MethodName) jdk_42_method_54_code (1 : Nat) (Option.some Jvm.ClassFile.FieldType.int)).before args0 about1 = true := code_word (m := ⟨7, 3⟩) (meth := k7m3) (c := k7c3) (by decide +kernel) rfl rfl rfl (by decide +kernel)
set_option maxRecDepth 65536 in
theorem w_c11 : (Jvm.Cond.code ({ cls := "java/lang/String", name := "coder", desc := "()B" } : Jvm.MethodName) jdk_42_method_152_code (1 : Nat) (Option.some Jvm.ClassFile.FieldType.byte)).before args0 about1 = true := code_word (m := ⟨7, 7⟩) (meth := k7m7) (c := k7c7) (by decide +kernel) rfl rfl rfl (by decide +kernel)
set_option maxRecDepth 65536 in
theorem w_c12 : (Jvm.Cond.code ({ cls := "java/lang/String", name := "charAt", desc := "(I)C" } : Jvm.MethodName) jdk_42_method_56_code (2 : Nat) (Option.some Jvm.ClassFile.FieldType.char)).before args0 about1 = true := code_word (m := ⟨7, 4⟩) (meth := k7m4) (c := k7c4) (by decide +kernel) rfl rfl rfl (by decide +kernel)
set_option maxRecDepth 65536 in
theorem w_c13 : (Jvm.Cond.code ({ cls := "java/lang/String", name := "isLatin1", desc := "()Z" } : Jvm.MethodName) jdk_42_method_154_code (1 : Nat) (Option.some Jvm.ClassFile.FieldType.boolean)).before args0 about1 = true := code_word (m := ⟨7, 8⟩) (meth := k7m8) (c := k7c8) (by decide +kernel) rfl rfl rfl (by decide +kernel)
set_option maxRecDepth 65536 in
theorem w_c14 : (Jvm.Cond.code ({ cls := "java/lang/StringLatin1", name := "charAt", desc := "([BI)C" } : Jvm.MethodName) jdk_43_method_2_code (2 : Nat) (Option.some Jvm.ClassFile.FieldType.char)).before args0 about1 = true := code_word (m := ⟨10, 1⟩) (meth := k10m1) (c := k10c1) (by decide +kernel) rfl rfl rfl (by decide +kernel)
set_option maxRecDepth 65536 in
theorem w_c15 : (Jvm.Cond.code ({ cls := "java/lang/String", name := "checkIndex", desc := "(II)V" } : Jvm.MethodName) jdk_42_method_155_code (2 : Nat) (Option.none : Option Jvm.ClassFile.FieldType)).before args0 about1 = true := code_word (m := ⟨7, 9⟩) (meth := k7m9) (c := k7c9) (by decide +kernel) rfl rfl rfl (by decide +kernel)
set_option maxRecDepth 65536 in
theorem w_c16 : (Jvm.Cond.code ({ cls := "jdk/internal/util/Preconditions", name := "checkIndex", desc := "(IILjava/util/function/BiFunction;)I" } : Jvm.MethodName) jdk_41_method_11_code (3 : Nat) (Option.some Jvm.ClassFile.FieldType.int)).before args0 about1 = true := code_word (m := ⟨11, 1⟩) (meth := k11m1) (c := k11c1) (by decide +kernel) rfl rfl rfl (by decide +kernel)
set_option maxRecDepth 65536 in
theorem w_c17 : (Jvm.Cond.code ({ cls := "com/example/tidewire/tidewire/extender/ManifestHeaderUnquotePinLaw", name := "same", desc := "(Ljava/lang/String;[CI)Z" } : Jvm.MethodName) method_5_code (3 : Nat) (Option.some Jvm.ClassFile.FieldType.boolean)).before args0 about1 = true := code_word (m := ⟨1, 4⟩) (meth := k1m4) (c := k1c4) (by decide +kernel) rfl rfl rfl (by decide +kernel)
set_option maxRecDepth 65536 in
theorem w_c18 : (Jvm.Cond.code ({ cls := "java/lang/StringBuilder", name := "<init>", desc := "()V" } : Jvm.MethodName) jdk_67_method_1_code (1 : Nat) (Option.none : Option Jvm.ClassFile.FieldType)).before args0 about1 = true := code_word (m := ⟨14, 0⟩) (meth := k14m0) (c := k14c0) (by decide +kernel) rfl rfl rfl (by decide +kernel)
set_option maxRecDepth 65536 in
theorem w_c19 : (Jvm.Cond.code ({ cls := "java/lang/AbstractStringBuilder", name := "<init>", desc := "(I)V" } : Jvm.MethodName) jdk_68_method_2_code (2 : Nat) (Option.none : Option Jvm.ClassFile.FieldType)).before args0 about1 = true := code_word (m := ⟨13, 1⟩) (meth := k13m1) (c := k13c1) (by decide +kernel) rfl rfl rfl (by decide +kernel)
set_option maxRecDepth 65536 in
theorem w_c20 : (Jvm.Cond.code ({ cls := "java/lang/StringBuilder", name := "append", desc := "(C)Ljava/lang/StringBuilder;" } : Jvm.MethodName) jdk_67_method_14_code (2 : Nat) (Option.some (Jvm.ClassFile.FieldType.object "java/lang/StringBuilder"))).before args0 about1 = true := code_word (m := ⟨14, 1⟩) (meth := k14m1) (c := k14c1) (by decide +kernel) rfl rfl rfl (by decide +kernel)
set_option maxRecDepth 65536 in
theorem w_c21 : (Jvm.Cond.code ({ cls := "java/lang/AbstractStringBuilder", name := "append", desc := "(C)Ljava/lang/AbstractStringBuilder;" } : Jvm.MethodName) jdk_68_method_31_code (2 : Nat) (Option.some (Jvm.ClassFile.FieldType.object "java/lang/AbstractStringBuilder"))).before args0 about1 = true := code_word (m := ⟨13, 4⟩) (meth := k13m4) (c := k13c4) (by decide +kernel) rfl rfl rfl (by decide +kernel)
set_option maxRecDepth 65536 in
theorem w_c22 : (Jvm.Cond.code ({ cls := "java/lang/AbstractStringBuilder", name := "ensureCapacityInternal", desc := "(I)V" } : Jvm.MethodName) jdk_68_method_9_code (3 : Nat) (Option.none : Option Jvm.ClassFile.FieldType)).before args0 about1 = true := code_word (m := ⟨13, 3⟩) (meth := k13m3) (c := k13c3) (by decide +kernel) rfl rfl rfl (by decide +kernel)
set_option maxRecDepth 65536 in
theorem w_c23 : (Jvm.Cond.code ({ cls := "java/lang/AbstractStringBuilder", name := "isLatin1", desc := "()Z" } : Jvm.MethodName) jdk_68_method_68_code (1 : Nat) (Option.some Jvm.ClassFile.FieldType.boolean)).before args0 about1 = true := code_word (m := ⟨13, 6⟩) (meth := k13m6) (c := k13c6) (by decide +kernel) rfl rfl rfl (by decide +kernel)
set_option maxRecDepth 65536 in
theorem w_c24 : (Jvm.Cond.code ({ cls := "java/lang/StringLatin1", name := "canEncode", desc := "(C)Z" } : Jvm.MethodName) jdk_43_method_3_code (1 : Nat) (Option.some Jvm.ClassFile.FieldType.boolean)).before args0 about1 = true := code_word (m := ⟨10, 2⟩) (meth := k10m2) (c := k10c2) (by decide +kernel) rfl rfl rfl (by decide +kernel)
set_option maxRecDepth 65536 in
theorem w_c25 : (Jvm.Cond.code ({ cls := "java/lang/StringBuilder", name := "toString", desc := "()Ljava/lang/String;" } : Jvm.MethodName) jdk_67_method_42_code (1 : Nat) (Option.some (Jvm.ClassFile.FieldType.object "java/lang/String"))).before args0 about1 = true := code_word (m := ⟨14, 2⟩) (meth := k14m2) (c := k14c2) (by decide +kernel) rfl rfl rfl (by decide +kernel)
set_option maxRecDepth 65536 in
theorem w_c26 : (Jvm.Cond.code ({ cls := "java/lang/String", name := "<init>", desc := "(Ljava/lang/StringBuilder;)V" } : Jvm.MethodName) jdk_42_method_53_code (2 : Nat) (Option.none : Option Jvm.ClassFile.FieldType)).before args0 about1 = true := code_word (m := ⟨7, 2⟩) (meth := k7m2) (c := k7c2) (by decide +kernel) rfl rfl rfl (by decide +kernel)
set_option maxRecDepth 65536 in
theorem w_c27 : (Jvm.Cond.code ({ cls := "java/lang/String", name := "<init>", desc := "(Ljava/lang/AbstractStringBuilder;Ljava/lang/Void;)V" } : Jvm.MethodName) jdk_42_method_150_code (5 : Nat) (Option.none : Option Jvm.ClassFile.FieldType)).before args0 about1 = true := code_word (m := ⟨7, 6⟩) (meth := k7m6) (c := k7c6) (by decide +kernel) rfl rfl rfl (by decide +kernel)
set_option maxRecDepth 65536 in
theorem w_c28 : (Jvm.Cond.code ({ cls := "java/lang/AbstractStringBuilder", name := "getValue", desc := "()[B" } : Jvm.MethodName) jdk_68_method_64_code (1 : Nat) (Option.some (Jvm.ClassFile.FieldType.array Jvm.ClassFile.FieldType.byte))).before args0 about1 = true := code_word (m := ⟨13, 5⟩) (meth := k13m5) (c := k13c5) (by decide +kernel) rfl rfl rfl (by decide +kernel)
set_option maxRecDepth 65536 in
theorem w_c29 : (Jvm.Cond.code ({ cls := "java/lang/StringBuilder", name := "length", desc := "()I" } : Jvm.MethodName) jdk_67_method_93_code (1 : Nat) (Option.some Jvm.ClassFile.FieldType.int)).before args0 about1 = true := code_word (m := ⟨14, 3⟩) (meth := k14m3) (c := k14c3) (by decide +kernel) rfl rfl rfl (by decide +kernel)
set_option maxRecDepth 65536 in
theorem w_c30 : (Jvm.Cond.code ({ cls := "java/lang/AbstractStringBuilder", name := "length", desc := "()I" } : Jvm.MethodName) jdk_68_method_6_code (1 : Nat) (Option.some Jvm.ClassFile.FieldType.int)).before args0 about1 = true := code_word (m := ⟨13, 2⟩) (meth := k13m2) (c := k13c2) (by decide +kernel) rfl rfl rfl (by decide +kernel)
set_option maxRecDepth 65536 in
theorem w_c31 : (Jvm.Cond.code ({ cls := "java/util/Arrays", name := "copyOfRange", desc := "([BII)[B" } : Jvm.MethodName) jdk_65_method_132_code (3 : Nat) (Option.some (Jvm.ClassFile.FieldType.array Jvm.ClassFile.FieldType.byte))).before args0 about1 = true := code_word (m := ⟨15, 2⟩) (meth := k15m2) (c := k15c2) (by decide +kernel) rfl rfl rfl (by decide +kernel)
set_option maxRecDepth 65536 in
theorem w_c32 : (Jvm.Cond.code ({ cls := "java/util/Arrays", name := "copyOfRangeByte", desc := "([BII)[B" } : Jvm.MethodName) jdk_65_method_133_code (5 : Nat) (Option.some (Jvm.ClassFile.FieldType.array Jvm.ClassFile.FieldType.byte))).before args0 about1 = true := code_word (m := ⟨15, 3⟩) (meth := k15m3) (c := k15c3) (by decide +kernel) rfl rfl rfl (by decide +kernel)
set_option maxRecDepth 65536 in
theorem w_c33 : (Jvm.Cond.code ({ cls := "java/util/Arrays", name := "checkLength", desc := "(II)V" } : Jvm.MethodName) jdk_65_method_131_code (2 : Nat) (Option.none : Option Jvm.ClassFile.FieldType)).before args0 about1 = true := code_word (m := ⟨15, 1⟩) (meth := k15m1) (c := k15c1) (by decide +kernel) rfl rfl rfl (by decide +kernel)
set_option maxRecDepth 65536 in
theorem w_c34 : (Jvm.Cond.code ({ cls := "java/lang/Math", name := "min", desc := "(II)I" } : Jvm.MethodName) jdk_29_method_69_code (2 : Nat) (Option.some Jvm.ClassFile.FieldType.int)).before args0 about1 = true := code_word (m := ⟨16, 1⟩) (meth := k16m1) (c := k16c1) (by decide +kernel) rfl rfl rfl (by decide +kernel)
set_option maxRecDepth 65536 in
theorem w_c35 : (Jvm.Cond.code ({ cls := "com/example/tidewire/tidewire/extender/ManifestHeaderUnquotePinLaw", name := "tok", desc := "([CII)I" } : Jvm.MethodName) method_4_code (3 : Nat) (Option.some Jvm.ClassFile.FieldType.int)).before args0 about1 = true := code_word (m := ⟨1, 3⟩) (meth := k1m3) (c := k1c3) (by decide +kernel) rfl rfl rfl (by decide +kernel)
def codes1 : List Jvm.Cond := [Jvm.Cond.code x code maxLocals ret, Jvm.Cond.code ({ cls := "com/example/tidewire/tidewire/extender/ManifestHeaderUnquotePinLaw", name := "draw", desc := "(JI)C" } : Jvm.MethodName) method_2_code (5 : Nat) (Option.some Jvm.ClassFile.FieldType.char), Jvm.Cond.code ({ cls := "com/example/tidewire/tidewire/extender/ManifestHeaderUnquotePinLaw", name := "make", desc := "([CI)Ljava/lang/String;" } : Jvm.MethodName) method_3_code (2 : Nat) (Option.some (Jvm.ClassFile.FieldType.object "java/lang/String")), Jvm.Cond.code ({ cls := "java/lang/String", name := "<init>", desc := "([C)V" } : Jvm.MethodName) jdk_42_method_3_code (2 : Nat) (Option.none : Option Jvm.ClassFile.FieldType), Jvm.Cond.code ({ cls := "java/lang/String", name := "<init>", desc := "([CIILjava/lang/Void;)V" } : Jvm.MethodName) jdk_42_method_149_code (6 : Nat) (Option.none : Option Jvm.ClassFile.FieldType), Jvm.Cond.code ({ cls := "java/lang/Object", name := "<init>", desc := "()V" } : Jvm.MethodName) object_method_1_code (1 : Nat) (Option.none : Option Jvm.ClassFile.FieldType), Jvm.Cond.code ({ cls := "java/lang/StringUTF16", name := "compress", desc := "([CII)[B" } : Jvm.MethodName) jdk_52_method_16_code (6 : Nat) (Option.some (Jvm.ClassFile.FieldType.array Jvm.ClassFile.FieldType.byte)), Jvm.Cond.code ({ cls := "java/lang/StringUTF16", name := "compress", desc := "([CI[BII)I" } : Jvm.MethodName) jdk_52_method_21_code (7 : Nat) (Option.some Jvm.ClassFile.FieldType.int), Jvm.Cond.code ({ cls := "java/lang/StringUTF16", name := "coderFromArrayLen", desc := "([BI)B" } : Jvm.MethodName) jdk_52_method_15_code (2 : Nat) (Option.some Jvm.ClassFile.FieldType.byte), Jvm.Cond.code ({ cls := "com/example/tidewire/tidewire/extender/ManifestHeader", name := "unquote", desc := "(Ljava/lang/String;)Ljava/lang/String;" } : Jvm.MethodName) prog_6_method_5_code (4 : Nat) (Option.some (Jvm.ClassFile.FieldType.object "java/lang/String")), Jvm.Cond.code ({ cls := "java/lang/String", name := "length", desc := "()I" } : Jvm.MethodName) jdk_42_method_54_code (1 : Nat) (Option.some Jvm.ClassFile.FieldType.int), Jvm.Cond.code ({ cls := "java/lang/String", name := "coder", desc := "()B" } : Jvm.MethodName) jdk_42_method_152_code (1 : Nat) (Option.some Jvm.ClassFile.FieldType.byte), Jvm.Cond.code ({ cls := "java/lang/String", name := "charAt", desc := "(I)C" } : Jvm.MethodName) jdk_42_method_56_code (2 : Nat) (Option.some Jvm.ClassFile.FieldType.char), Jvm.Cond.code ({ cls := "java/lang/String", name := "isLatin1", desc := "()Z" } : Jvm.MethodName) jdk_42_method_154_code (1 : Nat) (Option.some Jvm.ClassFile.FieldType.boolean), Jvm.Cond.code ({ cls := "java/lang/StringLatin1", name := "charAt", desc := "([BI)C" } : Jvm.MethodName) jdk_43_method_2_code (2 : Nat) (Option.some Jvm.ClassFile.FieldType.char), Jvm.Cond.code ({ cls := "java/lang/String", name := "checkIndex", desc := "(II)V" } : Jvm.MethodName) jdk_42_method_155_code (2 : Nat) (Option.none : Option Jvm.ClassFile.FieldType), Jvm.Cond.code ({ cls := "jdk/internal/util/Preconditions", name := "checkIndex", desc := "(IILjava/util/function/BiFunction;)I" } : Jvm.MethodName) jdk_41_method_11_code (3 : Nat) (Option.some Jvm.ClassFile.FieldType.int), Jvm.Cond.code ({ cls := "com/example/tidewire/tidewire/extender/ManifestHeaderUnquotePinLaw", name := "same", desc := "(Ljava/lang/String;[CI)Z" } : Jvm.MethodName) method_5_code (3 : Nat) (Option.some Jvm.ClassFile.FieldType.boolean), Jvm.Cond.code ({ cls := "java/lang/StringBuilder", name := "<init>", desc := "()V" } : Jvm.MethodName) jdk_67_method_1_code (1 : Nat) (Option.none : Option Jvm.ClassFile.FieldType), Jvm.Cond.code ({ cls := "java/lang/AbstractStringBuilder", name := "<init>", desc := "(I)V" } : Jvm.MethodName) jdk_68_method_2_code (2 : Nat) (Option.none : Option Jvm.ClassFile.FieldType), Jvm.Cond.code ({ cls := "java/lang/StringBuilder", name := "append", desc := "(C)Ljava/lang/StringBuilder;" } : Jvm.MethodName) jdk_67_method_14_code (2 : Nat) (Option.some (Jvm.ClassFile.FieldType.object "java/lang/StringBuilder")), Jvm.Cond.code ({ cls := "java/lang/AbstractStringBuilder", name := "append", desc := "(C)Ljava/lang/AbstractStringBuilder;" } : Jvm.MethodName) jdk_68_method_31_code (2 : Nat) (Option.some (Jvm.ClassFile.FieldType.object "java/lang/AbstractStringBuilder")), Jvm.Cond.code ({ cls := "java/lang/AbstractStringBuilder", name := "ensureCapacityInternal", desc := "(I)V" } : Jvm.MethodName) jdk_68_method_9_code (3 : Nat) (Option.none : Option Jvm.ClassFile.FieldType), Jvm.Cond.code ({ cls := "java/lang/AbstractStringBuilder", name := "isLatin1", desc := "()Z" } : Jvm.MethodName) jdk_68_method_68_code (1 : Nat) (Option.some Jvm.ClassFile.FieldType.boolean), Jvm.Cond.code ({ cls := "java/lang/StringLatin1", name := "canEncode", desc := "(C)Z" } : Jvm.MethodName) jdk_43_method_3_code (1 : Nat) (Option.some Jvm.ClassFile.FieldType.boolean), Jvm.Cond.code ({ cls := "java/lang/StringBuilder", name := "toString", desc := "()Ljava/lang/String;" } : Jvm.MethodName) jdk_67_method_42_code (1 : Nat) (Option.some (Jvm.ClassFile.FieldType.object "java/lang/String")), Jvm.Cond.code ({ cls := "java/lang/String", name := "<init>", desc := "(Ljava/lang/StringBuilder;)V" } : Jvm.MethodName) jdk_42_method_53_code (2 : Nat) (Option.none : Option Jvm.ClassFile.FieldType), Jvm.Cond.code ({ cls := "java/lang/String", name := "<init>", desc := "(Ljava/lang/AbstractStringBuilder;Ljava/lang/Void;)V" } : Jvm.MethodName) jdk_42_method_150_code (5 : Nat) (Option.none : Option Jvm.ClassFile.FieldType), Jvm.Cond.code ({ cls := "java/lang/AbstractStringBuilder", name := "getValue", desc := "()[B" } : Jvm.MethodName) jdk_68_method_64_code (1 : Nat) (Option.some (Jvm.ClassFile.FieldType.array Jvm.ClassFile.FieldType.byte)), Jvm.Cond.code ({ cls := "java/lang/StringBuilder", name := "length", desc := "()I" } : Jvm.MethodName) jdk_67_method_93_code (1 : Nat) (Option.some Jvm.ClassFile.FieldType.int), Jvm.Cond.code ({ cls := "java/lang/AbstractStringBuilder", name := "length", desc := "()I" } : Jvm.MethodName) jdk_68_method_6_code (1 : Nat) (Option.some Jvm.ClassFile.FieldType.int), Jvm.Cond.code ({ cls := "java/util/Arrays", name := "copyOfRange", desc := "([BII)[B" } : Jvm.MethodName) jdk_65_method_132_code (3 : Nat) (Option.some (Jvm.ClassFile.FieldType.array Jvm.ClassFile.FieldType.byte)), Jvm.Cond.code ({ cls := "java/util/Arrays", name := "copyOfRangeByte", desc := "([BII)[B" } : Jvm.MethodName) jdk_65_method_133_code (5 : Nat) (Option.some (Jvm.ClassFile.FieldType.array Jvm.ClassFile.FieldType.byte)), Jvm.Cond.code ({ cls := "java/util/Arrays", name := "checkLength", desc := "(II)V" } : Jvm.MethodName) jdk_65_method_131_code (2 : Nat) (Option.none : Option Jvm.ClassFile.FieldType), Jvm.Cond.code ({ cls := "java/lang/Math", name := "min", desc := "(II)I" } : Jvm.MethodName) jdk_29_method_69_code (2 : Nat) (Option.some Jvm.ClassFile.FieldType.int), Jvm.Cond.code ({ cls := "com/example/tidewire/tidewire/extender/ManifestHeaderUnquotePinLaw", name := "tok", desc := "([CII)I" } : Jvm.MethodName) method_4_code (3 : Nat) (Option.some Jvm.ClassFile.FieldType.int)]
set_option maxRecDepth 65536 in
theorem codes_eq : words1.filter isCode = codes1 := rfl
theorem w_codes : ∀ c ∈ words1.filter isCode, c.before args0 about1 = true := by
  rw [codes_eq]
  intro c hc
  simp only [codes1, List.mem_cons, List.not_mem_nil, or_false] at hc
  rcases hc with rfl | rfl | rfl | rfl | rfl | rfl | rfl | rfl | rfl | rfl | rfl | rfl | rfl | rfl | rfl | rfl | rfl | rfl | rfl | rfl | rfl | rfl | rfl | rfl | rfl | rfl | rfl | rfl | rfl | rfl | rfl | rfl | rfl | rfl | rfl | rfl
  · exact w_c0
  · exact w_c1
  · exact w_c2
  · exact w_c3
  · exact w_c4
  · exact w_c5
  · exact w_c6
  · exact w_c7
  · exact w_c8
  · exact w_c9
  · exact w_c10
  · exact w_c11
  · exact w_c12
  · exact w_c13
  · exact w_c14
  · exact w_c15
  · exact w_c16
  · exact w_c17
  · exact w_c18
  · exact w_c19
  · exact w_c20
  · exact w_c21
  · exact w_c22
  · exact w_c23
  · exact w_c24
  · exact w_c25
  · exact w_c26
  · exact w_c27
  · exact w_c28
  · exact w_c29
  · exact w_c30
  · exact w_c31
  · exact w_c32
  · exact w_c33
  · exact w_c34
  · exact w_c35
set_option maxRecDepth 65536 in
theorem w_t1 : (words1.take 24).all (fun c => isCode c || c.before args0 about1) = true := by decide +kernel
set_option maxRecDepth 65536 in
theorem w_t2 : ((words1.drop 24).take 24).all (fun c => isCode c || c.before args0 about1) = true := by decide +kernel
set_option maxRecDepth 65536 in
theorem w_t3 : (((words1.drop 24).drop 24).take 24).all (fun c => isCode c || c.before args0 about1) = true := by decide +kernel
set_option maxRecDepth 65536 in
theorem w_t4 : ((((words1.drop 24).drop 24).drop 24).take 24).all (fun c => isCode c || c.before args0 about1) = true := by decide +kernel
set_option maxRecDepth 65536 in
theorem w_t5 : (((((words1.drop 24).drop 24).drop 24).drop 24).take 24).all (fun c => isCode c || c.before args0 about1) = true := by decide +kernel
set_option maxRecDepth 65536 in
theorem w_t6 : ((((((words1.drop 24).drop 24).drop 24).drop 24).drop 24).take 24).all (fun c => isCode c || c.before args0 about1) = true := by decide +kernel
set_option maxRecDepth 65536 in
theorem w_t7 : (((((((words1.drop 24).drop 24).drop 24).drop 24).drop 24).drop 24).take 24).all (fun c => isCode c || c.before args0 about1) = true := by decide +kernel
set_option maxRecDepth 65536 in
theorem w_t8 : (((((((words1.drop 24).drop 24).drop 24).drop 24).drop 24).drop 24).drop 24).all (fun c => isCode c || c.before args0 about1) = true := by decide +kernel
theorem w_tables : (allAtoms (Jvm.Cond.code x code maxLocals ret :: tables_1)).before args0 about1 = true := by
  rw [allAtoms_all]
  show words1.all (fun c => c.before args0 about1) = true
  refine all_split ?_ w_codes
  rw [← List.take_append_drop 24 words1, List.all_append, w_t1, ← List.take_append_drop 24 (words1.drop 24), List.all_append, w_t2, ← List.take_append_drop 24 ((words1.drop 24).drop 24), List.all_append, w_t3, ← List.take_append_drop 24 (((words1.drop 24).drop 24).drop 24), List.all_append, w_t4, ← List.take_append_drop 24 ((((words1.drop 24).drop 24).drop 24).drop 24), List.all_append, w_t5, ← List.take_append_drop 24 (((((words1.drop 24).drop 24).drop 24).drop 24).drop 24), List.all_append, w_t6, ← List.take_append_drop 24 ((((((words1.drop 24).drop 24).drop 24).drop 24).drop 24).drop 24), List.all_append, w_t7, w_t8]
  rfl
set_option maxRecDepth 65536 in
theorem w_rest : rest_1_c.before args0 about1 = true := by decide +kernel
set_option maxRecDepth 65536 in
theorem w_case : (Jvm.Cond.and given_1 narrow_1).before args0 about1 = true := by decide +kernel
set_option maxRecDepth 65536 in
theorem w_consts : constsHeld consts_1 about1 := Jvm.Lit.constsHeldB_iff.mp (by decide +kernel)
theorem w_applies : (headSpec (Jvm.Cond.code x code maxLocals ret :: tables_1) room_1).applies x e0.platform about1 = true :=
  (Spec.applies_iff w_frames).mpr ⟨w_running, w_runnable, w_alone, w_named, w_hears, w_ripe, w_room, w_tables⟩
theorem atStart : AtStart classFile x code maxLocals ret World_1 tables_1 room_1 Calls_1 rest_1 Pre_1 launch0 p0 e0 about1 theMethod args0 below0 :=
  ⟨lists_1, trivial, launch0.admits_env _ _ _, launch0.least_env, fairChoices_fair.cas, fairChoices_fair.clock, w_frames, w_args, w_heap, w_applies, ⟨w_consts, trivial⟩, w_rest, w_case⟩
end start1
theorem witness_1 : WitnessClaimed_1 := ⟨start1.p0, start1.e0, start1.about1, start1.theMethod, start1.args0, start1.below0, start1.atStart⟩
end Jvm.Pilot.@@N@@
