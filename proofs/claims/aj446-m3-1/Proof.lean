import JvmDerived
import JvmDerived.Pilot.@@N@@Statement
import JvmDerived.Pilot.@@N@@Code
set_option linter.unusedVariables false
set_option linter.unusedSimpArgs false
namespace Jvm.Pilot.@@N@@
open Jvm Jvm.ClassFile Sem Op Lib Jvm.Free Jvm.Stand Jvm.LawKit Jvm.RoadKit Bundle Jvm.Pilot.@@N@@.Jvm.D
/-! own prelude: a walk as one chain of steps that ends well (Go), contracts (Mt), calls and returns in that form -/
abbrev jv (x : Int64) : Slot := .val (.long x)
section Own
variable {p : Program} {l : Launch} {e : Env} {R : Room} {s : State} {m : MethodId} {args : Array Value} {below : List Frame} {meth : Method} {c : Code} {T T' : State} {locs : List Loc} {cells slots : Nat} {Z : State} {a0 : Array Value} {h : Heap}
theorem own_retI (X : Stand p l e R s m args below meth c T locs cells slots) (hx : p.tables.exec = Jvm.exec) {pc : Nat} {Ls : Array Slot} {z : Int32} {rest : List Value} (hret : meth.sig.returnType = some .int) (hd : decode c.code pc = .ok (.ireturn, 1)) {fs : List Frame}
    (hl : ∀ (f : JFrame) (acts : List Action), f.method = m → f.locked = none → f.entered = [] → (doReturn e (T.setTop f) acts (some (.int z))).1 = T.setFrames fs) : Steps p.tables e below (T.setTop (mkF m pc Ls (.int z :: rest))) (T.setFrames fs) := by
  have hm' : T.vm.method? m = some meth := X.method'
  have hn : narrow .int (.int z) = .int z := rfl
  show Steps p.tables e below (T.setTop { method := m, pc := pc, locals := Ls, stack := _ :: rest, locked := none }) _
  jvm_step X.here [X.here.top, hx, hd, hm', hret, hn]
  first | (intro acts; rw [hl _ acts rfl rfl rfl]) | rw [hl _ _ rfl rfl rfl]
  exact Steps.refl _
theorem own_retL (X : Stand p l e R s m args below meth c T locs cells slots) (hx : p.tables.exec = Jvm.exec) {pc : Nat} {Ls : Array Slot} {z : Int64} {rest : List Value} (hret : meth.sig.returnType = some .long) (hd : decode c.code pc = .ok (.lreturn, 1)) {fs : List Frame}
    (hl : ∀ (f : JFrame) (acts : List Action), f.method = m → f.locked = none → f.entered = [] → (doReturn e (T.setTop f) acts (some (.long z))).1 = T.setFrames fs) : Steps p.tables e below (T.setTop (mkF m pc Ls (.long z :: rest))) (T.setFrames fs) := by
  have hm' : T.vm.method? m = some meth := X.method'
  show Steps p.tables e below (T.setTop { method := m, pc := pc, locals := Ls, stack := _ :: rest, locked := none }) _
  jvm_step X.here [X.here.top, hx, hd, hm', hret, narrow]
  first | (intro acts; rw [hl _ acts rfl rfl rfl]) | rw [hl _ _ rfl rfl rfl]
  exact Steps.refl _
theorem own_retA (X : Stand p l e R s m args below meth c T locs cells slots) (hx : p.tables.exec = Jvm.exec) {pc : Nat} {Ls : Array Slot} {v : Value} {rest : List Value} (hv : v.isRef = true) {t : FieldType} (hret : meth.sig.returnType = some t) (ht : t.isReference = true) (hd : decode c.code pc = .ok (.areturn, 1)) {fs : List Frame}
    (hl : ∀ (f : JFrame) (acts : List Action), f.method = m → f.locked = none → f.entered = [] → (doReturn e (T.setTop f) acts (some v)).1 = T.setFrames fs) : Steps p.tables e below (T.setTop (mkF m pc Ls (v :: rest))) (T.setFrames fs) := by
  have hm' : T.vm.method? m = some meth := X.method'
  show Steps p.tables e below (T.setTop { method := m, pc := pc, locals := Ls, stack := _ :: rest, locked := none }) _
  rcases ref_cases hv with rfl | ⟨a, rfl⟩
  · jvm_step X.here [X.here.top, hx, hd, hm', hret, ht, Value.isRef]
    first | (intro acts; rw [hl _ acts rfl rfl rfl]) | rw [hl _ _ rfl rfl rfl]
    exact Steps.refl _
  · jvm_step X.here [X.here.top, hx, hd, hm', hret, ht, Value.isRef]
    first | (intro acts; rw [hl _ acts rfl rfl rfl]) | rw [hl _ _ rfl rfl rfl]
    exact Steps.refl _
/-- from this frame the walk ends, and W holds of its end -/
def Go (p : Program) (e : Env) (below : List Frame) (W : Outcome → State → Prop) (T : State) (g : JFrame) : Prop := ∃ s₂ o, Steps p.tables e below (T.setTop g) s₂ ∧ s₂.status = .running ∧ Ended s₂ below o ∧ W o s₂
def Wf (s : State) (rc rs : Nat) (Q : Option Value → Heap → List Loc → Prop) (o : Outcome) (t : State) : Prop := ∃ v L, o = .returned v ∧ Q v t.heap L ∧ FrameEnd s o t L rc rs
/-- a method's contract: from these arguments and this heap it returns, and Q -/
def Mt (l : Launch) (Z : State) (y : MethodName) (bytes : ByteArray) (ml : Nat) (ret : Option FieldType) (ws : List Jvm.Cond) (rm : Room) (as' : Array Value) (h0 : Heap) (Q : Option Value → Heap → List Loc → Prop) : Prop :=
  MetFree l y (head1 (Jvm.Cond.code y bytes ml ret :: ws) rm) (fun a U => a = as' ∧ Z.Warmed39 U.vm ∧ U.heap = h0) (fun _ _ _ _ _ => True) (fun _ U o U' => ∃ v L, o = .returned v ∧ Q v U'.heap L ∧ FrameEnd U o U' L rm.cells rm.slots)
variable {W : Outcome → State → Prop} {g g' : JFrame} {Q : Option Value → Heap → List Loc → Prop} {rc rs : Nat}
theorem Go.st (k : Go p e below W T' g') (st : ∀ t, Steps p.tables e below (T'.setTop g') t → Steps p.tables e below (T.setTop g) t) : Go p e below W T g := by
  obtain ⟨s₂, o, h1, h2⟩ := k
  exact ⟨s₂, o, st _ h1, h2⟩
theorem Go.cast (q : g = g') (k : Go p e below W T g') : Go p e below W T g := q ▸ k
theorem Go.mono {W' : Outcome → State → Prop} (k : Go p e below W T g) (q : ∀ o t, W o t → W' o t) : Go p e below W' T g := by
  obtain ⟨s₂, o, h1, h2, h3, h4⟩ := k
  exact ⟨s₂, o, h1, h2, h3, q _ _ h4⟩
theorem Mt.body {y : MethodName} {bytes : ByteArray} {ml : Nat} {ret : Option FieldType} {ws : List Jvm.Cond} {rm : Room} {as' : Array Value} {h0 : Heap} (hpn : plainFor y = true)
    (body : ∀ (p : Program) (e : Env) (s : State) (m : MethodId) (below : List Frame) (meth : Method) (c : Code) (s₁ : State), p.tables.exec = Jvm.exec → c.code = bytes → c.maxLocals = ml → s.vm.findClass y.cls = some m.cls → meth.name = y.name → meth.sig.returnType = ret → meth.locks = false →
      Z.Warmed39 s.vm → Stand p l e rm s m as' below meth c s₁ [] 0 0 → s₁.heap = h0 → Go p e below (Wf s rm.cells rm.slots Q) s₁ (entryFrame m as' ml)) : Mt l Z y bytes ml ret ws rm as' h0 Q := by
  refine MetFree.of_bodySF hpn hisR ?_
  intro p e s m args below meth c s₁ Bd hml0 hP hK
  obtain ⟨rfl, hZ, hh⟩ := hP
  have := body p e s m below meth c s₁ Bd.exec Bd.bytes hml0 (findClass_of_methodNamed Bd.named) (name_of_methodNamed Bd.named Bd.method).1 Bd.returns Bd.notSynchronized hZ (Stand.of_body Bd) (by rw [← hh, Bd.state]; rfl)
  obtain ⟨s₂, o, h1, h2, h3, v, L, h4, h5, h6⟩ := this
  exact ⟨s₂, o, h1, h2, h3, v, L, h4, h5, h6⟩
theorem Go.retV (X : Stand p l e R s m args below meth c T locs cells slots) (hx : p.tables.exec = Jvm.exec) (hlk : meth.locks = false) (hret : meth.sig.returnType = none) {pc : Nat} {Ls : Array Slot} (hd : decode c.code pc = .ok (.return_, 1)) (hc : cells ≤ rc) (hs : slots ≤ rs) (hq : Q none T.heap locs) : Go p e below (Wf s rc rs Q) T (mkF m pc Ls []) := by
  obtain ⟨fs, hr, hrun, hended, hW, hsame⟩ := X.leave (v := none) (fun _ => rfl) hlk
  exact ⟨_, _, X.returnOut hx hret hd hr, hrun, hended, _, _, rfl, hq, ⟨_, rfl⟩, hW, hsame.mono hc hs⟩
theorem Go.retI (X : Stand p l e R s m args below meth c T locs cells slots) (hx : p.tables.exec = Jvm.exec) (hlk : meth.locks = false) (hret : meth.sig.returnType = some .int) {pc : Nat} {Ls : Array Slot} {z : Int32} {st : List Value} (hd : decode c.code pc = .ok (.ireturn, 1)) (hc : cells ≤ rc) (hs : slots ≤ rs) (hq : Q (some (.int z)) T.heap locs) : Go p e below (Wf s rc rs Q) T (mkF m pc Ls (.int z :: st)) := by
  obtain ⟨fs, hr, hrun, hended, hW, hsame⟩ := X.leave (v := some (.int z)) (fun h => by rw [hret] at h; cases h) hlk
  exact ⟨_, _, own_retI X hx hret hd hr, hrun, hended, _, _, rfl, hq, ⟨_, rfl⟩, hW, hsame.mono hc hs⟩
theorem Go.retL (X : Stand p l e R s m args below meth c T locs cells slots) (hx : p.tables.exec = Jvm.exec) (hlk : meth.locks = false) (hret : meth.sig.returnType = some .long) {pc : Nat} {Ls : Array Slot} {z : Int64} {st : List Value} (hd : decode c.code pc = .ok (.lreturn, 1)) (hc : cells ≤ rc) (hs : slots ≤ rs) (hq : Q (some (.long z)) T.heap locs) : Go p e below (Wf s rc rs Q) T (mkF m pc Ls (.long z :: st)) := by
  obtain ⟨fs, hr, hrun, hended, hW, hsame⟩ := X.leave (v := some (.long z)) (fun h => by rw [hret] at h; cases h) hlk
  exact ⟨_, _, own_retL X hx hret hd hr, hrun, hended, _, _, rfl, hq, ⟨_, rfl⟩, hW, hsame.mono hc hs⟩
theorem Go.retA (X : Stand p l e R s m args below meth c T locs cells slots) (hx : p.tables.exec = Jvm.exec) (hlk : meth.locks = false) {t : FieldType} (hret : meth.sig.returnType = some t) (ht : t.isReference = true) {pc : Nat} {Ls : Array Slot} {v : Value} (hv : v.isRef = true) {st : List Value} (hd : decode c.code pc = .ok (.areturn, 1)) (hc : cells ≤ rc) (hs : slots ≤ rs) (hq : Q (some v) T.heap locs) : Go p e below (Wf s rc rs Q) T (mkF m pc Ls (v :: st)) := by
  obtain ⟨fs, hr, hrun, hended, hW, hsame⟩ := X.leave (v := some v) (fun h => by rw [hret] at h; cases h) hlk
  exact ⟨_, _, own_retA X hx hv hret ht hd hr, hrun, hended, _, _, rfl, hq, ⟨_, rfl⟩, hW, hsame.mono hc hs⟩
theorem Go.retN (X : Stand p l e R s m args below meth c T locs cells slots) (hx : p.tables.exec = Jvm.exec) (hlk : meth.locks = false) {t : FieldType} (hret : meth.sig.returnType = some t) (ht : t = .boolean ∨ t = .byte ∨ t = .char ∨ t = .short) {pc : Nat} {Ls : Array Slot} {z z' : Int32} {st : List Value} (hn : narrow t (.int z) = .int z') (hd : decode c.code pc = .ok (.ireturn, 1)) (hc : cells ≤ rc) (hs : slots ≤ rs) (hq : Q (some (.int z')) T.heap locs) : Go p e below (Wf s rc rs Q) T (mkF m pc Ls (.int z :: st)) := by
  obtain ⟨fs, hr, hrun, hended, hW, hsame⟩ := X.leave (v := some (.int z')) (fun h => by rw [hret] at h; cases h) hlk
  refine ⟨_, _, ?_, hrun, hended, _, _, rfl, hq, ⟨_, rfl⟩, hW, hsame.mono hc hs⟩
  have hm' : T.vm.method? m = some meth := X.method'
  show Steps p.tables e below (T.setTop { method := m, pc := pc, locals := Ls, stack := _ :: st, locked := none }) _
  rcases ht with rfl | rfl | rfl | rfl
  all_goals
    jvm_step X.here [X.here.top, hx, hd, hm', hret, hn]
    first | (intro acts; rw [hr _ acts rfl rfl rfl]) | rw [hr _ _ rfl rfl rfl]
    exact Steps.refl _
/-! calls, paid by any Back -/
theorem Go.callSB (X : Stand p l e R s m args below meth c T locs cells slots) (hx : p.tables.exec = Jvm.exec) (hZ : Z.Warmed39 s.vm) {own : String} {index : Nat} {y : MethodName} {bytes : ByteArray} {maxL : Nat} {ret : Option FieldType} (hown : s.vm.findClass own = some m.cls)
    (w1 : (Jvm.Cond.methodLink own index y).before a0 Z = true) (w2 : (Jvm.Cond.static y).before a0 Z = true) (w3 : (Jvm.Cond.initialized y.cls).before a0 Z = true) (w4 : (Jvm.Cond.code y bytes maxL ret).before a0 Z = true) (hy : y.cls ≠ "java/lang/invoke/MethodHandle" ∧ y.cls ≠ "java/lang/invoke/VarHandle")
    {Wd : Nat} {Pre : Pt → Array Value → Prop} {Post : Pt → Array Value → Option Value → Pt → Prop} (hK : Back l R p e below s args y 3 Wd Pre Post)
    {argsL rest : List Value} (hg : g.method = m) (hsize : g.locals.size = c.maxLocals) (hlen : ∀ sig, parseMethodDescriptor y.desc = some sig → argsL.length = sig.parameters.length) (hstack : g.stack = argsL.reverse ++ rest) (hWd : 2 * g.monitorRoom + (rest.map fun v => v.category).sum ≤ Wd) (hd : decode c.code g.pc = .ok (.invokestatic index, 3))
    (hpre : ∀ vm₁, Pre ⟨T.setVm vm₁, locs, cells, slots⟩ argsL.toArray)
    (k : ∀ (v : Option Value) (vm₁ : Vm) (B : Pt), Stand p l e R s m args below meth c B.U B.locs B.cells B.slots → Post ⟨T.setVm vm₁, locs, cells, slots⟩ argsL.toArray v B → Go p e below W B.U { g with pc := g.pc + 3, stack := v.toList ++ rest }) : Go p e below W T g := by
  obtain ⟨v, vm₁, B, -, X', hP, st⟩ := Jvm.LawKit.callS X hx hown (mvT hZ w1) (mvT hZ w2) (mvT hZ w3) (mvT hZ w4) hy hK hg hsize hlen hstack hWd hd (fun vm₁ _ => hpre vm₁)
  exact (k v vm₁ B X' hP).st st
theorem Go.callNB (X : Stand p l e R s m args below meth c T locs cells slots) (hx : p.tables.exec = Jvm.exec) (hZ : Z.Warmed39 s.vm) {own : String} {index : Nat} {y : MethodName} {bytes : ByteArray} {maxL : Nat} (hy1 : y.name = "<init>") (hown : s.vm.findClass own = some m.cls)
    (w1 : (Jvm.Cond.methodLink own index y).before a0 Z = true) (w2 : (Jvm.Cond.instanceMethod y).before a0 Z = true) (w4 : (Jvm.Cond.code y bytes maxL none).before a0 Z = true) (hy : y.cls ≠ "java/lang/invoke/MethodHandle" ∧ y.cls ≠ "java/lang/invoke/VarHandle")
    {Wd : Nat} {Pre : Pt → Array Value → Prop} {Post : Pt → Array Value → Option Value → Pt → Prop} (hK : Back l R p e below s args y 3 Wd Pre Post)
    {a : Addr} {argsL rest : List Value} (hg : g.method = m) (hsize : g.locals.size = c.maxLocals) (hlen : ∀ sig, parseMethodDescriptor y.desc = some sig → argsL.length = sig.parameters.length) (hstack : g.stack = argsL.reverse ++ .ref a :: rest) (hWd : 2 * g.monitorRoom + (rest.map fun v => v.category).sum ≤ Wd) (hd : decode c.code g.pc = .ok (.invokespecial index, 3))
    (hpre : ∀ vm₁, Pre ⟨T.setVm vm₁, locs, cells, slots⟩ (.ref a :: argsL).toArray)
    (k : ∀ (v : Option Value) (vm₁ : Vm) (B : Pt), Stand p l e R s m args below meth c B.U B.locs B.cells B.slots → Post ⟨T.setVm vm₁, locs, cells, slots⟩ (.ref a :: argsL).toArray v B → Go p e below W B.U { g with pc := g.pc + 3, stack := v.toList ++ rest }) : Go p e below W T g := by
  obtain ⟨v, vm₁, B, -, X', hP, st⟩ := X.specialBack hx hy1 hown (mvT hZ w1) (mvT hZ w2) (mvT hZ w4) hy hK hg hsize (Steps.refl _) hlen hstack hWd hd (fun vm₁ _ => hpre vm₁)
  exact (k v vm₁ B X' hP).st fun _ q => st.trans q
theorem Go.callVB (X : Stand p l e R s m args below meth c T locs cells slots) (hx : p.tables.exec = Jvm.exec) (hZ : Z.Warmed39 s.vm) {own C : String} {index : Nat} {y z : MethodName} (hown : s.vm.findClass own = some m.cls)
    (w1 : (Jvm.Cond.methodLink own index y).before a0 Z = true) (w2 : (Jvm.Cond.declares y).before a0 Z = true) (hnf : NotFace s y) (w3 : (Jvm.Cond.selects C y z).before a0 Z = true) (w4 : (Jvm.Cond.instanceMethod z).before a0 Z = true) (hy : y.cls ≠ "java/lang/invoke/MethodHandle" ∧ y.cls ≠ "java/lang/invoke/VarHandle")
    {Wd : Nat} {Pre : Pt → Array Value → Prop} {Post : Pt → Array Value → Option Value → Pt → Prop} (hK : Back l R p e below s args z 3 Wd Pre Post)
    (eT : T.heap = h) {b : Addr} (E : Exa Z h b C) {argsL rest : List Value} (hg : g.method = m) (hsize : g.locals.size = c.maxLocals) (hlen : ∀ sig, parseMethodDescriptor y.desc = some sig → argsL.length = sig.parameters.length) (hstack : g.stack = argsL.reverse ++ .ref b :: rest) (hWd : 2 * g.monitorRoom + (rest.map fun v => v.category).sum ≤ Wd) (hd : decode c.code g.pc = .ok (.invokevirtual index, 3))
    (hpre : ∀ vm₁, Pre ⟨T.setVm vm₁, locs, cells, slots⟩ (.ref b :: argsL).toArray)
    (k : ∀ (v : Option Value) (vm₁ : Vm) (B : Pt), Stand p l e R s m args below meth c B.U B.locs B.cells B.slots → Post ⟨T.setVm vm₁, locs, cells, slots⟩ (.ref b :: argsL).toArray v B → Go p e below W B.U { g with pc := g.pc + 3, stack := v.toList ++ rest }) : Go p e below W T g := by
  obtain ⟨cB, kB, q1, q2, q3⟩ := isOf hZ eT E
  obtain ⟨v, vm₁, B, -, X', hP, st⟩ := X.virtualBack hx hown (mvT hZ w1) (mvT hZ w2) hnf (mvT hZ w3) (mvT hZ w4) hy hK q1 q3 hg hsize (Steps.refl _) hlen hstack hWd hd (fun vm₁ _ => hpre vm₁)
  exact (k v vm₁ B X' hP).st fun _ q => st.trans q
/-! calls, paid by a contract of one's own (Mt) -/
variable {Q' : Option Value → Heap → List Loc → Prop} {rm : Room} {as' : Array Value}
theorem Go.callS (X : Stand p l e R s m args below meth c T locs cells slots) (hx : p.tables.exec = Jvm.exec) (hZ : Z.Warmed39 s.vm) {own : String} {index : Nat} {y : MethodName} {bytes : ByteArray} {maxL : Nat} {ret : Option FieldType} (hown : s.vm.findClass own = some m.cls)
    (w1 : (Jvm.Cond.methodLink own index y).before a0 Z = true) (w2 : (Jvm.Cond.static y).before a0 Z = true) (w3 : (Jvm.Cond.initialized y.cls).before a0 Z = true) (w4 : (Jvm.Cond.code y bytes maxL ret).before a0 Z = true) (hy : y.cls ≠ "java/lang/invoke/MethodHandle" ∧ y.cls ≠ "java/lang/invoke/VarHandle") (Wd : Nat)
    (hM : Mt l Z y bytes maxL ret [] rm as' h Q') (eT : T.heap = h) (hf : rm.frames + 1 ≤ R.frames) (hl : Wd + (maxL + 11) + rm.locals ≤ R.locals) (hc : cells + rm.cells ≤ R.cells) (hs : slots + rm.slots ≤ R.slots)
    {argsL rest : List Value} (hg : g.method = m) (hsize : g.locals.size = c.maxLocals) (hlen : ∀ sig, parseMethodDescriptor y.desc = some sig → argsL.length = sig.parameters.length) (hstack : g.stack = argsL.reverse ++ rest) (ha : argsL.toArray = as') (hWd : 2 * g.monitorRoom + (rest.map fun v => v.category).sum ≤ Wd) (hd : decode c.code g.pc = .ok (.invokestatic index, 3))
    (k : ∀ (v : Option Value) (T' : State) (L : List Loc), Stand p l e R s m args below meth c T' (locs ++ L) (cells + rm.cells) (slots + rm.slots) → Q' v T'.heap L → Go p e below W T' { g with pc := g.pc + 3, stack := v.toList ++ rest }) : Go p e below W T g := by
  refine Go.callSB X hx hZ hown w1 w2 w3 w4 hy (backOf (W := Wd) hM hZ w4 w3 hf hl) hg hsize hlen hstack hWd hd (fun _ => ⟨ha, eT, hc, hs⟩) ?_
  rintro v vm₁ ⟨T1, L1, c1, n1⟩ X1 ⟨L, hQ, e1, e2, e3⟩
  dsimp only [Pt.U, Pt.locs, Pt.cells, Pt.slots] at X1 e1 e2 e3 hQ ⊢
  subst e1 e2 e3
  exact k v T1 L X1 hQ
theorem Go.callN (X : Stand p l e R s m args below meth c T locs cells slots) (hx : p.tables.exec = Jvm.exec) (hZ : Z.Warmed39 s.vm) {own : String} {index : Nat} {y : MethodName} {bytes : ByteArray} {maxL : Nat} (hy1 : y.name = "<init>") (hown : s.vm.findClass own = some m.cls)
    (w1 : (Jvm.Cond.methodLink own index y).before a0 Z = true) (w2 : (Jvm.Cond.instanceMethod y).before a0 Z = true) (w3 : (Jvm.Cond.initialized y.cls).before a0 Z = true) (w4 : (Jvm.Cond.code y bytes maxL none).before a0 Z = true) (hy : y.cls ≠ "java/lang/invoke/MethodHandle" ∧ y.cls ≠ "java/lang/invoke/VarHandle") (Wd : Nat)
    (hM : Mt l Z y bytes maxL none [] rm as' h Q') (eT : T.heap = h) (hf : rm.frames + 1 ≤ R.frames) (hl : Wd + (maxL + 11) + rm.locals ≤ R.locals) (hc : cells + rm.cells ≤ R.cells) (hs : slots + rm.slots ≤ R.slots)
    {a : Addr} {argsL rest : List Value} (hg : g.method = m) (hsize : g.locals.size = c.maxLocals) (hlen : ∀ sig, parseMethodDescriptor y.desc = some sig → argsL.length = sig.parameters.length) (hstack : g.stack = argsL.reverse ++ .ref a :: rest) (ha : (Value.ref a :: argsL).toArray = as') (hWd : 2 * g.monitorRoom + (rest.map fun v => v.category).sum ≤ Wd) (hd : decode c.code g.pc = .ok (.invokespecial index, 3))
    (k : ∀ (v : Option Value) (T' : State) (L : List Loc), Stand p l e R s m args below meth c T' (locs ++ L) (cells + rm.cells) (slots + rm.slots) → Q' v T'.heap L → Go p e below W T' { g with pc := g.pc + 3, stack := v.toList ++ rest }) : Go p e below W T g := by
  refine Go.callNB X hx hZ hy1 hown w1 w2 w4 hy (backOf (W := Wd) hM hZ w4 w3 hf hl) hg hsize hlen hstack hWd hd (fun _ => ⟨ha, eT, hc, hs⟩) ?_
  rintro v vm₁ ⟨T1, L1, c1, n1⟩ X1 ⟨L, hQ, e1, e2, e3⟩
  dsimp only [Pt.U, Pt.locs, Pt.cells, Pt.slots] at X1 e1 e2 e3 hQ ⊢
  subst e1 e2 e3
  exact k v T1 L X1 hQ
theorem Go.callV (X : Stand p l e R s m args below meth c T locs cells slots) (hx : p.tables.exec = Jvm.exec) (hZ : Z.Warmed39 s.vm) {own C : String} {index : Nat} {y z : MethodName} {bytes : ByteArray} {maxL : Nat} {ret : Option FieldType} (hown : s.vm.findClass own = some m.cls)
    (w1 : (Jvm.Cond.methodLink own index y).before a0 Z = true) (w2 : (Jvm.Cond.declares y).before a0 Z = true) (hnf : NotFace s y) (w3 : (Jvm.Cond.selects C y z).before a0 Z = true) (w4 : (Jvm.Cond.instanceMethod z).before a0 Z = true) (w5 : (Jvm.Cond.initialized z.cls).before a0 Z = true) (w6 : (Jvm.Cond.code z bytes maxL ret).before a0 Z = true) (hy : y.cls ≠ "java/lang/invoke/MethodHandle" ∧ y.cls ≠ "java/lang/invoke/VarHandle") (Wd : Nat)
    (hM : Mt l Z z bytes maxL ret [] rm as' h Q') (eT : T.heap = h) (hf : rm.frames + 1 ≤ R.frames) (hl : Wd + (maxL + 11) + rm.locals ≤ R.locals) (hc : cells + rm.cells ≤ R.cells) (hs : slots + rm.slots ≤ R.slots)
    {b : Addr} (E : Exa Z h b C) {argsL rest : List Value} (hg : g.method = m) (hsize : g.locals.size = c.maxLocals) (hlen : ∀ sig, parseMethodDescriptor y.desc = some sig → argsL.length = sig.parameters.length) (hstack : g.stack = argsL.reverse ++ .ref b :: rest) (ha : (Value.ref b :: argsL).toArray = as') (hWd : 2 * g.monitorRoom + (rest.map fun v => v.category).sum ≤ Wd) (hd : decode c.code g.pc = .ok (.invokevirtual index, 3))
    (k : ∀ (v : Option Value) (T' : State) (L : List Loc), Stand p l e R s m args below meth c T' (locs ++ L) (cells + rm.cells) (slots + rm.slots) → Q' v T'.heap L → Go p e below W T' { g with pc := g.pc + 3, stack := v.toList ++ rest }) : Go p e below W T g := by
  refine Go.callVB X hx hZ hown w1 w2 hnf w3 w4 hy (backOf (W := Wd) hM hZ w6 w5 hf hl) eT E hg hsize hlen hstack hWd hd (fun _ => ⟨ha, eT, hc, hs⟩) ?_
  rintro v vm₁ ⟨T1, L1, c1, n1⟩ X1 ⟨L, hQ, e1, e2, e3⟩
  dsimp only [Pt.U, Pt.locs, Pt.cells, Pt.slots] at X1 e1 e2 e3 hQ ⊢
  subst e1 e2 e3
  exact k v T1 L X1 hQ
end Own

/-! own prelude, arrays: Ary Z h a ty vs: at a lies an array of kind ty that holds just vs -/
theorem own_nat {n : Nat} (h : n < 2 ^ 31) : (Int32.ofNat n).toNatClampNeg = n ∧ ¬ Int32.ofNat n < 0 ∧ (Int32.ofNat n).toInt = n := by
  have e : (Int32.ofNat n).toInt = n := Int32.toInt_ofNat_of_lt h
  refine ⟨?_, ?_, e⟩
  · simp only [Int32.toNatClampNeg, e]; rfl
  · rw [Int32.lt_iff_toInt_lt, e]; simp
theorem own_lt {i n : Nat} (hi : i < 2 ^ 31) (hn : n < 2 ^ 31) : Int32.ofNat i < Int32.ofNat n ↔ i < n := by
  rw [Int32.lt_iff_toInt_lt, (own_nat hi).2.2, (own_nat hn).2.2]; omega
theorem own_eq {i n : Nat} (hi : i < 2 ^ 31) (hn : n < 2 ^ 31) : Int32.ofNat i = Int32.ofNat n ↔ i = n := by
  constructor
  · intro h
    have := congrArg Int32.toInt h
    rw [(own_nat hi).2.2, (own_nat hn).2.2] at this; omega
  · rintro rfl; rfl
theorem own_add (i n : Nat) : Int32.ofNat i + Int32.ofNat n = Int32.ofNat (i + n) := (Int32.ofNat_add i n).symm
theorem own_sub {i n : Nat} (h : n ≤ i) : Int32.ofNat i - Int32.ofNat n = Int32.ofNat (i - n) := by
  have : Int32.ofNat i = Int32.ofNat (i - n) + Int32.ofNat n := by rw [own_add]; congr 1; omega
  rw [this]; exact Int32.add_sub_cancel _ _
def Ary (Z : State) (h : Heap) (a : Addr) (ty : FieldType) (vs : List Value) : Prop := vs.length < 2 ^ 31 ∧ ∃ k d, Arv Z h a k ty (Int32.ofNat vs.length) vs d
section OwnA
variable {p : Program} {l : Launch} {e : Env} {R : Room} {s : State} {m : MethodId} {args : Array Value} {below : List Frame} {meth : Method} {c : Code} {T T' : State} {locs : List Loc} {cells slots : Nat} {Z : State} {a0 : Array Value} {h h' : Heap} {a b : Addr} {ty : FieldType} {vs : List Value} {v w : Value} {sl i : Nat} {j : Int32} {g : JFrame} {rest : List Value} {ws : List Addr} {W : Outcome → State → Prop} {t : State}
theorem Ary.lt (A : Ary Z h a ty vs) : a < h.size := by obtain ⟨-, k, d, F⟩ := A; exact F.lt
theorem Ary.ext (A : Ary Z h a ty vs) (E : Ext h h') : Ary Z h' a ty vs := by obtain ⟨q, k, d, F⟩ := A; exact ⟨q, k, d, F.ext E⟩
theorem Ary.other (A : Ary Z h a ty vs) (Wq : Wr h h' b sl w) (q : a ≠ b) : Ary Z h' a ty vs := by obtain ⟨q', k, d, F⟩ := A; exact ⟨q', k, d, F.other Wq q⟩
theorem Ary.keep (A : Ary Z h a ty vs) (K : Keep h h' ws) (q : a ∉ ws) : Ary Z h' a ty vs := by obtain ⟨q', k, d, F⟩ := A; exact ⟨q', k, d, F.keep K q⟩
theorem Ary.at (A : Ary Z h a ty vs) (hi : vs[i]? = some v) (hj : j = Int32.ofNat i) : ∃ cl, Arr Z h a cl ty ∧ ¬ (j < 0 ∨ cl.slots.size ≤ j.toNatClampNeg) ∧ cl.slots[j.toNatClampNeg]? = some v := by
  obtain ⟨q, k, d, cl, A, r1, r2, r3, H, G⟩ := A
  have hl := (List.getElem?_eq_some_iff.mp hi).1
  have n1 := own_nat q
  have n2 := own_nat (Nat.lt_trans hl q)
  subst hj
  rw [n1.1] at r2
  refine ⟨cl, A, ?_, ?_⟩
  · rw [n2.1, r2]; exact fun z => z.elim n2.2.1 fun y => Nat.not_le.mpr hl y
  · rw [n2.1, H i (by rw [r2]; exact hl)]; simp [List.getD_eq_getElem?_getD, hi]
theorem Ary.inb (A : Ary Z h a ty vs) (hi : i < vs.length) (hj : j = Int32.ofNat i) : ∃ cl, Arr Z h a cl ty ∧ ¬ (j < 0 ∨ cl.slots.size ≤ j.toNatClampNeg) := by
  obtain ⟨cl, h1, h2, -⟩ := A.at (v := vs[i]) (List.getElem?_eq_getElem hi) hj
  exact ⟨cl, h1, h2⟩
theorem own_new {k : ClassId} {n : Nat} (q : n < 2 ^ 31) (A : Arr Z h a (newA k ty (Int32.ofNat n)) ty) : Ary Z h a ty (List.replicate n (defaultValue ty)) := by
  refine ⟨by simpa using q, k, defaultValue ty, ?_⟩
  have F := (Arv.new A (own_nat q).2.1).pad (pad_rep [] (defaultValue ty) n)
  simpa using F
theorem Ary.set (A : Ary Z h a ty vs) (hi : i < vs.length) (hj : j = Int32.ofNat i) (hv : fits ty v = true) (Wq : Wr h h' a j.toNatClampNeg v) : Ary Z h' a ty (vs.set i v) := by
  obtain ⟨q, k, d, cl, A, r1, r2, r3, H, G⟩ := A
  refine ⟨by simpa using q, k, d, ?_⟩
  rw [List.length_set]
  exact Arv.set A r1 r2 r3 H G hv Wq i (by rw [hj]; exact (own_nat (Nat.lt_trans hi q)).1) hi
theorem own_laload (X : Stand p l e R s m args below meth c T locs cells slots) (hx : p.tables.exec = Jvm.exec) (hZ : Z.Warmed39 s.vm) (eT : T.heap = h) (A : Ary Z h a .long vs) (hi : vs[i]? = some v) (hj : j = Int32.ofNat i) (hg : g.method = m) (hs : g.stack = .int j :: .ref a :: rest) (hd : decode c.code g.pc = .ok (.laload, 1))
    (k : Steps p.tables e below (T.setTop { g with pc := g.pc + 1, stack := v :: rest }) t) : Steps p.tables e below (T.setTop g) t := by
  obtain ⟨cl, h1, h2, h3⟩ := A.at hi hj
  exact X.laload hx (by rw [eT]; exact h1.1) (State.isArrayOf_alike hZ.alike h1.2.1) h1.2.2 h2 h3 hg hs hd _ k
theorem own_iaload (X : Stand p l e R s m args below meth c T locs cells slots) (hx : p.tables.exec = Jvm.exec) (hZ : Z.Warmed39 s.vm) (eT : T.heap = h) (A : Ary Z h a .int vs) (hi : vs[i]? = some v) (hj : j = Int32.ofNat i) (hg : g.method = m) (hs : g.stack = .int j :: .ref a :: rest) (hd : decode c.code g.pc = .ok (.iaload, 1))
    (k : Steps p.tables e below (T.setTop { g with pc := g.pc + 1, stack := v :: rest }) t) : Steps p.tables e below (T.setTop g) t := by
  obtain ⟨cl, h1, h2, h3⟩ := A.at hi hj
  exact X.iaload hx (by rw [eT]; exact h1.1) (State.isArrayOf_alike hZ.alike h1.2.1) h1.2.2 h2 h3 hg hs hd _ k
theorem own_caload (X : Stand p l e R s m args below meth c T locs cells slots) (hx : p.tables.exec = Jvm.exec) (hZ : Z.Warmed39 s.vm) (eT : T.heap = h) (A : Ary Z h a .char vs) (hi : vs[i]? = some v) (hj : j = Int32.ofNat i) (hg : g.method = m) (hs : g.stack = .int j :: .ref a :: rest) (hd : decode c.code g.pc = .ok (.caload, 1))
    (k : Steps p.tables e below (T.setTop { g with pc := g.pc + 1, stack := v :: rest }) t) : Steps p.tables e below (T.setTop g) t := by
  obtain ⟨cl, h1, h2, h3⟩ := A.at hi hj
  exact X.caload hx (by rw [eT]; exact h1.1) (State.isArrayOf_alike hZ.alike h1.2.1) h1.2.2 h2 h3 hg hs hd _ k
theorem own_baload (X : Stand p l e R s m args below meth c T locs cells slots) (hx : p.tables.exec = Jvm.exec) (hZ : Z.Warmed39 s.vm) (eT : T.heap = h) (A : Ary Z h a .byte vs) (hi : vs[i]? = some v) (hj : j = Int32.ofNat i) (hg : g.method = m) (hs : g.stack = .int j :: .ref a :: rest) (hd : decode c.code g.pc = .ok (.baload, 1))
    (k : Steps p.tables e below (T.setTop { g with pc := g.pc + 1, stack := v :: rest }) t) : Steps p.tables e below (T.setTop g) t := by
  obtain ⟨cl, h1, h2, h3⟩ := A.at hi hj
  exact X.baloadBytes hx (by rw [eT]; exact h1.1) (State.isArrayOf_alike hZ.alike h1.2.1) h1.2.2 h2 h3 hg hs hd _ k
theorem own_aaload (X : Stand p l e R s m args below meth c T locs cells slots) (hx : p.tables.exec = Jvm.exec) (hZ : Z.Warmed39 s.vm) (eT : T.heap = h) (A : Ary Z h a ty vs) (hty : ty.isReference = true) (hi : vs[i]? = some v) (hj : j = Int32.ofNat i) (hg : g.method = m) (hs : g.stack = .int j :: .ref a :: rest) (hd : decode c.code g.pc = .ok (.aaload, 1))
    (k : Steps p.tables e below (T.setTop { g with pc := g.pc + 1, stack := v :: rest }) t) : Steps p.tables e below (T.setTop g) t := by
  obtain ⟨cl, h1, h2, h3⟩ := A.at hi hj
  exact X.aaload hx (by rw [eT]; exact h1.1) (State.isArrayOf_alike hZ.alike h1.2.1) hty h1.2.2 h2 h3 hg hs hd _ k
theorem own_alen (X : Stand p l e R s m args below meth c T locs cells slots) (hx : p.tables.exec = Jvm.exec) (hZ : Z.Warmed39 s.vm) (eT : T.heap = h) (A : Ary Z h a ty vs) {n : Nat} (hn : vs.length = n) (hg : g.method = m) (hs : g.stack = .ref a :: rest) (hd : decode c.code g.pc = .ok (.arraylength, 1))
    (k : Steps p.tables e below (T.setTop { g with pc := g.pc + 1, stack := .int (Int32.ofNat n) :: rest }) t) : Steps p.tables e below (T.setTop g) t := by
  subst hn
  obtain ⟨q, k', d, cl, A, r1, r2, r3, H, G⟩ := A
  refine X.arraylength hx (by rw [eT]; exact A.1) (State.isArrayOf_alike hZ.alike A.2.1) hg hs hd _ ?_
  rw [len_of r2 r3]; exact k
theorem Go.lastore (X : Stand p l e R s m args below meth c T locs cells slots) (hx : p.tables.exec = Jvm.exec) (hZ : Z.Warmed39 s.vm) (eT : T.heap = h) (A : Ary Z h a .long vs) {x : Int64} (hi : i < vs.length) (hj : j = Int32.ofNat i) (hg : g.method = m) (hs : g.stack = .long x :: .int j :: .ref a :: rest) (hd : decode c.code g.pc = .ok (.lastore, 1))
    (k : ∀ (T' : State) (h' : Heap), Stand p l e R s m args below meth c T' (locs ++ [⟨a, j.toNatClampNeg⟩]) cells slots → T'.heap = h' → Wr h h' a j.toNatClampNeg (.long x) → Ary Z h' a .long (vs.set i (.long x)) → Go p e below W T' { g with pc := g.pc + 1, stack := rest }) : Go p e below W T g := by
  obtain ⟨cl, h1, h2⟩ := A.inb hi hj
  obtain ⟨T', h', X', e', W', st⟩ := stJ X hx hZ eT h1 h2 hg hs hd
  exact (k T' h' X' e' W' (A.set hi hj rfl W')).st st
theorem Go.iastore (X : Stand p l e R s m args below meth c T locs cells slots) (hx : p.tables.exec = Jvm.exec) (hZ : Z.Warmed39 s.vm) (eT : T.heap = h) (A : Ary Z h a .int vs) {x : Int32} (hi : i < vs.length) (hj : j = Int32.ofNat i) (hg : g.method = m) (hs : g.stack = .int x :: .int j :: .ref a :: rest) (hd : decode c.code g.pc = .ok (.iastore, 1))
    (k : ∀ (T' : State) (h' : Heap), Stand p l e R s m args below meth c T' (locs ++ [⟨a, j.toNatClampNeg⟩]) cells slots → T'.heap = h' → Wr h h' a j.toNatClampNeg (.int x) → Ary Z h' a .int (vs.set i (.int x)) → Go p e below W T' { g with pc := g.pc + 1, stack := rest }) : Go p e below W T g := by
  obtain ⟨cl, h1, h2⟩ := A.inb hi hj
  obtain ⟨T', h', X', e', W', st⟩ := stI X hx hZ eT h1 h2 hg hs hd
  exact (k T' h' X' e' W' (A.set hi hj rfl W')).st st
theorem Go.castore (X : Stand p l e R s m args below meth c T locs cells slots) (hx : p.tables.exec = Jvm.exec) (hZ : Z.Warmed39 s.vm) (eT : T.heap = h) (A : Ary Z h a .char vs) {x y : Int32} (hn : nar .char x = y) (hi : i < vs.length) (hj : j = Int32.ofNat i) (hg : g.method = m) (hs : g.stack = .int x :: .int j :: .ref a :: rest) (hd : decode c.code g.pc = .ok (.castore, 1))
    (k : ∀ (T' : State) (h' : Heap), Stand p l e R s m args below meth c T' (locs ++ [⟨a, j.toNatClampNeg⟩]) cells slots → T'.heap = h' → Wr h h' a j.toNatClampNeg (.int y) → Ary Z h' a .char (vs.set i (.int y)) → Go p e below W T' { g with pc := g.pc + 1, stack := rest }) : Go p e below W T g := by
  obtain ⟨cl, h1, h2⟩ := A.inb hi hj
  obtain ⟨T', h', X', e', W', st⟩ := stC X hx hZ eT h1 h2 hg hs hd
  rw [hn] at W'
  exact (k T' h' X' e' W' (A.set hi hj (hn ▸ fits_nar_char x) W')).st st
theorem Go.bastore (X : Stand p l e R s m args below meth c T locs cells slots) (hx : p.tables.exec = Jvm.exec) (hZ : Z.Warmed39 s.vm) (eT : T.heap = h) (A : Ary Z h a .byte vs) {x : Int32} (hi : i < vs.length) (hj : j = Int32.ofNat i) (hg : g.method = m) (hs : g.stack = .int x :: .int j :: .ref a :: rest) (hd : decode c.code g.pc = .ok (.bastore, 1))
    (k : ∀ (T' : State) (h' : Heap), Stand p l e R s m args below meth c T' (locs ++ [⟨a, j.toNatClampNeg⟩]) cells slots → T'.heap = h' → Wr h h' a j.toNatClampNeg (.int x.toInt8.toInt32) → Ary Z h' a .byte (vs.set i (.int x.toInt8.toInt32)) → Go p e below W T' { g with pc := g.pc + 1, stack := rest }) : Go p e below W T g := by
  obtain ⟨cl, h1, h2⟩ := A.inb hi hj
  obtain ⟨T', h', X', e', W', st⟩ := stB X hx hZ eT h1 h2 hg hs hd
  exact (k T' h' X' e' W' (A.set hi hj (fits_nar_byte x) W')).st st
theorem Go.newP (X : Stand p l e R s m args below meth c T locs cells slots) (hx : p.tables.exec = Jvm.exec) (hZ : Z.Warmed39 s.vm) {aty : ArrayType} (w : (Jvm.Cond.arrayClass (newarray.typeOf aty)).before a0 Z = true) (eT : T.heap = h) (hg : g.method = m) (hd : decode c.code g.pc = .ok (.newarray aty, 2)) {j : Int32} {n : Nat} (hs : g.stack = .int j :: rest) (hj : j = Int32.ofNat n)
    (cap : Nat) (hcap : n ≤ cap) (hb : cap * 8 ≤ 536870912) (hc : cells + 1 ≤ R.cells) (hl : slots + cap ≤ R.slots)
    (k : ∀ (T' : State) (h' : Heap) (b : Addr), Stand p l e R s m args below meth c T' locs (cells + 1) (slots + cap) → T'.heap = h' → Ext h h' → b = h.size → Ary Z h' b (newarray.typeOf aty) (List.replicate n (defaultValue (newarray.typeOf aty))) → Go p e below W T' { g with pc := g.pc + 2, stack := .ref b :: rest }) : Go p e below W T g := by
  have q : n < 2 ^ 31 := by omega
  have n1 := own_nat q
  subst hj
  obtain ⟨T', h', cA, X', e', E', A', st⟩ := RoadKit.newP X hx hZ w eT hg hd hs n1.2.1 (cap := cap) (by rw [n1.1]; exact hcap) hb hc hl
  exact (k T' h' _ X' e' E' rfl (own_new q A')).st st
end OwnA

/-! own prelude, literals: walks that may load String constants (ldc), with what the constants hold (CHv of the library) -/
def HS (Z : State) (EL : List (String × Nat)) (s : State) (h0 : Heap) (vm : Vm) (h : Heap) : Prop := (∃ k, s.Since vm k ∧ k ≤ h.size) ∧ CHr Z EL s.vm h0 vm h
def WfH (Z : State) (EL : List (String × Nat)) (s : State) (rc rs : Nat) (Q : Option Value → Heap → List Loc → Prop) (o : Outcome) (t : State) : Prop := ∃ v L, o = .returned v ∧ Q v t.heap L ∧ CHr Z EL s.vm s.heap t.vm t.heap ∧ ReturnedEndW s o t L rc rs
def MtH (l : Launch) (Z : State) (EL : List (String × Nat)) (y : MethodName) (bytes : ByteArray) (ml : Nat) (ret : Option FieldType) (ws : List Jvm.Cond) (rm : Room) (as' : Array Value) (h0 : Heap) (Q : Option Value → Heap → List Loc → Prop) : Prop :=
  MetFree l y (head1 (Jvm.Cond.code y bytes ml ret :: ws) rm) (fun a U => a = as' ∧ Z.Warmed39 U.vm ∧ U.heap = h0 ∧ CHv Z EL U.vm h0) (fun _ _ _ _ _ => True) (fun _ U o U' => ∃ v L, o = .returned v ∧ Q v U'.heap L ∧ CHr Z EL U.vm U.heap U'.vm U'.heap ∧ ReturnedEndW U o U' L rm.cells rm.slots)
section OwnH
variable {p : Program} {l : Launch} {e : Env} {R : Room} {s : State} {m : MethodId} {args : Array Value} {below : List Frame} {meth : Method} {c : Code} {T T' : State} {locs : List Loc} {cells slots : Nat} {Z : State} {a0 : Array Value} {h h' h0 : Heap} {EL : List (String × Nat)} {vm0 : Vm} {g : JFrame} {W : Outcome → State → Prop} {Q Q' : Option Value → Heap → List Loc → Prop} {rc rs : Nat} {a x : Addr} {sl : Nat} {v : Value} {ws : List Addr} {rm : Room} {as' : Array Value}
theorem HS.ext (H : HS Z EL s h0 vm0 h) (E : Ext h h') : HS Z EL s h0 vm0 h' := ⟨by obtain ⟨k, a, b⟩ := H.1; exact ⟨k, a, Nat.le_trans b E.1⟩, H.2.trans (CHr.ext E H.2.1)⟩
theorem HS.wr (H : HS Z EL s h0 vm0 h) (Wq : Wr h h' a sl v) (S : Safe Z EL vm0 h a) : HS Z EL s h0 vm0 h' := ⟨by obtain ⟨k, q, b⟩ := H.1; exact ⟨k, q, by rw [Wq.size]; exact b⟩, H.2.trans (CHr.wr Wq S H.2.1)⟩
theorem HS.keep (H : HS Z EL s h0 vm0 h) (K : Keep h h' ws) (hs : ∀ x ∈ ws, Safe Z EL vm0 h x) : HS Z EL s h0 vm0 h' := ⟨by obtain ⟨k, q, b⟩ := H.1; exact ⟨k, q, Nat.le_trans b K.1⟩, H.2.trans (CHr.keep K hs H.2.1)⟩
theorem own_arySafe {ty : FieldType} {vs : List Value} (hal : Z.vm.Alike vm0) (A : Ary Z h x ty vs) (ht : ty ≠ .byte) : Safe Z EL vm0 h x := by obtain ⟨-, k, d, F⟩ := A; exact Safe.arv hal F ht
/-- no literal's cell, and there -/
def Sf (Z : State) (EL : List (String × Nat)) (vm : Vm) (h : Heap) (x : Addr) : Prop := Safe Z EL vm h x ∧ x < h.size
theorem Sf.ext (H : HS Z EL s h0 vm0 h) (E : Ext h h') (S : Sf Z EL vm0 h x) : Sf Z EL vm0 h' x := ⟨Safe.ext E H.2.1 S.1, Nat.lt_of_lt_of_le S.2 E.1⟩
theorem Sf.wr (H : HS Z EL s h0 vm0 h) (Wq : Wr h h' a sl v) (Sa : Safe Z EL vm0 h a) (S : Sf Z EL vm0 h x) : Sf Z EL vm0 h' x := ⟨Safe.wr Wq Sa H.2.1 S.1, by rw [Wq.size]; exact S.2⟩
theorem Sf.keep (H : HS Z EL s h0 vm0 h) (K : Keep h h' ws) (hs : ∀ x ∈ ws, Safe Z EL vm0 h x) (S : Sf Z EL vm0 h x) : Sf Z EL vm0 h' x := ⟨Safe.keep K hs H.2.1 S.1, Nat.lt_of_lt_of_le S.2 K.1⟩
theorem Sf.vm {vm1 : Vm} (hz : h.size ≤ h'.size) (C : ∀ x, x < h.size → Safe Z EL vm0 h x → Safe Z EL vm1 h' x) (S : Sf Z EL vm0 h x) : Sf Z EL vm1 h' x := ⟨C x S.2 S.1, Nat.lt_of_lt_of_le S.2 hz⟩
theorem Sf.born (H : HS Z EL s h0 vm0 h) (E : Ext h h') (q : x = h.size) (lt : x < h'.size) : Sf Z EL vm0 h' x := ⟨Safe.ext E H.2.1 (Safe.new (Nat.le_of_eq q.symm)), lt⟩
theorem Sf.bornK (H : HS Z EL s h0 vm0 h) (K : Keep h h' ws) (hs : ∀ x ∈ ws, Safe Z EL vm0 h x) (hz : h.size ≤ x) (lt : x < h'.size) : Sf Z EL vm0 h' x := ⟨Safe.keep K hs H.2.1 (Safe.new hz), lt⟩
/-- a String that has no bytes yet is no literal's -/
theorem own_nullSafe {vm : Vm} (hal : Z.vm.Alike vm) (E : Exa Z h x "java/lang/String") (Fv : Fld Z h x "java/lang/String" "value" "[B" .null) : Safe Z EL vm h x := fun B => by
  obtain ⟨p, -, u, a, -, q, -, F, e | e⟩ := B
  · have ha : h[q.sa]? = some q.sC := F.ha
    obtain ⟨cS, ⟨⟨-, -, -, ⟨c1, k1, i1, f1, -⟩, -, -, -, v1, -⟩, -⟩, -⟩ := F
    obtain ⟨cell, cf, k, i, f, g1, g2, -, -, -, -, g7⟩ := Fv
    rw [e] at g1
    cases ha.symm.trans g1
    obtain ⟨k3, e3, -⟩ := State.fieldFound?_setVm (s := Z) hal g2
    have e4 := (show (Wst Z vm h).fieldFound? _ _ _ = _ from e3).symm.trans f1
    simp only [Option.some.injEq, Prod.mk.injEq] at e4
    rw [← e4.2.2.2, g7] at v1
    simp at v1
  · have hd : h[q.sd]? = some q.SA := F.hd
    obtain ⟨cell, k, e1, e2, e3, -, -⟩ := E
    rw [e] at e1
    cases hd.symm.trans e1
    obtain ⟨cS, -, -, f, -⟩ := F
    have f' : vm.findClass "[B" = some q.SA.cls := f
    rw [hal.findClass] at f'
    obtain ⟨k1, q1, q2⟩ := Vm.findClass_spec f'
    obtain ⟨k2, q3, q4⟩ := Vm.findClass_spec e2
    cases q1.symm.trans q3
    exact absurd (q2.symm.trans q4) (by decide)
theorem MtH.body {y : MethodName} {bytes : ByteArray} {ml : Nat} {ret : Option FieldType} {ws : List Jvm.Cond} (hpn : plainFor y = true)
    (body : ∀ (p : Program) (e : Env) (s : State) (m : MethodId) (below : List Frame) (meth : Method) (c : Code) (s₁ : State), p.tables.exec = Jvm.exec → c.code = bytes → c.maxLocals = ml → s.vm.findClass y.cls = some m.cls → meth.name = y.name → meth.sig.returnType = ret → meth.locks = false →
      Z.Warmed39 s.vm → Stand p l e rm (s.setVm s.vm) m as' below meth c s₁ [] 0 0 → s₁.heap = h0 → HS Z EL s s.heap s.vm h0 → Go p e below (WfH Z EL s rm.cells rm.slots Q) s₁ (entryFrame m as' ml)) : MtH l Z EL y bytes ml ret ws rm as' h0 Q := by
  refine MetFree.of_bodySF hpn hisR ?_
  intro p e s m args below meth c s₁ Bd hml0 hP hK
  obtain ⟨rfl, hZ, hh, hH⟩ := hP
  have := body p e s m below meth c s₁ Bd.exec Bd.bytes hml0 (findClass_of_methodNamed Bd.named) (name_of_methodNamed Bd.named Bd.method).1 Bd.returns Bd.notSynchronized hZ (Stand.of_body Bd) (by rw [← hh, Bd.state]; rfl) ⟨⟨h0.size, (State.WarmedH.refl s).since _, Nat.le_refl _⟩, by rw [hh]; exact CHr.refl hH⟩
  obtain ⟨s₂, o, h1, h2, h3, v, L, h4, h5, h6, h7⟩ := this
  exact ⟨s₂, o, h1, h2, h3, v, L, h4, h5, h6, h7⟩
theorem own_endH (X : Stand p l e R (s.setVm vm0) m args below meth c T locs cells slots) (hZ : Z.Warmed39 vm0) (hEL : EW Z a0 EL) (H : HS Z EL s s.heap vm0 T.heap) (hc : cells ≤ rc) (hs : slots ≤ rs) {fs : List Frame} {v : Option Value} (hr : ReturnedEndW s (.returned v) (T.setFrames fs) locs cells slots) (hq : Q v T.heap locs) : WfH Z EL s rc rs Q (.returned v) (T.setFrames fs) := by
  have q : CHr Z EL vm0 T.heap T.vm T.heap := CHv.at X hZ hEL H.2.1
  have q2 : CHr Z EL s.vm s.heap T.vm T.heap := H.2.trans q
  exact ⟨v, locs, rfl, hq, q2, hr.1, hr.2.1, hr.2.2.1, hr.2.2.2.mono hc hs⟩
theorem Go.retVH (X : Stand p l e R (s.setVm vm0) m args below meth c T locs cells slots) (hx : p.tables.exec = Jvm.exec) (hlk : meth.locks = false) (hret : meth.sig.returnType = none) {pc : Nat} {Ls : Array Slot} (hd : decode c.code pc = .ok (.return_, 1)) (hc : cells ≤ rc) (hs : slots ≤ rs) (hZ : Z.Warmed39 vm0) (hEL : EW Z a0 EL) (H : HS Z EL s s.heap vm0 T.heap) (hq : Q none T.heap locs) : Go p e below (WfH Z EL s rc rs Q) T (mkF m pc Ls []) := by
  obtain ⟨k, hS, hk⟩ := H.1
  obtain ⟨fs, hr, hrun, hended, hE⟩ := X.leaveW (v := none) hS hk (fun _ => rfl) hlk
  exact ⟨_, _, X.returnOut hx hret hd hr, hrun, hended, own_endH X hZ hEL H hc hs hE hq⟩
theorem Go.retAH (X : Stand p l e R (s.setVm vm0) m args below meth c T locs cells slots) (hx : p.tables.exec = Jvm.exec) (hlk : meth.locks = false) {t : FieldType} (hret : meth.sig.returnType = some t) (ht : t.isReference = true) {pc : Nat} {Ls : Array Slot} {v : Value} (hv : v.isRef = true) {st : List Value} (hd : decode c.code pc = .ok (.areturn, 1)) (hc : cells ≤ rc) (hs : slots ≤ rs) (hZ : Z.Warmed39 vm0) (hEL : EW Z a0 EL) (H : HS Z EL s s.heap vm0 T.heap) (hq : Q (some v) T.heap locs) : Go p e below (WfH Z EL s rc rs Q) T (mkF m pc Ls (v :: st)) := by
  obtain ⟨k, hS, hk⟩ := H.1
  obtain ⟨fs, hr, hrun, hended, hE⟩ := X.leaveW (v := some v) hS hk (fun h => by rw [hret] at h; cases h) hlk
  exact ⟨_, _, own_retA X hx hv hret ht hd hr, hrun, hended, own_endH X hZ hEL H hc hs hE hq⟩
theorem Go.retIH (X : Stand p l e R (s.setVm vm0) m args below meth c T locs cells slots) (hx : p.tables.exec = Jvm.exec) (hlk : meth.locks = false) (hret : meth.sig.returnType = some .int) {pc : Nat} {Ls : Array Slot} {z : Int32} {st : List Value} (hd : decode c.code pc = .ok (.ireturn, 1)) (hc : cells ≤ rc) (hs : slots ≤ rs) (hZ : Z.Warmed39 vm0) (hEL : EW Z a0 EL) (H : HS Z EL s s.heap vm0 T.heap) (hq : Q (some (.int z)) T.heap locs) : Go p e below (WfH Z EL s rc rs Q) T (mkF m pc Ls (.int z :: st)) := by
  obtain ⟨k, hS, hk⟩ := H.1
  obtain ⟨fs, hr, hrun, hended, hE⟩ := X.leaveW (v := some (.int z)) hS hk (fun h => by rw [hret] at h; cases h) hlk
  exact ⟨_, _, own_retI X hx hret hd hr, hrun, hended, own_endH X hZ hEL H hc hs hE hq⟩
theorem Go.retNH (X : Stand p l e R (s.setVm vm0) m args below meth c T locs cells slots) (hx : p.tables.exec = Jvm.exec) (hlk : meth.locks = false) {t : FieldType} (hret : meth.sig.returnType = some t) (ht : t = .boolean ∨ t = .byte ∨ t = .char ∨ t = .short) {pc : Nat} {Ls : Array Slot} {z z' : Int32} {st : List Value} (hn : narrow t (.int z) = .int z') (hd : decode c.code pc = .ok (.ireturn, 1)) (hc : cells ≤ rc) (hs : slots ≤ rs) (hZ : Z.Warmed39 vm0) (hEL : EW Z a0 EL) (H : HS Z EL s s.heap vm0 T.heap) (hq : Q (some (.int z')) T.heap locs) : Go p e below (WfH Z EL s rc rs Q) T (mkF m pc Ls (.int z :: st)) := by
  obtain ⟨k, hS, hk⟩ := H.1
  obtain ⟨fs, hr, hrun, hended, hE⟩ := X.leaveW (v := some (.int z')) hS hk (fun h => by rw [hret] at h; cases h) hlk
  refine ⟨_, _, ?_, hrun, hended, own_endH X hZ hEL H hc hs hE hq⟩
  have hm' : T.vm.method? m = some meth := X.method'
  show Steps p.tables e below (T.setTop { method := m, pc := pc, locals := Ls, stack := _ :: st, locked := none }) _
  rcases ht with rfl | rfl | rfl | rfl
  all_goals
    jvm_step X.here [X.here.top, hx, hd, hm', hret, hn]
    first | (intro acts; rw [hr _ acts rfl rfl rfl]) | rw [hr _ _ rfl rfl rfl]
    exact Steps.refl _
theorem Go.ldcH (X : Stand p l e R (s.setVm vm0) m args below meth c T locs cells slots) (hx : p.tables.exec = Jvm.exec) (hZ : Z.Warmed39 vm0) {own text : String} {index : Nat} (hown : vm0.findClass own = some m.cls) (w : (Jvm.Cond.stringLink own index text).before a0 Z = true) (wS : ∀ a ∈ Bundle.stringAtoms, a.before a0 Z = true)
    (eT : T.heap = h) (H : HS Z EL s h0 vm0 h) (hEL : EW Z a0 EL) (hmem : (own, index) ∈ EL) {vs : List Value} (ht : (∀ c ∈ text.toList, c.toNat < 256) ∧ text.toList.map (fun c => Value.int (Jvm.Lit.byteI c.toNat.toUInt16)) = vs) (hvl : vs.length < 2 ^ 31)
    (hg : g.method = m) (hd : decode c.code g.pc = .ok (.ldc index, 2)) (n : Nat) (hn : 4 * text.toList.length ≤ n) (hbig : n ≤ 536870912) (hc : cells + 2 ≤ R.cells) (hl' : slots + (n + 4) ≤ R.slots)
    (k : ∀ (a b : Addr) (T' : State) (h' : Heap), Stand p l e R (s.setVm T'.vm) m args below meth c T' locs (cells + 2) (slots + (n + 4)) → T'.heap = h' → Ext h h' → Z.Warmed39 T'.vm → T'.vm.findClass own = some m.cls → HS Z EL s h0 T'.vm h' →
      Exa Z h' a "java/lang/String" → Fld Z h' a "java/lang/String" "coder" "B" (.int 0) → Fld Z h' a "java/lang/String" "value" "[B" (.ref b) → Ary Z h' b .byte vs → (∀ x, x < h.size → Safe Z EL vm0 h x → Safe Z EL T'.vm h' x) → (∀ x, Safe Z EL T'.vm h' x → x ≠ a ∧ x ≠ b) →
      Go p e below W T' { g with pc := g.pc + 2, stack := .ref a :: g.stack }) : Go p e below W T g := by
  obtain ⟨k0, hS, hk⟩ := H.1
  have n1 := own_nat hvl
  obtain ⟨a, T', h', k1, b, kk, X', e', E', hS', hk', hZ', ho', A1, F1, F2, V1, -, -, C1, -, D1, st⟩ := ldcCH X hx hZ hown w wS eT hS hk hEL hmem H.2.1 ht n1.2.1 n1.1 hg hd hn hbig hc hl'
  exact (k a b T' h' X' e' E' hZ' ho' ⟨⟨k1, hS', hk'⟩, H.2.trans C1⟩ A1 F1 F2 ⟨hvl, kk, _, V1⟩ (fun x hx' S => C1.safe hx' S) D1).st st
theorem Go.callNH (X : Stand p l e R (s.setVm vm0) m args below meth c T locs cells slots) (hx : p.tables.exec = Jvm.exec) (hZ : Z.Warmed39 vm0) {own : String} {index : Nat} {y : MethodName} {bytes : ByteArray} {maxL : Nat} (hy1 : y.name = "<init>") (hown : vm0.findClass own = some m.cls)
    (w1 : (Jvm.Cond.methodLink own index y).before a0 Z = true) (w2 : (Jvm.Cond.instanceMethod y).before a0 Z = true) (w3 : (Jvm.Cond.initialized y.cls).before a0 Z = true) (w4 : (Jvm.Cond.code y bytes maxL none).before a0 Z = true) (hy : y.cls ≠ "java/lang/invoke/MethodHandle" ∧ y.cls ≠ "java/lang/invoke/VarHandle") (Wd : Nat) (H : HS Z EL s h0 vm0 h) (hEL : EW Z a0 EL)
    (hM : MtH l Z EL y bytes maxL none [] rm as' h Q') (eT : T.heap = h) (hf : rm.frames + 1 ≤ R.frames) (hl : Wd + (maxL + 11) + rm.locals ≤ R.locals) (hc : cells + rm.cells ≤ R.cells) (hs : slots + rm.slots ≤ R.slots)
    {a : Addr} {argsL rest : List Value} (hg : g.method = m) (hsize : g.locals.size = c.maxLocals) (hlen : ∀ sig, parseMethodDescriptor y.desc = some sig → argsL.length = sig.parameters.length) (hstack : g.stack = argsL.reverse ++ .ref a :: rest) (ha : (Value.ref a :: argsL).toArray = as') (hWd : 2 * g.monitorRoom + (rest.map fun v => v.category).sum ≤ Wd) (hd : decode c.code g.pc = .ok (.invokespecial index, 3))
    (k : ∀ (v : Option Value) (T' : State) (L : List Loc), Stand p l e R (s.setVm T'.vm) m args below meth c T' (locs ++ L) (cells + rm.cells) (slots + rm.slots) → Q' v T'.heap L → Z.Warmed39 T'.vm → T'.vm.findClass own = some m.cls → HS Z EL s h0 T'.vm T'.heap → (∀ x, x < h.size → Safe Z EL vm0 h x → Safe Z EL T'.vm T'.heap x) → Go p e below W T' { g with pc := g.pc + 3, stack := v.toList ++ rest }) : Go p e below W T g := by
  obtain ⟨k0, hS, hk⟩ := H.1
  obtain ⟨v, vm₁, ⟨T1, L1, c1, n1⟩, -, X1, hS1, hg1, hP, st⟩ := X.specialBackS hx hy1 hown (mvT (s := s.setVm vm0) hZ w1) (mvT (s := s.setVm vm0) hZ w2) (mvT (s := s.setVm vm0) hZ w4) hy (backOfSH (W := Wd) (a0 := a0) hM hZ w4 w3 hf hl hEL H.2.1) hg hsize (Steps.refl _) hlen hstack hWd hd (fun _ _ => ⟨ha, eT, hc, hs⟩)
  obtain ⟨L, hQ, e1, e2, e3, C1⟩ := hP
  dsimp only [Pt.U, Pt.locs, Pt.cells, Pt.slots] at X1 e1 e2 e3 hQ C1 hS1 hg1 st
  subst e1 e2 e3
  have hW1 : Z.Warmed39 T1.vm := State.Warmed39.trans (t := s.setVm vm0) hZ hS1.1
  exact (k v T1 L X1 hQ hW1 (by rw [hS1.1.alike.findClass]; exact hown) ⟨⟨_, hS.trans hS1 (Nat.le_trans hk (by rw [← eT]; exact hg1)), Nat.le_refl _⟩, H.2.trans C1⟩ (fun x hx' S => C1.safe hx' S)).st fun _ q => st.trans q
theorem Go.callSH (X : Stand p l e R (s.setVm vm0) m args below meth c T locs cells slots) (hx : p.tables.exec = Jvm.exec) (hZ : Z.Warmed39 vm0) {own : String} {index : Nat} {y : MethodName} {bytes : ByteArray} {maxL : Nat} {ret : Option FieldType} (hown : vm0.findClass own = some m.cls)
    (w1 : (Jvm.Cond.methodLink own index y).before a0 Z = true) (w2 : (Jvm.Cond.static y).before a0 Z = true) (w3 : (Jvm.Cond.initialized y.cls).before a0 Z = true) (w4 : (Jvm.Cond.code y bytes maxL ret).before a0 Z = true) (hy : y.cls ≠ "java/lang/invoke/MethodHandle" ∧ y.cls ≠ "java/lang/invoke/VarHandle") (Wd : Nat) (H : HS Z EL s h0 vm0 h) (hEL : EW Z a0 EL)
    (hM : MtH l Z EL y bytes maxL ret [] rm as' h Q') (eT : T.heap = h) (hf : rm.frames + 1 ≤ R.frames) (hl : Wd + (maxL + 11) + rm.locals ≤ R.locals) (hc : cells + rm.cells ≤ R.cells) (hs : slots + rm.slots ≤ R.slots)
    {argsL rest : List Value} (hg : g.method = m) (hsize : g.locals.size = c.maxLocals) (hlen : ∀ sig, parseMethodDescriptor y.desc = some sig → argsL.length = sig.parameters.length) (hstack : g.stack = argsL.reverse ++ rest) (ha : argsL.toArray = as') (hWd : 2 * g.monitorRoom + (rest.map fun v => v.category).sum ≤ Wd) (hd : decode c.code g.pc = .ok (.invokestatic index, 3))
    (k : ∀ (v : Option Value) (T' : State) (L : List Loc), Stand p l e R (s.setVm T'.vm) m args below meth c T' (locs ++ L) (cells + rm.cells) (slots + rm.slots) → Q' v T'.heap L → Z.Warmed39 T'.vm → T'.vm.findClass own = some m.cls → HS Z EL s h0 T'.vm T'.heap → (∀ x, x < h.size → Safe Z EL vm0 h x → Safe Z EL T'.vm T'.heap x) → Go p e below W T' { g with pc := g.pc + 3, stack := v.toList ++ rest }) : Go p e below W T g := by
  obtain ⟨k0, hS, hk⟩ := H.1
  obtain ⟨v, vm₁, ⟨T1, L1, c1, n1⟩, -, X1, hS1, hg1, hP, st⟩ := callSS X hx hown (mvT (s := s.setVm vm0) hZ w1) (mvT (s := s.setVm vm0) hZ w2) (mvT (s := s.setVm vm0) hZ w3) (mvT (s := s.setVm vm0) hZ w4) hy (backOfSH (W := Wd) (a0 := a0) hM hZ w4 w3 hf hl hEL H.2.1) hg hsize hlen hstack hWd hd (fun _ _ => ⟨ha, eT, hc, hs⟩)
  obtain ⟨L, hQ, e1, e2, e3, C1⟩ := hP
  dsimp only [Pt.U, Pt.locs, Pt.cells, Pt.slots] at X1 e1 e2 e3 hQ C1 hS1 hg1 st
  subst e1 e2 e3
  have hW1 : Z.Warmed39 T1.vm := State.Warmed39.trans (t := s.setVm vm0) hZ hS1.1
  exact (k v T1 L X1 hQ hW1 (by rw [hS1.1.alike.findClass]; exact hown) ⟨⟨_, hS.trans hS1 (Nat.le_trans hk (by rw [← eT]; exact hg1)), Nat.le_refl _⟩, H.2.trans C1⟩ (fun x hx' S => C1.safe hx' S)).st fun _ q => st.trans q
end OwnH

/-! own prelude: private and super calls, arraycopy -/
section OwnC
variable {p : Program} {l : Launch} {e : Env} {R : Room} {s : State} {m : MethodId} {args : Array Value} {below : List Frame} {meth : Method} {c : Code} {T T' : State} {locs : List Loc} {cells slots : Nat} {Z : State} {a0 : Array Value} {h h' h0 : Heap} {g : JFrame} {W : Outcome → State → Prop} {Q Q' : Option Value → Heap → List Loc → Prop} {rc rs : Nat} {rm : Room} {as' : Array Value}
theorem own_notFace {y y1 : MethodName} (h1 : NotFace s y1) (hn : ∃ r, s.methodNamed? y1 = some r) (hc : y1.cls = y.cls) : NotFace s y := fun r0 q0 => by
  obtain ⟨r, hr⟩ := hn
  obtain ⟨kr, k1, k2⟩ := h1 r hr
  have a := findClass_of_methodNamed hr
  have b := findClass_of_methodNamed q0
  rw [hc] at a
  have : r.cls = r0.cls := Option.some.inj (a.symm.trans b)
  exact ⟨kr, this ▸ k1, k2⟩
theorem own_same {y : MethodName} (w : (Jvm.Cond.instanceMethod y).before a0 Z = true) (hy : y.cls ≠ "java/lang/invoke/MethodHandle" ∧ y.cls ≠ "java/lang/invoke/VarHandle") (nf : NotFace Z y) : (Jvm.Cond.sameMethod y.cls y.cls y.name y.desc).before a0 Z = true := by
  obtain ⟨mk, methM, hnamed, hmethM, -, -⟩ := Cond.instanceMethod_spec w
  have hfound := State.methodFound?_of_named hnamed hy
  obtain ⟨kr, k1, k2⟩ := nf mk hnamed
  have hc := findClass_of_methodNamed hnamed
  have hn' : Z.methodNamed? ⟨y.cls, y.name, y.desc⟩ = some mk := hnamed
  simp [Cond.before, Cond.holds, Cond.value, hc, hfound, hn', k1, k2]
theorem Go.callP (X : Stand p l e R s m args below meth c T locs cells slots) (hx : p.tables.exec = Jvm.exec) (hZ : Z.Warmed39 s.vm) {own C : String} {index : Nat} {y : MethodName} {bytes : ByteArray} {maxL : Nat} {ret : Option FieldType} (hown : s.vm.findClass own = some m.cls)
    (w1 : (Jvm.Cond.methodLink own index y).before a0 Z = true) (w2 : (Jvm.Cond.instanceMethod y).before a0 Z = true) (w3 : (Jvm.Cond.selects C y y).before a0 Z = true) (wp : (Jvm.Cond.privateMethod y).before a0 Z = true) (w5 : (Jvm.Cond.initialized y.cls).before a0 Z = true) (w6 : (Jvm.Cond.code y bytes maxL ret).before a0 Z = true) (hy : y.cls ≠ "java/lang/invoke/MethodHandle" ∧ y.cls ≠ "java/lang/invoke/VarHandle") (Wd : Nat)
    (hM : Mt l Z y bytes maxL ret [] rm as' h Q') (eT : T.heap = h) (hf : rm.frames + 1 ≤ R.frames) (hl : Wd + (maxL + 11) + rm.locals ≤ R.locals) (hc : cells + rm.cells ≤ R.cells) (hs : slots + rm.slots ≤ R.slots)
    {b : Addr} {K : String} (E : Exa Z h b K) {argsL rest : List Value} (hg : g.method = m) (hsize : g.locals.size = c.maxLocals) (hlen : ∀ sig, parseMethodDescriptor y.desc = some sig → argsL.length = sig.parameters.length) (hstack : g.stack = argsL.reverse ++ .ref b :: rest) (ha : (Value.ref b :: argsL).toArray = as') (hWd : 2 * g.monitorRoom + (rest.map fun v => v.category).sum ≤ Wd) (hd : decode c.code g.pc = .ok (.invokevirtual index, 3))
    (k : ∀ (v : Option Value) (T' : State) (L : List Loc), Stand p l e R s m args below meth c T' (locs ++ L) (cells + rm.cells) (slots + rm.slots) → Q' v T'.heap L → Go p e below W T' { g with pc := g.pc + 3, stack := v.toList ++ rest }) : Go p e below W T g := by
  have hp : s.PrivateAt y := Cond.privateMethod_at (mvP (args := #[]) hZ wp)
  obtain ⟨c2, r2, m2, -, -, q3, -, kP, hkP, hkPi⟩ := Cond.selects_spec (mvT (args := args) hZ w3)
  have hself : (Jvm.Cond.selects y.cls y y).before args s = true := selects_self_of_private (findClass_of_methodNamed q3) hkP hkPi hp (mvT hZ w2) hy
  obtain ⟨cell, z1, z2⟩ := E.cell
  obtain ⟨v, vm₁, ⟨T1, L1, c1, n1⟩, -, X1, hP, st⟩ := X.privateBack hx hown (mvT hZ w1) (mvT hZ w2) hself hp (mvT hZ w6) hy (backOf (W := Wd) hM hZ w6 w5 hf hl) hg hsize (Steps.refl _) (a := b) (by rw [eT]; exact z1) z2 hlen hstack hWd hd (fun _ _ => ⟨ha, eT, hc, hs⟩)
  obtain ⟨L, hQ, e1, e2, e3⟩ := hP
  dsimp only [Pt.U, Pt.locs, Pt.cells, Pt.slots] at X1 e1 e2 e3 hQ st
  subst e1 e2 e3
  exact (k v T1 L X1 hQ).st fun _ q => st.trans q
theorem Go.callU (X : Stand p l e R s m args below meth c T locs cells slots) (hx : p.tables.exec = Jvm.exec) (hZ : Z.Warmed39 s.vm) {own : String} {index : Nat} {y : MethodName} {bytes : ByteArray} {maxL : Nat} {ret : Option FieldType} (hown : s.vm.findClass own = some m.cls)
    (w1 : (Jvm.Cond.methodLink own index y).before a0 Z = true) (w2 : (Jvm.Cond.sameMethod y.cls y.cls y.name y.desc).before a0 Z = true) (w3 : (Jvm.Cond.instanceMethod y).before a0 Z = true) (w4 : (Jvm.Cond.superclass own y.cls).before a0 Z = true) (w5 : (Jvm.Cond.initialized y.cls).before a0 Z = true) (w6 : (Jvm.Cond.code y bytes maxL ret).before a0 Z = true) (hn : y.name ≠ "<init>") (Wd : Nat)
    (hM : Mt l Z y bytes maxL ret [] rm as' h Q') (eT : T.heap = h) (hf : rm.frames + 1 ≤ R.frames) (hl : Wd + (maxL + 11) + rm.locals ≤ R.locals) (hc : cells + rm.cells ≤ R.cells) (hs : slots + rm.slots ≤ R.slots)
    {b : Addr} {K : String} (E : Exa Z h b K) {argsL rest : List Value} (hg : g.method = m) (hsize : g.locals.size = c.maxLocals) (hlen : ∀ sig, parseMethodDescriptor y.desc = some sig → argsL.length = sig.parameters.length) (hstack : g.stack = argsL.reverse ++ .ref b :: rest) (ha : (Value.ref b :: argsL).toArray = as') (hWd : 2 * g.monitorRoom + (rest.map fun v => v.category).sum ≤ Wd) (hd : decode c.code g.pc = .ok (.invokespecial index, 3))
    (k : ∀ (v : Option Value) (T' : State) (L : List Loc), Stand p l e R s m args below meth c T' (locs ++ L) (cells + rm.cells) (slots + rm.slots) → Q' v T'.heap L → Go p e below W T' { g with pc := g.pc + 3, stack := v.toList ++ rest }) : Go p e below W T g := by
  obtain ⟨v, vm₁, ⟨T1, L1, c1, n1⟩, -, X1, hP, st⟩ := superBack X hx hZ hown w1 w2 w3 w4 hn (backOf (W := Wd) hM hZ w6 w5 hf hl) eT (Ins.self E) hg hsize w6 hlen hstack hWd hd (fun _ _ => ⟨ha, eT, hc, hs⟩)
  obtain ⟨L, hQ, e1, e2, e3⟩ := hP
  dsimp only [Pt.U, Pt.locs, Pt.cells, Pt.slots] at X1 e1 e2 e3 hQ st
  subst e1 e2 e3
  exact (k v T1 L X1 hQ).st fun _ q => st.trans q
theorem Go.acopy (X : Stand p l e R s m args below meth c T locs cells slots) (hx : p.tables.exec = Jvm.exec) (hZ : Z.Warmed39 s.vm) {own : String} {index : Nat} (hown : s.vm.findClass own = some m.cls)
    (w1 : (Jvm.Cond.methodLink own index Jvm.Stand.acN).before a0 Z = true) (w2 : (Jvm.Cond.native Jvm.Stand.acN).before a0 Z = true) (w3 : (Jvm.Cond.static Jvm.Stand.acN).before a0 Z = true) (w4 : (Jvm.Cond.initialized "java/lang/System").before a0 Z = true) (eT : T.heap = h)
    {a b : Addr} {ty : FieldType} {vs vd us : List Value} (A : Ary Z h a ty vs) (B : Ary Z h b ty vd) (hp : refKind ty = false) {jn jd js : Int32} {sp dp nn : Nat} (hjn : jn = Int32.ofNat nn) (hjd : jd = Int32.ofNat dp) (hjs : js = Int32.ofNat sp) (h4 : sp + nn ≤ vs.length) (h5 : dp + nn ≤ vd.length)
    (hu : vd.take dp ++ (List.range nn).map (fun i => vs.getD (sp + i) (.int 0)) ++ vd.drop (dp + nn) = us) (hul : us.length = vd.length) {n0 : Nat} (N : Fr n0 locs) (ge : n0 ≤ b)
    (hg : g.method = m) (hsize : g.locals.size = c.maxLocals) {rest : List Value} (hst : g.stack = .int jn :: .int jd :: .ref b :: .int js :: .ref a :: rest) (hd : decode c.code g.pc = .ok (.invokestatic index, 3))
    (hf : 1 ≤ R.frames) (Wd : Nat) (hW : 2 * g.monitorRoom + (rest.map fun v => v.category).sum ≤ Wd) (hlo : Wd + (nativeFrameWords "java/lang/System" "arraycopy" 5 + 11) ≤ R.locals)
    (k : ∀ (T' : State) (h' : Heap) (L : List Loc), Stand p l e R s m args below meth c T' L cells slots → T'.heap = h' → Fr n0 L → Keep h h' [b] → Ary Z h' b ty us → Go p e below W T' { g with pc := g.pc + 3, stack := rest }) : Go p e below W T g := by
  obtain ⟨qa, ka, da, FA⟩ := A
  obtain ⟨qb, kb, db, FB⟩ := B
  subst hjn hjd hjs
  have n1 := own_nat qa; have n2 := own_nat qb
  have m1 := own_nat (n := nn) (by omega); have m2 := own_nat (n := dp) (by omega); have m3 := own_nat (n := sp) (by omega)
  have hus : (List.range nn).map (fun i => vs.getD (sp + i) (.int 0)) = (List.range (Int32.ofNat nn).toNatClampNeg).map fun i => vs.getD ((Int32.ofNat sp).toNatClampNeg + i) da := by
    rw [m1.1, m3.1]
    apply List.map_congr_left
    intro i hi
    have := List.mem_range.mp hi
    simp [List.getD_eq_getElem?_getD, List.getElem?_eq_getElem (show sp + i < vs.length by omega)]
  obtain ⟨T', h', L, X', e', N', K', V', st⟩ := cpA X hx hZ hown w1 w2 w3 w4 eT FA FB (Or.inl ⟨rfl, hp⟩) m3.2.1 m2.2.1 m1.2.1 (by rw [m3.1, m1.1, n1.1]; exact h4) (by rw [m2.1, m1.1, n2.1]; exact h5) hus (by rw [m2.1, m1.1]; exact h5) N ge hg hsize hst hd hf hW hlo
  rw [m2.1, m1.1, hu] at V'
  exact (k T' h' L X' e' N' K' ⟨by rw [hul]; exact qb, kb, db, by rw [hul]; exact V'⟩).st st
end OwnC


/-- n ints, by their place -/
def IL (n : Nat) (f : Nat → Int32) : List Value := (List.range n).map fun q => Value.int (f q)
theorem IL_len (n : Nat) (f : Nat → Int32) : (IL n f).length = n := by simp [IL]
theorem IL_at {n i : Nat} {f : Nat → Int32} (h : i < n) : (IL n f)[i]? = some (.int (f i)) := by simp [IL, h]
theorem IL_congr {n : Nat} {f f' : Nat → Int32} (h : ∀ q, q < n → f q = f' q) : IL n f = IL n f' := by
  simp only [IL]; apply List.map_congr_left; intro q hq; rw [h q (List.mem_range.mp hq)]
theorem IL_set {n i : Nat} {f : Nat → Int32} {x : Int32} (h : i < n) : (IL n f).set i (.int x) = IL n (fun q => if q = i then x else f q) := by
  apply List.ext_getElem?
  intro q
  by_cases hq : q < n
  · rw [IL_at hq]
    by_cases e : i = q
    · subst e; simp [List.getElem?_set, IL_len, h]
    · rw [List.getElem?_set_ne e, IL_at hq]; simp [Ne.symm e]
  · rw [List.getElem?_eq_none (by simp [IL_len]; omega), List.getElem?_eq_none (by simp [IL_len]; omega)]
theorem IL_rep (n : Nat) : List.replicate n (Value.int 0) = IL n (fun _ => 0) := by
  apply List.ext_getElem?
  intro q
  by_cases hq : q < n
  · rw [IL_at hq]; simp [hq]
  · rw [List.getElem?_eq_none (by simp; omega), List.getElem?_eq_none (by simp [IL_len]; omega)]
/-- a char's byte -/
def bI (c : Nat) : Int32 := (Int32.ofNat c).toInt8.toInt32
theorem bI_back (c : Nat) (h : c < 256) : bI c &&& (255 : Int32) = Int32.ofNat c := (by decide +kernel : ∀ c : Fin 256, bI c.val &&& (255 : Int32) = Int32.ofNat c.val) ⟨c, h⟩
theorem bI_twice (c : Nat) (h : c < 256) : (bI c).toInt8.toInt32 = bI c := (by decide +kernel : ∀ c : Fin 256, (bI c.val).toInt8.toInt32 = bI c.val) ⟨c, h⟩
theorem ch_back (c : Nat) (h : c < 256) : (Int32.ofNat c).toUInt32.toUInt16.toUInt32.toInt32 = Int32.ofNat c := (by decide +kernel : ∀ c : Fin 256, (Int32.ofNat c.val).toUInt32.toUInt16.toUInt32.toInt32 = Int32.ofNat c.val) ⟨c, h⟩
theorem ch_nar (c : Nat) (h : c < 256) : narrow .char (.int (Int32.ofNat c)) = .int (Int32.ofNat c) := by
  show Value.int _ = _; congr 1; exact ch_back c h
theorem ch_sto (c : Nat) (h : c < 256) : nar .char (Int32.ofNat c) = Int32.ofNat c := ch_back c h
theorem own_shr0 (x : Int32) : x >>> ((0 : Int32) &&& 31) = x := by
  apply Int32.toBitVec_inj.mp
  rw [Int32.toBitVec_shiftRight]; simp
theorem own_shl0 (x : Int32) : x <<< ((0 : Int32) &&& 31) = x := by
  apply Int32.toBitVec_inj.mp
  rw [Int32.toBitVec_shiftLeft]; simp
theorem own_cat {v : Value} (h : v.isRef = true) : v.category = 1 := by cases v <;> simp_all [Value.isRef, Value.category]
theorem own_nar {t : FieldType} {v : Value} (h : v.isRef = true) : narrow t v = v := by cases v <;> cases t <;> simp_all [Value.isRef, narrow]

theorem own_fill (b : Nat → Int32) (i q : Nat) : (if q = i then b i else if q < i then b q else 0) = if q < i + 1 then b q else 0 := by
  by_cases e : q = i
  · subst e; simp
  · by_cases l : q < i
    · simp [e, l, show q < i + 1 by omega]
    · simp [e, l, show ¬ q < i + 1 by omega]

def apF (k n : Nat) (ft f : Nat → Int32) : Nat → Int32 := fun q => if k ≤ q ∧ q < k + n then ft (q - k) else f q
theorem own_ens (m : Nat) (h : m ≤ 16) : ¬ ((0 : Int32) < (Int32.ofNat m) - (16 : Int32)) := (by decide +kernel : ∀ m : Fin 17, ¬ ((0 : Int32) < (Int32.ofNat m.val) - (16 : Int32))) ⟨m, by omega⟩
theorem own_copy {k n N : Nat} {ft f : Nat → Int32} (h : k + n ≤ N) : (IL N f).take k ++ (List.range n).map (fun i => (IL n ft).getD (0 + i) (.int 0)) ++ (IL N f).drop (k + n) = IL N (apF k n ft f) := by
  apply List.ext_getElem?
  intro q
  have l1 : ((IL N f).take k).length = k := by simp [IL_len]; omega
  have l2 : ((List.range n).map (fun i => (IL n ft).getD (0 + i) (.int 0))).length = n := by simp
  by_cases hq : q < N
  · rw [IL_at hq]; unfold apF
    by_cases c1 : q < k
    · rw [List.append_assoc, List.getElem?_append_left (by omega), List.getElem?_take_of_lt c1, IL_at hq, if_neg (by omega)]
    · by_cases c2 : q < k + n
      · rw [List.getElem?_append_left (by rw [List.length_append]; omega), List.getElem?_append_right (by omega), l1, if_pos ⟨by omega, c2⟩]
        simp [List.getElem?_range (show q - k < n by omega), List.getD_eq_getElem?_getD, IL_at (show q - k < n by omega)]
      · rw [List.getElem?_append_right (by rw [List.length_append]; omega), List.length_append, l1, l2, List.getElem?_drop, if_neg (by omega)]
        rw [show k + n + (q - (k + n)) = q by omega, IL_at hq]
  · rw [List.getElem?_eq_none (by simp [IL_len]; omega), List.getElem?_eq_none (by simp [IL_len]; omega)]
theorem own_copy0 {n N : Nat} {f : Nat → Int32} (h : n ≤ N) : (IL n (fun _ => 0)).take 0 ++ (List.range n).map (fun i => (IL N f).getD (0 + i) (.int 0)) ++ (IL n (fun _ => 0)).drop (0 + n) = IL n f := by
  have e : (IL n (fun _ => 0)).drop (0 + n) = [] := List.drop_eq_nil_of_le (by simp [IL_len])
  rw [e, List.append_nil]
  show ([] : List Value) ++ _ = _
  rw [List.nil_append]
  apply List.map_congr_left
  intro q hq
  have := List.mem_range.mp hq
  simp [List.getD_eq_getElem?_getD, IL_at (show q < N by omega)]

theorem own_l64 {n : Nat} (h : n < 2 ^ 63) : (Int64.ofNat n).toInt = n := Int64.toInt_ofNat_of_lt h
theorem own_llt {a b : Nat} (ha : a < 2 ^ 63) (h2 : b < 2 ^ 63) : Int64.ofNat a < Int64.ofNat b ↔ a < b := by
  rw [Int64.lt_iff_toInt_lt, own_l64 ha, own_l64 h2]; omega
theorem own_leq {a b : Nat} (ha : a < 2 ^ 63) (h2 : b < 2 ^ 63) : Int64.ofNat a = Int64.ofNat b ↔ a = b := by
  constructor
  · intro h
    have := congrArg Int64.toInt h
    rw [own_l64 ha, own_l64 h2] at this; omega
  · rintro rfl; rfl
theorem own_ldiv {a b : Nat} (ha : a < 2 ^ 63) (h2 : b < 2 ^ 63) : Int64.ofNat a / Int64.ofNat b = Int64.ofNat (a / b) := by
  apply Int64.toInt_inj.mp
  rw [Int64.toInt_div_of_ne_right _ _ (fun z => by have := congrArg Int64.toInt z; rw [own_l64 h2] at this; simp at this), own_l64 ha, own_l64 h2, own_l64 (Nat.lt_of_le_of_lt (Nat.div_le_self _ _) ha)]
  exact Int.ofNat_tdiv a b
theorem own_lmul (a b : Nat) : Int64.ofNat a * Int64.ofNat b = Int64.ofNat (a * b) := (Int64.ofNat_mul a b).symm
theorem own_ladd (a b : Nat) : Int64.ofNat a + Int64.ofNat b = Int64.ofNat (a + b) := (Int64.ofNat_add a b).symm
theorem own_lsub {i n : Nat} (h : n ≤ i) : Int64.ofNat i - Int64.ofNat n = Int64.ofNat (i - n) := by
  have : Int64.ofNat i = Int64.ofNat (i - n) + Int64.ofNat n := by rw [own_ladd]; congr 1; omega
  rw [this]; exact Int64.add_sub_cancel _ _
theorem own_l2i {n : Nat} (h : n < 2 ^ 31) : (Int64.ofNat n).toInt32 = Int32.ofNat n := by
  apply Int32.toInt_inj.mp
  rw [Int64.toInt_toInt32, own_l64 (by omega), (own_nat h).2.2]
  exact Int.bmod_eq_of_le (by omega) (by omega)
theorem own_i2l {n : Nat} (h : n < 2 ^ 31) : (Int32.ofNat n).toInt64 = Int64.ofNat n := by
  apply Int64.toInt_inj.mp
  rw [Int32.toInt_toInt64, own_l64 (by omega), (own_nat h).2.2]
theorem own_ch16 {n : Nat} (h : n < 65536) : (Int32.ofNat n).toUInt32.toUInt16.toUInt32.toInt32 = Int32.ofNat n := by
  apply Int32.toBitVec_inj.mp
  apply BitVec.eq_of_toNat_eq
  simp
  omega
theorem own_or8 {a b : Nat} (ha : a < 256) (h2 : b < 256) : Int32.ofNat a ||| (Int32.ofNat b <<< ((8 : Int32) &&& 31)) = Int32.ofNat (a + 256 * b) := by
  apply Int32.toBitVec_inj.mp
  apply BitVec.eq_of_toNat_eq
  have e := Nat.shiftLeft_add_eq_or_of_lt (i := 8) (b := a) (by omega) b
  rw [Nat.or_comm, Nat.shiftLeft_eq] at e
  have q : (((8 : Int32) &&& 31).toBitVec.smod (32 : BitVec 32)).toNat = 8 := by decide
  simp only [Int32.toBitVec_or, Int32.toBitVec_shiftLeft, BitVec.toNat_or, Int32.toBitVec_ofNat', BitVec.toNat_ofNat, BitVec.shiftLeft_eq', BitVec.toNat_shiftLeft, Nat.shiftLeft_eq]
  first | (rw [q]; rw [Nat.mod_eq_of_lt (show a < 2 ^ 32 by omega), Nat.mod_eq_of_lt (show b < 2 ^ 32 by omega), Nat.mod_eq_of_lt (show b * 2 ^ 8 < 2 ^ 32 by omega), Nat.mod_eq_of_lt (show a + 256 * b < 2 ^ 32 by omega), ← e]; omega) | skip
theorem own_bI16 {n : Nat} (h : n < 65536) : bI n = bI (n % 256) := by
  unfold bI
  congr 1
  apply Int8.toBitVec_inj.mp
  apply BitVec.eq_of_toNat_eq
  simp
theorem own_shr8 {n : Nat} (h : n < 65536) : Int32.ofNat n >>> ((8 : Int32) &&& 31) = Int32.ofNat (n / 256) := by
  apply Int32.toInt_inj.mp
  have q : (((8 : Int32) &&& 31).toBitVec.smod (32 : BitVec 32)).toNat = 8 := by decide
  rw [(own_nat (n := n / 256) (by omega)).2.2, ← Int32.toInt_toBitVec, Int32.toBitVec_shiftRight, BitVec.sshiftRight_eq', BitVec.toInt_sshiftRight, q, Int32.toInt_toBitVec, (own_nat (by omega)).2.2]
  rw [Int.shiftRight_eq_div_pow]; omega
theorem own_shl1 {n : Nat} (h : n < 65536) : Int32.ofNat n <<< ((1 : Int32) &&& 31) = Int32.ofNat (2 * n) := by
  apply Int32.toBitVec_inj.mp
  apply BitVec.eq_of_toNat_eq
  have q : (((1 : Int32) &&& 31).toBitVec.smod (32 : BitVec 32)).toNat = 1 := by decide
  simp only [Int32.toBitVec_shiftLeft, Int32.toBitVec_ofNat', BitVec.toNat_ofNat, BitVec.shiftLeft_eq', BitVec.toNat_shiftLeft, Nat.shiftLeft_eq]
  rw [q]; omega
theorem own_shr1 {n : Nat} (h : n < 65536) : Int32.ofNat (2 * n) >>> ((1 : Int32) &&& 31) = Int32.ofNat n := by
  apply Int32.toInt_inj.mp
  have q : (((1 : Int32) &&& 31).toBitVec.smod (32 : BitVec 32)).toNat = 1 := by decide
  rw [(own_nat (n := n) (by omega)).2.2, ← Int32.toInt_toBitVec, Int32.toBitVec_shiftRight, BitVec.sshiftRight_eq', BitVec.toInt_sshiftRight, q, Int32.toInt_toBitVec, (own_nat (by omega)).2.2]
  rw [Int.shiftRight_eq_div_pow]; omega
/-- the bytes of a UTF-16 string, by their place -/
def u2 (ch : Nat → Nat) : Nat → Int32 := fun q => if q % 2 = 0 then bI (ch (q / 2)) else bI (ch (q / 2) / 256)
theorem u2_lo (ch : Nat → Nat) (i : Nat) : u2 ch (2 * i) = bI (ch i) := by
  unfold u2; rw [if_pos (by omega), show 2 * i / 2 = i by omega]
theorem u2_hi (ch : Nat → Nat) (i : Nat) : u2 ch (2 * i + 1) = bI (ch i / 256) := by
  unfold u2; rw [if_neg (by omega), show (2 * i + 1) / 2 = i by omega]
theorem own_get16 {n : Nat} (h : n < 65536) : ((((bI n) &&& (255 : Int32)) <<< ((0 : Int32) &&& 31)) ||| (((bI (n / 256)) &&& (255 : Int32)) <<< ((8 : Int32) &&& 31))) = Int32.ofNat n := by
  rw [own_bI16 h, bI_back _ (by omega), bI_back _ (by omega)]
  have e0 : ∀ x : Int32, x <<< ((0 : Int32) &&& 31) = x := fun x => by
    apply Int32.toBitVec_inj.mp
    rw [Int32.toBitVec_shiftLeft]; simp
  rw [e0, own_or8 (by omega) (by omega)]; congr 1; omega
theorem own_b2 {n : Nat} (h : n < 65536) : (bI n).toInt8.toInt32 = bI n := by
  unfold bI; simp
theorem own_fill16 (ch : Nat → Nat) (i q : Nat) : (if q = 2 * i + 1 then bI (ch i / 256) else if q = 2 * i then bI (ch i) else if q < 2 * i then u2 ch q else 0) = if q < 2 * (i + 1) then u2 ch q else 0 := by
  by_cases a : q = 2 * i + 1
  · subst a; rw [if_pos rfl, if_pos (by omega), u2_hi]
  · rw [if_neg a]
    by_cases b : q = 2 * i
    · subst b; rw [if_pos rfl, if_pos (by omega), u2_lo]
    · rw [if_neg b]
      by_cases d : q < 2 * i
      · rw [if_pos d, if_pos (by omega)]
      · rw [if_neg d, if_neg (by omega)]
theorem own_neg31 {n : Nat} (h1 : 1 ≤ n) (h : n < 65536) : ((Int32.ofNat n - Int32.ofNat (2 * n)).toUInt32 >>> ((31 : Int32) &&& 31).toUInt32).toInt32.toInt8.toInt32 = (1 : Int32) := by
  have e : Int32.ofNat n - Int32.ofNat (2 * n) = - Int32.ofNat n := by
    have : Int32.ofNat (2 * n) = Int32.ofNat n + Int32.ofNat n := by rw [own_add]; congr 1; omega
    rw [this, Int32.sub_eq_add_neg, Int32.neg_add, Int32.sub_eq_add_neg, ← Int32.add_assoc, Int32.add_right_neg, Int32.zero_add]
  have e2 : (((Int32.ofNat n - Int32.ofNat (2 * n)).toUInt32 >>> ((31 : Int32) &&& 31).toUInt32)) = 1 := by
    rw [e]
    apply UInt32.toNat_inj.mp
    have q : ((31 : Int32) &&& 31).toUInt32.toNat = 31 := by decide
    rw [UInt32.toNat_shiftRight, q]
    have r : (-Int32.ofNat n).toUInt32.toNat = 2 ^ 32 - n := by
      have hn : (UInt32.ofNat n).toBitVec.toNat = n := by rw [UInt32.toBitVec_ofNat', BitVec.toNat_ofNat]; omega
      simp [← UInt32.toNat_toBitVec]
      omega
    rw [r, Nat.shiftRight_eq_div_pow]
    show (2 ^ 32 - n) / 2 ^ 31 = 1
    omega
  rw [e2]; decide
/-- the law's reckoning, in naturals -/
abbrev MX : Nat := 9223372036854775807
def satN (x d : Nat) : Nat := if 922337203685477580 < x then MX else if x = 922337203685477580 ∧ 7 < d then MX else x * 10 + d
def stpN (v g : Nat) : Nat := if (MX - g) / 10 < v then MX else v * 10 + g
theorem satN_le {x d : Nat} (hd : d ≤ 9) : satN x d ≤ MX := by
  unfold satN MX; split
  · omega
  · split <;> omega
theorem sat_stp {x d : Nat} (hx : x ≤ MX) (hd : d ≤ 9) : stpN x d = satN x d := by
  unfold stpN satN MX at *
  by_cases a : 922337203685477580 < x
  · rw [if_pos a, if_pos (by omega)]
  · rw [if_neg a]
    by_cases b : x = 922337203685477580 ∧ 7 < d
    · rw [if_pos b, if_pos (by omega)]
    · rw [if_neg b, if_neg (by omega)]
def fc (w d e : Nat) : Nat → Nat := fun q => if q ≤ 18 then 48 + w / 10 ^ (18 - q) % 10 else if q = 19 then 48 + d else 48 + e
def pv (w d e : Nat) : Nat → Nat := fun i => if i ≤ 19 then w / 10 ^ (19 - i) else if i = 20 then satN w d else satN (satN w d) e
theorem fc_dig {w d e : Nat} (hd : d ≤ 9) (he : e ≤ 9) (q : Nat) : 48 ≤ fc w d e q ∧ fc w d e q ≤ 57 := by
  unfold fc; split
  · omega
  · split <;> omega
theorem pv_le {w d e : Nat} (hw : w ≤ MX) (hd : d ≤ 9) (he : e ≤ 9) (i : Nat) : pv w d e i ≤ MX := by
  unfold pv; split
  · exact Nat.le_trans (Nat.div_le_self _ _) hw
  · split
    · exact satN_le hd
    · exact satN_le he
theorem pv_zero {w d e : Nat} (hw : w ≤ MX) : pv w d e 0 = 0 := by
  unfold pv; rw [if_pos (by omega)]; exact Nat.div_eq_of_lt (Nat.lt_of_le_of_lt hw (by decide))
theorem pv_step {w d e : Nat} (hw : w ≤ MX) (hd : d ≤ 9) (he : e ≤ 9) {i : Nat} (hi : i < 21) : pv w d e (i + 1) = stpN (pv w d e i) (fc w d e i - 48) := by
  by_cases a : i ≤ 18
  · have e1 : w / 10 ^ (18 - i) = w / 10 ^ (19 - i) * 10 + w / 10 ^ (18 - i) % 10 := by
      have : w / 10 ^ (19 - i) = w / 10 ^ (18 - i) / 10 := by rw [show 19 - i = 18 - i + 1 by omega, Nat.pow_succ, Nat.div_div_eq_div_mul]
      omega
    have e2 : w / 10 ^ (18 - i) ≤ MX := Nat.le_trans (Nat.div_le_self _ _) hw
    have p1 : pv w d e (i + 1) = w / 10 ^ (18 - i) := by unfold pv; rw [if_pos (by omega), show 19 - (i + 1) = 18 - i by omega]
    have p2 : pv w d e i = w / 10 ^ (19 - i) := by unfold pv; rw [if_pos (by omega)]
    have p3 : fc w d e i - 48 = w / 10 ^ (18 - i) % 10 := by unfold fc; rw [if_pos a, Nat.add_sub_cancel_left]
    rw [p1, p2, p3]; unfold stpN
    rw [if_neg (by unfold MX at *; omega)]
    exact e1
  · by_cases b : i = 19
    · subst b
      unfold pv fc
      simp only [Nat.reduceLeDiff, ↓reduceIte, Nat.reduceAdd, Nat.sub_self, Nat.pow_zero, Nat.div_one]
      rw [Nat.add_sub_cancel_left, sat_stp hw hd]
    · obtain rfl : i = 20 := by omega
      unfold pv fc
      simp only [Nat.reduceLeDiff, ↓reduceIte, Nat.reduceAdd, Nat.reduceEqDiff]
      rw [Nat.add_sub_cancel_left, sat_stp (satN_le hd) he]
theorem own_lrem10 {a : Nat} (ha : a < 2 ^ 63) : Int64.ofNat a - Int64.ofNat a / (10 : Int64) * (10 : Int64) = Int64.ofNat (a % 10) := by
  rw [show Int64.ofNat a / (10 : Int64) = Int64.ofNat (a / 10) from own_ldiv (b := 10) ha (by decide), show Int64.ofNat (a / 10) * (10 : Int64) = Int64.ofNat (a / 10 * 10) from own_lmul _ 10, own_lsub (by omega)]
  congr 1; omega

theorem own_nar16 {c : Nat} (h : c < 65536) : narrow .char (.int (Int32.ofNat c)) = .int (Int32.ofNat c) := by
  show Value.int _ = _; congr 1; exact own_ch16 h
theorem own_sto16 {c : Nat} (h : c < 65536) : nar .char (Int32.ofNat c) = Int32.ofNat c := own_ch16 h
theorem own_am (x m : Int32) (hm : 0 ≤ m.toInt) (N : Nat) (h1 : 1 ≤ N) (h2 : N < 2 ^ 31) : ∃ I, I < N ∧ (x &&& m) % Int32.ofNat N = Int32.ofNat I := by
  have h0 := (c_and x m hm).1
  have e := (own_nat (n := N) h2).2.2
  have q := (c_irem (x &&& m) (Int32.ofNat N) N e).1 h0
  have a1 := Int.emod_lt_of_pos (x &&& m).toInt (show (0 : Int) < N by omega)
  have a2 := Int.emod_nonneg (x &&& m).toInt (show (N : Int) ≠ 0 by omega)
  refine ⟨((x &&& m).toInt % N).toNat, by omega, ?_⟩
  apply Int32.toInt_inj.mp
  rw [q, (own_nat (by omega)).2.2]; omega
theorem own_and16 (x : Int32) : ∃ n, n < 65536 ∧ x &&& (65535 : Int32) = Int32.ofNat n := by
  have h := c_and x 65535 (by decide)
  have h1 : (65535 : Int32).toInt = 65535 := rfl
  refine ⟨(x &&& 65535).toInt.toNat, by omega, ?_⟩
  apply Int32.toInt_inj.mp
  rw [(own_nat (by omega)).2.2]; omega
theorem own_and63 (x : Int64) : ∃ n, n ≤ MX ∧ x &&& (9223372036854775807 : Int64) = Int64.ofNat n := by
  refine ⟨(x &&& (9223372036854775807 : Int64)).toBitVec.toNat, ?_, ?_⟩
  · rw [Int64.toBitVec_and, BitVec.toNat_and]
    exact Nat.and_le_right
  · apply Int64.toBitVec_inj.mp
    apply BitVec.eq_of_toNat_eq
    rw [Int64.toBitVec_ofNat', BitVec.toNat_ofNat, Nat.mod_eq_of_lt (BitVec.isLt _)]
def PWL : List Value := [.long (1 : Int64), .long (10 : Int64), .long (100 : Int64), .long (1000 : Int64), .long (10000 : Int64), .long (100000 : Int64), .long (1000000 : Int64), .long (10000000 : Int64), .long (100000000 : Int64), .long (1000000000 : Int64), .long (10000000000 : Int64), .long (100000000000 : Int64), .long (1000000000000 : Int64), .long (10000000000000 : Int64), .long (100000000000000 : Int64), .long (1000000000000000 : Int64), .long (10000000000000000 : Int64), .long (100000000000000000 : Int64), .long (1000000000000000000 : Int64)]
theorem own_pw : ∀ {k : Nat}, k ≤ 18 → PWL[k]? = some (.long (Int64.ofNat (10 ^ k)))
  | 0, _ => rfl
  | 1, _ => rfl
  | 2, _ => rfl
  | 3, _ => rfl
  | 4, _ => rfl
  | 5, _ => rfl
  | 6, _ => rfl
  | 7, _ => rfl
  | 8, _ => rfl
  | 9, _ => rfl
  | 10, _ => rfl
  | 11, _ => rfl
  | 12, _ => rfl
  | 13, _ => rfl
  | 14, _ => rfl
  | 15, _ => rfl
  | 16, _ => rfl
  | 17, _ => rfl
  | 18, _ => rfl
  | n + 19, h => absurd h (by omega)
theorem own_p10 {k : Nat} (h : k ≤ 18) : 0 < 10 ^ k ∧ 10 ^ k < 2 ^ 63 := ⟨Nat.pow_pos (by decide), Nat.lt_of_le_of_lt (Nat.pow_le_pow_right (by decide) h) (by decide)⟩
theorem own_full (W d e_ : Nat) : ([.int (Int32.ofNat (48 + W / 1000000000000000000 % 10)), .int (Int32.ofNat (48 + W / 100000000000000000 % 10)), .int (Int32.ofNat (48 + W / 10000000000000000 % 10)), .int (Int32.ofNat (48 + W / 1000000000000000 % 10)), .int (Int32.ofNat (48 + W / 100000000000000 % 10)), .int (Int32.ofNat (48 + W / 10000000000000 % 10)), .int (Int32.ofNat (48 + W / 1000000000000 % 10)), .int (Int32.ofNat (48 + W / 100000000000 % 10)), .int (Int32.ofNat (48 + W / 10000000000 % 10)), .int (Int32.ofNat (48 + W / 1000000000 % 10)), .int (Int32.ofNat (48 + W / 100000000 % 10)), .int (Int32.ofNat (48 + W / 10000000 % 10)), .int (Int32.ofNat (48 + W / 1000000 % 10)), .int (Int32.ofNat (48 + W / 100000 % 10)), .int (Int32.ofNat (48 + W / 10000 % 10)), .int (Int32.ofNat (48 + W / 1000 % 10)), .int (Int32.ofNat (48 + W / 100 % 10)), .int (Int32.ofNat (48 + W / 10 % 10)), .int (Int32.ofNat (48 + W / 1 % 10)), .int (Int32.ofNat (48 + d)), .int (Int32.ofNat (48 + e_))] : List Value) = IL 21 (fun q => Int32.ofNat (fc W d e_ q)) := rfl
/-- the chars of s with one of them changed -/
def cor (W d e_ p x : Nat) : Nat → Nat := fun q => if q = p then x else fc W d e_ q
theorem cor_IL (W d e_ p x n : Nat) : IL n (fun q => if q = p then Int32.ofNat x else Int32.ofNat (fc W d e_ q)) = IL n (fun q => Int32.ofNat (cor W d e_ p x q)) := by
  apply IL_congr; intro q hq; unfold cor; by_cases z : q = p <;> simp [z]
/-- a String of n chars ch, in either coding -/
def StrX (Z : State) (h : Heap) (a : Addr) (n : Nat) (ch : Nat → Nat) : Prop := ∃ t, Exa Z h a "java/lang/String" ∧ Fld Z h a "java/lang/String" "value" "[B" (.ref t) ∧
  ((Fld Z h a "java/lang/String" "coder" "B" (.int (0 : Int32)) ∧ Ary Z h t .byte (IL n (fun q => bI (ch q))) ∧ ∀ q, q < n → ch q < 256) ∨ (Fld Z h a "java/lang/String" "coder" "B" (.int (1 : Int32)) ∧ Ary Z h t .byte (IL (2 * n) (u2 ch)) ∧ ∀ q, q < n → ch q < 65536))
theorem StrX.exa {Z : State} {h : Heap} {a : Addr} {n : Nat} {ch : Nat → Nat} (S : StrX Z h a n ch) : Exa Z h a "java/lang/String" := by obtain ⟨t, E, -⟩ := S; exact E

theorem pd__28_5bCI_5bBII_29I : parseMethodDescriptor "([CI[BII)I" = some ⟨[(.array .char), .int, (.array .byte), .int, .int], some .int⟩ := by decide +kernel
theorem pd__28_5bCII_29_5bB : parseMethodDescriptor "([CII)[B" = some ⟨[(.array .char), .int, .int], some (.array .byte)⟩ := by decide +kernel
theorem pd__28_5bBI_29B : parseMethodDescriptor "([BI)B" = some ⟨[(.array .byte), .int], some .byte⟩ := by decide +kernel
theorem pd__28_5bCIILjava_2flang_2fVoid_3b_29V : parseMethodDescriptor "([CIILjava/lang/Void;)V" = some ⟨[(.array .char), .int, .int, (.object "java/lang/Void")], none⟩ := by decide +kernel
theorem pd__28_29B : parseMethodDescriptor "()B" = some ⟨[], some .byte⟩ := by decide +kernel
theorem pd__28IILjava_2futil_2ffunction_2fBiFunction_3b_29I : parseMethodDescriptor "(IILjava/util/function/BiFunction;)I" = some ⟨[.int, .int, (.object "java/util/function/BiFunction")], some .int⟩ := by decide +kernel
theorem pd__28II_29V : parseMethodDescriptor "(II)V" = some ⟨[.int, .int], none⟩ := by decide +kernel
theorem pd__28_29Z : parseMethodDescriptor "()Z" = some ⟨[], some .boolean⟩ := by decide +kernel
theorem pd__28_5bBI_29C : parseMethodDescriptor "([BI)C" = some ⟨[(.array .byte), .int], some .char⟩ := by decide +kernel
theorem pd__28I_29I : parseMethodDescriptor "(I)I" = some ⟨[.int], some .int⟩ := by decide +kernel
theorem pd__28_5bB_29I : parseMethodDescriptor "([B)I" = some ⟨[(.array .byte)], some .int⟩ := by decide +kernel
theorem pd__28I_5bB_29V : parseMethodDescriptor "(I[B)V" = some ⟨[.int, (.array .byte)], none⟩ := by decide +kernel
theorem pd__28I_29_5bB : parseMethodDescriptor "(I)[B" = some ⟨[.int], some (.array .byte)⟩ := by decide +kernel
theorem pd__28_5bBII_29V : parseMethodDescriptor "([BII)V" = some ⟨[(.array .byte), .int, .int], none⟩ := by decide +kernel
theorem pd__28J_29V : parseMethodDescriptor "(J)V" = some ⟨[.long], none⟩ := by decide +kernel
theorem pd__28_29I : parseMethodDescriptor "()I" = some ⟨[], some .int⟩ := by decide +kernel
theorem pd__28_29Ljava_2futil_2fOptionalLong_3b : parseMethodDescriptor "()Ljava/util/OptionalLong;" = some ⟨[], some (.object "java/util/OptionalLong")⟩ := by decide +kernel
theorem pd__28J_29Ljava_2futil_2fOptionalLong_3b : parseMethodDescriptor "(J)Ljava/util/OptionalLong;" = some ⟨[.long], some (.object "java/util/OptionalLong")⟩ := by decide +kernel
theorem pd__28I_29C : parseMethodDescriptor "(I)C" = some ⟨[.int], some .char⟩ := by decide +kernel
theorem pd__28JJ_29C : parseMethodDescriptor "(JJ)C" = some ⟨[.long, .long], some .char⟩ := by decide +kernel
theorem pd__28_5bC_29V : parseMethodDescriptor "([C)V" = some ⟨[(.array .char)], none⟩ := by decide +kernel
theorem pd__28Ljava_2flang_2fString_3b_29Ljava_2futil_2fOptionalLong_3b : parseMethodDescriptor "(Ljava/lang/String;)Ljava/util/OptionalLong;" = some ⟨[(.object "java/lang/String")], some (.object "java/util/OptionalLong")⟩ := by decide +kernel
theorem pd__28_29J : parseMethodDescriptor "()J" = some ⟨[], some .long⟩ := by decide +kernel
theorem pd__28JI_29J : parseMethodDescriptor "(JI)J" = some ⟨[.long, .int], some .long⟩ := by decide +kernel
theorem dcp2_0 : decode jdk_52_method_21_code 0 = .ok (.iconst 0, 1) := by decide +kernel
theorem dcp2_1 : decode jdk_52_method_21_code 1 = .ok (.istore 5, 2) := by decide +kernel
theorem dcp2_3 : decode jdk_52_method_21_code 3 = .ok (.iload 5, 2) := by decide +kernel
theorem dcp2_5 : decode jdk_52_method_21_code 5 = .ok (.iload 4, 2) := by decide +kernel
theorem dcp2_7 : decode jdk_52_method_21_code 7 = .ok (.if_icmp .ge 37, 3) := by decide +kernel
theorem dcp2_10 : decode jdk_52_method_21_code 10 = .ok (.aload_n 0, 1) := by decide +kernel
theorem dcp2_11 : decode jdk_52_method_21_code 11 = .ok (.iload_n 1, 1) := by decide +kernel
theorem dcp2_12 : decode jdk_52_method_21_code 12 = .ok (.caload, 1) := by decide +kernel
theorem dcp2_13 : decode jdk_52_method_21_code 13 = .ok (.istore 6, 2) := by decide +kernel
theorem dcp2_15 : decode jdk_52_method_21_code 15 = .ok (.iload 6, 2) := by decide +kernel
theorem dcp2_17 : decode jdk_52_method_21_code 17 = .ok (.sipush 255, 3) := by decide +kernel
theorem dcp2_20 : decode jdk_52_method_21_code 20 = .ok (.if_icmp .le 6, 3) := by decide +kernel
theorem dcp2_26 : decode jdk_52_method_21_code 26 = .ok (.aload_n 2, 1) := by decide +kernel
theorem dcp2_27 : decode jdk_52_method_21_code 27 = .ok (.iload_n 3, 1) := by decide +kernel
theorem dcp2_28 : decode jdk_52_method_21_code 28 = .ok (.iload 6, 2) := by decide +kernel
theorem dcp2_30 : decode jdk_52_method_21_code 30 = .ok (.i2b, 1) := by decide +kernel
theorem dcp2_31 : decode jdk_52_method_21_code 31 = .ok (.bastore, 1) := by decide +kernel
theorem dcp2_32 : decode jdk_52_method_21_code 32 = .ok (.iinc 1 1, 3) := by decide +kernel
theorem dcp2_35 : decode jdk_52_method_21_code 35 = .ok (.iinc 3 1, 3) := by decide +kernel
theorem dcp2_38 : decode jdk_52_method_21_code 38 = .ok (.iinc 5 1, 3) := by decide +kernel
theorem dcp2_41 : decode jdk_52_method_21_code 41 = .ok (.goto (-38), 3) := by decide +kernel
theorem dcp2_44 : decode jdk_52_method_21_code 44 = .ok (.iload 4, 2) := by decide +kernel
theorem dcp2_46 : decode jdk_52_method_21_code 46 = .ok (.ireturn, 1) := by decide +kernel
theorem pn_cp2 : plainFor (⟨"java/lang/StringUTF16", "compress", "([CI[BII)I"⟩ : MethodName) = true := by first | exact plainFor_of_name (by first | (simp [plainName, overriddenIn]; done) | decide +kernel) | decide +kernel
theorem ef_cp2 (m : MethodId) (x0 : Addr) (x1 : Int32) (x2 : Addr) (x3 : Int32) (x4 : Int32) : entryFrame m #[(.ref x0), (.int x1), (.ref x2), (.int x3), (.int x4)] 7 = mkF m 0 #[rv x0, iv x1, rv x2, iv x3, iv x4, .unset, .unset] [] := by first | (simp [entryFrame, mkF, argsToLocals, Value.category]; done) | rfl
set_option maxRecDepth 65536 in
set_option maxHeartbeats 40000000 in
theorem rm_cp2 (l : Launch) (Z : State) (a0 : Array Value) (hw : ∀ d ∈ tables_1, d.before a0 Z = true) (ws : List Jvm.Cond) (arr dst : Addr) (n : Nat) (ch : Nat → Nat) (n0 : Nat) (h0 : Heap) (Z0 : n0 ≤ h0.size) (hn : n ≤ 21) (hc : ∀ q, q < n → ch q < 256) (V_a : Ary Z h0 arr .char (IL n (fun q => Int32.ofNat (ch q)))) (V_d : Ary Z h0 dst .byte (IL n (fun _ => 0))) (g_d : n0 ≤ dst) (ne_ad : arr ≠ dst) :
    Mt l Z (⟨"java/lang/StringUTF16", "compress", "([CI[BII)I"⟩ : MethodName) jdk_52_method_21_code 7 (some .int) ws ({ frames := 0, cells := 0, slots := 0, locals := 0 } : Room) #[(.ref arr), (.int (0 : Int32)), (.ref dst), (.int (0 : Int32)), (.int (Int32.ofNat n))] h0 (fun v h L => v = some (.int (Int32.ofNat n)) ∧ Fr n0 L ∧ Keep h0 h [dst] ∧ Ary Z h dst .byte (IL n (fun q => bI (ch q)))) := by
  refine Mt.body pn_cp2 ?_
  intro p e s m below meth c s₁ hx hby hml hown hnm hret hlk hZ X0 e0
  refine Go.cast (g' := (mkF m 0 #[rv arr, iv (0 : Int32), rv dst, iv (0 : Int32), iv (Int32.ofNat n), .unset, .unset] [])) (ef_cp2 m arr (0 : Int32) dst (0 : Int32) (Int32.ofNat n)) ?_
  have N0 := Fr.nil n0
  refine Go.st (T' := s₁) (g' := (mkF m 3 #[rv arr, iv (0 : Int32), rv dst, iv (0 : Int32), iv (Int32.ofNat n), iv (0 : Int32), .unset] [])) ?_ (fun _ kk_ => XS.iconst X0.here hx rfl (hb hby dcp2_0) (XS.istore X0.here hx rfl (hb hby dcp2_1) rfl (l' := #[rv arr, iv (0 : Int32), rv dst, iv (0 : Int32), iv (Int32.ofNat n), iv (0 : Int32), .unset]) rfl kk_))
  have loop : ∀ (r i : Nat) (T : State) (h : Heap) (locs : List Loc) (s6 : Slot), i + r = n → Stand p l e ({ frames := 0, cells := 0, slots := 0, locals := 0 } : Room) s m #[.ref arr, .int (0 : Int32), .ref dst, .int (0 : Int32), .int (Int32.ofNat n)] below meth c T locs 0 0 → T.heap = h → Fr n0 locs → Keep h0 h [dst] → n0 ≤ h.size → Ary Z h arr .char (IL n (fun q => Int32.ofNat (ch q))) → Ary Z h dst .byte (IL n (fun q => if q < i then bI (ch q) else 0)) → One s6 → Go p e below (Wf s 0 0 (fun v h L => v = some (.int (Int32.ofNat n)) ∧ Fr n0 L ∧ Keep h0 h [dst] ∧ Ary Z h dst .byte (IL n (fun q => bI (ch q))))) T (mkF m 3 #[rv arr, iv (Int32.ofNat i), rv dst, iv (Int32.ofNat i), iv (Int32.ofNat n), iv (Int32.ofNat i), s6] []) := by
    intro r
    induction r with
    | zero =>
      intro i T h locs s6 hi X e1 NA KA ZA VA VB hs6
      refine Go.st (T' := T) (g' := (mkF m 46 #[rv arr, iv (Int32.ofNat i), rv dst, iv (Int32.ofNat i), iv (Int32.ofNat n), iv (Int32.ofNat i), s6] [(.int (Int32.ofNat n))])) ?_ (fun _ kk_ => XS.iload X.here hx rfl (hb hby dcp2_3) rfl  (XS.iload X.here hx rfl (hb hby dcp2_5) rfl  (XS.icmpYes X.here hx rfl (pc0 := 7) (pc' := 44) rfl (hb hby dcp2_7) rfl (flt ((fun z => by have := (own_lt (by omega) (by omega)).mp z; omega) : ¬ ((Int32.ofNat i) < (Int32.ofNat n)))).2.1 (by decide) (by decide) (XS.iload X.here hx rfl (hb hby dcp2_44) rfl  kk_))))
      refine Go.retI X hx hlk hret (hb hby dcp2_46) (by decide) (by decide) ?_
      try rw [e1]
      exact ⟨rfl, NA, KA, IL_congr (n := n) (f := fun q => if q < i then bI (ch q) else 0) (f' := fun q => bI (ch q)) (fun q hq => if_pos (by omega)) ▸ VB⟩
    | succ r ih =>
      intro i T h locs s6 hi X e1 NA KA ZA VA VB hs6
      refine Go.st (T' := T) (g' := (mkF m 7 #[rv arr, iv (Int32.ofNat i), rv dst, iv (Int32.ofNat i), iv (Int32.ofNat n), iv (Int32.ofNat i), s6] [(.int (Int32.ofNat n)), (.int (Int32.ofNat i))])) ?_ (fun _ kk_ => XS.iload X.here hx rfl (hb hby dcp2_3) rfl  (XS.iload X.here hx rfl (hb hby dcp2_5) rfl  kk_))
      have hin : i < n := by omega
      have hci := hc i hin
      refine Go.st (T' := T) (g' := (mkF m 31 #[rv arr, iv (Int32.ofNat i), rv dst, iv (Int32.ofNat i), iv (Int32.ofNat n), iv (Int32.ofNat i), iv (Int32.ofNat (ch i))] [(.int ((Int32.ofNat (ch i)).toInt8.toInt32)), (.int (Int32.ofNat i)), (.ref dst)])) ?_ (fun _ kk_ => XS.icmpNo X.here hx rfl (hb hby dcp2_7) rfl (tlt (((own_lt (by omega) (by omega)).mpr hin) : (Int32.ofNat i) < (Int32.ofNat n))).2.1 (XS.aloadN X.here hx rfl (hb hby dcp2_10) rfl rfl  (XS.iloadN X.here hx rfl (hb hby dcp2_11) rfl  (own_caload X hx hZ e1 VA (i := i) (v := (.int (Int32.ofNat (ch i)))) (IL_at hin) rfl rfl rfl (hb hby dcp2_12) (XS.istore X.here hx rfl (hb hby dcp2_13) rfl (l' := #[rv arr, iv (Int32.ofNat i), rv dst, iv (Int32.ofNat i), iv (Int32.ofNat n), iv (Int32.ofNat i), iv (Int32.ofNat (ch i))]) (by rcases hs6 with rfl | ⟨w, rfl, hw_⟩ <;> first | rfl | (cases w <;> first | rfl | (simp [Value.category] at hw_))) (XS.iload X.here hx rfl (hb hby dcp2_15) rfl  (XS.sipush X.here hx rfl (hb hby dcp2_17) (XS.icmpYes X.here hx rfl (pc0 := 20) (pc' := 26) rfl (hb hby dcp2_20) rfl (flt ((fun z => by have := (own_lt (i := 255) (by decide) (by omega)).mp z; omega) : ¬ ((255 : Int32) < (Int32.ofNat (ch i))))).2.2.2 (by decide) (by decide) (XS.aloadN X.here hx rfl (hb hby dcp2_26) rfl rfl  (XS.iloadN X.here hx rfl (hb hby dcp2_27) rfl  (XS.iload X.here hx rfl (hb hby dcp2_28) rfl  (XS.i2b X.here hx rfl (hb hby dcp2_30) rfl kk_))))))))))))
      refine Go.bastore X hx hZ e1 VB (i := i) (by rw [IL_len]; exact hin) rfl rfl rfl (hb hby dcp2_31) ?_
      intro T1 h1 X1 e1 W1 V1
      have N2 := Fr.snoc X1 NA g_d
      have K3 : Keep h0 h1 [dst] := KA.wr W1 (Or.inl (List.mem_of_getElem? (i := 0) rfl))
      have Z4 : n0 ≤ h1.size := by rw [W1.size]; exact ZA
      show Go p e below _ T1 (mkF m 32 #[rv arr, iv (Int32.ofNat i), rv dst, iv (Int32.ofNat i), iv (Int32.ofNat n), iv (Int32.ofNat i), iv (Int32.ofNat (ch i))] [])
      rw [show ((Int32.ofNat (ch i)).toInt8.toInt32).toInt8.toInt32 = bI (ch i) from bI_twice _ hci, IL_set hin] at V1
      refine Go.st (T' := T1) (g' := (mkF m 35 #[rv arr, iv ((Int32.ofNat i) + (1 : Int32)), rv dst, iv (Int32.ofNat i), iv (Int32.ofNat n), iv (Int32.ofNat i), iv (Int32.ofNat (ch i))] [])) ?_ (fun _ kk_ => XS.iinc X1.here hx rfl (hb hby dcp2_32) rfl (l' := #[rv arr, iv ((Int32.ofNat i) + (1 : Int32)), rv dst, iv (Int32.ofNat i), iv (Int32.ofNat n), iv (Int32.ofNat i), iv (Int32.ofNat (ch i))]) rfl kk_)
      refine Go.st (T' := T1) (g' := (mkF m 38 #[rv arr, iv ((Int32.ofNat i) + (1 : Int32)), rv dst, iv ((Int32.ofNat i) + (1 : Int32)), iv (Int32.ofNat n), iv (Int32.ofNat i), iv (Int32.ofNat (ch i))] [])) ?_ (fun _ kk_ => XS.iinc X1.here hx rfl (hb hby dcp2_35) rfl (l' := #[rv arr, iv ((Int32.ofNat i) + (1 : Int32)), rv dst, iv ((Int32.ofNat i) + (1 : Int32)), iv (Int32.ofNat n), iv (Int32.ofNat i), iv (Int32.ofNat (ch i))]) rfl kk_)
      refine Go.st (T' := T1) (g' := (mkF m 41 #[rv arr, iv ((Int32.ofNat i) + (1 : Int32)), rv dst, iv ((Int32.ofNat i) + (1 : Int32)), iv (Int32.ofNat n), iv ((Int32.ofNat i) + (1 : Int32)), iv (Int32.ofNat (ch i))] [])) ?_ (fun _ kk_ => XS.iinc X1.here hx rfl (hb hby dcp2_38) rfl (l' := #[rv arr, iv ((Int32.ofNat i) + (1 : Int32)), rv dst, iv ((Int32.ofNat i) + (1 : Int32)), iv (Int32.ofNat n), iv ((Int32.ofNat i) + (1 : Int32)), iv (Int32.ofNat (ch i))]) rfl kk_)
      have eI : Int32.ofNat i + (1 : Int32) = Int32.ofNat (i + 1) := own_add i 1
      rw [eI]
      show Go p e below _ T1 (mkF m 41 #[rv arr, iv (Int32.ofNat (i + 1)), rv dst, iv (Int32.ofNat (i + 1)), iv (Int32.ofNat n), iv (Int32.ofNat (i + 1)), iv (Int32.ofNat (ch i))] [])
      refine Go.st (T' := T1) (g' := (mkF m 3 #[rv arr, iv (Int32.ofNat (i + 1)), rv dst, iv (Int32.ofNat (i + 1)), iv (Int32.ofNat n), iv (Int32.ofNat (i + 1)), iv (Int32.ofNat (ch i))] [])) ?_ (fun _ kk_ => XS.goto X1.here hx rfl (pc0 := 41) (pc' := 3) rfl (hb hby dcp2_41) (by decide) (by decide) kk_)
      have f5 := (VA.other W1 ne_ad)
      exact ih (i + 1) T1 h1 _ _ (by omega) X1 e1 N2 K3 Z4 f5 (IL_congr (f := fun q => if q = i then bI (ch i) else if q < i then bI (ch q) else 0) (f' := fun q => if q < i + 1 then bI (ch q) else 0) (fun q hq => own_fill (fun q => bI (ch q)) i q) ▸ V1) (One.val rfl)
  exact loop n 0 s₁ h0 [] _ (by omega) X0 e0 N0 (Keep.refl _ _) Z0 V_a (IL_congr (f := fun _ => 0) (f' := fun q => if q < 0 then bI (ch q) else 0) (fun q hq => (if_neg (Nat.not_lt_zero q)).symm) ▸ V_d) One.u
theorem dcp1_0 : decode jdk_52_method_16_code 0 = .ok (.iload_n 2, 1) := by decide +kernel
theorem dcp1_1 : decode jdk_52_method_16_code 1 = .ok (.newarray .byte, 2) := by decide +kernel
theorem dcp1_3 : decode jdk_52_method_16_code 3 = .ok (.astore_n 3, 1) := by decide +kernel
theorem dcp1_4 : decode jdk_52_method_16_code 4 = .ok (.aload_n 0, 1) := by decide +kernel
theorem dcp1_5 : decode jdk_52_method_16_code 5 = .ok (.iload_n 1, 1) := by decide +kernel
theorem dcp1_6 : decode jdk_52_method_16_code 6 = .ok (.aload_n 3, 1) := by decide +kernel
theorem dcp1_7 : decode jdk_52_method_16_code 7 = .ok (.iconst 0, 1) := by decide +kernel
theorem dcp1_8 : decode jdk_52_method_16_code 8 = .ok (.iload_n 2, 1) := by decide +kernel
theorem dcp1_9 : decode jdk_52_method_16_code 9 = .ok (.invokestatic 115, 3) := by decide +kernel
theorem dcp1_12 : decode jdk_52_method_16_code 12 = .ok (.istore 4, 2) := by decide +kernel
theorem dcp1_14 : decode jdk_52_method_16_code 14 = .ok (.iload 4, 2) := by decide +kernel
theorem dcp1_16 : decode jdk_52_method_16_code 16 = .ok (.iload_n 2, 1) := by decide +kernel
theorem dcp1_17 : decode jdk_52_method_16_code 17 = .ok (.if_icmp .eq 40, 3) := by decide +kernel
theorem dcp1_57 : decode jdk_52_method_16_code 57 = .ok (.aload_n 3, 1) := by decide +kernel
theorem dcp1_58 : decode jdk_52_method_16_code 58 = .ok (.areturn, 1) := by decide +kernel
theorem pn_cp1 : plainFor (⟨"java/lang/StringUTF16", "compress", "([CII)[B"⟩ : MethodName) = true := by first | exact plainFor_of_name (by first | (simp [plainName, overriddenIn]; done) | decide +kernel) | decide +kernel
theorem ef_cp1 (m : MethodId) (x0 : Addr) (x1 : Int32) (x2 : Int32) : entryFrame m #[(.ref x0), (.int x1), (.int x2)] 6 = mkF m 0 #[rv x0, iv x1, iv x2, .unset, .unset, .unset] [] := by first | (simp [entryFrame, mkF, argsToLocals, Value.category]; done) | rfl
set_option maxRecDepth 65536 in
set_option maxHeartbeats 40000000 in
theorem rm_cp1 (l : Launch) (Z : State) (a0 : Array Value) (hw : ∀ d ∈ tables_1, d.before a0 Z = true) (ws : List Jvm.Cond) (arr : Addr) (n : Nat) (ch : Nat → Nat) (n0 : Nat) (h0 : Heap) (Z0 : n0 ≤ h0.size) (hn : n ≤ 21) (hc : ∀ q, q < n → ch q < 256) (V_arr : Ary Z h0 arr .char (IL n (fun q => Int32.ofNat (ch q)))) :
    Mt l Z (⟨"java/lang/StringUTF16", "compress", "([CII)[B"⟩ : MethodName) jdk_52_method_16_code 6 (some (.array .byte)) ws ({ frames := 1, cells := 1, slots := 21, locals := 20 } : Room) #[(.ref arr), (.int (0 : Int32)), (.int (Int32.ofNat n))] h0 (fun v h L => ∃ t, v = some (.ref t) ∧ Fr n0 L ∧ Keep h0 h [] ∧ h0.size ≤ t ∧ Ary Z h t .byte (IL n (fun q => bI (ch q)))) := by
  refine Mt.body pn_cp1 ?_
  intro p e s m below meth c s₁ hx hby hml hown hnm hret hlk hZ X0 e0
  refine Go.cast (g' := (mkF m 0 #[rv arr, iv (0 : Int32), iv (Int32.ofNat n), .unset, .unset, .unset] [])) (ef_cp1 m arr (0 : Int32) (Int32.ofNat n)) ?_
  have N0 := Fr.nil n0
  have K0 := Keep.refl h0 ([] : List Addr)
  refine Go.st (T' := s₁) (g' := (mkF m 1 #[rv arr, iv (0 : Int32), iv (Int32.ofNat n), .unset, .unset, .unset] [(.int (Int32.ofNat n))])) ?_ (fun _ kk_ => XS.iloadN X0.here hx rfl (hb hby dcp1_0) rfl  kk_)
  refine Go.newP X0 hx hZ (aty := .byte) (hw _ (List.mem_of_getElem? (i := 44) rfl)) e0 rfl (hb hby dcp1_1) (n := n) rfl rfl 21 hn (by decide) (by decide) (by decide) ?_
  intro T1 h1 b1 X1 e1 E1 g1 V1
  have ne_arr_b1 : arr ≠ b1 := Nat.ne_of_lt (Nat.lt_of_lt_of_eq (V_arr).lt g1.symm)
  have g_b1 : n0 ≤ b1 := Nat.le_trans Z0 (Nat.le_of_eq g1.symm)
  have sz_b1 : h0.size ≤ b1 := Nat.le_trans K0.1 (Nat.le_of_eq g1.symm)
  have Z2 : n0 ≤ h1.size := Nat.le_trans Z0 E1.1
  have K3 : Keep h0 h1 ([] : List Addr) := K0.ext E1
  change Ary Z h1 b1 .byte (List.replicate n (.int 0)) at V1
  show Go p e below _ T1 (mkF m 3 #[rv arr, iv (0 : Int32), iv (Int32.ofNat n), .unset, .unset, .unset] [(.ref b1)])
  rw [IL_rep] at V1
  refine Go.st (T' := T1) (g' := (mkF m 9 #[rv arr, iv (0 : Int32), iv (Int32.ofNat n), rv b1, .unset, .unset] [(.int (Int32.ofNat n)), (.int (0 : Int32)), (.ref b1), (.int (0 : Int32)), (.ref arr)])) ?_ (fun _ kk_ => XS.astoreN X1.here hx rfl (hb hby dcp1_3) rfl rfl (l' := #[rv arr, iv (0 : Int32), iv (Int32.ofNat n), rv b1, .unset, .unset]) rfl (XS.aloadN X1.here hx rfl (hb hby dcp1_4) rfl rfl  (XS.iloadN X1.here hx rfl (hb hby dcp1_5) rfl  (XS.aloadN X1.here hx rfl (hb hby dcp1_6) rfl rfl  (XS.iconst X1.here hx rfl (hb hby dcp1_7) (XS.iloadN X1.here hx rfl (hb hby dcp1_8) rfl  kk_))))))
  have f4 := (V_arr.ext E1)
  refine Go.callS (y := (⟨"java/lang/StringUTF16", "compress", "([CI[BII)I"⟩ : MethodName)) X1 hx hZ hown (hw _ (List.mem_of_getElem? (i := 45) rfl)) (hw _ (List.mem_of_getElem? (i := 46) rfl)) (hw _ (List.mem_of_getElem? (i := 42) rfl)) (hw _ (List.mem_of_getElem? (i := 47) rfl)) (by decide) 0 (rm_cp2 l Z a0 hw [] arr b1 n ch n0 h1 Z2 hn hc f4 V1 g_b1 ne_arr_b1) e1 (by decide) (by decide) (by decide) (by decide) (argsL := [(.ref arr), (.int (0 : Int32)), (.ref b1), (.int (0 : Int32)), (.int (Int32.ofNat n))]) (rest := []) rfl (by rw [hml]; rfl) (lenOf pd__28_5bCI_5bBII_29I rfl) rfl rfl (by show 2 * 0 + _ ≤ _; exact Nat.le_of_eq rfl) (hb hby dcp1_9) ?_
  rintro _ T5 L5 X5 ⟨rfl, N5, K5, V5⟩
  have N6 := Fr.app N0 N5
  have Z7 : n0 ≤ T5.heap.size := Nat.le_trans Z2 K5.1
  have K8 : Keep h0 T5.heap ([] : List Addr) := K3.trans K5 (allS (P := fun z_ => z_ ∈ ([] : List Addr) ∨ h0.size ≤ z_) (Or.inr sz_b1) all0)
  show Go p e below _ T5 (mkF m 12 #[rv arr, iv (0 : Int32), iv (Int32.ofNat n), rv b1, .unset, .unset] [(.int (Int32.ofNat n))])
  refine Go.st (T' := T5) (g' := (mkF m 58 #[rv arr, iv (0 : Int32), iv (Int32.ofNat n), rv b1, iv (Int32.ofNat n), .unset] [(.ref b1)])) ?_ (fun _ kk_ => XS.istore X5.here hx rfl (hb hby dcp1_12) rfl (l' := #[rv arr, iv (0 : Int32), iv (Int32.ofNat n), rv b1, iv (Int32.ofNat n), .unset]) rfl (XS.iload X5.here hx rfl (hb hby dcp1_14) rfl  (XS.iloadN X5.here hx rfl (hb hby dcp1_16) rfl  (XS.icmpYes X5.here hx rfl (pc0 := 17) (pc' := 57) rfl (hb hby dcp1_17) rfl (teq (rfl : (Int32.ofNat n) = (Int32.ofNat n))).1 (by decide) (by decide) (XS.aloadN X5.here hx rfl (hb hby dcp1_57) rfl rfl  kk_)))))
  refine Go.retA X5 hx hlk hret rfl rfl (hb hby dcp1_58) (by decide) (by decide) ?_
  exact ⟨b1, rfl, N6, K8, sz_b1, V5⟩
theorem dcal_0 : decode jdk_52_method_15_code 0 = .ok (.iload_n 1, 1) := by decide +kernel
theorem dcal_1 : decode jdk_52_method_15_code 1 = .ok (.aload_n 0, 1) := by decide +kernel
theorem dcal_2 : decode jdk_52_method_15_code 2 = .ok (.arraylength, 1) := by decide +kernel
theorem dcal_3 : decode jdk_52_method_15_code 3 = .ok (.isub, 1) := by decide +kernel
theorem dcal_4 : decode jdk_52_method_15_code 4 = .ok (.bipush 31, 2) := by decide +kernel
theorem dcal_6 : decode jdk_52_method_15_code 6 = .ok (.iushr, 1) := by decide +kernel
theorem dcal_7 : decode jdk_52_method_15_code 7 = .ok (.i2b, 1) := by decide +kernel
theorem dcal_8 : decode jdk_52_method_15_code 8 = .ok (.ireturn, 1) := by decide +kernel
theorem pn_cal : plainFor (⟨"java/lang/StringUTF16", "coderFromArrayLen", "([BI)B"⟩ : MethodName) = true := by first | exact plainFor_of_name (by first | (simp [plainName, overriddenIn]; done) | decide +kernel) | decide +kernel
theorem ef_cal (m : MethodId) (x0 : Addr) (x1 : Int32) : entryFrame m #[(.ref x0), (.int x1)] 2 = mkF m 0 #[rv x0, iv x1] [] := by first | (simp [entryFrame, mkF, argsToLocals, Value.category]; done) | rfl
set_option maxRecDepth 65536 in
set_option maxHeartbeats 40000000 in
theorem rm_cal (l : Launch) (Z : State) (a0 : Array Value) (hw : ∀ d ∈ tables_1, d.before a0 Z = true) (ws : List Jvm.Cond) (t : Addr) (n : Nat) (f : Nat → Int32) (h0 : Heap) (V_t : Ary Z h0 t .byte (IL n f)) :
    Mt l Z (⟨"java/lang/StringUTF16", "coderFromArrayLen", "([BI)B"⟩ : MethodName) jdk_52_method_15_code 2 (some .byte) ws ({ frames := 0, cells := 0, slots := 0, locals := 0 } : Room) #[(.ref t), (.int (Int32.ofNat n))] h0 (fun v h L => v = some (.int (0 : Int32)) ∧ h = h0 ∧ L = []) := by
  refine Mt.body pn_cal ?_
  intro p e s m below meth c s₁ hx hby hml hown hnm hret hlk hZ X0 e0
  refine Go.cast (g' := (mkF m 0 #[rv t, iv (Int32.ofNat n)] [])) (ef_cal m t (Int32.ofNat n)) ?_
  have N0 := Fr.nil 0
  refine Go.st (T' := s₁) (g' := (mkF m 4 #[rv t, iv (Int32.ofNat n)] [(.int ((Int32.ofNat n) - (Int32.ofNat n)))])) ?_ (fun _ kk_ => XS.iloadN X0.here hx rfl (hb hby dcal_0) rfl  (XS.aloadN X0.here hx rfl (hb hby dcal_1) rfl rfl  (own_alen X0 hx hZ e0 V_t (IL_len _ _) rfl rfl (hb hby dcal_2) (XS.isub X0.here hx rfl (hb hby dcal_3) rfl kk_))))
  rw [show Int32.ofNat n - Int32.ofNat n = (0 : Int32) from Int32.sub_self _]
  show Go p e below _ s₁ (mkF m 4 #[rv t, iv (Int32.ofNat n)] [(.int (0 : Int32))])
  refine Go.st (T' := s₁) (g' := (mkF m 8 #[rv t, iv (Int32.ofNat n)] [(.int ((((0 : Int32).toUInt32 >>> ((31 : Int32) &&& 31).toUInt32).toInt32).toInt8.toInt32))])) ?_ (fun _ kk_ => XS.bipush X0.here hx rfl (hb hby dcal_4) (XS.iushr X0.here hx rfl (hb hby dcal_6) rfl (XS.i2b X0.here hx rfl (hb hby dcal_7) rfl kk_)))
  refine Go.retN X0 hx hlk (t := .byte) hret (by simp) (z' := (0 : Int32)) (by decide) (hb hby dcal_8) (by decide) (by decide) ?_
  try rw [e0]
  exact ⟨rfl, rfl, rfl⟩
theorem dinV_0 : decode jdk_42_method_149_code 0 = .ok (.aload_n 0, 1) := by decide +kernel
theorem dinV_1 : decode jdk_42_method_149_code 1 = .ok (.invokespecial 1, 3) := by decide +kernel
theorem dinV_4 : decode jdk_42_method_149_code 4 = .ok (.iload_n 3, 1) := by decide +kernel
theorem dinV_5 : decode jdk_42_method_149_code 5 = .ok (.ifCond .ne 22, 3) := by decide +kernel
theorem dinV_27 : decode jdk_42_method_149_code 27 = .ok (.getstatic 38, 3) := by decide +kernel
theorem dinV_30 : decode jdk_42_method_149_code 30 = .ok (.ifCond .eq 28, 3) := by decide +kernel
theorem dinV_33 : decode jdk_42_method_149_code 33 = .ok (.aload_n 1, 1) := by decide +kernel
theorem dinV_34 : decode jdk_42_method_149_code 34 = .ok (.iload_n 2, 1) := by decide +kernel
theorem dinV_35 : decode jdk_42_method_149_code 35 = .ok (.iload_n 3, 1) := by decide +kernel
theorem dinV_36 : decode jdk_42_method_149_code 36 = .ok (.invokestatic 177, 3) := by decide +kernel
theorem dinV_39 : decode jdk_42_method_149_code 39 = .ok (.astore 5, 2) := by decide +kernel
theorem dinV_41 : decode jdk_42_method_149_code 41 = .ok (.aload_n 0, 1) := by decide +kernel
theorem dinV_42 : decode jdk_42_method_149_code 42 = .ok (.aload 5, 2) := by decide +kernel
theorem dinV_44 : decode jdk_42_method_149_code 44 = .ok (.iload_n 3, 1) := by decide +kernel
theorem dinV_45 : decode jdk_42_method_149_code 45 = .ok (.invokestatic 47, 3) := by decide +kernel
theorem dinV_48 : decode jdk_42_method_149_code 48 = .ok (.putfield 15, 3) := by decide +kernel
theorem dinV_51 : decode jdk_42_method_149_code 51 = .ok (.aload_n 0, 1) := by decide +kernel
theorem dinV_52 : decode jdk_42_method_149_code 52 = .ok (.aload 5, 2) := by decide +kernel
theorem dinV_54 : decode jdk_42_method_149_code 54 = .ok (.putfield 9, 3) := by decide +kernel
theorem dinV_57 : decode jdk_42_method_149_code 57 = .ok (.return_, 1) := by decide +kernel
theorem pn_inV : plainFor (⟨"java/lang/String", "<init>", "([CIILjava/lang/Void;)V"⟩ : MethodName) = true := by first | exact plainFor_of_name (by first | (simp [plainName, overriddenIn]; done) | decide +kernel) | decide +kernel
theorem ef_inV (m : MethodId) (x0 : Addr) (x1 : Addr) (x2 : Int32) (x3 : Int32) : entryFrame m #[(.ref x0), (.ref x1), (.int x2), (.int x3), .null] 6 = mkF m 0 #[rv x0, rv x1, iv x2, iv x3, .val .null, .unset] [] := by first | (simp [entryFrame, mkF, argsToLocals, Value.category]; done) | rfl
set_option maxRecDepth 65536 in
set_option maxHeartbeats 40000000 in
theorem rm_inV (l : Launch) (Z : State) (a0 : Array Value) (hw : ∀ d ∈ tables_1, d.before a0 Z = true) (ws : List Jvm.Cond) (x arr : Addr) (n : Nat) (ch : Nat → Nat) (n0 : Nat) (cS : Int32) (h0 : Heap) (Z0 : n0 ≤ h0.size) (hn1 : 1 ≤ n) (hn : n ≤ 21) (hc : ∀ q, q < n → ch q < 256) (V_arr : Ary Z h0 arr .char (IL n (fun q => Int32.ofNat (ch q)))) (E_x : Exa Z h0 x "java/lang/String") (Fv : Fld Z h0 x "java/lang/String" "value" "[B" .null) (Fc : Fld Z h0 x "java/lang/String" "coder" "B" (.int (0 : Int32))) (g_x : n0 ≤ x) (O0 : Old Z n0 h0) (Sc : Sta Z Z.heap "java/lang/String" "COMPACT_STRINGS" "Z" (.int cS)) (hcS : ¬ (cS = (0 : Int32))) (ne_x_arr : x ≠ arr) :
    Mt l Z (⟨"java/lang/String", "<init>", "([CIILjava/lang/Void;)V"⟩ : MethodName) jdk_42_method_149_code 6 none ws ({ frames := 2, cells := 1, slots := 21, locals := 38 } : Room) #[(.ref x), (.ref arr), (.int (0 : Int32)), (.int (Int32.ofNat n)), .null] h0 (fun v h L => v = none ∧ Fr n0 L ∧ Keep h0 h [x] ∧ Fld Z h x "java/lang/String" "coder" "B" (.int (0 : Int32)) ∧ ∃ t, h0.size ≤ t ∧ Fld Z h x "java/lang/String" "value" "[B" (.ref t) ∧ Ary Z h t .byte (IL n (fun q => bI (ch q)))) := by
  refine Mt.body pn_inV ?_
  intro p e s m below meth c s₁ hx hby hml hown hnm hret hlk hZ X0 e0
  refine Go.cast (g' := (mkF m 0 #[rv x, rv arr, iv (0 : Int32), iv (Int32.ofNat n), .val .null, .unset] [])) (ef_inV m x arr (0 : Int32) (Int32.ofNat n)) ?_
  have N0 := Fr.nil n0
  have K0 := Keep.refl h0 [x]
  refine Go.st (T' := s₁) (g' := (mkF m 1 #[rv x, rv arr, iv (0 : Int32), iv (Int32.ofNat n), .val .null, .unset] [(.ref x)])) ?_ (fun _ kk_ => XS.aloadN X0.here hx rfl (hb hby dinV_0) rfl rfl  kk_)
  obtain ⟨T1, X1, e1, st1⟩ := initO X0 hx hZ hown (hw _ (List.mem_of_getElem? (i := 36) rfl)) (hw _ (List.mem_of_getElem? (i := 37) rfl)) (hw _ (List.mem_of_getElem? (i := 38) rfl)) e0 (g := (mkF m 1 #[rv x, rv arr, iv (0 : Int32), iv (Int32.ofNat n), .val .null, .unset] [(.ref x)])) rfl (by rw [hml]; rfl) rfl (hb hby dinV_1) (by decide) (W := 0) (by show 2 * 0 + _ ≤ _; exact Nat.le_of_eq rfl) (by decide)
  refine Go.st (T' := T1) (g' := (mkF m 4 #[rv x, rv arr, iv (0 : Int32), iv (Int32.ofNat n), .val .null, .unset] [])) ?_ st1
  refine Go.st (T' := T1) (g' := (mkF m 27 #[rv x, rv arr, iv (0 : Int32), iv (Int32.ofNat n), .val .null, .unset] [])) ?_ (fun _ kk_ => XS.iloadN X1.here hx rfl (hb hby dinV_4) rfl  (XS.ifYes X1.here hx rfl (pc0 := 5) (pc' := 27) rfl (hb hby dinV_5) rfl ((if0 _ _).trans (feq ((fun z => by have := (own_eq (i := n) (n := 0) (by omega) (by decide)).mp z; omega) : ¬ ((Int32.ofNat n) = (0 : Int32)))).2) (by decide) (by decide) kk_))
  obtain ⟨T2, X2, e2, st2⟩ := getS2 X1 hx hZ hown (host := "") (Or.inl (hw _ (List.mem_of_getElem? (i := 39) rfl))) Via.refl e1 (Sc.ext O0.2) (g := (mkF m 27 #[rv x, rv arr, iv (0 : Int32), iv (Int32.ofNat n), .val .null, .unset] [])) rfl (hb hby dinV_27)
  refine Go.st (T' := T2) (g' := (mkF m 30 #[rv x, rv arr, iv (0 : Int32), iv (Int32.ofNat n), .val .null, .unset] [(.int cS)])) ?_ st2
  refine Go.st (T' := T2) (g' := (mkF m 36 #[rv x, rv arr, iv (0 : Int32), iv (Int32.ofNat n), .val .null, .unset] [(.int (Int32.ofNat n)), (.int (0 : Int32)), (.ref arr)])) ?_ (fun _ kk_ => XS.ifNo X2.here hx rfl (hb hby dinV_30) rfl ((if0 _ _).trans (feq (hcS : ¬ (cS = (0 : Int32)))).1) (XS.aloadN X2.here hx rfl (hb hby dinV_33) rfl rfl  (XS.iloadN X2.here hx rfl (hb hby dinV_34) rfl  (XS.iloadN X2.here hx rfl (hb hby dinV_35) rfl  kk_))))
  refine Go.callS (y := (⟨"java/lang/StringUTF16", "compress", "([CII)[B"⟩ : MethodName)) X2 hx hZ hown (hw _ (List.mem_of_getElem? (i := 40) rfl)) (hw _ (List.mem_of_getElem? (i := 41) rfl)) (hw _ (List.mem_of_getElem? (i := 42) rfl)) (hw _ (List.mem_of_getElem? (i := 43) rfl)) (by decide) 0 (rm_cp1 l Z a0 hw [] arr n ch n0 h0 Z0 hn hc V_arr) e2 (by decide) (by decide) (by decide) (by decide) (argsL := [(.ref arr), (.int (0 : Int32)), (.int (Int32.ofNat n))]) (rest := []) rfl (by rw [hml]; rfl) (lenOf pd__28_5bCII_29_5bB rfl) rfl rfl (by show 2 * 0 + _ ≤ _; exact Nat.le_of_eq rfl) (hb hby dinV_36) ?_
  rintro _ T3 L3 X3 ⟨t, rfl, N3, K3, tz, V3⟩
  have N4 := Fr.app N0 N3
  have O5 := O0.keep K3 all0
  have Z6 : n0 ≤ T3.heap.size := Nat.le_trans Z0 K3.1
  have K7 : Keep h0 T3.heap [x] := K0.trans K3 all0
  show Go p e below _ T3 (mkF m 39 #[rv x, rv arr, iv (0 : Int32), iv (Int32.ofNat n), .val .null, .unset] [(.ref t)])
  have ne_x_t : x ≠ t := Nat.ne_of_lt (Nat.lt_of_lt_of_le E_x.lt tz)
  refine Go.st (T' := T3) (g' := (mkF m 45 #[rv x, rv arr, iv (0 : Int32), iv (Int32.ofNat n), .val .null, rv t] [(.int (Int32.ofNat n)), (.ref t), (.ref x)])) ?_ (fun _ kk_ => XS.astore X3.here hx rfl (hb hby dinV_39) rfl rfl (l' := #[rv x, rv arr, iv (0 : Int32), iv (Int32.ofNat n), .val .null, rv t]) rfl (XS.aloadN X3.here hx rfl (hb hby dinV_41) rfl rfl  (XS.aload X3.here hx rfl (hb hby dinV_42) rfl rfl  (XS.iloadN X3.here hx rfl (hb hby dinV_44) rfl  kk_))))
  refine Go.callS (y := (⟨"java/lang/StringUTF16", "coderFromArrayLen", "([BI)B"⟩ : MethodName)) X3 hx hZ hown (hw _ (List.mem_of_getElem? (i := 48) rfl)) (hw _ (List.mem_of_getElem? (i := 49) rfl)) (hw _ (List.mem_of_getElem? (i := 42) rfl)) (hw _ (List.mem_of_getElem? (i := 50) rfl)) (by decide) 1 (rm_cal l Z a0 hw [] t n _ T3.heap V3) rfl (by decide) (by decide) (by decide) (by decide) (argsL := [(.ref t), (.int (Int32.ofNat n))]) (rest := [(.ref x)]) rfl (by rw [hml]; rfl) (lenOf pd__28_5bBI_29B rfl) rfl rfl (by show 2 * 0 + _ ≤ _; exact Nat.le_of_eq rfl) (hb hby dinV_45) ?_
  rintro _ T8 L8 X8 ⟨rfl, e8, rfl⟩
  have N9 := Fr.app N4 (Fr.nil _)
  show Go p e below _ T8 (mkF m 48 #[rv x, rv arr, iv (0 : Int32), iv (Int32.ofNat n), .val .null, rv t] [(.int (0 : Int32)), (.ref x)])
  have f10 := (Fc.keep K3 nin0)
  have f11 := (E_x.keep K3)
  obtain ⟨T12, h12, X12, e12, W12, st12⟩ := putFN X8 hx hZ hown (hw _ (List.mem_of_getElem? (i := 51) rfl)) Via.refl e8 f10 f11 (Or.inr ⟨(hw _ (List.mem_of_getElem? (i := 52) rfl)), rfl, hnm⟩) (hw _ (List.mem_of_getElem? (i := 27) rfl)) (ty := .byte) (v' := (.int (0 : Int32))) (by decide) (by decide) (by decide) (g := (mkF m 48 #[rv x, rv arr, iv (0 : Int32), iv (Int32.ofNat n), .val .null, rv t] [(.int (0 : Int32)), (.ref x)])) rfl rfl (hb hby dinV_48)
  have N13 := Fr.snoc X12 N9 g_x
  have O14 := O5.wr W12 g_x
  have f15 := f10.same W12
  have K16 : Keep h0 h12 [x] := K7.wr W12 (Or.inl (List.mem_of_getElem? (i := 0) rfl))
  have Z17 : n0 ≤ h12.size := by rw [W12.size]; exact Z6
  refine Go.st (T' := T12) (g' := (mkF m 51 #[rv x, rv arr, iv (0 : Int32), iv (Int32.ofNat n), .val .null, rv t] [])) ?_ st12
  refine Go.st (T' := T12) (g' := (mkF m 54 #[rv x, rv arr, iv (0 : Int32), iv (Int32.ofNat n), .val .null, rv t] [(.ref t), (.ref x)])) ?_ (fun _ kk_ => XS.aloadN X12.here hx rfl (hb hby dinV_51) rfl rfl  (XS.aload X12.here hx rfl (hb hby dinV_52) rfl rfl  kk_))
  have f18 := ((Fv.keep K3 nin0).other W12 (Or.inr (slot_ne (C := "java/lang/String") (Or.inr (hw _ (List.mem_of_getElem? (i := 54) rfl))) (Or.inr (hw _ (List.mem_of_getElem? (i := 52) rfl))) (by decide) (t := (.array .byte)) (t' := .byte) (by decide) (by decide))))
  have f19 := (f11.wr W12)
  obtain ⟨T20, h20, X20, e20, W20, st20⟩ := putF X12 hx hZ hown (host := "") (Or.inl (hw _ (List.mem_of_getElem? (i := 53) rfl))) Via.refl e12 f18 f19 (Or.inr ⟨(hw _ (List.mem_of_getElem? (i := 54) rfl)), rfl, hnm⟩) (hw _ (List.mem_of_getElem? (i := 27) rfl)) (ty := (.array .byte)) (by decide) rfl rfl (g := (mkF m 54 #[rv x, rv arr, iv (0 : Int32), iv (Int32.ofNat n), .val .null, rv t] [(.ref t), (.ref x)])) rfl rfl (hb hby dinV_54)
  have N21 := Fr.snoc X20 N13 g_x
  have O22 := O14.wr W20 g_x
  have f23 := f18.same W20
  have K24 : Keep h0 h20 [x] := K16.wr W20 (Or.inl (List.mem_of_getElem? (i := 0) rfl))
  have Z25 : n0 ≤ h20.size := by rw [W20.size]; exact Z17
  refine Go.st (T' := T20) (g' := (mkF m 57 #[rv x, rv arr, iv (0 : Int32), iv (Int32.ofNat n), .val .null, rv t] [])) ?_ st20
  have f26 := (f15.other W20 (Or.inr (slot_ne (C := "java/lang/String") (Or.inr (hw _ (List.mem_of_getElem? (i := 52) rfl))) (Or.inr (hw _ (List.mem_of_getElem? (i := 54) rfl))) (by decide) (t := .byte) (t' := (.array .byte)) (by decide) (by decide))))
  have f27 := ((V3.other W12 (Ne.symm ne_x_t)).other W20 (Ne.symm ne_x_t))
  refine Go.retV X20 hx hlk hret (hb hby dinV_57) (by decide) (by decide) ?_
  try rw [e20]
  exact ⟨rfl, N21, K24, f26, t, tz, f23, f27⟩
theorem din1_0 : decode jdk_42_method_3_code 0 = .ok (.aload_n 0, 1) := by decide +kernel
theorem din1_1 : decode jdk_42_method_3_code 1 = .ok (.aload_n 1, 1) := by decide +kernel
theorem din1_2 : decode jdk_42_method_3_code 2 = .ok (.iconst 0, 1) := by decide +kernel
theorem din1_3 : decode jdk_42_method_3_code 3 = .ok (.aload_n 1, 1) := by decide +kernel
theorem din1_4 : decode jdk_42_method_3_code 4 = .ok (.arraylength, 1) := by decide +kernel
theorem din1_5 : decode jdk_42_method_3_code 5 = .ok (.aconst_null, 1) := by decide +kernel
theorem din1_6 : decode jdk_42_method_3_code 6 = .ok (.invokespecial 27, 3) := by decide +kernel
theorem din1_9 : decode jdk_42_method_3_code 9 = .ok (.return_, 1) := by decide +kernel
theorem pn_in1 : plainFor (⟨"java/lang/String", "<init>", "([C)V"⟩ : MethodName) = true := by first | exact plainFor_of_name (by first | (simp [plainName, overriddenIn]; done) | decide +kernel) | decide +kernel
theorem ef_in1 (m : MethodId) (x0 : Addr) (x1 : Addr) : entryFrame m #[(.ref x0), (.ref x1)] 2 = mkF m 0 #[rv x0, rv x1] [] := by first | (simp [entryFrame, mkF, argsToLocals, Value.category]; done) | rfl
set_option maxRecDepth 65536 in
set_option maxHeartbeats 40000000 in
theorem rm_in1 (l : Launch) (Z : State) (a0 : Array Value) (hw : ∀ d ∈ tables_1, d.before a0 Z = true) (ws : List Jvm.Cond) (x arr : Addr) (n : Nat) (ch : Nat → Nat) (n0 : Nat) (cS : Int32) (h0 : Heap) (Z0 : n0 ≤ h0.size) (hn1 : 1 ≤ n) (hn : n ≤ 21) (hc : ∀ q, q < n → ch q < 256) (V_arr : Ary Z h0 arr .char (IL n (fun q => Int32.ofNat (ch q)))) (E_x : Exa Z h0 x "java/lang/String") (Fv : Fld Z h0 x "java/lang/String" "value" "[B" .null) (Fc : Fld Z h0 x "java/lang/String" "coder" "B" (.int (0 : Int32))) (g_x : n0 ≤ x) (O0 : Old Z n0 h0) (Sc : Sta Z Z.heap "java/lang/String" "COMPACT_STRINGS" "Z" (.int cS)) (hcS : ¬ (cS = (0 : Int32))) (ne_x_arr : x ≠ arr) :
    Mt l Z (⟨"java/lang/String", "<init>", "([C)V"⟩ : MethodName) jdk_42_method_3_code 2 none ws ({ frames := 3, cells := 1, slots := 21, locals := 55 } : Room) #[(.ref x), (.ref arr)] h0 (fun v h L => v = none ∧ Fr n0 L ∧ Keep h0 h [x] ∧ Fld Z h x "java/lang/String" "coder" "B" (.int (0 : Int32)) ∧ ∃ t, h0.size ≤ t ∧ Fld Z h x "java/lang/String" "value" "[B" (.ref t) ∧ Ary Z h t .byte (IL n (fun q => bI (ch q)))) := by
  refine Mt.body pn_in1 ?_
  intro p e s m below meth c s₁ hx hby hml hown hnm hret hlk hZ X0 e0
  refine Go.cast (g' := (mkF m 0 #[rv x, rv arr] [])) (ef_in1 m x arr) ?_
  have N0 := Fr.nil n0
  have K0 := Keep.refl h0 [x]
  refine Go.st (T' := s₁) (g' := (mkF m 6 #[rv x, rv arr] [.null, (.int (Int32.ofNat n)), (.int (0 : Int32)), (.ref arr), (.ref x)])) ?_ (fun _ kk_ => XS.aloadN X0.here hx rfl (hb hby din1_0) rfl rfl  (XS.aloadN X0.here hx rfl (hb hby din1_1) rfl rfl  (XS.iconst X0.here hx rfl (hb hby din1_2) (XS.aloadN X0.here hx rfl (hb hby din1_3) rfl rfl  (own_alen X0 hx hZ e0 V_arr (IL_len _ _) rfl rfl (hb hby din1_4) (XS.aconstNull X0.here hx rfl (hb hby din1_5) kk_))))))
  refine Go.callN (y := (⟨"java/lang/String", "<init>", "([CIILjava/lang/Void;)V"⟩ : MethodName)) X0 hx hZ rfl hown (hw _ (List.mem_of_getElem? (i := 32) rfl)) (hw _ (List.mem_of_getElem? (i := 33) rfl)) (hw _ (List.mem_of_getElem? (i := 28) rfl)) (hw _ (List.mem_of_getElem? (i := 35) rfl)) (by decide) 0 (rm_inV l Z a0 hw [] x arr n ch n0 cS h0 Z0 hn1 hn hc V_arr E_x Fv Fc g_x O0 Sc hcS ne_x_arr) e0 (by decide) (by decide) (by decide) (by decide) (a := x) (argsL := [(.ref arr), (.int (0 : Int32)), (.int (Int32.ofNat n)), .null]) (rest := []) rfl (by rw [hml]; rfl) (lenOf pd__28_5bCIILjava_2flang_2fVoid_3b_29V rfl) rfl rfl (by show 2 * 0 + _ ≤ _; exact Nat.le_of_eq rfl) (hb hby din1_6) ?_
  rintro _ T1 L1 X1 ⟨rfl, N1, K1, Fc1, t, tz, Fv1, V1⟩
  have N2 := Fr.app N0 N1
  have Z3 : n0 ≤ T1.heap.size := Nat.le_trans Z0 K1.1
  have K4 : Keep h0 T1.heap [x] := K0.trans K1 (allS (P := fun z_ => z_ ∈ [x] ∨ h0.size ≤ z_) (Or.inl (List.mem_of_getElem? (i := 0) rfl)) all0)
  show Go p e below _ T1 (mkF m 9 #[rv x, rv arr] [])
  refine Go.retV X1 hx hlk hret (hb hby din1_9) (by decide) (by decide) ?_
  exact ⟨rfl, N2, K4, Fc1, t, tz, Fv1, V1⟩
theorem dinE_0 : decode jdk_42_method_149_code 0 = .ok (.aload_n 0, 1) := by decide +kernel
theorem dinE_1 : decode jdk_42_method_149_code 1 = .ok (.invokespecial 1, 3) := by decide +kernel
theorem dinE_4 : decode jdk_42_method_149_code 4 = .ok (.iload_n 3, 1) := by decide +kernel
theorem dinE_5 : decode jdk_42_method_149_code 5 = .ok (.ifCond .ne 22, 3) := by decide +kernel
theorem dinE_8 : decode jdk_42_method_149_code 8 = .ok (.aload_n 0, 1) := by decide +kernel
theorem dinE_9 : decode jdk_42_method_149_code 9 = .ok (.ldc 7, 2) := by decide +kernel
theorem dinE_11 : decode jdk_42_method_149_code 11 = .ok (.getfield 9, 3) := by decide +kernel
theorem dinE_14 : decode jdk_42_method_149_code 14 = .ok (.putfield 9, 3) := by decide +kernel
theorem dinE_17 : decode jdk_42_method_149_code 17 = .ok (.aload_n 0, 1) := by decide +kernel
theorem dinE_18 : decode jdk_42_method_149_code 18 = .ok (.ldc 7, 2) := by decide +kernel
theorem dinE_20 : decode jdk_42_method_149_code 20 = .ok (.getfield 15, 3) := by decide +kernel
theorem dinE_23 : decode jdk_42_method_149_code 23 = .ok (.putfield 15, 3) := by decide +kernel
theorem dinE_26 : decode jdk_42_method_149_code 26 = .ok (.return_, 1) := by decide +kernel
theorem pn_inE : plainFor (⟨"java/lang/String", "<init>", "([CIILjava/lang/Void;)V"⟩ : MethodName) = true := by first | exact plainFor_of_name (by first | (simp [plainName, overriddenIn]; done) | decide +kernel) | decide +kernel
theorem ef_inE (m : MethodId) (x0 : Addr) (x1 : Addr) (x2 : Int32) (x3 : Int32) : entryFrame m #[(.ref x0), (.ref x1), (.int x2), (.int x3), .null] 6 = mkF m 0 #[rv x0, rv x1, iv x2, iv x3, .val .null, .unset] [] := by first | (simp [entryFrame, mkF, argsToLocals, Value.category]; done) | rfl
set_option maxRecDepth 65536 in
set_option maxHeartbeats 40000000 in
theorem rm_inE (l : Launch) (Z : State) (a0 : Array Value) (hw : ∀ d ∈ tables_1, d.before a0 Z = true) (ws : List Jvm.Cond) (x arr : Addr) (n0 : Nat) (h0 : Heap) (hEL : EW Z a0 consts_1) (wS : ∀ a ∈ Bundle.stringAtoms, a.before a0 Z = true) (Z0 : n0 ≤ h0.size) (E_x : Exa Z h0 x "java/lang/String") (Fv : Fld Z h0 x "java/lang/String" "value" "[B" .null) (Fc : Fld Z h0 x "java/lang/String" "coder" "B" (.int (0 : Int32))) (g_x : n0 ≤ x) :
    MtH l Z consts_1 (⟨"java/lang/String", "<init>", "([CIILjava/lang/Void;)V"⟩ : MethodName) jdk_42_method_149_code 6 none ws ({ frames := 1, cells := 4, slots := 8, locals := 13 } : Room) #[(.ref x), (.ref arr), (.int (0 : Int32)), (.int (0 : Int32)), .null] h0 (fun v h L => v = none ∧ Fr n0 L ∧ Keep h0 h [x] ∧ Fld Z h x "java/lang/String" "coder" "B" (.int (0 : Int32)) ∧ ∃ t, Fld Z h x "java/lang/String" "value" "[B" (.ref t) ∧ Ary Z h t .byte (IL 0 (fun _ => 0))) := by
  refine MtH.body pn_inE ?_
  intro p e s m below meth c s₁ hx hby hml hown hnm hret hlk hZ X0 e0 HS0
  refine Go.cast (g' := (mkF m 0 #[rv x, rv arr, iv (0 : Int32), iv (0 : Int32), .val .null, .unset] [])) (ef_inE m x arr (0 : Int32) (0 : Int32)) ?_
  have N0 := Fr.nil n0
  have K0 := Keep.refl h0 [x]
  have sfx : Sf Z consts_1 s.vm h0 x := ⟨own_nullSafe hZ.alike E_x Fv, E_x.lt⟩
  refine Go.st (T' := s₁) (g' := (mkF m 1 #[rv x, rv arr, iv (0 : Int32), iv (0 : Int32), .val .null, .unset] [(.ref x)])) ?_ (fun _ kk_ => XS.aloadN X0.here hx rfl (hb hby dinE_0) rfl rfl  kk_)
  obtain ⟨T1, X1, e1, st1⟩ := initO X0 hx hZ hown (hw _ (List.mem_of_getElem? (i := 36) rfl)) (hw _ (List.mem_of_getElem? (i := 37) rfl)) (hw _ (List.mem_of_getElem? (i := 38) rfl)) e0 (g := (mkF m 1 #[rv x, rv arr, iv (0 : Int32), iv (0 : Int32), .val .null, .unset] [(.ref x)])) rfl (by rw [hml]; rfl) rfl (hb hby dinE_1) (by decide) (W := 0) (by show 2 * 0 + _ ≤ _; exact Nat.le_of_eq rfl) (by decide)
  refine Go.st (T' := T1) (g' := (mkF m 4 #[rv x, rv arr, iv (0 : Int32), iv (0 : Int32), .val .null, .unset] [])) ?_ st1
  refine Go.st (T' := T1) (g' := (mkF m 9 #[rv x, rv arr, iv (0 : Int32), iv (0 : Int32), .val .null, .unset] [(.ref x)])) ?_ (fun _ kk_ => XS.iloadN X1.here hx rfl (hb hby dinE_4) rfl  (XS.ifNo X1.here hx rfl (hb hby dinE_5) rfl ((if0 _ _).trans (teq ((by decide) : (0 : Int32) = (0 : Int32))).2) (XS.aloadN X1.here hx rfl (hb hby dinE_8) rfl rfl  kk_)))
  refine Go.ldcH X1 hx hZ hown (hw _ (List.mem_of_getElem? (i := 155) rfl)) wS e1 HS0 hEL (by decide) (vs := []) ⟨by decide, rfl⟩ (by decide) rfl (hb hby dinE_9) 0 (by decide) (by decide) (by decide) (by decide) ?_
  intro a2 b2 T2 h2 X2 e2 E2 hZ2 ho2 HS2 A2 Fc2 Fv2 V2 C2 D2
  have Z3 : n0 ≤ h2.size := Nat.le_trans Z0 E2.1
  have K4 : Keep h0 h2 [x] := K0.ext E2
  have f5 := (Sf.vm E2.1 C2 sfx)
  obtain ⟨ne_x_a2, ne_x_b2⟩ := D2 x (f5).1
  show Go p e below _ T2 (mkF m 11 #[rv x, rv arr, iv (0 : Int32), iv (0 : Int32), .val .null, .unset] [(.ref a2), (.ref x)])
  obtain ⟨T6, X6, e6, st6⟩ := getF X2 hx hZ2 ho2 (host := "") (Or.inl (hw _ (List.mem_of_getElem? (i := 53) rfl))) Via.refl e2 Fv2 (g := (mkF m 11 #[rv x, rv arr, iv (0 : Int32), iv (0 : Int32), .val .null, .unset] [(.ref a2), (.ref x)])) rfl rfl (hb hby dinE_11)
  refine Go.st (T' := T6) (g' := (mkF m 14 #[rv x, rv arr, iv (0 : Int32), iv (0 : Int32), .val .null, .unset] [(.ref b2), (.ref x)])) ?_ st6
  have f7 := (Fv.ext E2)
  have f8 := (E_x.ext E2)
  obtain ⟨T9, h9, X9, e9, W9, st9⟩ := putF X6 hx hZ2 ho2 (host := "") (Or.inl (hw _ (List.mem_of_getElem? (i := 53) rfl))) Via.refl e6 f7 f8 (Or.inr ⟨(hw _ (List.mem_of_getElem? (i := 54) rfl)), rfl, hnm⟩) (hw _ (List.mem_of_getElem? (i := 27) rfl)) (ty := (.array .byte)) (by decide) rfl rfl (g := (mkF m 14 #[rv x, rv arr, iv (0 : Int32), iv (0 : Int32), .val .null, .unset] [(.ref b2), (.ref x)])) rfl rfl (hb hby dinE_14)
  have N10 := Fr.snoc X9 N0 g_x
  have HS11 := HS.wr HS2 W9 (f5).1
  have f12 := f7.same W9
  have K13 : Keep h0 h9 [x] := K4.wr W9 (Or.inl (List.mem_of_getElem? (i := 0) rfl))
  have Z14 : n0 ≤ h9.size := by rw [W9.size]; exact Z3
  refine Go.st (T' := T9) (g' := (mkF m 17 #[rv x, rv arr, iv (0 : Int32), iv (0 : Int32), .val .null, .unset] [])) ?_ st9
  refine Go.st (T' := T9) (g' := (mkF m 18 #[rv x, rv arr, iv (0 : Int32), iv (0 : Int32), .val .null, .unset] [(.ref x)])) ?_ (fun _ kk_ => XS.aloadN X9.here hx rfl (hb hby dinE_17) rfl rfl  kk_)
  refine Go.ldcH X9 hx hZ2 ho2 (hw _ (List.mem_of_getElem? (i := 155) rfl)) wS e9 HS11 hEL (by decide) (vs := []) ⟨by decide, rfl⟩ (by decide) rfl (hb hby dinE_18) 0 (by decide) (by decide) (by decide) (by decide) ?_
  intro a15 b15 T15 h15 X15 e15 E15 hZ15 ho15 HS15 A15 Fc15 Fv15 V15 C15 D15
  have Z16 : n0 ≤ h15.size := Nat.le_trans Z14 E15.1
  have K17 : Keep h0 h15 [x] := K13.ext E15
  have f18 := (Sf.vm E15.1 C15 (Sf.wr HS2 W9 (f5).1 f5))
  obtain ⟨ne_x_a15, ne_x_b15⟩ := D15 x (f18).1
  show Go p e below _ T15 (mkF m 20 #[rv x, rv arr, iv (0 : Int32), iv (0 : Int32), .val .null, .unset] [(.ref a15), (.ref x)])
  obtain ⟨T19, X19, e19, st19⟩ := getF X15 hx hZ15 ho15 (host := "") (Or.inl (hw _ (List.mem_of_getElem? (i := 51) rfl))) Via.refl e15 Fc15 (g := (mkF m 20 #[rv x, rv arr, iv (0 : Int32), iv (0 : Int32), .val .null, .unset] [(.ref a15), (.ref x)])) rfl rfl (hb hby dinE_20)
  refine Go.st (T' := T19) (g' := (mkF m 23 #[rv x, rv arr, iv (0 : Int32), iv (0 : Int32), .val .null, .unset] [(.int (0 : Int32)), (.ref x)])) ?_ st19
  have f20 := (((Fc.ext E2).other W9 (Or.inr (slot_ne (C := "java/lang/String") (Or.inr (hw _ (List.mem_of_getElem? (i := 52) rfl))) (Or.inr (hw _ (List.mem_of_getElem? (i := 54) rfl))) (by decide) (t := .byte) (t' := (.array .byte)) (by decide) (by decide)))).ext E15)
  have f21 := ((f8.wr W9).ext E15)
  obtain ⟨T22, h22, X22, e22, W22, st22⟩ := putFN X19 hx hZ15 ho15 (hw _ (List.mem_of_getElem? (i := 51) rfl)) Via.refl e19 f20 f21 (Or.inr ⟨(hw _ (List.mem_of_getElem? (i := 52) rfl)), rfl, hnm⟩) (hw _ (List.mem_of_getElem? (i := 27) rfl)) (ty := .byte) (v' := (.int (0 : Int32))) (by decide) (by decide) (by decide) (g := (mkF m 23 #[rv x, rv arr, iv (0 : Int32), iv (0 : Int32), .val .null, .unset] [(.int (0 : Int32)), (.ref x)])) rfl rfl (hb hby dinE_23)
  have N23 := Fr.snoc X22 N10 g_x
  have HS24 := HS.wr HS15 W22 (f18).1
  have f25 := f20.same W22
  have K26 : Keep h0 h22 [x] := K17.wr W22 (Or.inl (List.mem_of_getElem? (i := 0) rfl))
  have Z27 : n0 ≤ h22.size := by rw [W22.size]; exact Z16
  refine Go.st (T' := T22) (g' := (mkF m 26 #[rv x, rv arr, iv (0 : Int32), iv (0 : Int32), .val .null, .unset] [])) ?_ st22
  have f28 := ((f12.ext E15).other W22 (Or.inr (slot_ne (C := "java/lang/String") (Or.inr (hw _ (List.mem_of_getElem? (i := 54) rfl))) (Or.inr (hw _ (List.mem_of_getElem? (i := 52) rfl))) (by decide) (t := (.array .byte)) (t' := .byte) (by decide) (by decide))))
  have f29 := (((V2.other W9 (Ne.symm ne_x_b2)).ext E15).other W22 (Ne.symm ne_x_b2))
  refine Go.retVH X22 hx hlk hret (hb hby dinE_26) (by decide) (by decide) hZ15 hEL (by rw [e22]; exact HS24) ?_
  try rw [e22]
  exact ⟨rfl, N23, K26, f25, b2, f28, f29⟩
theorem di1E_0 : decode jdk_42_method_3_code 0 = .ok (.aload_n 0, 1) := by decide +kernel
theorem di1E_1 : decode jdk_42_method_3_code 1 = .ok (.aload_n 1, 1) := by decide +kernel
theorem di1E_2 : decode jdk_42_method_3_code 2 = .ok (.iconst 0, 1) := by decide +kernel
theorem di1E_3 : decode jdk_42_method_3_code 3 = .ok (.aload_n 1, 1) := by decide +kernel
theorem di1E_4 : decode jdk_42_method_3_code 4 = .ok (.arraylength, 1) := by decide +kernel
theorem di1E_5 : decode jdk_42_method_3_code 5 = .ok (.aconst_null, 1) := by decide +kernel
theorem di1E_6 : decode jdk_42_method_3_code 6 = .ok (.invokespecial 27, 3) := by decide +kernel
theorem di1E_9 : decode jdk_42_method_3_code 9 = .ok (.return_, 1) := by decide +kernel
theorem pn_i1E : plainFor (⟨"java/lang/String", "<init>", "([C)V"⟩ : MethodName) = true := by first | exact plainFor_of_name (by first | (simp [plainName, overriddenIn]; done) | decide +kernel) | decide +kernel
theorem ef_i1E (m : MethodId) (x0 : Addr) (x1 : Addr) : entryFrame m #[(.ref x0), (.ref x1)] 2 = mkF m 0 #[rv x0, rv x1] [] := by first | (simp [entryFrame, mkF, argsToLocals, Value.category]; done) | rfl
set_option maxRecDepth 65536 in
set_option maxHeartbeats 40000000 in
theorem rm_i1E (l : Launch) (Z : State) (a0 : Array Value) (hw : ∀ d ∈ tables_1, d.before a0 Z = true) (ws : List Jvm.Cond) (x arr : Addr) (n0 : Nat) (h0 : Heap) (hEL : EW Z a0 consts_1) (wS : ∀ a ∈ Bundle.stringAtoms, a.before a0 Z = true) (Z0 : n0 ≤ h0.size) (V_arr : Ary Z h0 arr .char []) (E_x : Exa Z h0 x "java/lang/String") (Fv : Fld Z h0 x "java/lang/String" "value" "[B" .null) (Fc : Fld Z h0 x "java/lang/String" "coder" "B" (.int (0 : Int32))) (g_x : n0 ≤ x) :
    MtH l Z consts_1 (⟨"java/lang/String", "<init>", "([C)V"⟩ : MethodName) jdk_42_method_3_code 2 none ws ({ frames := 2, cells := 4, slots := 8, locals := 30 } : Room) #[(.ref x), (.ref arr)] h0 (fun v h L => v = none ∧ Fr n0 L ∧ Keep h0 h [x] ∧ Fld Z h x "java/lang/String" "coder" "B" (.int (0 : Int32)) ∧ ∃ t, Fld Z h x "java/lang/String" "value" "[B" (.ref t) ∧ Ary Z h t .byte (IL 0 (fun _ => 0))) := by
  refine MtH.body pn_i1E ?_
  intro p e s m below meth c s₁ hx hby hml hown hnm hret hlk hZ X0 e0 HS0
  refine Go.cast (g' := (mkF m 0 #[rv x, rv arr] [])) (ef_i1E m x arr) ?_
  have N0 := Fr.nil n0
  have K0 := Keep.refl h0 [x]
  have sfx : Sf Z consts_1 s.vm h0 x := ⟨own_nullSafe hZ.alike E_x Fv, E_x.lt⟩
  refine Go.st (T' := s₁) (g' := (mkF m 6 #[rv x, rv arr] [.null, (.int (0 : Int32)), (.int (0 : Int32)), (.ref arr), (.ref x)])) ?_ (fun _ kk_ => XS.aloadN X0.here hx rfl (hb hby di1E_0) rfl rfl  (XS.aloadN X0.here hx rfl (hb hby di1E_1) rfl rfl  (XS.iconst X0.here hx rfl (hb hby di1E_2) (XS.aloadN X0.here hx rfl (hb hby di1E_3) rfl rfl  (own_alen X0 hx hZ e0 V_arr (n := 0) rfl rfl rfl (hb hby di1E_4) (XS.aconstNull X0.here hx rfl (hb hby di1E_5) kk_))))))
  refine Go.callNH (y := (⟨"java/lang/String", "<init>", "([CIILjava/lang/Void;)V"⟩ : MethodName)) X0 hx hZ rfl hown (hw _ (List.mem_of_getElem? (i := 32) rfl)) (hw _ (List.mem_of_getElem? (i := 33) rfl)) (hw _ (List.mem_of_getElem? (i := 28) rfl)) (hw _ (List.mem_of_getElem? (i := 35) rfl)) (by decide) 0 HS0 hEL (rm_inE l Z a0 hw [] x arr n0 h0 hEL wS Z0 E_x Fv Fc g_x) e0 (by decide) (by decide) (by decide) (by decide) (a := x) (argsL := [(.ref arr), (.int (0 : Int32)), (.int (0 : Int32)), .null]) (rest := []) rfl (by rw [hml]; rfl) (lenOf pd__28_5bCIILjava_2flang_2fVoid_3b_29V rfl) rfl rfl (by show 2 * 0 + _ ≤ _; exact Nat.le_of_eq rfl) (hb hby di1E_6) ?_
  rintro _ T1 L1 X1 ⟨rfl, N1, K1, Fc1, t, Fv1, V1⟩ hZ1 ho1 HS1 C1
  have N2 := Fr.app N0 N1
  have Z3 : n0 ≤ T1.heap.size := Nat.le_trans Z0 K1.1
  have K4 : Keep h0 T1.heap [x] := K0.trans K1 (allS (P := fun z_ => z_ ∈ [x] ∨ h0.size ≤ z_) (Or.inl (List.mem_of_getElem? (i := 0) rfl)) all0)
  show Go p e below _ T1 (mkF m 9 #[rv x, rv arr] [])
  refine Go.retVH X1 hx hlk hret (hb hby di1E_9) (by decide) (by decide) hZ1 hEL HS1 ?_
  exact ⟨rfl, N2, K4, Fc1, t, Fv1, V1⟩
theorem dcod_0 : decode jdk_42_method_152_code 0 = .ok (.getstatic 38, 3) := by decide +kernel
theorem dcod_3 : decode jdk_42_method_152_code 3 = .ok (.ifCond .eq 10, 3) := by decide +kernel
theorem dcod_6 : decode jdk_42_method_152_code 6 = .ok (.aload_n 0, 1) := by decide +kernel
theorem dcod_7 : decode jdk_42_method_152_code 7 = .ok (.getfield 15, 3) := by decide +kernel
theorem dcod_10 : decode jdk_42_method_152_code 10 = .ok (.goto 4, 3) := by decide +kernel
theorem dcod_14 : decode jdk_42_method_152_code 14 = .ok (.ireturn, 1) := by decide +kernel
theorem pn_cod : plainFor (⟨"java/lang/String", "coder", "()B"⟩ : MethodName) = true := by first | exact plainFor_of_name (by first | (simp [plainName, overriddenIn]; done) | decide +kernel) | decide +kernel
theorem ef_cod (m : MethodId) (x0 : Addr) : entryFrame m #[(.ref x0)] 1 = mkF m 0 #[rv x0] [] := by first | (simp [entryFrame, mkF, argsToLocals, Value.category]; done) | rfl
set_option maxRecDepth 65536 in
set_option maxHeartbeats 40000000 in
theorem rm_cod (l : Launch) (Z : State) (a0 : Array Value) (hw : ∀ d ∈ tables_1, d.before a0 Z = true) (ws : List Jvm.Cond) (a : Addr) (n0 : Nat) (cS : Int32) (h0 : Heap) (Fc_a : Fld Z h0 a "java/lang/String" "coder" "B" (.int (0 : Int32))) (O0 : Old Z n0 h0) (Sc : Sta Z Z.heap "java/lang/String" "COMPACT_STRINGS" "Z" (.int cS)) (hcS : ¬ (cS = (0 : Int32))) :
    Mt l Z (⟨"java/lang/String", "coder", "()B"⟩ : MethodName) jdk_42_method_152_code 1 (some .byte) ws ({ frames := 0, cells := 0, slots := 0, locals := 0 } : Room) #[(.ref a)] h0 (fun v h L => v = some (.int (0 : Int32)) ∧ h = h0 ∧ L = []) := by
  refine Mt.body pn_cod ?_
  intro p e s m below meth c s₁ hx hby hml hown hnm hret hlk hZ X0 e0
  refine Go.cast (g' := (mkF m 0 #[rv a] [])) (ef_cod m a) ?_
  have N0 := Fr.nil n0
  obtain ⟨T1, X1, e1, st1⟩ := getS2 X0 hx hZ hown (host := "") (Or.inl (hw _ (List.mem_of_getElem? (i := 39) rfl))) Via.refl e0 (Sc.ext O0.2) (g := (mkF m 0 #[rv a] [])) rfl (hb hby dcod_0)
  refine Go.st (T' := T1) (g' := (mkF m 3 #[rv a] [(.int cS)])) ?_ st1
  refine Go.st (T' := T1) (g' := (mkF m 7 #[rv a] [(.ref a)])) ?_ (fun _ kk_ => XS.ifNo X1.here hx rfl (hb hby dcod_3) rfl ((if0 _ _).trans (feq (hcS : ¬ (cS = (0 : Int32)))).1) (XS.aloadN X1.here hx rfl (hb hby dcod_6) rfl rfl  kk_))
  obtain ⟨T2, X2, e2, st2⟩ := getF X1 hx hZ hown (host := "") (Or.inl (hw _ (List.mem_of_getElem? (i := 51) rfl))) Via.refl e1 Fc_a (g := (mkF m 7 #[rv a] [(.ref a)])) rfl rfl (hb hby dcod_7)
  refine Go.st (T' := T2) (g' := (mkF m 10 #[rv a] [(.int (0 : Int32))])) ?_ st2
  refine Go.st (T' := T2) (g' := (mkF m 14 #[rv a] [(.int (0 : Int32))])) ?_ (fun _ kk_ => XS.goto X2.here hx rfl (pc0 := 10) (pc' := 14) rfl (hb hby dcod_10) (by decide) (by decide) kk_)
  refine Go.retN X2 hx hlk (t := .byte) hret (by simp) (z' := (0 : Int32)) rfl (hb hby dcod_14) (by decide) (by decide) ?_
  try rw [e2]
  exact ⟨rfl, rfl, rfl⟩
theorem dlat_0 : decode jdk_42_method_154_code 0 = .ok (.getstatic 38, 3) := by decide +kernel
theorem dlat_3 : decode jdk_42_method_154_code 3 = .ok (.ifCond .eq 14, 3) := by decide +kernel
theorem dlat_6 : decode jdk_42_method_154_code 6 = .ok (.aload_n 0, 1) := by decide +kernel
theorem dlat_7 : decode jdk_42_method_154_code 7 = .ok (.getfield 15, 3) := by decide +kernel
theorem dlat_10 : decode jdk_42_method_154_code 10 = .ok (.ifCond .ne 7, 3) := by decide +kernel
theorem dlat_13 : decode jdk_42_method_154_code 13 = .ok (.iconst 1, 1) := by decide +kernel
theorem dlat_14 : decode jdk_42_method_154_code 14 = .ok (.goto 4, 3) := by decide +kernel
theorem dlat_18 : decode jdk_42_method_154_code 18 = .ok (.ireturn, 1) := by decide +kernel
theorem pn_lat : plainFor (⟨"java/lang/String", "isLatin1", "()Z"⟩ : MethodName) = true := by first | exact plainFor_of_name (by first | (simp [plainName, overriddenIn]; done) | decide +kernel) | decide +kernel
theorem ef_lat (m : MethodId) (x0 : Addr) : entryFrame m #[(.ref x0)] 1 = mkF m 0 #[rv x0] [] := by first | (simp [entryFrame, mkF, argsToLocals, Value.category]; done) | rfl
set_option maxRecDepth 65536 in
set_option maxHeartbeats 40000000 in
theorem rm_lat (l : Launch) (Z : State) (a0 : Array Value) (hw : ∀ d ∈ tables_1, d.before a0 Z = true) (ws : List Jvm.Cond) (a : Addr) (n0 : Nat) (cS : Int32) (h0 : Heap) (Fc_a : Fld Z h0 a "java/lang/String" "coder" "B" (.int (0 : Int32))) (O0 : Old Z n0 h0) (Sc : Sta Z Z.heap "java/lang/String" "COMPACT_STRINGS" "Z" (.int cS)) (hcS : ¬ (cS = (0 : Int32))) :
    Mt l Z (⟨"java/lang/String", "isLatin1", "()Z"⟩ : MethodName) jdk_42_method_154_code 1 (some .boolean) ws ({ frames := 0, cells := 0, slots := 0, locals := 0 } : Room) #[(.ref a)] h0 (fun v h L => v = some (.int (1 : Int32)) ∧ h = h0 ∧ L = []) := by
  refine Mt.body pn_lat ?_
  intro p e s m below meth c s₁ hx hby hml hown hnm hret hlk hZ X0 e0
  refine Go.cast (g' := (mkF m 0 #[rv a] [])) (ef_lat m a) ?_
  have N0 := Fr.nil n0
  obtain ⟨T1, X1, e1, st1⟩ := getS2 X0 hx hZ hown (host := "") (Or.inl (hw _ (List.mem_of_getElem? (i := 39) rfl))) Via.refl e0 (Sc.ext O0.2) (g := (mkF m 0 #[rv a] [])) rfl (hb hby dlat_0)
  refine Go.st (T' := T1) (g' := (mkF m 3 #[rv a] [(.int cS)])) ?_ st1
  refine Go.st (T' := T1) (g' := (mkF m 7 #[rv a] [(.ref a)])) ?_ (fun _ kk_ => XS.ifNo X1.here hx rfl (hb hby dlat_3) rfl ((if0 _ _).trans (feq (hcS : ¬ (cS = (0 : Int32)))).1) (XS.aloadN X1.here hx rfl (hb hby dlat_6) rfl rfl  kk_))
  obtain ⟨T2, X2, e2, st2⟩ := getF X1 hx hZ hown (host := "") (Or.inl (hw _ (List.mem_of_getElem? (i := 51) rfl))) Via.refl e1 Fc_a (g := (mkF m 7 #[rv a] [(.ref a)])) rfl rfl (hb hby dlat_7)
  refine Go.st (T' := T2) (g' := (mkF m 10 #[rv a] [(.int (0 : Int32))])) ?_ st2
  refine Go.st (T' := T2) (g' := (mkF m 18 #[rv a] [(.int (1 : Int32))])) ?_ (fun _ kk_ => XS.ifNo X2.here hx rfl (hb hby dlat_10) rfl ((if0 _ _).trans (teq ((by decide) : (0 : Int32) = (0 : Int32))).2) (XS.iconst X2.here hx rfl (hb hby dlat_13) (XS.goto X2.here hx rfl (pc0 := 14) (pc' := 18) rfl (hb hby dlat_14) (by decide) (by decide) kk_)))
  refine Go.retN X2 hx hlk (t := .boolean) hret (by simp) (z' := (1 : Int32)) rfl (hb hby dlat_18) (by decide) (by decide) ?_
  try rw [e2]
  exact ⟨rfl, rfl, rfl⟩
theorem dlen_0 : decode jdk_42_method_54_code 0 = .ok (.aload_n 0, 1) := by decide +kernel
theorem dlen_1 : decode jdk_42_method_54_code 1 = .ok (.getfield 9, 3) := by decide +kernel
theorem dlen_4 : decode jdk_42_method_54_code 4 = .ok (.arraylength, 1) := by decide +kernel
theorem dlen_5 : decode jdk_42_method_54_code 5 = .ok (.aload_n 0, 1) := by decide +kernel
theorem dlen_6 : decode jdk_42_method_54_code 6 = .ok (.invokevirtual 335, 3) := by decide +kernel
theorem dlen_9 : decode jdk_42_method_54_code 9 = .ok (.ishr, 1) := by decide +kernel
theorem dlen_10 : decode jdk_42_method_54_code 10 = .ok (.ireturn, 1) := by decide +kernel
theorem pn_len : plainFor (⟨"java/lang/String", "length", "()I"⟩ : MethodName) = true := by first | exact plainFor_of_name (by first | (simp [plainName, overriddenIn]; done) | decide +kernel) | decide +kernel
theorem ef_len (m : MethodId) (x0 : Addr) : entryFrame m #[(.ref x0)] 1 = mkF m 0 #[rv x0] [] := by first | (simp [entryFrame, mkF, argsToLocals, Value.category]; done) | rfl
set_option maxRecDepth 65536 in
set_option maxHeartbeats 40000000 in
theorem rm_len (l : Launch) (Z : State) (a0 : Array Value) (hw : ∀ d ∈ tables_1, d.before a0 Z = true) (ws : List Jvm.Cond) (a t : Addr) (n : Nat) (f : Nat → Int32) (n0 : Nat) (cS : Int32) (h0 : Heap) (E_a : Exa Z h0 a "java/lang/String") (Fc_a : Fld Z h0 a "java/lang/String" "coder" "B" (.int (0 : Int32))) (Fv_a : Fld Z h0 a "java/lang/String" "value" "[B" (.ref t)) (V_t : Ary Z h0 t .byte (IL n f)) (O0 : Old Z n0 h0) (Sc : Sta Z Z.heap "java/lang/String" "COMPACT_STRINGS" "Z" (.int cS)) (hcS : ¬ (cS = (0 : Int32))) :
    Mt l Z (⟨"java/lang/String", "length", "()I"⟩ : MethodName) jdk_42_method_54_code 1 (some .int) ws ({ frames := 1, cells := 0, slots := 0, locals := 13 } : Room) #[(.ref a)] h0 (fun v h L => v = some (.int (Int32.ofNat n)) ∧ h = h0 ∧ L = []) := by
  refine Mt.body pn_len ?_
  intro p e s m below meth c s₁ hx hby hml hown hnm hret hlk hZ X0 e0
  refine Go.cast (g' := (mkF m 0 #[rv a] [])) (ef_len m a) ?_
  have N0 := Fr.nil n0
  refine Go.st (T' := s₁) (g' := (mkF m 1 #[rv a] [(.ref a)])) ?_ (fun _ kk_ => XS.aloadN X0.here hx rfl (hb hby dlen_0) rfl rfl  kk_)
  obtain ⟨T1, X1, e1, st1⟩ := getF X0 hx hZ hown (host := "") (Or.inl (hw _ (List.mem_of_getElem? (i := 53) rfl))) Via.refl e0 Fv_a (g := (mkF m 1 #[rv a] [(.ref a)])) rfl rfl (hb hby dlen_1)
  refine Go.st (T' := T1) (g' := (mkF m 4 #[rv a] [(.ref t)])) ?_ st1
  refine Go.st (T' := T1) (g' := (mkF m 6 #[rv a] [(.ref a), (.int (Int32.ofNat n))])) ?_ (fun _ kk_ => own_alen X1 hx hZ e1 V_t (IL_len _ _) rfl rfl (hb hby dlen_4) (XS.aloadN X1.here hx rfl (hb hby dlen_5) rfl rfl  kk_))
  refine Go.callV (y := (⟨"java/lang/String", "coder", "()B"⟩ : MethodName)) (z := (⟨"java/lang/String", "coder", "()B"⟩ : MethodName)) X1 hx hZ hown (hw _ (List.mem_of_getElem? (i := 64) rfl)) (hw _ (List.mem_of_getElem? (i := 65) rfl)) (notFace_of_selects (args := #[]) (mvT hZ (hw _ (List.mem_of_getElem? (i := 67) rfl)))) (hw _ (List.mem_of_getElem? (i := 67) rfl)) (hw _ (List.mem_of_getElem? (i := 66) rfl)) (hw _ (List.mem_of_getElem? (i := 28) rfl)) (hw _ (List.mem_of_getElem? (i := 68) rfl)) (by decide) 1 (rm_cod l Z a0 hw [] a n0 cS h0 Fc_a O0 Sc hcS) e1 (by decide) (by decide) (by decide) (by decide) E_a (argsL := []) (rest := [(.int (Int32.ofNat n))]) rfl (by rw [hml]; rfl) (lenOf pd__28_29B rfl) rfl rfl (by show 2 * 0 + _ ≤ _; exact Nat.le_of_eq rfl) (hb hby dlen_6) ?_
  rintro _ T2 L2 X2 ⟨rfl, e2, rfl⟩
  have N3 := Fr.app N0 (Fr.nil _)
  show Go p e below _ T2 (mkF m 9 #[rv a] [(.int (0 : Int32)), (.int (Int32.ofNat n))])
  refine Go.st (T' := T2) (g' := (mkF m 10 #[rv a] [(.int ((Int32.ofNat n) >>> ((0 : Int32) &&& 31)))])) ?_ (fun _ kk_ => XS.ishr X2.here hx rfl (hb hby dlen_9) rfl kk_)
  rw [own_shr0]
  show Go p e below _ T2 (mkF m 10 #[rv a] [(.int (Int32.ofNat n))])
  refine Go.retI X2 hx hlk hret (hb hby dlen_10) (by decide) (by decide) ?_
  try rw [e2]
  exact ⟨rfl, rfl, rfl⟩
theorem dpci_0 : decode jdk_41_method_11_code 0 = .ok (.iload_n 0, 1) := by decide +kernel
theorem dpci_1 : decode jdk_41_method_11_code 1 = .ok (.ifCond .lt 8, 3) := by decide +kernel
theorem dpci_4 : decode jdk_41_method_11_code 4 = .ok (.iload_n 0, 1) := by decide +kernel
theorem dpci_5 : decode jdk_41_method_11_code 5 = .ok (.iload_n 1, 1) := by decide +kernel
theorem dpci_6 : decode jdk_41_method_11_code 6 = .ok (.if_icmp .lt 10, 3) := by decide +kernel
theorem dpci_16 : decode jdk_41_method_11_code 16 = .ok (.iload_n 0, 1) := by decide +kernel
theorem dpci_17 : decode jdk_41_method_11_code 17 = .ok (.ireturn, 1) := by decide +kernel
theorem pn_pci : plainFor (⟨"jdk/internal/util/Preconditions", "checkIndex", "(IILjava/util/function/BiFunction;)I"⟩ : MethodName) = true := by first | exact plainFor_of_name (by first | (simp [plainName, overriddenIn]; done) | decide +kernel) | decide +kernel
theorem ef_pci (m : MethodId) (x0 : Int32) (x1 : Int32) (x2 : Value) (hx2 : x2.isRef = true) : entryFrame m #[(.int x0), (.int x1), x2] 3 = mkF m 0 #[iv x0, iv x1, .val x2] [] := by rcases ref_cases hx2 with rfl | ⟨y2, rfl⟩ <;> first | (simp [entryFrame, mkF, argsToLocals, Value.category]; done) | rfl
set_option maxRecDepth 65536 in
set_option maxHeartbeats 40000000 in
theorem rm_pci (l : Launch) (Z : State) (a0 : Array Value) (hw : ∀ d ∈ tables_1, d.before a0 Z = true) (ws : List Jvm.Cond) (i n : Nat) (rF : Value) (h0 : Heap) (hr_rF : rF.isRef = true) (hi : i < n) (hn : n < 2 ^ 31) :
    Mt l Z (⟨"jdk/internal/util/Preconditions", "checkIndex", "(IILjava/util/function/BiFunction;)I"⟩ : MethodName) jdk_41_method_11_code 3 (some .int) ws ({ frames := 0, cells := 0, slots := 0, locals := 0 } : Room) #[(.int (Int32.ofNat i)), (.int (Int32.ofNat n)), rF] h0 (fun v h L => v = some (.int (Int32.ofNat i)) ∧ h = h0 ∧ L = []) := by
  refine Mt.body pn_pci ?_
  intro p e s m below meth c s₁ hx hby hml hown hnm hret hlk hZ X0 e0
  refine Go.cast (g' := (mkF m 0 #[iv (Int32.ofNat i), iv (Int32.ofNat n), .val rF] [])) (ef_pci m (Int32.ofNat i) (Int32.ofNat n) rF hr_rF) ?_
  have N0 := Fr.nil 0
  refine Go.st (T' := s₁) (g' := (mkF m 17 #[iv (Int32.ofNat i), iv (Int32.ofNat n), .val rF] [(.int (Int32.ofNat i))])) ?_ (fun _ kk_ => XS.iloadN X0.here hx rfl (hb hby dpci_0) rfl  (XS.ifNo X0.here hx rfl (hb hby dpci_1) rfl ((if0 _ _).trans (flt ((fun z => by have := (own_lt (i := i) (n := 0) (by omega) (by decide)).mp z; omega) : ¬ ((Int32.ofNat i) < (0 : Int32)))).1) (XS.iloadN X0.here hx rfl (hb hby dpci_4) rfl  (XS.iloadN X0.here hx rfl (hb hby dpci_5) rfl  (XS.icmpYes X0.here hx rfl (pc0 := 6) (pc' := 16) rfl (hb hby dpci_6) rfl (tlt (((own_lt (by omega) hn).mpr hi) : (Int32.ofNat i) < (Int32.ofNat n))).1 (by decide) (by decide) (XS.iloadN X0.here hx rfl (hb hby dpci_16) rfl  kk_))))))
  refine Go.retI X0 hx hlk hret (hb hby dpci_17) (by decide) (by decide) ?_
  try rw [e0]
  exact ⟨rfl, rfl, rfl⟩
theorem dchk_0 : decode jdk_42_method_155_code 0 = .ok (.iload_n 0, 1) := by decide +kernel
theorem dchk_1 : decode jdk_42_method_155_code 1 = .ok (.iload_n 1, 1) := by decide +kernel
theorem dchk_2 : decode jdk_42_method_155_code 2 = .ok (.getstatic 1053, 3) := by decide +kernel
theorem dchk_5 : decode jdk_42_method_155_code 5 = .ok (.invokestatic 1059, 3) := by decide +kernel
theorem dchk_8 : decode jdk_42_method_155_code 8 = .ok (.pop, 1) := by decide +kernel
theorem dchk_9 : decode jdk_42_method_155_code 9 = .ok (.return_, 1) := by decide +kernel
theorem pn_chk : plainFor (⟨"java/lang/String", "checkIndex", "(II)V"⟩ : MethodName) = true := by first | exact plainFor_of_name (by first | (simp [plainName, overriddenIn]; done) | decide +kernel) | decide +kernel
theorem ef_chk (m : MethodId) (x0 : Int32) (x1 : Int32) : entryFrame m #[(.int x0), (.int x1)] 2 = mkF m 0 #[iv x0, iv x1] [] := by first | (simp [entryFrame, mkF, argsToLocals, Value.category]; done) | rfl
set_option maxRecDepth 65536 in
set_option maxHeartbeats 40000000 in
theorem rm_chk (l : Launch) (Z : State) (a0 : Array Value) (hw : ∀ d ∈ tables_1, d.before a0 Z = true) (ws : List Jvm.Cond) (i n : Nat) (rF : Value) (n0 : Nat) (h0 : Heap) (hi : i < n) (hn : n < 2 ^ 31) (O0 : Old Z n0 h0) (Sr : Sta Z Z.heap "jdk/internal/util/Preconditions" "SIOOBE_FORMATTER" "Ljava/util/function/BiFunction;" rF) (hr_rF : rF.isRef = true) :
    Mt l Z (⟨"java/lang/String", "checkIndex", "(II)V"⟩ : MethodName) jdk_42_method_155_code 2 none ws ({ frames := 1, cells := 0, slots := 0, locals := 14 } : Room) #[(.int (Int32.ofNat i)), (.int (Int32.ofNat n))] h0 (fun v h L => v = none ∧ h = h0 ∧ L = []) := by
  refine Mt.body pn_chk ?_
  intro p e s m below meth c s₁ hx hby hml hown hnm hret hlk hZ X0 e0
  refine Go.cast (g' := (mkF m 0 #[iv (Int32.ofNat i), iv (Int32.ofNat n)] [])) (ef_chk m (Int32.ofNat i) (Int32.ofNat n)) ?_
  have N0 := Fr.nil n0
  refine Go.st (T' := s₁) (g' := (mkF m 2 #[iv (Int32.ofNat i), iv (Int32.ofNat n)] [(.int (Int32.ofNat n)), (.int (Int32.ofNat i))])) ?_ (fun _ kk_ => XS.iloadN X0.here hx rfl (hb hby dchk_0) rfl  (XS.iloadN X0.here hx rfl (hb hby dchk_1) rfl  kk_))
  obtain ⟨T1, X1, e1, st1⟩ := getS2 X0 hx hZ hown (host := "") (Or.inl (hw _ (List.mem_of_getElem? (i := 86) rfl))) Via.refl e0 (Sr.ext O0.2) (g := (mkF m 2 #[iv (Int32.ofNat i), iv (Int32.ofNat n)] [(.int (Int32.ofNat n)), (.int (Int32.ofNat i))])) rfl (hb hby dchk_2)
  refine Go.st (T' := T1) (g' := (mkF m 5 #[iv (Int32.ofNat i), iv (Int32.ofNat n)] [rF, (.int (Int32.ofNat n)), (.int (Int32.ofNat i))])) ?_ st1
  refine Go.callS (y := (⟨"jdk/internal/util/Preconditions", "checkIndex", "(IILjava/util/function/BiFunction;)I"⟩ : MethodName)) X1 hx hZ hown (hw _ (List.mem_of_getElem? (i := 88) rfl)) (hw _ (List.mem_of_getElem? (i := 89) rfl)) (hw _ (List.mem_of_getElem? (i := 87) rfl)) (hw _ (List.mem_of_getElem? (i := 90) rfl)) (by decide) 0 (rm_pci l Z a0 hw [] i n rF h0 hr_rF hi hn) e1 (by decide) (by decide) (by decide) (by decide) (argsL := [(.int (Int32.ofNat i)), (.int (Int32.ofNat n)), rF]) (rest := []) rfl (by rw [hml]; rfl) (lenOf pd__28IILjava_2futil_2ffunction_2fBiFunction_3b_29I rfl) rfl rfl (by show 2 * 0 + _ ≤ _; exact Nat.le_of_eq rfl) (hb hby dchk_5) ?_
  rintro _ T2 L2 X2 ⟨rfl, e2, rfl⟩
  have N3 := Fr.app N0 (Fr.nil _)
  show Go p e below _ T2 (mkF m 8 #[iv (Int32.ofNat i), iv (Int32.ofNat n)] [(.int (Int32.ofNat i))])
  refine Go.st (T' := T2) (g' := (mkF m 9 #[iv (Int32.ofNat i), iv (Int32.ofNat n)] [])) ?_ (fun _ kk_ => XS.pop X2.here hx rfl (hb hby dchk_8) rfl rfl kk_)
  refine Go.retV X2 hx hlk hret (hb hby dchk_9) (by decide) (by decide) ?_
  try rw [e2]
  exact ⟨rfl, rfl, rfl⟩
theorem dlch_0 : decode jdk_43_method_2_code 0 = .ok (.iload_n 1, 1) := by decide +kernel
theorem dlch_1 : decode jdk_43_method_2_code 1 = .ok (.aload_n 0, 1) := by decide +kernel
theorem dlch_2 : decode jdk_43_method_2_code 2 = .ok (.arraylength, 1) := by decide +kernel
theorem dlch_3 : decode jdk_43_method_2_code 3 = .ok (.invokestatic 9, 3) := by decide +kernel
theorem dlch_6 : decode jdk_43_method_2_code 6 = .ok (.aload_n 0, 1) := by decide +kernel
theorem dlch_7 : decode jdk_43_method_2_code 7 = .ok (.iload_n 1, 1) := by decide +kernel
theorem dlch_8 : decode jdk_43_method_2_code 8 = .ok (.baload, 1) := by decide +kernel
theorem dlch_9 : decode jdk_43_method_2_code 9 = .ok (.sipush 255, 3) := by decide +kernel
theorem dlch_12 : decode jdk_43_method_2_code 12 = .ok (.iand, 1) := by decide +kernel
theorem dlch_13 : decode jdk_43_method_2_code 13 = .ok (.i2c, 1) := by decide +kernel
theorem dlch_14 : decode jdk_43_method_2_code 14 = .ok (.ireturn, 1) := by decide +kernel
theorem pn_lch : plainFor (⟨"java/lang/StringLatin1", "charAt", "([BI)C"⟩ : MethodName) = true := by first | exact plainFor_of_name (by first | (simp [plainName, overriddenIn]; done) | decide +kernel) | decide +kernel
theorem ef_lch (m : MethodId) (x0 : Addr) (x1 : Int32) : entryFrame m #[(.ref x0), (.int x1)] 2 = mkF m 0 #[rv x0, iv x1] [] := by first | (simp [entryFrame, mkF, argsToLocals, Value.category]; done) | rfl
set_option maxRecDepth 65536 in
set_option maxHeartbeats 40000000 in
theorem rm_lch (l : Launch) (Z : State) (a0 : Array Value) (hw : ∀ d ∈ tables_1, d.before a0 Z = true) (ws : List Jvm.Cond) (t : Addr) (i n : Nat) (ch : Nat → Nat) (rF : Value) (n0 : Nat) (h0 : Heap) (hi : i < n) (hn : n < 2 ^ 31) (hc : ∀ q, q < n → ch q < 256) (V_t : Ary Z h0 t .byte (IL n (fun q => bI (ch q)))) (O0 : Old Z n0 h0) (Sr : Sta Z Z.heap "jdk/internal/util/Preconditions" "SIOOBE_FORMATTER" "Ljava/util/function/BiFunction;" rF) (hr_rF : rF.isRef = true) :
    Mt l Z (⟨"java/lang/StringLatin1", "charAt", "([BI)C"⟩ : MethodName) jdk_43_method_2_code 2 (some .char) ws ({ frames := 2, cells := 0, slots := 0, locals := 27 } : Room) #[(.ref t), (.int (Int32.ofNat i))] h0 (fun v h L => v = some (.int (Int32.ofNat (ch i))) ∧ h = h0 ∧ L = []) := by
  refine Mt.body pn_lch ?_
  intro p e s m below meth c s₁ hx hby hml hown hnm hret hlk hZ X0 e0
  refine Go.cast (g' := (mkF m 0 #[rv t, iv (Int32.ofNat i)] [])) (ef_lch m t (Int32.ofNat i)) ?_
  have N0 := Fr.nil n0
  refine Go.st (T' := s₁) (g' := (mkF m 3 #[rv t, iv (Int32.ofNat i)] [(.int (Int32.ofNat n)), (.int (Int32.ofNat i))])) ?_ (fun _ kk_ => XS.iloadN X0.here hx rfl (hb hby dlch_0) rfl  (XS.aloadN X0.here hx rfl (hb hby dlch_1) rfl rfl  (own_alen X0 hx hZ e0 V_t (IL_len _ _) rfl rfl (hb hby dlch_2) kk_)))
  refine Go.callS (y := (⟨"java/lang/String", "checkIndex", "(II)V"⟩ : MethodName)) X0 hx hZ hown (hw _ (List.mem_of_getElem? (i := 83) rfl)) (hw _ (List.mem_of_getElem? (i := 84) rfl)) (hw _ (List.mem_of_getElem? (i := 28) rfl)) (hw _ (List.mem_of_getElem? (i := 85) rfl)) (by decide) 0 (rm_chk l Z a0 hw [] i n rF n0 h0 hi hn O0 Sr hr_rF) e0 (by decide) (by decide) (by decide) (by decide) (argsL := [(.int (Int32.ofNat i)), (.int (Int32.ofNat n))]) (rest := []) rfl (by rw [hml]; rfl) (lenOf pd__28II_29V rfl) rfl rfl (by show 2 * 0 + _ ≤ _; exact Nat.le_of_eq rfl) (hb hby dlch_3) ?_
  rintro _ T1 L1 X1 ⟨rfl, e1, rfl⟩
  have N2 := Fr.app N0 (Fr.nil _)
  show Go p e below _ T1 (mkF m 6 #[rv t, iv (Int32.ofNat i)] [])
  refine Go.st (T' := T1) (g' := (mkF m 13 #[rv t, iv (Int32.ofNat i)] [(.int ((bI (ch i)) &&& (255 : Int32)))])) ?_ (fun _ kk_ => XS.aloadN X1.here hx rfl (hb hby dlch_6) rfl rfl  (XS.iloadN X1.here hx rfl (hb hby dlch_7) rfl  (own_baload X1 hx hZ e1 V_t (i := i) (v := (.int (bI (ch i)))) (IL_at hi) rfl rfl rfl (hb hby dlch_8) (XS.sipush X1.here hx rfl (hb hby dlch_9) (XS.iand X1.here hx rfl (hb hby dlch_12) rfl kk_)))))
  rw [bI_back _ (hc i hi)]
  show Go p e below _ T1 (mkF m 13 #[rv t, iv (Int32.ofNat i)] [(.int (Int32.ofNat (ch i)))])
  refine Go.st (T' := T1) (g' := (mkF m 14 #[rv t, iv (Int32.ofNat i)] [(.int ((Int32.ofNat (ch i)).toUInt32.toUInt16.toUInt32.toInt32))])) ?_ (fun _ kk_ => XS.i2c X1.here hx rfl (hb hby dlch_13) rfl kk_)
  rw [ch_back _ (hc i hi)]
  show Go p e below _ T1 (mkF m 14 #[rv t, iv (Int32.ofNat i)] [(.int (Int32.ofNat (ch i)))])
  refine Go.retN X1 hx hlk (t := .char) hret (by simp) (z' := (Int32.ofNat (ch i))) (ch_nar _ (hc i hi)) (hb hby dlch_14) (by decide) (by decide) ?_
  try rw [e1]
  exact ⟨rfl, rfl, rfl⟩
theorem dcha_0 : decode jdk_42_method_56_code 0 = .ok (.aload_n 0, 1) := by decide +kernel
theorem dcha_1 : decode jdk_42_method_56_code 1 = .ok (.invokevirtual 492, 3) := by decide +kernel
theorem dcha_4 : decode jdk_42_method_56_code 4 = .ok (.ifCond .eq 12, 3) := by decide +kernel
theorem dcha_7 : decode jdk_42_method_56_code 7 = .ok (.aload_n 0, 1) := by decide +kernel
theorem dcha_8 : decode jdk_42_method_56_code 8 = .ok (.getfield 9, 3) := by decide +kernel
theorem dcha_11 : decode jdk_42_method_56_code 11 = .ok (.iload_n 1, 1) := by decide +kernel
theorem dcha_12 : decode jdk_42_method_56_code 12 = .ok (.invokestatic 495, 3) := by decide +kernel
theorem dcha_15 : decode jdk_42_method_56_code 15 = .ok (.ireturn, 1) := by decide +kernel
theorem pn_cha : plainFor (⟨"java/lang/String", "charAt", "(I)C"⟩ : MethodName) = true := by first | exact plainFor_of_name (by first | (simp [plainName, overriddenIn]; done) | decide +kernel) | decide +kernel
theorem ef_cha (m : MethodId) (x0 : Addr) (x1 : Int32) : entryFrame m #[(.ref x0), (.int x1)] 2 = mkF m 0 #[rv x0, iv x1] [] := by first | (simp [entryFrame, mkF, argsToLocals, Value.category]; done) | rfl
set_option maxRecDepth 65536 in
set_option maxHeartbeats 40000000 in
theorem rm_cha (l : Launch) (Z : State) (a0 : Array Value) (hw : ∀ d ∈ tables_1, d.before a0 Z = true) (ws : List Jvm.Cond) (a t : Addr) (i n : Nat) (ch : Nat → Nat) (rF : Value) (n0 : Nat) (cS : Int32) (h0 : Heap) (hi : i < n) (hn : n < 2 ^ 31) (hc : ∀ q, q < n → ch q < 256) (E_a : Exa Z h0 a "java/lang/String") (Fc_a : Fld Z h0 a "java/lang/String" "coder" "B" (.int (0 : Int32))) (Fv_a : Fld Z h0 a "java/lang/String" "value" "[B" (.ref t)) (V_t : Ary Z h0 t .byte (IL n (fun q => bI (ch q)))) (O0 : Old Z n0 h0) (Sc : Sta Z Z.heap "java/lang/String" "COMPACT_STRINGS" "Z" (.int cS)) (hcS : ¬ (cS = (0 : Int32))) (Sr : Sta Z Z.heap "jdk/internal/util/Preconditions" "SIOOBE_FORMATTER" "Ljava/util/function/BiFunction;" rF) (hr_rF : rF.isRef = true) :
    Mt l Z (⟨"java/lang/String", "charAt", "(I)C"⟩ : MethodName) jdk_42_method_56_code 2 (some .char) ws ({ frames := 4, cells := 0, slots := 0, locals := 53 } : Room) #[(.ref a), (.int (Int32.ofNat i))] h0 (fun v h L => v = some (.int (Int32.ofNat (ch i))) ∧ h = h0 ∧ L = []) := by
  refine Mt.body pn_cha ?_
  intro p e s m below meth c s₁ hx hby hml hown hnm hret hlk hZ X0 e0
  refine Go.cast (g' := (mkF m 0 #[rv a, iv (Int32.ofNat i)] [])) (ef_cha m a (Int32.ofNat i)) ?_
  have N0 := Fr.nil n0
  refine Go.st (T' := s₁) (g' := (mkF m 1 #[rv a, iv (Int32.ofNat i)] [(.ref a)])) ?_ (fun _ kk_ => XS.aloadN X0.here hx rfl (hb hby dcha_0) rfl rfl  kk_)
  refine Go.callV (y := (⟨"java/lang/String", "isLatin1", "()Z"⟩ : MethodName)) (z := (⟨"java/lang/String", "isLatin1", "()Z"⟩ : MethodName)) X0 hx hZ hown (hw _ (List.mem_of_getElem? (i := 74) rfl)) (hw _ (List.mem_of_getElem? (i := 75) rfl)) (notFace_of_selects (args := #[]) (mvT hZ (hw _ (List.mem_of_getElem? (i := 77) rfl)))) (hw _ (List.mem_of_getElem? (i := 77) rfl)) (hw _ (List.mem_of_getElem? (i := 76) rfl)) (hw _ (List.mem_of_getElem? (i := 28) rfl)) (hw _ (List.mem_of_getElem? (i := 78) rfl)) (by decide) 0 (rm_lat l Z a0 hw [] a n0 cS h0 Fc_a O0 Sc hcS) e0 (by decide) (by decide) (by decide) (by decide) E_a (argsL := []) (rest := []) rfl (by rw [hml]; rfl) (lenOf pd__28_29Z rfl) rfl rfl (by show 2 * 0 + _ ≤ _; exact Nat.le_of_eq rfl) (hb hby dcha_1) ?_
  rintro _ T1 L1 X1 ⟨rfl, e1, rfl⟩
  have N2 := Fr.app N0 (Fr.nil _)
  show Go p e below _ T1 (mkF m 4 #[rv a, iv (Int32.ofNat i)] [(.int (1 : Int32))])
  refine Go.st (T' := T1) (g' := (mkF m 8 #[rv a, iv (Int32.ofNat i)] [(.ref a)])) ?_ (fun _ kk_ => XS.ifNo X1.here hx rfl (hb hby dcha_4) rfl ((if0 _ _).trans (feq ((by decide) : ¬ ((1 : Int32) = (0 : Int32)))).1) (XS.aloadN X1.here hx rfl (hb hby dcha_7) rfl rfl  kk_))
  obtain ⟨T3, X3, e3, st3⟩ := getF X1 hx hZ hown (host := "") (Or.inl (hw _ (List.mem_of_getElem? (i := 53) rfl))) Via.refl e1 Fv_a (g := (mkF m 8 #[rv a, iv (Int32.ofNat i)] [(.ref a)])) rfl rfl (hb hby dcha_8)
  refine Go.st (T' := T3) (g' := (mkF m 11 #[rv a, iv (Int32.ofNat i)] [(.ref t)])) ?_ st3
  refine Go.st (T' := T3) (g' := (mkF m 12 #[rv a, iv (Int32.ofNat i)] [(.int (Int32.ofNat i)), (.ref t)])) ?_ (fun _ kk_ => XS.iloadN X3.here hx rfl (hb hby dcha_11) rfl  kk_)
  refine Go.callS (y := (⟨"java/lang/StringLatin1", "charAt", "([BI)C"⟩ : MethodName)) X3 hx hZ hown (hw _ (List.mem_of_getElem? (i := 79) rfl)) (hw _ (List.mem_of_getElem? (i := 80) rfl)) (hw _ (List.mem_of_getElem? (i := 81) rfl)) (hw _ (List.mem_of_getElem? (i := 82) rfl)) (by decide) 0 (rm_lch l Z a0 hw [] t i n ch rF n0 h0 hi hn hc V_t O0 Sr hr_rF) e3 (by decide) (by decide) (by decide) (by decide) (argsL := [(.ref t), (.int (Int32.ofNat i))]) (rest := []) rfl (by rw [hml]; rfl) (lenOf pd__28_5bBI_29C rfl) rfl rfl (by show 2 * 0 + _ ≤ _; exact Nat.le_of_eq rfl) (hb hby dcha_12) ?_
  rintro _ T4 L4 X4 ⟨rfl, e4, rfl⟩
  have N5 := Fr.app N2 (Fr.nil _)
  show Go p e below _ T4 (mkF m 15 #[rv a, iv (Int32.ofNat i)] [(.int (Int32.ofNat (ch i)))])
  refine Go.retN X4 hx hlk (t := .char) hret (by simp) (z' := (Int32.ofNat (ch i))) (ch_nar _ (hc i hi)) (hb hby dcha_15) (by decide) (by decide) ?_
  try rw [e4]
  exact ⟨rfl, rfl, rfl⟩
theorem dnbl_0 : decode jdk_52_method_3_code 0 = .ok (.iload_n 0, 1) := by decide +kernel
theorem dnbl_1 : decode jdk_52_method_3_code 1 = .ok (.ifCond .ge 11, 3) := by decide +kernel
theorem dnbl_12 : decode jdk_52_method_3_code 12 = .ok (.iload_n 0, 1) := by decide +kernel
theorem dnbl_13 : decode jdk_52_method_3_code 13 = .ok (.ldc 20, 2) := by decide +kernel
theorem dnbl_15 : decode jdk_52_method_3_code 15 = .ok (.if_icmp .lt 40, 3) := by decide +kernel
theorem dnbl_55 : decode jdk_52_method_3_code 55 = .ok (.iload_n 0, 1) := by decide +kernel
theorem dnbl_56 : decode jdk_52_method_3_code 56 = .ok (.iconst 1, 1) := by decide +kernel
theorem dnbl_57 : decode jdk_52_method_3_code 57 = .ok (.ishl, 1) := by decide +kernel
theorem dnbl_58 : decode jdk_52_method_3_code 58 = .ok (.ireturn, 1) := by decide +kernel
theorem pn_nbl : plainFor (⟨"java/lang/StringUTF16", "newBytesLength", "(I)I"⟩ : MethodName) = true := by first | exact plainFor_of_name (by first | (simp [plainName, overriddenIn]; done) | decide +kernel) | decide +kernel
theorem ef_nbl (m : MethodId) (x0 : Int32) : entryFrame m #[(.int x0)] 1 = mkF m 0 #[iv x0] [] := by first | (simp [entryFrame, mkF, argsToLocals, Value.category]; done) | rfl
set_option maxRecDepth 65536 in
set_option maxHeartbeats 40000000 in
theorem rm_nbl (l : Launch) (Z : State) (a0 : Array Value) (hw : ∀ d ∈ tables_1, d.before a0 Z = true) (ws : List Jvm.Cond) (n : Nat) (h0 : Heap) (hn : n ≤ 21) :
    Mt l Z (⟨"java/lang/StringUTF16", "newBytesLength", "(I)I"⟩ : MethodName) jdk_52_method_3_code 1 (some .int) ws ({ frames := 0, cells := 0, slots := 0, locals := 0 } : Room) #[(.int (Int32.ofNat n))] h0 (fun v h L => v = some (.int (Int32.ofNat (2 * n))) ∧ h = h0 ∧ L = []) := by
  refine Mt.body pn_nbl ?_
  intro p e s m below meth c s₁ hx hby hml hown hnm hret hlk hZ X0 e0
  refine Go.cast (g' := (mkF m 0 #[iv (Int32.ofNat n)] [])) (ef_nbl m (Int32.ofNat n)) ?_
  have N0 := Fr.nil 0
  refine Go.st (T' := s₁) (g' := (mkF m 58 #[iv (Int32.ofNat n)] [(.int ((Int32.ofNat n) <<< ((1 : Int32) &&& 31)))])) ?_ (fun _ kk_ => XS.iloadN X0.here hx rfl (hb hby dnbl_0) rfl  (XS.ifYes X0.here hx rfl (pc0 := 1) (pc' := 12) rfl (hb hby dnbl_1) rfl ((if0 _ _).trans (flt ((fun z => by have := (own_lt (i := n) (n := 0) (by omega) (by decide)).mp z; omega) : ¬ ((Int32.ofNat n) < (0 : Int32)))).2.1) (by decide) (by decide) (XS.iloadN X0.here hx rfl (hb hby dnbl_12) rfl  (X0.ldcInt hx hown (mvT hZ (hw _ (List.mem_of_getElem? (i := 131) rfl))) (g := (mkF m 13 #[iv (Int32.ofNat n)] [(.int (Int32.ofNat n))])) rfl (hb hby dnbl_13) _ (XS.icmpYes X0.here hx rfl (pc0 := 15) (pc' := 55) rfl (hb hby dnbl_15) rfl (tlt (((own_lt (i := n) (n := 1073741823) (by omega) (by decide)).mpr (by omega)) : (Int32.ofNat n) < (1073741823 : Int32))).1 (by decide) (by decide) (XS.iloadN X0.here hx rfl (hb hby dnbl_55) rfl  (XS.iconst X0.here hx rfl (hb hby dnbl_56) (XS.ishl X0.here hx rfl (hb hby dnbl_57) rfl kk_))))))))
  rw [own_shl1 (n := n) (by omega)]
  show Go p e below _ s₁ (mkF m 58 #[iv (Int32.ofNat n)] [(.int (Int32.ofNat (2 * n)))])
  refine Go.retI X0 hx hlk hret (hb hby dnbl_58) (by decide) (by decide) ?_
  try rw [e0]
  exact ⟨rfl, rfl, rfl⟩
theorem dnbf_0 : decode jdk_52_method_2_code 0 = .ok (.iload_n 0, 1) := by decide +kernel
theorem dnbf_1 : decode jdk_52_method_2_code 1 = .ok (.invokestatic 11, 3) := by decide +kernel
theorem dnbf_4 : decode jdk_52_method_2_code 4 = .ok (.newarray .byte, 2) := by decide +kernel
theorem dnbf_6 : decode jdk_52_method_2_code 6 = .ok (.areturn, 1) := by decide +kernel
theorem pn_nbf : plainFor (⟨"java/lang/StringUTF16", "newBytesFor", "(I)[B"⟩ : MethodName) = true := by first | exact plainFor_of_name (by first | (simp [plainName, overriddenIn]; done) | decide +kernel) | decide +kernel
theorem ef_nbf (m : MethodId) (x0 : Int32) : entryFrame m #[(.int x0)] 1 = mkF m 0 #[iv x0] [] := by first | (simp [entryFrame, mkF, argsToLocals, Value.category]; done) | rfl
set_option maxRecDepth 65536 in
set_option maxHeartbeats 40000000 in
theorem rm_nbf (l : Launch) (Z : State) (a0 : Array Value) (hw : ∀ d ∈ tables_1, d.before a0 Z = true) (ws : List Jvm.Cond) (n : Nat) (n0 : Nat) (h0 : Heap) (Z0 : n0 ≤ h0.size) (hn : n ≤ 21) :
    Mt l Z (⟨"java/lang/StringUTF16", "newBytesFor", "(I)[B"⟩ : MethodName) jdk_52_method_2_code 1 (some (.array .byte)) ws ({ frames := 1, cells := 1, slots := 42, locals := 12 } : Room) #[(.int (Int32.ofNat n))] h0 (fun v h L => ∃ t, v = some (.ref t) ∧ Fr n0 L ∧ Keep h0 h [] ∧ h0.size ≤ t ∧ Ary Z h t .byte (IL (2 * n) (fun _ => 0))) := by
  refine Mt.body pn_nbf ?_
  intro p e s m below meth c s₁ hx hby hml hown hnm hret hlk hZ X0 e0
  refine Go.cast (g' := (mkF m 0 #[iv (Int32.ofNat n)] [])) (ef_nbf m (Int32.ofNat n)) ?_
  have N0 := Fr.nil n0
  have K0 := Keep.refl h0 ([] : List Addr)
  refine Go.st (T' := s₁) (g' := (mkF m 1 #[iv (Int32.ofNat n)] [(.int (Int32.ofNat n))])) ?_ (fun _ kk_ => XS.iloadN X0.here hx rfl (hb hby dnbf_0) rfl  kk_)
  refine Go.callS (y := (⟨"java/lang/StringUTF16", "newBytesLength", "(I)I"⟩ : MethodName)) X0 hx hZ hown (hw _ (List.mem_of_getElem? (i := 128) rfl)) (hw _ (List.mem_of_getElem? (i := 129) rfl)) (hw _ (List.mem_of_getElem? (i := 42) rfl)) (hw _ (List.mem_of_getElem? (i := 130) rfl)) (by decide) 0 (rm_nbl l Z a0 hw [] n h0 hn) e0 (by decide) (by decide) (by decide) (by decide) (argsL := [(.int (Int32.ofNat n))]) (rest := []) rfl (by rw [hml]; rfl) (lenOf pd__28I_29I rfl) rfl rfl (by show 2 * 0 + _ ≤ _; exact Nat.le_of_eq rfl) (hb hby dnbf_1) ?_
  rintro _ T1 L1 X1 ⟨rfl, e1, rfl⟩
  have N2 := Fr.app N0 (Fr.nil _)
  show Go p e below _ T1 (mkF m 4 #[iv (Int32.ofNat n)] [(.int (Int32.ofNat (2 * n)))])
  refine Go.newP X1 hx hZ (aty := .byte) (hw _ (List.mem_of_getElem? (i := 44) rfl)) e1 rfl (hb hby dnbf_4) (n := (2 * n)) rfl rfl 42 (by omega) (by decide) (by decide) (by decide) ?_
  intro T3 h3 b3 X3 e3 E3 g3 V3
  have g_b3 : n0 ≤ b3 := Nat.le_trans Z0 (Nat.le_of_eq g3.symm)
  have sz_b3 : h0.size ≤ b3 := Nat.le_trans K0.1 (Nat.le_of_eq g3.symm)
  have Z4 : n0 ≤ h3.size := Nat.le_trans Z0 E3.1
  have K5 : Keep h0 h3 ([] : List Addr) := K0.ext E3
  change Ary Z h3 b3 .byte (List.replicate (2 * n) (.int 0)) at V3
  show Go p e below _ T3 (mkF m 6 #[iv (Int32.ofNat n)] [(.ref b3)])
  rw [IL_rep] at V3
  refine Go.retA X3 hx hlk hret rfl rfl (hb hby dnbf_6) (by decide) (by decide) ?_
  try rw [e3]
  exact ⟨b3, rfl, N2, K5, sz_b3, V3⟩
theorem dpuc_0 : decode jdk_52_method_4_code 0 = .ok (.getstatic 44, 3) := by decide +kernel
theorem dpuc_3 : decode jdk_52_method_4_code 3 = .ok (.ifCond .ne 25, 3) := by decide +kernel
theorem dpuc_28 : decode jdk_52_method_4_code 28 = .ok (.iload_n 1, 1) := by decide +kernel
theorem dpuc_29 : decode jdk_52_method_4_code 29 = .ok (.iconst 1, 1) := by decide +kernel
theorem dpuc_30 : decode jdk_52_method_4_code 30 = .ok (.ishl, 1) := by decide +kernel
theorem dpuc_31 : decode jdk_52_method_4_code 31 = .ok (.istore_n 1, 1) := by decide +kernel
theorem dpuc_32 : decode jdk_52_method_4_code 32 = .ok (.aload_n 0, 1) := by decide +kernel
theorem dpuc_33 : decode jdk_52_method_4_code 33 = .ok (.iload_n 1, 1) := by decide +kernel
theorem dpuc_34 : decode jdk_52_method_4_code 34 = .ok (.iinc 1 1, 3) := by decide +kernel
theorem dpuc_37 : decode jdk_52_method_4_code 37 = .ok (.iload_n 2, 1) := by decide +kernel
theorem dpuc_38 : decode jdk_52_method_4_code 38 = .ok (.getstatic 59, 3) := by decide +kernel
theorem dpuc_41 : decode jdk_52_method_4_code 41 = .ok (.ishr, 1) := by decide +kernel
theorem dpuc_42 : decode jdk_52_method_4_code 42 = .ok (.i2b, 1) := by decide +kernel
theorem dpuc_43 : decode jdk_52_method_4_code 43 = .ok (.bastore, 1) := by decide +kernel
theorem dpuc_44 : decode jdk_52_method_4_code 44 = .ok (.aload_n 0, 1) := by decide +kernel
theorem dpuc_45 : decode jdk_52_method_4_code 45 = .ok (.iload_n 1, 1) := by decide +kernel
theorem dpuc_46 : decode jdk_52_method_4_code 46 = .ok (.iload_n 2, 1) := by decide +kernel
theorem dpuc_47 : decode jdk_52_method_4_code 47 = .ok (.getstatic 63, 3) := by decide +kernel
theorem dpuc_50 : decode jdk_52_method_4_code 50 = .ok (.ishr, 1) := by decide +kernel
theorem dpuc_51 : decode jdk_52_method_4_code 51 = .ok (.i2b, 1) := by decide +kernel
theorem dpuc_52 : decode jdk_52_method_4_code 52 = .ok (.bastore, 1) := by decide +kernel
theorem dpuc_53 : decode jdk_52_method_4_code 53 = .ok (.return_, 1) := by decide +kernel
theorem pn_puc : plainFor (⟨"java/lang/StringUTF16", "putChar", "([BII)V"⟩ : MethodName) = true := by first | exact plainFor_of_name (by first | (simp [plainName, overriddenIn]; done) | decide +kernel) | decide +kernel
theorem ef_puc (m : MethodId) (x0 : Addr) (x1 : Int32) (x2 : Int32) : entryFrame m #[(.ref x0), (.int x1), (.int x2)] 3 = mkF m 0 #[rv x0, iv x1, iv x2] [] := by first | (simp [entryFrame, mkF, argsToLocals, Value.category]; done) | rfl
set_option maxRecDepth 65536 in
set_option maxHeartbeats 40000000 in
theorem rm_puc (l : Launch) (Z : State) (a0 : Array Value) (hw : ∀ d ∈ tables_1, d.before a0 Z = true) (ws : List Jvm.Cond) (t : Addr) (i n x : Nat) (f : Nat → Int32) (n0 : Nat) (h0 : Heap) (Z0 : n0 ≤ h0.size) (hi : i < n) (hn : n ≤ 21) (hx_ : x < 65536) (V_t : Ary Z h0 t .byte (IL (2 * n) f)) (g_t : n0 ≤ t) (O0 : Old Z n0 h0) (Sa : Sta Z Z.heap "java/lang/StringUTF16" "$assertionsDisabled" "Z" (.int (1 : Int32))) (Sh : Sta Z Z.heap "java/lang/StringUTF16" "HI_BYTE_SHIFT" "I" (.int (0 : Int32))) (Sl : Sta Z Z.heap "java/lang/StringUTF16" "LO_BYTE_SHIFT" "I" (.int (8 : Int32))) :
    Mt l Z (⟨"java/lang/StringUTF16", "putChar", "([BII)V"⟩ : MethodName) jdk_52_method_4_code 3 none ws ({ frames := 0, cells := 0, slots := 0, locals := 0 } : Room) #[(.ref t), (.int (Int32.ofNat i)), (.int (Int32.ofNat x))] h0 (fun v h L => v = none ∧ Fr n0 L ∧ Keep h0 h [t] ∧ Ary Z h t .byte (IL (2 * n) (fun q => if q = 2 * i + 1 then bI (x / 256) else if q = 2 * i then bI x else f q))) := by
  refine Mt.body pn_puc ?_
  intro p e s m below meth c s₁ hx hby hml hown hnm hret hlk hZ X0 e0
  refine Go.cast (g' := (mkF m 0 #[rv t, iv (Int32.ofNat i), iv (Int32.ofNat x)] [])) (ef_puc m t (Int32.ofNat i) (Int32.ofNat x)) ?_
  have N0 := Fr.nil n0
  have K0 := Keep.refl h0 [t]
  obtain ⟨T1, X1, e1, st1⟩ := getS2 X0 hx hZ hown (host := "") (Or.inl (hw _ (List.mem_of_getElem? (i := 135) rfl))) Via.refl e0 (Sa.ext O0.2) (g := (mkF m 0 #[rv t, iv (Int32.ofNat i), iv (Int32.ofNat x)] [])) rfl (hb hby dpuc_0)
  refine Go.st (T' := T1) (g' := (mkF m 3 #[rv t, iv (Int32.ofNat i), iv (Int32.ofNat x)] [(.int (1 : Int32))])) ?_ st1
  refine Go.st (T' := T1) (g' := (mkF m 31 #[rv t, iv (Int32.ofNat i), iv (Int32.ofNat x)] [(.int ((Int32.ofNat i) <<< ((1 : Int32) &&& 31)))])) ?_ (fun _ kk_ => XS.ifYes X1.here hx rfl (pc0 := 3) (pc' := 28) rfl (hb hby dpuc_3) rfl ((if0 _ _).trans (feq ((by decide) : ¬ ((1 : Int32) = (0 : Int32)))).2) (by decide) (by decide) (XS.iloadN X1.here hx rfl (hb hby dpuc_28) rfl  (XS.iconst X1.here hx rfl (hb hby dpuc_29) (XS.ishl X1.here hx rfl (hb hby dpuc_30) rfl kk_))))
  rw [own_shl1 (n := i) (by omega)]
  show Go p e below _ T1 (mkF m 31 #[rv t, iv (Int32.ofNat i), iv (Int32.ofNat x)] [(.int (Int32.ofNat (2 * i)))])
  refine Go.st (T' := T1) (g' := (mkF m 38 #[rv t, iv ((Int32.ofNat (2 * i)) + (1 : Int32)), iv (Int32.ofNat x)] [(.int (Int32.ofNat x)), (.int (Int32.ofNat (2 * i))), (.ref t)])) ?_ (fun _ kk_ => XS.istoreN X1.here hx rfl (hb hby dpuc_31) rfl (l' := #[rv t, iv (Int32.ofNat (2 * i)), iv (Int32.ofNat x)]) rfl (XS.aloadN X1.here hx rfl (hb hby dpuc_32) rfl rfl  (XS.iloadN X1.here hx rfl (hb hby dpuc_33) rfl  (XS.iinc X1.here hx rfl (hb hby dpuc_34) rfl (l' := #[rv t, iv ((Int32.ofNat (2 * i)) + (1 : Int32)), iv (Int32.ofNat x)]) rfl (XS.iloadN X1.here hx rfl (hb hby dpuc_37) rfl  kk_)))))
  obtain ⟨T2, X2, e2, st2⟩ := getS2 X1 hx hZ hown (host := "") (Or.inl (hw _ (List.mem_of_getElem? (i := 136) rfl))) Via.refl e1 (Sh.ext O0.2) (g := (mkF m 38 #[rv t, iv ((Int32.ofNat (2 * i)) + (1 : Int32)), iv (Int32.ofNat x)] [(.int (Int32.ofNat x)), (.int (Int32.ofNat (2 * i))), (.ref t)])) rfl (hb hby dpuc_38)
  refine Go.st (T' := T2) (g' := (mkF m 41 #[rv t, iv ((Int32.ofNat (2 * i)) + (1 : Int32)), iv (Int32.ofNat x)] [(.int (0 : Int32)), (.int (Int32.ofNat x)), (.int (Int32.ofNat (2 * i))), (.ref t)])) ?_ st2
  refine Go.st (T' := T2) (g' := (mkF m 42 #[rv t, iv ((Int32.ofNat (2 * i)) + (1 : Int32)), iv (Int32.ofNat x)] [(.int ((Int32.ofNat x) >>> ((0 : Int32) &&& 31))), (.int (Int32.ofNat (2 * i))), (.ref t)])) ?_ (fun _ kk_ => XS.ishr X2.here hx rfl (hb hby dpuc_41) rfl kk_)
  rw [own_shr0]
  show Go p e below _ T2 (mkF m 42 #[rv t, iv ((Int32.ofNat (2 * i)) + (1 : Int32)), iv (Int32.ofNat x)] [(.int (Int32.ofNat x)), (.int (Int32.ofNat (2 * i))), (.ref t)])
  refine Go.st (T' := T2) (g' := (mkF m 43 #[rv t, iv ((Int32.ofNat (2 * i)) + (1 : Int32)), iv (Int32.ofNat x)] [(.int ((Int32.ofNat x).toInt8.toInt32)), (.int (Int32.ofNat (2 * i))), (.ref t)])) ?_ (fun _ kk_ => XS.i2b X2.here hx rfl (hb hby dpuc_42) rfl kk_)
  refine Go.bastore X2 hx hZ e2 V_t (i := (2 * i)) (by rw [IL_len]; omega) rfl rfl rfl (hb hby dpuc_43) ?_
  intro T3 h3 X3 e3 W3 V3
  have N4 := Fr.snoc X3 N0 g_t
  have O5 := O0.wr W3 g_t
  have K6 : Keep h0 h3 [t] := K0.wr W3 (Or.inl (List.mem_of_getElem? (i := 0) rfl))
  have Z7 : n0 ≤ h3.size := by rw [W3.size]; exact Z0
  show Go p e below _ T3 (mkF m 44 #[rv t, iv ((Int32.ofNat (2 * i)) + (1 : Int32)), iv (Int32.ofNat x)] [])
  rw [show ((Int32.ofNat x).toInt8.toInt32).toInt8.toInt32 = bI x from own_b2 hx_, IL_set (by omega)] at V3
  refine Go.st (T' := T3) (g' := (mkF m 46 #[rv t, iv ((Int32.ofNat (2 * i)) + (1 : Int32)), iv (Int32.ofNat x)] [(.int ((Int32.ofNat (2 * i)) + (1 : Int32))), (.ref t)])) ?_ (fun _ kk_ => XS.aloadN X3.here hx rfl (hb hby dpuc_44) rfl rfl  (XS.iloadN X3.here hx rfl (hb hby dpuc_45) rfl  kk_))
  rw [show Int32.ofNat (2 * i) + (1 : Int32) = Int32.ofNat (2 * i + 1) from own_add _ 1]
  show Go p e below _ T3 (mkF m 46 #[rv t, iv (Int32.ofNat (2 * i + 1)), iv (Int32.ofNat x)] [(.int (Int32.ofNat (2 * i + 1))), (.ref t)])
  refine Go.st (T' := T3) (g' := (mkF m 47 #[rv t, iv (Int32.ofNat (2 * i + 1)), iv (Int32.ofNat x)] [(.int (Int32.ofNat x)), (.int (Int32.ofNat (2 * i + 1))), (.ref t)])) ?_ (fun _ kk_ => XS.iloadN X3.here hx rfl (hb hby dpuc_46) rfl  kk_)
  obtain ⟨T8, X8, e8, st8⟩ := getS2 X3 hx hZ hown (host := "") (Or.inl (hw _ (List.mem_of_getElem? (i := 137) rfl))) Via.refl e3 (Sl.ext O5.2) (g := (mkF m 47 #[rv t, iv (Int32.ofNat (2 * i + 1)), iv (Int32.ofNat x)] [(.int (Int32.ofNat x)), (.int (Int32.ofNat (2 * i + 1))), (.ref t)])) rfl (hb hby dpuc_47)
  refine Go.st (T' := T8) (g' := (mkF m 50 #[rv t, iv (Int32.ofNat (2 * i + 1)), iv (Int32.ofNat x)] [(.int (8 : Int32)), (.int (Int32.ofNat x)), (.int (Int32.ofNat (2 * i + 1))), (.ref t)])) ?_ st8
  refine Go.st (T' := T8) (g' := (mkF m 51 #[rv t, iv (Int32.ofNat (2 * i + 1)), iv (Int32.ofNat x)] [(.int ((Int32.ofNat x) >>> ((8 : Int32) &&& 31))), (.int (Int32.ofNat (2 * i + 1))), (.ref t)])) ?_ (fun _ kk_ => XS.ishr X8.here hx rfl (hb hby dpuc_50) rfl kk_)
  rw [own_shr8 hx_]
  show Go p e below _ T8 (mkF m 51 #[rv t, iv (Int32.ofNat (2 * i + 1)), iv (Int32.ofNat x)] [(.int (Int32.ofNat (x / 256))), (.int (Int32.ofNat (2 * i + 1))), (.ref t)])
  refine Go.st (T' := T8) (g' := (mkF m 52 #[rv t, iv (Int32.ofNat (2 * i + 1)), iv (Int32.ofNat x)] [(.int ((Int32.ofNat (x / 256)).toInt8.toInt32)), (.int (Int32.ofNat (2 * i + 1))), (.ref t)])) ?_ (fun _ kk_ => XS.i2b X8.here hx rfl (hb hby dpuc_51) rfl kk_)
  refine Go.bastore X8 hx hZ e8 V3 (i := (2 * i + 1)) (by rw [IL_len]; omega) rfl rfl rfl (hb hby dpuc_52) ?_
  intro T9 h9 X9 e9 W9 V9
  have N10 := Fr.snoc X9 N4 g_t
  have O11 := O5.wr W9 g_t
  have K12 : Keep h0 h9 [t] := K6.wr W9 (Or.inl (List.mem_of_getElem? (i := 0) rfl))
  have Z13 : n0 ≤ h9.size := by rw [W9.size]; exact Z7
  show Go p e below _ T9 (mkF m 53 #[rv t, iv (Int32.ofNat (2 * i + 1)), iv (Int32.ofNat x)] [])
  rw [show ((Int32.ofNat (x / 256)).toInt8.toInt32).toInt8.toInt32 = bI (x / 256) from own_b2 (by omega), IL_set (by omega)] at V9
  refine Go.retV X9 hx hlk hret (hb hby dpuc_53) (by decide) (by decide) ?_
  try rw [e9]
  exact ⟨rfl, N10, K12, V9⟩
theorem dgec_0 : decode jdk_52_method_5_code 0 = .ok (.getstatic 44, 3) := by decide +kernel
theorem dgec_3 : decode jdk_52_method_5_code 3 = .ok (.ifCond .ne 25, 3) := by decide +kernel
theorem dgec_28 : decode jdk_52_method_5_code 28 = .ok (.iload_n 1, 1) := by decide +kernel
theorem dgec_29 : decode jdk_52_method_5_code 29 = .ok (.iconst 1, 1) := by decide +kernel
theorem dgec_30 : decode jdk_52_method_5_code 30 = .ok (.ishl, 1) := by decide +kernel
theorem dgec_31 : decode jdk_52_method_5_code 31 = .ok (.istore_n 1, 1) := by decide +kernel
theorem dgec_32 : decode jdk_52_method_5_code 32 = .ok (.aload_n 0, 1) := by decide +kernel
theorem dgec_33 : decode jdk_52_method_5_code 33 = .ok (.iload_n 1, 1) := by decide +kernel
theorem dgec_34 : decode jdk_52_method_5_code 34 = .ok (.iinc 1 1, 3) := by decide +kernel
theorem dgec_37 : decode jdk_52_method_5_code 37 = .ok (.baload, 1) := by decide +kernel
theorem dgec_38 : decode jdk_52_method_5_code 38 = .ok (.sipush 255, 3) := by decide +kernel
theorem dgec_41 : decode jdk_52_method_5_code 41 = .ok (.iand, 1) := by decide +kernel
theorem dgec_42 : decode jdk_52_method_5_code 42 = .ok (.getstatic 59, 3) := by decide +kernel
theorem dgec_45 : decode jdk_52_method_5_code 45 = .ok (.ishl, 1) := by decide +kernel
theorem dgec_46 : decode jdk_52_method_5_code 46 = .ok (.aload_n 0, 1) := by decide +kernel
theorem dgec_47 : decode jdk_52_method_5_code 47 = .ok (.iload_n 1, 1) := by decide +kernel
theorem dgec_48 : decode jdk_52_method_5_code 48 = .ok (.baload, 1) := by decide +kernel
theorem dgec_49 : decode jdk_52_method_5_code 49 = .ok (.sipush 255, 3) := by decide +kernel
theorem dgec_52 : decode jdk_52_method_5_code 52 = .ok (.iand, 1) := by decide +kernel
theorem dgec_53 : decode jdk_52_method_5_code 53 = .ok (.getstatic 63, 3) := by decide +kernel
theorem dgec_56 : decode jdk_52_method_5_code 56 = .ok (.ishl, 1) := by decide +kernel
theorem dgec_57 : decode jdk_52_method_5_code 57 = .ok (.ior, 1) := by decide +kernel
theorem dgec_58 : decode jdk_52_method_5_code 58 = .ok (.i2c, 1) := by decide +kernel
theorem dgec_59 : decode jdk_52_method_5_code 59 = .ok (.ireturn, 1) := by decide +kernel
theorem pn_gec : plainFor (⟨"java/lang/StringUTF16", "getChar", "([BI)C"⟩ : MethodName) = true := by first | exact plainFor_of_name (by first | (simp [plainName, overriddenIn]; done) | decide +kernel) | decide +kernel
theorem ef_gec (m : MethodId) (x0 : Addr) (x1 : Int32) : entryFrame m #[(.ref x0), (.int x1)] 2 = mkF m 0 #[rv x0, iv x1] [] := by first | (simp [entryFrame, mkF, argsToLocals, Value.category]; done) | rfl
set_option maxRecDepth 65536 in
set_option maxHeartbeats 40000000 in
theorem rm_gec (l : Launch) (Z : State) (a0 : Array Value) (hw : ∀ d ∈ tables_1, d.before a0 Z = true) (ws : List Jvm.Cond) (t : Addr) (i n : Nat) (ch : Nat → Nat) (n0 : Nat) (h0 : Heap) (hi : i < n) (hn : n ≤ 21) (hc : ∀ q, q < n → ch q < 65536) (V_t : Ary Z h0 t .byte (IL (2 * n) (u2 ch))) (O0 : Old Z n0 h0) (Sa : Sta Z Z.heap "java/lang/StringUTF16" "$assertionsDisabled" "Z" (.int (1 : Int32))) (Sh : Sta Z Z.heap "java/lang/StringUTF16" "HI_BYTE_SHIFT" "I" (.int (0 : Int32))) (Sl : Sta Z Z.heap "java/lang/StringUTF16" "LO_BYTE_SHIFT" "I" (.int (8 : Int32))) :
    Mt l Z (⟨"java/lang/StringUTF16", "getChar", "([BI)C"⟩ : MethodName) jdk_52_method_5_code 2 (some .char) ws ({ frames := 0, cells := 0, slots := 0, locals := 0 } : Room) #[(.ref t), (.int (Int32.ofNat i))] h0 (fun v h L => v = some (.int (Int32.ofNat (ch i))) ∧ h = h0 ∧ L = []) := by
  refine Mt.body pn_gec ?_
  intro p e s m below meth c s₁ hx hby hml hown hnm hret hlk hZ X0 e0
  refine Go.cast (g' := (mkF m 0 #[rv t, iv (Int32.ofNat i)] [])) (ef_gec m t (Int32.ofNat i)) ?_
  have N0 := Fr.nil n0
  obtain ⟨T1, X1, e1, st1⟩ := getS2 X0 hx hZ hown (host := "") (Or.inl (hw _ (List.mem_of_getElem? (i := 135) rfl))) Via.refl e0 (Sa.ext O0.2) (g := (mkF m 0 #[rv t, iv (Int32.ofNat i)] [])) rfl (hb hby dgec_0)
  refine Go.st (T' := T1) (g' := (mkF m 3 #[rv t, iv (Int32.ofNat i)] [(.int (1 : Int32))])) ?_ st1
  refine Go.st (T' := T1) (g' := (mkF m 31 #[rv t, iv (Int32.ofNat i)] [(.int ((Int32.ofNat i) <<< ((1 : Int32) &&& 31)))])) ?_ (fun _ kk_ => XS.ifYes X1.here hx rfl (pc0 := 3) (pc' := 28) rfl (hb hby dgec_3) rfl ((if0 _ _).trans (feq ((by decide) : ¬ ((1 : Int32) = (0 : Int32)))).2) (by decide) (by decide) (XS.iloadN X1.here hx rfl (hb hby dgec_28) rfl  (XS.iconst X1.here hx rfl (hb hby dgec_29) (XS.ishl X1.here hx rfl (hb hby dgec_30) rfl kk_))))
  rw [own_shl1 (n := i) (by omega)]
  show Go p e below _ T1 (mkF m 31 #[rv t, iv (Int32.ofNat i)] [(.int (Int32.ofNat (2 * i)))])
  refine Go.st (T' := T1) (g' := (mkF m 42 #[rv t, iv ((Int32.ofNat (2 * i)) + (1 : Int32))] [(.int ((bI (ch i)) &&& (255 : Int32)))])) ?_ (fun _ kk_ => XS.istoreN X1.here hx rfl (hb hby dgec_31) rfl (l' := #[rv t, iv (Int32.ofNat (2 * i))]) rfl (XS.aloadN X1.here hx rfl (hb hby dgec_32) rfl rfl  (XS.iloadN X1.here hx rfl (hb hby dgec_33) rfl  (XS.iinc X1.here hx rfl (hb hby dgec_34) rfl (l' := #[rv t, iv ((Int32.ofNat (2 * i)) + (1 : Int32))]) rfl (own_baload X1 hx hZ e1 V_t (i := (2 * i)) (v := (.int (bI (ch i)))) ((IL_at (by omega)).trans (congrArg (fun z => some (Value.int z)) (u2_lo ch i))) rfl rfl rfl (hb hby dgec_37) (XS.sipush X1.here hx rfl (hb hby dgec_38) (XS.iand X1.here hx rfl (hb hby dgec_41) rfl kk_)))))))
  obtain ⟨T2, X2, e2, st2⟩ := getS2 X1 hx hZ hown (host := "") (Or.inl (hw _ (List.mem_of_getElem? (i := 136) rfl))) Via.refl e1 (Sh.ext O0.2) (g := (mkF m 42 #[rv t, iv ((Int32.ofNat (2 * i)) + (1 : Int32))] [(.int ((bI (ch i)) &&& (255 : Int32)))])) rfl (hb hby dgec_42)
  refine Go.st (T' := T2) (g' := (mkF m 45 #[rv t, iv ((Int32.ofNat (2 * i)) + (1 : Int32))] [(.int (0 : Int32)), (.int ((bI (ch i)) &&& (255 : Int32)))])) ?_ st2
  refine Go.st (T' := T2) (g' := (mkF m 48 #[rv t, iv ((Int32.ofNat (2 * i)) + (1 : Int32))] [(.int ((Int32.ofNat (2 * i)) + (1 : Int32))), (.ref t), (.int (((bI (ch i)) &&& (255 : Int32)) <<< ((0 : Int32) &&& 31)))])) ?_ (fun _ kk_ => XS.ishl X2.here hx rfl (hb hby dgec_45) rfl (XS.aloadN X2.here hx rfl (hb hby dgec_46) rfl rfl  (XS.iloadN X2.here hx rfl (hb hby dgec_47) rfl  kk_)))
  rw [show Int32.ofNat (2 * i) + (1 : Int32) = Int32.ofNat (2 * i + 1) from own_add _ 1]
  show Go p e below _ T2 (mkF m 48 #[rv t, iv (Int32.ofNat (2 * i + 1))] [(.int (Int32.ofNat (2 * i + 1))), (.ref t), (.int (((bI (ch i)) &&& (255 : Int32)) <<< ((0 : Int32) &&& 31)))])
  refine Go.st (T' := T2) (g' := (mkF m 53 #[rv t, iv (Int32.ofNat (2 * i + 1))] [(.int ((bI (ch i / 256)) &&& (255 : Int32))), (.int (((bI (ch i)) &&& (255 : Int32)) <<< ((0 : Int32) &&& 31)))])) ?_ (fun _ kk_ => own_baload X2 hx hZ e2 V_t (i := (2 * i + 1)) (v := (.int (bI (ch i / 256)))) ((IL_at (by omega)).trans (congrArg (fun z => some (Value.int z)) (u2_hi ch i))) rfl rfl rfl (hb hby dgec_48) (XS.sipush X2.here hx rfl (hb hby dgec_49) (XS.iand X2.here hx rfl (hb hby dgec_52) rfl kk_)))
  obtain ⟨T3, X3, e3, st3⟩ := getS2 X2 hx hZ hown (host := "") (Or.inl (hw _ (List.mem_of_getElem? (i := 137) rfl))) Via.refl e2 (Sl.ext O0.2) (g := (mkF m 53 #[rv t, iv (Int32.ofNat (2 * i + 1))] [(.int ((bI (ch i / 256)) &&& (255 : Int32))), (.int (((bI (ch i)) &&& (255 : Int32)) <<< ((0 : Int32) &&& 31)))])) rfl (hb hby dgec_53)
  refine Go.st (T' := T3) (g' := (mkF m 56 #[rv t, iv (Int32.ofNat (2 * i + 1))] [(.int (8 : Int32)), (.int ((bI (ch i / 256)) &&& (255 : Int32))), (.int (((bI (ch i)) &&& (255 : Int32)) <<< ((0 : Int32) &&& 31)))])) ?_ st3
  refine Go.st (T' := T3) (g' := (mkF m 58 #[rv t, iv (Int32.ofNat (2 * i + 1))] [(.int ((((bI (ch i)) &&& (255 : Int32)) <<< ((0 : Int32) &&& 31)) ||| (((bI (ch i / 256)) &&& (255 : Int32)) <<< ((8 : Int32) &&& 31))))])) ?_ (fun _ kk_ => XS.ishl X3.here hx rfl (hb hby dgec_56) rfl (XS.ior X3.here hx rfl (hb hby dgec_57) rfl kk_))
  rw [own_get16 (hc i hi)]
  show Go p e below _ T3 (mkF m 58 #[rv t, iv (Int32.ofNat (2 * i + 1))] [(.int (Int32.ofNat (ch i)))])
  refine Go.st (T' := T3) (g' := (mkF m 59 #[rv t, iv (Int32.ofNat (2 * i + 1))] [(.int ((Int32.ofNat (ch i)).toUInt32.toUInt16.toUInt32.toInt32))])) ?_ (fun _ kk_ => XS.i2c X3.here hx rfl (hb hby dgec_58) rfl kk_)
  rw [own_ch16 (hc i hi)]
  show Go p e below _ T3 (mkF m 59 #[rv t, iv (Int32.ofNat (2 * i + 1))] [(.int (Int32.ofNat (ch i)))])
  refine Go.retN X3 hx hlk (t := .char) hret (by simp) (z' := (Int32.ofNat (ch i))) (own_nar16 (hc i hi)) (hb hby dgec_59) (by decide) (by decide) ?_
  try rw [e3]
  exact ⟨rfl, rfl, rfl⟩
theorem dleU_0 : decode jdk_52_method_6_code 0 = .ok (.aload_n 0, 1) := by decide +kernel
theorem dleU_1 : decode jdk_52_method_6_code 1 = .ok (.arraylength, 1) := by decide +kernel
theorem dleU_2 : decode jdk_52_method_6_code 2 = .ok (.iconst 1, 1) := by decide +kernel
theorem dleU_3 : decode jdk_52_method_6_code 3 = .ok (.ishr, 1) := by decide +kernel
theorem dleU_4 : decode jdk_52_method_6_code 4 = .ok (.ireturn, 1) := by decide +kernel
theorem pn_leU : plainFor (⟨"java/lang/StringUTF16", "length", "([B)I"⟩ : MethodName) = true := by first | exact plainFor_of_name (by first | (simp [plainName, overriddenIn]; done) | decide +kernel) | decide +kernel
theorem ef_leU (m : MethodId) (x0 : Addr) : entryFrame m #[(.ref x0)] 1 = mkF m 0 #[rv x0] [] := by first | (simp [entryFrame, mkF, argsToLocals, Value.category]; done) | rfl
set_option maxRecDepth 65536 in
set_option maxHeartbeats 40000000 in
theorem rm_leU (l : Launch) (Z : State) (a0 : Array Value) (hw : ∀ d ∈ tables_1, d.before a0 Z = true) (ws : List Jvm.Cond) (t : Addr) (n : Nat) (f : Nat → Int32) (h0 : Heap) (hn : n ≤ 21) (V_t : Ary Z h0 t .byte (IL (2 * n) f)) :
    Mt l Z (⟨"java/lang/StringUTF16", "length", "([B)I"⟩ : MethodName) jdk_52_method_6_code 1 (some .int) ws ({ frames := 0, cells := 0, slots := 0, locals := 0 } : Room) #[(.ref t)] h0 (fun v h L => v = some (.int (Int32.ofNat n)) ∧ h = h0 ∧ L = []) := by
  refine Mt.body pn_leU ?_
  intro p e s m below meth c s₁ hx hby hml hown hnm hret hlk hZ X0 e0
  refine Go.cast (g' := (mkF m 0 #[rv t] [])) (ef_leU m t) ?_
  have N0 := Fr.nil 0
  refine Go.st (T' := s₁) (g' := (mkF m 4 #[rv t] [(.int ((Int32.ofNat (2 * n)) >>> ((1 : Int32) &&& 31)))])) ?_ (fun _ kk_ => XS.aloadN X0.here hx rfl (hb hby dleU_0) rfl rfl  (own_alen X0 hx hZ e0 V_t (IL_len _ _) rfl rfl (hb hby dleU_1) (XS.iconst X0.here hx rfl (hb hby dleU_2) (XS.ishr X0.here hx rfl (hb hby dleU_3) rfl kk_))))
  rw [own_shr1 (n := n) (by omega)]
  show Go p e below _ s₁ (mkF m 4 #[rv t] [(.int (Int32.ofNat n))])
  refine Go.retI X0 hx hlk hret (hb hby dleU_4) (by decide) (by decide) ?_
  try rw [e0]
  exact ⟨rfl, rfl, rfl⟩
theorem dckU_0 : decode jdk_52_method_91_code 0 = .ok (.iload_n 0, 1) := by decide +kernel
theorem dckU_1 : decode jdk_52_method_91_code 1 = .ok (.aload_n 1, 1) := by decide +kernel
theorem dckU_2 : decode jdk_52_method_91_code 2 = .ok (.invokestatic 48, 3) := by decide +kernel
theorem dckU_5 : decode jdk_52_method_91_code 5 = .ok (.invokestatic 414, 3) := by decide +kernel
theorem dckU_8 : decode jdk_52_method_91_code 8 = .ok (.return_, 1) := by decide +kernel
theorem pn_ckU : plainFor (⟨"java/lang/StringUTF16", "checkIndex", "(I[B)V"⟩ : MethodName) = true := by first | exact plainFor_of_name (by first | (simp [plainName, overriddenIn]; done) | decide +kernel) | decide +kernel
theorem ef_ckU (m : MethodId) (x0 : Int32) (x1 : Addr) : entryFrame m #[(.int x0), (.ref x1)] 2 = mkF m 0 #[iv x0, rv x1] [] := by first | (simp [entryFrame, mkF, argsToLocals, Value.category]; done) | rfl
set_option maxRecDepth 65536 in
set_option maxHeartbeats 40000000 in
theorem rm_ckU (l : Launch) (Z : State) (a0 : Array Value) (hw : ∀ d ∈ tables_1, d.before a0 Z = true) (ws : List Jvm.Cond) (t : Addr) (i n : Nat) (f : Nat → Int32) (rF : Value) (n0 : Nat) (h0 : Heap) (hi : i < n) (hn : n ≤ 21) (V_t : Ary Z h0 t .byte (IL (2 * n) f)) (O0 : Old Z n0 h0) (Sr : Sta Z Z.heap "jdk/internal/util/Preconditions" "SIOOBE_FORMATTER" "Ljava/util/function/BiFunction;" rF) (hr_rF : rF.isRef = true) :
    Mt l Z (⟨"java/lang/StringUTF16", "checkIndex", "(I[B)V"⟩ : MethodName) jdk_52_method_91_code 2 none ws ({ frames := 2, cells := 0, slots := 0, locals := 27 } : Room) #[(.int (Int32.ofNat i)), (.ref t)] h0 (fun v h L => v = none ∧ h = h0 ∧ L = []) := by
  refine Mt.body pn_ckU ?_
  intro p e s m below meth c s₁ hx hby hml hown hnm hret hlk hZ X0 e0
  refine Go.cast (g' := (mkF m 0 #[iv (Int32.ofNat i), rv t] [])) (ef_ckU m (Int32.ofNat i) t) ?_
  have N0 := Fr.nil n0
  refine Go.st (T' := s₁) (g' := (mkF m 2 #[iv (Int32.ofNat i), rv t] [(.ref t), (.int (Int32.ofNat i))])) ?_ (fun _ kk_ => XS.iloadN X0.here hx rfl (hb hby dckU_0) rfl  (XS.aloadN X0.here hx rfl (hb hby dckU_1) rfl rfl  kk_))
  refine Go.callS (y := (⟨"java/lang/StringUTF16", "length", "([B)I"⟩ : MethodName)) X0 hx hZ hown (hw _ (List.mem_of_getElem? (i := 147) rfl)) (hw _ (List.mem_of_getElem? (i := 148) rfl)) (hw _ (List.mem_of_getElem? (i := 42) rfl)) (hw _ (List.mem_of_getElem? (i := 149) rfl)) (by decide) 1 (rm_leU l Z a0 hw [] t n f h0 hn V_t) e0 (by decide) (by decide) (by decide) (by decide) (argsL := [(.ref t)]) (rest := [(.int (Int32.ofNat i))]) rfl (by rw [hml]; rfl) (lenOf pd__28_5bB_29I rfl) rfl rfl (by show 2 * 0 + _ ≤ _; exact Nat.le_of_eq rfl) (hb hby dckU_2) ?_
  rintro _ T1 L1 X1 ⟨rfl, e1, rfl⟩
  have N2 := Fr.app N0 (Fr.nil _)
  show Go p e below _ T1 (mkF m 5 #[iv (Int32.ofNat i), rv t] [(.int (Int32.ofNat n)), (.int (Int32.ofNat i))])
  refine Go.callS (y := (⟨"java/lang/String", "checkIndex", "(II)V"⟩ : MethodName)) X1 hx hZ hown (hw _ (List.mem_of_getElem? (i := 150) rfl)) (hw _ (List.mem_of_getElem? (i := 84) rfl)) (hw _ (List.mem_of_getElem? (i := 28) rfl)) (hw _ (List.mem_of_getElem? (i := 85) rfl)) (by decide) 0 (rm_chk l Z a0 hw [] i n rF n0 h0 hi (by omega) O0 Sr hr_rF) e1 (by decide) (by decide) (by decide) (by decide) (argsL := [(.int (Int32.ofNat i)), (.int (Int32.ofNat n))]) (rest := []) rfl (by rw [hml]; rfl) (lenOf pd__28II_29V rfl) rfl rfl (by show 2 * 0 + _ ≤ _; exact Nat.le_of_eq rfl) (hb hby dckU_5) ?_
  rintro _ T3 L3 X3 ⟨rfl, e3, rfl⟩
  have N4 := Fr.app N2 (Fr.nil _)
  show Go p e below _ T3 (mkF m 8 #[iv (Int32.ofNat i), rv t] [])
  refine Go.retV X3 hx hlk hret (hb hby dckU_8) (by decide) (by decide) ?_
  try rw [e3]
  exact ⟨rfl, rfl, rfl⟩
theorem duch_0 : decode jdk_52_method_83_code 0 = .ok (.iload_n 1, 1) := by decide +kernel
theorem duch_1 : decode jdk_52_method_83_code 1 = .ok (.aload_n 0, 1) := by decide +kernel
theorem duch_2 : decode jdk_52_method_83_code 2 = .ok (.invokestatic 67, 3) := by decide +kernel
theorem duch_5 : decode jdk_52_method_83_code 5 = .ok (.aload_n 0, 1) := by decide +kernel
theorem duch_6 : decode jdk_52_method_83_code 6 = .ok (.iload_n 1, 1) := by decide +kernel
theorem duch_7 : decode jdk_52_method_83_code 7 = .ok (.invokestatic 71, 3) := by decide +kernel
theorem duch_10 : decode jdk_52_method_83_code 10 = .ok (.ireturn, 1) := by decide +kernel
theorem pn_uch : plainFor (⟨"java/lang/StringUTF16", "charAt", "([BI)C"⟩ : MethodName) = true := by first | exact plainFor_of_name (by first | (simp [plainName, overriddenIn]; done) | decide +kernel) | decide +kernel
theorem ef_uch (m : MethodId) (x0 : Addr) (x1 : Int32) : entryFrame m #[(.ref x0), (.int x1)] 2 = mkF m 0 #[rv x0, iv x1] [] := by first | (simp [entryFrame, mkF, argsToLocals, Value.category]; done) | rfl
set_option maxRecDepth 65536 in
set_option maxHeartbeats 40000000 in
theorem rm_uch (l : Launch) (Z : State) (a0 : Array Value) (hw : ∀ d ∈ tables_1, d.before a0 Z = true) (ws : List Jvm.Cond) (t : Addr) (i n : Nat) (ch : Nat → Nat) (rF : Value) (n0 : Nat) (h0 : Heap) (hi : i < n) (hn : n ≤ 21) (hc : ∀ q, q < n → ch q < 65536) (V_t : Ary Z h0 t .byte (IL (2 * n) (u2 ch))) (O0 : Old Z n0 h0) (Sa : Sta Z Z.heap "java/lang/StringUTF16" "$assertionsDisabled" "Z" (.int (1 : Int32))) (Sh : Sta Z Z.heap "java/lang/StringUTF16" "HI_BYTE_SHIFT" "I" (.int (0 : Int32))) (Sl : Sta Z Z.heap "java/lang/StringUTF16" "LO_BYTE_SHIFT" "I" (.int (8 : Int32))) (Sr : Sta Z Z.heap "jdk/internal/util/Preconditions" "SIOOBE_FORMATTER" "Ljava/util/function/BiFunction;" rF) (hr_rF : rF.isRef = true) :
    Mt l Z (⟨"java/lang/StringUTF16", "charAt", "([BI)C"⟩ : MethodName) jdk_52_method_83_code 2 (some .char) ws ({ frames := 3, cells := 0, slots := 0, locals := 40 } : Room) #[(.ref t), (.int (Int32.ofNat i))] h0 (fun v h L => v = some (.int (Int32.ofNat (ch i))) ∧ h = h0 ∧ L = []) := by
  refine Mt.body pn_uch ?_
  intro p e s m below meth c s₁ hx hby hml hown hnm hret hlk hZ X0 e0
  refine Go.cast (g' := (mkF m 0 #[rv t, iv (Int32.ofNat i)] [])) (ef_uch m t (Int32.ofNat i)) ?_
  have N0 := Fr.nil n0
  refine Go.st (T' := s₁) (g' := (mkF m 2 #[rv t, iv (Int32.ofNat i)] [(.ref t), (.int (Int32.ofNat i))])) ?_ (fun _ kk_ => XS.iloadN X0.here hx rfl (hb hby duch_0) rfl  (XS.aloadN X0.here hx rfl (hb hby duch_1) rfl rfl  kk_))
  refine Go.callS (y := (⟨"java/lang/StringUTF16", "checkIndex", "(I[B)V"⟩ : MethodName)) X0 hx hZ hown (hw _ (List.mem_of_getElem? (i := 144) rfl)) (hw _ (List.mem_of_getElem? (i := 145) rfl)) (hw _ (List.mem_of_getElem? (i := 42) rfl)) (hw _ (List.mem_of_getElem? (i := 146) rfl)) (by decide) 0 (rm_ckU l Z a0 hw [] t i n _ rF n0 h0 hi hn V_t O0 Sr hr_rF) e0 (by decide) (by decide) (by decide) (by decide) (argsL := [(.int (Int32.ofNat i)), (.ref t)]) (rest := []) rfl (by rw [hml]; rfl) (lenOf pd__28I_5bB_29V rfl) rfl rfl (by show 2 * 0 + _ ≤ _; exact Nat.le_of_eq rfl) (hb hby duch_2) ?_
  rintro _ T1 L1 X1 ⟨rfl, e1, rfl⟩
  have N2 := Fr.app N0 (Fr.nil _)
  show Go p e below _ T1 (mkF m 5 #[rv t, iv (Int32.ofNat i)] [])
  refine Go.st (T' := T1) (g' := (mkF m 7 #[rv t, iv (Int32.ofNat i)] [(.int (Int32.ofNat i)), (.ref t)])) ?_ (fun _ kk_ => XS.aloadN X1.here hx rfl (hb hby duch_5) rfl rfl  (XS.iloadN X1.here hx rfl (hb hby duch_6) rfl  kk_))
  refine Go.callS (y := (⟨"java/lang/StringUTF16", "getChar", "([BI)C"⟩ : MethodName)) X1 hx hZ hown (hw _ (List.mem_of_getElem? (i := 138) rfl)) (hw _ (List.mem_of_getElem? (i := 139) rfl)) (hw _ (List.mem_of_getElem? (i := 42) rfl)) (hw _ (List.mem_of_getElem? (i := 140) rfl)) (by decide) 0 (rm_gec l Z a0 hw [] t i n ch n0 h0 hi hn hc V_t O0 Sa Sh Sl) e1 (by decide) (by decide) (by decide) (by decide) (argsL := [(.ref t), (.int (Int32.ofNat i))]) (rest := []) rfl (by rw [hml]; rfl) (lenOf pd__28_5bBI_29C rfl) rfl rfl (by show 2 * 0 + _ ≤ _; exact Nat.le_of_eq rfl) (hb hby duch_7) ?_
  rintro _ T3 L3 X3 ⟨rfl, e3, rfl⟩
  have N4 := Fr.app N2 (Fr.nil _)
  show Go p e below _ T3 (mkF m 10 #[rv t, iv (Int32.ofNat i)] [(.int (Int32.ofNat (ch i)))])
  refine Go.retN X3 hx hlk (t := .char) hret (by simp) (z' := (Int32.ofNat (ch i))) (own_nar16 (hc i hi)) (hb hby duch_10) (by decide) (by decide) ?_
  try rw [e3]
  exact ⟨rfl, rfl, rfl⟩
theorem dcoU_0 : decode jdk_42_method_152_code 0 = .ok (.getstatic 38, 3) := by decide +kernel
theorem dcoU_3 : decode jdk_42_method_152_code 3 = .ok (.ifCond .eq 10, 3) := by decide +kernel
theorem dcoU_6 : decode jdk_42_method_152_code 6 = .ok (.aload_n 0, 1) := by decide +kernel
theorem dcoU_7 : decode jdk_42_method_152_code 7 = .ok (.getfield 15, 3) := by decide +kernel
theorem dcoU_10 : decode jdk_42_method_152_code 10 = .ok (.goto 4, 3) := by decide +kernel
theorem dcoU_14 : decode jdk_42_method_152_code 14 = .ok (.ireturn, 1) := by decide +kernel
theorem pn_coU : plainFor (⟨"java/lang/String", "coder", "()B"⟩ : MethodName) = true := by first | exact plainFor_of_name (by first | (simp [plainName, overriddenIn]; done) | decide +kernel) | decide +kernel
theorem ef_coU (m : MethodId) (x0 : Addr) : entryFrame m #[(.ref x0)] 1 = mkF m 0 #[rv x0] [] := by first | (simp [entryFrame, mkF, argsToLocals, Value.category]; done) | rfl
set_option maxRecDepth 65536 in
set_option maxHeartbeats 40000000 in
theorem rm_coU (l : Launch) (Z : State) (a0 : Array Value) (hw : ∀ d ∈ tables_1, d.before a0 Z = true) (ws : List Jvm.Cond) (a : Addr) (n0 : Nat) (cS : Int32) (h0 : Heap) (Fc_a : Fld Z h0 a "java/lang/String" "coder" "B" (.int (1 : Int32))) (O0 : Old Z n0 h0) (Sc : Sta Z Z.heap "java/lang/String" "COMPACT_STRINGS" "Z" (.int cS)) (hcS : ¬ (cS = (0 : Int32))) :
    Mt l Z (⟨"java/lang/String", "coder", "()B"⟩ : MethodName) jdk_42_method_152_code 1 (some .byte) ws ({ frames := 0, cells := 0, slots := 0, locals := 0 } : Room) #[(.ref a)] h0 (fun v h L => v = some (.int (1 : Int32)) ∧ h = h0 ∧ L = []) := by
  refine Mt.body pn_coU ?_
  intro p e s m below meth c s₁ hx hby hml hown hnm hret hlk hZ X0 e0
  refine Go.cast (g' := (mkF m 0 #[rv a] [])) (ef_coU m a) ?_
  have N0 := Fr.nil n0
  obtain ⟨T1, X1, e1, st1⟩ := getS2 X0 hx hZ hown (host := "") (Or.inl (hw _ (List.mem_of_getElem? (i := 39) rfl))) Via.refl e0 (Sc.ext O0.2) (g := (mkF m 0 #[rv a] [])) rfl (hb hby dcoU_0)
  refine Go.st (T' := T1) (g' := (mkF m 3 #[rv a] [(.int cS)])) ?_ st1
  refine Go.st (T' := T1) (g' := (mkF m 7 #[rv a] [(.ref a)])) ?_ (fun _ kk_ => XS.ifNo X1.here hx rfl (hb hby dcoU_3) rfl ((if0 _ _).trans (feq (hcS : ¬ (cS = (0 : Int32)))).1) (XS.aloadN X1.here hx rfl (hb hby dcoU_6) rfl rfl  kk_))
  obtain ⟨T2, X2, e2, st2⟩ := getF X1 hx hZ hown (host := "") (Or.inl (hw _ (List.mem_of_getElem? (i := 51) rfl))) Via.refl e1 Fc_a (g := (mkF m 7 #[rv a] [(.ref a)])) rfl rfl (hb hby dcoU_7)
  refine Go.st (T' := T2) (g' := (mkF m 10 #[rv a] [(.int (1 : Int32))])) ?_ st2
  refine Go.st (T' := T2) (g' := (mkF m 14 #[rv a] [(.int (1 : Int32))])) ?_ (fun _ kk_ => XS.goto X2.here hx rfl (pc0 := 10) (pc' := 14) rfl (hb hby dcoU_10) (by decide) (by decide) kk_)
  refine Go.retN X2 hx hlk (t := .byte) hret (by simp) (z' := (1 : Int32)) rfl (hb hby dcoU_14) (by decide) (by decide) ?_
  try rw [e2]
  exact ⟨rfl, rfl, rfl⟩
theorem dlaU_0 : decode jdk_42_method_154_code 0 = .ok (.getstatic 38, 3) := by decide +kernel
theorem dlaU_3 : decode jdk_42_method_154_code 3 = .ok (.ifCond .eq 14, 3) := by decide +kernel
theorem dlaU_6 : decode jdk_42_method_154_code 6 = .ok (.aload_n 0, 1) := by decide +kernel
theorem dlaU_7 : decode jdk_42_method_154_code 7 = .ok (.getfield 15, 3) := by decide +kernel
theorem dlaU_10 : decode jdk_42_method_154_code 10 = .ok (.ifCond .ne 7, 3) := by decide +kernel
theorem dlaU_17 : decode jdk_42_method_154_code 17 = .ok (.iconst 0, 1) := by decide +kernel
theorem dlaU_18 : decode jdk_42_method_154_code 18 = .ok (.ireturn, 1) := by decide +kernel
theorem pn_laU : plainFor (⟨"java/lang/String", "isLatin1", "()Z"⟩ : MethodName) = true := by first | exact plainFor_of_name (by first | (simp [plainName, overriddenIn]; done) | decide +kernel) | decide +kernel
theorem ef_laU (m : MethodId) (x0 : Addr) : entryFrame m #[(.ref x0)] 1 = mkF m 0 #[rv x0] [] := by first | (simp [entryFrame, mkF, argsToLocals, Value.category]; done) | rfl
set_option maxRecDepth 65536 in
set_option maxHeartbeats 40000000 in
theorem rm_laU (l : Launch) (Z : State) (a0 : Array Value) (hw : ∀ d ∈ tables_1, d.before a0 Z = true) (ws : List Jvm.Cond) (a : Addr) (n0 : Nat) (cS : Int32) (h0 : Heap) (Fc_a : Fld Z h0 a "java/lang/String" "coder" "B" (.int (1 : Int32))) (O0 : Old Z n0 h0) (Sc : Sta Z Z.heap "java/lang/String" "COMPACT_STRINGS" "Z" (.int cS)) (hcS : ¬ (cS = (0 : Int32))) :
    Mt l Z (⟨"java/lang/String", "isLatin1", "()Z"⟩ : MethodName) jdk_42_method_154_code 1 (some .boolean) ws ({ frames := 0, cells := 0, slots := 0, locals := 0 } : Room) #[(.ref a)] h0 (fun v h L => v = some (.int (0 : Int32)) ∧ h = h0 ∧ L = []) := by
  refine Mt.body pn_laU ?_
  intro p e s m below meth c s₁ hx hby hml hown hnm hret hlk hZ X0 e0
  refine Go.cast (g' := (mkF m 0 #[rv a] [])) (ef_laU m a) ?_
  have N0 := Fr.nil n0
  obtain ⟨T1, X1, e1, st1⟩ := getS2 X0 hx hZ hown (host := "") (Or.inl (hw _ (List.mem_of_getElem? (i := 39) rfl))) Via.refl e0 (Sc.ext O0.2) (g := (mkF m 0 #[rv a] [])) rfl (hb hby dlaU_0)
  refine Go.st (T' := T1) (g' := (mkF m 3 #[rv a] [(.int cS)])) ?_ st1
  refine Go.st (T' := T1) (g' := (mkF m 7 #[rv a] [(.ref a)])) ?_ (fun _ kk_ => XS.ifNo X1.here hx rfl (hb hby dlaU_3) rfl ((if0 _ _).trans (feq (hcS : ¬ (cS = (0 : Int32)))).1) (XS.aloadN X1.here hx rfl (hb hby dlaU_6) rfl rfl  kk_))
  obtain ⟨T2, X2, e2, st2⟩ := getF X1 hx hZ hown (host := "") (Or.inl (hw _ (List.mem_of_getElem? (i := 51) rfl))) Via.refl e1 Fc_a (g := (mkF m 7 #[rv a] [(.ref a)])) rfl rfl (hb hby dlaU_7)
  refine Go.st (T' := T2) (g' := (mkF m 10 #[rv a] [(.int (1 : Int32))])) ?_ st2
  refine Go.st (T' := T2) (g' := (mkF m 18 #[rv a] [(.int (0 : Int32))])) ?_ (fun _ kk_ => XS.ifYes X2.here hx rfl (pc0 := 10) (pc' := 17) rfl (hb hby dlaU_10) rfl ((if0 _ _).trans (feq ((by decide) : ¬ ((1 : Int32) = (0 : Int32)))).2) (by decide) (by decide) (XS.iconst X2.here hx rfl (hb hby dlaU_17) kk_))
  refine Go.retN X2 hx hlk (t := .boolean) hret (by simp) (z' := (0 : Int32)) rfl (hb hby dlaU_18) (by decide) (by decide) ?_
  try rw [e2]
  exact ⟨rfl, rfl, rfl⟩
theorem dlnU_0 : decode jdk_42_method_54_code 0 = .ok (.aload_n 0, 1) := by decide +kernel
theorem dlnU_1 : decode jdk_42_method_54_code 1 = .ok (.getfield 9, 3) := by decide +kernel
theorem dlnU_4 : decode jdk_42_method_54_code 4 = .ok (.arraylength, 1) := by decide +kernel
theorem dlnU_5 : decode jdk_42_method_54_code 5 = .ok (.aload_n 0, 1) := by decide +kernel
theorem dlnU_6 : decode jdk_42_method_54_code 6 = .ok (.invokevirtual 335, 3) := by decide +kernel
theorem dlnU_9 : decode jdk_42_method_54_code 9 = .ok (.ishr, 1) := by decide +kernel
theorem dlnU_10 : decode jdk_42_method_54_code 10 = .ok (.ireturn, 1) := by decide +kernel
theorem pn_lnU : plainFor (⟨"java/lang/String", "length", "()I"⟩ : MethodName) = true := by first | exact plainFor_of_name (by first | (simp [plainName, overriddenIn]; done) | decide +kernel) | decide +kernel
theorem ef_lnU (m : MethodId) (x0 : Addr) : entryFrame m #[(.ref x0)] 1 = mkF m 0 #[rv x0] [] := by first | (simp [entryFrame, mkF, argsToLocals, Value.category]; done) | rfl
set_option maxRecDepth 65536 in
set_option maxHeartbeats 40000000 in
theorem rm_lnU (l : Launch) (Z : State) (a0 : Array Value) (hw : ∀ d ∈ tables_1, d.before a0 Z = true) (ws : List Jvm.Cond) (a t : Addr) (n : Nat) (f : Nat → Int32) (n0 : Nat) (cS : Int32) (h0 : Heap) (hn : n ≤ 21) (E_a : Exa Z h0 a "java/lang/String") (Fc_a : Fld Z h0 a "java/lang/String" "coder" "B" (.int (1 : Int32))) (Fv_a : Fld Z h0 a "java/lang/String" "value" "[B" (.ref t)) (V_t : Ary Z h0 t .byte (IL (2 * n) f)) (O0 : Old Z n0 h0) (Sc : Sta Z Z.heap "java/lang/String" "COMPACT_STRINGS" "Z" (.int cS)) (hcS : ¬ (cS = (0 : Int32))) :
    Mt l Z (⟨"java/lang/String", "length", "()I"⟩ : MethodName) jdk_42_method_54_code 1 (some .int) ws ({ frames := 1, cells := 0, slots := 0, locals := 13 } : Room) #[(.ref a)] h0 (fun v h L => v = some (.int (Int32.ofNat n)) ∧ h = h0 ∧ L = []) := by
  refine Mt.body pn_lnU ?_
  intro p e s m below meth c s₁ hx hby hml hown hnm hret hlk hZ X0 e0
  refine Go.cast (g' := (mkF m 0 #[rv a] [])) (ef_lnU m a) ?_
  have N0 := Fr.nil n0
  refine Go.st (T' := s₁) (g' := (mkF m 1 #[rv a] [(.ref a)])) ?_ (fun _ kk_ => XS.aloadN X0.here hx rfl (hb hby dlnU_0) rfl rfl  kk_)
  obtain ⟨T1, X1, e1, st1⟩ := getF X0 hx hZ hown (host := "") (Or.inl (hw _ (List.mem_of_getElem? (i := 53) rfl))) Via.refl e0 Fv_a (g := (mkF m 1 #[rv a] [(.ref a)])) rfl rfl (hb hby dlnU_1)
  refine Go.st (T' := T1) (g' := (mkF m 4 #[rv a] [(.ref t)])) ?_ st1
  refine Go.st (T' := T1) (g' := (mkF m 6 #[rv a] [(.ref a), (.int (Int32.ofNat (2 * n)))])) ?_ (fun _ kk_ => own_alen X1 hx hZ e1 V_t (IL_len _ _) rfl rfl (hb hby dlnU_4) (XS.aloadN X1.here hx rfl (hb hby dlnU_5) rfl rfl  kk_))
  refine Go.callV (y := (⟨"java/lang/String", "coder", "()B"⟩ : MethodName)) (z := (⟨"java/lang/String", "coder", "()B"⟩ : MethodName)) X1 hx hZ hown (hw _ (List.mem_of_getElem? (i := 64) rfl)) (hw _ (List.mem_of_getElem? (i := 65) rfl)) (notFace_of_selects (args := #[]) (mvT hZ (hw _ (List.mem_of_getElem? (i := 67) rfl)))) (hw _ (List.mem_of_getElem? (i := 67) rfl)) (hw _ (List.mem_of_getElem? (i := 66) rfl)) (hw _ (List.mem_of_getElem? (i := 28) rfl)) (hw _ (List.mem_of_getElem? (i := 68) rfl)) (by decide) 1 (rm_coU l Z a0 hw [] a n0 cS h0 Fc_a O0 Sc hcS) e1 (by decide) (by decide) (by decide) (by decide) E_a (argsL := []) (rest := [(.int (Int32.ofNat (2 * n)))]) rfl (by rw [hml]; rfl) (lenOf pd__28_29B rfl) rfl rfl (by show 2 * 0 + _ ≤ _; exact Nat.le_of_eq rfl) (hb hby dlnU_6) ?_
  rintro _ T2 L2 X2 ⟨rfl, e2, rfl⟩
  have N3 := Fr.app N0 (Fr.nil _)
  show Go p e below _ T2 (mkF m 9 #[rv a] [(.int (1 : Int32)), (.int (Int32.ofNat (2 * n)))])
  refine Go.st (T' := T2) (g' := (mkF m 10 #[rv a] [(.int ((Int32.ofNat (2 * n)) >>> ((1 : Int32) &&& 31)))])) ?_ (fun _ kk_ => XS.ishr X2.here hx rfl (hb hby dlnU_9) rfl kk_)
  rw [own_shr1 (n := n) (by omega)]
  show Go p e below _ T2 (mkF m 10 #[rv a] [(.int (Int32.ofNat n))])
  refine Go.retI X2 hx hlk hret (hb hby dlnU_10) (by decide) (by decide) ?_
  try rw [e2]
  exact ⟨rfl, rfl, rfl⟩
theorem dchU_0 : decode jdk_42_method_56_code 0 = .ok (.aload_n 0, 1) := by decide +kernel
theorem dchU_1 : decode jdk_42_method_56_code 1 = .ok (.invokevirtual 492, 3) := by decide +kernel
theorem dchU_4 : decode jdk_42_method_56_code 4 = .ok (.ifCond .eq 12, 3) := by decide +kernel
theorem dchU_16 : decode jdk_42_method_56_code 16 = .ok (.aload_n 0, 1) := by decide +kernel
theorem dchU_17 : decode jdk_42_method_56_code 17 = .ok (.getfield 9, 3) := by decide +kernel
theorem dchU_20 : decode jdk_42_method_56_code 20 = .ok (.iload_n 1, 1) := by decide +kernel
theorem dchU_21 : decode jdk_42_method_56_code 21 = .ok (.invokestatic 498, 3) := by decide +kernel
theorem dchU_24 : decode jdk_42_method_56_code 24 = .ok (.ireturn, 1) := by decide +kernel
theorem pn_chU : plainFor (⟨"java/lang/String", "charAt", "(I)C"⟩ : MethodName) = true := by first | exact plainFor_of_name (by first | (simp [plainName, overriddenIn]; done) | decide +kernel) | decide +kernel
theorem ef_chU (m : MethodId) (x0 : Addr) (x1 : Int32) : entryFrame m #[(.ref x0), (.int x1)] 2 = mkF m 0 #[rv x0, iv x1] [] := by first | (simp [entryFrame, mkF, argsToLocals, Value.category]; done) | rfl
set_option maxRecDepth 65536 in
set_option maxHeartbeats 40000000 in
theorem rm_chU (l : Launch) (Z : State) (a0 : Array Value) (hw : ∀ d ∈ tables_1, d.before a0 Z = true) (ws : List Jvm.Cond) (a t : Addr) (i n : Nat) (ch : Nat → Nat) (rF : Value) (n0 : Nat) (cS : Int32) (h0 : Heap) (hi : i < n) (hn : n ≤ 21) (hc : ∀ q, q < n → ch q < 65536) (E_a : Exa Z h0 a "java/lang/String") (Fc_a : Fld Z h0 a "java/lang/String" "coder" "B" (.int (1 : Int32))) (Fv_a : Fld Z h0 a "java/lang/String" "value" "[B" (.ref t)) (V_t : Ary Z h0 t .byte (IL (2 * n) (u2 ch))) (O0 : Old Z n0 h0) (Sc : Sta Z Z.heap "java/lang/String" "COMPACT_STRINGS" "Z" (.int cS)) (hcS : ¬ (cS = (0 : Int32))) (Sa : Sta Z Z.heap "java/lang/StringUTF16" "$assertionsDisabled" "Z" (.int (1 : Int32))) (Sh : Sta Z Z.heap "java/lang/StringUTF16" "HI_BYTE_SHIFT" "I" (.int (0 : Int32))) (Sl : Sta Z Z.heap "java/lang/StringUTF16" "LO_BYTE_SHIFT" "I" (.int (8 : Int32))) (Sr : Sta Z Z.heap "jdk/internal/util/Preconditions" "SIOOBE_FORMATTER" "Ljava/util/function/BiFunction;" rF) (hr_rF : rF.isRef = true) :
    Mt l Z (⟨"java/lang/String", "charAt", "(I)C"⟩ : MethodName) jdk_42_method_56_code 2 (some .char) ws ({ frames := 4, cells := 0, slots := 0, locals := 53 } : Room) #[(.ref a), (.int (Int32.ofNat i))] h0 (fun v h L => v = some (.int (Int32.ofNat (ch i))) ∧ h = h0 ∧ L = []) := by
  refine Mt.body pn_chU ?_
  intro p e s m below meth c s₁ hx hby hml hown hnm hret hlk hZ X0 e0
  refine Go.cast (g' := (mkF m 0 #[rv a, iv (Int32.ofNat i)] [])) (ef_chU m a (Int32.ofNat i)) ?_
  have N0 := Fr.nil n0
  refine Go.st (T' := s₁) (g' := (mkF m 1 #[rv a, iv (Int32.ofNat i)] [(.ref a)])) ?_ (fun _ kk_ => XS.aloadN X0.here hx rfl (hb hby dchU_0) rfl rfl  kk_)
  refine Go.callV (y := (⟨"java/lang/String", "isLatin1", "()Z"⟩ : MethodName)) (z := (⟨"java/lang/String", "isLatin1", "()Z"⟩ : MethodName)) X0 hx hZ hown (hw _ (List.mem_of_getElem? (i := 74) rfl)) (hw _ (List.mem_of_getElem? (i := 75) rfl)) (notFace_of_selects (args := #[]) (mvT hZ (hw _ (List.mem_of_getElem? (i := 77) rfl)))) (hw _ (List.mem_of_getElem? (i := 77) rfl)) (hw _ (List.mem_of_getElem? (i := 76) rfl)) (hw _ (List.mem_of_getElem? (i := 28) rfl)) (hw _ (List.mem_of_getElem? (i := 78) rfl)) (by decide) 0 (rm_laU l Z a0 hw [] a n0 cS h0 Fc_a O0 Sc hcS) e0 (by decide) (by decide) (by decide) (by decide) E_a (argsL := []) (rest := []) rfl (by rw [hml]; rfl) (lenOf pd__28_29Z rfl) rfl rfl (by show 2 * 0 + _ ≤ _; exact Nat.le_of_eq rfl) (hb hby dchU_1) ?_
  rintro _ T1 L1 X1 ⟨rfl, e1, rfl⟩
  have N2 := Fr.app N0 (Fr.nil _)
  show Go p e below _ T1 (mkF m 4 #[rv a, iv (Int32.ofNat i)] [(.int (0 : Int32))])
  refine Go.st (T' := T1) (g' := (mkF m 17 #[rv a, iv (Int32.ofNat i)] [(.ref a)])) ?_ (fun _ kk_ => XS.ifYes X1.here hx rfl (pc0 := 4) (pc' := 16) rfl (hb hby dchU_4) rfl ((if0 _ _).trans (teq ((by decide) : (0 : Int32) = (0 : Int32))).1) (by decide) (by decide) (XS.aloadN X1.here hx rfl (hb hby dchU_16) rfl rfl  kk_))
  obtain ⟨T3, X3, e3, st3⟩ := getF X1 hx hZ hown (host := "") (Or.inl (hw _ (List.mem_of_getElem? (i := 53) rfl))) Via.refl e1 Fv_a (g := (mkF m 17 #[rv a, iv (Int32.ofNat i)] [(.ref a)])) rfl rfl (hb hby dchU_17)
  refine Go.st (T' := T3) (g' := (mkF m 20 #[rv a, iv (Int32.ofNat i)] [(.ref t)])) ?_ st3
  refine Go.st (T' := T3) (g' := (mkF m 21 #[rv a, iv (Int32.ofNat i)] [(.int (Int32.ofNat i)), (.ref t)])) ?_ (fun _ kk_ => XS.iloadN X3.here hx rfl (hb hby dchU_20) rfl  kk_)
  refine Go.callS (y := (⟨"java/lang/StringUTF16", "charAt", "([BI)C"⟩ : MethodName)) X3 hx hZ hown (hw _ (List.mem_of_getElem? (i := 141) rfl)) (hw _ (List.mem_of_getElem? (i := 142) rfl)) (hw _ (List.mem_of_getElem? (i := 42) rfl)) (hw _ (List.mem_of_getElem? (i := 143) rfl)) (by decide) 0 (rm_uch l Z a0 hw [] t i n ch rF n0 h0 hi hn hc V_t O0 Sa Sh Sl Sr hr_rF) e3 (by decide) (by decide) (by decide) (by decide) (argsL := [(.ref t), (.int (Int32.ofNat i))]) (rest := []) rfl (by rw [hml]; rfl) (lenOf pd__28_5bBI_29C rfl) rfl rfl (by show 2 * 0 + _ ≤ _; exact Nat.le_of_eq rfl) (hb hby dchU_21) ?_
  rintro _ T4 L4 X4 ⟨rfl, e4, rfl⟩
  have N5 := Fr.app N2 (Fr.nil _)
  show Go p e below _ T4 (mkF m 24 #[rv a, iv (Int32.ofNat i)] [(.int (Int32.ofNat (ch i)))])
  refine Go.retN X4 hx hlk (t := .char) hret (by simp) (z' := (Int32.ofNat (ch i))) (own_nar16 (hc i hi)) (hb hby dchU_24) (by decide) (by decide) ?_
  try rw [e4]
  exact ⟨rfl, rfl, rfl⟩
theorem dc2U_0 : decode jdk_52_method_21_code 0 = .ok (.iconst 0, 1) := by decide +kernel
theorem dc2U_1 : decode jdk_52_method_21_code 1 = .ok (.istore 5, 2) := by decide +kernel
theorem dc2U_3 : decode jdk_52_method_21_code 3 = .ok (.iload 5, 2) := by decide +kernel
theorem dc2U_5 : decode jdk_52_method_21_code 5 = .ok (.iload 4, 2) := by decide +kernel
theorem dc2U_7 : decode jdk_52_method_21_code 7 = .ok (.if_icmp .ge 37, 3) := by decide +kernel
theorem dc2U_10 : decode jdk_52_method_21_code 10 = .ok (.aload_n 0, 1) := by decide +kernel
theorem dc2U_11 : decode jdk_52_method_21_code 11 = .ok (.iload_n 1, 1) := by decide +kernel
theorem dc2U_12 : decode jdk_52_method_21_code 12 = .ok (.caload, 1) := by decide +kernel
theorem dc2U_13 : decode jdk_52_method_21_code 13 = .ok (.istore 6, 2) := by decide +kernel
theorem dc2U_15 : decode jdk_52_method_21_code 15 = .ok (.iload 6, 2) := by decide +kernel
theorem dc2U_17 : decode jdk_52_method_21_code 17 = .ok (.sipush 255, 3) := by decide +kernel
theorem dc2U_20 : decode jdk_52_method_21_code 20 = .ok (.if_icmp .le 6, 3) := by decide +kernel
theorem dc2U_23 : decode jdk_52_method_21_code 23 = .ok (.iload 5, 2) := by decide +kernel
theorem dc2U_25 : decode jdk_52_method_21_code 25 = .ok (.ireturn, 1) := by decide +kernel
theorem dc2U_26 : decode jdk_52_method_21_code 26 = .ok (.aload_n 2, 1) := by decide +kernel
theorem dc2U_27 : decode jdk_52_method_21_code 27 = .ok (.iload_n 3, 1) := by decide +kernel
theorem dc2U_28 : decode jdk_52_method_21_code 28 = .ok (.iload 6, 2) := by decide +kernel
theorem dc2U_30 : decode jdk_52_method_21_code 30 = .ok (.i2b, 1) := by decide +kernel
theorem dc2U_31 : decode jdk_52_method_21_code 31 = .ok (.bastore, 1) := by decide +kernel
theorem dc2U_32 : decode jdk_52_method_21_code 32 = .ok (.iinc 1 1, 3) := by decide +kernel
theorem dc2U_35 : decode jdk_52_method_21_code 35 = .ok (.iinc 3 1, 3) := by decide +kernel
theorem dc2U_38 : decode jdk_52_method_21_code 38 = .ok (.iinc 5 1, 3) := by decide +kernel
theorem dc2U_41 : decode jdk_52_method_21_code 41 = .ok (.goto (-38), 3) := by decide +kernel
theorem pn_c2U : plainFor (⟨"java/lang/StringUTF16", "compress", "([CI[BII)I"⟩ : MethodName) = true := by first | exact plainFor_of_name (by first | (simp [plainName, overriddenIn]; done) | decide +kernel) | decide +kernel
theorem ef_c2U (m : MethodId) (x0 : Addr) (x1 : Int32) (x2 : Addr) (x3 : Int32) (x4 : Int32) : entryFrame m #[(.ref x0), (.int x1), (.ref x2), (.int x3), (.int x4)] 7 = mkF m 0 #[rv x0, iv x1, rv x2, iv x3, iv x4, .unset, .unset] [] := by first | (simp [entryFrame, mkF, argsToLocals, Value.category]; done) | rfl
set_option maxRecDepth 65536 in
set_option maxHeartbeats 40000000 in
theorem rm_c2U (l : Launch) (Z : State) (a0 : Array Value) (hw : ∀ d ∈ tables_1, d.before a0 Z = true) (ws : List Jvm.Cond) (arr dst : Addr) (n j : Nat) (ch : Nat → Nat) (n0 : Nat) (h0 : Heap) (Z0 : n0 ≤ h0.size) (hn : n ≤ 21) (hj : j < n) (hlo : ∀ q, q < j → ch q < 256) (hhi : 256 ≤ ch j) (hc : ∀ q, q < n → ch q < 65536) (V_a : Ary Z h0 arr .char (IL n (fun q => Int32.ofNat (ch q)))) (V_d : Ary Z h0 dst .byte (IL n (fun _ => 0))) (g_d : n0 ≤ dst) (ne_ad : arr ≠ dst) :
    Mt l Z (⟨"java/lang/StringUTF16", "compress", "([CI[BII)I"⟩ : MethodName) jdk_52_method_21_code 7 (some .int) ws ({ frames := 0, cells := 0, slots := 0, locals := 0 } : Room) #[(.ref arr), (.int (0 : Int32)), (.ref dst), (.int (0 : Int32)), (.int (Int32.ofNat n))] h0 (fun v h L => v = some (.int (Int32.ofNat j)) ∧ Fr n0 L ∧ Keep h0 h [dst]) := by
  refine Mt.body pn_c2U ?_
  intro p e s m below meth c s₁ hx hby hml hown hnm hret hlk hZ X0 e0
  refine Go.cast (g' := (mkF m 0 #[rv arr, iv (0 : Int32), rv dst, iv (0 : Int32), iv (Int32.ofNat n), .unset, .unset] [])) (ef_c2U m arr (0 : Int32) dst (0 : Int32) (Int32.ofNat n)) ?_
  have N0 := Fr.nil n0
  refine Go.st (T' := s₁) (g' := (mkF m 3 #[rv arr, iv (0 : Int32), rv dst, iv (0 : Int32), iv (Int32.ofNat n), iv (0 : Int32), .unset] [])) ?_ (fun _ kk_ => XS.iconst X0.here hx rfl (hb hby dc2U_0) (XS.istore X0.here hx rfl (hb hby dc2U_1) rfl (l' := #[rv arr, iv (0 : Int32), rv dst, iv (0 : Int32), iv (Int32.ofNat n), iv (0 : Int32), .unset]) rfl kk_))
  have loop : ∀ (r i : Nat) (T : State) (h : Heap) (locs : List Loc) (f : Nat → Int32) (s6 : Slot), i + r = j → Stand p l e ({ frames := 0, cells := 0, slots := 0, locals := 0 } : Room) s m #[.ref arr, .int (0 : Int32), .ref dst, .int (0 : Int32), .int (Int32.ofNat n)] below meth c T locs 0 0 → T.heap = h → Fr n0 locs → Keep h0 h [dst] → n0 ≤ h.size → Ary Z h arr .char (IL n (fun q => Int32.ofNat (ch q))) → Ary Z h dst .byte (IL n f) → One s6 → Go p e below (Wf s 0 0 (fun v h L => v = some (.int (Int32.ofNat j)) ∧ Fr n0 L ∧ Keep h0 h [dst])) T (mkF m 3 #[rv arr, iv (Int32.ofNat i), rv dst, iv (Int32.ofNat i), iv (Int32.ofNat n), iv (Int32.ofNat i), s6] []) := by
    intro r
    induction r with
    | zero =>
      intro i T h locs f s6 hi X e1 NA KA ZA VA VB hs6
      refine Go.st (T' := T) (g' := (mkF m 7 #[rv arr, iv (Int32.ofNat i), rv dst, iv (Int32.ofNat i), iv (Int32.ofNat n), iv (Int32.ofNat i), s6] [(.int (Int32.ofNat n)), (.int (Int32.ofNat i))])) ?_ (fun _ kk_ => XS.iload X.here hx rfl (hb hby dc2U_3) rfl  (XS.iload X.here hx rfl (hb hby dc2U_5) rfl  kk_))
      have hin : i < n := by omega
      have h16 := hc i hin
      refine Go.st (T' := T) (g' := (mkF m 20 #[rv arr, iv (Int32.ofNat i), rv dst, iv (Int32.ofNat i), iv (Int32.ofNat n), iv (Int32.ofNat i), iv (Int32.ofNat (ch i))] [(.int (255 : Int32)), (.int (Int32.ofNat (ch i)))])) ?_ (fun _ kk_ => XS.icmpNo X.here hx rfl (hb hby dc2U_7) rfl (tlt (((own_lt (by omega) (by omega)).mpr hin) : (Int32.ofNat i) < (Int32.ofNat n))).2.1 (XS.aloadN X.here hx rfl (hb hby dc2U_10) rfl rfl  (XS.iloadN X.here hx rfl (hb hby dc2U_11) rfl  (own_caload X hx hZ e1 VA (i := i) (v := (.int (Int32.ofNat (ch i)))) (IL_at hin) rfl rfl rfl (hb hby dc2U_12) (XS.istore X.here hx rfl (hb hby dc2U_13) rfl (l' := #[rv arr, iv (Int32.ofNat i), rv dst, iv (Int32.ofNat i), iv (Int32.ofNat n), iv (Int32.ofNat i), iv (Int32.ofNat (ch i))]) (by rcases hs6 with rfl | ⟨w, rfl, hw_⟩ <;> first | rfl | (cases w <;> first | rfl | (simp [Value.category] at hw_))) (XS.iload X.here hx rfl (hb hby dc2U_15) rfl  (XS.sipush X.here hx rfl (hb hby dc2U_17) kk_)))))))
      obtain rfl : i = j := by omega
      refine Go.st (T' := T) (g' := (mkF m 25 #[rv arr, iv (Int32.ofNat i), rv dst, iv (Int32.ofNat i), iv (Int32.ofNat n), iv (Int32.ofNat i), iv (Int32.ofNat (ch i))] [(.int (Int32.ofNat i))])) ?_ (fun _ kk_ => XS.icmpNo X.here hx rfl (hb hby dc2U_20) rfl (tlt (((own_lt (i := 255) (by decide) (by omega)).mpr (by omega)) : (255 : Int32) < (Int32.ofNat (ch i)))).2.2.2 (XS.iload X.here hx rfl (hb hby dc2U_23) rfl  kk_))
      refine Go.retI X hx hlk hret (hb hby dc2U_25) (by decide) (by decide) ?_
      try rw [e1]
      exact ⟨rfl, NA, KA⟩
    | succ r ih =>
      intro i T h locs f s6 hi X e1 NA KA ZA VA VB hs6
      refine Go.st (T' := T) (g' := (mkF m 7 #[rv arr, iv (Int32.ofNat i), rv dst, iv (Int32.ofNat i), iv (Int32.ofNat n), iv (Int32.ofNat i), s6] [(.int (Int32.ofNat n)), (.int (Int32.ofNat i))])) ?_ (fun _ kk_ => XS.iload X.here hx rfl (hb hby dc2U_3) rfl  (XS.iload X.here hx rfl (hb hby dc2U_5) rfl  kk_))
      have hin : i < n := by omega
      have h16 := hc i hin
      refine Go.st (T' := T) (g' := (mkF m 20 #[rv arr, iv (Int32.ofNat i), rv dst, iv (Int32.ofNat i), iv (Int32.ofNat n), iv (Int32.ofNat i), iv (Int32.ofNat (ch i))] [(.int (255 : Int32)), (.int (Int32.ofNat (ch i)))])) ?_ (fun _ kk_ => XS.icmpNo X.here hx rfl (hb hby dc2U_7) rfl (tlt (((own_lt (by omega) (by omega)).mpr hin) : (Int32.ofNat i) < (Int32.ofNat n))).2.1 (XS.aloadN X.here hx rfl (hb hby dc2U_10) rfl rfl  (XS.iloadN X.here hx rfl (hb hby dc2U_11) rfl  (own_caload X hx hZ e1 VA (i := i) (v := (.int (Int32.ofNat (ch i)))) (IL_at hin) rfl rfl rfl (hb hby dc2U_12) (XS.istore X.here hx rfl (hb hby dc2U_13) rfl (l' := #[rv arr, iv (Int32.ofNat i), rv dst, iv (Int32.ofNat i), iv (Int32.ofNat n), iv (Int32.ofNat i), iv (Int32.ofNat (ch i))]) (by rcases hs6 with rfl | ⟨w, rfl, hw_⟩ <;> first | rfl | (cases w <;> first | rfl | (simp [Value.category] at hw_))) (XS.iload X.here hx rfl (hb hby dc2U_15) rfl  (XS.sipush X.here hx rfl (hb hby dc2U_17) kk_)))))))
      have hci := hlo i (by omega)
      refine Go.st (T' := T) (g' := (mkF m 31 #[rv arr, iv (Int32.ofNat i), rv dst, iv (Int32.ofNat i), iv (Int32.ofNat n), iv (Int32.ofNat i), iv (Int32.ofNat (ch i))] [(.int ((Int32.ofNat (ch i)).toInt8.toInt32)), (.int (Int32.ofNat i)), (.ref dst)])) ?_ (fun _ kk_ => XS.icmpYes X.here hx rfl (pc0 := 20) (pc' := 26) rfl (hb hby dc2U_20) rfl (flt ((fun z => by have := (own_lt (i := 255) (by decide) (by omega)).mp z; omega) : ¬ ((255 : Int32) < (Int32.ofNat (ch i))))).2.2.2 (by decide) (by decide) (XS.aloadN X.here hx rfl (hb hby dc2U_26) rfl rfl  (XS.iloadN X.here hx rfl (hb hby dc2U_27) rfl  (XS.iload X.here hx rfl (hb hby dc2U_28) rfl  (XS.i2b X.here hx rfl (hb hby dc2U_30) rfl kk_)))))
      refine Go.bastore X hx hZ e1 VB (i := i) (by rw [IL_len]; exact hin) rfl rfl rfl (hb hby dc2U_31) ?_
      intro T1 h1 X1 e1 W1 V1
      have N2 := Fr.snoc X1 NA g_d
      have K3 : Keep h0 h1 [dst] := KA.wr W1 (Or.inl (List.mem_of_getElem? (i := 0) rfl))
      have Z4 : n0 ≤ h1.size := by rw [W1.size]; exact ZA
      show Go p e below _ T1 (mkF m 32 #[rv arr, iv (Int32.ofNat i), rv dst, iv (Int32.ofNat i), iv (Int32.ofNat n), iv (Int32.ofNat i), iv (Int32.ofNat (ch i))] [])
      rw [IL_set hin] at V1
      refine Go.st (T' := T1) (g' := (mkF m 35 #[rv arr, iv ((Int32.ofNat i) + (1 : Int32)), rv dst, iv (Int32.ofNat i), iv (Int32.ofNat n), iv (Int32.ofNat i), iv (Int32.ofNat (ch i))] [])) ?_ (fun _ kk_ => XS.iinc X1.here hx rfl (hb hby dc2U_32) rfl (l' := #[rv arr, iv ((Int32.ofNat i) + (1 : Int32)), rv dst, iv (Int32.ofNat i), iv (Int32.ofNat n), iv (Int32.ofNat i), iv (Int32.ofNat (ch i))]) rfl kk_)
      refine Go.st (T' := T1) (g' := (mkF m 38 #[rv arr, iv ((Int32.ofNat i) + (1 : Int32)), rv dst, iv ((Int32.ofNat i) + (1 : Int32)), iv (Int32.ofNat n), iv (Int32.ofNat i), iv (Int32.ofNat (ch i))] [])) ?_ (fun _ kk_ => XS.iinc X1.here hx rfl (hb hby dc2U_35) rfl (l' := #[rv arr, iv ((Int32.ofNat i) + (1 : Int32)), rv dst, iv ((Int32.ofNat i) + (1 : Int32)), iv (Int32.ofNat n), iv (Int32.ofNat i), iv (Int32.ofNat (ch i))]) rfl kk_)
      refine Go.st (T' := T1) (g' := (mkF m 41 #[rv arr, iv ((Int32.ofNat i) + (1 : Int32)), rv dst, iv ((Int32.ofNat i) + (1 : Int32)), iv (Int32.ofNat n), iv ((Int32.ofNat i) + (1 : Int32)), iv (Int32.ofNat (ch i))] [])) ?_ (fun _ kk_ => XS.iinc X1.here hx rfl (hb hby dc2U_38) rfl (l' := #[rv arr, iv ((Int32.ofNat i) + (1 : Int32)), rv dst, iv ((Int32.ofNat i) + (1 : Int32)), iv (Int32.ofNat n), iv ((Int32.ofNat i) + (1 : Int32)), iv (Int32.ofNat (ch i))]) rfl kk_)
      have eI : Int32.ofNat i + (1 : Int32) = Int32.ofNat (i + 1) := own_add i 1
      rw [eI]
      show Go p e below _ T1 (mkF m 41 #[rv arr, iv (Int32.ofNat (i + 1)), rv dst, iv (Int32.ofNat (i + 1)), iv (Int32.ofNat n), iv (Int32.ofNat (i + 1)), iv (Int32.ofNat (ch i))] [])
      refine Go.st (T' := T1) (g' := (mkF m 3 #[rv arr, iv (Int32.ofNat (i + 1)), rv dst, iv (Int32.ofNat (i + 1)), iv (Int32.ofNat n), iv (Int32.ofNat (i + 1)), iv (Int32.ofNat (ch i))] [])) ?_ (fun _ kk_ => XS.goto X1.here hx rfl (pc0 := 41) (pc' := 3) rfl (hb hby dc2U_41) (by decide) (by decide) kk_)
      have f5 := (VA.other W1 ne_ad)
      exact ih (i + 1) T1 h1 _ _ _ (by omega) X1 e1 N2 K3 Z4 f5 V1 (One.val rfl)
  exact loop j 0 s₁ h0 [] _ _ (by omega) X0 e0 N0 (Keep.refl _ _) Z0 V_a V_d One.u
theorem dtob_0 : decode jdk_52_method_14_code 0 = .ok (.iload_n 2, 1) := by decide +kernel
theorem dtob_1 : decode jdk_52_method_14_code 1 = .ok (.invokestatic 107, 3) := by decide +kernel
theorem dtob_4 : decode jdk_52_method_14_code 4 = .ok (.astore_n 3, 1) := by decide +kernel
theorem dtob_5 : decode jdk_52_method_14_code 5 = .ok (.iconst 0, 1) := by decide +kernel
theorem dtob_6 : decode jdk_52_method_14_code 6 = .ok (.istore 4, 2) := by decide +kernel
theorem dtob_8 : decode jdk_52_method_14_code 8 = .ok (.iload 4, 2) := by decide +kernel
theorem dtob_10 : decode jdk_52_method_14_code 10 = .ok (.iload_n 2, 1) := by decide +kernel
theorem dtob_11 : decode jdk_52_method_14_code 11 = .ok (.if_icmp .ge 21, 3) := by decide +kernel
theorem dtob_14 : decode jdk_52_method_14_code 14 = .ok (.aload_n 3, 1) := by decide +kernel
theorem dtob_15 : decode jdk_52_method_14_code 15 = .ok (.iload 4, 2) := by decide +kernel
theorem dtob_17 : decode jdk_52_method_14_code 17 = .ok (.aload_n 0, 1) := by decide +kernel
theorem dtob_18 : decode jdk_52_method_14_code 18 = .ok (.iload_n 1, 1) := by decide +kernel
theorem dtob_19 : decode jdk_52_method_14_code 19 = .ok (.caload, 1) := by decide +kernel
theorem dtob_20 : decode jdk_52_method_14_code 20 = .ok (.invokestatic 111, 3) := by decide +kernel
theorem dtob_23 : decode jdk_52_method_14_code 23 = .ok (.iinc 1 1, 3) := by decide +kernel
theorem dtob_26 : decode jdk_52_method_14_code 26 = .ok (.iinc 4 1, 3) := by decide +kernel
theorem dtob_29 : decode jdk_52_method_14_code 29 = .ok (.goto (-21), 3) := by decide +kernel
theorem dtob_32 : decode jdk_52_method_14_code 32 = .ok (.aload_n 3, 1) := by decide +kernel
theorem dtob_33 : decode jdk_52_method_14_code 33 = .ok (.areturn, 1) := by decide +kernel
theorem pn_tob : plainFor (⟨"java/lang/StringUTF16", "toBytes", "([CII)[B"⟩ : MethodName) = true := by first | exact plainFor_of_name (by first | (simp [plainName, overriddenIn]; done) | decide +kernel) | decide +kernel
theorem ef_tob (m : MethodId) (x0 : Addr) (x1 : Int32) (x2 : Int32) : entryFrame m #[(.ref x0), (.int x1), (.int x2)] 5 = mkF m 0 #[rv x0, iv x1, iv x2, .unset, .unset] [] := by first | (simp [entryFrame, mkF, argsToLocals, Value.category]; done) | rfl
set_option maxRecDepth 65536 in
set_option maxHeartbeats 40000000 in
theorem rm_tob (l : Launch) (Z : State) (a0 : Array Value) (hw : ∀ d ∈ tables_1, d.before a0 Z = true) (ws : List Jvm.Cond) (arr : Addr) (n : Nat) (ch : Nat → Nat) (n0 : Nat) (h0 : Heap) (Z0 : n0 ≤ h0.size) (hn : n ≤ 21) (hc : ∀ q, q < n → ch q < 65536) (V_arr : Ary Z h0 arr .char (IL n (fun q => Int32.ofNat (ch q)))) (O0 : Old Z n0 h0) (Sa : Sta Z Z.heap "java/lang/StringUTF16" "$assertionsDisabled" "Z" (.int (1 : Int32))) (Sh : Sta Z Z.heap "java/lang/StringUTF16" "HI_BYTE_SHIFT" "I" (.int (0 : Int32))) (Sl : Sta Z Z.heap "java/lang/StringUTF16" "LO_BYTE_SHIFT" "I" (.int (8 : Int32))) :
    Mt l Z (⟨"java/lang/StringUTF16", "toBytes", "([CII)[B"⟩ : MethodName) jdk_52_method_14_code 5 (some (.array .byte)) ws ({ frames := 2, cells := 1, slots := 42, locals := 24 } : Room) #[(.ref arr), (.int (0 : Int32)), (.int (Int32.ofNat n))] h0 (fun v h L => ∃ t, v = some (.ref t) ∧ Fr n0 L ∧ Keep h0 h [] ∧ h0.size ≤ t ∧ Ary Z h t .byte (IL (2 * n) (u2 ch))) := by
  refine Mt.body pn_tob ?_
  intro p e s m below meth c s₁ hx hby hml hown hnm hret hlk hZ X0 e0
  refine Go.cast (g' := (mkF m 0 #[rv arr, iv (0 : Int32), iv (Int32.ofNat n), .unset, .unset] [])) (ef_tob m arr (0 : Int32) (Int32.ofNat n)) ?_
  have N0 := Fr.nil n0
  have K0 := Keep.refl h0 ([] : List Addr)
  refine Go.st (T' := s₁) (g' := (mkF m 1 #[rv arr, iv (0 : Int32), iv (Int32.ofNat n), .unset, .unset] [(.int (Int32.ofNat n))])) ?_ (fun _ kk_ => XS.iloadN X0.here hx rfl (hb hby dtob_0) rfl  kk_)
  refine Go.callS (y := (⟨"java/lang/StringUTF16", "newBytesFor", "(I)[B"⟩ : MethodName)) X0 hx hZ hown (hw _ (List.mem_of_getElem? (i := 125) rfl)) (hw _ (List.mem_of_getElem? (i := 126) rfl)) (hw _ (List.mem_of_getElem? (i := 42) rfl)) (hw _ (List.mem_of_getElem? (i := 127) rfl)) (by decide) 0 (rm_nbf l Z a0 hw [] n n0 h0 Z0 hn) e0 (by decide) (by decide) (by decide) (by decide) (argsL := [(.int (Int32.ofNat n))]) (rest := []) rfl (by rw [hml]; rfl) (lenOf pd__28I_29_5bB rfl) rfl rfl (by show 2 * 0 + _ ≤ _; exact Nat.le_of_eq rfl) (hb hby dtob_1) ?_
  rintro _ T1 L1 X1 ⟨t, rfl, N1, K1, tz, V1⟩
  have N2 := Fr.app N0 N1
  have O3 := O0.keep K1 all0
  have Z4 : n0 ≤ T1.heap.size := Nat.le_trans Z0 K1.1
  have K5 : Keep h0 T1.heap ([] : List Addr) := K0.trans K1 all0
  show Go p e below _ T1 (mkF m 4 #[rv arr, iv (0 : Int32), iv (Int32.ofNat n), .unset, .unset] [(.ref t)])
  have ne_arr_t : arr ≠ t := Nat.ne_of_lt (Nat.lt_of_lt_of_le V_arr.lt tz)
  have g_t : n0 ≤ t := Nat.le_trans Z0 tz
  refine Go.st (T' := T1) (g' := (mkF m 8 #[rv arr, iv (0 : Int32), iv (Int32.ofNat n), rv t, iv (0 : Int32)] [])) ?_ (fun _ kk_ => XS.astoreN X1.here hx rfl (hb hby dtob_4) rfl rfl (l' := #[rv arr, iv (0 : Int32), iv (Int32.ofNat n), rv t, .unset]) rfl (XS.iconst X1.here hx rfl (hb hby dtob_5) (XS.istore X1.here hx rfl (hb hby dtob_6) rfl (l' := #[rv arr, iv (0 : Int32), iv (Int32.ofNat n), rv t, iv (0 : Int32)]) rfl kk_)))
  have f6 := (V_arr.keep K1 nin0)
  have loop : ∀ (r i : Nat) (T : State) (h : Heap) (locs : List Loc), i + r = n → Stand p l e ({ frames := 2, cells := 1, slots := 42, locals := 24 } : Room) s m #[.ref arr, .int (0 : Int32), .int (Int32.ofNat n)] below meth c T locs 1 42 → T.heap = h → Fr n0 locs → Old Z n0 h → Keep h0 h [] → n0 ≤ h.size → Ary Z h arr .char (IL n (fun q => Int32.ofNat (ch q))) → Ary Z h t .byte (IL (2 * n) (fun q => if q < 2 * i then u2 ch q else 0)) → Go p e below (Wf s 1 42 (fun v h L => ∃ t, v = some (.ref t) ∧ Fr n0 L ∧ Keep h0 h [] ∧ h0.size ≤ t ∧ Ary Z h t .byte (IL (2 * n) (u2 ch)))) T (mkF m 8 #[rv arr, iv (Int32.ofNat i), iv (Int32.ofNat n), rv t, iv (Int32.ofNat i)] []) := by
    intro r
    induction r with
    | zero =>
      intro i T h locs hi X e1 NA OA KA ZA VA VB
      refine Go.st (T' := T) (g' := (mkF m 33 #[rv arr, iv (Int32.ofNat i), iv (Int32.ofNat n), rv t, iv (Int32.ofNat i)] [(.ref t)])) ?_ (fun _ kk_ => XS.iload X.here hx rfl (hb hby dtob_8) rfl  (XS.iloadN X.here hx rfl (hb hby dtob_10) rfl  (XS.icmpYes X.here hx rfl (pc0 := 11) (pc' := 32) rfl (hb hby dtob_11) rfl (flt ((fun z => by have := (own_lt (by omega) (by omega)).mp z; omega) : ¬ ((Int32.ofNat i) < (Int32.ofNat n)))).2.1 (by decide) (by decide) (XS.aloadN X.here hx rfl (hb hby dtob_32) rfl rfl  kk_))))
      refine Go.retA X hx hlk hret rfl rfl (hb hby dtob_33) (by decide) (by decide) ?_
      try rw [e1]
      exact ⟨t, rfl, NA, KA, tz, IL_congr (n := 2 * n) (f := (fun q => if q < 2 * i then u2 ch q else 0)) (f' := u2 ch) (fun q hq => if_pos (by omega)) ▸ VB⟩
    | succ r ih =>
      intro i T h locs hi X e1 NA OA KA ZA VA VB
      refine Go.st (T' := T) (g' := (mkF m 11 #[rv arr, iv (Int32.ofNat i), iv (Int32.ofNat n), rv t, iv (Int32.ofNat i)] [(.int (Int32.ofNat n)), (.int (Int32.ofNat i))])) ?_ (fun _ kk_ => XS.iload X.here hx rfl (hb hby dtob_8) rfl  (XS.iloadN X.here hx rfl (hb hby dtob_10) rfl  kk_))
      have hin : i < n := by omega
      refine Go.st (T' := T) (g' := (mkF m 20 #[rv arr, iv (Int32.ofNat i), iv (Int32.ofNat n), rv t, iv (Int32.ofNat i)] [(.int (Int32.ofNat (ch i))), (.int (Int32.ofNat i)), (.ref t)])) ?_ (fun _ kk_ => XS.icmpNo X.here hx rfl (hb hby dtob_11) rfl (tlt (((own_lt (by omega) (by omega)).mpr hin) : (Int32.ofNat i) < (Int32.ofNat n))).2.1 (XS.aloadN X.here hx rfl (hb hby dtob_14) rfl rfl  (XS.iload X.here hx rfl (hb hby dtob_15) rfl  (XS.aloadN X.here hx rfl (hb hby dtob_17) rfl rfl  (XS.iloadN X.here hx rfl (hb hby dtob_18) rfl  (own_caload X hx hZ e1 VA (i := i) (v := (.int (Int32.ofNat (ch i)))) (IL_at hin) rfl rfl rfl (hb hby dtob_19) kk_))))))
      refine Go.callS (y := (⟨"java/lang/StringUTF16", "putChar", "([BII)V"⟩ : MethodName)) X hx hZ hown (hw _ (List.mem_of_getElem? (i := 132) rfl)) (hw _ (List.mem_of_getElem? (i := 133) rfl)) (hw _ (List.mem_of_getElem? (i := 42) rfl)) (hw _ (List.mem_of_getElem? (i := 134) rfl)) (by decide) 0 (rm_puc l Z a0 hw [] t i n (ch i) (fun q => if q < 2 * i then u2 ch q else 0) n0 h ZA hin hn (hc i hin) VB g_t OA Sa Sh Sl) e1 (by decide) (by decide) (by decide) (by decide) (argsL := [(.ref t), (.int (Int32.ofNat i)), (.int (Int32.ofNat (ch i)))]) (rest := []) rfl (by rw [hml]; rfl) (lenOf pd__28_5bBII_29V rfl) rfl rfl (by show 2 * 0 + _ ≤ _; exact Nat.le_of_eq rfl) (hb hby dtob_20) ?_
      rintro _ T7 L7 X7 ⟨rfl, N7, K7, V7⟩
      have N8 := Fr.app NA N7
      have O9 := OA.keep K7 (allS (P := fun z_ => n0 ≤ z_) g_t all0)
      have Z10 : n0 ≤ T7.heap.size := Nat.le_trans ZA K7.1
      have K11 : Keep h0 T7.heap ([] : List Addr) := KA.trans K7 (allS (P := fun z_ => z_ ∈ ([] : List Addr) ∨ h0.size ≤ z_) (Or.inr tz) all0)
      show Go p e below _ T7 (mkF m 23 #[rv arr, iv (Int32.ofNat i), iv (Int32.ofNat n), rv t, iv (Int32.ofNat i)] [])
      refine Go.st (T' := T7) (g' := (mkF m 26 #[rv arr, iv ((Int32.ofNat i) + (1 : Int32)), iv (Int32.ofNat n), rv t, iv (Int32.ofNat i)] [])) ?_ (fun _ kk_ => XS.iinc X7.here hx rfl (hb hby dtob_23) rfl (l' := #[rv arr, iv ((Int32.ofNat i) + (1 : Int32)), iv (Int32.ofNat n), rv t, iv (Int32.ofNat i)]) rfl kk_)
      refine Go.st (T' := T7) (g' := (mkF m 29 #[rv arr, iv ((Int32.ofNat i) + (1 : Int32)), iv (Int32.ofNat n), rv t, iv ((Int32.ofNat i) + (1 : Int32))] [])) ?_ (fun _ kk_ => XS.iinc X7.here hx rfl (hb hby dtob_26) rfl (l' := #[rv arr, iv ((Int32.ofNat i) + (1 : Int32)), iv (Int32.ofNat n), rv t, iv ((Int32.ofNat i) + (1 : Int32))]) rfl kk_)
      have eI : Int32.ofNat i + (1 : Int32) = Int32.ofNat (i + 1) := own_add i 1
      rw [eI]
      show Go p e below _ T7 (mkF m 29 #[rv arr, iv (Int32.ofNat (i + 1)), iv (Int32.ofNat n), rv t, iv (Int32.ofNat (i + 1))] [])
      refine Go.st (T' := T7) (g' := (mkF m 8 #[rv arr, iv (Int32.ofNat (i + 1)), iv (Int32.ofNat n), rv t, iv (Int32.ofNat (i + 1))] [])) ?_ (fun _ kk_ => XS.goto X7.here hx rfl (pc0 := 29) (pc' := 8) rfl (hb hby dtob_29) (by decide) (by decide) kk_)
      have f12 := (VA.keep K7 (ninS ne_arr_t nin0))
      exact ih (i + 1) T7 T7.heap _ (by omega) X7 rfl N8 O9 K11 Z10 f12 (IL_congr (f := fun q => if q = 2 * i + 1 then bI (ch i / 256) else if q = 2 * i then bI (ch i) else if q < 2 * i then u2 ch q else 0) (f' := fun q => if q < 2 * (i + 1) then u2 ch q else 0) (fun q hq => own_fill16 ch i q) ▸ V7)
  exact loop n 0 T1 _ _ (by omega) X1 rfl N2 O3 K5 Z4 f6 (IL_congr (f := fun _ => 0) (f' := fun q => if q < 2 * 0 then u2 ch q else 0) (fun q hq => (if_neg (by omega)).symm) ▸ V1)
theorem dc1U_0 : decode jdk_52_method_16_code 0 = .ok (.iload_n 2, 1) := by decide +kernel
theorem dc1U_1 : decode jdk_52_method_16_code 1 = .ok (.newarray .byte, 2) := by decide +kernel
theorem dc1U_3 : decode jdk_52_method_16_code 3 = .ok (.astore_n 3, 1) := by decide +kernel
theorem dc1U_4 : decode jdk_52_method_16_code 4 = .ok (.aload_n 0, 1) := by decide +kernel
theorem dc1U_5 : decode jdk_52_method_16_code 5 = .ok (.iload_n 1, 1) := by decide +kernel
theorem dc1U_6 : decode jdk_52_method_16_code 6 = .ok (.aload_n 3, 1) := by decide +kernel
theorem dc1U_7 : decode jdk_52_method_16_code 7 = .ok (.iconst 0, 1) := by decide +kernel
theorem dc1U_8 : decode jdk_52_method_16_code 8 = .ok (.iload_n 2, 1) := by decide +kernel
theorem dc1U_9 : decode jdk_52_method_16_code 9 = .ok (.invokestatic 115, 3) := by decide +kernel
theorem dc1U_12 : decode jdk_52_method_16_code 12 = .ok (.istore 4, 2) := by decide +kernel
theorem dc1U_14 : decode jdk_52_method_16_code 14 = .ok (.iload 4, 2) := by decide +kernel
theorem dc1U_16 : decode jdk_52_method_16_code 16 = .ok (.iload_n 2, 1) := by decide +kernel
theorem dc1U_17 : decode jdk_52_method_16_code 17 = .ok (.if_icmp .eq 40, 3) := by decide +kernel
theorem dc1U_20 : decode jdk_52_method_16_code 20 = .ok (.aload_n 0, 1) := by decide +kernel
theorem dc1U_21 : decode jdk_52_method_16_code 21 = .ok (.iload_n 1, 1) := by decide +kernel
theorem dc1U_22 : decode jdk_52_method_16_code 22 = .ok (.iload_n 2, 1) := by decide +kernel
theorem dc1U_23 : decode jdk_52_method_16_code 23 = .ok (.invokestatic 119, 3) := by decide +kernel
theorem dc1U_26 : decode jdk_52_method_16_code 26 = .ok (.astore 5, 2) := by decide +kernel
theorem dc1U_28 : decode jdk_52_method_16_code 28 = .ok (.aload 5, 2) := by decide +kernel
theorem dc1U_30 : decode jdk_52_method_16_code 30 = .ok (.iload 4, 2) := by decide +kernel
theorem dc1U_32 : decode jdk_52_method_16_code 32 = .ok (.invokestatic 71, 3) := by decide +kernel
theorem dc1U_35 : decode jdk_52_method_16_code 35 = .ok (.sipush 255, 3) := by decide +kernel
theorem dc1U_38 : decode jdk_52_method_16_code 38 = .ok (.if_icmp .gt 16, 3) := by decide +kernel
theorem dc1U_54 : decode jdk_52_method_16_code 54 = .ok (.aload 5, 2) := by decide +kernel
theorem dc1U_56 : decode jdk_52_method_16_code 56 = .ok (.areturn, 1) := by decide +kernel
theorem pn_c1U : plainFor (⟨"java/lang/StringUTF16", "compress", "([CII)[B"⟩ : MethodName) = true := by first | exact plainFor_of_name (by first | (simp [plainName, overriddenIn]; done) | decide +kernel) | decide +kernel
theorem ef_c1U (m : MethodId) (x0 : Addr) (x1 : Int32) (x2 : Int32) : entryFrame m #[(.ref x0), (.int x1), (.int x2)] 6 = mkF m 0 #[rv x0, iv x1, iv x2, .unset, .unset, .unset] [] := by first | (simp [entryFrame, mkF, argsToLocals, Value.category]; done) | rfl
set_option maxRecDepth 65536 in
set_option maxHeartbeats 40000000 in
theorem rm_c1U (l : Launch) (Z : State) (a0 : Array Value) (hw : ∀ d ∈ tables_1, d.before a0 Z = true) (ws : List Jvm.Cond) (arr : Addr) (n j : Nat) (ch : Nat → Nat) (n0 : Nat) (h0 : Heap) (Z0 : n0 ≤ h0.size) (hn : n ≤ 21) (hj : j < n) (hlo : ∀ q, q < j → ch q < 256) (hhi : 256 ≤ ch j) (hc : ∀ q, q < n → ch q < 65536) (V_arr : Ary Z h0 arr .char (IL n (fun q => Int32.ofNat (ch q)))) (O0 : Old Z n0 h0) (Sa : Sta Z Z.heap "java/lang/StringUTF16" "$assertionsDisabled" "Z" (.int (1 : Int32))) (Sh : Sta Z Z.heap "java/lang/StringUTF16" "HI_BYTE_SHIFT" "I" (.int (0 : Int32))) (Sl : Sta Z Z.heap "java/lang/StringUTF16" "LO_BYTE_SHIFT" "I" (.int (8 : Int32))) :
    Mt l Z (⟨"java/lang/StringUTF16", "compress", "([CII)[B"⟩ : MethodName) jdk_52_method_16_code 6 (some (.array .byte)) ws ({ frames := 3, cells := 2, slots := 63, locals := 40 } : Room) #[(.ref arr), (.int (0 : Int32)), (.int (Int32.ofNat n))] h0 (fun v h L => ∃ t, v = some (.ref t) ∧ Fr n0 L ∧ Keep h0 h [] ∧ h0.size ≤ t ∧ Ary Z h t .byte (IL (2 * n) (u2 ch))) := by
  refine Mt.body pn_c1U ?_
  intro p e s m below meth c s₁ hx hby hml hown hnm hret hlk hZ X0 e0
  refine Go.cast (g' := (mkF m 0 #[rv arr, iv (0 : Int32), iv (Int32.ofNat n), .unset, .unset, .unset] [])) (ef_c1U m arr (0 : Int32) (Int32.ofNat n)) ?_
  have N0 := Fr.nil n0
  have K0 := Keep.refl h0 ([] : List Addr)
  refine Go.st (T' := s₁) (g' := (mkF m 1 #[rv arr, iv (0 : Int32), iv (Int32.ofNat n), .unset, .unset, .unset] [(.int (Int32.ofNat n))])) ?_ (fun _ kk_ => XS.iloadN X0.here hx rfl (hb hby dc1U_0) rfl  kk_)
  refine Go.newP X0 hx hZ (aty := .byte) (hw _ (List.mem_of_getElem? (i := 44) rfl)) e0 rfl (hb hby dc1U_1) (n := n) rfl rfl 21 hn (by decide) (by decide) (by decide) ?_
  intro T1 h1 b1 X1 e1 E1 g1 V1
  have ne_arr_b1 : arr ≠ b1 := Nat.ne_of_lt (Nat.lt_of_lt_of_eq (V_arr).lt g1.symm)
  have g_b1 : n0 ≤ b1 := Nat.le_trans Z0 (Nat.le_of_eq g1.symm)
  have sz_b1 : h0.size ≤ b1 := Nat.le_trans K0.1 (Nat.le_of_eq g1.symm)
  have O2 := O0.ext E1
  have Z3 : n0 ≤ h1.size := Nat.le_trans Z0 E1.1
  have K4 : Keep h0 h1 ([] : List Addr) := K0.ext E1
  change Ary Z h1 b1 .byte (List.replicate n (.int 0)) at V1
  show Go p e below _ T1 (mkF m 3 #[rv arr, iv (0 : Int32), iv (Int32.ofNat n), .unset, .unset, .unset] [(.ref b1)])
  rw [IL_rep] at V1
  refine Go.st (T' := T1) (g' := (mkF m 9 #[rv arr, iv (0 : Int32), iv (Int32.ofNat n), rv b1, .unset, .unset] [(.int (Int32.ofNat n)), (.int (0 : Int32)), (.ref b1), (.int (0 : Int32)), (.ref arr)])) ?_ (fun _ kk_ => XS.astoreN X1.here hx rfl (hb hby dc1U_3) rfl rfl (l' := #[rv arr, iv (0 : Int32), iv (Int32.ofNat n), rv b1, .unset, .unset]) rfl (XS.aloadN X1.here hx rfl (hb hby dc1U_4) rfl rfl  (XS.iloadN X1.here hx rfl (hb hby dc1U_5) rfl  (XS.aloadN X1.here hx rfl (hb hby dc1U_6) rfl rfl  (XS.iconst X1.here hx rfl (hb hby dc1U_7) (XS.iloadN X1.here hx rfl (hb hby dc1U_8) rfl  kk_))))))
  have f5 := (V_arr.ext E1)
  refine Go.callS (y := (⟨"java/lang/StringUTF16", "compress", "([CI[BII)I"⟩ : MethodName)) X1 hx hZ hown (hw _ (List.mem_of_getElem? (i := 45) rfl)) (hw _ (List.mem_of_getElem? (i := 46) rfl)) (hw _ (List.mem_of_getElem? (i := 42) rfl)) (hw _ (List.mem_of_getElem? (i := 47) rfl)) (by decide) 0 (rm_c2U l Z a0 hw [] arr b1 n j ch n0 h1 Z3 hn hj hlo hhi hc f5 V1 g_b1 ne_arr_b1) e1 (by decide) (by decide) (by decide) (by decide) (argsL := [(.ref arr), (.int (0 : Int32)), (.ref b1), (.int (0 : Int32)), (.int (Int32.ofNat n))]) (rest := []) rfl (by rw [hml]; rfl) (lenOf pd__28_5bCI_5bBII_29I rfl) rfl rfl (by show 2 * 0 + _ ≤ _; exact Nat.le_of_eq rfl) (hb hby dc1U_9) ?_
  rintro _ T6 L6 X6 ⟨rfl, N6, K6⟩
  have N7 := Fr.app N0 N6
  have O8 := O2.keep K6 (allS (P := fun z_ => n0 ≤ z_) g_b1 all0)
  have Z9 : n0 ≤ T6.heap.size := Nat.le_trans Z3 K6.1
  have K10 : Keep h0 T6.heap ([] : List Addr) := K4.trans K6 (allS (P := fun z_ => z_ ∈ ([] : List Addr) ∨ h0.size ≤ z_) (Or.inr sz_b1) all0)
  show Go p e below _ T6 (mkF m 12 #[rv arr, iv (0 : Int32), iv (Int32.ofNat n), rv b1, .unset, .unset] [(.int (Int32.ofNat j))])
  refine Go.st (T' := T6) (g' := (mkF m 23 #[rv arr, iv (0 : Int32), iv (Int32.ofNat n), rv b1, iv (Int32.ofNat j), .unset] [(.int (Int32.ofNat n)), (.int (0 : Int32)), (.ref arr)])) ?_ (fun _ kk_ => XS.istore X6.here hx rfl (hb hby dc1U_12) rfl (l' := #[rv arr, iv (0 : Int32), iv (Int32.ofNat n), rv b1, iv (Int32.ofNat j), .unset]) rfl (XS.iload X6.here hx rfl (hb hby dc1U_14) rfl  (XS.iloadN X6.here hx rfl (hb hby dc1U_16) rfl  (XS.icmpNo X6.here hx rfl (hb hby dc1U_17) rfl (feq ((fun z => by have := (own_eq (by omega) (by omega)).mp z; omega) : ¬ ((Int32.ofNat j) = (Int32.ofNat n)))).1 (XS.aloadN X6.here hx rfl (hb hby dc1U_20) rfl rfl  (XS.iloadN X6.here hx rfl (hb hby dc1U_21) rfl  (XS.iloadN X6.here hx rfl (hb hby dc1U_22) rfl  kk_)))))))
  have f11 := (f5.keep K6 (ninS ne_arr_b1 nin0))
  refine Go.callS (y := (⟨"java/lang/StringUTF16", "toBytes", "([CII)[B"⟩ : MethodName)) X6 hx hZ hown (hw _ (List.mem_of_getElem? (i := 122) rfl)) (hw _ (List.mem_of_getElem? (i := 123) rfl)) (hw _ (List.mem_of_getElem? (i := 42) rfl)) (hw _ (List.mem_of_getElem? (i := 124) rfl)) (by decide) 0 (rm_tob l Z a0 hw [] arr n ch n0 T6.heap Z9 hn hc f11 O8 Sa Sh Sl) rfl (by decide) (by decide) (by decide) (by decide) (argsL := [(.ref arr), (.int (0 : Int32)), (.int (Int32.ofNat n))]) (rest := []) rfl (by rw [hml]; rfl) (lenOf pd__28_5bCII_29_5bB rfl) rfl rfl (by show 2 * 0 + _ ≤ _; exact Nat.le_of_eq rfl) (hb hby dc1U_23) ?_
  rintro _ T12 L12 X12 ⟨t, rfl, N12, K12, tz, V12⟩
  have N13 := Fr.app N7 N12
  have O14 := O8.keep K12 all0
  have Z15 : n0 ≤ T12.heap.size := Nat.le_trans Z9 K12.1
  have K16 : Keep h0 T12.heap ([] : List Addr) := K10.trans K12 all0
  show Go p e below _ T12 (mkF m 26 #[rv arr, iv (0 : Int32), iv (Int32.ofNat n), rv b1, iv (Int32.ofNat j), .unset] [(.ref t)])
  have sz_t : h0.size ≤ t := Nat.le_trans K10.1 tz
  refine Go.st (T' := T12) (g' := (mkF m 32 #[rv arr, iv (0 : Int32), iv (Int32.ofNat n), rv b1, iv (Int32.ofNat j), rv t] [(.int (Int32.ofNat j)), (.ref t)])) ?_ (fun _ kk_ => XS.astore X12.here hx rfl (hb hby dc1U_26) rfl rfl (l' := #[rv arr, iv (0 : Int32), iv (Int32.ofNat n), rv b1, iv (Int32.ofNat j), rv t]) rfl (XS.aload X12.here hx rfl (hb hby dc1U_28) rfl rfl  (XS.iload X12.here hx rfl (hb hby dc1U_30) rfl  kk_)))
  refine Go.callS (y := (⟨"java/lang/StringUTF16", "getChar", "([BI)C"⟩ : MethodName)) X12 hx hZ hown (hw _ (List.mem_of_getElem? (i := 138) rfl)) (hw _ (List.mem_of_getElem? (i := 139) rfl)) (hw _ (List.mem_of_getElem? (i := 42) rfl)) (hw _ (List.mem_of_getElem? (i := 140) rfl)) (by decide) 0 (rm_gec l Z a0 hw [] t j n ch n0 T12.heap hj hn hc V12 O14 Sa Sh Sl) rfl (by decide) (by decide) (by decide) (by decide) (argsL := [(.ref t), (.int (Int32.ofNat j))]) (rest := []) rfl (by rw [hml]; rfl) (lenOf pd__28_5bBI_29C rfl) rfl rfl (by show 2 * 0 + _ ≤ _; exact Nat.le_of_eq rfl) (hb hby dc1U_32) ?_
  rintro _ T17 L17 X17 ⟨rfl, e17, rfl⟩
  have N18 := Fr.app N13 (Fr.nil _)
  show Go p e below _ T17 (mkF m 35 #[rv arr, iv (0 : Int32), iv (Int32.ofNat n), rv b1, iv (Int32.ofNat j), rv t] [(.int (Int32.ofNat (ch j)))])
  refine Go.st (T' := T17) (g' := (mkF m 38 #[rv arr, iv (0 : Int32), iv (Int32.ofNat n), rv b1, iv (Int32.ofNat j), rv t] [(.int (255 : Int32)), (.int (Int32.ofNat (ch j)))])) ?_ (fun _ kk_ => XS.sipush X17.here hx rfl (hb hby dc1U_35) kk_)
  have h16 := hc j hj
  refine Go.st (T' := T17) (g' := (mkF m 56 #[rv arr, iv (0 : Int32), iv (Int32.ofNat n), rv b1, iv (Int32.ofNat j), rv t] [(.ref t)])) ?_ (fun _ kk_ => XS.icmpYes X17.here hx rfl (pc0 := 38) (pc' := 54) rfl (hb hby dc1U_38) rfl (tlt (((own_lt (i := 255) (by decide) (by omega)).mpr (by omega)) : (255 : Int32) < (Int32.ofNat (ch j)))).2.2.1 (by decide) (by decide) (XS.aload X17.here hx rfl (hb hby dc1U_54) rfl rfl  kk_))
  refine Go.retA X17 hx hlk hret rfl rfl (hb hby dc1U_56) (by decide) (by decide) ?_
  try rw [e17]
  exact ⟨t, rfl, N18, K16, sz_t, V12⟩
theorem dcaU_0 : decode jdk_52_method_15_code 0 = .ok (.iload_n 1, 1) := by decide +kernel
theorem dcaU_1 : decode jdk_52_method_15_code 1 = .ok (.aload_n 0, 1) := by decide +kernel
theorem dcaU_2 : decode jdk_52_method_15_code 2 = .ok (.arraylength, 1) := by decide +kernel
theorem dcaU_3 : decode jdk_52_method_15_code 3 = .ok (.isub, 1) := by decide +kernel
theorem dcaU_4 : decode jdk_52_method_15_code 4 = .ok (.bipush 31, 2) := by decide +kernel
theorem dcaU_6 : decode jdk_52_method_15_code 6 = .ok (.iushr, 1) := by decide +kernel
theorem dcaU_7 : decode jdk_52_method_15_code 7 = .ok (.i2b, 1) := by decide +kernel
theorem dcaU_8 : decode jdk_52_method_15_code 8 = .ok (.ireturn, 1) := by decide +kernel
theorem pn_caU : plainFor (⟨"java/lang/StringUTF16", "coderFromArrayLen", "([BI)B"⟩ : MethodName) = true := by first | exact plainFor_of_name (by first | (simp [plainName, overriddenIn]; done) | decide +kernel) | decide +kernel
theorem ef_caU (m : MethodId) (x0 : Addr) (x1 : Int32) : entryFrame m #[(.ref x0), (.int x1)] 2 = mkF m 0 #[rv x0, iv x1] [] := by first | (simp [entryFrame, mkF, argsToLocals, Value.category]; done) | rfl
set_option maxRecDepth 65536 in
set_option maxHeartbeats 40000000 in
theorem rm_caU (l : Launch) (Z : State) (a0 : Array Value) (hw : ∀ d ∈ tables_1, d.before a0 Z = true) (ws : List Jvm.Cond) (t : Addr) (n : Nat) (f : Nat → Int32) (h0 : Heap) (hn1 : 1 ≤ n) (hn : n ≤ 21) (V_t : Ary Z h0 t .byte (IL (2 * n) f)) :
    Mt l Z (⟨"java/lang/StringUTF16", "coderFromArrayLen", "([BI)B"⟩ : MethodName) jdk_52_method_15_code 2 (some .byte) ws ({ frames := 0, cells := 0, slots := 0, locals := 0 } : Room) #[(.ref t), (.int (Int32.ofNat n))] h0 (fun v h L => v = some (.int (1 : Int32)) ∧ h = h0 ∧ L = []) := by
  refine Mt.body pn_caU ?_
  intro p e s m below meth c s₁ hx hby hml hown hnm hret hlk hZ X0 e0
  refine Go.cast (g' := (mkF m 0 #[rv t, iv (Int32.ofNat n)] [])) (ef_caU m t (Int32.ofNat n)) ?_
  have N0 := Fr.nil 0
  refine Go.st (T' := s₁) (g' := (mkF m 8 #[rv t, iv (Int32.ofNat n)] [(.int (((((Int32.ofNat n) - (Int32.ofNat (2 * n))).toUInt32 >>> ((31 : Int32) &&& 31).toUInt32).toInt32).toInt8.toInt32))])) ?_ (fun _ kk_ => XS.iloadN X0.here hx rfl (hb hby dcaU_0) rfl  (XS.aloadN X0.here hx rfl (hb hby dcaU_1) rfl rfl  (own_alen X0 hx hZ e0 V_t (IL_len _ _) rfl rfl (hb hby dcaU_2) (XS.isub X0.here hx rfl (hb hby dcaU_3) rfl (XS.bipush X0.here hx rfl (hb hby dcaU_4) (XS.iushr X0.here hx rfl (hb hby dcaU_6) rfl (XS.i2b X0.here hx rfl (hb hby dcaU_7) rfl kk_)))))))
  rw [own_neg31 hn1 (by omega)]
  show Go p e below _ s₁ (mkF m 8 #[rv t, iv (Int32.ofNat n)] [(.int (1 : Int32))])
  refine Go.retN X0 hx hlk (t := .byte) hret (by simp) (z' := (1 : Int32)) rfl (hb hby dcaU_8) (by decide) (by decide) ?_
  try rw [e0]
  exact ⟨rfl, rfl, rfl⟩
theorem diVU_0 : decode jdk_42_method_149_code 0 = .ok (.aload_n 0, 1) := by decide +kernel
theorem diVU_1 : decode jdk_42_method_149_code 1 = .ok (.invokespecial 1, 3) := by decide +kernel
theorem diVU_4 : decode jdk_42_method_149_code 4 = .ok (.iload_n 3, 1) := by decide +kernel
theorem diVU_5 : decode jdk_42_method_149_code 5 = .ok (.ifCond .ne 22, 3) := by decide +kernel
theorem diVU_27 : decode jdk_42_method_149_code 27 = .ok (.getstatic 38, 3) := by decide +kernel
theorem diVU_30 : decode jdk_42_method_149_code 30 = .ok (.ifCond .eq 28, 3) := by decide +kernel
theorem diVU_33 : decode jdk_42_method_149_code 33 = .ok (.aload_n 1, 1) := by decide +kernel
theorem diVU_34 : decode jdk_42_method_149_code 34 = .ok (.iload_n 2, 1) := by decide +kernel
theorem diVU_35 : decode jdk_42_method_149_code 35 = .ok (.iload_n 3, 1) := by decide +kernel
theorem diVU_36 : decode jdk_42_method_149_code 36 = .ok (.invokestatic 177, 3) := by decide +kernel
theorem diVU_39 : decode jdk_42_method_149_code 39 = .ok (.astore 5, 2) := by decide +kernel
theorem diVU_41 : decode jdk_42_method_149_code 41 = .ok (.aload_n 0, 1) := by decide +kernel
theorem diVU_42 : decode jdk_42_method_149_code 42 = .ok (.aload 5, 2) := by decide +kernel
theorem diVU_44 : decode jdk_42_method_149_code 44 = .ok (.iload_n 3, 1) := by decide +kernel
theorem diVU_45 : decode jdk_42_method_149_code 45 = .ok (.invokestatic 47, 3) := by decide +kernel
theorem diVU_48 : decode jdk_42_method_149_code 48 = .ok (.putfield 15, 3) := by decide +kernel
theorem diVU_51 : decode jdk_42_method_149_code 51 = .ok (.aload_n 0, 1) := by decide +kernel
theorem diVU_52 : decode jdk_42_method_149_code 52 = .ok (.aload 5, 2) := by decide +kernel
theorem diVU_54 : decode jdk_42_method_149_code 54 = .ok (.putfield 9, 3) := by decide +kernel
theorem diVU_57 : decode jdk_42_method_149_code 57 = .ok (.return_, 1) := by decide +kernel
theorem pn_iVU : plainFor (⟨"java/lang/String", "<init>", "([CIILjava/lang/Void;)V"⟩ : MethodName) = true := by first | exact plainFor_of_name (by first | (simp [plainName, overriddenIn]; done) | decide +kernel) | decide +kernel
theorem ef_iVU (m : MethodId) (x0 : Addr) (x1 : Addr) (x2 : Int32) (x3 : Int32) : entryFrame m #[(.ref x0), (.ref x1), (.int x2), (.int x3), .null] 6 = mkF m 0 #[rv x0, rv x1, iv x2, iv x3, .val .null, .unset] [] := by first | (simp [entryFrame, mkF, argsToLocals, Value.category]; done) | rfl
set_option maxRecDepth 65536 in
set_option maxHeartbeats 40000000 in
theorem rm_iVU (l : Launch) (Z : State) (a0 : Array Value) (hw : ∀ d ∈ tables_1, d.before a0 Z = true) (ws : List Jvm.Cond) (x arr : Addr) (n j : Nat) (ch : Nat → Nat) (n0 : Nat) (cS : Int32) (h0 : Heap) (Z0 : n0 ≤ h0.size) (hn : n ≤ 21) (hj : j < n) (hlo : ∀ q, q < j → ch q < 256) (hhi : 256 ≤ ch j) (hc : ∀ q, q < n → ch q < 65536) (V_arr : Ary Z h0 arr .char (IL n (fun q => Int32.ofNat (ch q)))) (E_x : Exa Z h0 x "java/lang/String") (Fv : Fld Z h0 x "java/lang/String" "value" "[B" .null) (Fc : Fld Z h0 x "java/lang/String" "coder" "B" (.int (0 : Int32))) (g_x : n0 ≤ x) (O0 : Old Z n0 h0) (Sc : Sta Z Z.heap "java/lang/String" "COMPACT_STRINGS" "Z" (.int cS)) (hcS : ¬ (cS = (0 : Int32))) (Sa : Sta Z Z.heap "java/lang/StringUTF16" "$assertionsDisabled" "Z" (.int (1 : Int32))) (Sh : Sta Z Z.heap "java/lang/StringUTF16" "HI_BYTE_SHIFT" "I" (.int (0 : Int32))) (Sl : Sta Z Z.heap "java/lang/StringUTF16" "LO_BYTE_SHIFT" "I" (.int (8 : Int32))) (ne_x_arr : x ≠ arr) :
    Mt l Z (⟨"java/lang/String", "<init>", "([CIILjava/lang/Void;)V"⟩ : MethodName) jdk_42_method_149_code 6 none ws ({ frames := 4, cells := 2, slots := 63, locals := 58 } : Room) #[(.ref x), (.ref arr), (.int (0 : Int32)), (.int (Int32.ofNat n)), .null] h0 (fun v h L => v = none ∧ Fr n0 L ∧ Keep h0 h [x] ∧ Fld Z h x "java/lang/String" "coder" "B" (.int (1 : Int32)) ∧ ∃ t, h0.size ≤ t ∧ Fld Z h x "java/lang/String" "value" "[B" (.ref t) ∧ Ary Z h t .byte (IL (2 * n) (u2 ch))) := by
  refine Mt.body pn_iVU ?_
  intro p e s m below meth c s₁ hx hby hml hown hnm hret hlk hZ X0 e0
  refine Go.cast (g' := (mkF m 0 #[rv x, rv arr, iv (0 : Int32), iv (Int32.ofNat n), .val .null, .unset] [])) (ef_iVU m x arr (0 : Int32) (Int32.ofNat n)) ?_
  have N0 := Fr.nil n0
  have K0 := Keep.refl h0 [x]
  refine Go.st (T' := s₁) (g' := (mkF m 1 #[rv x, rv arr, iv (0 : Int32), iv (Int32.ofNat n), .val .null, .unset] [(.ref x)])) ?_ (fun _ kk_ => XS.aloadN X0.here hx rfl (hb hby diVU_0) rfl rfl  kk_)
  obtain ⟨T1, X1, e1, st1⟩ := initO X0 hx hZ hown (hw _ (List.mem_of_getElem? (i := 36) rfl)) (hw _ (List.mem_of_getElem? (i := 37) rfl)) (hw _ (List.mem_of_getElem? (i := 38) rfl)) e0 (g := (mkF m 1 #[rv x, rv arr, iv (0 : Int32), iv (Int32.ofNat n), .val .null, .unset] [(.ref x)])) rfl (by rw [hml]; rfl) rfl (hb hby diVU_1) (by decide) (W := 0) (by show 2 * 0 + _ ≤ _; exact Nat.le_of_eq rfl) (by decide)
  refine Go.st (T' := T1) (g' := (mkF m 4 #[rv x, rv arr, iv (0 : Int32), iv (Int32.ofNat n), .val .null, .unset] [])) ?_ st1
  refine Go.st (T' := T1) (g' := (mkF m 27 #[rv x, rv arr, iv (0 : Int32), iv (Int32.ofNat n), .val .null, .unset] [])) ?_ (fun _ kk_ => XS.iloadN X1.here hx rfl (hb hby diVU_4) rfl  (XS.ifYes X1.here hx rfl (pc0 := 5) (pc' := 27) rfl (hb hby diVU_5) rfl ((if0 _ _).trans (feq ((fun z => by have := (own_eq (i := n) (n := 0) (by omega) (by decide)).mp z; omega) : ¬ ((Int32.ofNat n) = (0 : Int32)))).2) (by decide) (by decide) kk_))
  obtain ⟨T2, X2, e2, st2⟩ := getS2 X1 hx hZ hown (host := "") (Or.inl (hw _ (List.mem_of_getElem? (i := 39) rfl))) Via.refl e1 (Sc.ext O0.2) (g := (mkF m 27 #[rv x, rv arr, iv (0 : Int32), iv (Int32.ofNat n), .val .null, .unset] [])) rfl (hb hby diVU_27)
  refine Go.st (T' := T2) (g' := (mkF m 30 #[rv x, rv arr, iv (0 : Int32), iv (Int32.ofNat n), .val .null, .unset] [(.int cS)])) ?_ st2
  refine Go.st (T' := T2) (g' := (mkF m 36 #[rv x, rv arr, iv (0 : Int32), iv (Int32.ofNat n), .val .null, .unset] [(.int (Int32.ofNat n)), (.int (0 : Int32)), (.ref arr)])) ?_ (fun _ kk_ => XS.ifNo X2.here hx rfl (hb hby diVU_30) rfl ((if0 _ _).trans (feq (hcS : ¬ (cS = (0 : Int32)))).1) (XS.aloadN X2.here hx rfl (hb hby diVU_33) rfl rfl  (XS.iloadN X2.here hx rfl (hb hby diVU_34) rfl  (XS.iloadN X2.here hx rfl (hb hby diVU_35) rfl  kk_))))
  refine Go.callS (y := (⟨"java/lang/StringUTF16", "compress", "([CII)[B"⟩ : MethodName)) X2 hx hZ hown (hw _ (List.mem_of_getElem? (i := 40) rfl)) (hw _ (List.mem_of_getElem? (i := 41) rfl)) (hw _ (List.mem_of_getElem? (i := 42) rfl)) (hw _ (List.mem_of_getElem? (i := 43) rfl)) (by decide) 0 (rm_c1U l Z a0 hw [] arr n j ch n0 h0 Z0 hn hj hlo hhi hc V_arr O0 Sa Sh Sl) e2 (by decide) (by decide) (by decide) (by decide) (argsL := [(.ref arr), (.int (0 : Int32)), (.int (Int32.ofNat n))]) (rest := []) rfl (by rw [hml]; rfl) (lenOf pd__28_5bCII_29_5bB rfl) rfl rfl (by show 2 * 0 + _ ≤ _; exact Nat.le_of_eq rfl) (hb hby diVU_36) ?_
  rintro _ T3 L3 X3 ⟨t, rfl, N3, K3, tz, V3⟩
  have N4 := Fr.app N0 N3
  have O5 := O0.keep K3 all0
  have Z6 : n0 ≤ T3.heap.size := Nat.le_trans Z0 K3.1
  have K7 : Keep h0 T3.heap [x] := K0.trans K3 all0
  show Go p e below _ T3 (mkF m 39 #[rv x, rv arr, iv (0 : Int32), iv (Int32.ofNat n), .val .null, .unset] [(.ref t)])
  have ne_x_t : x ≠ t := Nat.ne_of_lt (Nat.lt_of_lt_of_le E_x.lt tz)
  refine Go.st (T' := T3) (g' := (mkF m 45 #[rv x, rv arr, iv (0 : Int32), iv (Int32.ofNat n), .val .null, rv t] [(.int (Int32.ofNat n)), (.ref t), (.ref x)])) ?_ (fun _ kk_ => XS.astore X3.here hx rfl (hb hby diVU_39) rfl rfl (l' := #[rv x, rv arr, iv (0 : Int32), iv (Int32.ofNat n), .val .null, rv t]) rfl (XS.aloadN X3.here hx rfl (hb hby diVU_41) rfl rfl  (XS.aload X3.here hx rfl (hb hby diVU_42) rfl rfl  (XS.iloadN X3.here hx rfl (hb hby diVU_44) rfl  kk_))))
  refine Go.callS (y := (⟨"java/lang/StringUTF16", "coderFromArrayLen", "([BI)B"⟩ : MethodName)) X3 hx hZ hown (hw _ (List.mem_of_getElem? (i := 48) rfl)) (hw _ (List.mem_of_getElem? (i := 49) rfl)) (hw _ (List.mem_of_getElem? (i := 42) rfl)) (hw _ (List.mem_of_getElem? (i := 50) rfl)) (by decide) 1 (rm_caU l Z a0 hw [] t n _ T3.heap (by omega) hn V3) rfl (by decide) (by decide) (by decide) (by decide) (argsL := [(.ref t), (.int (Int32.ofNat n))]) (rest := [(.ref x)]) rfl (by rw [hml]; rfl) (lenOf pd__28_5bBI_29B rfl) rfl rfl (by show 2 * 0 + _ ≤ _; exact Nat.le_of_eq rfl) (hb hby diVU_45) ?_
  rintro _ T8 L8 X8 ⟨rfl, e8, rfl⟩
  have N9 := Fr.app N4 (Fr.nil _)
  show Go p e below _ T8 (mkF m 48 #[rv x, rv arr, iv (0 : Int32), iv (Int32.ofNat n), .val .null, rv t] [(.int (1 : Int32)), (.ref x)])
  have f10 := (Fc.keep K3 nin0)
  have f11 := (E_x.keep K3)
  obtain ⟨T12, h12, X12, e12, W12, st12⟩ := putFN X8 hx hZ hown (hw _ (List.mem_of_getElem? (i := 51) rfl)) Via.refl e8 f10 f11 (Or.inr ⟨(hw _ (List.mem_of_getElem? (i := 52) rfl)), rfl, hnm⟩) (hw _ (List.mem_of_getElem? (i := 27) rfl)) (ty := .byte) (v' := (.int (1 : Int32))) (by decide) (by decide) (by decide) (g := (mkF m 48 #[rv x, rv arr, iv (0 : Int32), iv (Int32.ofNat n), .val .null, rv t] [(.int (1 : Int32)), (.ref x)])) rfl rfl (hb hby diVU_48)
  have N13 := Fr.snoc X12 N9 g_x
  have O14 := O5.wr W12 g_x
  have f15 := f10.same W12
  have K16 : Keep h0 h12 [x] := K7.wr W12 (Or.inl (List.mem_of_getElem? (i := 0) rfl))
  have Z17 : n0 ≤ h12.size := by rw [W12.size]; exact Z6
  refine Go.st (T' := T12) (g' := (mkF m 51 #[rv x, rv arr, iv (0 : Int32), iv (Int32.ofNat n), .val .null, rv t] [])) ?_ st12
  refine Go.st (T' := T12) (g' := (mkF m 54 #[rv x, rv arr, iv (0 : Int32), iv (Int32.ofNat n), .val .null, rv t] [(.ref t), (.ref x)])) ?_ (fun _ kk_ => XS.aloadN X12.here hx rfl (hb hby diVU_51) rfl rfl  (XS.aload X12.here hx rfl (hb hby diVU_52) rfl rfl  kk_))
  have f18 := ((Fv.keep K3 nin0).other W12 (Or.inr (slot_ne (C := "java/lang/String") (Or.inr (hw _ (List.mem_of_getElem? (i := 54) rfl))) (Or.inr (hw _ (List.mem_of_getElem? (i := 52) rfl))) (by decide) (t := (.array .byte)) (t' := .byte) (by decide) (by decide))))
  have f19 := (f11.wr W12)
  obtain ⟨T20, h20, X20, e20, W20, st20⟩ := putF X12 hx hZ hown (host := "") (Or.inl (hw _ (List.mem_of_getElem? (i := 53) rfl))) Via.refl e12 f18 f19 (Or.inr ⟨(hw _ (List.mem_of_getElem? (i := 54) rfl)), rfl, hnm⟩) (hw _ (List.mem_of_getElem? (i := 27) rfl)) (ty := (.array .byte)) (by decide) rfl rfl (g := (mkF m 54 #[rv x, rv arr, iv (0 : Int32), iv (Int32.ofNat n), .val .null, rv t] [(.ref t), (.ref x)])) rfl rfl (hb hby diVU_54)
  have N21 := Fr.snoc X20 N13 g_x
  have O22 := O14.wr W20 g_x
  have f23 := f18.same W20
  have K24 : Keep h0 h20 [x] := K16.wr W20 (Or.inl (List.mem_of_getElem? (i := 0) rfl))
  have Z25 : n0 ≤ h20.size := by rw [W20.size]; exact Z17
  refine Go.st (T' := T20) (g' := (mkF m 57 #[rv x, rv arr, iv (0 : Int32), iv (Int32.ofNat n), .val .null, rv t] [])) ?_ st20
  have f26 := (f15.other W20 (Or.inr (slot_ne (C := "java/lang/String") (Or.inr (hw _ (List.mem_of_getElem? (i := 52) rfl))) (Or.inr (hw _ (List.mem_of_getElem? (i := 54) rfl))) (by decide) (t := .byte) (t' := (.array .byte)) (by decide) (by decide))))
  have f27 := ((V3.other W12 (Ne.symm ne_x_t)).other W20 (Ne.symm ne_x_t))
  refine Go.retV X20 hx hlk hret (hb hby diVU_57) (by decide) (by decide) ?_
  try rw [e20]
  exact ⟨rfl, N21, K24, f26, t, tz, f23, f27⟩
theorem di1U_0 : decode jdk_42_method_3_code 0 = .ok (.aload_n 0, 1) := by decide +kernel
theorem di1U_1 : decode jdk_42_method_3_code 1 = .ok (.aload_n 1, 1) := by decide +kernel
theorem di1U_2 : decode jdk_42_method_3_code 2 = .ok (.iconst 0, 1) := by decide +kernel
theorem di1U_3 : decode jdk_42_method_3_code 3 = .ok (.aload_n 1, 1) := by decide +kernel
theorem di1U_4 : decode jdk_42_method_3_code 4 = .ok (.arraylength, 1) := by decide +kernel
theorem di1U_5 : decode jdk_42_method_3_code 5 = .ok (.aconst_null, 1) := by decide +kernel
theorem di1U_6 : decode jdk_42_method_3_code 6 = .ok (.invokespecial 27, 3) := by decide +kernel
theorem di1U_9 : decode jdk_42_method_3_code 9 = .ok (.return_, 1) := by decide +kernel
theorem pn_i1U : plainFor (⟨"java/lang/String", "<init>", "([C)V"⟩ : MethodName) = true := by first | exact plainFor_of_name (by first | (simp [plainName, overriddenIn]; done) | decide +kernel) | decide +kernel
theorem ef_i1U (m : MethodId) (x0 : Addr) (x1 : Addr) : entryFrame m #[(.ref x0), (.ref x1)] 2 = mkF m 0 #[rv x0, rv x1] [] := by first | (simp [entryFrame, mkF, argsToLocals, Value.category]; done) | rfl
set_option maxRecDepth 65536 in
set_option maxHeartbeats 40000000 in
theorem rm_i1U (l : Launch) (Z : State) (a0 : Array Value) (hw : ∀ d ∈ tables_1, d.before a0 Z = true) (ws : List Jvm.Cond) (x arr : Addr) (n j : Nat) (ch : Nat → Nat) (n0 : Nat) (cS : Int32) (h0 : Heap) (Z0 : n0 ≤ h0.size) (hn : n ≤ 21) (hj : j < n) (hlo : ∀ q, q < j → ch q < 256) (hhi : 256 ≤ ch j) (hc : ∀ q, q < n → ch q < 65536) (V_arr : Ary Z h0 arr .char (IL n (fun q => Int32.ofNat (ch q)))) (E_x : Exa Z h0 x "java/lang/String") (Fv : Fld Z h0 x "java/lang/String" "value" "[B" .null) (Fc : Fld Z h0 x "java/lang/String" "coder" "B" (.int (0 : Int32))) (g_x : n0 ≤ x) (O0 : Old Z n0 h0) (Sc : Sta Z Z.heap "java/lang/String" "COMPACT_STRINGS" "Z" (.int cS)) (hcS : ¬ (cS = (0 : Int32))) (Sa : Sta Z Z.heap "java/lang/StringUTF16" "$assertionsDisabled" "Z" (.int (1 : Int32))) (Sh : Sta Z Z.heap "java/lang/StringUTF16" "HI_BYTE_SHIFT" "I" (.int (0 : Int32))) (Sl : Sta Z Z.heap "java/lang/StringUTF16" "LO_BYTE_SHIFT" "I" (.int (8 : Int32))) (ne_x_arr : x ≠ arr) :
    Mt l Z (⟨"java/lang/String", "<init>", "([C)V"⟩ : MethodName) jdk_42_method_3_code 2 none ws ({ frames := 5, cells := 2, slots := 63, locals := 75 } : Room) #[(.ref x), (.ref arr)] h0 (fun v h L => v = none ∧ Fr n0 L ∧ Keep h0 h [x] ∧ Fld Z h x "java/lang/String" "coder" "B" (.int (1 : Int32)) ∧ ∃ t, h0.size ≤ t ∧ Fld Z h x "java/lang/String" "value" "[B" (.ref t) ∧ Ary Z h t .byte (IL (2 * n) (u2 ch))) := by
  refine Mt.body pn_i1U ?_
  intro p e s m below meth c s₁ hx hby hml hown hnm hret hlk hZ X0 e0
  refine Go.cast (g' := (mkF m 0 #[rv x, rv arr] [])) (ef_i1U m x arr) ?_
  have N0 := Fr.nil n0
  have K0 := Keep.refl h0 [x]
  refine Go.st (T' := s₁) (g' := (mkF m 6 #[rv x, rv arr] [.null, (.int (Int32.ofNat n)), (.int (0 : Int32)), (.ref arr), (.ref x)])) ?_ (fun _ kk_ => XS.aloadN X0.here hx rfl (hb hby di1U_0) rfl rfl  (XS.aloadN X0.here hx rfl (hb hby di1U_1) rfl rfl  (XS.iconst X0.here hx rfl (hb hby di1U_2) (XS.aloadN X0.here hx rfl (hb hby di1U_3) rfl rfl  (own_alen X0 hx hZ e0 V_arr (IL_len _ _) rfl rfl (hb hby di1U_4) (XS.aconstNull X0.here hx rfl (hb hby di1U_5) kk_))))))
  refine Go.callN (y := (⟨"java/lang/String", "<init>", "([CIILjava/lang/Void;)V"⟩ : MethodName)) X0 hx hZ rfl hown (hw _ (List.mem_of_getElem? (i := 32) rfl)) (hw _ (List.mem_of_getElem? (i := 33) rfl)) (hw _ (List.mem_of_getElem? (i := 28) rfl)) (hw _ (List.mem_of_getElem? (i := 35) rfl)) (by decide) 0 (rm_iVU l Z a0 hw [] x arr n j ch n0 cS h0 Z0 hn hj hlo hhi hc V_arr E_x Fv Fc g_x O0 Sc hcS Sa Sh Sl ne_x_arr) e0 (by decide) (by decide) (by decide) (by decide) (a := x) (argsL := [(.ref arr), (.int (0 : Int32)), (.int (Int32.ofNat n)), .null]) (rest := []) rfl (by rw [hml]; rfl) (lenOf pd__28_5bCIILjava_2flang_2fVoid_3b_29V rfl) rfl rfl (by show 2 * 0 + _ ≤ _; exact Nat.le_of_eq rfl) (hb hby di1U_6) ?_
  rintro _ T1 L1 X1 ⟨rfl, N1, K1, Fc1, t, tz, Fv1, V1⟩
  have N2 := Fr.app N0 N1
  have Z3 : n0 ≤ T1.heap.size := Nat.le_trans Z0 K1.1
  have K4 : Keep h0 T1.heap [x] := K0.trans K1 (allS (P := fun z_ => z_ ∈ [x] ∨ h0.size ≤ z_) (Or.inl (List.mem_of_getElem? (i := 0) rfl)) all0)
  show Go p e below _ T1 (mkF m 9 #[rv x, rv arr] [])
  refine Go.retV X1 hx hlk hret (hb hby di1U_9) (by decide) (by decide) ?_
  exact ⟨rfl, N2, K4, Fc1, t, tz, Fv1, V1⟩
theorem pn_lnX : plainFor (⟨"java/lang/String", "length", "()I"⟩ : MethodName) = true := by first | exact plainFor_of_name (by first | (simp [plainName, overriddenIn]; done) | decide +kernel) | decide +kernel
theorem ef_lnX (m : MethodId) (x0 : Addr) : entryFrame m #[(.ref x0)] 1 = mkF m 0 #[rv x0] [] := by first | (simp [entryFrame, mkF, argsToLocals, Value.category]; done) | rfl
set_option maxRecDepth 65536 in
set_option maxHeartbeats 40000000 in
theorem rm_lnX (l : Launch) (Z : State) (a0 : Array Value) (hw : ∀ d ∈ tables_1, d.before a0 Z = true) (ws : List Jvm.Cond) (a : Addr) (n : Nat) (ch : Nat → Nat) (n0 : Nat) (cS : Int32) (h0 : Heap) (hn : n ≤ 21) (SX : StrX Z h0 a n ch) (O0 : Old Z n0 h0) (Sc : Sta Z Z.heap "java/lang/String" "COMPACT_STRINGS" "Z" (.int cS)) (hcS : ¬ (cS = (0 : Int32))) :
    Mt l Z (⟨"java/lang/String", "length", "()I"⟩ : MethodName) jdk_42_method_54_code 1 (some .int) ws ({ frames := 1, cells := 0, slots := 0, locals := 13 } : Room) #[(.ref a)] h0 (fun v h L => v = some (.int (Int32.ofNat n)) ∧ h = h0 ∧ L = []) := by
  obtain ⟨t, E_a, Fv_a, ⟨Fc_a, V_t, h8⟩ | ⟨Fc_a, V_t, h16⟩⟩ := SX
  · exact rm_len l Z a0 hw ws a t n _ n0 cS h0 E_a Fc_a Fv_a V_t O0 Sc hcS
  · exact rm_lnU l Z a0 hw ws a t n _ n0 cS h0 hn E_a Fc_a Fv_a V_t O0 Sc hcS
theorem pn_chX : plainFor (⟨"java/lang/String", "charAt", "(I)C"⟩ : MethodName) = true := by first | exact plainFor_of_name (by first | (simp [plainName, overriddenIn]; done) | decide +kernel) | decide +kernel
theorem ef_chX (m : MethodId) (x0 : Addr) (x1 : Int32) : entryFrame m #[(.ref x0), (.int x1)] 2 = mkF m 0 #[rv x0, iv x1] [] := by first | (simp [entryFrame, mkF, argsToLocals, Value.category]; done) | rfl
set_option maxRecDepth 65536 in
set_option maxHeartbeats 40000000 in
theorem rm_chX (l : Launch) (Z : State) (a0 : Array Value) (hw : ∀ d ∈ tables_1, d.before a0 Z = true) (ws : List Jvm.Cond) (a : Addr) (i n : Nat) (ch : Nat → Nat) (rF : Value) (n0 : Nat) (cS : Int32) (h0 : Heap) (hi : i < n) (hn : n ≤ 21) (SX : StrX Z h0 a n ch) (O0 : Old Z n0 h0) (Sc : Sta Z Z.heap "java/lang/String" "COMPACT_STRINGS" "Z" (.int cS)) (hcS : ¬ (cS = (0 : Int32))) (Sa : Sta Z Z.heap "java/lang/StringUTF16" "$assertionsDisabled" "Z" (.int (1 : Int32))) (Sh : Sta Z Z.heap "java/lang/StringUTF16" "HI_BYTE_SHIFT" "I" (.int (0 : Int32))) (Sl : Sta Z Z.heap "java/lang/StringUTF16" "LO_BYTE_SHIFT" "I" (.int (8 : Int32))) (Sr : Sta Z Z.heap "jdk/internal/util/Preconditions" "SIOOBE_FORMATTER" "Ljava/util/function/BiFunction;" rF) (hr_rF : rF.isRef = true) :
    Mt l Z (⟨"java/lang/String", "charAt", "(I)C"⟩ : MethodName) jdk_42_method_56_code 2 (some .char) ws ({ frames := 4, cells := 0, slots := 0, locals := 53 } : Room) #[(.ref a), (.int (Int32.ofNat i))] h0 (fun v h L => v = some (.int (Int32.ofNat (ch i))) ∧ h = h0 ∧ L = []) := by
  obtain ⟨t, E_a, Fv_a, ⟨Fc_a, V_t, h8⟩ | ⟨Fc_a, V_t, h16⟩⟩ := SX
  · exact rm_cha l Z a0 hw ws a t i n ch rF n0 cS h0 hi (by omega) h8 E_a Fc_a Fv_a V_t O0 Sc hcS Sr hr_rF
  · exact rm_chU l Z a0 hw ws a t i n ch rF n0 cS h0 hi hn h16 E_a Fc_a Fv_a V_t O0 Sc hcS Sa Sh Sl Sr hr_rF
theorem doem_0 : decode jdk_2650_method_2_code 0 = .ok (.getstatic 17, 3) := by decide +kernel
theorem doem_3 : decode jdk_2650_method_2_code 3 = .ok (.areturn, 1) := by decide +kernel
theorem pn_oem : plainFor (⟨"java/util/OptionalLong", "empty", "()Ljava/util/OptionalLong;"⟩ : MethodName) = true := by first | exact plainFor_of_name (by first | (simp [plainName, overriddenIn]; done) | decide +kernel) | decide +kernel
theorem ef_oem (m : MethodId)  : entryFrame m #[] 0 = mkF m 0 #[] [] := by first | (simp [entryFrame, mkF, argsToLocals, Value.category]; done) | rfl
set_option maxRecDepth 65536 in
set_option maxHeartbeats 40000000 in
theorem rm_oem (l : Launch) (Z : State) (a0 : Array Value) (hw : ∀ d ∈ tables_1, d.before a0 Z = true) (ws : List Jvm.Cond) (n0 : Nat) (eA : Addr) (h0 : Heap) (O0 : Old Z n0 h0) (Se : Sta Z Z.heap "java/util/OptionalLong" "EMPTY" "Ljava/util/OptionalLong;" (.ref eA)) (Ee : Exa Z Z.heap eA "java/util/OptionalLong") (Fe : Fld Z Z.heap eA "java/util/OptionalLong" "isPresent" "Z" (.int (0 : Int32))) :
    Mt l Z (⟨"java/util/OptionalLong", "empty", "()Ljava/util/OptionalLong;"⟩ : MethodName) jdk_2650_method_2_code 0 (some (.object "java/util/OptionalLong")) ws ({ frames := 0, cells := 0, slots := 0, locals := 0 } : Room) #[] h0 (fun v h L => v = some (.ref eA) ∧ h = h0 ∧ L = []) := by
  refine Mt.body pn_oem ?_
  intro p e s m below meth c s₁ hx hby hml hown hnm hret hlk hZ X0 e0
  refine Go.cast (g' := (mkF m 0 #[] [])) (ef_oem m ) ?_
  have N0 := Fr.nil n0
  obtain ⟨T1, X1, e1, st1⟩ := getS2 X0 hx hZ hown (host := "") (Or.inl (hw _ (List.mem_of_getElem? (i := 97) rfl))) Via.refl e0 (Se.ext O0.2) (g := (mkF m 0 #[] [])) rfl (hb hby doem_0)
  refine Go.st (T' := T1) (g' := (mkF m 3 #[] [(.ref eA)])) ?_ st1
  refine Go.retA X1 hx hlk hret rfl rfl (hb hby doem_3) (by decide) (by decide) ?_
  try rw [e1]
  exact ⟨rfl, rfl, rfl⟩
theorem doin_0 : decode jdk_2650_method_3_code 0 = .ok (.aload_n 0, 1) := by decide +kernel
theorem doin_1 : decode jdk_2650_method_3_code 1 = .ok (.invokespecial 1, 3) := by decide +kernel
theorem doin_4 : decode jdk_2650_method_3_code 4 = .ok (.aload_n 0, 1) := by decide +kernel
theorem doin_5 : decode jdk_2650_method_3_code 5 = .ok (.iconst 1, 1) := by decide +kernel
theorem doin_6 : decode jdk_2650_method_3_code 6 = .ok (.putfield 7, 3) := by decide +kernel
theorem doin_9 : decode jdk_2650_method_3_code 9 = .ok (.aload_n 0, 1) := by decide +kernel
theorem doin_10 : decode jdk_2650_method_3_code 10 = .ok (.lload_n 1, 1) := by decide +kernel
theorem doin_11 : decode jdk_2650_method_3_code 11 = .ok (.putfield 13, 3) := by decide +kernel
theorem doin_14 : decode jdk_2650_method_3_code 14 = .ok (.return_, 1) := by decide +kernel
theorem pn_oin : plainFor (⟨"java/util/OptionalLong", "<init>", "(J)V"⟩ : MethodName) = true := by first | exact plainFor_of_name (by first | (simp [plainName, overriddenIn]; done) | decide +kernel) | decide +kernel
theorem ef_oin (m : MethodId) (x0 : Addr) (x1 : Int64) : entryFrame m #[(.ref x0), (.long x1)] 3 = mkF m 0 #[rv x0, jv x1, .second] [] := by first | (simp [entryFrame, mkF, argsToLocals, Value.category]; done) | rfl
set_option maxRecDepth 65536 in
set_option maxHeartbeats 40000000 in
theorem rm_oin (l : Launch) (Z : State) (a0 : Array Value) (hw : ∀ d ∈ tables_1, d.before a0 Z = true) (ws : List Jvm.Cond) (x : Addr) (v0 : Int64) (n0 : Nat) (h0 : Heap) (Z0 : n0 ≤ h0.size) (g_x : n0 ≤ x) (E_x : Exa Z h0 x "java/util/OptionalLong") (Fp : Fld Z h0 x "java/util/OptionalLong" "isPresent" "Z" (.int (0 : Int32))) (Fv : Fld Z h0 x "java/util/OptionalLong" "value" "J" (.long (0 : Int64))) :
    Mt l Z (⟨"java/util/OptionalLong", "<init>", "(J)V"⟩ : MethodName) jdk_2650_method_3_code 3 none ws ({ frames := 1, cells := 0, slots := 0, locals := 12 } : Room) #[(.ref x), (.long v0)] h0 (fun v h L => v = none ∧ Fr n0 L ∧ Keep h0 h [x] ∧ Fld Z h x "java/util/OptionalLong" "isPresent" "Z" (.int (1 : Int32)) ∧ Fld Z h x "java/util/OptionalLong" "value" "J" (.long v0)) := by
  refine Mt.body pn_oin ?_
  intro p e s m below meth c s₁ hx hby hml hown hnm hret hlk hZ X0 e0
  refine Go.cast (g' := (mkF m 0 #[rv x, jv v0, .second] [])) (ef_oin m x v0) ?_
  have N0 := Fr.nil n0
  have K0 := Keep.refl h0 [x]
  refine Go.st (T' := s₁) (g' := (mkF m 1 #[rv x, jv v0, .second] [(.ref x)])) ?_ (fun _ kk_ => XS.aloadN X0.here hx rfl (hb hby doin_0) rfl rfl  kk_)
  obtain ⟨T1, X1, e1, st1⟩ := initO X0 hx hZ hown (hw _ (List.mem_of_getElem? (i := 114) rfl)) (hw _ (List.mem_of_getElem? (i := 37) rfl)) (hw _ (List.mem_of_getElem? (i := 38) rfl)) e0 (g := (mkF m 1 #[rv x, jv v0, .second] [(.ref x)])) rfl (by rw [hml]; rfl) rfl (hb hby doin_1) (by decide) (W := 0) (by show 2 * 0 + _ ≤ _; exact Nat.le_of_eq rfl) (by decide)
  refine Go.st (T' := T1) (g' := (mkF m 4 #[rv x, jv v0, .second] [])) ?_ st1
  refine Go.st (T' := T1) (g' := (mkF m 6 #[rv x, jv v0, .second] [(.int (1 : Int32)), (.ref x)])) ?_ (fun _ kk_ => XS.aloadN X1.here hx rfl (hb hby doin_4) rfl rfl  (XS.iconst X1.here hx rfl (hb hby doin_5) kk_))
  obtain ⟨T2, h2, X2, e2, W2, st2⟩ := putFN X1 hx hZ hown (hw _ (List.mem_of_getElem? (i := 103) rfl)) Via.refl e1 Fp E_x (Or.inr ⟨(hw _ (List.mem_of_getElem? (i := 104) rfl)), rfl, hnm⟩) (hw _ (List.mem_of_getElem? (i := 109) rfl)) (ty := .boolean) (v' := (.int (1 : Int32))) (by decide) (by decide) (by decide) (g := (mkF m 6 #[rv x, jv v0, .second] [(.int (1 : Int32)), (.ref x)])) rfl rfl (hb hby doin_6)
  have N3 := Fr.snoc X2 N0 g_x
  have f4 := Fp.same W2
  have K5 : Keep h0 h2 [x] := K0.wr W2 (Or.inl (List.mem_of_getElem? (i := 0) rfl))
  have Z6 : n0 ≤ h2.size := by rw [W2.size]; exact Z0
  refine Go.st (T' := T2) (g' := (mkF m 9 #[rv x, jv v0, .second] [])) ?_ st2
  refine Go.st (T' := T2) (g' := (mkF m 11 #[rv x, jv v0, .second] [(.long v0), (.ref x)])) ?_ (fun _ kk_ => XS.aloadN X2.here hx rfl (hb hby doin_9) rfl rfl  (XS.lloadN X2.here hx rfl (hb hby doin_10) rfl  kk_))
  have f7 := (Fv.other W2 (Or.inr (slot_ne (C := "java/util/OptionalLong") (Or.inr (hw _ (List.mem_of_getElem? (i := 116) rfl))) (Or.inr (hw _ (List.mem_of_getElem? (i := 104) rfl))) (by decide) (t := .long) (t' := .boolean) (by decide) (by decide))))
  have f8 := (E_x.wr W2)
  obtain ⟨T9, h9, X9, e9, W9, st9⟩ := putF X2 hx hZ hown (host := "") (Or.inl (hw _ (List.mem_of_getElem? (i := 115) rfl))) Via.refl e2 f7 f8 (Or.inr ⟨(hw _ (List.mem_of_getElem? (i := 116) rfl)), rfl, hnm⟩) (hw _ (List.mem_of_getElem? (i := 109) rfl)) (ty := .long) (by decide) rfl rfl (g := (mkF m 11 #[rv x, jv v0, .second] [(.long v0), (.ref x)])) rfl rfl (hb hby doin_11)
  have N10 := Fr.snoc X9 N3 g_x
  have f11 := f7.same W9
  have K12 : Keep h0 h9 [x] := K5.wr W9 (Or.inl (List.mem_of_getElem? (i := 0) rfl))
  have Z13 : n0 ≤ h9.size := by rw [W9.size]; exact Z6
  refine Go.st (T' := T9) (g' := (mkF m 14 #[rv x, jv v0, .second] [])) ?_ st9
  have f14 := (f4.other W9 (Or.inr (slot_ne (C := "java/util/OptionalLong") (Or.inr (hw _ (List.mem_of_getElem? (i := 104) rfl))) (Or.inr (hw _ (List.mem_of_getElem? (i := 116) rfl))) (by decide) (t := .boolean) (t' := .long) (by decide) (by decide))))
  refine Go.retV X9 hx hlk hret (hb hby doin_14) (by decide) (by decide) ?_
  try rw [e9]
  exact ⟨rfl, N10, K12, f14, f11⟩
theorem doof_0 : decode jdk_2650_method_4_code 0 = .ok (.new 8, 3) := by decide +kernel
theorem doof_3 : decode jdk_2650_method_4_code 3 = .ok (.dup, 1) := by decide +kernel
theorem doof_4 : decode jdk_2650_method_4_code 4 = .ok (.lload_n 0, 1) := by decide +kernel
theorem doof_5 : decode jdk_2650_method_4_code 5 = .ok (.invokespecial 21, 3) := by decide +kernel
theorem doof_8 : decode jdk_2650_method_4_code 8 = .ok (.areturn, 1) := by decide +kernel
theorem pn_oof : plainFor (⟨"java/util/OptionalLong", "of", "(J)Ljava/util/OptionalLong;"⟩ : MethodName) = true := by first | exact plainFor_of_name (by first | (simp [plainName, overriddenIn]; done) | decide +kernel) | decide +kernel
theorem ef_oof (m : MethodId) (x0 : Int64) : entryFrame m #[(.long x0)] 2 = mkF m 0 #[jv x0, .second] [] := by first | (simp [entryFrame, mkF, argsToLocals, Value.category]; done) | rfl
set_option maxRecDepth 65536 in
set_option maxHeartbeats 40000000 in
theorem rm_oof (l : Launch) (Z : State) (a0 : Array Value) (hw : ∀ d ∈ tables_1, d.before a0 Z = true) (ws : List Jvm.Cond) (v0 : Int64) (n0 : Nat) (h0 : Heap) (Z0 : n0 ≤ h0.size) :
    Mt l Z (⟨"java/util/OptionalLong", "of", "(J)Ljava/util/OptionalLong;"⟩ : MethodName) jdk_2650_method_4_code 2 (some (.object "java/util/OptionalLong")) ws ({ frames := 2, cells := 1, slots := 2, locals := 27 } : Room) #[(.long v0)] h0 (fun v h L => ∃ a, v = some (.ref a) ∧ Fr n0 L ∧ Keep h0 h [] ∧ Exa Z h a "java/util/OptionalLong" ∧ Fld Z h a "java/util/OptionalLong" "isPresent" "Z" (.int (1 : Int32)) ∧ Fld Z h a "java/util/OptionalLong" "value" "J" (.long v0)) := by
  refine Mt.body pn_oof ?_
  intro p e s m below meth c s₁ hx hby hml hown hnm hret hlk hZ X0 e0
  refine Go.cast (g' := (mkF m 0 #[jv v0, .second] [])) (ef_oof m v0) ?_
  have N0 := Fr.nil n0
  have K0 := Keep.refl h0 ([] : List Addr)
  obtain ⟨T1, h1, X1, e1, E1, A1, D1, U1, st1⟩ := newO X0 hx hZ hown (hw _ (List.mem_of_getElem? (i := 108) rfl)) (hw _ (List.mem_of_getElem? (i := 109) rfl)) (hw _ (List.mem_of_getElem? (i := 95) rfl)) e0 (g := (mkF m 0 #[jv v0, .second] [])) rfl (hb hby doof_0) (by decide) (by decide)
  obtain ⟨b1, g1⟩ : ∃ z, z = h0.size := ⟨_, rfl⟩
  rw [← g1] at A1 D1 st1
  have g_b1 : n0 ≤ b1 := Nat.le_trans Z0 (Nat.le_of_eq g1.symm)
  have sz_b1 : h0.size ≤ b1 := Nat.le_trans K0.1 (Nat.le_of_eq g1.symm)
  have Z2 : n0 ≤ h1.size := Nat.le_trans Z0 E1.1
  have K3 : Keep h0 h1 ([] : List Addr) := K0.ext E1
  have f4 : Fld Z h1 b1 "java/util/OptionalLong" "isPresent" "Z" (.int (0 : Int32)) := D1 (Or.inr (hw _ (List.mem_of_getElem? (i := 104) rfl))) (ty := .boolean) (by decide)
  have f5 : Fld Z h1 b1 "java/util/OptionalLong" "value" "J" (.long (0 : Int64)) := D1 (Or.inr (hw _ (List.mem_of_getElem? (i := 116) rfl))) (ty := .long) (by decide)
  refine Go.st (T' := T1) (g' := (mkF m 3 #[jv v0, .second] [(.ref b1)])) ?_ st1
  refine Go.st (T' := T1) (g' := (mkF m 5 #[jv v0, .second] [(.long v0), (.ref b1), (.ref b1)])) ?_ (fun _ kk_ => XS.dup X1.here hx rfl (hb hby doof_3) rfl rfl (XS.lloadN X1.here hx rfl (hb hby doof_4) rfl  kk_))
  refine Go.callN (y := (⟨"java/util/OptionalLong", "<init>", "(J)V"⟩ : MethodName)) X1 hx hZ rfl hown (hw _ (List.mem_of_getElem? (i := 110) rfl)) (hw _ (List.mem_of_getElem? (i := 111) rfl)) (hw _ (List.mem_of_getElem? (i := 95) rfl)) (hw _ (List.mem_of_getElem? (i := 113) rfl)) (by decide) 1 (rm_oin l Z a0 hw [] b1 v0 n0 h1 Z2 g_b1 A1 f4 f5) e1 (by decide) (by decide) (by decide) (by decide) (a := b1) (argsL := [(.long v0)]) (rest := [(.ref b1)]) rfl (by rw [hml]; rfl) (lenOf pd__28J_29V rfl) rfl rfl (by show 2 * 0 + _ ≤ _; exact Nat.le_of_eq rfl) (hb hby doof_5) ?_
  rintro _ T6 L6 X6 ⟨rfl, N6, K6, Fp6, Fv6⟩
  have N7 := Fr.app N0 N6
  have Z8 : n0 ≤ T6.heap.size := Nat.le_trans Z2 K6.1
  have K9 : Keep h0 T6.heap ([] : List Addr) := K3.trans K6 (allS (P := fun z_ => z_ ∈ ([] : List Addr) ∨ h0.size ≤ z_) (Or.inr sz_b1) all0)
  show Go p e below _ T6 (mkF m 8 #[jv v0, .second] [(.ref b1)])
  have f10 := (A1.keep K6)
  refine Go.retA X6 hx hlk hret rfl rfl (hb hby doof_8) (by decide) (by decide) ?_
  exact ⟨b1, rfl, N7, K9, f10, Fp6, Fv6⟩
theorem disp_0 : decode jdk_2650_method_6_code 0 = .ok (.aload_n 0, 1) := by decide +kernel
theorem disp_1 : decode jdk_2650_method_6_code 1 = .ok (.getfield 7, 3) := by decide +kernel
theorem disp_4 : decode jdk_2650_method_6_code 4 = .ok (.ireturn, 1) := by decide +kernel
theorem pn_isp : plainFor (⟨"java/util/OptionalLong", "isPresent", "()Z"⟩ : MethodName) = true := by first | exact plainFor_of_name (by first | (simp [plainName, overriddenIn]; done) | decide +kernel) | decide +kernel
theorem ef_isp (m : MethodId) (x0 : Addr) : entryFrame m #[(.ref x0)] 1 = mkF m 0 #[rv x0] [] := by first | (simp [entryFrame, mkF, argsToLocals, Value.category]; done) | rfl
set_option maxRecDepth 65536 in
set_option maxHeartbeats 40000000 in
theorem rm_isp (l : Launch) (Z : State) (a0 : Array Value) (hw : ∀ d ∈ tables_1, d.before a0 Z = true) (ws : List Jvm.Cond) (a : Addr) (b0 : Int32) (h0 : Heap) (hz_ : b0 = 0 ∨ b0 = 1) (Fp : Fld Z h0 a "java/util/OptionalLong" "isPresent" "Z" (.int b0)) :
    Mt l Z (⟨"java/util/OptionalLong", "isPresent", "()Z"⟩ : MethodName) jdk_2650_method_6_code 1 (some .boolean) ws ({ frames := 0, cells := 0, slots := 0, locals := 0 } : Room) #[(.ref a)] h0 (fun v h L => v = some (.int b0) ∧ h = h0 ∧ L = []) := by
  refine Mt.body pn_isp ?_
  intro p e s m below meth c s₁ hx hby hml hown hnm hret hlk hZ X0 e0
  refine Go.cast (g' := (mkF m 0 #[rv a] [])) (ef_isp m a) ?_
  have N0 := Fr.nil 0
  refine Go.st (T' := s₁) (g' := (mkF m 1 #[rv a] [(.ref a)])) ?_ (fun _ kk_ => XS.aloadN X0.here hx rfl (hb hby disp_0) rfl rfl  kk_)
  obtain ⟨T1, X1, e1, st1⟩ := getF X0 hx hZ hown (host := "") (Or.inl (hw _ (List.mem_of_getElem? (i := 103) rfl))) Via.refl e0 Fp (g := (mkF m 1 #[rv a] [(.ref a)])) rfl rfl (hb hby disp_1)
  refine Go.st (T' := T1) (g' := (mkF m 4 #[rv a] [(.int b0)])) ?_ st1
  refine Go.retN X1 hx hlk (t := .boolean) hret (by simp) (z' := b0) (by rcases hz_ with rfl | rfl <;> rfl) (hb hby disp_4) (by decide) (by decide) ?_
  try rw [e1]
  exact ⟨rfl, rfl, rfl⟩
theorem dgal_0 : decode jdk_2650_method_5_code 0 = .ok (.aload_n 0, 1) := by decide +kernel
theorem dgal_1 : decode jdk_2650_method_5_code 1 = .ok (.getfield 7, 3) := by decide +kernel
theorem dgal_4 : decode jdk_2650_method_5_code 4 = .ok (.ifCond .ne 13, 3) := by decide +kernel
theorem dgal_17 : decode jdk_2650_method_5_code 17 = .ok (.aload_n 0, 1) := by decide +kernel
theorem dgal_18 : decode jdk_2650_method_5_code 18 = .ok (.getfield 13, 3) := by decide +kernel
theorem dgal_21 : decode jdk_2650_method_5_code 21 = .ok (.lreturn, 1) := by decide +kernel
theorem pn_gal : plainFor (⟨"java/util/OptionalLong", "getAsLong", "()J"⟩ : MethodName) = true := by first | exact plainFor_of_name (by first | (simp [plainName, overriddenIn]; done) | decide +kernel) | decide +kernel
theorem ef_gal (m : MethodId) (x0 : Addr) : entryFrame m #[(.ref x0)] 1 = mkF m 0 #[rv x0] [] := by first | (simp [entryFrame, mkF, argsToLocals, Value.category]; done) | rfl
set_option maxRecDepth 65536 in
set_option maxHeartbeats 40000000 in
theorem rm_gal (l : Launch) (Z : State) (a0 : Array Value) (hw : ∀ d ∈ tables_1, d.before a0 Z = true) (ws : List Jvm.Cond) (a : Addr) (v0 : Int64) (h0 : Heap) (Fp : Fld Z h0 a "java/util/OptionalLong" "isPresent" "Z" (.int (1 : Int32))) (Fv : Fld Z h0 a "java/util/OptionalLong" "value" "J" (.long v0)) :
    Mt l Z (⟨"java/util/OptionalLong", "getAsLong", "()J"⟩ : MethodName) jdk_2650_method_5_code 1 (some .long) ws ({ frames := 0, cells := 0, slots := 0, locals := 0 } : Room) #[(.ref a)] h0 (fun v h L => v = some (.long v0) ∧ h = h0 ∧ L = []) := by
  refine Mt.body pn_gal ?_
  intro p e s m below meth c s₁ hx hby hml hown hnm hret hlk hZ X0 e0
  refine Go.cast (g' := (mkF m 0 #[rv a] [])) (ef_gal m a) ?_
  have N0 := Fr.nil 0
  refine Go.st (T' := s₁) (g' := (mkF m 1 #[rv a] [(.ref a)])) ?_ (fun _ kk_ => XS.aloadN X0.here hx rfl (hb hby dgal_0) rfl rfl  kk_)
  obtain ⟨T1, X1, e1, st1⟩ := getF X0 hx hZ hown (host := "") (Or.inl (hw _ (List.mem_of_getElem? (i := 103) rfl))) Via.refl e0 Fp (g := (mkF m 1 #[rv a] [(.ref a)])) rfl rfl (hb hby dgal_1)
  refine Go.st (T' := T1) (g' := (mkF m 4 #[rv a] [(.int (1 : Int32))])) ?_ st1
  refine Go.st (T' := T1) (g' := (mkF m 18 #[rv a] [(.ref a)])) ?_ (fun _ kk_ => XS.ifYes X1.here hx rfl (pc0 := 4) (pc' := 17) rfl (hb hby dgal_4) rfl ((if0 _ _).trans (feq ((by decide) : ¬ ((1 : Int32) = (0 : Int32)))).2) (by decide) (by decide) (XS.aloadN X1.here hx rfl (hb hby dgal_17) rfl rfl  kk_))
  obtain ⟨T2, X2, e2, st2⟩ := getF X1 hx hZ hown (host := "") (Or.inl (hw _ (List.mem_of_getElem? (i := 115) rfl))) Via.refl e1 Fv (g := (mkF m 18 #[rv a] [(.ref a)])) rfl rfl (hb hby dgal_18)
  refine Go.st (T' := T2) (g' := (mkF m 21 #[rv a] [(.long v0)])) ?_ st2
  refine Go.retL X2 hx hlk hret (hb hby dgal_21) (by decide) (by decide) ?_
  try rw [e2]
  exact ⟨rfl, rfl, rfl⟩
theorem ddig_0 : decode method_2_code 0 = .ok (.bipush 48, 2) := by decide +kernel
theorem ddig_2 : decode method_2_code 2 = .ok (.lload_n 0, 1) := by decide +kernel
theorem ddig_3 : decode method_2_code 3 = .ok (.lload_n 2, 1) := by decide +kernel
theorem ddig_4 : decode method_2_code 4 = .ok (.ldiv, 1) := by decide +kernel
theorem ddig_5 : decode method_2_code 5 = .ok (.ldc2_w 7, 3) := by decide +kernel
theorem ddig_8 : decode method_2_code 8 = .ok (.lrem, 1) := by decide +kernel
theorem ddig_9 : decode method_2_code 9 = .ok (.l2i, 1) := by decide +kernel
theorem ddig_10 : decode method_2_code 10 = .ok (.iadd, 1) := by decide +kernel
theorem ddig_11 : decode method_2_code 11 = .ok (.i2c, 1) := by decide +kernel
theorem ddig_12 : decode method_2_code 12 = .ok (.ireturn, 1) := by decide +kernel
theorem pn_dig : plainFor (⟨"com/example/stentor/stentor/core/PositiveDecimalParsePinLaw", "dig", "(JJ)C"⟩ : MethodName) = true := by first | exact plainFor_of_name (by first | (simp [plainName, overriddenIn]; done) | decide +kernel) | decide +kernel
theorem ef_dig (m : MethodId) (x0 : Int64) (x1 : Int64) : entryFrame m #[(.long x0), (.long x1)] 4 = mkF m 0 #[jv x0, .second, jv x1, .second] [] := by first | (simp [entryFrame, mkF, argsToLocals, Value.category]; done) | rfl
set_option maxRecDepth 65536 in
set_option maxHeartbeats 40000000 in
theorem rm_dig (l : Launch) (Z : State) (a0 : Array Value) (hw : ∀ d ∈ tables_1, d.before a0 Z = true) (ws : List Jvm.Cond) (W P : Nat) (h0 : Heap) (hW : W ≤ MX) (hP : 0 < P) (hP2 : P < 2 ^ 63) :
    Mt l Z (⟨"com/example/stentor/stentor/core/PositiveDecimalParsePinLaw", "dig", "(JJ)C"⟩ : MethodName) method_2_code 4 (some .char) ws ({ frames := 0, cells := 0, slots := 0, locals := 0 } : Room) #[(.long (Int64.ofNat W)), (.long (Int64.ofNat P))] h0 (fun v h L => v = some (.int (Int32.ofNat (48 + W / P % 10))) ∧ h = h0 ∧ L = []) := by
  refine Mt.body pn_dig ?_
  intro p e s m below meth c s₁ hx hby hml hown hnm hret hlk hZ X0 e0
  refine Go.cast (g' := (mkF m 0 #[jv (Int64.ofNat W), .second, jv (Int64.ofNat P), .second] [])) (ef_dig m (Int64.ofNat W) (Int64.ofNat P)) ?_
  have N0 := Fr.nil 0
  have hW2 : W < 2 ^ 63 := Nat.lt_of_le_of_lt hW (by decide)
  have hq2 : W / P < 2 ^ 63 := Nat.lt_of_le_of_lt (Nat.div_le_self _ _) hW2
  refine Go.st (T' := s₁) (g' := (mkF m 5 #[jv (Int64.ofNat W), .second, jv (Int64.ofNat P), .second] [(.long ((Int64.ofNat W) / (Int64.ofNat P))), (.int (48 : Int32))])) ?_ (fun _ kk_ => XS.bipush X0.here hx rfl (hb hby ddig_0) (XS.lloadN X0.here hx rfl (hb hby ddig_2) rfl  (XS.lloadN X0.here hx rfl (hb hby ddig_3) rfl  (XS.ldiv X0.here hx rfl (hb hby ddig_4) rfl (fun z => by have := (own_leq (a := P) (b := 0) hP2 (by decide)).mp z; omega) kk_))))
  rw [own_ldiv hW2 hP2]
  show Go p e below _ s₁ (mkF m 5 #[jv (Int64.ofNat W), .second, jv (Int64.ofNat P), .second] [(.long (Int64.ofNat (W / P))), (.int (48 : Int32))])
  refine Go.st (T' := s₁) (g' := (mkF m 9 #[jv (Int64.ofNat W), .second, jv (Int64.ofNat P), .second] [(.long ((Int64.ofNat (W / P)) - (Int64.ofNat (W / P)) / (10 : Int64) * (10 : Int64))), (.int (48 : Int32))])) ?_ (fun _ kk_ => X0.ldc2Long hx hown (mvT hZ (hw _ (List.mem_of_getElem? (i := 1) rfl))) (g := (mkF m 5 #[jv (Int64.ofNat W), .second, jv (Int64.ofNat P), .second] [(.long (Int64.ofNat (W / P))), (.int (48 : Int32))])) rfl (hb hby ddig_5) _ (XS.lrem X0.here hx rfl (hb hby ddig_8) rfl (by decide) kk_))
  rw [own_lrem10 hq2]
  show Go p e below _ s₁ (mkF m 9 #[jv (Int64.ofNat W), .second, jv (Int64.ofNat P), .second] [(.long (Int64.ofNat (W / P % 10))), (.int (48 : Int32))])
  refine Go.st (T' := s₁) (g' := (mkF m 10 #[jv (Int64.ofNat W), .second, jv (Int64.ofNat P), .second] [(.int ((Int64.ofNat (W / P % 10)).toInt32)), (.int (48 : Int32))])) ?_ (fun _ kk_ => XS.l2i X0.here hx rfl (hb hby ddig_9) rfl kk_)
  rw [own_l2i (n := W / P % 10) (by omega)]
  show Go p e below _ s₁ (mkF m 10 #[jv (Int64.ofNat W), .second, jv (Int64.ofNat P), .second] [(.int (Int32.ofNat (W / P % 10))), (.int (48 : Int32))])
  refine Go.st (T' := s₁) (g' := (mkF m 11 #[jv (Int64.ofNat W), .second, jv (Int64.ofNat P), .second] [(.int ((48 : Int32) + (Int32.ofNat (W / P % 10))))])) ?_ (fun _ kk_ => XS.iadd X0.here hx rfl (hb hby ddig_10) rfl kk_)
  rw [show (48 : Int32) + Int32.ofNat (W / P % 10) = Int32.ofNat (48 + W / P % 10) from own_add 48 _]
  show Go p e below _ s₁ (mkF m 11 #[jv (Int64.ofNat W), .second, jv (Int64.ofNat P), .second] [(.int (Int32.ofNat (48 + W / P % 10)))])
  refine Go.st (T' := s₁) (g' := (mkF m 12 #[jv (Int64.ofNat W), .second, jv (Int64.ofNat P), .second] [(.int ((Int32.ofNat (48 + W / P % 10)).toUInt32.toUInt16.toUInt32.toInt32))])) ?_ (fun _ kk_ => XS.i2c X0.here hx rfl (hb hby ddig_11) rfl kk_)
  rw [ch_back _ (show 48 + W / P % 10 < 256 by omega)]
  show Go p e below _ s₁ (mkF m 12 #[jv (Int64.ofNat W), .second, jv (Int64.ofNat P), .second] [(.int (Int32.ofNat (48 + W / P % 10)))])
  refine Go.retN X0 hx hlk (t := .char) hret (by simp) (z' := (Int32.ofNat (48 + W / P % 10))) (ch_nar _ (by omega)) (hb hby ddig_12) (by decide) (by decide) ?_
  try rw [e0]
  exact ⟨rfl, rfl, rfl⟩
theorem dsat_0 : decode method_3_code 0 = .ok (.lload_n 0, 1) := by decide +kernel
theorem dsat_1 : decode method_3_code 1 = .ok (.ldc2_w 9, 3) := by decide +kernel
theorem dsat_4 : decode method_3_code 4 = .ok (.lcmp, 1) := by decide +kernel
theorem dsat_5 : decode method_3_code 5 = .ok (.ifCond .le 7, 3) := by decide +kernel
theorem dsat_8 : decode method_3_code 8 = .ok (.ldc2_w 13, 3) := by decide +kernel
theorem dsat_11 : decode method_3_code 11 = .ok (.lreturn, 1) := by decide +kernel
theorem dsat_12 : decode method_3_code 12 = .ok (.lload_n 0, 1) := by decide +kernel
theorem dsat_13 : decode method_3_code 13 = .ok (.ldc2_w 9, 3) := by decide +kernel
theorem dsat_16 : decode method_3_code 16 = .ok (.lcmp, 1) := by decide +kernel
theorem dsat_17 : decode method_3_code 17 = .ok (.ifCond .ne 13, 3) := by decide +kernel
theorem dsat_20 : decode method_3_code 20 = .ok (.iload_n 2, 1) := by decide +kernel
theorem dsat_21 : decode method_3_code 21 = .ok (.bipush 7, 2) := by decide +kernel
theorem dsat_23 : decode method_3_code 23 = .ok (.if_icmp .le 7, 3) := by decide +kernel
theorem dsat_26 : decode method_3_code 26 = .ok (.ldc2_w 13, 3) := by decide +kernel
theorem dsat_29 : decode method_3_code 29 = .ok (.lreturn, 1) := by decide +kernel
theorem dsat_30 : decode method_3_code 30 = .ok (.lload_n 0, 1) := by decide +kernel
theorem dsat_31 : decode method_3_code 31 = .ok (.ldc2_w 7, 3) := by decide +kernel
theorem dsat_34 : decode method_3_code 34 = .ok (.lmul, 1) := by decide +kernel
theorem dsat_35 : decode method_3_code 35 = .ok (.iload_n 2, 1) := by decide +kernel
theorem dsat_36 : decode method_3_code 36 = .ok (.i2l, 1) := by decide +kernel
theorem dsat_37 : decode method_3_code 37 = .ok (.ladd, 1) := by decide +kernel
theorem dsat_38 : decode method_3_code 38 = .ok (.lreturn, 1) := by decide +kernel
theorem pn_sat : plainFor (⟨"com/example/stentor/stentor/core/PositiveDecimalParsePinLaw", "sat", "(JI)J"⟩ : MethodName) = true := by first | exact plainFor_of_name (by first | (simp [plainName, overriddenIn]; done) | decide +kernel) | decide +kernel
theorem ef_sat (m : MethodId) (x0 : Int64) (x1 : Int32) : entryFrame m #[(.long x0), (.int x1)] 3 = mkF m 0 #[jv x0, .second, iv x1] [] := by first | (simp [entryFrame, mkF, argsToLocals, Value.category]; done) | rfl
set_option maxRecDepth 65536 in
set_option maxHeartbeats 40000000 in
theorem rm_sat (l : Launch) (Z : State) (a0 : Array Value) (hw : ∀ d ∈ tables_1, d.before a0 Z = true) (ws : List Jvm.Cond) (x d : Nat) (h0 : Heap) (hx_ : x ≤ MX) (hd_ : d ≤ 9) :
    Mt l Z (⟨"com/example/stentor/stentor/core/PositiveDecimalParsePinLaw", "sat", "(JI)J"⟩ : MethodName) method_3_code 3 (some .long) ws ({ frames := 0, cells := 0, slots := 0, locals := 0 } : Room) #[(.long (Int64.ofNat x)), (.int (Int32.ofNat d))] h0 (fun v h L => v = some (.long (Int64.ofNat (satN x d))) ∧ h = h0 ∧ L = []) := by
  refine Mt.body pn_sat ?_
  intro p e s m below meth c s₁ hx hby hml hown hnm hret hlk hZ X0 e0
  refine Go.cast (g' := (mkF m 0 #[jv (Int64.ofNat x), .second, iv (Int32.ofNat d)] [])) (ef_sat m (Int64.ofNat x) (Int32.ofNat d)) ?_
  have N0 := Fr.nil 0
  have hx2 : x < 2 ^ 63 := Nat.lt_of_le_of_lt hx_ (by decide)
  refine Go.st (T' := s₁) (g' := (mkF m 5 #[jv (Int64.ofNat x), .second, iv (Int32.ofNat d)] [(.int (lcmpW (Int64.ofNat x) (922337203685477580 : Int64)))])) ?_ (fun _ kk_ => XS.lloadN X0.here hx rfl (hb hby dsat_0) rfl  (X0.ldc2Long hx hown (mvT hZ (hw _ (List.mem_of_getElem? (i := 154) rfl))) (g := (mkF m 1 #[jv (Int64.ofNat x), .second, iv (Int32.ofNat d)] [(.long (Int64.ofNat x))])) rfl (hb hby dsat_1) _ (XS.lcmp X0.here hx rfl (hb hby dsat_4) rfl kk_)))
  by_cases h1 : (0 : Int32) < (lcmpW (Int64.ofNat x) (922337203685477580 : Int64))
  ·
    refine Go.st (T' := s₁) (g' := (mkF m 8 #[jv (Int64.ofNat x), .second, iv (Int32.ofNat d)] [])) ?_ (fun _ kk_ => XS.ifNo X0.here hx rfl (hb hby dsat_5) rfl ((if0 _ _).trans (tlt (h1 : (0 : Int32) < (lcmpW (Int64.ofNat x) (922337203685477580 : Int64)))).2.2.2) kk_)
    have g1 : 922337203685477580 < x := (own_llt (a := 922337203685477580) (by decide) hx2).mp ((lw_gt _ _).mp h1)
    refine Go.st (T' := s₁) (g' := (mkF m 11 #[jv (Int64.ofNat x), .second, iv (Int32.ofNat d)] [(.long (9223372036854775807 : Int64))])) ?_ (fun _ kk_ => X0.ldc2Long hx hown (mvT hZ (hw _ (List.mem_of_getElem? (i := 19) rfl))) (g := (mkF m 8 #[jv (Int64.ofNat x), .second, iv (Int32.ofNat d)] [])) rfl (hb hby dsat_8) _ kk_)
    refine Go.retL X0 hx hlk hret (hb hby dsat_11) (by decide) (by decide) ?_
    try rw [e0]
    exact ⟨by rw [show satN x d = MX from if_pos g1] <;> rfl, rfl, rfl⟩
  ·
    refine Go.st (T' := s₁) (g' := (mkF m 12 #[jv (Int64.ofNat x), .second, iv (Int32.ofNat d)] [])) ?_ (fun _ kk_ => XS.ifYes X0.here hx rfl (pc0 := 5) (pc' := 12) rfl (hb hby dsat_5) rfl ((if0 _ _).trans (flt (h1 : ¬ ((0 : Int32) < (lcmpW (Int64.ofNat x) (922337203685477580 : Int64))))).2.2.2) (by decide) (by decide) kk_)
    have g1 : ¬ 922337203685477580 < x := fun z => h1 ((lw_gt _ _).mpr ((own_llt (a := 922337203685477580) (by decide) hx2).mpr z))
    refine Go.st (T' := s₁) (g' := (mkF m 17 #[jv (Int64.ofNat x), .second, iv (Int32.ofNat d)] [(.int (lcmpW (Int64.ofNat x) (922337203685477580 : Int64)))])) ?_ (fun _ kk_ => XS.lloadN X0.here hx rfl (hb hby dsat_12) rfl  (X0.ldc2Long hx hown (mvT hZ (hw _ (List.mem_of_getElem? (i := 154) rfl))) (g := (mkF m 13 #[jv (Int64.ofNat x), .second, iv (Int32.ofNat d)] [(.long (Int64.ofNat x))])) rfl (hb hby dsat_13) _ (XS.lcmp X0.here hx rfl (hb hby dsat_16) rfl kk_)))
    by_cases h2 : (lcmpW (Int64.ofNat x) (922337203685477580 : Int64)) = (0 : Int32)
    ·
      refine Go.st (T' := s₁) (g' := (mkF m 20 #[jv (Int64.ofNat x), .second, iv (Int32.ofNat d)] [])) ?_ (fun _ kk_ => XS.ifNo X0.here hx rfl (hb hby dsat_17) rfl ((if0 _ _).trans (teq (h2 : (lcmpW (Int64.ofNat x) (922337203685477580 : Int64)) = (0 : Int32))).2) kk_)
      have g2 : x = 922337203685477580 := (own_leq (b := 922337203685477580) hx2 (by decide)).mp ((lw_eq _ _).mp h2)
      refine Go.st (T' := s₁) (g' := (mkF m 23 #[jv (Int64.ofNat x), .second, iv (Int32.ofNat d)] [(.int (7 : Int32)), (.int (Int32.ofNat d))])) ?_ (fun _ kk_ => XS.iloadN X0.here hx rfl (hb hby dsat_20) rfl  (XS.bipush X0.here hx rfl (hb hby dsat_21) kk_))
      by_cases h3 : (7 : Int32) < (Int32.ofNat d)
      ·
        refine Go.st (T' := s₁) (g' := (mkF m 26 #[jv (Int64.ofNat x), .second, iv (Int32.ofNat d)] [])) ?_ (fun _ kk_ => XS.icmpNo X0.here hx rfl (hb hby dsat_23) rfl (tlt (h3 : (7 : Int32) < (Int32.ofNat d))).2.2.2 kk_)
        have g3 : 7 < d := (own_lt (i := 7) (by decide) (by omega)).mp h3
        refine Go.st (T' := s₁) (g' := (mkF m 29 #[jv (Int64.ofNat x), .second, iv (Int32.ofNat d)] [(.long (9223372036854775807 : Int64))])) ?_ (fun _ kk_ => X0.ldc2Long hx hown (mvT hZ (hw _ (List.mem_of_getElem? (i := 19) rfl))) (g := (mkF m 26 #[jv (Int64.ofNat x), .second, iv (Int32.ofNat d)] [])) rfl (hb hby dsat_26) _ kk_)
        refine Go.retL X0 hx hlk hret (hb hby dsat_29) (by decide) (by decide) ?_
        try rw [e0]
        exact ⟨by rw [show satN x d = MX from (if_neg g1).trans (if_pos ⟨g2, g3⟩)] <;> rfl, rfl, rfl⟩
      ·
        refine Go.st (T' := s₁) (g' := (mkF m 30 #[jv (Int64.ofNat x), .second, iv (Int32.ofNat d)] [])) ?_ (fun _ kk_ => XS.icmpYes X0.here hx rfl (pc0 := 23) (pc' := 30) rfl (hb hby dsat_23) rfl (flt (h3 : ¬ ((7 : Int32) < (Int32.ofNat d)))).2.2.2 (by decide) (by decide) kk_)
        have g3 : ¬ 7 < d := fun z => h3 ((own_lt (i := 7) (by decide) (by omega)).mpr z)
        refine Go.st (T' := s₁) (g' := (mkF m 37 #[jv (Int64.ofNat x), .second, iv (Int32.ofNat d)] [(.long ((Int32.ofNat d).toInt64)), (.long ((Int64.ofNat x) * (10 : Int64)))])) ?_ (fun _ kk_ => XS.lloadN X0.here hx rfl (hb hby dsat_30) rfl  (X0.ldc2Long hx hown (mvT hZ (hw _ (List.mem_of_getElem? (i := 1) rfl))) (g := (mkF m 31 #[jv (Int64.ofNat x), .second, iv (Int32.ofNat d)] [(.long (Int64.ofNat x))])) rfl (hb hby dsat_31) _ (XS.lmul X0.here hx rfl (hb hby dsat_34) rfl (XS.iloadN X0.here hx rfl (hb hby dsat_35) rfl  (XS.i2l X0.here hx rfl (hb hby dsat_36) rfl kk_)))))
        rw [own_i2l (n := d) (by omega)]
        show Go p e below _ s₁ (mkF m 37 #[jv (Int64.ofNat x), .second, iv (Int32.ofNat d)] [(.long (Int64.ofNat d)), (.long ((Int64.ofNat x) * (10 : Int64)))])
        refine Go.st (T' := s₁) (g' := (mkF m 38 #[jv (Int64.ofNat x), .second, iv (Int32.ofNat d)] [(.long (((Int64.ofNat x) * (10 : Int64)) + (Int64.ofNat d)))])) ?_ (fun _ kk_ => XS.ladd X0.here hx rfl (hb hby dsat_37) rfl kk_)
        rw [show Int64.ofNat x * (10 : Int64) + Int64.ofNat d = Int64.ofNat (x * 10 + d) from (congrArg (fun z => z + Int64.ofNat d) (own_lmul x 10)).trans (own_ladd _ _)]
        show Go p e below _ s₁ (mkF m 38 #[jv (Int64.ofNat x), .second, iv (Int32.ofNat d)] [(.long (Int64.ofNat (x * 10 + d)))])
        refine Go.retL X0 hx hlk hret (hb hby dsat_38) (by decide) (by decide) ?_
        try rw [e0]
        exact ⟨by rw [show satN x d = x * 10 + d from (if_neg g1).trans (if_neg (fun z => g3 z.2))] <;> rfl, rfl, rfl⟩
    ·
      refine Go.st (T' := s₁) (g' := (mkF m 30 #[jv (Int64.ofNat x), .second, iv (Int32.ofNat d)] [])) ?_ (fun _ kk_ => XS.ifYes X0.here hx rfl (pc0 := 17) (pc' := 30) rfl (hb hby dsat_17) rfl ((if0 _ _).trans (feq (h2 : ¬ ((lcmpW (Int64.ofNat x) (922337203685477580 : Int64)) = (0 : Int32)))).2) (by decide) (by decide) kk_)
      have g2 : ¬ x = 922337203685477580 := fun z => h2 ((lw_eq _ _).mpr ((own_leq (b := 922337203685477580) hx2 (by decide)).mpr z))
      refine Go.st (T' := s₁) (g' := (mkF m 37 #[jv (Int64.ofNat x), .second, iv (Int32.ofNat d)] [(.long ((Int32.ofNat d).toInt64)), (.long ((Int64.ofNat x) * (10 : Int64)))])) ?_ (fun _ kk_ => XS.lloadN X0.here hx rfl (hb hby dsat_30) rfl  (X0.ldc2Long hx hown (mvT hZ (hw _ (List.mem_of_getElem? (i := 1) rfl))) (g := (mkF m 31 #[jv (Int64.ofNat x), .second, iv (Int32.ofNat d)] [(.long (Int64.ofNat x))])) rfl (hb hby dsat_31) _ (XS.lmul X0.here hx rfl (hb hby dsat_34) rfl (XS.iloadN X0.here hx rfl (hb hby dsat_35) rfl  (XS.i2l X0.here hx rfl (hb hby dsat_36) rfl kk_)))))
      rw [own_i2l (n := d) (by omega)]
      show Go p e below _ s₁ (mkF m 37 #[jv (Int64.ofNat x), .second, iv (Int32.ofNat d)] [(.long (Int64.ofNat d)), (.long ((Int64.ofNat x) * (10 : Int64)))])
      refine Go.st (T' := s₁) (g' := (mkF m 38 #[jv (Int64.ofNat x), .second, iv (Int32.ofNat d)] [(.long (((Int64.ofNat x) * (10 : Int64)) + (Int64.ofNat d)))])) ?_ (fun _ kk_ => XS.ladd X0.here hx rfl (hb hby dsat_37) rfl kk_)
      rw [show Int64.ofNat x * (10 : Int64) + Int64.ofNat d = Int64.ofNat (x * 10 + d) from (congrArg (fun z => z + Int64.ofNat d) (own_lmul x 10)).trans (own_ladd _ _)]
      show Go p e below _ s₁ (mkF m 38 #[jv (Int64.ofNat x), .second, iv (Int32.ofNat d)] [(.long (Int64.ofNat (x * 10 + d)))])
      refine Go.retL X0 hx hlk hret (hb hby dsat_38) (by decide) (by decide) ?_
      try rw [e0]
      exact ⟨by rw [show satN x d = x * 10 + d from (if_neg g1).trans (if_neg (fun z => g2 z.1))] <;> rfl, rfl, rfl⟩
theorem dprs_0 : decode prog_6_method_2_code 0 = .ok (.lconst 0, 1) := by decide +kernel
theorem dprs_1 : decode prog_6_method_2_code 1 = .ok (.lstore_n 1, 1) := by decide +kernel
theorem dprs_2 : decode prog_6_method_2_code 2 = .ok (.iconst 0, 1) := by decide +kernel
theorem dprs_3 : decode prog_6_method_2_code 3 = .ok (.istore_n 3, 1) := by decide +kernel
theorem dprs_4 : decode prog_6_method_2_code 4 = .ok (.iload_n 3, 1) := by decide +kernel
theorem dprs_5 : decode prog_6_method_2_code 5 = .ok (.aload_n 0, 1) := by decide +kernel
theorem dprs_6 : decode prog_6_method_2_code 6 = .ok (.invokevirtual 7, 3) := by decide +kernel
theorem dprs_9 : decode prog_6_method_2_code 9 = .ok (.if_icmp .ge 73, 3) := by decide +kernel
theorem dprs_12 : decode prog_6_method_2_code 12 = .ok (.aload_n 0, 1) := by decide +kernel
theorem dprs_13 : decode prog_6_method_2_code 13 = .ok (.iload_n 3, 1) := by decide +kernel
theorem dprs_14 : decode prog_6_method_2_code 14 = .ok (.invokevirtual 13, 3) := by decide +kernel
theorem dprs_17 : decode prog_6_method_2_code 17 = .ok (.istore 4, 2) := by decide +kernel
theorem dprs_19 : decode prog_6_method_2_code 19 = .ok (.iload 4, 2) := by decide +kernel
theorem dprs_21 : decode prog_6_method_2_code 21 = .ok (.bipush 48, 2) := by decide +kernel
theorem dprs_23 : decode prog_6_method_2_code 23 = .ok (.if_icmp .lt 10, 3) := by decide +kernel
theorem dprs_26 : decode prog_6_method_2_code 26 = .ok (.iload 4, 2) := by decide +kernel
theorem dprs_28 : decode prog_6_method_2_code 28 = .ok (.bipush 57, 2) := by decide +kernel
theorem dprs_30 : decode prog_6_method_2_code 30 = .ok (.if_icmp .le 7, 3) := by decide +kernel
theorem dprs_33 : decode prog_6_method_2_code 33 = .ok (.invokestatic 17, 3) := by decide +kernel
theorem dprs_36 : decode prog_6_method_2_code 36 = .ok (.areturn, 1) := by decide +kernel
theorem dprs_37 : decode prog_6_method_2_code 37 = .ok (.iload 4, 2) := by decide +kernel
theorem dprs_39 : decode prog_6_method_2_code 39 = .ok (.bipush 48, 2) := by decide +kernel
theorem dprs_41 : decode prog_6_method_2_code 41 = .ok (.isub, 1) := by decide +kernel
theorem dprs_42 : decode prog_6_method_2_code 42 = .ok (.istore 5, 2) := by decide +kernel
theorem dprs_44 : decode prog_6_method_2_code 44 = .ok (.lload_n 1, 1) := by decide +kernel
theorem dprs_45 : decode prog_6_method_2_code 45 = .ok (.ldc2_w 25, 3) := by decide +kernel
theorem dprs_48 : decode prog_6_method_2_code 48 = .ok (.iload 5, 2) := by decide +kernel
theorem dprs_50 : decode prog_6_method_2_code 50 = .ok (.i2l, 1) := by decide +kernel
theorem dprs_51 : decode prog_6_method_2_code 51 = .ok (.lsub, 1) := by decide +kernel
theorem dprs_52 : decode prog_6_method_2_code 52 = .ok (.ldc2_w 27, 3) := by decide +kernel
theorem dprs_55 : decode prog_6_method_2_code 55 = .ok (.ldiv, 1) := by decide +kernel
theorem dprs_56 : decode prog_6_method_2_code 56 = .ok (.lcmp, 1) := by decide +kernel
theorem dprs_57 : decode prog_6_method_2_code 57 = .ok (.ifCond .le 9, 3) := by decide +kernel
theorem dprs_60 : decode prog_6_method_2_code 60 = .ok (.ldc2_w 25, 3) := by decide +kernel
theorem dprs_63 : decode prog_6_method_2_code 63 = .ok (.goto 12, 3) := by decide +kernel
theorem dprs_66 : decode prog_6_method_2_code 66 = .ok (.lload_n 1, 1) := by decide +kernel
theorem dprs_67 : decode prog_6_method_2_code 67 = .ok (.ldc2_w 27, 3) := by decide +kernel
theorem dprs_70 : decode prog_6_method_2_code 70 = .ok (.lmul, 1) := by decide +kernel
theorem dprs_71 : decode prog_6_method_2_code 71 = .ok (.iload 5, 2) := by decide +kernel
theorem dprs_73 : decode prog_6_method_2_code 73 = .ok (.i2l, 1) := by decide +kernel
theorem dprs_74 : decode prog_6_method_2_code 74 = .ok (.ladd, 1) := by decide +kernel
theorem dprs_75 : decode prog_6_method_2_code 75 = .ok (.lstore_n 1, 1) := by decide +kernel
theorem dprs_76 : decode prog_6_method_2_code 76 = .ok (.iinc 3 1, 3) := by decide +kernel
theorem dprs_79 : decode prog_6_method_2_code 79 = .ok (.goto (-75), 3) := by decide +kernel
theorem dprs_82 : decode prog_6_method_2_code 82 = .ok (.lload_n 1, 1) := by decide +kernel
theorem dprs_83 : decode prog_6_method_2_code 83 = .ok (.lconst 0, 1) := by decide +kernel
theorem dprs_84 : decode prog_6_method_2_code 84 = .ok (.lcmp, 1) := by decide +kernel
theorem dprs_85 : decode prog_6_method_2_code 85 = .ok (.ifCond .ne 9, 3) := by decide +kernel
theorem dprs_88 : decode prog_6_method_2_code 88 = .ok (.invokestatic 17, 3) := by decide +kernel
theorem dprs_91 : decode prog_6_method_2_code 91 = .ok (.goto 7, 3) := by decide +kernel
theorem dprs_94 : decode prog_6_method_2_code 94 = .ok (.lload_n 1, 1) := by decide +kernel
theorem dprs_95 : decode prog_6_method_2_code 95 = .ok (.invokestatic 29, 3) := by decide +kernel
theorem dprs_98 : decode prog_6_method_2_code 98 = .ok (.areturn, 1) := by decide +kernel
theorem pn_prs : plainFor (⟨"com/example/stentor/stentor/core/PositiveDecimal", "parse", "(Ljava/lang/String;)Ljava/util/OptionalLong;"⟩ : MethodName) = true := by first | exact plainFor_of_name (by first | (simp [plainName, overriddenIn]; done) | decide +kernel) | decide +kernel
theorem ef_prs (m : MethodId) (x0 : Addr) : entryFrame m #[(.ref x0)] 6 = mkF m 0 #[rv x0, .unset, .unset, .unset, .unset, .unset] [] := by first | (simp [entryFrame, mkF, argsToLocals, Value.category]; done) | rfl
set_option maxRecDepth 65536 in
set_option maxHeartbeats 40000000 in
theorem rm_prs (l : Launch) (Z : State) (a0 : Array Value) (hw : ∀ d ∈ tables_1, d.before a0 Z = true) (ws : List Jvm.Cond) (a : Addr) (n bad : Nat) (ch val : Nat → Nat) (n0 : Nat) (cS : Int32) (rF : Value) (eA : Addr) (h0 : Heap) (Z0 : n0 ≤ h0.size) (hn : n ≤ 21) (hbd : bad ≤ n) (hdg : ∀ q, q < bad → 48 ≤ ch q ∧ ch q ≤ 57) (hv0 : val 0 = 0) (hvs : ∀ q, q < bad → val (q + 1) = stpN (val q) (ch q - 48)) (hvm : ∀ q, val q ≤ MX) (hnd : bad < n → ¬ (48 ≤ ch bad ∧ ch bad ≤ 57)) (hcm : ∀ q, q < n → ch q < 65536) (SX : StrX Z h0 a n ch) (O0 : Old Z n0 h0) (Sc : Sta Z Z.heap "java/lang/String" "COMPACT_STRINGS" "Z" (.int cS)) (hcS : ¬ (cS = (0 : Int32))) (Sa : Sta Z Z.heap "java/lang/StringUTF16" "$assertionsDisabled" "Z" (.int (1 : Int32))) (Sh : Sta Z Z.heap "java/lang/StringUTF16" "HI_BYTE_SHIFT" "I" (.int (0 : Int32))) (Sl : Sta Z Z.heap "java/lang/StringUTF16" "LO_BYTE_SHIFT" "I" (.int (8 : Int32))) (Sr : Sta Z Z.heap "jdk/internal/util/Preconditions" "SIOOBE_FORMATTER" "Ljava/util/function/BiFunction;" rF) (hr_rF : rF.isRef = true) (Se : Sta Z Z.heap "java/util/OptionalLong" "EMPTY" "Ljava/util/OptionalLong;" (.ref eA)) (Ee : Exa Z Z.heap eA "java/util/OptionalLong") (Fe : Fld Z Z.heap eA "java/util/OptionalLong" "isPresent" "Z" (.int (0 : Int32))) :
    Mt l Z (⟨"com/example/stentor/stentor/core/PositiveDecimal", "parse", "(Ljava/lang/String;)Ljava/util/OptionalLong;"⟩ : MethodName) prog_6_method_2_code 6 (some (.object "java/util/OptionalLong")) ws ({ frames := 5, cells := 1, slots := 2, locals := 66 } : Room) #[(.ref a)] h0 (fun v h L => ∃ a, v = some (.ref a) ∧ Fr n0 L ∧ Keep h0 h [] ∧ Exa Z h a "java/util/OptionalLong" ∧ (((bad < n ∨ val n = 0) ∧ Fld Z h a "java/util/OptionalLong" "isPresent" "Z" (.int (0 : Int32))) ∨ (¬ (bad < n ∨ val n = 0) ∧ Fld Z h a "java/util/OptionalLong" "isPresent" "Z" (.int (1 : Int32)) ∧ Fld Z h a "java/util/OptionalLong" "value" "J" (.long (Int64.ofNat (val n)))))) := by
  refine Mt.body pn_prs ?_
  intro p e s m below meth c s₁ hx hby hml hown hnm hret hlk hZ X0 e0
  refine Go.cast (g' := (mkF m 0 #[rv a, .unset, .unset, .unset, .unset, .unset] [])) (ef_prs m a) ?_
  have N0 := Fr.nil n0
  refine Go.st (T' := s₁) (g' := (mkF m 4 #[rv a, jv (0 : Int64), .second, iv (0 : Int32), .unset, .unset] [])) ?_ (fun _ kk_ => XS.lconst X0.here hx rfl (hb hby dprs_0) (XS.lstoreN X0.here hx rfl (hb hby dprs_1) rfl (l' := #[rv a, jv (0 : Int64), .second, .unset, .unset, .unset]) rfl (XS.iconst X0.here hx rfl (hb hby dprs_2) (XS.istoreN X0.here hx rfl (hb hby dprs_3) rfl (l' := #[rv a, jv (0 : Int64), .second, iv (0 : Int32), .unset, .unset]) rfl kk_))))
  have loop : ∀ (r i : Nat) (T : State) (locs : List Loc) (s4 s5 : Slot), i + r = n → i ≤ bad → Stand p l e ({ frames := 5, cells := 1, slots := 2, locals := 66 } : Room) s m #[.ref a] below meth c T locs 0 0 → T.heap = h0 → Fr n0 locs → One s4 → One s5 → Go p e below (Wf s 1 2 (fun v h L => ∃ a, v = some (.ref a) ∧ Fr n0 L ∧ Keep h0 h [] ∧ Exa Z h a "java/util/OptionalLong" ∧ (((bad < n ∨ val n = 0) ∧ Fld Z h a "java/util/OptionalLong" "isPresent" "Z" (.int (0 : Int32))) ∨ (¬ (bad < n ∨ val n = 0) ∧ Fld Z h a "java/util/OptionalLong" "isPresent" "Z" (.int (1 : Int32)) ∧ Fld Z h a "java/util/OptionalLong" "value" "J" (.long (Int64.ofNat (val n))))))) T (mkF m 4 #[rv a, jv (Int64.ofNat (val i)), .second, iv (Int32.ofNat i), s4, s5] []) := by
    intro r
    induction r with
    | zero =>
      intro i T locs s4 s5 hi hib X e1 NA hs4 hs5
      have hvi : val i < 2 ^ 63 := Nat.lt_of_le_of_lt (hvm i) (by decide)
      have K0 := Keep.refl h0 ([] : List Addr)
      refine Go.st (T' := T) (g' := (mkF m 6 #[rv a, jv (Int64.ofNat (val i)), .second, iv (Int32.ofNat i), s4, s5] [(.ref a), (.int (Int32.ofNat i))])) ?_ (fun _ kk_ => XS.iloadN X.here hx rfl (hb hby dprs_4) rfl  (XS.aloadN X.here hx rfl (hb hby dprs_5) rfl rfl  kk_))
      refine Go.callV (y := (⟨"java/lang/String", "length", "()I"⟩ : MethodName)) (z := (⟨"java/lang/String", "length", "()I"⟩ : MethodName)) X hx hZ hown (hw _ (List.mem_of_getElem? (i := 59) rfl)) (hw _ (List.mem_of_getElem? (i := 60) rfl)) (notFace_of_selects (args := #[]) (mvT hZ (hw _ (List.mem_of_getElem? (i := 62) rfl)))) (hw _ (List.mem_of_getElem? (i := 62) rfl)) (hw _ (List.mem_of_getElem? (i := 61) rfl)) (hw _ (List.mem_of_getElem? (i := 28) rfl)) (hw _ (List.mem_of_getElem? (i := 63) rfl)) (by decide) 1 (rm_lnX l Z a0 hw [] a n ch n0 cS h0 hn SX O0 Sc hcS) e1 (by decide) (by decide) (by decide) (by decide) SX.exa (argsL := []) (rest := [(.int (Int32.ofNat i))]) rfl (by rw [hml]; rfl) (lenOf pd__28_29I rfl) rfl rfl (by show 2 * 0 + _ ≤ _; exact Nat.le_of_eq rfl) (hb hby dprs_6) ?_
      rintro _ T1 L1 X1 ⟨rfl, e1, rfl⟩
      have N2 := Fr.app NA (Fr.nil _)
      show Go p e below _ T1 (mkF m 9 #[rv a, jv (Int64.ofNat (val i)), .second, iv (Int32.ofNat i), s4, s5] [(.int (Int32.ofNat n)), (.int (Int32.ofNat i))])
      obtain rfl : i = n := by omega
      show Go p e below _ T1 (mkF m 9 #[rv a, jv (Int64.ofNat (val i)), .second, iv (Int32.ofNat i), s4, s5] [(.int (Int32.ofNat i)), (.int (Int32.ofNat i))])
      refine Go.st (T' := T1) (g' := (mkF m 85 #[rv a, jv (Int64.ofNat (val i)), .second, iv (Int32.ofNat i), s4, s5] [(.int (lcmpW (Int64.ofNat (val i)) (0 : Int64)))])) ?_ (fun _ kk_ => XS.icmpYes X1.here hx rfl (pc0 := 9) (pc' := 82) rfl (hb hby dprs_9) rfl (flt ((fun z => by have := (own_lt (by omega) (by omega)).mp z; omega) : ¬ ((Int32.ofNat i) < (Int32.ofNat i)))).2.1 (by decide) (by decide) (XS.lloadN X1.here hx rfl (hb hby dprs_82) rfl  (XS.lconst X1.here hx rfl (hb hby dprs_83) (XS.lcmp X1.here hx rfl (hb hby dprs_84) rfl kk_))))
      by_cases h1 : (lcmpW (Int64.ofNat (val i)) (0 : Int64)) = (0 : Int32)
      ·
        refine Go.st (T' := T1) (g' := (mkF m 88 #[rv a, jv (Int64.ofNat (val i)), .second, iv (Int32.ofNat i), s4, s5] [])) ?_ (fun _ kk_ => XS.ifNo X1.here hx rfl (hb hby dprs_85) rfl ((if0 _ _).trans (teq (h1 : (lcmpW (Int64.ofNat (val i)) (0 : Int64)) = (0 : Int32))).2) kk_)
        have g1 : val i = 0 := (own_leq (b := 0) hvi (by decide)).mp ((lw_eq _ _).mp h1)
        refine Go.callS (y := (⟨"java/util/OptionalLong", "empty", "()Ljava/util/OptionalLong;"⟩ : MethodName)) X1 hx hZ hown (hw _ (List.mem_of_getElem? (i := 93) rfl)) (hw _ (List.mem_of_getElem? (i := 94) rfl)) (hw _ (List.mem_of_getElem? (i := 95) rfl)) (hw _ (List.mem_of_getElem? (i := 96) rfl)) (by decide) 0 (rm_oem l Z a0 hw [] n0 eA h0 O0 Se Ee Fe) e1 (by decide) (by decide) (by decide) (by decide) (argsL := []) (rest := []) rfl (by rw [hml]; rfl) (lenOf pd__28_29Ljava_2futil_2fOptionalLong_3b rfl) rfl rfl (by show 2 * 0 + _ ≤ _; exact Nat.le_of_eq rfl) (hb hby dprs_88) ?_
        rintro _ T3 L3 X3 ⟨rfl, e3, rfl⟩
        have N4 := Fr.app N2 (Fr.nil _)
        show Go p e below _ T3 (mkF m 91 #[rv a, jv (Int64.ofNat (val i)), .second, iv (Int32.ofNat i), s4, s5] [(.ref eA)])
        refine Go.st (T' := T3) (g' := (mkF m 98 #[rv a, jv (Int64.ofNat (val i)), .second, iv (Int32.ofNat i), s4, s5] [(.ref eA)])) ?_ (fun _ kk_ => XS.goto X3.here hx rfl (pc0 := 91) (pc' := 98) rfl (hb hby dprs_91) (by decide) (by decide) kk_)
        refine Go.retA X3 hx hlk hret rfl rfl (hb hby dprs_98) (by decide) (by decide) ?_
        try rw [e3]
        exact ⟨eA, rfl, N4, K0, Ee.ext O0.2, Or.inl ⟨Or.inr g1, Fe.ext O0.2⟩⟩
      ·
        refine Go.st (T' := T1) (g' := (mkF m 94 #[rv a, jv (Int64.ofNat (val i)), .second, iv (Int32.ofNat i), s4, s5] [])) ?_ (fun _ kk_ => XS.ifYes X1.here hx rfl (pc0 := 85) (pc' := 94) rfl (hb hby dprs_85) rfl ((if0 _ _).trans (feq (h1 : ¬ ((lcmpW (Int64.ofNat (val i)) (0 : Int64)) = (0 : Int32)))).2) (by decide) (by decide) kk_)
        have g1 : ¬ val i = 0 := fun z => h1 ((lw_eq _ _).mpr ((own_leq (b := 0) hvi (by decide)).mpr z))
        refine Go.st (T' := T1) (g' := (mkF m 95 #[rv a, jv (Int64.ofNat (val i)), .second, iv (Int32.ofNat i), s4, s5] [(.long (Int64.ofNat (val i)))])) ?_ (fun _ kk_ => XS.lloadN X1.here hx rfl (hb hby dprs_94) rfl  kk_)
        refine Go.callS (y := (⟨"java/util/OptionalLong", "of", "(J)Ljava/util/OptionalLong;"⟩ : MethodName)) X1 hx hZ hown (hw _ (List.mem_of_getElem? (i := 105) rfl)) (hw _ (List.mem_of_getElem? (i := 106) rfl)) (hw _ (List.mem_of_getElem? (i := 95) rfl)) (hw _ (List.mem_of_getElem? (i := 107) rfl)) (by decide) 0 (rm_oof l Z a0 hw [] (Int64.ofNat (val i)) n0 h0 Z0) e1 (by decide) (by decide) (by decide) (by decide) (argsL := [(.long (Int64.ofNat (val i)))]) (rest := []) rfl (by rw [hml]; rfl) (lenOf pd__28J_29Ljava_2futil_2fOptionalLong_3b rfl) rfl rfl (by show 2 * 0 + _ ≤ _; exact Nat.le_of_eq rfl) (hb hby dprs_95) ?_
        rintro _ T5 L5 X5 ⟨x, rfl, N5, K5, E5, Fp5, Fv5⟩
        have N6 := Fr.app N2 N5
        have O7 := O0.keep K5 all0
        have Z8 : n0 ≤ T5.heap.size := Nat.le_trans Z0 K5.1
        have K9 : Keep h0 T5.heap ([] : List Addr) := K0.trans K5 all0
        show Go p e below _ T5 (mkF m 98 #[rv a, jv (Int64.ofNat (val i)), .second, iv (Int32.ofNat i), s4, s5] [(.ref x)])
        refine Go.retA X5 hx hlk hret rfl rfl (hb hby dprs_98) (by decide) (by decide) ?_
        exact ⟨x, rfl, N6, K9, E5, Or.inr ⟨fun z => z.elim (fun z => by omega) g1, Fp5, Fv5⟩⟩
    | succ r ih =>
      intro i T locs s4 s5 hi hib X e1 NA hs4 hs5
      have hvi : val i < 2 ^ 63 := Nat.lt_of_le_of_lt (hvm i) (by decide)
      have K0 := Keep.refl h0 ([] : List Addr)
      refine Go.st (T' := T) (g' := (mkF m 6 #[rv a, jv (Int64.ofNat (val i)), .second, iv (Int32.ofNat i), s4, s5] [(.ref a), (.int (Int32.ofNat i))])) ?_ (fun _ kk_ => XS.iloadN X.here hx rfl (hb hby dprs_4) rfl  (XS.aloadN X.here hx rfl (hb hby dprs_5) rfl rfl  kk_))
      refine Go.callV (y := (⟨"java/lang/String", "length", "()I"⟩ : MethodName)) (z := (⟨"java/lang/String", "length", "()I"⟩ : MethodName)) X hx hZ hown (hw _ (List.mem_of_getElem? (i := 59) rfl)) (hw _ (List.mem_of_getElem? (i := 60) rfl)) (notFace_of_selects (args := #[]) (mvT hZ (hw _ (List.mem_of_getElem? (i := 62) rfl)))) (hw _ (List.mem_of_getElem? (i := 62) rfl)) (hw _ (List.mem_of_getElem? (i := 61) rfl)) (hw _ (List.mem_of_getElem? (i := 28) rfl)) (hw _ (List.mem_of_getElem? (i := 63) rfl)) (by decide) 1 (rm_lnX l Z a0 hw [] a n ch n0 cS h0 hn SX O0 Sc hcS) e1 (by decide) (by decide) (by decide) (by decide) SX.exa (argsL := []) (rest := [(.int (Int32.ofNat i))]) rfl (by rw [hml]; rfl) (lenOf pd__28_29I rfl) rfl rfl (by show 2 * 0 + _ ≤ _; exact Nat.le_of_eq rfl) (hb hby dprs_6) ?_
      rintro _ T10 L10 X10 ⟨rfl, e10, rfl⟩
      have N11 := Fr.app NA (Fr.nil _)
      show Go p e below _ T10 (mkF m 9 #[rv a, jv (Int64.ofNat (val i)), .second, iv (Int32.ofNat i), s4, s5] [(.int (Int32.ofNat n)), (.int (Int32.ofNat i))])
      have hin : i < n := by omega
      have hci := hcm i hin
      refine Go.st (T' := T10) (g' := (mkF m 14 #[rv a, jv (Int64.ofNat (val i)), .second, iv (Int32.ofNat i), s4, s5] [(.int (Int32.ofNat i)), (.ref a)])) ?_ (fun _ kk_ => XS.icmpNo X10.here hx rfl (hb hby dprs_9) rfl (tlt (((own_lt (by omega) (by omega)).mpr hin) : (Int32.ofNat i) < (Int32.ofNat n))).2.1 (XS.aloadN X10.here hx rfl (hb hby dprs_12) rfl rfl  (XS.iloadN X10.here hx rfl (hb hby dprs_13) rfl  kk_)))
      refine Go.callV (y := (⟨"java/lang/String", "charAt", "(I)C"⟩ : MethodName)) (z := (⟨"java/lang/String", "charAt", "(I)C"⟩ : MethodName)) X10 hx hZ hown (hw _ (List.mem_of_getElem? (i := 69) rfl)) (hw _ (List.mem_of_getElem? (i := 70) rfl)) (notFace_of_selects (args := #[]) (mvT hZ (hw _ (List.mem_of_getElem? (i := 72) rfl)))) (hw _ (List.mem_of_getElem? (i := 72) rfl)) (hw _ (List.mem_of_getElem? (i := 71) rfl)) (hw _ (List.mem_of_getElem? (i := 28) rfl)) (hw _ (List.mem_of_getElem? (i := 73) rfl)) (by decide) 0 (rm_chX l Z a0 hw [] a i n ch rF n0 cS h0 hin hn SX O0 Sc hcS Sa Sh Sl Sr hr_rF) e10 (by decide) (by decide) (by decide) (by decide) SX.exa (argsL := [(.int (Int32.ofNat i))]) (rest := []) rfl (by rw [hml]; rfl) (lenOf pd__28I_29C rfl) rfl rfl (by show 2 * 0 + _ ≤ _; exact Nat.le_of_eq rfl) (hb hby dprs_14) ?_
      rintro _ T12 L12 X12 ⟨rfl, e12, rfl⟩
      have N13 := Fr.app N11 (Fr.nil _)
      show Go p e below _ T12 (mkF m 17 #[rv a, jv (Int64.ofNat (val i)), .second, iv (Int32.ofNat i), s4, s5] [(.int (Int32.ofNat (ch i)))])
      refine Go.st (T' := T12) (g' := (mkF m 23 #[rv a, jv (Int64.ofNat (val i)), .second, iv (Int32.ofNat i), iv (Int32.ofNat (ch i)), s5] [(.int (48 : Int32)), (.int (Int32.ofNat (ch i)))])) ?_ (fun _ kk_ => XS.istore X12.here hx rfl (hb hby dprs_17) rfl (l' := #[rv a, jv (Int64.ofNat (val i)), .second, iv (Int32.ofNat i), iv (Int32.ofNat (ch i)), s5]) (by rcases hs4 with rfl | ⟨w, rfl, hw_⟩ <;> first | rfl | (cases w <;> first | rfl | (simp [Value.category] at hw_))) (XS.iload X12.here hx rfl (hb hby dprs_19) rfl  (XS.bipush X12.here hx rfl (hb hby dprs_21) kk_)))
      by_cases hq : i < bad
      ·
        obtain ⟨hd1, hd2⟩ := hdg i hq
        refine Go.st (T' := T12) (g' := (mkF m 42 #[rv a, jv (Int64.ofNat (val i)), .second, iv (Int32.ofNat i), iv (Int32.ofNat (ch i)), s5] [(.int ((Int32.ofNat (ch i)) - (48 : Int32)))])) ?_ (fun _ kk_ => XS.icmpNo X12.here hx rfl (hb hby dprs_23) rfl (flt ((fun z => by have := (own_lt (n := 48) (by omega) (by decide)).mp z; omega) : ¬ ((Int32.ofNat (ch i)) < (48 : Int32)))).1 (XS.iload X12.here hx rfl (hb hby dprs_26) rfl  (XS.bipush X12.here hx rfl (hb hby dprs_28) (XS.icmpYes X12.here hx rfl (pc0 := 30) (pc' := 37) rfl (hb hby dprs_30) rfl (flt ((fun z => by have := (own_lt (i := 57) (by decide) (by omega)).mp z; omega) : ¬ ((57 : Int32) < (Int32.ofNat (ch i))))).2.2.2 (by decide) (by decide) (XS.iload X12.here hx rfl (hb hby dprs_37) rfl  (XS.bipush X12.here hx rfl (hb hby dprs_39) (XS.isub X12.here hx rfl (hb hby dprs_41) rfl kk_)))))))
        rw [show Int32.ofNat (ch i) - (48 : Int32) = Int32.ofNat (ch i - 48) from own_sub (n := 48) hd1]
        show Go p e below _ T12 (mkF m 42 #[rv a, jv (Int64.ofNat (val i)), .second, iv (Int32.ofNat i), iv (Int32.ofNat (ch i)), s5] [(.int (Int32.ofNat (ch i - 48)))])
        refine Go.st (T' := T12) (g' := (mkF m 51 #[rv a, jv (Int64.ofNat (val i)), .second, iv (Int32.ofNat i), iv (Int32.ofNat (ch i)), iv (Int32.ofNat (ch i - 48))] [(.long ((Int32.ofNat (ch i - 48)).toInt64)), (.long (9223372036854775807 : Int64)), (.long (Int64.ofNat (val i)))])) ?_ (fun _ kk_ => XS.istore X12.here hx rfl (hb hby dprs_42) rfl (l' := #[rv a, jv (Int64.ofNat (val i)), .second, iv (Int32.ofNat i), iv (Int32.ofNat (ch i)), iv (Int32.ofNat (ch i - 48))]) (by rcases hs5 with rfl | ⟨w, rfl, hw_⟩ <;> first | rfl | (cases w <;> first | rfl | (simp [Value.category] at hw_))) (XS.lloadN X12.here hx rfl (hb hby dprs_44) rfl  (X12.ldc2Long hx hown (mvT hZ (hw _ (List.mem_of_getElem? (i := 91) rfl))) (g := (mkF m 45 #[rv a, jv (Int64.ofNat (val i)), .second, iv (Int32.ofNat i), iv (Int32.ofNat (ch i)), iv (Int32.ofNat (ch i - 48))] [(.long (Int64.ofNat (val i)))])) rfl (hb hby dprs_45) _ (XS.iload X12.here hx rfl (hb hby dprs_48) rfl  (XS.i2l X12.here hx rfl (hb hby dprs_50) rfl kk_)))))
        rw [own_i2l (n := ch i - 48) (by omega)]
        show Go p e below _ T12 (mkF m 51 #[rv a, jv (Int64.ofNat (val i)), .second, iv (Int32.ofNat i), iv (Int32.ofNat (ch i)), iv (Int32.ofNat (ch i - 48))] [(.long (Int64.ofNat (ch i - 48))), (.long (9223372036854775807 : Int64)), (.long (Int64.ofNat (val i)))])
        refine Go.st (T' := T12) (g' := (mkF m 52 #[rv a, jv (Int64.ofNat (val i)), .second, iv (Int32.ofNat i), iv (Int32.ofNat (ch i)), iv (Int32.ofNat (ch i - 48))] [(.long ((9223372036854775807 : Int64) - (Int64.ofNat (ch i - 48)))), (.long (Int64.ofNat (val i)))])) ?_ (fun _ kk_ => XS.lsub X12.here hx rfl (hb hby dprs_51) rfl kk_)
        rw [show (9223372036854775807 : Int64) - Int64.ofNat (ch i - 48) = Int64.ofNat (MX - (ch i - 48)) from own_lsub (i := MX) (by unfold MX; omega)]
        show Go p e below _ T12 (mkF m 52 #[rv a, jv (Int64.ofNat (val i)), .second, iv (Int32.ofNat i), iv (Int32.ofNat (ch i)), iv (Int32.ofNat (ch i - 48))] [(.long (Int64.ofNat (MX - (ch i - 48)))), (.long (Int64.ofNat (val i)))])
        refine Go.st (T' := T12) (g' := (mkF m 56 #[rv a, jv (Int64.ofNat (val i)), .second, iv (Int32.ofNat i), iv (Int32.ofNat (ch i)), iv (Int32.ofNat (ch i - 48))] [(.long ((Int64.ofNat (MX - (ch i - 48))) / (10 : Int64))), (.long (Int64.ofNat (val i)))])) ?_ (fun _ kk_ => X12.ldc2Long hx hown (mvT hZ (hw _ (List.mem_of_getElem? (i := 92) rfl))) (g := (mkF m 52 #[rv a, jv (Int64.ofNat (val i)), .second, iv (Int32.ofNat i), iv (Int32.ofNat (ch i)), iv (Int32.ofNat (ch i - 48))] [(.long (Int64.ofNat (MX - (ch i - 48)))), (.long (Int64.ofNat (val i)))])) rfl (hb hby dprs_52) _ (XS.ldiv X12.here hx rfl (hb hby dprs_55) rfl (by decide) kk_))
        rw [show Int64.ofNat (MX - (ch i - 48)) / (10 : Int64) = Int64.ofNat ((MX - (ch i - 48)) / 10) from own_ldiv (b := 10) (by unfold MX; omega) (by decide)]
        show Go p e below _ T12 (mkF m 56 #[rv a, jv (Int64.ofNat (val i)), .second, iv (Int32.ofNat i), iv (Int32.ofNat (ch i)), iv (Int32.ofNat (ch i - 48))] [(.long (Int64.ofNat ((MX - (ch i - 48)) / 10))), (.long (Int64.ofNat (val i)))])
        refine Go.st (T' := T12) (g' := (mkF m 57 #[rv a, jv (Int64.ofNat (val i)), .second, iv (Int32.ofNat i), iv (Int32.ofNat (ch i)), iv (Int32.ofNat (ch i - 48))] [(.int (lcmpW (Int64.ofNat (val i)) (Int64.ofNat ((MX - (ch i - 48)) / 10))))])) ?_ (fun _ kk_ => XS.lcmp X12.here hx rfl (hb hby dprs_56) rfl kk_)
        by_cases h1 : (0 : Int32) < (lcmpW (Int64.ofNat (val i)) (Int64.ofNat ((MX - (ch i - 48)) / 10)))
        ·
          refine Go.st (T' := T12) (g' := (mkF m 60 #[rv a, jv (Int64.ofNat (val i)), .second, iv (Int32.ofNat i), iv (Int32.ofNat (ch i)), iv (Int32.ofNat (ch i - 48))] [])) ?_ (fun _ kk_ => XS.ifNo X12.here hx rfl (hb hby dprs_57) rfl ((if0 _ _).trans (tlt (h1 : (0 : Int32) < (lcmpW (Int64.ofNat (val i)) (Int64.ofNat ((MX - (ch i - 48)) / 10))))).2.2.2) kk_)
          have g1 : (MX - (ch i - 48)) / 10 < val i := (own_llt (by unfold MX; omega) hvi).mp ((lw_gt _ _).mp h1)
          refine Go.st (T' := T12) (g' := (mkF m 75 #[rv a, jv (Int64.ofNat (val i)), .second, iv (Int32.ofNat i), iv (Int32.ofNat (ch i)), iv (Int32.ofNat (ch i - 48))] [(.long (9223372036854775807 : Int64))])) ?_ (fun _ kk_ => X12.ldc2Long hx hown (mvT hZ (hw _ (List.mem_of_getElem? (i := 91) rfl))) (g := (mkF m 60 #[rv a, jv (Int64.ofNat (val i)), .second, iv (Int32.ofNat i), iv (Int32.ofNat (ch i)), iv (Int32.ofNat (ch i - 48))] [])) rfl (hb hby dprs_60) _ (XS.goto X12.here hx rfl (pc0 := 63) (pc' := 75) rfl (hb hby dprs_63) (by decide) (by decide) kk_))
          have ev : (9223372036854775807 : Int64) = Int64.ofNat (val (i + 1)) := by rw [hvs i hq, show stpN (val i) (ch i - 48) = MX from if_pos g1]; rfl
          rw [ev]
          show Go p e below _ T12 (mkF m 75 #[rv a, jv (Int64.ofNat (val i)), .second, iv (Int32.ofNat i), iv (Int32.ofNat (ch i)), iv (Int32.ofNat (ch i - 48))] [(.long (Int64.ofNat (val (i + 1))))])
          refine Go.st (T' := T12) (g' := (mkF m 79 #[rv a, jv (Int64.ofNat (val (i + 1))), .second, iv ((Int32.ofNat i) + (1 : Int32)), iv (Int32.ofNat (ch i)), iv (Int32.ofNat (ch i - 48))] [])) ?_ (fun _ kk_ => XS.lstoreN X12.here hx rfl (hb hby dprs_75) rfl (l' := #[rv a, jv (Int64.ofNat (val (i + 1))), .second, iv (Int32.ofNat i), iv (Int32.ofNat (ch i)), iv (Int32.ofNat (ch i - 48))]) rfl (XS.iinc X12.here hx rfl (hb hby dprs_76) rfl (l' := #[rv a, jv (Int64.ofNat (val (i + 1))), .second, iv ((Int32.ofNat i) + (1 : Int32)), iv (Int32.ofNat (ch i)), iv (Int32.ofNat (ch i - 48))]) rfl kk_))
          rw [show Int32.ofNat i + (1 : Int32) = Int32.ofNat (i + 1) from own_add i 1]
          show Go p e below _ T12 (mkF m 79 #[rv a, jv (Int64.ofNat (val (i + 1))), .second, iv (Int32.ofNat (i + 1)), iv (Int32.ofNat (ch i)), iv (Int32.ofNat (ch i - 48))] [])
          refine Go.st (T' := T12) (g' := (mkF m 4 #[rv a, jv (Int64.ofNat (val (i + 1))), .second, iv (Int32.ofNat (i + 1)), iv (Int32.ofNat (ch i)), iv (Int32.ofNat (ch i - 48))] [])) ?_ (fun _ kk_ => XS.goto X12.here hx rfl (pc0 := 79) (pc' := 4) rfl (hb hby dprs_79) (by decide) (by decide) kk_)
          exact ih (i + 1) T12 _ _ _ (by omega) (by omega) X12 e12 N13 (One.val rfl) (One.val rfl)
        ·
          refine Go.st (T' := T12) (g' := (mkF m 66 #[rv a, jv (Int64.ofNat (val i)), .second, iv (Int32.ofNat i), iv (Int32.ofNat (ch i)), iv (Int32.ofNat (ch i - 48))] [])) ?_ (fun _ kk_ => XS.ifYes X12.here hx rfl (pc0 := 57) (pc' := 66) rfl (hb hby dprs_57) rfl ((if0 _ _).trans (flt (h1 : ¬ ((0 : Int32) < (lcmpW (Int64.ofNat (val i)) (Int64.ofNat ((MX - (ch i - 48)) / 10)))))).2.2.2) (by decide) (by decide) kk_)
          have g1 : ¬ (MX - (ch i - 48)) / 10 < val i := fun z => h1 ((lw_gt _ _).mpr ((own_llt (by unfold MX; omega) hvi).mpr z))
          refine Go.st (T' := T12) (g' := (mkF m 74 #[rv a, jv (Int64.ofNat (val i)), .second, iv (Int32.ofNat i), iv (Int32.ofNat (ch i)), iv (Int32.ofNat (ch i - 48))] [(.long ((Int32.ofNat (ch i - 48)).toInt64)), (.long ((Int64.ofNat (val i)) * (10 : Int64)))])) ?_ (fun _ kk_ => XS.lloadN X12.here hx rfl (hb hby dprs_66) rfl  (X12.ldc2Long hx hown (mvT hZ (hw _ (List.mem_of_getElem? (i := 92) rfl))) (g := (mkF m 67 #[rv a, jv (Int64.ofNat (val i)), .second, iv (Int32.ofNat i), iv (Int32.ofNat (ch i)), iv (Int32.ofNat (ch i - 48))] [(.long (Int64.ofNat (val i)))])) rfl (hb hby dprs_67) _ (XS.lmul X12.here hx rfl (hb hby dprs_70) rfl (XS.iload X12.here hx rfl (hb hby dprs_71) rfl  (XS.i2l X12.here hx rfl (hb hby dprs_73) rfl kk_)))))
          rw [own_i2l (n := ch i - 48) (by omega)]
          show Go p e below _ T12 (mkF m 74 #[rv a, jv (Int64.ofNat (val i)), .second, iv (Int32.ofNat i), iv (Int32.ofNat (ch i)), iv (Int32.ofNat (ch i - 48))] [(.long (Int64.ofNat (ch i - 48))), (.long ((Int64.ofNat (val i)) * (10 : Int64)))])
          refine Go.st (T' := T12) (g' := (mkF m 75 #[rv a, jv (Int64.ofNat (val i)), .second, iv (Int32.ofNat i), iv (Int32.ofNat (ch i)), iv (Int32.ofNat (ch i - 48))] [(.long (((Int64.ofNat (val i)) * (10 : Int64)) + (Int64.ofNat (ch i - 48))))])) ?_ (fun _ kk_ => XS.ladd X12.here hx rfl (hb hby dprs_74) rfl kk_)
          have ev : (((Int64.ofNat (val i)) * (10 : Int64)) + (Int64.ofNat (ch i - 48))) = Int64.ofNat (val (i + 1)) := by rw [hvs i hq, show stpN (val i) (ch i - 48) = val i * 10 + (ch i - 48) from if_neg g1]; exact (congrArg (fun z => z + Int64.ofNat (ch i - 48)) (own_lmul (val i) 10)).trans (own_ladd _ _)
          rw [ev]
          show Go p e below _ T12 (mkF m 75 #[rv a, jv (Int64.ofNat (val i)), .second, iv (Int32.ofNat i), iv (Int32.ofNat (ch i)), iv (Int32.ofNat (ch i - 48))] [(.long (Int64.ofNat (val (i + 1))))])
          refine Go.st (T' := T12) (g' := (mkF m 79 #[rv a, jv (Int64.ofNat (val (i + 1))), .second, iv ((Int32.ofNat i) + (1 : Int32)), iv (Int32.ofNat (ch i)), iv (Int32.ofNat (ch i - 48))] [])) ?_ (fun _ kk_ => XS.lstoreN X12.here hx rfl (hb hby dprs_75) rfl (l' := #[rv a, jv (Int64.ofNat (val (i + 1))), .second, iv (Int32.ofNat i), iv (Int32.ofNat (ch i)), iv (Int32.ofNat (ch i - 48))]) rfl (XS.iinc X12.here hx rfl (hb hby dprs_76) rfl (l' := #[rv a, jv (Int64.ofNat (val (i + 1))), .second, iv ((Int32.ofNat i) + (1 : Int32)), iv (Int32.ofNat (ch i)), iv (Int32.ofNat (ch i - 48))]) rfl kk_))
          rw [show Int32.ofNat i + (1 : Int32) = Int32.ofNat (i + 1) from own_add i 1]
          show Go p e below _ T12 (mkF m 79 #[rv a, jv (Int64.ofNat (val (i + 1))), .second, iv (Int32.ofNat (i + 1)), iv (Int32.ofNat (ch i)), iv (Int32.ofNat (ch i - 48))] [])
          refine Go.st (T' := T12) (g' := (mkF m 4 #[rv a, jv (Int64.ofNat (val (i + 1))), .second, iv (Int32.ofNat (i + 1)), iv (Int32.ofNat (ch i)), iv (Int32.ofNat (ch i - 48))] [])) ?_ (fun _ kk_ => XS.goto X12.here hx rfl (pc0 := 79) (pc' := 4) rfl (hb hby dprs_79) (by decide) (by decide) kk_)
          exact ih (i + 1) T12 _ _ _ (by omega) (by omega) X12 e12 N13 (One.val rfl) (One.val rfl)
      ·
        obtain rfl : i = bad := by omega
        have hno := hnd hin
        by_cases h1 : (Int32.ofNat (ch i)) < (48 : Int32)
        ·
          refine Go.st (T' := T12) (g' := (mkF m 33 #[rv a, jv (Int64.ofNat (val i)), .second, iv (Int32.ofNat i), iv (Int32.ofNat (ch i)), s5] [])) ?_ (fun _ kk_ => XS.icmpYes X12.here hx rfl (pc0 := 23) (pc' := 33) rfl (hb hby dprs_23) rfl (tlt (h1 : (Int32.ofNat (ch i)) < (48 : Int32))).1 (by decide) (by decide) kk_)
          refine Go.callS (y := (⟨"java/util/OptionalLong", "empty", "()Ljava/util/OptionalLong;"⟩ : MethodName)) X12 hx hZ hown (hw _ (List.mem_of_getElem? (i := 93) rfl)) (hw _ (List.mem_of_getElem? (i := 94) rfl)) (hw _ (List.mem_of_getElem? (i := 95) rfl)) (hw _ (List.mem_of_getElem? (i := 96) rfl)) (by decide) 0 (rm_oem l Z a0 hw [] n0 eA h0 O0 Se Ee Fe) e12 (by decide) (by decide) (by decide) (by decide) (argsL := []) (rest := []) rfl (by rw [hml]; rfl) (lenOf pd__28_29Ljava_2futil_2fOptionalLong_3b rfl) rfl rfl (by show 2 * 0 + _ ≤ _; exact Nat.le_of_eq rfl) (hb hby dprs_33) ?_
          rintro _ T14 L14 X14 ⟨rfl, e14, rfl⟩
          have N15 := Fr.app N13 (Fr.nil _)
          show Go p e below _ T14 (mkF m 36 #[rv a, jv (Int64.ofNat (val i)), .second, iv (Int32.ofNat i), iv (Int32.ofNat (ch i)), s5] [(.ref eA)])
          refine Go.retA X14 hx hlk hret rfl rfl (hb hby dprs_36) (by decide) (by decide) ?_
          try rw [e14]
          exact ⟨eA, rfl, N15, K0, Ee.ext O0.2, Or.inl ⟨Or.inl hin, Fe.ext O0.2⟩⟩
        ·
          refine Go.st (T' := T12) (g' := (mkF m 26 #[rv a, jv (Int64.ofNat (val i)), .second, iv (Int32.ofNat i), iv (Int32.ofNat (ch i)), s5] [])) ?_ (fun _ kk_ => XS.icmpNo X12.here hx rfl (hb hby dprs_23) rfl (flt (h1 : ¬ ((Int32.ofNat (ch i)) < (48 : Int32)))).1 kk_)
          have g1 : ¬ ch i < 48 := fun z => h1 ((own_lt (n := 48) (by omega) (by decide)).mpr z)
          refine Go.st (T' := T12) (g' := (mkF m 33 #[rv a, jv (Int64.ofNat (val i)), .second, iv (Int32.ofNat i), iv (Int32.ofNat (ch i)), s5] [])) ?_ (fun _ kk_ => XS.iload X12.here hx rfl (hb hby dprs_26) rfl  (XS.bipush X12.here hx rfl (hb hby dprs_28) (XS.icmpNo X12.here hx rfl (hb hby dprs_30) rfl (tlt (((own_lt (i := 57) (by decide) (by omega)).mpr (by omega)) : (57 : Int32) < (Int32.ofNat (ch i)))).2.2.2 kk_)))
          refine Go.callS (y := (⟨"java/util/OptionalLong", "empty", "()Ljava/util/OptionalLong;"⟩ : MethodName)) X12 hx hZ hown (hw _ (List.mem_of_getElem? (i := 93) rfl)) (hw _ (List.mem_of_getElem? (i := 94) rfl)) (hw _ (List.mem_of_getElem? (i := 95) rfl)) (hw _ (List.mem_of_getElem? (i := 96) rfl)) (by decide) 0 (rm_oem l Z a0 hw [] n0 eA h0 O0 Se Ee Fe) e12 (by decide) (by decide) (by decide) (by decide) (argsL := []) (rest := []) rfl (by rw [hml]; rfl) (lenOf pd__28_29Ljava_2futil_2fOptionalLong_3b rfl) rfl rfl (by show 2 * 0 + _ ≤ _; exact Nat.le_of_eq rfl) (hb hby dprs_33) ?_
          rintro _ T16 L16 X16 ⟨rfl, e16, rfl⟩
          have N17 := Fr.app N13 (Fr.nil _)
          show Go p e below _ T16 (mkF m 36 #[rv a, jv (Int64.ofNat (val i)), .second, iv (Int32.ofNat i), iv (Int32.ofNat (ch i)), s5] [(.ref eA)])
          refine Go.retA X16 hx hlk hret rfl rfl (hb hby dprs_36) (by decide) (by decide) ?_
          try rw [e16]
          exact ⟨eA, rfl, N17, K0, Ee.ext O0.2, Or.inl ⟨Or.inl hin, Fe.ext O0.2⟩⟩
  have l0 := loop n 0 s₁ _ .unset .unset (by omega) (Nat.zero_le _) X0 e0 N0 One.u One.u
  rw [hv0] at l0
  exact l0
theorem pn_law : plainFor x = true := by first | exact plainFor_of_name (by first | (simp [plainName, overriddenIn]; done) | decide +kernel) | decide +kernel
theorem ef_law (m : MethodId) (x0 : Int64) (x1 : Int32) (x2 : Int32) (x3 : Int32) : entryFrame m #[(.long x0), (.int x1), (.int x2), (.int x3)] maxLocals = mkF m 0 #[jv x0, .second, iv x1, iv x2, iv x3, .unset, .unset, .unset, .unset, .unset, .unset, .unset, .unset, .unset, .unset, .unset, .unset, .unset, .unset] [] := by first | (simp [entryFrame, mkF, argsToLocals, Value.category, maxLocals]; done) | rfl
set_option maxRecDepth 65536 in
set_option maxHeartbeats 40000000 in
theorem rm_law (l : Launch) (Z : State) (a0 : Array Value) (hw : ∀ d ∈ tables_1, d.before a0 Z = true) (ws : List Jvm.Cond) (p0 : Int64) (p1 p2 p3 : Int32) (n0 : Nat) (cS : Int32) (rF : Value) (eA : Addr) (h0 : Heap) (hEL : EW Z a0 consts_1) (wS : ∀ a ∈ Bundle.stringAtoms, a.before a0 Z = true) (Z0 : n0 ≤ h0.size) (O0 : Old Z n0 h0) (Sc : Sta Z Z.heap "java/lang/String" "COMPACT_STRINGS" "Z" (.int cS)) (hcS : ¬ (cS = (0 : Int32))) (Sa : Sta Z Z.heap "java/lang/StringUTF16" "$assertionsDisabled" "Z" (.int (1 : Int32))) (Sh : Sta Z Z.heap "java/lang/StringUTF16" "HI_BYTE_SHIFT" "I" (.int (0 : Int32))) (Sl : Sta Z Z.heap "java/lang/StringUTF16" "LO_BYTE_SHIFT" "I" (.int (8 : Int32))) (Sr : Sta Z Z.heap "jdk/internal/util/Preconditions" "SIOOBE_FORMATTER" "Ljava/util/function/BiFunction;" rF) (hr_rF : rF.isRef = true) (Se : Sta Z Z.heap "java/util/OptionalLong" "EMPTY" "Ljava/util/OptionalLong;" (.ref eA)) (Ee : Exa Z Z.heap eA "java/util/OptionalLong") (Fe : Fld Z Z.heap eA "java/util/OptionalLong" "isPresent" "Z" (.int (0 : Int32))) :
    MtH l Z consts_1 x code maxLocals ret ws room_1 #[(.long p0), (.int p1), (.int p2), (.int p3)] h0 (fun v h L => v = some (.int (1 : Int32)) ∧ Fr n0 L) := by
  refine MtH.body pn_law ?_
  intro p e s m below meth c s₁ hx hby hml hown hnm hret hlk hZ X0 e0 HS0
  refine Go.cast (g' := (mkF m 0 #[jv p0, .second, iv p1, iv p2, iv p3, .unset, .unset, .unset, .unset, .unset, .unset, .unset, .unset, .unset, .unset, .unset, .unset, .unset, .unset] [])) (ef_law m p0 p1 p2 p3) ?_
  have N0 := Fr.nil n0
  refine Go.st (T' := s₁) (g' := (mkF m 2 #[jv p0, .second, iv p1, iv p2, iv p3, .unset, .unset, .unset, .unset, .unset, .unset, .unset, .unset, .unset, .unset, .unset, .unset, .unset, .unset] [(.int (19 : Int32))])) ?_ (fun _ kk_ => XS.bipush X0.here hx rfl (hb hby at_0) kk_)
  refine Go.newP X0 hx hZ (aty := .long) (hw _ (List.mem_of_getElem? (i := 0) rfl)) e0 rfl (hb hby at_2) (n := 19) rfl rfl 19 (by decide) (by decide) (by decide) (by decide) ?_
  intro T1 h1 b1 X1 e1 E1 g1 V1
  have g_b1 : n0 ≤ b1 := Nat.le_trans Z0 (Nat.le_of_eq g1.symm)
  have HS2 := HS.ext HS0 E1
  have O3 := O0.ext E1
  have Z4 : n0 ≤ h1.size := Nat.le_trans Z0 E1.1
  change Ary Z h1 b1 .long [.long 0, .long 0, .long 0, .long 0, .long 0, .long 0, .long 0, .long 0, .long 0, .long 0, .long 0, .long 0, .long 0, .long 0, .long 0, .long 0, .long 0, .long 0, .long 0] at V1
  have sf5 := Sf.born HS0 E1 g1 V1.lt
  show Go p e below _ T1 (mkF m 4 #[jv p0, .second, iv p1, iv p2, iv p3, .unset, .unset, .unset, .unset, .unset, .unset, .unset, .unset, .unset, .unset, .unset, .unset, .unset, .unset] [(.ref b1)])
  refine Go.st (T' := T1) (g' := (mkF m 7 #[jv p0, .second, iv p1, iv p2, iv p3, .unset, .unset, .unset, .unset, .unset, .unset, .unset, .unset, .unset, .unset, .unset, .unset, .unset, .unset] [(.long (1 : Int64)), (.int (0 : Int32)), (.ref b1), (.ref b1)])) ?_ (fun _ kk_ => XS.dup X1.here hx rfl (hb hby at_4) rfl rfl (XS.iconst X1.here hx rfl (hb hby at_5) (XS.lconst X1.here hx rfl (hb hby at_6) kk_)))
  refine Go.lastore X1 hx hZ e1 V1 (i := 0) (by decide) rfl rfl rfl (hb hby at_7) ?_
  intro T6 h6 X6 e6 W6 V6
  have N7 := Fr.snoc X6 N0 g_b1
  have HS8 := HS.wr HS2 W6 (sf5).1
  have O9 := O3.wr W6 g_b1
  change Ary Z h6 b1 .long [.long (1 : Int64), .long 0, .long 0, .long 0, .long 0, .long 0, .long 0, .long 0, .long 0, .long 0, .long 0, .long 0, .long 0, .long 0, .long 0, .long 0, .long 0, .long 0, .long 0] at V6
  have Z10 : n0 ≤ h6.size := by rw [W6.size]; exact Z4
  show Go p e below _ T6 (mkF m 8 #[jv p0, .second, iv p1, iv p2, iv p3, .unset, .unset, .unset, .unset, .unset, .unset, .unset, .unset, .unset, .unset, .unset, .unset, .unset, .unset] [(.ref b1)])
  refine Go.st (T' := T6) (g' := (mkF m 13 #[jv p0, .second, iv p1, iv p2, iv p3, .unset, .unset, .unset, .unset, .unset, .unset, .unset, .unset, .unset, .unset, .unset, .unset, .unset, .unset] [(.long (10 : Int64)), (.int (1 : Int32)), (.ref b1), (.ref b1)])) ?_ (fun _ kk_ => XS.dup X6.here hx rfl (hb hby at_8) rfl rfl (XS.iconst X6.here hx rfl (hb hby at_9) (X6.ldc2Long hx hown (mvT hZ (hw _ (List.mem_of_getElem? (i := 1) rfl))) (g := (mkF m 10 #[jv p0, .second, iv p1, iv p2, iv p3, .unset, .unset, .unset, .unset, .unset, .unset, .unset, .unset, .unset, .unset, .unset, .unset, .unset, .unset] [(.int (1 : Int32)), (.ref b1), (.ref b1)])) rfl (hb hby at_10) _ kk_)))
  refine Go.lastore X6 hx hZ e6 V6 (i := 1) (by decide) rfl rfl rfl (hb hby at_13) ?_
  intro T11 h11 X11 e11 W11 V11
  have N12 := Fr.snoc X11 N7 g_b1
  have f14 := (Sf.wr HS2 W6 (sf5).1 sf5)
  have HS13 := HS.wr HS8 W11 (f14).1
  have O15 := O9.wr W11 g_b1
  change Ary Z h11 b1 .long [.long (1 : Int64), .long (10 : Int64), .long 0, .long 0, .long 0, .long 0, .long 0, .long 0, .long 0, .long 0, .long 0, .long 0, .long 0, .long 0, .long 0, .long 0, .long 0, .long 0, .long 0] at V11
  have Z16 : n0 ≤ h11.size := by rw [W11.size]; exact Z10
  show Go p e below _ T11 (mkF m 14 #[jv p0, .second, iv p1, iv p2, iv p3, .unset, .unset, .unset, .unset, .unset, .unset, .unset, .unset, .unset, .unset, .unset, .unset, .unset, .unset] [(.ref b1)])
  refine Go.st (T' := T11) (g' := (mkF m 19 #[jv p0, .second, iv p1, iv p2, iv p3, .unset, .unset, .unset, .unset, .unset, .unset, .unset, .unset, .unset, .unset, .unset, .unset, .unset, .unset] [(.long (100 : Int64)), (.int (2 : Int32)), (.ref b1), (.ref b1)])) ?_ (fun _ kk_ => XS.dup X11.here hx rfl (hb hby at_14) rfl rfl (XS.iconst X11.here hx rfl (hb hby at_15) (X11.ldc2Long hx hown (mvT hZ (hw _ (List.mem_of_getElem? (i := 2) rfl))) (g := (mkF m 16 #[jv p0, .second, iv p1, iv p2, iv p3, .unset, .unset, .unset, .unset, .unset, .unset, .unset, .unset, .unset, .unset, .unset, .unset, .unset, .unset] [(.int (2 : Int32)), (.ref b1), (.ref b1)])) rfl (hb hby at_16) _ kk_)))
  refine Go.lastore X11 hx hZ e11 V11 (i := 2) (by decide) rfl rfl rfl (hb hby at_19) ?_
  intro T17 h17 X17 e17 W17 V17
  have N18 := Fr.snoc X17 N12 g_b1
  have f20 := (Sf.wr HS8 W11 (f14).1 f14)
  have HS19 := HS.wr HS13 W17 (f20).1
  have O21 := O15.wr W17 g_b1
  change Ary Z h17 b1 .long [.long (1 : Int64), .long (10 : Int64), .long (100 : Int64), .long 0, .long 0, .long 0, .long 0, .long 0, .long 0, .long 0, .long 0, .long 0, .long 0, .long 0, .long 0, .long 0, .long 0, .long 0, .long 0] at V17
  have Z22 : n0 ≤ h17.size := by rw [W17.size]; exact Z16
  show Go p e below _ T17 (mkF m 20 #[jv p0, .second, iv p1, iv p2, iv p3, .unset, .unset, .unset, .unset, .unset, .unset, .unset, .unset, .unset, .unset, .unset, .unset, .unset, .unset] [(.ref b1)])
  refine Go.st (T' := T17) (g' := (mkF m 25 #[jv p0, .second, iv p1, iv p2, iv p3, .unset, .unset, .unset, .unset, .unset, .unset, .unset, .unset, .unset, .unset, .unset, .unset, .unset, .unset] [(.long (1000 : Int64)), (.int (3 : Int32)), (.ref b1), (.ref b1)])) ?_ (fun _ kk_ => XS.dup X17.here hx rfl (hb hby at_20) rfl rfl (XS.iconst X17.here hx rfl (hb hby at_21) (X17.ldc2Long hx hown (mvT hZ (hw _ (List.mem_of_getElem? (i := 3) rfl))) (g := (mkF m 22 #[jv p0, .second, iv p1, iv p2, iv p3, .unset, .unset, .unset, .unset, .unset, .unset, .unset, .unset, .unset, .unset, .unset, .unset, .unset, .unset] [(.int (3 : Int32)), (.ref b1), (.ref b1)])) rfl (hb hby at_22) _ kk_)))
  refine Go.lastore X17 hx hZ e17 V17 (i := 3) (by decide) rfl rfl rfl (hb hby at_25) ?_
  intro T23 h23 X23 e23 W23 V23
  have N24 := Fr.snoc X23 N18 g_b1
  have f26 := (Sf.wr HS13 W17 (f20).1 f20)
  have HS25 := HS.wr HS19 W23 (f26).1
  have O27 := O21.wr W23 g_b1
  change Ary Z h23 b1 .long [.long (1 : Int64), .long (10 : Int64), .long (100 : Int64), .long (1000 : Int64), .long 0, .long 0, .long 0, .long 0, .long 0, .long 0, .long 0, .long 0, .long 0, .long 0, .long 0, .long 0, .long 0, .long 0, .long 0] at V23
  have Z28 : n0 ≤ h23.size := by rw [W23.size]; exact Z22
  show Go p e below _ T23 (mkF m 26 #[jv p0, .second, iv p1, iv p2, iv p3, .unset, .unset, .unset, .unset, .unset, .unset, .unset, .unset, .unset, .unset, .unset, .unset, .unset, .unset] [(.ref b1)])
  refine Go.st (T' := T23) (g' := (mkF m 31 #[jv p0, .second, iv p1, iv p2, iv p3, .unset, .unset, .unset, .unset, .unset, .unset, .unset, .unset, .unset, .unset, .unset, .unset, .unset, .unset] [(.long (10000 : Int64)), (.int (4 : Int32)), (.ref b1), (.ref b1)])) ?_ (fun _ kk_ => XS.dup X23.here hx rfl (hb hby at_26) rfl rfl (XS.iconst X23.here hx rfl (hb hby at_27) (X23.ldc2Long hx hown (mvT hZ (hw _ (List.mem_of_getElem? (i := 4) rfl))) (g := (mkF m 28 #[jv p0, .second, iv p1, iv p2, iv p3, .unset, .unset, .unset, .unset, .unset, .unset, .unset, .unset, .unset, .unset, .unset, .unset, .unset, .unset] [(.int (4 : Int32)), (.ref b1), (.ref b1)])) rfl (hb hby at_28) _ kk_)))
  refine Go.lastore X23 hx hZ e23 V23 (i := 4) (by decide) rfl rfl rfl (hb hby at_31) ?_
  intro T29 h29 X29 e29 W29 V29
  have N30 := Fr.snoc X29 N24 g_b1
  have f32 := (Sf.wr HS19 W23 (f26).1 f26)
  have HS31 := HS.wr HS25 W29 (f32).1
  have O33 := O27.wr W29 g_b1
  change Ary Z h29 b1 .long [.long (1 : Int64), .long (10 : Int64), .long (100 : Int64), .long (1000 : Int64), .long (10000 : Int64), .long 0, .long 0, .long 0, .long 0, .long 0, .long 0, .long 0, .long 0, .long 0, .long 0, .long 0, .long 0, .long 0, .long 0] at V29
  have Z34 : n0 ≤ h29.size := by rw [W29.size]; exact Z28
  show Go p e below _ T29 (mkF m 32 #[jv p0, .second, iv p1, iv p2, iv p3, .unset, .unset, .unset, .unset, .unset, .unset, .unset, .unset, .unset, .unset, .unset, .unset, .unset, .unset] [(.ref b1)])
  refine Go.st (T' := T29) (g' := (mkF m 37 #[jv p0, .second, iv p1, iv p2, iv p3, .unset, .unset, .unset, .unset, .unset, .unset, .unset, .unset, .unset, .unset, .unset, .unset, .unset, .unset] [(.long (100000 : Int64)), (.int (5 : Int32)), (.ref b1), (.ref b1)])) ?_ (fun _ kk_ => XS.dup X29.here hx rfl (hb hby at_32) rfl rfl (XS.iconst X29.here hx rfl (hb hby at_33) (X29.ldc2Long hx hown (mvT hZ (hw _ (List.mem_of_getElem? (i := 5) rfl))) (g := (mkF m 34 #[jv p0, .second, iv p1, iv p2, iv p3, .unset, .unset, .unset, .unset, .unset, .unset, .unset, .unset, .unset, .unset, .unset, .unset, .unset, .unset] [(.int (5 : Int32)), (.ref b1), (.ref b1)])) rfl (hb hby at_34) _ kk_)))
  refine Go.lastore X29 hx hZ e29 V29 (i := 5) (by decide) rfl rfl rfl (hb hby at_37) ?_
  intro T35 h35 X35 e35 W35 V35
  have N36 := Fr.snoc X35 N30 g_b1
  have f38 := (Sf.wr HS25 W29 (f32).1 f32)
  have HS37 := HS.wr HS31 W35 (f38).1
  have O39 := O33.wr W35 g_b1
  change Ary Z h35 b1 .long [.long (1 : Int64), .long (10 : Int64), .long (100 : Int64), .long (1000 : Int64), .long (10000 : Int64), .long (100000 : Int64), .long 0, .long 0, .long 0, .long 0, .long 0, .long 0, .long 0, .long 0, .long 0, .long 0, .long 0, .long 0, .long 0] at V35
  have Z40 : n0 ≤ h35.size := by rw [W35.size]; exact Z34
  show Go p e below _ T35 (mkF m 38 #[jv p0, .second, iv p1, iv p2, iv p3, .unset, .unset, .unset, .unset, .unset, .unset, .unset, .unset, .unset, .unset, .unset, .unset, .unset, .unset] [(.ref b1)])
  refine Go.st (T' := T35) (g' := (mkF m 44 #[jv p0, .second, iv p1, iv p2, iv p3, .unset, .unset, .unset, .unset, .unset, .unset, .unset, .unset, .unset, .unset, .unset, .unset, .unset, .unset] [(.long (1000000 : Int64)), (.int (6 : Int32)), (.ref b1), (.ref b1)])) ?_ (fun _ kk_ => XS.dup X35.here hx rfl (hb hby at_38) rfl rfl (XS.bipush X35.here hx rfl (hb hby at_39) (X35.ldc2Long hx hown (mvT hZ (hw _ (List.mem_of_getElem? (i := 6) rfl))) (g := (mkF m 41 #[jv p0, .second, iv p1, iv p2, iv p3, .unset, .unset, .unset, .unset, .unset, .unset, .unset, .unset, .unset, .unset, .unset, .unset, .unset, .unset] [(.int (6 : Int32)), (.ref b1), (.ref b1)])) rfl (hb hby at_41) _ kk_)))
  refine Go.lastore X35 hx hZ e35 V35 (i := 6) (by decide) rfl rfl rfl (hb hby at_44) ?_
  intro T41 h41 X41 e41 W41 V41
  have N42 := Fr.snoc X41 N36 g_b1
  have f44 := (Sf.wr HS31 W35 (f38).1 f38)
  have HS43 := HS.wr HS37 W41 (f44).1
  have O45 := O39.wr W41 g_b1
  change Ary Z h41 b1 .long [.long (1 : Int64), .long (10 : Int64), .long (100 : Int64), .long (1000 : Int64), .long (10000 : Int64), .long (100000 : Int64), .long (1000000 : Int64), .long 0, .long 0, .long 0, .long 0, .long 0, .long 0, .long 0, .long 0, .long 0, .long 0, .long 0, .long 0] at V41
  have Z46 : n0 ≤ h41.size := by rw [W41.size]; exact Z40
  show Go p e below _ T41 (mkF m 45 #[jv p0, .second, iv p1, iv p2, iv p3, .unset, .unset, .unset, .unset, .unset, .unset, .unset, .unset, .unset, .unset, .unset, .unset, .unset, .unset] [(.ref b1)])
  refine Go.st (T' := T41) (g' := (mkF m 51 #[jv p0, .second, iv p1, iv p2, iv p3, .unset, .unset, .unset, .unset, .unset, .unset, .unset, .unset, .unset, .unset, .unset, .unset, .unset, .unset] [(.long (10000000 : Int64)), (.int (7 : Int32)), (.ref b1), (.ref b1)])) ?_ (fun _ kk_ => XS.dup X41.here hx rfl (hb hby at_45) rfl rfl (XS.bipush X41.here hx rfl (hb hby at_46) (X41.ldc2Long hx hown (mvT hZ (hw _ (List.mem_of_getElem? (i := 7) rfl))) (g := (mkF m 48 #[jv p0, .second, iv p1, iv p2, iv p3, .unset, .unset, .unset, .unset, .unset, .unset, .unset, .unset, .unset, .unset, .unset, .unset, .unset, .unset] [(.int (7 : Int32)), (.ref b1), (.ref b1)])) rfl (hb hby at_48) _ kk_)))
  refine Go.lastore X41 hx hZ e41 V41 (i := 7) (by decide) rfl rfl rfl (hb hby at_51) ?_
  intro T47 h47 X47 e47 W47 V47
  have N48 := Fr.snoc X47 N42 g_b1
  have f50 := (Sf.wr HS37 W41 (f44).1 f44)
  have HS49 := HS.wr HS43 W47 (f50).1
  have O51 := O45.wr W47 g_b1
  change Ary Z h47 b1 .long [.long (1 : Int64), .long (10 : Int64), .long (100 : Int64), .long (1000 : Int64), .long (10000 : Int64), .long (100000 : Int64), .long (1000000 : Int64), .long (10000000 : Int64), .long 0, .long 0, .long 0, .long 0, .long 0, .long 0, .long 0, .long 0, .long 0, .long 0, .long 0] at V47
  have Z52 : n0 ≤ h47.size := by rw [W47.size]; exact Z46
  show Go p e below _ T47 (mkF m 52 #[jv p0, .second, iv p1, iv p2, iv p3, .unset, .unset, .unset, .unset, .unset, .unset, .unset, .unset, .unset, .unset, .unset, .unset, .unset, .unset] [(.ref b1)])
  refine Go.st (T' := T47) (g' := (mkF m 58 #[jv p0, .second, iv p1, iv p2, iv p3, .unset, .unset, .unset, .unset, .unset, .unset, .unset, .unset, .unset, .unset, .unset, .unset, .unset, .unset] [(.long (100000000 : Int64)), (.int (8 : Int32)), (.ref b1), (.ref b1)])) ?_ (fun _ kk_ => XS.dup X47.here hx rfl (hb hby at_52) rfl rfl (XS.bipush X47.here hx rfl (hb hby at_53) (X47.ldc2Long hx hown (mvT hZ (hw _ (List.mem_of_getElem? (i := 8) rfl))) (g := (mkF m 55 #[jv p0, .second, iv p1, iv p2, iv p3, .unset, .unset, .unset, .unset, .unset, .unset, .unset, .unset, .unset, .unset, .unset, .unset, .unset, .unset] [(.int (8 : Int32)), (.ref b1), (.ref b1)])) rfl (hb hby at_55) _ kk_)))
  refine Go.lastore X47 hx hZ e47 V47 (i := 8) (by decide) rfl rfl rfl (hb hby at_58) ?_
  intro T53 h53 X53 e53 W53 V53
  have N54 := Fr.snoc X53 N48 g_b1
  have f56 := (Sf.wr HS43 W47 (f50).1 f50)
  have HS55 := HS.wr HS49 W53 (f56).1
  have O57 := O51.wr W53 g_b1
  change Ary Z h53 b1 .long [.long (1 : Int64), .long (10 : Int64), .long (100 : Int64), .long (1000 : Int64), .long (10000 : Int64), .long (100000 : Int64), .long (1000000 : Int64), .long (10000000 : Int64), .long (100000000 : Int64), .long 0, .long 0, .long 0, .long 0, .long 0, .long 0, .long 0, .long 0, .long 0, .long 0] at V53
  have Z58 : n0 ≤ h53.size := by rw [W53.size]; exact Z52
  show Go p e below _ T53 (mkF m 59 #[jv p0, .second, iv p1, iv p2, iv p3, .unset, .unset, .unset, .unset, .unset, .unset, .unset, .unset, .unset, .unset, .unset, .unset, .unset, .unset] [(.ref b1)])
  refine Go.st (T' := T53) (g' := (mkF m 65 #[jv p0, .second, iv p1, iv p2, iv p3, .unset, .unset, .unset, .unset, .unset, .unset, .unset, .unset, .unset, .unset, .unset, .unset, .unset, .unset] [(.long (1000000000 : Int64)), (.int (9 : Int32)), (.ref b1), (.ref b1)])) ?_ (fun _ kk_ => XS.dup X53.here hx rfl (hb hby at_59) rfl rfl (XS.bipush X53.here hx rfl (hb hby at_60) (X53.ldc2Long hx hown (mvT hZ (hw _ (List.mem_of_getElem? (i := 9) rfl))) (g := (mkF m 62 #[jv p0, .second, iv p1, iv p2, iv p3, .unset, .unset, .unset, .unset, .unset, .unset, .unset, .unset, .unset, .unset, .unset, .unset, .unset, .unset] [(.int (9 : Int32)), (.ref b1), (.ref b1)])) rfl (hb hby at_62) _ kk_)))
  refine Go.lastore X53 hx hZ e53 V53 (i := 9) (by decide) rfl rfl rfl (hb hby at_65) ?_
  intro T59 h59 X59 e59 W59 V59
  have N60 := Fr.snoc X59 N54 g_b1
  have f62 := (Sf.wr HS49 W53 (f56).1 f56)
  have HS61 := HS.wr HS55 W59 (f62).1
  have O63 := O57.wr W59 g_b1
  change Ary Z h59 b1 .long [.long (1 : Int64), .long (10 : Int64), .long (100 : Int64), .long (1000 : Int64), .long (10000 : Int64), .long (100000 : Int64), .long (1000000 : Int64), .long (10000000 : Int64), .long (100000000 : Int64), .long (1000000000 : Int64), .long 0, .long 0, .long 0, .long 0, .long 0, .long 0, .long 0, .long 0, .long 0] at V59
  have Z64 : n0 ≤ h59.size := by rw [W59.size]; exact Z58
  show Go p e below _ T59 (mkF m 66 #[jv p0, .second, iv p1, iv p2, iv p3, .unset, .unset, .unset, .unset, .unset, .unset, .unset, .unset, .unset, .unset, .unset, .unset, .unset, .unset] [(.ref b1)])
  refine Go.st (T' := T59) (g' := (mkF m 72 #[jv p0, .second, iv p1, iv p2, iv p3, .unset, .unset, .unset, .unset, .unset, .unset, .unset, .unset, .unset, .unset, .unset, .unset, .unset, .unset] [(.long (10000000000 : Int64)), (.int (10 : Int32)), (.ref b1), (.ref b1)])) ?_ (fun _ kk_ => XS.dup X59.here hx rfl (hb hby at_66) rfl rfl (XS.bipush X59.here hx rfl (hb hby at_67) (X59.ldc2Long hx hown (mvT hZ (hw _ (List.mem_of_getElem? (i := 10) rfl))) (g := (mkF m 69 #[jv p0, .second, iv p1, iv p2, iv p3, .unset, .unset, .unset, .unset, .unset, .unset, .unset, .unset, .unset, .unset, .unset, .unset, .unset, .unset] [(.int (10 : Int32)), (.ref b1), (.ref b1)])) rfl (hb hby at_69) _ kk_)))
  refine Go.lastore X59 hx hZ e59 V59 (i := 10) (by decide) rfl rfl rfl (hb hby at_72) ?_
  intro T65 h65 X65 e65 W65 V65
  have N66 := Fr.snoc X65 N60 g_b1
  have f68 := (Sf.wr HS55 W59 (f62).1 f62)
  have HS67 := HS.wr HS61 W65 (f68).1
  have O69 := O63.wr W65 g_b1
  change Ary Z h65 b1 .long [.long (1 : Int64), .long (10 : Int64), .long (100 : Int64), .long (1000 : Int64), .long (10000 : Int64), .long (100000 : Int64), .long (1000000 : Int64), .long (10000000 : Int64), .long (100000000 : Int64), .long (1000000000 : Int64), .long (10000000000 : Int64), .long 0, .long 0, .long 0, .long 0, .long 0, .long 0, .long 0, .long 0] at V65
  have Z70 : n0 ≤ h65.size := by rw [W65.size]; exact Z64
  show Go p e below _ T65 (mkF m 73 #[jv p0, .second, iv p1, iv p2, iv p3, .unset, .unset, .unset, .unset, .unset, .unset, .unset, .unset, .unset, .unset, .unset, .unset, .unset, .unset] [(.ref b1)])
  refine Go.st (T' := T65) (g' := (mkF m 79 #[jv p0, .second, iv p1, iv p2, iv p3, .unset, .unset, .unset, .unset, .unset, .unset, .unset, .unset, .unset, .unset, .unset, .unset, .unset, .unset] [(.long (100000000000 : Int64)), (.int (11 : Int32)), (.ref b1), (.ref b1)])) ?_ (fun _ kk_ => XS.dup X65.here hx rfl (hb hby at_73) rfl rfl (XS.bipush X65.here hx rfl (hb hby at_74) (X65.ldc2Long hx hown (mvT hZ (hw _ (List.mem_of_getElem? (i := 11) rfl))) (g := (mkF m 76 #[jv p0, .second, iv p1, iv p2, iv p3, .unset, .unset, .unset, .unset, .unset, .unset, .unset, .unset, .unset, .unset, .unset, .unset, .unset, .unset] [(.int (11 : Int32)), (.ref b1), (.ref b1)])) rfl (hb hby at_76) _ kk_)))
  refine Go.lastore X65 hx hZ e65 V65 (i := 11) (by decide) rfl rfl rfl (hb hby at_79) ?_
  intro T71 h71 X71 e71 W71 V71
  have N72 := Fr.snoc X71 N66 g_b1
  have f74 := (Sf.wr HS61 W65 (f68).1 f68)
  have HS73 := HS.wr HS67 W71 (f74).1
  have O75 := O69.wr W71 g_b1
  change Ary Z h71 b1 .long [.long (1 : Int64), .long (10 : Int64), .long (100 : Int64), .long (1000 : Int64), .long (10000 : Int64), .long (100000 : Int64), .long (1000000 : Int64), .long (10000000 : Int64), .long (100000000 : Int64), .long (1000000000 : Int64), .long (10000000000 : Int64), .long (100000000000 : Int64), .long 0, .long 0, .long 0, .long 0, .long 0, .long 0, .long 0] at V71
  have Z76 : n0 ≤ h71.size := by rw [W71.size]; exact Z70
  show Go p e below _ T71 (mkF m 80 #[jv p0, .second, iv p1, iv p2, iv p3, .unset, .unset, .unset, .unset, .unset, .unset, .unset, .unset, .unset, .unset, .unset, .unset, .unset, .unset] [(.ref b1)])
  refine Go.st (T' := T71) (g' := (mkF m 86 #[jv p0, .second, iv p1, iv p2, iv p3, .unset, .unset, .unset, .unset, .unset, .unset, .unset, .unset, .unset, .unset, .unset, .unset, .unset, .unset] [(.long (1000000000000 : Int64)), (.int (12 : Int32)), (.ref b1), (.ref b1)])) ?_ (fun _ kk_ => XS.dup X71.here hx rfl (hb hby at_80) rfl rfl (XS.bipush X71.here hx rfl (hb hby at_81) (X71.ldc2Long hx hown (mvT hZ (hw _ (List.mem_of_getElem? (i := 12) rfl))) (g := (mkF m 83 #[jv p0, .second, iv p1, iv p2, iv p3, .unset, .unset, .unset, .unset, .unset, .unset, .unset, .unset, .unset, .unset, .unset, .unset, .unset, .unset] [(.int (12 : Int32)), (.ref b1), (.ref b1)])) rfl (hb hby at_83) _ kk_)))
  refine Go.lastore X71 hx hZ e71 V71 (i := 12) (by decide) rfl rfl rfl (hb hby at_86) ?_
  intro T77 h77 X77 e77 W77 V77
  have N78 := Fr.snoc X77 N72 g_b1
  have f80 := (Sf.wr HS67 W71 (f74).1 f74)
  have HS79 := HS.wr HS73 W77 (f80).1
  have O81 := O75.wr W77 g_b1
  change Ary Z h77 b1 .long [.long (1 : Int64), .long (10 : Int64), .long (100 : Int64), .long (1000 : Int64), .long (10000 : Int64), .long (100000 : Int64), .long (1000000 : Int64), .long (10000000 : Int64), .long (100000000 : Int64), .long (1000000000 : Int64), .long (10000000000 : Int64), .long (100000000000 : Int64), .long (1000000000000 : Int64), .long 0, .long 0, .long 0, .long 0, .long 0, .long 0] at V77
  have Z82 : n0 ≤ h77.size := by rw [W77.size]; exact Z76
  show Go p e below _ T77 (mkF m 87 #[jv p0, .second, iv p1, iv p2, iv p3, .unset, .unset, .unset, .unset, .unset, .unset, .unset, .unset, .unset, .unset, .unset, .unset, .unset, .unset] [(.ref b1)])
  refine Go.st (T' := T77) (g' := (mkF m 93 #[jv p0, .second, iv p1, iv p2, iv p3, .unset, .unset, .unset, .unset, .unset, .unset, .unset, .unset, .unset, .unset, .unset, .unset, .unset, .unset] [(.long (10000000000000 : Int64)), (.int (13 : Int32)), (.ref b1), (.ref b1)])) ?_ (fun _ kk_ => XS.dup X77.here hx rfl (hb hby at_87) rfl rfl (XS.bipush X77.here hx rfl (hb hby at_88) (X77.ldc2Long hx hown (mvT hZ (hw _ (List.mem_of_getElem? (i := 13) rfl))) (g := (mkF m 90 #[jv p0, .second, iv p1, iv p2, iv p3, .unset, .unset, .unset, .unset, .unset, .unset, .unset, .unset, .unset, .unset, .unset, .unset, .unset, .unset] [(.int (13 : Int32)), (.ref b1), (.ref b1)])) rfl (hb hby at_90) _ kk_)))
  refine Go.lastore X77 hx hZ e77 V77 (i := 13) (by decide) rfl rfl rfl (hb hby at_93) ?_
  intro T83 h83 X83 e83 W83 V83
  have N84 := Fr.snoc X83 N78 g_b1
  have f86 := (Sf.wr HS73 W77 (f80).1 f80)
  have HS85 := HS.wr HS79 W83 (f86).1
  have O87 := O81.wr W83 g_b1
  change Ary Z h83 b1 .long [.long (1 : Int64), .long (10 : Int64), .long (100 : Int64), .long (1000 : Int64), .long (10000 : Int64), .long (100000 : Int64), .long (1000000 : Int64), .long (10000000 : Int64), .long (100000000 : Int64), .long (1000000000 : Int64), .long (10000000000 : Int64), .long (100000000000 : Int64), .long (1000000000000 : Int64), .long (10000000000000 : Int64), .long 0, .long 0, .long 0, .long 0, .long 0] at V83
  have Z88 : n0 ≤ h83.size := by rw [W83.size]; exact Z82
  show Go p e below _ T83 (mkF m 94 #[jv p0, .second, iv p1, iv p2, iv p3, .unset, .unset, .unset, .unset, .unset, .unset, .unset, .unset, .unset, .unset, .unset, .unset, .unset, .unset] [(.ref b1)])
  refine Go.st (T' := T83) (g' := (mkF m 100 #[jv p0, .second, iv p1, iv p2, iv p3, .unset, .unset, .unset, .unset, .unset, .unset, .unset, .unset, .unset, .unset, .unset, .unset, .unset, .unset] [(.long (100000000000000 : Int64)), (.int (14 : Int32)), (.ref b1), (.ref b1)])) ?_ (fun _ kk_ => XS.dup X83.here hx rfl (hb hby at_94) rfl rfl (XS.bipush X83.here hx rfl (hb hby at_95) (X83.ldc2Long hx hown (mvT hZ (hw _ (List.mem_of_getElem? (i := 14) rfl))) (g := (mkF m 97 #[jv p0, .second, iv p1, iv p2, iv p3, .unset, .unset, .unset, .unset, .unset, .unset, .unset, .unset, .unset, .unset, .unset, .unset, .unset, .unset] [(.int (14 : Int32)), (.ref b1), (.ref b1)])) rfl (hb hby at_97) _ kk_)))
  refine Go.lastore X83 hx hZ e83 V83 (i := 14) (by decide) rfl rfl rfl (hb hby at_100) ?_
  intro T89 h89 X89 e89 W89 V89
  have N90 := Fr.snoc X89 N84 g_b1
  have f92 := (Sf.wr HS79 W83 (f86).1 f86)
  have HS91 := HS.wr HS85 W89 (f92).1
  have O93 := O87.wr W89 g_b1
  change Ary Z h89 b1 .long [.long (1 : Int64), .long (10 : Int64), .long (100 : Int64), .long (1000 : Int64), .long (10000 : Int64), .long (100000 : Int64), .long (1000000 : Int64), .long (10000000 : Int64), .long (100000000 : Int64), .long (1000000000 : Int64), .long (10000000000 : Int64), .long (100000000000 : Int64), .long (1000000000000 : Int64), .long (10000000000000 : Int64), .long (100000000000000 : Int64), .long 0, .long 0, .long 0, .long 0] at V89
  have Z94 : n0 ≤ h89.size := by rw [W89.size]; exact Z88
  show Go p e below _ T89 (mkF m 101 #[jv p0, .second, iv p1, iv p2, iv p3, .unset, .unset, .unset, .unset, .unset, .unset, .unset, .unset, .unset, .unset, .unset, .unset, .unset, .unset] [(.ref b1)])
  refine Go.st (T' := T89) (g' := (mkF m 107 #[jv p0, .second, iv p1, iv p2, iv p3, .unset, .unset, .unset, .unset, .unset, .unset, .unset, .unset, .unset, .unset, .unset, .unset, .unset, .unset] [(.long (1000000000000000 : Int64)), (.int (15 : Int32)), (.ref b1), (.ref b1)])) ?_ (fun _ kk_ => XS.dup X89.here hx rfl (hb hby at_101) rfl rfl (XS.bipush X89.here hx rfl (hb hby at_102) (X89.ldc2Long hx hown (mvT hZ (hw _ (List.mem_of_getElem? (i := 15) rfl))) (g := (mkF m 104 #[jv p0, .second, iv p1, iv p2, iv p3, .unset, .unset, .unset, .unset, .unset, .unset, .unset, .unset, .unset, .unset, .unset, .unset, .unset, .unset] [(.int (15 : Int32)), (.ref b1), (.ref b1)])) rfl (hb hby at_104) _ kk_)))
  refine Go.lastore X89 hx hZ e89 V89 (i := 15) (by decide) rfl rfl rfl (hb hby at_107) ?_
  intro T95 h95 X95 e95 W95 V95
  have N96 := Fr.snoc X95 N90 g_b1
  have f98 := (Sf.wr HS85 W89 (f92).1 f92)
  have HS97 := HS.wr HS91 W95 (f98).1
  have O99 := O93.wr W95 g_b1
  change Ary Z h95 b1 .long [.long (1 : Int64), .long (10 : Int64), .long (100 : Int64), .long (1000 : Int64), .long (10000 : Int64), .long (100000 : Int64), .long (1000000 : Int64), .long (10000000 : Int64), .long (100000000 : Int64), .long (1000000000 : Int64), .long (10000000000 : Int64), .long (100000000000 : Int64), .long (1000000000000 : Int64), .long (10000000000000 : Int64), .long (100000000000000 : Int64), .long (1000000000000000 : Int64), .long 0, .long 0, .long 0] at V95
  have Z100 : n0 ≤ h95.size := by rw [W95.size]; exact Z94
  show Go p e below _ T95 (mkF m 108 #[jv p0, .second, iv p1, iv p2, iv p3, .unset, .unset, .unset, .unset, .unset, .unset, .unset, .unset, .unset, .unset, .unset, .unset, .unset, .unset] [(.ref b1)])
  refine Go.st (T' := T95) (g' := (mkF m 114 #[jv p0, .second, iv p1, iv p2, iv p3, .unset, .unset, .unset, .unset, .unset, .unset, .unset, .unset, .unset, .unset, .unset, .unset, .unset, .unset] [(.long (10000000000000000 : Int64)), (.int (16 : Int32)), (.ref b1), (.ref b1)])) ?_ (fun _ kk_ => XS.dup X95.here hx rfl (hb hby at_108) rfl rfl (XS.bipush X95.here hx rfl (hb hby at_109) (X95.ldc2Long hx hown (mvT hZ (hw _ (List.mem_of_getElem? (i := 16) rfl))) (g := (mkF m 111 #[jv p0, .second, iv p1, iv p2, iv p3, .unset, .unset, .unset, .unset, .unset, .unset, .unset, .unset, .unset, .unset, .unset, .unset, .unset, .unset] [(.int (16 : Int32)), (.ref b1), (.ref b1)])) rfl (hb hby at_111) _ kk_)))
  refine Go.lastore X95 hx hZ e95 V95 (i := 16) (by decide) rfl rfl rfl (hb hby at_114) ?_
  intro T101 h101 X101 e101 W101 V101
  have N102 := Fr.snoc X101 N96 g_b1
  have f104 := (Sf.wr HS91 W95 (f98).1 f98)
  have HS103 := HS.wr HS97 W101 (f104).1
  have O105 := O99.wr W101 g_b1
  change Ary Z h101 b1 .long [.long (1 : Int64), .long (10 : Int64), .long (100 : Int64), .long (1000 : Int64), .long (10000 : Int64), .long (100000 : Int64), .long (1000000 : Int64), .long (10000000 : Int64), .long (100000000 : Int64), .long (1000000000 : Int64), .long (10000000000 : Int64), .long (100000000000 : Int64), .long (1000000000000 : Int64), .long (10000000000000 : Int64), .long (100000000000000 : Int64), .long (1000000000000000 : Int64), .long (10000000000000000 : Int64), .long 0, .long 0] at V101
  have Z106 : n0 ≤ h101.size := by rw [W101.size]; exact Z100
  show Go p e below _ T101 (mkF m 115 #[jv p0, .second, iv p1, iv p2, iv p3, .unset, .unset, .unset, .unset, .unset, .unset, .unset, .unset, .unset, .unset, .unset, .unset, .unset, .unset] [(.ref b1)])
  refine Go.st (T' := T101) (g' := (mkF m 121 #[jv p0, .second, iv p1, iv p2, iv p3, .unset, .unset, .unset, .unset, .unset, .unset, .unset, .unset, .unset, .unset, .unset, .unset, .unset, .unset] [(.long (100000000000000000 : Int64)), (.int (17 : Int32)), (.ref b1), (.ref b1)])) ?_ (fun _ kk_ => XS.dup X101.here hx rfl (hb hby at_115) rfl rfl (XS.bipush X101.here hx rfl (hb hby at_116) (X101.ldc2Long hx hown (mvT hZ (hw _ (List.mem_of_getElem? (i := 17) rfl))) (g := (mkF m 118 #[jv p0, .second, iv p1, iv p2, iv p3, .unset, .unset, .unset, .unset, .unset, .unset, .unset, .unset, .unset, .unset, .unset, .unset, .unset, .unset] [(.int (17 : Int32)), (.ref b1), (.ref b1)])) rfl (hb hby at_118) _ kk_)))
  refine Go.lastore X101 hx hZ e101 V101 (i := 17) (by decide) rfl rfl rfl (hb hby at_121) ?_
  intro T107 h107 X107 e107 W107 V107
  have N108 := Fr.snoc X107 N102 g_b1
  have f110 := (Sf.wr HS97 W101 (f104).1 f104)
  have HS109 := HS.wr HS103 W107 (f110).1
  have O111 := O105.wr W107 g_b1
  change Ary Z h107 b1 .long [.long (1 : Int64), .long (10 : Int64), .long (100 : Int64), .long (1000 : Int64), .long (10000 : Int64), .long (100000 : Int64), .long (1000000 : Int64), .long (10000000 : Int64), .long (100000000 : Int64), .long (1000000000 : Int64), .long (10000000000 : Int64), .long (100000000000 : Int64), .long (1000000000000 : Int64), .long (10000000000000 : Int64), .long (100000000000000 : Int64), .long (1000000000000000 : Int64), .long (10000000000000000 : Int64), .long (100000000000000000 : Int64), .long 0] at V107
  have Z112 : n0 ≤ h107.size := by rw [W107.size]; exact Z106
  show Go p e below _ T107 (mkF m 122 #[jv p0, .second, iv p1, iv p2, iv p3, .unset, .unset, .unset, .unset, .unset, .unset, .unset, .unset, .unset, .unset, .unset, .unset, .unset, .unset] [(.ref b1)])
  refine Go.st (T' := T107) (g' := (mkF m 128 #[jv p0, .second, iv p1, iv p2, iv p3, .unset, .unset, .unset, .unset, .unset, .unset, .unset, .unset, .unset, .unset, .unset, .unset, .unset, .unset] [(.long (1000000000000000000 : Int64)), (.int (18 : Int32)), (.ref b1), (.ref b1)])) ?_ (fun _ kk_ => XS.dup X107.here hx rfl (hb hby at_122) rfl rfl (XS.bipush X107.here hx rfl (hb hby at_123) (X107.ldc2Long hx hown (mvT hZ (hw _ (List.mem_of_getElem? (i := 18) rfl))) (g := (mkF m 125 #[jv p0, .second, iv p1, iv p2, iv p3, .unset, .unset, .unset, .unset, .unset, .unset, .unset, .unset, .unset, .unset, .unset, .unset, .unset, .unset] [(.int (18 : Int32)), (.ref b1), (.ref b1)])) rfl (hb hby at_125) _ kk_)))
  refine Go.lastore X107 hx hZ e107 V107 (i := 18) (by decide) rfl rfl rfl (hb hby at_128) ?_
  intro T113 h113 X113 e113 W113 V113
  have N114 := Fr.snoc X113 N108 g_b1
  have f116 := (Sf.wr HS103 W107 (f110).1 f110)
  have HS115 := HS.wr HS109 W113 (f116).1
  have O117 := O111.wr W113 g_b1
  change Ary Z h113 b1 .long [.long (1 : Int64), .long (10 : Int64), .long (100 : Int64), .long (1000 : Int64), .long (10000 : Int64), .long (100000 : Int64), .long (1000000 : Int64), .long (10000000 : Int64), .long (100000000 : Int64), .long (1000000000 : Int64), .long (10000000000 : Int64), .long (100000000000 : Int64), .long (1000000000000 : Int64), .long (10000000000000 : Int64), .long (100000000000000 : Int64), .long (1000000000000000 : Int64), .long (10000000000000000 : Int64), .long (100000000000000000 : Int64), .long (1000000000000000000 : Int64)] at V113
  have Z118 : n0 ≤ h113.size := by rw [W113.size]; exact Z112
  show Go p e below _ T113 (mkF m 129 #[jv p0, .second, iv p1, iv p2, iv p3, .unset, .unset, .unset, .unset, .unset, .unset, .unset, .unset, .unset, .unset, .unset, .unset, .unset, .unset] [(.ref b1)])
  change Ary Z h113 b1 .long PWL at V113
  refine Go.st (T' := T113) (g' := (mkF m 136 #[jv p0, .second, iv p1, iv p2, iv p3, rv b1, .unset, .unset, .unset, .unset, .unset, .unset, .unset, .unset, .unset, .unset, .unset, .unset, .unset] [(.long (p0 &&& (9223372036854775807 : Int64)))])) ?_ (fun _ kk_ => XS.astore X113.here hx rfl (hb hby at_129) rfl rfl (l' := #[jv p0, .second, iv p1, iv p2, iv p3, rv b1, .unset, .unset, .unset, .unset, .unset, .unset, .unset, .unset, .unset, .unset, .unset, .unset, .unset]) rfl (XS.lloadN X113.here hx rfl (hb hby at_131) rfl  (X113.ldc2Long hx hown (mvT hZ (hw _ (List.mem_of_getElem? (i := 19) rfl))) (g := (mkF m 132 #[jv p0, .second, iv p1, iv p2, iv p3, rv b1, .unset, .unset, .unset, .unset, .unset, .unset, .unset, .unset, .unset, .unset, .unset, .unset, .unset] [(.long p0)])) rfl (hb hby at_132) _ (XS.land X113.here hx rfl (hb hby at_135) rfl kk_))))
  obtain ⟨W, hW, e_W⟩ := own_and63 p0
  rw [e_W]
  show Go p e below _ T113 (mkF m 136 #[jv p0, .second, iv p1, iv p2, iv p3, rv b1, .unset, .unset, .unset, .unset, .unset, .unset, .unset, .unset, .unset, .unset, .unset, .unset, .unset] [(.long (Int64.ofNat W))])
  refine Go.st (T' := T113) (g' := (mkF m 145 #[jv p0, .second, iv p1, iv p2, iv p3, rv b1, jv (Int64.ofNat W), .second, .unset, .unset, .unset, .unset, .unset, .unset, .unset, .unset, .unset, .unset, .unset] [(.int ((p1 &&& (31 : Int32)) % (22 : Int32)))])) ?_ (fun _ kk_ => XS.lstore X113.here hx rfl (hb hby at_136) rfl (l' := #[jv p0, .second, iv p1, iv p2, iv p3, rv b1, jv (Int64.ofNat W), .second, .unset, .unset, .unset, .unset, .unset, .unset, .unset, .unset, .unset, .unset, .unset]) rfl (XS.iloadN X113.here hx rfl (hb hby at_138) rfl  (XS.bipush X113.here hx rfl (hb hby at_139) (XS.iand X113.here hx rfl (hb hby at_141) rfl (XS.bipush X113.here hx rfl (hb hby at_142) (iremM X113 hx rfl (hb hby at_144) rfl (by decide) kk_))))))
  obtain ⟨len, hlen0, e_len⟩ := own_am p1 (31 : Int32) (by decide) 22 (by decide) (by decide)
  replace e_len : (p1 &&& (31 : Int32)) % (22 : Int32) = Int32.ofNat len := e_len
  rw [e_len]
  show Go p e below _ T113 (mkF m 145 #[jv p0, .second, iv p1, iv p2, iv p3, rv b1, jv (Int64.ofNat W), .second, .unset, .unset, .unset, .unset, .unset, .unset, .unset, .unset, .unset, .unset, .unset] [(.int (Int32.ofNat len))])
  have hlen : len ≤ 21 := by omega
  refine Go.st (T' := T113) (g' := (mkF m 152 #[jv p0, .second, iv p1, iv p2, iv p3, rv b1, jv (Int64.ofNat W), .second, iv (Int32.ofNat len), .unset, .unset, .unset, .unset, .unset, .unset, .unset, .unset, .unset, .unset] [(.int (((p1.toUInt32 >>> ((5 : Int32) &&& 31).toUInt32).toInt32) &&& (1 : Int32)))])) ?_ (fun _ kk_ => XS.istore X113.here hx rfl (hb hby at_145) rfl (l' := #[jv p0, .second, iv p1, iv p2, iv p3, rv b1, jv (Int64.ofNat W), .second, iv (Int32.ofNat len), .unset, .unset, .unset, .unset, .unset, .unset, .unset, .unset, .unset, .unset]) rfl (XS.iloadN X113.here hx rfl (hb hby at_147) rfl  (XS.iconst X113.here hx rfl (hb hby at_148) (XS.iushr X113.here hx rfl (hb hby at_149) rfl (XS.iconst X113.here hx rfl (hb hby at_150) (XS.iand X113.here hx rfl (hb hby at_151) rfl kk_))))))
  have J0 : ∀ (T_J0 : State) (h_J0 : Heap) (lo_J0 : List Loc) (fl : Int32), Stand p l e room_1 (s.setVm s.vm) m #[(.long p0), (.int p1), (.int p2), (.int p3)] below meth c T_J0 lo_J0 1 19 → T_J0.heap = h_J0 → Fr n0 lo_J0 → Old Z n0 h_J0 → n0 ≤ h_J0.size → HS Z consts_1 s s.heap s.vm h_J0 → Ary Z h_J0 b1 .long PWL → Go p e below (WfH Z consts_1 s room_1.cells room_1.slots (fun v h L => v = some (.int (1 : Int32)) ∧ Fr n0 L)) T_J0 (mkF m 160 #[jv p0, .second, iv p1, iv p2, iv p3, rv b1, jv (Int64.ofNat W), .second, iv (Int32.ofNat len), .unset, .unset, .unset, .unset, .unset, .unset, .unset, .unset, .unset, .unset] [(.int fl)]) := by
    intro T_J0 h_J0 lo_J0 fl  X_J0 e_J0 N_J0 O_J0 Z_J0 HS_J0 f_J0_0
    refine Go.st (T' := T_J0) (g' := (mkF m 169 #[jv p0, .second, iv p1, iv p2, iv p3, rv b1, jv (Int64.ofNat W), .second, iv (Int32.ofNat len), iv fl, .unset, .unset, .unset, .unset, .unset, .unset, .unset, .unset, .unset] [(.int ((p2 &&& (15 : Int32)) % (10 : Int32)))])) ?_ (fun _ kk_ => XS.istore X_J0.here hx rfl (hb hby at_160) rfl (l' := #[jv p0, .second, iv p1, iv p2, iv p3, rv b1, jv (Int64.ofNat W), .second, iv (Int32.ofNat len), iv fl, .unset, .unset, .unset, .unset, .unset, .unset, .unset, .unset, .unset]) rfl (XS.iloadN X_J0.here hx rfl (hb hby at_162) rfl  (XS.bipush X_J0.here hx rfl (hb hby at_163) (XS.iand X_J0.here hx rfl (hb hby at_165) rfl (XS.bipush X_J0.here hx rfl (hb hby at_166) (iremM X_J0 hx rfl (hb hby at_168) rfl (by decide) kk_))))))
    obtain ⟨d, hd0, e_d⟩ := own_am p2 (15 : Int32) (by decide) 10 (by decide) (by decide)
    replace e_d : (p2 &&& (15 : Int32)) % (10 : Int32) = Int32.ofNat d := e_d
    rw [e_d]
    show Go p e below _ T_J0 (mkF m 169 #[jv p0, .second, iv p1, iv p2, iv p3, rv b1, jv (Int64.ofNat W), .second, iv (Int32.ofNat len), iv fl, .unset, .unset, .unset, .unset, .unset, .unset, .unset, .unset, .unset] [(.int (Int32.ofNat d))])
    have hd : d ≤ 9 := by omega
    refine Go.st (T' := T_J0) (g' := (mkF m 180 #[jv p0, .second, iv p1, iv p2, iv p3, rv b1, jv (Int64.ofNat W), .second, iv (Int32.ofNat len), iv fl, iv (Int32.ofNat d), .unset, .unset, .unset, .unset, .unset, .unset, .unset, .unset] [(.int ((((p2.toUInt32 >>> ((4 : Int32) &&& 31).toUInt32).toInt32) &&& (15 : Int32)) % (10 : Int32)))])) ?_ (fun _ kk_ => XS.istore X_J0.here hx rfl (hb hby at_169) rfl (l' := #[jv p0, .second, iv p1, iv p2, iv p3, rv b1, jv (Int64.ofNat W), .second, iv (Int32.ofNat len), iv fl, iv (Int32.ofNat d), .unset, .unset, .unset, .unset, .unset, .unset, .unset, .unset]) rfl (XS.iloadN X_J0.here hx rfl (hb hby at_171) rfl  (XS.iconst X_J0.here hx rfl (hb hby at_172) (XS.iushr X_J0.here hx rfl (hb hby at_173) rfl (XS.bipush X_J0.here hx rfl (hb hby at_174) (XS.iand X_J0.here hx rfl (hb hby at_176) rfl (XS.bipush X_J0.here hx rfl (hb hby at_177) (iremM X_J0 hx rfl (hb hby at_179) rfl (by decide) kk_))))))))
    obtain ⟨e_, he0, e_e_⟩ := own_am ((p2.toUInt32 >>> ((4 : Int32) &&& 31).toUInt32).toInt32) (15 : Int32) (by decide) 10 (by decide) (by decide)
    replace e_e_ : (((p2.toUInt32 >>> ((4 : Int32) &&& 31).toUInt32).toInt32) &&& (15 : Int32)) % (10 : Int32) = Int32.ofNat e_ := e_e_
    rw [e_e_]
    show Go p e below _ T_J0 (mkF m 180 #[jv p0, .second, iv p1, iv p2, iv p3, rv b1, jv (Int64.ofNat W), .second, iv (Int32.ofNat len), iv fl, iv (Int32.ofNat d), .unset, .unset, .unset, .unset, .unset, .unset, .unset, .unset] [(.int (Int32.ofNat e_))])
    have he : e_ ≤ 9 := by omega
    refine Go.st (T' := T_J0) (g' := (mkF m 187 #[jv p0, .second, iv p1, iv p2, iv p3, rv b1, jv (Int64.ofNat W), .second, iv (Int32.ofNat len), iv fl, iv (Int32.ofNat d), iv (Int32.ofNat e_), .unset, .unset, .unset, .unset, .unset, .unset, .unset] [(.int (p3 &&& (65535 : Int32)))])) ?_ (fun _ kk_ => XS.istore X_J0.here hx rfl (hb hby at_180) rfl (l' := #[jv p0, .second, iv p1, iv p2, iv p3, rv b1, jv (Int64.ofNat W), .second, iv (Int32.ofNat len), iv fl, iv (Int32.ofNat d), iv (Int32.ofNat e_), .unset, .unset, .unset, .unset, .unset, .unset, .unset]) rfl (XS.iload X_J0.here hx rfl (hb hby at_182) rfl  (X_J0.ldcInt hx hown (mvT hZ (hw _ (List.mem_of_getElem? (i := 20) rfl))) (g := (mkF m 184 #[jv p0, .second, iv p1, iv p2, iv p3, rv b1, jv (Int64.ofNat W), .second, iv (Int32.ofNat len), iv fl, iv (Int32.ofNat d), iv (Int32.ofNat e_), .unset, .unset, .unset, .unset, .unset, .unset, .unset] [(.int p3)])) rfl (hb hby at_184) _ (XS.iand X_J0.here hx rfl (hb hby at_186) rfl kk_))))
    obtain ⟨x, hx_, e_x⟩ := own_and16 p3
    rw [e_x]
    show Go p e below _ T_J0 (mkF m 187 #[jv p0, .second, iv p1, iv p2, iv p3, rv b1, jv (Int64.ofNat W), .second, iv (Int32.ofNat len), iv fl, iv (Int32.ofNat d), iv (Int32.ofNat e_), .unset, .unset, .unset, .unset, .unset, .unset, .unset] [(.int (Int32.ofNat x))])
    refine Go.st (T' := T_J0) (g' := (mkF m 188 #[jv p0, .second, iv p1, iv p2, iv p3, rv b1, jv (Int64.ofNat W), .second, iv (Int32.ofNat len), iv fl, iv (Int32.ofNat d), iv (Int32.ofNat e_), .unset, .unset, .unset, .unset, .unset, .unset, .unset] [(.int ((Int32.ofNat x).toUInt32.toUInt16.toUInt32.toInt32))])) ?_ (fun _ kk_ => XS.i2c X_J0.here hx rfl (hb hby at_187) rfl kk_)
    rw [own_ch16 hx_]
    show Go p e below _ T_J0 (mkF m 188 #[jv p0, .second, iv p1, iv p2, iv p3, rv b1, jv (Int64.ofNat W), .second, iv (Int32.ofNat len), iv fl, iv (Int32.ofNat d), iv (Int32.ofNat e_), .unset, .unset, .unset, .unset, .unset, .unset, .unset] [(.int (Int32.ofNat x))])
    refine Go.st (T' := T_J0) (g' := (mkF m 192 #[jv p0, .second, iv p1, iv p2, iv p3, rv b1, jv (Int64.ofNat W), .second, iv (Int32.ofNat len), iv fl, iv (Int32.ofNat d), iv (Int32.ofNat e_), iv (Int32.ofNat x), .unset, .unset, .unset, .unset, .unset, .unset] [(.int (21 : Int32))])) ?_ (fun _ kk_ => XS.istore X_J0.here hx rfl (hb hby at_188) rfl (l' := #[jv p0, .second, iv p1, iv p2, iv p3, rv b1, jv (Int64.ofNat W), .second, iv (Int32.ofNat len), iv fl, iv (Int32.ofNat d), iv (Int32.ofNat e_), iv (Int32.ofNat x), .unset, .unset, .unset, .unset, .unset, .unset]) rfl (XS.bipush X_J0.here hx rfl (hb hby at_190) kk_))
    refine Go.newP X_J0 hx hZ (aty := .char) (hw _ (List.mem_of_getElem? (i := 21) rfl)) e_J0 rfl (hb hby at_192) (n := 21) rfl rfl 21 (by decide) (by decide) (by decide) (by decide) ?_
    intro T119 h119 b119 X119 e119 E119 g119 V119
    have ne_b1_b119 : b1 ≠ b119 := Nat.ne_of_lt (Nat.lt_of_lt_of_eq (f_J0_0).lt g119.symm)
    have g_b119 : n0 ≤ b119 := Nat.le_trans Z_J0 (Nat.le_of_eq g119.symm)
    have HS120 := HS.ext HS_J0 E119
    have O121 := O_J0.ext E119
    have Z122 : n0 ≤ h119.size := Nat.le_trans Z_J0 E119.1
    change Ary Z h119 b119 .char [.int 0, .int 0, .int 0, .int 0, .int 0, .int 0, .int 0, .int 0, .int 0, .int 0, .int 0, .int 0, .int 0, .int 0, .int 0, .int 0, .int 0, .int 0, .int 0, .int 0, .int 0] at V119
    have sf123 := Sf.born HS_J0 E119 g119 V119.lt
    show Go p e below _ T119 (mkF m 194 #[jv p0, .second, iv p1, iv p2, iv p3, rv b1, jv (Int64.ofNat W), .second, iv (Int32.ofNat len), iv fl, iv (Int32.ofNat d), iv (Int32.ofNat e_), iv (Int32.ofNat x), .unset, .unset, .unset, .unset, .unset, .unset] [(.ref b119)])
    refine Go.st (T' := T119) (g' := (mkF m 205 #[jv p0, .second, iv p1, iv p2, iv p3, rv b1, jv (Int64.ofNat W), .second, iv (Int32.ofNat len), iv fl, iv (Int32.ofNat d), iv (Int32.ofNat e_), iv (Int32.ofNat x), rv b119, .unset, .unset, .unset, .unset, .unset] [(.int (18 : Int32)), (.ref b1), (.long (Int64.ofNat W)), (.int (0 : Int32)), (.ref b119)])) ?_ (fun _ kk_ => XS.astore X119.here hx rfl (hb hby at_194) rfl rfl (l' := #[jv p0, .second, iv p1, iv p2, iv p3, rv b1, jv (Int64.ofNat W), .second, iv (Int32.ofNat len), iv fl, iv (Int32.ofNat d), iv (Int32.ofNat e_), iv (Int32.ofNat x), rv b119, .unset, .unset, .unset, .unset, .unset]) rfl (XS.aload X119.here hx rfl (hb hby at_196) rfl rfl  (XS.iconst X119.here hx rfl (hb hby at_198) (XS.lload X119.here hx rfl (hb hby at_199) rfl  (XS.aload X119.here hx rfl (hb hby at_201) rfl rfl  (XS.bipush X119.here hx rfl (hb hby at_203) kk_))))))
    have f124 := (f_J0_0.ext E119)
    refine Go.st (T' := T119) (g' := (mkF m 206 #[jv p0, .second, iv p1, iv p2, iv p3, rv b1, jv (Int64.ofNat W), .second, iv (Int32.ofNat len), iv fl, iv (Int32.ofNat d), iv (Int32.ofNat e_), iv (Int32.ofNat x), rv b119, .unset, .unset, .unset, .unset, .unset] [(.long (1000000000000000000 : Int64)), (.long (Int64.ofNat W)), (.int (0 : Int32)), (.ref b119)])) ?_ (fun _ kk_ => own_laload X119 hx hZ e119 f124 (i := 18) (v := (.long (1000000000000000000 : Int64))) rfl rfl rfl rfl (hb hby at_205) kk_)
    refine Go.callS (y := (⟨"com/example/stentor/stentor/core/PositiveDecimalParsePinLaw", "dig", "(JJ)C"⟩ : MethodName)) X119 hx hZ hown (hw _ (List.mem_of_getElem? (i := 22) rfl)) (hw _ (List.mem_of_getElem? (i := 23) rfl)) (hw _ (List.mem_of_getElem? (i := 24) rfl)) (hw _ (List.mem_of_getElem? (i := 25) rfl)) (by decide) 2 (rm_dig l Z a0 hw [] W 1000000000000000000 h119 hW (by decide) (by decide)) e119 (by decide) (by decide) (by decide) (by decide) (argsL := [(.long (Int64.ofNat W)), (.long (1000000000000000000 : Int64))]) (rest := [(.int (0 : Int32)), (.ref b119)]) rfl (by rw [hml]; rfl) (lenOf pd__28JJ_29C rfl) rfl rfl (by show 2 * 0 + _ ≤ _; exact Nat.le_of_eq rfl) (hb hby at_206) ?_
    rintro _ T125 L125 X125 ⟨rfl, e125, rfl⟩
    have N126 := Fr.app N_J0 (Fr.nil _)
    show Go p e below _ T125 (mkF m 209 #[jv p0, .second, iv p1, iv p2, iv p3, rv b1, jv (Int64.ofNat W), .second, iv (Int32.ofNat len), iv fl, iv (Int32.ofNat d), iv (Int32.ofNat e_), iv (Int32.ofNat x), rv b119, .unset, .unset, .unset, .unset, .unset] [(.int (Int32.ofNat (48 + W / 1000000000000000000 % 10))), (.int (0 : Int32)), (.ref b119)])
    refine Go.castore X125 hx hZ e125 V119 (y := (Int32.ofNat (48 + W / 1000000000000000000 % 10))) (ch_sto _ (by omega)) (i := 0) (by show 0 < 21; decide) rfl rfl rfl (hb hby at_209) ?_
    intro T127 h127 X127 e127 W127 V127
    have N128 := Fr.snoc X127 N126 g_b119
    have HS129 := HS.wr HS120 W127 (sf123).1
    have O130 := O121.wr W127 g_b119
    change Ary Z h127 b119 .char [.int (Int32.ofNat (48 + W / 1000000000000000000 % 10)), .int 0, .int 0, .int 0, .int 0, .int 0, .int 0, .int 0, .int 0, .int 0, .int 0, .int 0, .int 0, .int 0, .int 0, .int 0, .int 0, .int 0, .int 0, .int 0, .int 0] at V127
    have Z131 : n0 ≤ h127.size := by rw [W127.size]; exact Z122
    show Go p e below _ T127 (mkF m 210 #[jv p0, .second, iv p1, iv p2, iv p3, rv b1, jv (Int64.ofNat W), .second, iv (Int32.ofNat len), iv fl, iv (Int32.ofNat d), iv (Int32.ofNat e_), iv (Int32.ofNat x), rv b119, .unset, .unset, .unset, .unset, .unset] [])
    refine Go.st (T' := T127) (g' := (mkF m 219 #[jv p0, .second, iv p1, iv p2, iv p3, rv b1, jv (Int64.ofNat W), .second, iv (Int32.ofNat len), iv fl, iv (Int32.ofNat d), iv (Int32.ofNat e_), iv (Int32.ofNat x), rv b119, .unset, .unset, .unset, .unset, .unset] [(.int (17 : Int32)), (.ref b1), (.long (Int64.ofNat W)), (.int (1 : Int32)), (.ref b119)])) ?_ (fun _ kk_ => XS.aload X127.here hx rfl (hb hby at_210) rfl rfl  (XS.iconst X127.here hx rfl (hb hby at_212) (XS.lload X127.here hx rfl (hb hby at_213) rfl  (XS.aload X127.here hx rfl (hb hby at_215) rfl rfl  (XS.bipush X127.here hx rfl (hb hby at_217) kk_)))))
    have f132 := (f124.other W127 ne_b1_b119)
    refine Go.st (T' := T127) (g' := (mkF m 220 #[jv p0, .second, iv p1, iv p2, iv p3, rv b1, jv (Int64.ofNat W), .second, iv (Int32.ofNat len), iv fl, iv (Int32.ofNat d), iv (Int32.ofNat e_), iv (Int32.ofNat x), rv b119, .unset, .unset, .unset, .unset, .unset] [(.long (100000000000000000 : Int64)), (.long (Int64.ofNat W)), (.int (1 : Int32)), (.ref b119)])) ?_ (fun _ kk_ => own_laload X127 hx hZ e127 f132 (i := 17) (v := (.long (100000000000000000 : Int64))) rfl rfl rfl rfl (hb hby at_219) kk_)
    refine Go.callS (y := (⟨"com/example/stentor/stentor/core/PositiveDecimalParsePinLaw", "dig", "(JJ)C"⟩ : MethodName)) X127 hx hZ hown (hw _ (List.mem_of_getElem? (i := 22) rfl)) (hw _ (List.mem_of_getElem? (i := 23) rfl)) (hw _ (List.mem_of_getElem? (i := 24) rfl)) (hw _ (List.mem_of_getElem? (i := 25) rfl)) (by decide) 2 (rm_dig l Z a0 hw [] W 100000000000000000 h127 hW (by decide) (by decide)) e127 (by decide) (by decide) (by decide) (by decide) (argsL := [(.long (Int64.ofNat W)), (.long (100000000000000000 : Int64))]) (rest := [(.int (1 : Int32)), (.ref b119)]) rfl (by rw [hml]; rfl) (lenOf pd__28JJ_29C rfl) rfl rfl (by show 2 * 0 + _ ≤ _; exact Nat.le_of_eq rfl) (hb hby at_220) ?_
    rintro _ T133 L133 X133 ⟨rfl, e133, rfl⟩
    have N134 := Fr.app N128 (Fr.nil _)
    show Go p e below _ T133 (mkF m 223 #[jv p0, .second, iv p1, iv p2, iv p3, rv b1, jv (Int64.ofNat W), .second, iv (Int32.ofNat len), iv fl, iv (Int32.ofNat d), iv (Int32.ofNat e_), iv (Int32.ofNat x), rv b119, .unset, .unset, .unset, .unset, .unset] [(.int (Int32.ofNat (48 + W / 100000000000000000 % 10))), (.int (1 : Int32)), (.ref b119)])
    refine Go.castore X133 hx hZ e133 V127 (y := (Int32.ofNat (48 + W / 100000000000000000 % 10))) (ch_sto _ (by omega)) (i := 1) (by show 1 < 21; decide) rfl rfl rfl (hb hby at_223) ?_
    intro T135 h135 X135 e135 W135 V135
    have N136 := Fr.snoc X135 N134 g_b119
    have f138 := (Sf.wr HS120 W127 (sf123).1 sf123)
    have HS137 := HS.wr HS129 W135 (f138).1
    have O139 := O130.wr W135 g_b119
    change Ary Z h135 b119 .char [.int (Int32.ofNat (48 + W / 1000000000000000000 % 10)), .int (Int32.ofNat (48 + W / 100000000000000000 % 10)), .int 0, .int 0, .int 0, .int 0, .int 0, .int 0, .int 0, .int 0, .int 0, .int 0, .int 0, .int 0, .int 0, .int 0, .int 0, .int 0, .int 0, .int 0, .int 0] at V135
    have Z140 : n0 ≤ h135.size := by rw [W135.size]; exact Z131
    show Go p e below _ T135 (mkF m 224 #[jv p0, .second, iv p1, iv p2, iv p3, rv b1, jv (Int64.ofNat W), .second, iv (Int32.ofNat len), iv fl, iv (Int32.ofNat d), iv (Int32.ofNat e_), iv (Int32.ofNat x), rv b119, .unset, .unset, .unset, .unset, .unset] [])
    refine Go.st (T' := T135) (g' := (mkF m 233 #[jv p0, .second, iv p1, iv p2, iv p3, rv b1, jv (Int64.ofNat W), .second, iv (Int32.ofNat len), iv fl, iv (Int32.ofNat d), iv (Int32.ofNat e_), iv (Int32.ofNat x), rv b119, .unset, .unset, .unset, .unset, .unset] [(.int (16 : Int32)), (.ref b1), (.long (Int64.ofNat W)), (.int (2 : Int32)), (.ref b119)])) ?_ (fun _ kk_ => XS.aload X135.here hx rfl (hb hby at_224) rfl rfl  (XS.iconst X135.here hx rfl (hb hby at_226) (XS.lload X135.here hx rfl (hb hby at_227) rfl  (XS.aload X135.here hx rfl (hb hby at_229) rfl rfl  (XS.bipush X135.here hx rfl (hb hby at_231) kk_)))))
    have f141 := (f132.other W135 ne_b1_b119)
    refine Go.st (T' := T135) (g' := (mkF m 234 #[jv p0, .second, iv p1, iv p2, iv p3, rv b1, jv (Int64.ofNat W), .second, iv (Int32.ofNat len), iv fl, iv (Int32.ofNat d), iv (Int32.ofNat e_), iv (Int32.ofNat x), rv b119, .unset, .unset, .unset, .unset, .unset] [(.long (10000000000000000 : Int64)), (.long (Int64.ofNat W)), (.int (2 : Int32)), (.ref b119)])) ?_ (fun _ kk_ => own_laload X135 hx hZ e135 f141 (i := 16) (v := (.long (10000000000000000 : Int64))) rfl rfl rfl rfl (hb hby at_233) kk_)
    refine Go.callS (y := (⟨"com/example/stentor/stentor/core/PositiveDecimalParsePinLaw", "dig", "(JJ)C"⟩ : MethodName)) X135 hx hZ hown (hw _ (List.mem_of_getElem? (i := 22) rfl)) (hw _ (List.mem_of_getElem? (i := 23) rfl)) (hw _ (List.mem_of_getElem? (i := 24) rfl)) (hw _ (List.mem_of_getElem? (i := 25) rfl)) (by decide) 2 (rm_dig l Z a0 hw [] W 10000000000000000 h135 hW (by decide) (by decide)) e135 (by decide) (by decide) (by decide) (by decide) (argsL := [(.long (Int64.ofNat W)), (.long (10000000000000000 : Int64))]) (rest := [(.int (2 : Int32)), (.ref b119)]) rfl (by rw [hml]; rfl) (lenOf pd__28JJ_29C rfl) rfl rfl (by show 2 * 0 + _ ≤ _; exact Nat.le_of_eq rfl) (hb hby at_234) ?_
    rintro _ T142 L142 X142 ⟨rfl, e142, rfl⟩
    have N143 := Fr.app N136 (Fr.nil _)
    show Go p e below _ T142 (mkF m 237 #[jv p0, .second, iv p1, iv p2, iv p3, rv b1, jv (Int64.ofNat W), .second, iv (Int32.ofNat len), iv fl, iv (Int32.ofNat d), iv (Int32.ofNat e_), iv (Int32.ofNat x), rv b119, .unset, .unset, .unset, .unset, .unset] [(.int (Int32.ofNat (48 + W / 10000000000000000 % 10))), (.int (2 : Int32)), (.ref b119)])
    refine Go.castore X142 hx hZ e142 V135 (y := (Int32.ofNat (48 + W / 10000000000000000 % 10))) (ch_sto _ (by omega)) (i := 2) (by show 2 < 21; decide) rfl rfl rfl (hb hby at_237) ?_
    intro T144 h144 X144 e144 W144 V144
    have N145 := Fr.snoc X144 N143 g_b119
    have f147 := (Sf.wr HS129 W135 (f138).1 f138)
    have HS146 := HS.wr HS137 W144 (f147).1
    have O148 := O139.wr W144 g_b119
    change Ary Z h144 b119 .char [.int (Int32.ofNat (48 + W / 1000000000000000000 % 10)), .int (Int32.ofNat (48 + W / 100000000000000000 % 10)), .int (Int32.ofNat (48 + W / 10000000000000000 % 10)), .int 0, .int 0, .int 0, .int 0, .int 0, .int 0, .int 0, .int 0, .int 0, .int 0, .int 0, .int 0, .int 0, .int 0, .int 0, .int 0, .int 0, .int 0] at V144
    have Z149 : n0 ≤ h144.size := by rw [W144.size]; exact Z140
    show Go p e below _ T144 (mkF m 238 #[jv p0, .second, iv p1, iv p2, iv p3, rv b1, jv (Int64.ofNat W), .second, iv (Int32.ofNat len), iv fl, iv (Int32.ofNat d), iv (Int32.ofNat e_), iv (Int32.ofNat x), rv b119, .unset, .unset, .unset, .unset, .unset] [])
    refine Go.st (T' := T144) (g' := (mkF m 247 #[jv p0, .second, iv p1, iv p2, iv p3, rv b1, jv (Int64.ofNat W), .second, iv (Int32.ofNat len), iv fl, iv (Int32.ofNat d), iv (Int32.ofNat e_), iv (Int32.ofNat x), rv b119, .unset, .unset, .unset, .unset, .unset] [(.int (15 : Int32)), (.ref b1), (.long (Int64.ofNat W)), (.int (3 : Int32)), (.ref b119)])) ?_ (fun _ kk_ => XS.aload X144.here hx rfl (hb hby at_238) rfl rfl  (XS.iconst X144.here hx rfl (hb hby at_240) (XS.lload X144.here hx rfl (hb hby at_241) rfl  (XS.aload X144.here hx rfl (hb hby at_243) rfl rfl  (XS.bipush X144.here hx rfl (hb hby at_245) kk_)))))
    have f150 := (f141.other W144 ne_b1_b119)
    refine Go.st (T' := T144) (g' := (mkF m 248 #[jv p0, .second, iv p1, iv p2, iv p3, rv b1, jv (Int64.ofNat W), .second, iv (Int32.ofNat len), iv fl, iv (Int32.ofNat d), iv (Int32.ofNat e_), iv (Int32.ofNat x), rv b119, .unset, .unset, .unset, .unset, .unset] [(.long (1000000000000000 : Int64)), (.long (Int64.ofNat W)), (.int (3 : Int32)), (.ref b119)])) ?_ (fun _ kk_ => own_laload X144 hx hZ e144 f150 (i := 15) (v := (.long (1000000000000000 : Int64))) rfl rfl rfl rfl (hb hby at_247) kk_)
    refine Go.callS (y := (⟨"com/example/stentor/stentor/core/PositiveDecimalParsePinLaw", "dig", "(JJ)C"⟩ : MethodName)) X144 hx hZ hown (hw _ (List.mem_of_getElem? (i := 22) rfl)) (hw _ (List.mem_of_getElem? (i := 23) rfl)) (hw _ (List.mem_of_getElem? (i := 24) rfl)) (hw _ (List.mem_of_getElem? (i := 25) rfl)) (by decide) 2 (rm_dig l Z a0 hw [] W 1000000000000000 h144 hW (by decide) (by decide)) e144 (by decide) (by decide) (by decide) (by decide) (argsL := [(.long (Int64.ofNat W)), (.long (1000000000000000 : Int64))]) (rest := [(.int (3 : Int32)), (.ref b119)]) rfl (by rw [hml]; rfl) (lenOf pd__28JJ_29C rfl) rfl rfl (by show 2 * 0 + _ ≤ _; exact Nat.le_of_eq rfl) (hb hby at_248) ?_
    rintro _ T151 L151 X151 ⟨rfl, e151, rfl⟩
    have N152 := Fr.app N145 (Fr.nil _)
    show Go p e below _ T151 (mkF m 251 #[jv p0, .second, iv p1, iv p2, iv p3, rv b1, jv (Int64.ofNat W), .second, iv (Int32.ofNat len), iv fl, iv (Int32.ofNat d), iv (Int32.ofNat e_), iv (Int32.ofNat x), rv b119, .unset, .unset, .unset, .unset, .unset] [(.int (Int32.ofNat (48 + W / 1000000000000000 % 10))), (.int (3 : Int32)), (.ref b119)])
    refine Go.castore X151 hx hZ e151 V144 (y := (Int32.ofNat (48 + W / 1000000000000000 % 10))) (ch_sto _ (by omega)) (i := 3) (by show 3 < 21; decide) rfl rfl rfl (hb hby at_251) ?_
    intro T153 h153 X153 e153 W153 V153
    have N154 := Fr.snoc X153 N152 g_b119
    have f156 := (Sf.wr HS137 W144 (f147).1 f147)
    have HS155 := HS.wr HS146 W153 (f156).1
    have O157 := O148.wr W153 g_b119
    change Ary Z h153 b119 .char [.int (Int32.ofNat (48 + W / 1000000000000000000 % 10)), .int (Int32.ofNat (48 + W / 100000000000000000 % 10)), .int (Int32.ofNat (48 + W / 10000000000000000 % 10)), .int (Int32.ofNat (48 + W / 1000000000000000 % 10)), .int 0, .int 0, .int 0, .int 0, .int 0, .int 0, .int 0, .int 0, .int 0, .int 0, .int 0, .int 0, .int 0, .int 0, .int 0, .int 0, .int 0] at V153
    have Z158 : n0 ≤ h153.size := by rw [W153.size]; exact Z149
    show Go p e below _ T153 (mkF m 252 #[jv p0, .second, iv p1, iv p2, iv p3, rv b1, jv (Int64.ofNat W), .second, iv (Int32.ofNat len), iv fl, iv (Int32.ofNat d), iv (Int32.ofNat e_), iv (Int32.ofNat x), rv b119, .unset, .unset, .unset, .unset, .unset] [])
    refine Go.st (T' := T153) (g' := (mkF m 261 #[jv p0, .second, iv p1, iv p2, iv p3, rv b1, jv (Int64.ofNat W), .second, iv (Int32.ofNat len), iv fl, iv (Int32.ofNat d), iv (Int32.ofNat e_), iv (Int32.ofNat x), rv b119, .unset, .unset, .unset, .unset, .unset] [(.int (14 : Int32)), (.ref b1), (.long (Int64.ofNat W)), (.int (4 : Int32)), (.ref b119)])) ?_ (fun _ kk_ => XS.aload X153.here hx rfl (hb hby at_252) rfl rfl  (XS.iconst X153.here hx rfl (hb hby at_254) (XS.lload X153.here hx rfl (hb hby at_255) rfl  (XS.aload X153.here hx rfl (hb hby at_257) rfl rfl  (XS.bipush X153.here hx rfl (hb hby at_259) kk_)))))
    have f159 := (f150.other W153 ne_b1_b119)
    refine Go.st (T' := T153) (g' := (mkF m 262 #[jv p0, .second, iv p1, iv p2, iv p3, rv b1, jv (Int64.ofNat W), .second, iv (Int32.ofNat len), iv fl, iv (Int32.ofNat d), iv (Int32.ofNat e_), iv (Int32.ofNat x), rv b119, .unset, .unset, .unset, .unset, .unset] [(.long (100000000000000 : Int64)), (.long (Int64.ofNat W)), (.int (4 : Int32)), (.ref b119)])) ?_ (fun _ kk_ => own_laload X153 hx hZ e153 f159 (i := 14) (v := (.long (100000000000000 : Int64))) rfl rfl rfl rfl (hb hby at_261) kk_)
    refine Go.callS (y := (⟨"com/example/stentor/stentor/core/PositiveDecimalParsePinLaw", "dig", "(JJ)C"⟩ : MethodName)) X153 hx hZ hown (hw _ (List.mem_of_getElem? (i := 22) rfl)) (hw _ (List.mem_of_getElem? (i := 23) rfl)) (hw _ (List.mem_of_getElem? (i := 24) rfl)) (hw _ (List.mem_of_getElem? (i := 25) rfl)) (by decide) 2 (rm_dig l Z a0 hw [] W 100000000000000 h153 hW (by decide) (by decide)) e153 (by decide) (by decide) (by decide) (by decide) (argsL := [(.long (Int64.ofNat W)), (.long (100000000000000 : Int64))]) (rest := [(.int (4 : Int32)), (.ref b119)]) rfl (by rw [hml]; rfl) (lenOf pd__28JJ_29C rfl) rfl rfl (by show 2 * 0 + _ ≤ _; exact Nat.le_of_eq rfl) (hb hby at_262) ?_
    rintro _ T160 L160 X160 ⟨rfl, e160, rfl⟩
    have N161 := Fr.app N154 (Fr.nil _)
    show Go p e below _ T160 (mkF m 265 #[jv p0, .second, iv p1, iv p2, iv p3, rv b1, jv (Int64.ofNat W), .second, iv (Int32.ofNat len), iv fl, iv (Int32.ofNat d), iv (Int32.ofNat e_), iv (Int32.ofNat x), rv b119, .unset, .unset, .unset, .unset, .unset] [(.int (Int32.ofNat (48 + W / 100000000000000 % 10))), (.int (4 : Int32)), (.ref b119)])
    refine Go.castore X160 hx hZ e160 V153 (y := (Int32.ofNat (48 + W / 100000000000000 % 10))) (ch_sto _ (by omega)) (i := 4) (by show 4 < 21; decide) rfl rfl rfl (hb hby at_265) ?_
    intro T162 h162 X162 e162 W162 V162
    have N163 := Fr.snoc X162 N161 g_b119
    have f165 := (Sf.wr HS146 W153 (f156).1 f156)
    have HS164 := HS.wr HS155 W162 (f165).1
    have O166 := O157.wr W162 g_b119
    change Ary Z h162 b119 .char [.int (Int32.ofNat (48 + W / 1000000000000000000 % 10)), .int (Int32.ofNat (48 + W / 100000000000000000 % 10)), .int (Int32.ofNat (48 + W / 10000000000000000 % 10)), .int (Int32.ofNat (48 + W / 1000000000000000 % 10)), .int (Int32.ofNat (48 + W / 100000000000000 % 10)), .int 0, .int 0, .int 0, .int 0, .int 0, .int 0, .int 0, .int 0, .int 0, .int 0, .int 0, .int 0, .int 0, .int 0, .int 0, .int 0] at V162
    have Z167 : n0 ≤ h162.size := by rw [W162.size]; exact Z158
    show Go p e below _ T162 (mkF m 266 #[jv p0, .second, iv p1, iv p2, iv p3, rv b1, jv (Int64.ofNat W), .second, iv (Int32.ofNat len), iv fl, iv (Int32.ofNat d), iv (Int32.ofNat e_), iv (Int32.ofNat x), rv b119, .unset, .unset, .unset, .unset, .unset] [])
    refine Go.st (T' := T162) (g' := (mkF m 275 #[jv p0, .second, iv p1, iv p2, iv p3, rv b1, jv (Int64.ofNat W), .second, iv (Int32.ofNat len), iv fl, iv (Int32.ofNat d), iv (Int32.ofNat e_), iv (Int32.ofNat x), rv b119, .unset, .unset, .unset, .unset, .unset] [(.int (13 : Int32)), (.ref b1), (.long (Int64.ofNat W)), (.int (5 : Int32)), (.ref b119)])) ?_ (fun _ kk_ => XS.aload X162.here hx rfl (hb hby at_266) rfl rfl  (XS.iconst X162.here hx rfl (hb hby at_268) (XS.lload X162.here hx rfl (hb hby at_269) rfl  (XS.aload X162.here hx rfl (hb hby at_271) rfl rfl  (XS.bipush X162.here hx rfl (hb hby at_273) kk_)))))
    have f168 := (f159.other W162 ne_b1_b119)
    refine Go.st (T' := T162) (g' := (mkF m 276 #[jv p0, .second, iv p1, iv p2, iv p3, rv b1, jv (Int64.ofNat W), .second, iv (Int32.ofNat len), iv fl, iv (Int32.ofNat d), iv (Int32.ofNat e_), iv (Int32.ofNat x), rv b119, .unset, .unset, .unset, .unset, .unset] [(.long (10000000000000 : Int64)), (.long (Int64.ofNat W)), (.int (5 : Int32)), (.ref b119)])) ?_ (fun _ kk_ => own_laload X162 hx hZ e162 f168 (i := 13) (v := (.long (10000000000000 : Int64))) rfl rfl rfl rfl (hb hby at_275) kk_)
    refine Go.callS (y := (⟨"com/example/stentor/stentor/core/PositiveDecimalParsePinLaw", "dig", "(JJ)C"⟩ : MethodName)) X162 hx hZ hown (hw _ (List.mem_of_getElem? (i := 22) rfl)) (hw _ (List.mem_of_getElem? (i := 23) rfl)) (hw _ (List.mem_of_getElem? (i := 24) rfl)) (hw _ (List.mem_of_getElem? (i := 25) rfl)) (by decide) 2 (rm_dig l Z a0 hw [] W 10000000000000 h162 hW (by decide) (by decide)) e162 (by decide) (by decide) (by decide) (by decide) (argsL := [(.long (Int64.ofNat W)), (.long (10000000000000 : Int64))]) (rest := [(.int (5 : Int32)), (.ref b119)]) rfl (by rw [hml]; rfl) (lenOf pd__28JJ_29C rfl) rfl rfl (by show 2 * 0 + _ ≤ _; exact Nat.le_of_eq rfl) (hb hby at_276) ?_
    rintro _ T169 L169 X169 ⟨rfl, e169, rfl⟩
    have N170 := Fr.app N163 (Fr.nil _)
    show Go p e below _ T169 (mkF m 279 #[jv p0, .second, iv p1, iv p2, iv p3, rv b1, jv (Int64.ofNat W), .second, iv (Int32.ofNat len), iv fl, iv (Int32.ofNat d), iv (Int32.ofNat e_), iv (Int32.ofNat x), rv b119, .unset, .unset, .unset, .unset, .unset] [(.int (Int32.ofNat (48 + W / 10000000000000 % 10))), (.int (5 : Int32)), (.ref b119)])
    refine Go.castore X169 hx hZ e169 V162 (y := (Int32.ofNat (48 + W / 10000000000000 % 10))) (ch_sto _ (by omega)) (i := 5) (by show 5 < 21; decide) rfl rfl rfl (hb hby at_279) ?_
    intro T171 h171 X171 e171 W171 V171
    have N172 := Fr.snoc X171 N170 g_b119
    have f174 := (Sf.wr HS155 W162 (f165).1 f165)
    have HS173 := HS.wr HS164 W171 (f174).1
    have O175 := O166.wr W171 g_b119
    change Ary Z h171 b119 .char [.int (Int32.ofNat (48 + W / 1000000000000000000 % 10)), .int (Int32.ofNat (48 + W / 100000000000000000 % 10)), .int (Int32.ofNat (48 + W / 10000000000000000 % 10)), .int (Int32.ofNat (48 + W / 1000000000000000 % 10)), .int (Int32.ofNat (48 + W / 100000000000000 % 10)), .int (Int32.ofNat (48 + W / 10000000000000 % 10)), .int 0, .int 0, .int 0, .int 0, .int 0, .int 0, .int 0, .int 0, .int 0, .int 0, .int 0, .int 0, .int 0, .int 0, .int 0] at V171
    have Z176 : n0 ≤ h171.size := by rw [W171.size]; exact Z167
    show Go p e below _ T171 (mkF m 280 #[jv p0, .second, iv p1, iv p2, iv p3, rv b1, jv (Int64.ofNat W), .second, iv (Int32.ofNat len), iv fl, iv (Int32.ofNat d), iv (Int32.ofNat e_), iv (Int32.ofNat x), rv b119, .unset, .unset, .unset, .unset, .unset] [])
    refine Go.st (T' := T171) (g' := (mkF m 290 #[jv p0, .second, iv p1, iv p2, iv p3, rv b1, jv (Int64.ofNat W), .second, iv (Int32.ofNat len), iv fl, iv (Int32.ofNat d), iv (Int32.ofNat e_), iv (Int32.ofNat x), rv b119, .unset, .unset, .unset, .unset, .unset] [(.int (12 : Int32)), (.ref b1), (.long (Int64.ofNat W)), (.int (6 : Int32)), (.ref b119)])) ?_ (fun _ kk_ => XS.aload X171.here hx rfl (hb hby at_280) rfl rfl  (XS.bipush X171.here hx rfl (hb hby at_282) (XS.lload X171.here hx rfl (hb hby at_284) rfl  (XS.aload X171.here hx rfl (hb hby at_286) rfl rfl  (XS.bipush X171.here hx rfl (hb hby at_288) kk_)))))
    have f177 := (f168.other W171 ne_b1_b119)
    refine Go.st (T' := T171) (g' := (mkF m 291 #[jv p0, .second, iv p1, iv p2, iv p3, rv b1, jv (Int64.ofNat W), .second, iv (Int32.ofNat len), iv fl, iv (Int32.ofNat d), iv (Int32.ofNat e_), iv (Int32.ofNat x), rv b119, .unset, .unset, .unset, .unset, .unset] [(.long (1000000000000 : Int64)), (.long (Int64.ofNat W)), (.int (6 : Int32)), (.ref b119)])) ?_ (fun _ kk_ => own_laload X171 hx hZ e171 f177 (i := 12) (v := (.long (1000000000000 : Int64))) rfl rfl rfl rfl (hb hby at_290) kk_)
    refine Go.callS (y := (⟨"com/example/stentor/stentor/core/PositiveDecimalParsePinLaw", "dig", "(JJ)C"⟩ : MethodName)) X171 hx hZ hown (hw _ (List.mem_of_getElem? (i := 22) rfl)) (hw _ (List.mem_of_getElem? (i := 23) rfl)) (hw _ (List.mem_of_getElem? (i := 24) rfl)) (hw _ (List.mem_of_getElem? (i := 25) rfl)) (by decide) 2 (rm_dig l Z a0 hw [] W 1000000000000 h171 hW (by decide) (by decide)) e171 (by decide) (by decide) (by decide) (by decide) (argsL := [(.long (Int64.ofNat W)), (.long (1000000000000 : Int64))]) (rest := [(.int (6 : Int32)), (.ref b119)]) rfl (by rw [hml]; rfl) (lenOf pd__28JJ_29C rfl) rfl rfl (by show 2 * 0 + _ ≤ _; exact Nat.le_of_eq rfl) (hb hby at_291) ?_
    rintro _ T178 L178 X178 ⟨rfl, e178, rfl⟩
    have N179 := Fr.app N172 (Fr.nil _)
    show Go p e below _ T178 (mkF m 294 #[jv p0, .second, iv p1, iv p2, iv p3, rv b1, jv (Int64.ofNat W), .second, iv (Int32.ofNat len), iv fl, iv (Int32.ofNat d), iv (Int32.ofNat e_), iv (Int32.ofNat x), rv b119, .unset, .unset, .unset, .unset, .unset] [(.int (Int32.ofNat (48 + W / 1000000000000 % 10))), (.int (6 : Int32)), (.ref b119)])
    refine Go.castore X178 hx hZ e178 V171 (y := (Int32.ofNat (48 + W / 1000000000000 % 10))) (ch_sto _ (by omega)) (i := 6) (by show 6 < 21; decide) rfl rfl rfl (hb hby at_294) ?_
    intro T180 h180 X180 e180 W180 V180
    have N181 := Fr.snoc X180 N179 g_b119
    have f183 := (Sf.wr HS164 W171 (f174).1 f174)
    have HS182 := HS.wr HS173 W180 (f183).1
    have O184 := O175.wr W180 g_b119
    change Ary Z h180 b119 .char [.int (Int32.ofNat (48 + W / 1000000000000000000 % 10)), .int (Int32.ofNat (48 + W / 100000000000000000 % 10)), .int (Int32.ofNat (48 + W / 10000000000000000 % 10)), .int (Int32.ofNat (48 + W / 1000000000000000 % 10)), .int (Int32.ofNat (48 + W / 100000000000000 % 10)), .int (Int32.ofNat (48 + W / 10000000000000 % 10)), .int (Int32.ofNat (48 + W / 1000000000000 % 10)), .int 0, .int 0, .int 0, .int 0, .int 0, .int 0, .int 0, .int 0, .int 0, .int 0, .int 0, .int 0, .int 0, .int 0] at V180
    have Z185 : n0 ≤ h180.size := by rw [W180.size]; exact Z176
    show Go p e below _ T180 (mkF m 295 #[jv p0, .second, iv p1, iv p2, iv p3, rv b1, jv (Int64.ofNat W), .second, iv (Int32.ofNat len), iv fl, iv (Int32.ofNat d), iv (Int32.ofNat e_), iv (Int32.ofNat x), rv b119, .unset, .unset, .unset, .unset, .unset] [])
    refine Go.st (T' := T180) (g' := (mkF m 305 #[jv p0, .second, iv p1, iv p2, iv p3, rv b1, jv (Int64.ofNat W), .second, iv (Int32.ofNat len), iv fl, iv (Int32.ofNat d), iv (Int32.ofNat e_), iv (Int32.ofNat x), rv b119, .unset, .unset, .unset, .unset, .unset] [(.int (11 : Int32)), (.ref b1), (.long (Int64.ofNat W)), (.int (7 : Int32)), (.ref b119)])) ?_ (fun _ kk_ => XS.aload X180.here hx rfl (hb hby at_295) rfl rfl  (XS.bipush X180.here hx rfl (hb hby at_297) (XS.lload X180.here hx rfl (hb hby at_299) rfl  (XS.aload X180.here hx rfl (hb hby at_301) rfl rfl  (XS.bipush X180.here hx rfl (hb hby at_303) kk_)))))
    have f186 := (f177.other W180 ne_b1_b119)
    refine Go.st (T' := T180) (g' := (mkF m 306 #[jv p0, .second, iv p1, iv p2, iv p3, rv b1, jv (Int64.ofNat W), .second, iv (Int32.ofNat len), iv fl, iv (Int32.ofNat d), iv (Int32.ofNat e_), iv (Int32.ofNat x), rv b119, .unset, .unset, .unset, .unset, .unset] [(.long (100000000000 : Int64)), (.long (Int64.ofNat W)), (.int (7 : Int32)), (.ref b119)])) ?_ (fun _ kk_ => own_laload X180 hx hZ e180 f186 (i := 11) (v := (.long (100000000000 : Int64))) rfl rfl rfl rfl (hb hby at_305) kk_)
    refine Go.callS (y := (⟨"com/example/stentor/stentor/core/PositiveDecimalParsePinLaw", "dig", "(JJ)C"⟩ : MethodName)) X180 hx hZ hown (hw _ (List.mem_of_getElem? (i := 22) rfl)) (hw _ (List.mem_of_getElem? (i := 23) rfl)) (hw _ (List.mem_of_getElem? (i := 24) rfl)) (hw _ (List.mem_of_getElem? (i := 25) rfl)) (by decide) 2 (rm_dig l Z a0 hw [] W 100000000000 h180 hW (by decide) (by decide)) e180 (by decide) (by decide) (by decide) (by decide) (argsL := [(.long (Int64.ofNat W)), (.long (100000000000 : Int64))]) (rest := [(.int (7 : Int32)), (.ref b119)]) rfl (by rw [hml]; rfl) (lenOf pd__28JJ_29C rfl) rfl rfl (by show 2 * 0 + _ ≤ _; exact Nat.le_of_eq rfl) (hb hby at_306) ?_
    rintro _ T187 L187 X187 ⟨rfl, e187, rfl⟩
    have N188 := Fr.app N181 (Fr.nil _)
    show Go p e below _ T187 (mkF m 309 #[jv p0, .second, iv p1, iv p2, iv p3, rv b1, jv (Int64.ofNat W), .second, iv (Int32.ofNat len), iv fl, iv (Int32.ofNat d), iv (Int32.ofNat e_), iv (Int32.ofNat x), rv b119, .unset, .unset, .unset, .unset, .unset] [(.int (Int32.ofNat (48 + W / 100000000000 % 10))), (.int (7 : Int32)), (.ref b119)])
    refine Go.castore X187 hx hZ e187 V180 (y := (Int32.ofNat (48 + W / 100000000000 % 10))) (ch_sto _ (by omega)) (i := 7) (by show 7 < 21; decide) rfl rfl rfl (hb hby at_309) ?_
    intro T189 h189 X189 e189 W189 V189
    have N190 := Fr.snoc X189 N188 g_b119
    have f192 := (Sf.wr HS173 W180 (f183).1 f183)
    have HS191 := HS.wr HS182 W189 (f192).1
    have O193 := O184.wr W189 g_b119
    change Ary Z h189 b119 .char [.int (Int32.ofNat (48 + W / 1000000000000000000 % 10)), .int (Int32.ofNat (48 + W / 100000000000000000 % 10)), .int (Int32.ofNat (48 + W / 10000000000000000 % 10)), .int (Int32.ofNat (48 + W / 1000000000000000 % 10)), .int (Int32.ofNat (48 + W / 100000000000000 % 10)), .int (Int32.ofNat (48 + W / 10000000000000 % 10)), .int (Int32.ofNat (48 + W / 1000000000000 % 10)), .int (Int32.ofNat (48 + W / 100000000000 % 10)), .int 0, .int 0, .int 0, .int 0, .int 0, .int 0, .int 0, .int 0, .int 0, .int 0, .int 0, .int 0, .int 0] at V189
    have Z194 : n0 ≤ h189.size := by rw [W189.size]; exact Z185
    show Go p e below _ T189 (mkF m 310 #[jv p0, .second, iv p1, iv p2, iv p3, rv b1, jv (Int64.ofNat W), .second, iv (Int32.ofNat len), iv fl, iv (Int32.ofNat d), iv (Int32.ofNat e_), iv (Int32.ofNat x), rv b119, .unset, .unset, .unset, .unset, .unset] [])
    refine Go.st (T' := T189) (g' := (mkF m 320 #[jv p0, .second, iv p1, iv p2, iv p3, rv b1, jv (Int64.ofNat W), .second, iv (Int32.ofNat len), iv fl, iv (Int32.ofNat d), iv (Int32.ofNat e_), iv (Int32.ofNat x), rv b119, .unset, .unset, .unset, .unset, .unset] [(.int (10 : Int32)), (.ref b1), (.long (Int64.ofNat W)), (.int (8 : Int32)), (.ref b119)])) ?_ (fun _ kk_ => XS.aload X189.here hx rfl (hb hby at_310) rfl rfl  (XS.bipush X189.here hx rfl (hb hby at_312) (XS.lload X189.here hx rfl (hb hby at_314) rfl  (XS.aload X189.here hx rfl (hb hby at_316) rfl rfl  (XS.bipush X189.here hx rfl (hb hby at_318) kk_)))))
    have f195 := (f186.other W189 ne_b1_b119)
    refine Go.st (T' := T189) (g' := (mkF m 321 #[jv p0, .second, iv p1, iv p2, iv p3, rv b1, jv (Int64.ofNat W), .second, iv (Int32.ofNat len), iv fl, iv (Int32.ofNat d), iv (Int32.ofNat e_), iv (Int32.ofNat x), rv b119, .unset, .unset, .unset, .unset, .unset] [(.long (10000000000 : Int64)), (.long (Int64.ofNat W)), (.int (8 : Int32)), (.ref b119)])) ?_ (fun _ kk_ => own_laload X189 hx hZ e189 f195 (i := 10) (v := (.long (10000000000 : Int64))) rfl rfl rfl rfl (hb hby at_320) kk_)
    refine Go.callS (y := (⟨"com/example/stentor/stentor/core/PositiveDecimalParsePinLaw", "dig", "(JJ)C"⟩ : MethodName)) X189 hx hZ hown (hw _ (List.mem_of_getElem? (i := 22) rfl)) (hw _ (List.mem_of_getElem? (i := 23) rfl)) (hw _ (List.mem_of_getElem? (i := 24) rfl)) (hw _ (List.mem_of_getElem? (i := 25) rfl)) (by decide) 2 (rm_dig l Z a0 hw [] W 10000000000 h189 hW (by decide) (by decide)) e189 (by decide) (by decide) (by decide) (by decide) (argsL := [(.long (Int64.ofNat W)), (.long (10000000000 : Int64))]) (rest := [(.int (8 : Int32)), (.ref b119)]) rfl (by rw [hml]; rfl) (lenOf pd__28JJ_29C rfl) rfl rfl (by show 2 * 0 + _ ≤ _; exact Nat.le_of_eq rfl) (hb hby at_321) ?_
    rintro _ T196 L196 X196 ⟨rfl, e196, rfl⟩
    have N197 := Fr.app N190 (Fr.nil _)
    show Go p e below _ T196 (mkF m 324 #[jv p0, .second, iv p1, iv p2, iv p3, rv b1, jv (Int64.ofNat W), .second, iv (Int32.ofNat len), iv fl, iv (Int32.ofNat d), iv (Int32.ofNat e_), iv (Int32.ofNat x), rv b119, .unset, .unset, .unset, .unset, .unset] [(.int (Int32.ofNat (48 + W / 10000000000 % 10))), (.int (8 : Int32)), (.ref b119)])
    refine Go.castore X196 hx hZ e196 V189 (y := (Int32.ofNat (48 + W / 10000000000 % 10))) (ch_sto _ (by omega)) (i := 8) (by show 8 < 21; decide) rfl rfl rfl (hb hby at_324) ?_
    intro T198 h198 X198 e198 W198 V198
    have N199 := Fr.snoc X198 N197 g_b119
    have f201 := (Sf.wr HS182 W189 (f192).1 f192)
    have HS200 := HS.wr HS191 W198 (f201).1
    have O202 := O193.wr W198 g_b119
    change Ary Z h198 b119 .char [.int (Int32.ofNat (48 + W / 1000000000000000000 % 10)), .int (Int32.ofNat (48 + W / 100000000000000000 % 10)), .int (Int32.ofNat (48 + W / 10000000000000000 % 10)), .int (Int32.ofNat (48 + W / 1000000000000000 % 10)), .int (Int32.ofNat (48 + W / 100000000000000 % 10)), .int (Int32.ofNat (48 + W / 10000000000000 % 10)), .int (Int32.ofNat (48 + W / 1000000000000 % 10)), .int (Int32.ofNat (48 + W / 100000000000 % 10)), .int (Int32.ofNat (48 + W / 10000000000 % 10)), .int 0, .int 0, .int 0, .int 0, .int 0, .int 0, .int 0, .int 0, .int 0, .int 0, .int 0, .int 0] at V198
    have Z203 : n0 ≤ h198.size := by rw [W198.size]; exact Z194
    show Go p e below _ T198 (mkF m 325 #[jv p0, .second, iv p1, iv p2, iv p3, rv b1, jv (Int64.ofNat W), .second, iv (Int32.ofNat len), iv fl, iv (Int32.ofNat d), iv (Int32.ofNat e_), iv (Int32.ofNat x), rv b119, .unset, .unset, .unset, .unset, .unset] [])
    refine Go.st (T' := T198) (g' := (mkF m 335 #[jv p0, .second, iv p1, iv p2, iv p3, rv b1, jv (Int64.ofNat W), .second, iv (Int32.ofNat len), iv fl, iv (Int32.ofNat d), iv (Int32.ofNat e_), iv (Int32.ofNat x), rv b119, .unset, .unset, .unset, .unset, .unset] [(.int (9 : Int32)), (.ref b1), (.long (Int64.ofNat W)), (.int (9 : Int32)), (.ref b119)])) ?_ (fun _ kk_ => XS.aload X198.here hx rfl (hb hby at_325) rfl rfl  (XS.bipush X198.here hx rfl (hb hby at_327) (XS.lload X198.here hx rfl (hb hby at_329) rfl  (XS.aload X198.here hx rfl (hb hby at_331) rfl rfl  (XS.bipush X198.here hx rfl (hb hby at_333) kk_)))))
    have f204 := (f195.other W198 ne_b1_b119)
    refine Go.st (T' := T198) (g' := (mkF m 336 #[jv p0, .second, iv p1, iv p2, iv p3, rv b1, jv (Int64.ofNat W), .second, iv (Int32.ofNat len), iv fl, iv (Int32.ofNat d), iv (Int32.ofNat e_), iv (Int32.ofNat x), rv b119, .unset, .unset, .unset, .unset, .unset] [(.long (1000000000 : Int64)), (.long (Int64.ofNat W)), (.int (9 : Int32)), (.ref b119)])) ?_ (fun _ kk_ => own_laload X198 hx hZ e198 f204 (i := 9) (v := (.long (1000000000 : Int64))) rfl rfl rfl rfl (hb hby at_335) kk_)
    refine Go.callS (y := (⟨"com/example/stentor/stentor/core/PositiveDecimalParsePinLaw", "dig", "(JJ)C"⟩ : MethodName)) X198 hx hZ hown (hw _ (List.mem_of_getElem? (i := 22) rfl)) (hw _ (List.mem_of_getElem? (i := 23) rfl)) (hw _ (List.mem_of_getElem? (i := 24) rfl)) (hw _ (List.mem_of_getElem? (i := 25) rfl)) (by decide) 2 (rm_dig l Z a0 hw [] W 1000000000 h198 hW (by decide) (by decide)) e198 (by decide) (by decide) (by decide) (by decide) (argsL := [(.long (Int64.ofNat W)), (.long (1000000000 : Int64))]) (rest := [(.int (9 : Int32)), (.ref b119)]) rfl (by rw [hml]; rfl) (lenOf pd__28JJ_29C rfl) rfl rfl (by show 2 * 0 + _ ≤ _; exact Nat.le_of_eq rfl) (hb hby at_336) ?_
    rintro _ T205 L205 X205 ⟨rfl, e205, rfl⟩
    have N206 := Fr.app N199 (Fr.nil _)
    show Go p e below _ T205 (mkF m 339 #[jv p0, .second, iv p1, iv p2, iv p3, rv b1, jv (Int64.ofNat W), .second, iv (Int32.ofNat len), iv fl, iv (Int32.ofNat d), iv (Int32.ofNat e_), iv (Int32.ofNat x), rv b119, .unset, .unset, .unset, .unset, .unset] [(.int (Int32.ofNat (48 + W / 1000000000 % 10))), (.int (9 : Int32)), (.ref b119)])
    refine Go.castore X205 hx hZ e205 V198 (y := (Int32.ofNat (48 + W / 1000000000 % 10))) (ch_sto _ (by omega)) (i := 9) (by show 9 < 21; decide) rfl rfl rfl (hb hby at_339) ?_
    intro T207 h207 X207 e207 W207 V207
    have N208 := Fr.snoc X207 N206 g_b119
    have f210 := (Sf.wr HS191 W198 (f201).1 f201)
    have HS209 := HS.wr HS200 W207 (f210).1
    have O211 := O202.wr W207 g_b119
    change Ary Z h207 b119 .char [.int (Int32.ofNat (48 + W / 1000000000000000000 % 10)), .int (Int32.ofNat (48 + W / 100000000000000000 % 10)), .int (Int32.ofNat (48 + W / 10000000000000000 % 10)), .int (Int32.ofNat (48 + W / 1000000000000000 % 10)), .int (Int32.ofNat (48 + W / 100000000000000 % 10)), .int (Int32.ofNat (48 + W / 10000000000000 % 10)), .int (Int32.ofNat (48 + W / 1000000000000 % 10)), .int (Int32.ofNat (48 + W / 100000000000 % 10)), .int (Int32.ofNat (48 + W / 10000000000 % 10)), .int (Int32.ofNat (48 + W / 1000000000 % 10)), .int 0, .int 0, .int 0, .int 0, .int 0, .int 0, .int 0, .int 0, .int 0, .int 0, .int 0] at V207
    have Z212 : n0 ≤ h207.size := by rw [W207.size]; exact Z203
    show Go p e below _ T207 (mkF m 340 #[jv p0, .second, iv p1, iv p2, iv p3, rv b1, jv (Int64.ofNat W), .second, iv (Int32.ofNat len), iv fl, iv (Int32.ofNat d), iv (Int32.ofNat e_), iv (Int32.ofNat x), rv b119, .unset, .unset, .unset, .unset, .unset] [])
    refine Go.st (T' := T207) (g' := (mkF m 350 #[jv p0, .second, iv p1, iv p2, iv p3, rv b1, jv (Int64.ofNat W), .second, iv (Int32.ofNat len), iv fl, iv (Int32.ofNat d), iv (Int32.ofNat e_), iv (Int32.ofNat x), rv b119, .unset, .unset, .unset, .unset, .unset] [(.int (8 : Int32)), (.ref b1), (.long (Int64.ofNat W)), (.int (10 : Int32)), (.ref b119)])) ?_ (fun _ kk_ => XS.aload X207.here hx rfl (hb hby at_340) rfl rfl  (XS.bipush X207.here hx rfl (hb hby at_342) (XS.lload X207.here hx rfl (hb hby at_344) rfl  (XS.aload X207.here hx rfl (hb hby at_346) rfl rfl  (XS.bipush X207.here hx rfl (hb hby at_348) kk_)))))
    have f213 := (f204.other W207 ne_b1_b119)
    refine Go.st (T' := T207) (g' := (mkF m 351 #[jv p0, .second, iv p1, iv p2, iv p3, rv b1, jv (Int64.ofNat W), .second, iv (Int32.ofNat len), iv fl, iv (Int32.ofNat d), iv (Int32.ofNat e_), iv (Int32.ofNat x), rv b119, .unset, .unset, .unset, .unset, .unset] [(.long (100000000 : Int64)), (.long (Int64.ofNat W)), (.int (10 : Int32)), (.ref b119)])) ?_ (fun _ kk_ => own_laload X207 hx hZ e207 f213 (i := 8) (v := (.long (100000000 : Int64))) rfl rfl rfl rfl (hb hby at_350) kk_)
    refine Go.callS (y := (⟨"com/example/stentor/stentor/core/PositiveDecimalParsePinLaw", "dig", "(JJ)C"⟩ : MethodName)) X207 hx hZ hown (hw _ (List.mem_of_getElem? (i := 22) rfl)) (hw _ (List.mem_of_getElem? (i := 23) rfl)) (hw _ (List.mem_of_getElem? (i := 24) rfl)) (hw _ (List.mem_of_getElem? (i := 25) rfl)) (by decide) 2 (rm_dig l Z a0 hw [] W 100000000 h207 hW (by decide) (by decide)) e207 (by decide) (by decide) (by decide) (by decide) (argsL := [(.long (Int64.ofNat W)), (.long (100000000 : Int64))]) (rest := [(.int (10 : Int32)), (.ref b119)]) rfl (by rw [hml]; rfl) (lenOf pd__28JJ_29C rfl) rfl rfl (by show 2 * 0 + _ ≤ _; exact Nat.le_of_eq rfl) (hb hby at_351) ?_
    rintro _ T214 L214 X214 ⟨rfl, e214, rfl⟩
    have N215 := Fr.app N208 (Fr.nil _)
    show Go p e below _ T214 (mkF m 354 #[jv p0, .second, iv p1, iv p2, iv p3, rv b1, jv (Int64.ofNat W), .second, iv (Int32.ofNat len), iv fl, iv (Int32.ofNat d), iv (Int32.ofNat e_), iv (Int32.ofNat x), rv b119, .unset, .unset, .unset, .unset, .unset] [(.int (Int32.ofNat (48 + W / 100000000 % 10))), (.int (10 : Int32)), (.ref b119)])
    refine Go.castore X214 hx hZ e214 V207 (y := (Int32.ofNat (48 + W / 100000000 % 10))) (ch_sto _ (by omega)) (i := 10) (by show 10 < 21; decide) rfl rfl rfl (hb hby at_354) ?_
    intro T216 h216 X216 e216 W216 V216
    have N217 := Fr.snoc X216 N215 g_b119
    have f219 := (Sf.wr HS200 W207 (f210).1 f210)
    have HS218 := HS.wr HS209 W216 (f219).1
    have O220 := O211.wr W216 g_b119
    change Ary Z h216 b119 .char [.int (Int32.ofNat (48 + W / 1000000000000000000 % 10)), .int (Int32.ofNat (48 + W / 100000000000000000 % 10)), .int (Int32.ofNat (48 + W / 10000000000000000 % 10)), .int (Int32.ofNat (48 + W / 1000000000000000 % 10)), .int (Int32.ofNat (48 + W / 100000000000000 % 10)), .int (Int32.ofNat (48 + W / 10000000000000 % 10)), .int (Int32.ofNat (48 + W / 1000000000000 % 10)), .int (Int32.ofNat (48 + W / 100000000000 % 10)), .int (Int32.ofNat (48 + W / 10000000000 % 10)), .int (Int32.ofNat (48 + W / 1000000000 % 10)), .int (Int32.ofNat (48 + W / 100000000 % 10)), .int 0, .int 0, .int 0, .int 0, .int 0, .int 0, .int 0, .int 0, .int 0, .int 0] at V216
    have Z221 : n0 ≤ h216.size := by rw [W216.size]; exact Z212
    show Go p e below _ T216 (mkF m 355 #[jv p0, .second, iv p1, iv p2, iv p3, rv b1, jv (Int64.ofNat W), .second, iv (Int32.ofNat len), iv fl, iv (Int32.ofNat d), iv (Int32.ofNat e_), iv (Int32.ofNat x), rv b119, .unset, .unset, .unset, .unset, .unset] [])
    refine Go.st (T' := T216) (g' := (mkF m 365 #[jv p0, .second, iv p1, iv p2, iv p3, rv b1, jv (Int64.ofNat W), .second, iv (Int32.ofNat len), iv fl, iv (Int32.ofNat d), iv (Int32.ofNat e_), iv (Int32.ofNat x), rv b119, .unset, .unset, .unset, .unset, .unset] [(.int (7 : Int32)), (.ref b1), (.long (Int64.ofNat W)), (.int (11 : Int32)), (.ref b119)])) ?_ (fun _ kk_ => XS.aload X216.here hx rfl (hb hby at_355) rfl rfl  (XS.bipush X216.here hx rfl (hb hby at_357) (XS.lload X216.here hx rfl (hb hby at_359) rfl  (XS.aload X216.here hx rfl (hb hby at_361) rfl rfl  (XS.bipush X216.here hx rfl (hb hby at_363) kk_)))))
    have f222 := (f213.other W216 ne_b1_b119)
    refine Go.st (T' := T216) (g' := (mkF m 366 #[jv p0, .second, iv p1, iv p2, iv p3, rv b1, jv (Int64.ofNat W), .second, iv (Int32.ofNat len), iv fl, iv (Int32.ofNat d), iv (Int32.ofNat e_), iv (Int32.ofNat x), rv b119, .unset, .unset, .unset, .unset, .unset] [(.long (10000000 : Int64)), (.long (Int64.ofNat W)), (.int (11 : Int32)), (.ref b119)])) ?_ (fun _ kk_ => own_laload X216 hx hZ e216 f222 (i := 7) (v := (.long (10000000 : Int64))) rfl rfl rfl rfl (hb hby at_365) kk_)
    refine Go.callS (y := (⟨"com/example/stentor/stentor/core/PositiveDecimalParsePinLaw", "dig", "(JJ)C"⟩ : MethodName)) X216 hx hZ hown (hw _ (List.mem_of_getElem? (i := 22) rfl)) (hw _ (List.mem_of_getElem? (i := 23) rfl)) (hw _ (List.mem_of_getElem? (i := 24) rfl)) (hw _ (List.mem_of_getElem? (i := 25) rfl)) (by decide) 2 (rm_dig l Z a0 hw [] W 10000000 h216 hW (by decide) (by decide)) e216 (by decide) (by decide) (by decide) (by decide) (argsL := [(.long (Int64.ofNat W)), (.long (10000000 : Int64))]) (rest := [(.int (11 : Int32)), (.ref b119)]) rfl (by rw [hml]; rfl) (lenOf pd__28JJ_29C rfl) rfl rfl (by show 2 * 0 + _ ≤ _; exact Nat.le_of_eq rfl) (hb hby at_366) ?_
    rintro _ T223 L223 X223 ⟨rfl, e223, rfl⟩
    have N224 := Fr.app N217 (Fr.nil _)
    show Go p e below _ T223 (mkF m 369 #[jv p0, .second, iv p1, iv p2, iv p3, rv b1, jv (Int64.ofNat W), .second, iv (Int32.ofNat len), iv fl, iv (Int32.ofNat d), iv (Int32.ofNat e_), iv (Int32.ofNat x), rv b119, .unset, .unset, .unset, .unset, .unset] [(.int (Int32.ofNat (48 + W / 10000000 % 10))), (.int (11 : Int32)), (.ref b119)])
    refine Go.castore X223 hx hZ e223 V216 (y := (Int32.ofNat (48 + W / 10000000 % 10))) (ch_sto _ (by omega)) (i := 11) (by show 11 < 21; decide) rfl rfl rfl (hb hby at_369) ?_
    intro T225 h225 X225 e225 W225 V225
    have N226 := Fr.snoc X225 N224 g_b119
    have f228 := (Sf.wr HS209 W216 (f219).1 f219)
    have HS227 := HS.wr HS218 W225 (f228).1
    have O229 := O220.wr W225 g_b119
    change Ary Z h225 b119 .char [.int (Int32.ofNat (48 + W / 1000000000000000000 % 10)), .int (Int32.ofNat (48 + W / 100000000000000000 % 10)), .int (Int32.ofNat (48 + W / 10000000000000000 % 10)), .int (Int32.ofNat (48 + W / 1000000000000000 % 10)), .int (Int32.ofNat (48 + W / 100000000000000 % 10)), .int (Int32.ofNat (48 + W / 10000000000000 % 10)), .int (Int32.ofNat (48 + W / 1000000000000 % 10)), .int (Int32.ofNat (48 + W / 100000000000 % 10)), .int (Int32.ofNat (48 + W / 10000000000 % 10)), .int (Int32.ofNat (48 + W / 1000000000 % 10)), .int (Int32.ofNat (48 + W / 100000000 % 10)), .int (Int32.ofNat (48 + W / 10000000 % 10)), .int 0, .int 0, .int 0, .int 0, .int 0, .int 0, .int 0, .int 0, .int 0] at V225
    have Z230 : n0 ≤ h225.size := by rw [W225.size]; exact Z221
    show Go p e below _ T225 (mkF m 370 #[jv p0, .second, iv p1, iv p2, iv p3, rv b1, jv (Int64.ofNat W), .second, iv (Int32.ofNat len), iv fl, iv (Int32.ofNat d), iv (Int32.ofNat e_), iv (Int32.ofNat x), rv b119, .unset, .unset, .unset, .unset, .unset] [])
    refine Go.st (T' := T225) (g' := (mkF m 380 #[jv p0, .second, iv p1, iv p2, iv p3, rv b1, jv (Int64.ofNat W), .second, iv (Int32.ofNat len), iv fl, iv (Int32.ofNat d), iv (Int32.ofNat e_), iv (Int32.ofNat x), rv b119, .unset, .unset, .unset, .unset, .unset] [(.int (6 : Int32)), (.ref b1), (.long (Int64.ofNat W)), (.int (12 : Int32)), (.ref b119)])) ?_ (fun _ kk_ => XS.aload X225.here hx rfl (hb hby at_370) rfl rfl  (XS.bipush X225.here hx rfl (hb hby at_372) (XS.lload X225.here hx rfl (hb hby at_374) rfl  (XS.aload X225.here hx rfl (hb hby at_376) rfl rfl  (XS.bipush X225.here hx rfl (hb hby at_378) kk_)))))
    have f231 := (f222.other W225 ne_b1_b119)
    refine Go.st (T' := T225) (g' := (mkF m 381 #[jv p0, .second, iv p1, iv p2, iv p3, rv b1, jv (Int64.ofNat W), .second, iv (Int32.ofNat len), iv fl, iv (Int32.ofNat d), iv (Int32.ofNat e_), iv (Int32.ofNat x), rv b119, .unset, .unset, .unset, .unset, .unset] [(.long (1000000 : Int64)), (.long (Int64.ofNat W)), (.int (12 : Int32)), (.ref b119)])) ?_ (fun _ kk_ => own_laload X225 hx hZ e225 f231 (i := 6) (v := (.long (1000000 : Int64))) rfl rfl rfl rfl (hb hby at_380) kk_)
    refine Go.callS (y := (⟨"com/example/stentor/stentor/core/PositiveDecimalParsePinLaw", "dig", "(JJ)C"⟩ : MethodName)) X225 hx hZ hown (hw _ (List.mem_of_getElem? (i := 22) rfl)) (hw _ (List.mem_of_getElem? (i := 23) rfl)) (hw _ (List.mem_of_getElem? (i := 24) rfl)) (hw _ (List.mem_of_getElem? (i := 25) rfl)) (by decide) 2 (rm_dig l Z a0 hw [] W 1000000 h225 hW (by decide) (by decide)) e225 (by decide) (by decide) (by decide) (by decide) (argsL := [(.long (Int64.ofNat W)), (.long (1000000 : Int64))]) (rest := [(.int (12 : Int32)), (.ref b119)]) rfl (by rw [hml]; rfl) (lenOf pd__28JJ_29C rfl) rfl rfl (by show 2 * 0 + _ ≤ _; exact Nat.le_of_eq rfl) (hb hby at_381) ?_
    rintro _ T232 L232 X232 ⟨rfl, e232, rfl⟩
    have N233 := Fr.app N226 (Fr.nil _)
    show Go p e below _ T232 (mkF m 384 #[jv p0, .second, iv p1, iv p2, iv p3, rv b1, jv (Int64.ofNat W), .second, iv (Int32.ofNat len), iv fl, iv (Int32.ofNat d), iv (Int32.ofNat e_), iv (Int32.ofNat x), rv b119, .unset, .unset, .unset, .unset, .unset] [(.int (Int32.ofNat (48 + W / 1000000 % 10))), (.int (12 : Int32)), (.ref b119)])
    refine Go.castore X232 hx hZ e232 V225 (y := (Int32.ofNat (48 + W / 1000000 % 10))) (ch_sto _ (by omega)) (i := 12) (by show 12 < 21; decide) rfl rfl rfl (hb hby at_384) ?_
    intro T234 h234 X234 e234 W234 V234
    have N235 := Fr.snoc X234 N233 g_b119
    have f237 := (Sf.wr HS218 W225 (f228).1 f228)
    have HS236 := HS.wr HS227 W234 (f237).1
    have O238 := O229.wr W234 g_b119
    change Ary Z h234 b119 .char [.int (Int32.ofNat (48 + W / 1000000000000000000 % 10)), .int (Int32.ofNat (48 + W / 100000000000000000 % 10)), .int (Int32.ofNat (48 + W / 10000000000000000 % 10)), .int (Int32.ofNat (48 + W / 1000000000000000 % 10)), .int (Int32.ofNat (48 + W / 100000000000000 % 10)), .int (Int32.ofNat (48 + W / 10000000000000 % 10)), .int (Int32.ofNat (48 + W / 1000000000000 % 10)), .int (Int32.ofNat (48 + W / 100000000000 % 10)), .int (Int32.ofNat (48 + W / 10000000000 % 10)), .int (Int32.ofNat (48 + W / 1000000000 % 10)), .int (Int32.ofNat (48 + W / 100000000 % 10)), .int (Int32.ofNat (48 + W / 10000000 % 10)), .int (Int32.ofNat (48 + W / 1000000 % 10)), .int 0, .int 0, .int 0, .int 0, .int 0, .int 0, .int 0, .int 0] at V234
    have Z239 : n0 ≤ h234.size := by rw [W234.size]; exact Z230
    show Go p e below _ T234 (mkF m 385 #[jv p0, .second, iv p1, iv p2, iv p3, rv b1, jv (Int64.ofNat W), .second, iv (Int32.ofNat len), iv fl, iv (Int32.ofNat d), iv (Int32.ofNat e_), iv (Int32.ofNat x), rv b119, .unset, .unset, .unset, .unset, .unset] [])
    refine Go.st (T' := T234) (g' := (mkF m 394 #[jv p0, .second, iv p1, iv p2, iv p3, rv b1, jv (Int64.ofNat W), .second, iv (Int32.ofNat len), iv fl, iv (Int32.ofNat d), iv (Int32.ofNat e_), iv (Int32.ofNat x), rv b119, .unset, .unset, .unset, .unset, .unset] [(.int (5 : Int32)), (.ref b1), (.long (Int64.ofNat W)), (.int (13 : Int32)), (.ref b119)])) ?_ (fun _ kk_ => XS.aload X234.here hx rfl (hb hby at_385) rfl rfl  (XS.bipush X234.here hx rfl (hb hby at_387) (XS.lload X234.here hx rfl (hb hby at_389) rfl  (XS.aload X234.here hx rfl (hb hby at_391) rfl rfl  (XS.iconst X234.here hx rfl (hb hby at_393) kk_)))))
    have f240 := (f231.other W234 ne_b1_b119)
    refine Go.st (T' := T234) (g' := (mkF m 395 #[jv p0, .second, iv p1, iv p2, iv p3, rv b1, jv (Int64.ofNat W), .second, iv (Int32.ofNat len), iv fl, iv (Int32.ofNat d), iv (Int32.ofNat e_), iv (Int32.ofNat x), rv b119, .unset, .unset, .unset, .unset, .unset] [(.long (100000 : Int64)), (.long (Int64.ofNat W)), (.int (13 : Int32)), (.ref b119)])) ?_ (fun _ kk_ => own_laload X234 hx hZ e234 f240 (i := 5) (v := (.long (100000 : Int64))) rfl rfl rfl rfl (hb hby at_394) kk_)
    refine Go.callS (y := (⟨"com/example/stentor/stentor/core/PositiveDecimalParsePinLaw", "dig", "(JJ)C"⟩ : MethodName)) X234 hx hZ hown (hw _ (List.mem_of_getElem? (i := 22) rfl)) (hw _ (List.mem_of_getElem? (i := 23) rfl)) (hw _ (List.mem_of_getElem? (i := 24) rfl)) (hw _ (List.mem_of_getElem? (i := 25) rfl)) (by decide) 2 (rm_dig l Z a0 hw [] W 100000 h234 hW (by decide) (by decide)) e234 (by decide) (by decide) (by decide) (by decide) (argsL := [(.long (Int64.ofNat W)), (.long (100000 : Int64))]) (rest := [(.int (13 : Int32)), (.ref b119)]) rfl (by rw [hml]; rfl) (lenOf pd__28JJ_29C rfl) rfl rfl (by show 2 * 0 + _ ≤ _; exact Nat.le_of_eq rfl) (hb hby at_395) ?_
    rintro _ T241 L241 X241 ⟨rfl, e241, rfl⟩
    have N242 := Fr.app N235 (Fr.nil _)
    show Go p e below _ T241 (mkF m 398 #[jv p0, .second, iv p1, iv p2, iv p3, rv b1, jv (Int64.ofNat W), .second, iv (Int32.ofNat len), iv fl, iv (Int32.ofNat d), iv (Int32.ofNat e_), iv (Int32.ofNat x), rv b119, .unset, .unset, .unset, .unset, .unset] [(.int (Int32.ofNat (48 + W / 100000 % 10))), (.int (13 : Int32)), (.ref b119)])
    refine Go.castore X241 hx hZ e241 V234 (y := (Int32.ofNat (48 + W / 100000 % 10))) (ch_sto _ (by omega)) (i := 13) (by show 13 < 21; decide) rfl rfl rfl (hb hby at_398) ?_
    intro T243 h243 X243 e243 W243 V243
    have N244 := Fr.snoc X243 N242 g_b119
    have f246 := (Sf.wr HS227 W234 (f237).1 f237)
    have HS245 := HS.wr HS236 W243 (f246).1
    have O247 := O238.wr W243 g_b119
    change Ary Z h243 b119 .char [.int (Int32.ofNat (48 + W / 1000000000000000000 % 10)), .int (Int32.ofNat (48 + W / 100000000000000000 % 10)), .int (Int32.ofNat (48 + W / 10000000000000000 % 10)), .int (Int32.ofNat (48 + W / 1000000000000000 % 10)), .int (Int32.ofNat (48 + W / 100000000000000 % 10)), .int (Int32.ofNat (48 + W / 10000000000000 % 10)), .int (Int32.ofNat (48 + W / 1000000000000 % 10)), .int (Int32.ofNat (48 + W / 100000000000 % 10)), .int (Int32.ofNat (48 + W / 10000000000 % 10)), .int (Int32.ofNat (48 + W / 1000000000 % 10)), .int (Int32.ofNat (48 + W / 100000000 % 10)), .int (Int32.ofNat (48 + W / 10000000 % 10)), .int (Int32.ofNat (48 + W / 1000000 % 10)), .int (Int32.ofNat (48 + W / 100000 % 10)), .int 0, .int 0, .int 0, .int 0, .int 0, .int 0, .int 0] at V243
    have Z248 : n0 ≤ h243.size := by rw [W243.size]; exact Z239
    show Go p e below _ T243 (mkF m 399 #[jv p0, .second, iv p1, iv p2, iv p3, rv b1, jv (Int64.ofNat W), .second, iv (Int32.ofNat len), iv fl, iv (Int32.ofNat d), iv (Int32.ofNat e_), iv (Int32.ofNat x), rv b119, .unset, .unset, .unset, .unset, .unset] [])
    refine Go.st (T' := T243) (g' := (mkF m 408 #[jv p0, .second, iv p1, iv p2, iv p3, rv b1, jv (Int64.ofNat W), .second, iv (Int32.ofNat len), iv fl, iv (Int32.ofNat d), iv (Int32.ofNat e_), iv (Int32.ofNat x), rv b119, .unset, .unset, .unset, .unset, .unset] [(.int (4 : Int32)), (.ref b1), (.long (Int64.ofNat W)), (.int (14 : Int32)), (.ref b119)])) ?_ (fun _ kk_ => XS.aload X243.here hx rfl (hb hby at_399) rfl rfl  (XS.bipush X243.here hx rfl (hb hby at_401) (XS.lload X243.here hx rfl (hb hby at_403) rfl  (XS.aload X243.here hx rfl (hb hby at_405) rfl rfl  (XS.iconst X243.here hx rfl (hb hby at_407) kk_)))))
    have f249 := (f240.other W243 ne_b1_b119)
    refine Go.st (T' := T243) (g' := (mkF m 409 #[jv p0, .second, iv p1, iv p2, iv p3, rv b1, jv (Int64.ofNat W), .second, iv (Int32.ofNat len), iv fl, iv (Int32.ofNat d), iv (Int32.ofNat e_), iv (Int32.ofNat x), rv b119, .unset, .unset, .unset, .unset, .unset] [(.long (10000 : Int64)), (.long (Int64.ofNat W)), (.int (14 : Int32)), (.ref b119)])) ?_ (fun _ kk_ => own_laload X243 hx hZ e243 f249 (i := 4) (v := (.long (10000 : Int64))) rfl rfl rfl rfl (hb hby at_408) kk_)
    refine Go.callS (y := (⟨"com/example/stentor/stentor/core/PositiveDecimalParsePinLaw", "dig", "(JJ)C"⟩ : MethodName)) X243 hx hZ hown (hw _ (List.mem_of_getElem? (i := 22) rfl)) (hw _ (List.mem_of_getElem? (i := 23) rfl)) (hw _ (List.mem_of_getElem? (i := 24) rfl)) (hw _ (List.mem_of_getElem? (i := 25) rfl)) (by decide) 2 (rm_dig l Z a0 hw [] W 10000 h243 hW (by decide) (by decide)) e243 (by decide) (by decide) (by decide) (by decide) (argsL := [(.long (Int64.ofNat W)), (.long (10000 : Int64))]) (rest := [(.int (14 : Int32)), (.ref b119)]) rfl (by rw [hml]; rfl) (lenOf pd__28JJ_29C rfl) rfl rfl (by show 2 * 0 + _ ≤ _; exact Nat.le_of_eq rfl) (hb hby at_409) ?_
    rintro _ T250 L250 X250 ⟨rfl, e250, rfl⟩
    have N251 := Fr.app N244 (Fr.nil _)
    show Go p e below _ T250 (mkF m 412 #[jv p0, .second, iv p1, iv p2, iv p3, rv b1, jv (Int64.ofNat W), .second, iv (Int32.ofNat len), iv fl, iv (Int32.ofNat d), iv (Int32.ofNat e_), iv (Int32.ofNat x), rv b119, .unset, .unset, .unset, .unset, .unset] [(.int (Int32.ofNat (48 + W / 10000 % 10))), (.int (14 : Int32)), (.ref b119)])
    refine Go.castore X250 hx hZ e250 V243 (y := (Int32.ofNat (48 + W / 10000 % 10))) (ch_sto _ (by omega)) (i := 14) (by show 14 < 21; decide) rfl rfl rfl (hb hby at_412) ?_
    intro T252 h252 X252 e252 W252 V252
    have N253 := Fr.snoc X252 N251 g_b119
    have f255 := (Sf.wr HS236 W243 (f246).1 f246)
    have HS254 := HS.wr HS245 W252 (f255).1
    have O256 := O247.wr W252 g_b119
    change Ary Z h252 b119 .char [.int (Int32.ofNat (48 + W / 1000000000000000000 % 10)), .int (Int32.ofNat (48 + W / 100000000000000000 % 10)), .int (Int32.ofNat (48 + W / 10000000000000000 % 10)), .int (Int32.ofNat (48 + W / 1000000000000000 % 10)), .int (Int32.ofNat (48 + W / 100000000000000 % 10)), .int (Int32.ofNat (48 + W / 10000000000000 % 10)), .int (Int32.ofNat (48 + W / 1000000000000 % 10)), .int (Int32.ofNat (48 + W / 100000000000 % 10)), .int (Int32.ofNat (48 + W / 10000000000 % 10)), .int (Int32.ofNat (48 + W / 1000000000 % 10)), .int (Int32.ofNat (48 + W / 100000000 % 10)), .int (Int32.ofNat (48 + W / 10000000 % 10)), .int (Int32.ofNat (48 + W / 1000000 % 10)), .int (Int32.ofNat (48 + W / 100000 % 10)), .int (Int32.ofNat (48 + W / 10000 % 10)), .int 0, .int 0, .int 0, .int 0, .int 0, .int 0] at V252
    have Z257 : n0 ≤ h252.size := by rw [W252.size]; exact Z248
    show Go p e below _ T252 (mkF m 413 #[jv p0, .second, iv p1, iv p2, iv p3, rv b1, jv (Int64.ofNat W), .second, iv (Int32.ofNat len), iv fl, iv (Int32.ofNat d), iv (Int32.ofNat e_), iv (Int32.ofNat x), rv b119, .unset, .unset, .unset, .unset, .unset] [])
    refine Go.st (T' := T252) (g' := (mkF m 422 #[jv p0, .second, iv p1, iv p2, iv p3, rv b1, jv (Int64.ofNat W), .second, iv (Int32.ofNat len), iv fl, iv (Int32.ofNat d), iv (Int32.ofNat e_), iv (Int32.ofNat x), rv b119, .unset, .unset, .unset, .unset, .unset] [(.int (3 : Int32)), (.ref b1), (.long (Int64.ofNat W)), (.int (15 : Int32)), (.ref b119)])) ?_ (fun _ kk_ => XS.aload X252.here hx rfl (hb hby at_413) rfl rfl  (XS.bipush X252.here hx rfl (hb hby at_415) (XS.lload X252.here hx rfl (hb hby at_417) rfl  (XS.aload X252.here hx rfl (hb hby at_419) rfl rfl  (XS.iconst X252.here hx rfl (hb hby at_421) kk_)))))
    have f258 := (f249.other W252 ne_b1_b119)
    refine Go.st (T' := T252) (g' := (mkF m 423 #[jv p0, .second, iv p1, iv p2, iv p3, rv b1, jv (Int64.ofNat W), .second, iv (Int32.ofNat len), iv fl, iv (Int32.ofNat d), iv (Int32.ofNat e_), iv (Int32.ofNat x), rv b119, .unset, .unset, .unset, .unset, .unset] [(.long (1000 : Int64)), (.long (Int64.ofNat W)), (.int (15 : Int32)), (.ref b119)])) ?_ (fun _ kk_ => own_laload X252 hx hZ e252 f258 (i := 3) (v := (.long (1000 : Int64))) rfl rfl rfl rfl (hb hby at_422) kk_)
    refine Go.callS (y := (⟨"com/example/stentor/stentor/core/PositiveDecimalParsePinLaw", "dig", "(JJ)C"⟩ : MethodName)) X252 hx hZ hown (hw _ (List.mem_of_getElem? (i := 22) rfl)) (hw _ (List.mem_of_getElem? (i := 23) rfl)) (hw _ (List.mem_of_getElem? (i := 24) rfl)) (hw _ (List.mem_of_getElem? (i := 25) rfl)) (by decide) 2 (rm_dig l Z a0 hw [] W 1000 h252 hW (by decide) (by decide)) e252 (by decide) (by decide) (by decide) (by decide) (argsL := [(.long (Int64.ofNat W)), (.long (1000 : Int64))]) (rest := [(.int (15 : Int32)), (.ref b119)]) rfl (by rw [hml]; rfl) (lenOf pd__28JJ_29C rfl) rfl rfl (by show 2 * 0 + _ ≤ _; exact Nat.le_of_eq rfl) (hb hby at_423) ?_
    rintro _ T259 L259 X259 ⟨rfl, e259, rfl⟩
    have N260 := Fr.app N253 (Fr.nil _)
    show Go p e below _ T259 (mkF m 426 #[jv p0, .second, iv p1, iv p2, iv p3, rv b1, jv (Int64.ofNat W), .second, iv (Int32.ofNat len), iv fl, iv (Int32.ofNat d), iv (Int32.ofNat e_), iv (Int32.ofNat x), rv b119, .unset, .unset, .unset, .unset, .unset] [(.int (Int32.ofNat (48 + W / 1000 % 10))), (.int (15 : Int32)), (.ref b119)])
    refine Go.castore X259 hx hZ e259 V252 (y := (Int32.ofNat (48 + W / 1000 % 10))) (ch_sto _ (by omega)) (i := 15) (by show 15 < 21; decide) rfl rfl rfl (hb hby at_426) ?_
    intro T261 h261 X261 e261 W261 V261
    have N262 := Fr.snoc X261 N260 g_b119
    have f264 := (Sf.wr HS245 W252 (f255).1 f255)
    have HS263 := HS.wr HS254 W261 (f264).1
    have O265 := O256.wr W261 g_b119
    change Ary Z h261 b119 .char [.int (Int32.ofNat (48 + W / 1000000000000000000 % 10)), .int (Int32.ofNat (48 + W / 100000000000000000 % 10)), .int (Int32.ofNat (48 + W / 10000000000000000 % 10)), .int (Int32.ofNat (48 + W / 1000000000000000 % 10)), .int (Int32.ofNat (48 + W / 100000000000000 % 10)), .int (Int32.ofNat (48 + W / 10000000000000 % 10)), .int (Int32.ofNat (48 + W / 1000000000000 % 10)), .int (Int32.ofNat (48 + W / 100000000000 % 10)), .int (Int32.ofNat (48 + W / 10000000000 % 10)), .int (Int32.ofNat (48 + W / 1000000000 % 10)), .int (Int32.ofNat (48 + W / 100000000 % 10)), .int (Int32.ofNat (48 + W / 10000000 % 10)), .int (Int32.ofNat (48 + W / 1000000 % 10)), .int (Int32.ofNat (48 + W / 100000 % 10)), .int (Int32.ofNat (48 + W / 10000 % 10)), .int (Int32.ofNat (48 + W / 1000 % 10)), .int 0, .int 0, .int 0, .int 0, .int 0] at V261
    have Z266 : n0 ≤ h261.size := by rw [W261.size]; exact Z257
    show Go p e below _ T261 (mkF m 427 #[jv p0, .second, iv p1, iv p2, iv p3, rv b1, jv (Int64.ofNat W), .second, iv (Int32.ofNat len), iv fl, iv (Int32.ofNat d), iv (Int32.ofNat e_), iv (Int32.ofNat x), rv b119, .unset, .unset, .unset, .unset, .unset] [])
    refine Go.st (T' := T261) (g' := (mkF m 436 #[jv p0, .second, iv p1, iv p2, iv p3, rv b1, jv (Int64.ofNat W), .second, iv (Int32.ofNat len), iv fl, iv (Int32.ofNat d), iv (Int32.ofNat e_), iv (Int32.ofNat x), rv b119, .unset, .unset, .unset, .unset, .unset] [(.int (2 : Int32)), (.ref b1), (.long (Int64.ofNat W)), (.int (16 : Int32)), (.ref b119)])) ?_ (fun _ kk_ => XS.aload X261.here hx rfl (hb hby at_427) rfl rfl  (XS.bipush X261.here hx rfl (hb hby at_429) (XS.lload X261.here hx rfl (hb hby at_431) rfl  (XS.aload X261.here hx rfl (hb hby at_433) rfl rfl  (XS.iconst X261.here hx rfl (hb hby at_435) kk_)))))
    have f267 := (f258.other W261 ne_b1_b119)
    refine Go.st (T' := T261) (g' := (mkF m 437 #[jv p0, .second, iv p1, iv p2, iv p3, rv b1, jv (Int64.ofNat W), .second, iv (Int32.ofNat len), iv fl, iv (Int32.ofNat d), iv (Int32.ofNat e_), iv (Int32.ofNat x), rv b119, .unset, .unset, .unset, .unset, .unset] [(.long (100 : Int64)), (.long (Int64.ofNat W)), (.int (16 : Int32)), (.ref b119)])) ?_ (fun _ kk_ => own_laload X261 hx hZ e261 f267 (i := 2) (v := (.long (100 : Int64))) rfl rfl rfl rfl (hb hby at_436) kk_)
    refine Go.callS (y := (⟨"com/example/stentor/stentor/core/PositiveDecimalParsePinLaw", "dig", "(JJ)C"⟩ : MethodName)) X261 hx hZ hown (hw _ (List.mem_of_getElem? (i := 22) rfl)) (hw _ (List.mem_of_getElem? (i := 23) rfl)) (hw _ (List.mem_of_getElem? (i := 24) rfl)) (hw _ (List.mem_of_getElem? (i := 25) rfl)) (by decide) 2 (rm_dig l Z a0 hw [] W 100 h261 hW (by decide) (by decide)) e261 (by decide) (by decide) (by decide) (by decide) (argsL := [(.long (Int64.ofNat W)), (.long (100 : Int64))]) (rest := [(.int (16 : Int32)), (.ref b119)]) rfl (by rw [hml]; rfl) (lenOf pd__28JJ_29C rfl) rfl rfl (by show 2 * 0 + _ ≤ _; exact Nat.le_of_eq rfl) (hb hby at_437) ?_
    rintro _ T268 L268 X268 ⟨rfl, e268, rfl⟩
    have N269 := Fr.app N262 (Fr.nil _)
    show Go p e below _ T268 (mkF m 440 #[jv p0, .second, iv p1, iv p2, iv p3, rv b1, jv (Int64.ofNat W), .second, iv (Int32.ofNat len), iv fl, iv (Int32.ofNat d), iv (Int32.ofNat e_), iv (Int32.ofNat x), rv b119, .unset, .unset, .unset, .unset, .unset] [(.int (Int32.ofNat (48 + W / 100 % 10))), (.int (16 : Int32)), (.ref b119)])
    refine Go.castore X268 hx hZ e268 V261 (y := (Int32.ofNat (48 + W / 100 % 10))) (ch_sto _ (by omega)) (i := 16) (by show 16 < 21; decide) rfl rfl rfl (hb hby at_440) ?_
    intro T270 h270 X270 e270 W270 V270
    have N271 := Fr.snoc X270 N269 g_b119
    have f273 := (Sf.wr HS254 W261 (f264).1 f264)
    have HS272 := HS.wr HS263 W270 (f273).1
    have O274 := O265.wr W270 g_b119
    change Ary Z h270 b119 .char [.int (Int32.ofNat (48 + W / 1000000000000000000 % 10)), .int (Int32.ofNat (48 + W / 100000000000000000 % 10)), .int (Int32.ofNat (48 + W / 10000000000000000 % 10)), .int (Int32.ofNat (48 + W / 1000000000000000 % 10)), .int (Int32.ofNat (48 + W / 100000000000000 % 10)), .int (Int32.ofNat (48 + W / 10000000000000 % 10)), .int (Int32.ofNat (48 + W / 1000000000000 % 10)), .int (Int32.ofNat (48 + W / 100000000000 % 10)), .int (Int32.ofNat (48 + W / 10000000000 % 10)), .int (Int32.ofNat (48 + W / 1000000000 % 10)), .int (Int32.ofNat (48 + W / 100000000 % 10)), .int (Int32.ofNat (48 + W / 10000000 % 10)), .int (Int32.ofNat (48 + W / 1000000 % 10)), .int (Int32.ofNat (48 + W / 100000 % 10)), .int (Int32.ofNat (48 + W / 10000 % 10)), .int (Int32.ofNat (48 + W / 1000 % 10)), .int (Int32.ofNat (48 + W / 100 % 10)), .int 0, .int 0, .int 0, .int 0] at V270
    have Z275 : n0 ≤ h270.size := by rw [W270.size]; exact Z266
    show Go p e below _ T270 (mkF m 441 #[jv p0, .second, iv p1, iv p2, iv p3, rv b1, jv (Int64.ofNat W), .second, iv (Int32.ofNat len), iv fl, iv (Int32.ofNat d), iv (Int32.ofNat e_), iv (Int32.ofNat x), rv b119, .unset, .unset, .unset, .unset, .unset] [])
    refine Go.st (T' := T270) (g' := (mkF m 450 #[jv p0, .second, iv p1, iv p2, iv p3, rv b1, jv (Int64.ofNat W), .second, iv (Int32.ofNat len), iv fl, iv (Int32.ofNat d), iv (Int32.ofNat e_), iv (Int32.ofNat x), rv b119, .unset, .unset, .unset, .unset, .unset] [(.int (1 : Int32)), (.ref b1), (.long (Int64.ofNat W)), (.int (17 : Int32)), (.ref b119)])) ?_ (fun _ kk_ => XS.aload X270.here hx rfl (hb hby at_441) rfl rfl  (XS.bipush X270.here hx rfl (hb hby at_443) (XS.lload X270.here hx rfl (hb hby at_445) rfl  (XS.aload X270.here hx rfl (hb hby at_447) rfl rfl  (XS.iconst X270.here hx rfl (hb hby at_449) kk_)))))
    have f276 := (f267.other W270 ne_b1_b119)
    refine Go.st (T' := T270) (g' := (mkF m 451 #[jv p0, .second, iv p1, iv p2, iv p3, rv b1, jv (Int64.ofNat W), .second, iv (Int32.ofNat len), iv fl, iv (Int32.ofNat d), iv (Int32.ofNat e_), iv (Int32.ofNat x), rv b119, .unset, .unset, .unset, .unset, .unset] [(.long (10 : Int64)), (.long (Int64.ofNat W)), (.int (17 : Int32)), (.ref b119)])) ?_ (fun _ kk_ => own_laload X270 hx hZ e270 f276 (i := 1) (v := (.long (10 : Int64))) rfl rfl rfl rfl (hb hby at_450) kk_)
    refine Go.callS (y := (⟨"com/example/stentor/stentor/core/PositiveDecimalParsePinLaw", "dig", "(JJ)C"⟩ : MethodName)) X270 hx hZ hown (hw _ (List.mem_of_getElem? (i := 22) rfl)) (hw _ (List.mem_of_getElem? (i := 23) rfl)) (hw _ (List.mem_of_getElem? (i := 24) rfl)) (hw _ (List.mem_of_getElem? (i := 25) rfl)) (by decide) 2 (rm_dig l Z a0 hw [] W 10 h270 hW (by decide) (by decide)) e270 (by decide) (by decide) (by decide) (by decide) (argsL := [(.long (Int64.ofNat W)), (.long (10 : Int64))]) (rest := [(.int (17 : Int32)), (.ref b119)]) rfl (by rw [hml]; rfl) (lenOf pd__28JJ_29C rfl) rfl rfl (by show 2 * 0 + _ ≤ _; exact Nat.le_of_eq rfl) (hb hby at_451) ?_
    rintro _ T277 L277 X277 ⟨rfl, e277, rfl⟩
    have N278 := Fr.app N271 (Fr.nil _)
    show Go p e below _ T277 (mkF m 454 #[jv p0, .second, iv p1, iv p2, iv p3, rv b1, jv (Int64.ofNat W), .second, iv (Int32.ofNat len), iv fl, iv (Int32.ofNat d), iv (Int32.ofNat e_), iv (Int32.ofNat x), rv b119, .unset, .unset, .unset, .unset, .unset] [(.int (Int32.ofNat (48 + W / 10 % 10))), (.int (17 : Int32)), (.ref b119)])
    refine Go.castore X277 hx hZ e277 V270 (y := (Int32.ofNat (48 + W / 10 % 10))) (ch_sto _ (by omega)) (i := 17) (by show 17 < 21; decide) rfl rfl rfl (hb hby at_454) ?_
    intro T279 h279 X279 e279 W279 V279
    have N280 := Fr.snoc X279 N278 g_b119
    have f282 := (Sf.wr HS263 W270 (f273).1 f273)
    have HS281 := HS.wr HS272 W279 (f282).1
    have O283 := O274.wr W279 g_b119
    change Ary Z h279 b119 .char [.int (Int32.ofNat (48 + W / 1000000000000000000 % 10)), .int (Int32.ofNat (48 + W / 100000000000000000 % 10)), .int (Int32.ofNat (48 + W / 10000000000000000 % 10)), .int (Int32.ofNat (48 + W / 1000000000000000 % 10)), .int (Int32.ofNat (48 + W / 100000000000000 % 10)), .int (Int32.ofNat (48 + W / 10000000000000 % 10)), .int (Int32.ofNat (48 + W / 1000000000000 % 10)), .int (Int32.ofNat (48 + W / 100000000000 % 10)), .int (Int32.ofNat (48 + W / 10000000000 % 10)), .int (Int32.ofNat (48 + W / 1000000000 % 10)), .int (Int32.ofNat (48 + W / 100000000 % 10)), .int (Int32.ofNat (48 + W / 10000000 % 10)), .int (Int32.ofNat (48 + W / 1000000 % 10)), .int (Int32.ofNat (48 + W / 100000 % 10)), .int (Int32.ofNat (48 + W / 10000 % 10)), .int (Int32.ofNat (48 + W / 1000 % 10)), .int (Int32.ofNat (48 + W / 100 % 10)), .int (Int32.ofNat (48 + W / 10 % 10)), .int 0, .int 0, .int 0] at V279
    have Z284 : n0 ≤ h279.size := by rw [W279.size]; exact Z275
    show Go p e below _ T279 (mkF m 455 #[jv p0, .second, iv p1, iv p2, iv p3, rv b1, jv (Int64.ofNat W), .second, iv (Int32.ofNat len), iv fl, iv (Int32.ofNat d), iv (Int32.ofNat e_), iv (Int32.ofNat x), rv b119, .unset, .unset, .unset, .unset, .unset] [])
    refine Go.st (T' := T279) (g' := (mkF m 464 #[jv p0, .second, iv p1, iv p2, iv p3, rv b1, jv (Int64.ofNat W), .second, iv (Int32.ofNat len), iv fl, iv (Int32.ofNat d), iv (Int32.ofNat e_), iv (Int32.ofNat x), rv b119, .unset, .unset, .unset, .unset, .unset] [(.int (0 : Int32)), (.ref b1), (.long (Int64.ofNat W)), (.int (18 : Int32)), (.ref b119)])) ?_ (fun _ kk_ => XS.aload X279.here hx rfl (hb hby at_455) rfl rfl  (XS.bipush X279.here hx rfl (hb hby at_457) (XS.lload X279.here hx rfl (hb hby at_459) rfl  (XS.aload X279.here hx rfl (hb hby at_461) rfl rfl  (XS.iconst X279.here hx rfl (hb hby at_463) kk_)))))
    have f285 := (f276.other W279 ne_b1_b119)
    refine Go.st (T' := T279) (g' := (mkF m 465 #[jv p0, .second, iv p1, iv p2, iv p3, rv b1, jv (Int64.ofNat W), .second, iv (Int32.ofNat len), iv fl, iv (Int32.ofNat d), iv (Int32.ofNat e_), iv (Int32.ofNat x), rv b119, .unset, .unset, .unset, .unset, .unset] [(.long (1 : Int64)), (.long (Int64.ofNat W)), (.int (18 : Int32)), (.ref b119)])) ?_ (fun _ kk_ => own_laload X279 hx hZ e279 f285 (i := 0) (v := (.long (1 : Int64))) rfl rfl rfl rfl (hb hby at_464) kk_)
    refine Go.callS (y := (⟨"com/example/stentor/stentor/core/PositiveDecimalParsePinLaw", "dig", "(JJ)C"⟩ : MethodName)) X279 hx hZ hown (hw _ (List.mem_of_getElem? (i := 22) rfl)) (hw _ (List.mem_of_getElem? (i := 23) rfl)) (hw _ (List.mem_of_getElem? (i := 24) rfl)) (hw _ (List.mem_of_getElem? (i := 25) rfl)) (by decide) 2 (rm_dig l Z a0 hw [] W 1 h279 hW (by decide) (by decide)) e279 (by decide) (by decide) (by decide) (by decide) (argsL := [(.long (Int64.ofNat W)), (.long (1 : Int64))]) (rest := [(.int (18 : Int32)), (.ref b119)]) rfl (by rw [hml]; rfl) (lenOf pd__28JJ_29C rfl) rfl rfl (by show 2 * 0 + _ ≤ _; exact Nat.le_of_eq rfl) (hb hby at_465) ?_
    rintro _ T286 L286 X286 ⟨rfl, e286, rfl⟩
    have N287 := Fr.app N280 (Fr.nil _)
    show Go p e below _ T286 (mkF m 468 #[jv p0, .second, iv p1, iv p2, iv p3, rv b1, jv (Int64.ofNat W), .second, iv (Int32.ofNat len), iv fl, iv (Int32.ofNat d), iv (Int32.ofNat e_), iv (Int32.ofNat x), rv b119, .unset, .unset, .unset, .unset, .unset] [(.int (Int32.ofNat (48 + W / 1 % 10))), (.int (18 : Int32)), (.ref b119)])
    refine Go.castore X286 hx hZ e286 V279 (y := (Int32.ofNat (48 + W / 1 % 10))) (ch_sto _ (by omega)) (i := 18) (by show 18 < 21; decide) rfl rfl rfl (hb hby at_468) ?_
    intro T288 h288 X288 e288 W288 V288
    have N289 := Fr.snoc X288 N287 g_b119
    have f291 := (Sf.wr HS272 W279 (f282).1 f282)
    have HS290 := HS.wr HS281 W288 (f291).1
    have O292 := O283.wr W288 g_b119
    change Ary Z h288 b119 .char [.int (Int32.ofNat (48 + W / 1000000000000000000 % 10)), .int (Int32.ofNat (48 + W / 100000000000000000 % 10)), .int (Int32.ofNat (48 + W / 10000000000000000 % 10)), .int (Int32.ofNat (48 + W / 1000000000000000 % 10)), .int (Int32.ofNat (48 + W / 100000000000000 % 10)), .int (Int32.ofNat (48 + W / 10000000000000 % 10)), .int (Int32.ofNat (48 + W / 1000000000000 % 10)), .int (Int32.ofNat (48 + W / 100000000000 % 10)), .int (Int32.ofNat (48 + W / 10000000000 % 10)), .int (Int32.ofNat (48 + W / 1000000000 % 10)), .int (Int32.ofNat (48 + W / 100000000 % 10)), .int (Int32.ofNat (48 + W / 10000000 % 10)), .int (Int32.ofNat (48 + W / 1000000 % 10)), .int (Int32.ofNat (48 + W / 100000 % 10)), .int (Int32.ofNat (48 + W / 10000 % 10)), .int (Int32.ofNat (48 + W / 1000 % 10)), .int (Int32.ofNat (48 + W / 100 % 10)), .int (Int32.ofNat (48 + W / 10 % 10)), .int (Int32.ofNat (48 + W / 1 % 10)), .int 0, .int 0] at V288
    have Z293 : n0 ≤ h288.size := by rw [W288.size]; exact Z284
    show Go p e below _ T288 (mkF m 469 #[jv p0, .second, iv p1, iv p2, iv p3, rv b1, jv (Int64.ofNat W), .second, iv (Int32.ofNat len), iv fl, iv (Int32.ofNat d), iv (Int32.ofNat e_), iv (Int32.ofNat x), rv b119, .unset, .unset, .unset, .unset, .unset] [])
    refine Go.st (T' := T288) (g' := (mkF m 478 #[jv p0, .second, iv p1, iv p2, iv p3, rv b1, jv (Int64.ofNat W), .second, iv (Int32.ofNat len), iv fl, iv (Int32.ofNat d), iv (Int32.ofNat e_), iv (Int32.ofNat x), rv b119, .unset, .unset, .unset, .unset, .unset] [(.int ((48 : Int32) + (Int32.ofNat d))), (.int (19 : Int32)), (.ref b119)])) ?_ (fun _ kk_ => XS.aload X288.here hx rfl (hb hby at_469) rfl rfl  (XS.bipush X288.here hx rfl (hb hby at_471) (XS.bipush X288.here hx rfl (hb hby at_473) (XS.iload X288.here hx rfl (hb hby at_475) rfl  (XS.iadd X288.here hx rfl (hb hby at_477) rfl kk_)))))
    rw [show (48 : Int32) + Int32.ofNat d = Int32.ofNat (48 + d) from own_add 48 _]
    show Go p e below _ T288 (mkF m 478 #[jv p0, .second, iv p1, iv p2, iv p3, rv b1, jv (Int64.ofNat W), .second, iv (Int32.ofNat len), iv fl, iv (Int32.ofNat d), iv (Int32.ofNat e_), iv (Int32.ofNat x), rv b119, .unset, .unset, .unset, .unset, .unset] [(.int (Int32.ofNat (48 + d))), (.int (19 : Int32)), (.ref b119)])
    refine Go.st (T' := T288) (g' := (mkF m 479 #[jv p0, .second, iv p1, iv p2, iv p3, rv b1, jv (Int64.ofNat W), .second, iv (Int32.ofNat len), iv fl, iv (Int32.ofNat d), iv (Int32.ofNat e_), iv (Int32.ofNat x), rv b119, .unset, .unset, .unset, .unset, .unset] [(.int ((Int32.ofNat (48 + d)).toUInt32.toUInt16.toUInt32.toInt32)), (.int (19 : Int32)), (.ref b119)])) ?_ (fun _ kk_ => XS.i2c X288.here hx rfl (hb hby at_478) rfl kk_)
    rw [ch_back _ (show 48 + d < 256 by omega)]
    show Go p e below _ T288 (mkF m 479 #[jv p0, .second, iv p1, iv p2, iv p3, rv b1, jv (Int64.ofNat W), .second, iv (Int32.ofNat len), iv fl, iv (Int32.ofNat d), iv (Int32.ofNat e_), iv (Int32.ofNat x), rv b119, .unset, .unset, .unset, .unset, .unset] [(.int (Int32.ofNat (48 + d))), (.int (19 : Int32)), (.ref b119)])
    refine Go.castore X288 hx hZ e288 V288 (y := (Int32.ofNat (48 + d))) (ch_sto _ (by omega)) (i := 19) (by show 19 < 21; decide) rfl rfl rfl (hb hby at_479) ?_
    intro T294 h294 X294 e294 W294 V294
    have N295 := Fr.snoc X294 N289 g_b119
    have f297 := (Sf.wr HS281 W288 (f291).1 f291)
    have HS296 := HS.wr HS290 W294 (f297).1
    have O298 := O292.wr W294 g_b119
    change Ary Z h294 b119 .char [.int (Int32.ofNat (48 + W / 1000000000000000000 % 10)), .int (Int32.ofNat (48 + W / 100000000000000000 % 10)), .int (Int32.ofNat (48 + W / 10000000000000000 % 10)), .int (Int32.ofNat (48 + W / 1000000000000000 % 10)), .int (Int32.ofNat (48 + W / 100000000000000 % 10)), .int (Int32.ofNat (48 + W / 10000000000000 % 10)), .int (Int32.ofNat (48 + W / 1000000000000 % 10)), .int (Int32.ofNat (48 + W / 100000000000 % 10)), .int (Int32.ofNat (48 + W / 10000000000 % 10)), .int (Int32.ofNat (48 + W / 1000000000 % 10)), .int (Int32.ofNat (48 + W / 100000000 % 10)), .int (Int32.ofNat (48 + W / 10000000 % 10)), .int (Int32.ofNat (48 + W / 1000000 % 10)), .int (Int32.ofNat (48 + W / 100000 % 10)), .int (Int32.ofNat (48 + W / 10000 % 10)), .int (Int32.ofNat (48 + W / 1000 % 10)), .int (Int32.ofNat (48 + W / 100 % 10)), .int (Int32.ofNat (48 + W / 10 % 10)), .int (Int32.ofNat (48 + W / 1 % 10)), .int (Int32.ofNat (48 + d)), .int 0] at V294
    have Z299 : n0 ≤ h294.size := by rw [W294.size]; exact Z293
    show Go p e below _ T294 (mkF m 480 #[jv p0, .second, iv p1, iv p2, iv p3, rv b1, jv (Int64.ofNat W), .second, iv (Int32.ofNat len), iv fl, iv (Int32.ofNat d), iv (Int32.ofNat e_), iv (Int32.ofNat x), rv b119, .unset, .unset, .unset, .unset, .unset] [])
    refine Go.st (T' := T294) (g' := (mkF m 489 #[jv p0, .second, iv p1, iv p2, iv p3, rv b1, jv (Int64.ofNat W), .second, iv (Int32.ofNat len), iv fl, iv (Int32.ofNat d), iv (Int32.ofNat e_), iv (Int32.ofNat x), rv b119, .unset, .unset, .unset, .unset, .unset] [(.int ((48 : Int32) + (Int32.ofNat e_))), (.int (20 : Int32)), (.ref b119)])) ?_ (fun _ kk_ => XS.aload X294.here hx rfl (hb hby at_480) rfl rfl  (XS.bipush X294.here hx rfl (hb hby at_482) (XS.bipush X294.here hx rfl (hb hby at_484) (XS.iload X294.here hx rfl (hb hby at_486) rfl  (XS.iadd X294.here hx rfl (hb hby at_488) rfl kk_)))))
    rw [show (48 : Int32) + Int32.ofNat e_ = Int32.ofNat (48 + e_) from own_add 48 _]
    show Go p e below _ T294 (mkF m 489 #[jv p0, .second, iv p1, iv p2, iv p3, rv b1, jv (Int64.ofNat W), .second, iv (Int32.ofNat len), iv fl, iv (Int32.ofNat d), iv (Int32.ofNat e_), iv (Int32.ofNat x), rv b119, .unset, .unset, .unset, .unset, .unset] [(.int (Int32.ofNat (48 + e_))), (.int (20 : Int32)), (.ref b119)])
    refine Go.st (T' := T294) (g' := (mkF m 490 #[jv p0, .second, iv p1, iv p2, iv p3, rv b1, jv (Int64.ofNat W), .second, iv (Int32.ofNat len), iv fl, iv (Int32.ofNat d), iv (Int32.ofNat e_), iv (Int32.ofNat x), rv b119, .unset, .unset, .unset, .unset, .unset] [(.int ((Int32.ofNat (48 + e_)).toUInt32.toUInt16.toUInt32.toInt32)), (.int (20 : Int32)), (.ref b119)])) ?_ (fun _ kk_ => XS.i2c X294.here hx rfl (hb hby at_489) rfl kk_)
    rw [ch_back _ (show 48 + e_ < 256 by omega)]
    show Go p e below _ T294 (mkF m 490 #[jv p0, .second, iv p1, iv p2, iv p3, rv b1, jv (Int64.ofNat W), .second, iv (Int32.ofNat len), iv fl, iv (Int32.ofNat d), iv (Int32.ofNat e_), iv (Int32.ofNat x), rv b119, .unset, .unset, .unset, .unset, .unset] [(.int (Int32.ofNat (48 + e_))), (.int (20 : Int32)), (.ref b119)])
    refine Go.castore X294 hx hZ e294 V294 (y := (Int32.ofNat (48 + e_))) (ch_sto _ (by omega)) (i := 20) (by show 20 < 21; decide) rfl rfl rfl (hb hby at_490) ?_
    intro T300 h300 X300 e300 W300 V300
    have N301 := Fr.snoc X300 N295 g_b119
    have f303 := (Sf.wr HS290 W294 (f297).1 f297)
    have HS302 := HS.wr HS296 W300 (f303).1
    have O304 := O298.wr W300 g_b119
    change Ary Z h300 b119 .char [.int (Int32.ofNat (48 + W / 1000000000000000000 % 10)), .int (Int32.ofNat (48 + W / 100000000000000000 % 10)), .int (Int32.ofNat (48 + W / 10000000000000000 % 10)), .int (Int32.ofNat (48 + W / 1000000000000000 % 10)), .int (Int32.ofNat (48 + W / 100000000000000 % 10)), .int (Int32.ofNat (48 + W / 10000000000000 % 10)), .int (Int32.ofNat (48 + W / 1000000000000 % 10)), .int (Int32.ofNat (48 + W / 100000000000 % 10)), .int (Int32.ofNat (48 + W / 10000000000 % 10)), .int (Int32.ofNat (48 + W / 1000000000 % 10)), .int (Int32.ofNat (48 + W / 100000000 % 10)), .int (Int32.ofNat (48 + W / 10000000 % 10)), .int (Int32.ofNat (48 + W / 1000000 % 10)), .int (Int32.ofNat (48 + W / 100000 % 10)), .int (Int32.ofNat (48 + W / 10000 % 10)), .int (Int32.ofNat (48 + W / 1000 % 10)), .int (Int32.ofNat (48 + W / 100 % 10)), .int (Int32.ofNat (48 + W / 10 % 10)), .int (Int32.ofNat (48 + W / 1 % 10)), .int (Int32.ofNat (48 + d)), .int (Int32.ofNat (48 + e_))] at V300
    have Z305 : n0 ≤ h300.size := by rw [W300.size]; exact Z299
    show Go p e below _ T300 (mkF m 491 #[jv p0, .second, iv p1, iv p2, iv p3, rv b1, jv (Int64.ofNat W), .second, iv (Int32.ofNat len), iv fl, iv (Int32.ofNat d), iv (Int32.ofNat e_), iv (Int32.ofNat x), rv b119, .unset, .unset, .unset, .unset, .unset] [])
    rw [own_full] at V300
    refine Go.st (T' := T300) (g' := (mkF m 493 #[jv p0, .second, iv p1, iv p2, iv p3, rv b1, jv (Int64.ofNat W), .second, iv (Int32.ofNat len), iv fl, iv (Int32.ofNat d), iv (Int32.ofNat e_), iv (Int32.ofNat x), rv b119, .unset, .unset, .unset, .unset, .unset] [(.int (Int32.ofNat len))])) ?_ (fun _ kk_ => XS.iload X300.here hx rfl (hb hby at_491) rfl  kk_)
    refine Go.newP X300 hx hZ (aty := .char) (hw _ (List.mem_of_getElem? (i := 21) rfl)) e300 rfl (hb hby at_493) (n := len) rfl rfl 21 hlen (by decide) (by decide) (by decide) ?_
    intro T306 h306 b306 X306 e306 E306 g306 V306
    have f307 := (((f285.other W288 ne_b1_b119).other W294 ne_b1_b119).other W300 ne_b1_b119)
    have ne_b1_b306 : b1 ≠ b306 := Nat.ne_of_lt (Nat.lt_of_lt_of_eq (f307).lt g306.symm)
    have ne_b119_b306 : b119 ≠ b306 := Nat.ne_of_lt (Nat.lt_of_lt_of_eq (V300).lt g306.symm)
    have g_b306 : n0 ≤ b306 := Nat.le_trans Z305 (Nat.le_of_eq g306.symm)
    have HS308 := HS.ext HS302 E306
    have O309 := O304.ext E306
    have Z310 : n0 ≤ h306.size := Nat.le_trans Z305 E306.1
    change Ary Z h306 b306 .char (List.replicate len (.int 0)) at V306
    have sf311 := Sf.born HS302 E306 g306 V306.lt
    show Go p e below _ T306 (mkF m 495 #[jv p0, .second, iv p1, iv p2, iv p3, rv b1, jv (Int64.ofNat W), .second, iv (Int32.ofNat len), iv fl, iv (Int32.ofNat d), iv (Int32.ofNat e_), iv (Int32.ofNat x), rv b119, .unset, .unset, .unset, .unset, .unset] [(.ref b306)])
    rw [IL_rep] at V306
    refine Go.st (T' := T306) (g' := (mkF m 497 #[jv p0, .second, iv p1, iv p2, iv p3, rv b1, jv (Int64.ofNat W), .second, iv (Int32.ofNat len), iv fl, iv (Int32.ofNat d), iv (Int32.ofNat e_), iv (Int32.ofNat x), rv b119, rv b306, .unset, .unset, .unset, .unset] [])) ?_ (fun _ kk_ => XS.astore X306.here hx rfl (hb hby at_495) rfl rfl (l' := #[jv p0, .second, iv p1, iv p2, iv p3, rv b1, jv (Int64.ofNat W), .second, iv (Int32.ofNat len), iv fl, iv (Int32.ofNat d), iv (Int32.ofNat e_), iv (Int32.ofNat x), rv b119, rv b306, .unset, .unset, .unset, .unset]) rfl kk_)
    have c21 : ∀ (T_c21 : State) (h_c21 : Heap) (lo_c21 : List Loc) , Stand p l e room_1 (s.setVm s.vm) m #[(.long p0), (.int p1), (.int p2), (.int p3)] below meth c T_c21 lo_c21 3 61 → T_c21.heap = h_c21 → Fr n0 lo_c21 → Old Z n0 h_c21 → n0 ≤ h_c21.size → HS Z consts_1 s s.heap s.vm h_c21 → Ary Z h_c21 b1 .long PWL → Ary Z h_c21 b119 .char (IL 21 (fun q => Int32.ofNat (fc W d e_ q))) → Ary Z h_c21 b306 .char (IL len (fun q => if q < 21 then Int32.ofNat (fc W d e_ q) else 0)) → Go p e below (WfH Z consts_1 s room_1.cells room_1.slots (fun v h L => v = some (.int (1 : Int32)) ∧ Fr n0 L)) T_c21 (mkF m 835 #[jv p0, .second, iv p1, iv p2, iv p3, rv b1, jv (Int64.ofNat W), .second, iv (Int32.ofNat len), iv fl, iv (Int32.ofNat d), iv (Int32.ofNat e_), iv (Int32.ofNat x), rv b119, rv b306, .unset, .unset, .unset, .unset] []) := by
      intro T_c21 h_c21 lo_c21  X_c21 e_c21 N_c21 O_c21 Z_c21 HS_c21 f_c21_0 f_c21_1 f_c21_2
      have V3_ := IL_congr (f := (fun q => if q < 21 then Int32.ofNat (fc W d e_ q) else 0)) (f' := fun q => Int32.ofNat (fc W d e_ q)) (n := len) (fun q hq => if_pos (by omega)) ▸ f_c21_2
      refine Go.st (T' := T_c21) (g' := (mkF m 838 #[jv p0, .second, iv p1, iv p2, iv p3, rv b1, jv (Int64.ofNat W), .second, iv (Int32.ofNat len), iv fl, iv (Int32.ofNat d), iv (Int32.ofNat e_), iv (Int32.ofNat x), rv b119, rv b306, iv (0 : Int32), .unset, .unset, .unset] [])) ?_ (fun _ kk_ => XS.iconst X_c21.here hx rfl (hb hby at_835) (XS.istore X_c21.here hx rfl (hb hby at_836) rfl (l' := #[jv p0, .second, iv p1, iv p2, iv p3, rv b1, jv (Int64.ofNat W), .second, iv (Int32.ofNat len), iv fl, iv (Int32.ofNat d), iv (Int32.ofNat e_), iv (Int32.ofNat x), rv b119, rv b306, iv (0 : Int32), .unset, .unset, .unset]) rfl kk_))
      have J1 : ∀ (T_J1 : State) (h_J1 : Heap) (lo_J1 : List Loc) (cI : Int32) (sc : Nat → Nat) (bad : Nat) (s16 : Slot) (s17 : Slot), Stand p l e room_1 (s.setVm s.vm) m #[(.long p0), (.int p1), (.int p2), (.int p3)] below meth c T_J1 lo_J1 3 61 → T_J1.heap = h_J1 → Fr n0 lo_J1 → Old Z n0 h_J1 → n0 ≤ h_J1.size → HS Z consts_1 s s.heap s.vm h_J1 → Ary Z h_J1 b1 .long PWL → Ary Z h_J1 b306 .char (IL len (fun q => Int32.ofNat (sc q))) → (∀ q, q < len → sc q < 65536) → (∀ q, q < len → q ≠ bad → sc q < 256) → (bad ≤ len) → (∀ q, q < bad → sc q = fc W d e_ q) → (bad < len → ¬ (48 ≤ sc bad ∧ sc bad ≤ 57)) → (cI = 0 ∧ bad = len ∨ cI = 1 ∧ bad < len) → ((s16 = Slot.unset ∧ s17 = Slot.unset) ∨ ∃ w : Int32 × Int32, s16 = iv w.1 ∧ s17 = iv w.2) → Go p e below (WfH Z consts_1 s room_1.cells room_1.slots (fun v h L => v = some (.int (1 : Int32)) ∧ Fr n0 L)) T_J1 (mkF m 896 #[jv p0, .second, iv p1, iv p2, iv p3, rv b1, jv (Int64.ofNat W), .second, iv (Int32.ofNat len), iv fl, iv (Int32.ofNat d), iv (Int32.ofNat e_), iv (Int32.ofNat x), rv b119, rv b306, iv cI, s16, s17, .unset] []) := by
        intro T_J1 h_J1 lo_J1 cI  sc  bad  s16  s17  X_J1 e_J1 N_J1 O_J1 Z_J1 HS_J1 f_J1_0 f_J1_1 hsc hlo hbd hfc hnd hcI hs16
        have hW2 : W < 2 ^ 63 := Nat.lt_of_le_of_lt hW (by decide)
        have J2 : ∀ (T_J2 : State) (h_J2 : Heap) (lo_J2 : List Loc) , Stand p l e room_1 (s.setVm s.vm) m #[(.long p0), (.int p1), (.int p2), (.int p3)] below meth c T_J2 lo_J2 3 61 → T_J2.heap = h_J2 → Fr n0 lo_J2 → Old Z n0 h_J2 → n0 ≤ h_J2.size → HS Z consts_1 s s.heap s.vm h_J2 → Ary Z h_J2 b306 .char (IL len (fun q => Int32.ofNat (sc q))) → Go p e below (WfH Z consts_1 s room_1.cells room_1.slots (fun v h L => v = some (.int (1 : Int32)) ∧ Fr n0 L)) T_J2 (mkF m 963 #[jv p0, .second, iv p1, iv p2, iv p3, rv b1, jv (Int64.ofNat W), .second, iv (Int32.ofNat len), iv fl, iv (Int32.ofNat d), iv (Int32.ofNat e_), iv (Int32.ofNat x), rv b119, rv b306, iv cI, jv (Int64.ofNat (pv W d e_ len)), .second, .unset] []) := by
          intro T_J2 h_J2 lo_J2  X_J2 e_J2 N_J2 O_J2 Z_J2 HS_J2 f_J2_0
          obtain ⟨T312, h312, X312, e312, E312, A312, D312, U312, st312⟩ := newO X_J2 hx hZ hown (hw _ (List.mem_of_getElem? (i := 26) rfl)) (hw _ (List.mem_of_getElem? (i := 27) rfl)) (hw _ (List.mem_of_getElem? (i := 28) rfl)) e_J2 (g := (mkF m 963 #[jv p0, .second, iv p1, iv p2, iv p3, rv b1, jv (Int64.ofNat W), .second, iv (Int32.ofNat len), iv fl, iv (Int32.ofNat d), iv (Int32.ofNat e_), iv (Int32.ofNat x), rv b119, rv b306, iv cI, jv (Int64.ofNat (pv W d e_ len)), .second, .unset] [])) rfl (hb hby at_963) (by decide) (by decide)
          obtain ⟨b312, g312⟩ : ∃ z, z = h_J2.size := ⟨_, rfl⟩
          rw [← g312] at A312 D312 st312
          have ne_b306_b312 : b306 ≠ b312 := Nat.ne_of_lt (Nat.lt_of_lt_of_eq (f_J2_0).lt g312.symm)
          have g_b312 : n0 ≤ b312 := Nat.le_trans Z_J2 (Nat.le_of_eq g312.symm)
          have HS313 := HS.ext HS_J2 E312
          have O314 := O_J2.ext E312
          have Z315 : n0 ≤ h312.size := Nat.le_trans Z_J2 E312.1
          have sf316 := Sf.born HS_J2 E312 g312 A312.lt
          have f317 : Fld Z h312 b312 "java/lang/String" "coder" "B" (.int (0 : Int32)) := D312 (Or.inr (hw _ (List.mem_of_getElem? (i := 52) rfl))) (ty := .byte) (by decide)
          have f318 : Fld Z h312 b312 "java/lang/String" "value" "[B" .null := D312 (Or.inr (hw _ (List.mem_of_getElem? (i := 54) rfl))) (ty := (.array .byte)) (by decide)
          refine Go.st (T' := T312) (g' := (mkF m 966 #[jv p0, .second, iv p1, iv p2, iv p3, rv b1, jv (Int64.ofNat W), .second, iv (Int32.ofNat len), iv fl, iv (Int32.ofNat d), iv (Int32.ofNat e_), iv (Int32.ofNat x), rv b119, rv b306, iv cI, jv (Int64.ofNat (pv W d e_ len)), .second, .unset] [(.ref b312)])) ?_ st312
          refine Go.st (T' := T312) (g' := (mkF m 969 #[jv p0, .second, iv p1, iv p2, iv p3, rv b1, jv (Int64.ofNat W), .second, iv (Int32.ofNat len), iv fl, iv (Int32.ofNat d), iv (Int32.ofNat e_), iv (Int32.ofNat x), rv b119, rv b306, iv cI, jv (Int64.ofNat (pv W d e_ len)), .second, .unset] [(.ref b306), (.ref b312), (.ref b312)])) ?_ (fun _ kk_ => XS.dup X312.here hx rfl (hb hby at_966) rfl rfl (XS.aload X312.here hx rfl (hb hby at_967) rfl rfl  kk_))
          by_cases hz : len = 0
          ·
            have f319 := (f_J2_0.ext E312)
            have V0 : Ary Z h312 b306 .char [] := by have q := f319; rw [hz] at q; exact q
            refine Go.callNH (y := (⟨"java/lang/String", "<init>", "([C)V"⟩ : MethodName)) X312 hx hZ rfl hown (hw _ (List.mem_of_getElem? (i := 29) rfl)) (hw _ (List.mem_of_getElem? (i := 30) rfl)) (hw _ (List.mem_of_getElem? (i := 28) rfl)) (hw _ (List.mem_of_getElem? (i := 31) rfl)) (by decide) 1 HS313 hEL (rm_i1E l Z a0 hw [] b312 b306 n0 h312 hEL wS Z315 V0 A312 f318 f317 g_b312) e312 (by decide) (by decide) (by decide) (by decide) (a := b312) (argsL := [(.ref b306)]) (rest := [(.ref b312)]) rfl (by rw [hml]; rfl) (lenOf pd__28_5bC_29V rfl) rfl rfl (by show 2 * 0 + _ ≤ _; exact Nat.le_of_eq rfl) (hb hby at_969) ?_
            rintro _ T320 L320 X320 ⟨rfl, N320, K320, Fc320, t, Fv320, V320⟩ hZ320 ho320 HS320 C320
            have N321 := Fr.app N_J2 N320
            have O322 := O314.keep K320 (allS (P := fun z_ => n0 ≤ z_) g_b312 all0)
            have Z323 : n0 ≤ T320.heap.size := Nat.le_trans Z315 K320.1
            show Go p e below _ T320 (mkF m 972 #[jv p0, .second, iv p1, iv p2, iv p3, rv b1, jv (Int64.ofNat W), .second, iv (Int32.ofNat len), iv fl, iv (Int32.ofNat d), iv (Int32.ofNat e_), iv (Int32.ofNat x), rv b119, rv b306, iv cI, jv (Int64.ofNat (pv W d e_ len)), .second, .unset] [(.ref b312)])
            have f324 := (A312.keep K320)
            have SX : StrX Z T320.heap b312 len sc := ⟨t, f324, Fv320, Or.inl ⟨Fc320, by rw [hz]; exact V320, fun q hq => by omega⟩⟩
            refine Go.callS (y := (⟨"com/example/stentor/stentor/core/PositiveDecimal", "parse", "(Ljava/lang/String;)Ljava/util/OptionalLong;"⟩ : MethodName)) X320 hx hZ320 ho320 (hw _ (List.mem_of_getElem? (i := 55) rfl)) (hw _ (List.mem_of_getElem? (i := 56) rfl)) (hw _ (List.mem_of_getElem? (i := 57) rfl)) (hw _ (List.mem_of_getElem? (i := 58) rfl)) (by decide) 0 (rm_prs l Z a0 hw [] b312 len bad sc (pv W d e_) n0 cS rF eA T320.heap Z323 hlen hbd (fun q hq => by rw [hfc q hq]; exact fc_dig hd he q) (pv_zero hW) (fun q hq => by rw [hfc q hq]; exact pv_step hW hd he (by omega)) (fun q => pv_le hW hd he q) hnd hsc SX O322 Sc hcS Sa Sh Sl Sr hr_rF Se Ee Fe) rfl (by decide) (by decide) (by decide) (by decide) (argsL := [(.ref b312)]) (rest := []) rfl (by rw [hml]; rfl) (lenOf pd__28Ljava_2flang_2fString_3b_29Ljava_2futil_2fOptionalLong_3b rfl) rfl rfl (by show 2 * 0 + _ ≤ _; exact Nat.le_of_eq rfl) (hb hby at_972) ?_
            rintro _ T325 L325 X325 ⟨r, rfl, N325, K325, Er, hr⟩
            have N326 := Fr.app N321 N325
            have HS327 := HS.keep HS320 K325 sf0
            have O328 := O322.keep K325 all0
            have Z329 : n0 ≤ T325.heap.size := Nat.le_trans Z323 K325.1
            show Go p e below _ T325 (mkF m 975 #[jv p0, .second, iv p1, iv p2, iv p3, rv b1, jv (Int64.ofNat W), .second, iv (Int32.ofNat len), iv fl, iv (Int32.ofNat d), iv (Int32.ofNat e_), iv (Int32.ofNat x), rv b119, rv b306, iv cI, jv (Int64.ofNat (pv W d e_ len)), .second, .unset] [(.ref r)])
            refine Go.st (T' := T325) (g' := (mkF m 977 #[jv p0, .second, iv p1, iv p2, iv p3, rv b1, jv (Int64.ofNat W), .second, iv (Int32.ofNat len), iv fl, iv (Int32.ofNat d), iv (Int32.ofNat e_), iv (Int32.ofNat x), rv b119, rv b306, iv cI, jv (Int64.ofNat (pv W d e_ len)), .second, rv r] [])) ?_ (fun _ kk_ => XS.astore X325.here hx rfl (hb hby at_975) rfl rfl (l' := #[jv p0, .second, iv p1, iv p2, iv p3, rv b1, jv (Int64.ofNat W), .second, iv (Int32.ofNat len), iv fl, iv (Int32.ofNat d), iv (Int32.ofNat e_), iv (Int32.ofNat x), rv b119, rv b306, iv cI, jv (Int64.ofNat (pv W d e_ len)), .second, rv r]) rfl kk_)
            have hpv : pv W d e_ len < 2 ^ 63 := Nat.lt_of_le_of_lt (pv_le hW hd he len) (by decide)
            obtain ⟨rfl, hb1⟩ | ⟨rfl, hb1⟩ := hcI
            ·
              refine Go.st (T' := T325) (g' := (mkF m 986 #[jv p0, .second, iv p1, iv p2, iv p3, rv b1, jv (Int64.ofNat W), .second, iv (Int32.ofNat len), iv fl, iv (Int32.ofNat d), iv (Int32.ofNat e_), iv (Int32.ofNat x), rv b119, rv b306, iv (0 : Int32), jv (Int64.ofNat (pv W d e_ len)), .second, rv r] [(.int (lcmpW (Int64.ofNat (pv W d e_ len)) (0 : Int64)))])) ?_ (fun _ kk_ => XS.iload X325.here hx rfl (hb hby at_977) rfl  (XS.ifNo X325.here hx rfl (hb hby at_979) rfl ((if0 _ _).trans (teq ((by decide) : (0 : Int32) = (0 : Int32))).2) (XS.lload X325.here hx rfl (hb hby at_982) rfl  (XS.lconst X325.here hx rfl (hb hby at_984) (XS.lcmp X325.here hx rfl (hb hby at_985) rfl kk_)))))
              by_cases hv0 : (lcmpW (Int64.ofNat (pv W d e_ len)) (0 : Int64)) = (0 : Int32)
              ·
                refine Go.st (T' := T325) (g' := (mkF m 989 #[jv p0, .second, iv p1, iv p2, iv p3, rv b1, jv (Int64.ofNat W), .second, iv (Int32.ofNat len), iv fl, iv (Int32.ofNat d), iv (Int32.ofNat e_), iv (Int32.ofNat x), rv b119, rv b306, iv (0 : Int32), jv (Int64.ofNat (pv W d e_ len)), .second, rv r] [])) ?_ (fun _ kk_ => XS.ifNo X325.here hx rfl (hb hby at_986) rfl ((if0 _ _).trans (teq (hv0 : (lcmpW (Int64.ofNat (pv W d e_ len)) (0 : Int64)) = (0 : Int32))).2) kk_)
                have g0 : pv W d e_ len = 0 := (own_leq (b := 0) hpv (by decide)).mp ((lw_eq _ _).mp hv0)
                obtain ⟨-, Fi⟩ | ⟨hz2, -⟩ := hr
                ·
                  refine Go.st (T' := T325) (g' := (mkF m 991 #[jv p0, .second, iv p1, iv p2, iv p3, rv b1, jv (Int64.ofNat W), .second, iv (Int32.ofNat len), iv fl, iv (Int32.ofNat d), iv (Int32.ofNat e_), iv (Int32.ofNat x), rv b119, rv b306, iv (0 : Int32), jv (Int64.ofNat (pv W d e_ len)), .second, rv r] [(.ref r)])) ?_ (fun _ kk_ => XS.aload X325.here hx rfl (hb hby at_989) rfl rfl  kk_)
                  refine Go.callV (y := (⟨"java/util/OptionalLong", "isPresent", "()Z"⟩ : MethodName)) (z := (⟨"java/util/OptionalLong", "isPresent", "()Z"⟩ : MethodName)) X325 hx hZ320 ho320 (hw _ (List.mem_of_getElem? (i := 98) rfl)) (hw _ (List.mem_of_getElem? (i := 99) rfl)) (notFace_of_selects (args := #[]) (mvT hZ320 (hw _ (List.mem_of_getElem? (i := 101) rfl)))) (hw _ (List.mem_of_getElem? (i := 101) rfl)) (hw _ (List.mem_of_getElem? (i := 100) rfl)) (hw _ (List.mem_of_getElem? (i := 95) rfl)) (hw _ (List.mem_of_getElem? (i := 102) rfl)) (by decide) 0 (rm_isp l Z a0 hw [] r (0 : Int32) T325.heap (Or.inl rfl) Fi) rfl (by decide) (by decide) (by decide) (by decide) Er (argsL := []) (rest := []) rfl (by rw [hml]; rfl) (lenOf pd__28_29Z rfl) rfl rfl (by show 2 * 0 + _ ≤ _; exact Nat.le_of_eq rfl) (hb hby at_991) ?_
                  rintro _ T330 L330 X330 ⟨rfl, e330, rfl⟩
                  have N331 := Fr.app N326 (Fr.nil _)
                  show Go p e below _ T330 (mkF m 994 #[jv p0, .second, iv p1, iv p2, iv p3, rv b1, jv (Int64.ofNat W), .second, iv (Int32.ofNat len), iv fl, iv (Int32.ofNat d), iv (Int32.ofNat e_), iv (Int32.ofNat x), rv b119, rv b306, iv (0 : Int32), jv (Int64.ofNat (pv W d e_ len)), .second, rv r] [(.int (0 : Int32))])
                  refine Go.st (T' := T330) (g' := (mkF m 1002 #[jv p0, .second, iv p1, iv p2, iv p3, rv b1, jv (Int64.ofNat W), .second, iv (Int32.ofNat len), iv fl, iv (Int32.ofNat d), iv (Int32.ofNat e_), iv (Int32.ofNat x), rv b119, rv b306, iv (0 : Int32), jv (Int64.ofNat (pv W d e_ len)), .second, rv r] [(.int (1 : Int32))])) ?_ (fun _ kk_ => XS.ifNo X330.here hx rfl (hb hby at_994) rfl ((if0 _ _).trans (teq ((by decide) : (0 : Int32) = (0 : Int32))).2) (XS.iconst X330.here hx rfl (hb hby at_997) (XS.goto X330.here hx rfl (pc0 := 998) (pc' := 1002) rfl (hb hby at_998) (by decide) (by decide) kk_)))
                  refine Go.retNH X330 hx hlk (t := .boolean) hret (by simp) (z' := (1 : Int32)) rfl (hb hby at_1002) (by decide) (by decide) hZ320 hEL (by rw [e330]; exact HS327) ?_
                  try rw [e330]
                  exact ⟨rfl, N331⟩
                · exact absurd (Or.inr g0) hz2
              ·
                refine Go.st (T' := T325) (g' := (mkF m 1003 #[jv p0, .second, iv p1, iv p2, iv p3, rv b1, jv (Int64.ofNat W), .second, iv (Int32.ofNat len), iv fl, iv (Int32.ofNat d), iv (Int32.ofNat e_), iv (Int32.ofNat x), rv b119, rv b306, iv (0 : Int32), jv (Int64.ofNat (pv W d e_ len)), .second, rv r] [])) ?_ (fun _ kk_ => XS.ifYes X325.here hx rfl (pc0 := 986) (pc' := 1003) rfl (hb hby at_986) rfl ((if0 _ _).trans (feq (hv0 : ¬ ((lcmpW (Int64.ofNat (pv W d e_ len)) (0 : Int64)) = (0 : Int32)))).2) (by decide) (by decide) kk_)
                have g0 : ¬ pv W d e_ len = 0 := fun z => hv0 ((lw_eq _ _).mpr ((own_leq (b := 0) hpv (by decide)).mpr z))
                obtain ⟨hz2, -⟩ | ⟨-, Fi, Fv_r⟩ := hr
                · exact absurd (hz2.resolve_left (by omega)) g0
                ·
                  refine Go.st (T' := T325) (g' := (mkF m 1005 #[jv p0, .second, iv p1, iv p2, iv p3, rv b1, jv (Int64.ofNat W), .second, iv (Int32.ofNat len), iv fl, iv (Int32.ofNat d), iv (Int32.ofNat e_), iv (Int32.ofNat x), rv b119, rv b306, iv (0 : Int32), jv (Int64.ofNat (pv W d e_ len)), .second, rv r] [(.ref r)])) ?_ (fun _ kk_ => XS.aload X325.here hx rfl (hb hby at_1003) rfl rfl  kk_)
                  refine Go.callV (y := (⟨"java/util/OptionalLong", "isPresent", "()Z"⟩ : MethodName)) (z := (⟨"java/util/OptionalLong", "isPresent", "()Z"⟩ : MethodName)) X325 hx hZ320 ho320 (hw _ (List.mem_of_getElem? (i := 98) rfl)) (hw _ (List.mem_of_getElem? (i := 99) rfl)) (notFace_of_selects (args := #[]) (mvT hZ320 (hw _ (List.mem_of_getElem? (i := 101) rfl)))) (hw _ (List.mem_of_getElem? (i := 101) rfl)) (hw _ (List.mem_of_getElem? (i := 100) rfl)) (hw _ (List.mem_of_getElem? (i := 95) rfl)) (hw _ (List.mem_of_getElem? (i := 102) rfl)) (by decide) 0 (rm_isp l Z a0 hw [] r (1 : Int32) T325.heap (Or.inr rfl) Fi) rfl (by decide) (by decide) (by decide) (by decide) Er (argsL := []) (rest := []) rfl (by rw [hml]; rfl) (lenOf pd__28_29Z rfl) rfl rfl (by show 2 * 0 + _ ≤ _; exact Nat.le_of_eq rfl) (hb hby at_1005) ?_
                  rintro _ T332 L332 X332 ⟨rfl, e332, rfl⟩
                  have N333 := Fr.app N326 (Fr.nil _)
                  show Go p e below _ T332 (mkF m 1008 #[jv p0, .second, iv p1, iv p2, iv p3, rv b1, jv (Int64.ofNat W), .second, iv (Int32.ofNat len), iv fl, iv (Int32.ofNat d), iv (Int32.ofNat e_), iv (Int32.ofNat x), rv b119, rv b306, iv (0 : Int32), jv (Int64.ofNat (pv W d e_ len)), .second, rv r] [(.int (1 : Int32))])
                  refine Go.st (T' := T332) (g' := (mkF m 1013 #[jv p0, .second, iv p1, iv p2, iv p3, rv b1, jv (Int64.ofNat W), .second, iv (Int32.ofNat len), iv fl, iv (Int32.ofNat d), iv (Int32.ofNat e_), iv (Int32.ofNat x), rv b119, rv b306, iv (0 : Int32), jv (Int64.ofNat (pv W d e_ len)), .second, rv r] [(.ref r)])) ?_ (fun _ kk_ => XS.ifNo X332.here hx rfl (hb hby at_1008) rfl ((if0 _ _).trans (feq ((by decide) : ¬ ((1 : Int32) = (0 : Int32)))).1) (XS.aload X332.here hx rfl (hb hby at_1011) rfl rfl  kk_))
                  refine Go.callV (y := (⟨"java/util/OptionalLong", "getAsLong", "()J"⟩ : MethodName)) (z := (⟨"java/util/OptionalLong", "getAsLong", "()J"⟩ : MethodName)) X332 hx hZ320 ho320 (hw _ (List.mem_of_getElem? (i := 117) rfl)) (hw _ (List.mem_of_getElem? (i := 118) rfl)) (notFace_of_selects (args := #[]) (mvT hZ320 (hw _ (List.mem_of_getElem? (i := 120) rfl)))) (hw _ (List.mem_of_getElem? (i := 120) rfl)) (hw _ (List.mem_of_getElem? (i := 119) rfl)) (hw _ (List.mem_of_getElem? (i := 95) rfl)) (hw _ (List.mem_of_getElem? (i := 121) rfl)) (by decide) 0 (rm_gal l Z a0 hw [] r (Int64.ofNat (pv W d e_ len)) T325.heap Fi Fv_r) e332 (by decide) (by decide) (by decide) (by decide) Er (argsL := []) (rest := []) rfl (by rw [hml]; rfl) (lenOf pd__28_29J rfl) rfl rfl (by show 2 * 0 + _ ≤ _; exact Nat.le_of_eq rfl) (hb hby at_1013) ?_
                  rintro _ T334 L334 X334 ⟨rfl, e334, rfl⟩
                  have N335 := Fr.app N333 (Fr.nil _)
                  show Go p e below _ T334 (mkF m 1016 #[jv p0, .second, iv p1, iv p2, iv p3, rv b1, jv (Int64.ofNat W), .second, iv (Int32.ofNat len), iv fl, iv (Int32.ofNat d), iv (Int32.ofNat e_), iv (Int32.ofNat x), rv b119, rv b306, iv (0 : Int32), jv (Int64.ofNat (pv W d e_ len)), .second, rv r] [(.long (Int64.ofNat (pv W d e_ len)))])
                  refine Go.st (T' := T334) (g' := (mkF m 1027 #[jv p0, .second, iv p1, iv p2, iv p3, rv b1, jv (Int64.ofNat W), .second, iv (Int32.ofNat len), iv fl, iv (Int32.ofNat d), iv (Int32.ofNat e_), iv (Int32.ofNat x), rv b119, rv b306, iv (0 : Int32), jv (Int64.ofNat (pv W d e_ len)), .second, rv r] [(.int (1 : Int32))])) ?_ (fun _ kk_ => XS.lload X334.here hx rfl (hb hby at_1016) rfl  (XS.lcmp X334.here hx rfl (hb hby at_1018) rfl (XS.ifNo X334.here hx rfl (hb hby at_1019) rfl ((if0 _ _).trans (teq (((lw_eq _ _).mpr rfl) : (lcmpW (Int64.ofNat (pv W d e_ len)) (Int64.ofNat (pv W d e_ len))) = (0 : Int32))).2) (XS.iconst X334.here hx rfl (hb hby at_1022) (XS.goto X334.here hx rfl (pc0 := 1023) (pc' := 1027) rfl (hb hby at_1023) (by decide) (by decide) kk_)))))
                  refine Go.retNH X334 hx hlk (t := .boolean) hret (by simp) (z' := (1 : Int32)) rfl (hb hby at_1027) (by decide) (by decide) hZ320 hEL (by rw [e334]; exact HS327) ?_
                  try rw [e334]
                  exact ⟨rfl, N335⟩
            ·
              obtain ⟨-, Fi⟩ | ⟨hz2, -⟩ := hr
              ·
                refine Go.st (T' := T325) (g' := (mkF m 991 #[jv p0, .second, iv p1, iv p2, iv p3, rv b1, jv (Int64.ofNat W), .second, iv (Int32.ofNat len), iv fl, iv (Int32.ofNat d), iv (Int32.ofNat e_), iv (Int32.ofNat x), rv b119, rv b306, iv (1 : Int32), jv (Int64.ofNat (pv W d e_ len)), .second, rv r] [(.ref r)])) ?_ (fun _ kk_ => XS.iload X325.here hx rfl (hb hby at_977) rfl  (XS.ifYes X325.here hx rfl (pc0 := 979) (pc' := 989) rfl (hb hby at_979) rfl ((if0 _ _).trans (feq ((by decide) : ¬ ((1 : Int32) = (0 : Int32)))).2) (by decide) (by decide) (XS.aload X325.here hx rfl (hb hby at_989) rfl rfl  kk_)))
                refine Go.callV (y := (⟨"java/util/OptionalLong", "isPresent", "()Z"⟩ : MethodName)) (z := (⟨"java/util/OptionalLong", "isPresent", "()Z"⟩ : MethodName)) X325 hx hZ320 ho320 (hw _ (List.mem_of_getElem? (i := 98) rfl)) (hw _ (List.mem_of_getElem? (i := 99) rfl)) (notFace_of_selects (args := #[]) (mvT hZ320 (hw _ (List.mem_of_getElem? (i := 101) rfl)))) (hw _ (List.mem_of_getElem? (i := 101) rfl)) (hw _ (List.mem_of_getElem? (i := 100) rfl)) (hw _ (List.mem_of_getElem? (i := 95) rfl)) (hw _ (List.mem_of_getElem? (i := 102) rfl)) (by decide) 0 (rm_isp l Z a0 hw [] r (0 : Int32) T325.heap (Or.inl rfl) Fi) rfl (by decide) (by decide) (by decide) (by decide) Er (argsL := []) (rest := []) rfl (by rw [hml]; rfl) (lenOf pd__28_29Z rfl) rfl rfl (by show 2 * 0 + _ ≤ _; exact Nat.le_of_eq rfl) (hb hby at_991) ?_
                rintro _ T336 L336 X336 ⟨rfl, e336, rfl⟩
                have N337 := Fr.app N326 (Fr.nil _)
                show Go p e below _ T336 (mkF m 994 #[jv p0, .second, iv p1, iv p2, iv p3, rv b1, jv (Int64.ofNat W), .second, iv (Int32.ofNat len), iv fl, iv (Int32.ofNat d), iv (Int32.ofNat e_), iv (Int32.ofNat x), rv b119, rv b306, iv (1 : Int32), jv (Int64.ofNat (pv W d e_ len)), .second, rv r] [(.int (0 : Int32))])
                refine Go.st (T' := T336) (g' := (mkF m 1002 #[jv p0, .second, iv p1, iv p2, iv p3, rv b1, jv (Int64.ofNat W), .second, iv (Int32.ofNat len), iv fl, iv (Int32.ofNat d), iv (Int32.ofNat e_), iv (Int32.ofNat x), rv b119, rv b306, iv (1 : Int32), jv (Int64.ofNat (pv W d e_ len)), .second, rv r] [(.int (1 : Int32))])) ?_ (fun _ kk_ => XS.ifNo X336.here hx rfl (hb hby at_994) rfl ((if0 _ _).trans (teq ((by decide) : (0 : Int32) = (0 : Int32))).2) (XS.iconst X336.here hx rfl (hb hby at_997) (XS.goto X336.here hx rfl (pc0 := 998) (pc' := 1002) rfl (hb hby at_998) (by decide) (by decide) kk_)))
                refine Go.retNH X336 hx hlk (t := .boolean) hret (by simp) (z' := (1 : Int32)) rfl (hb hby at_1002) (by decide) (by decide) hZ320 hEL (by rw [e336]; exact HS327) ?_
                try rw [e336]
                exact ⟨rfl, N337⟩
              · exact absurd (Or.inl hb1) hz2
          · by_cases hbig : bad < len ∧ 256 ≤ sc bad
            ·
              have f338 := (f_J2_0.ext E312)
              refine Go.callN (y := (⟨"java/lang/String", "<init>", "([C)V"⟩ : MethodName)) X312 hx hZ rfl hown (hw _ (List.mem_of_getElem? (i := 29) rfl)) (hw _ (List.mem_of_getElem? (i := 30) rfl)) (hw _ (List.mem_of_getElem? (i := 28) rfl)) (hw _ (List.mem_of_getElem? (i := 31) rfl)) (by decide) 1 (rm_i1U l Z a0 hw [] b312 b306 len bad sc n0 cS h312 Z315 hlen hbig.1 (fun q hq => hlo q (by omega) (by omega)) hbig.2 hsc f338 A312 f318 f317 g_b312 O314 Sc hcS Sa Sh Sl (Ne.symm ne_b306_b312)) e312 (by decide) (by decide) (by decide) (by decide) (a := b312) (argsL := [(.ref b306)]) (rest := [(.ref b312)]) rfl (by rw [hml]; rfl) (lenOf pd__28_5bC_29V rfl) rfl rfl (by show 2 * 0 + _ ≤ _; exact Nat.le_of_eq rfl) (hb hby at_969) ?_
              rintro _ T339 L339 X339 ⟨rfl, N339, K339, Fc339, t, tz, Fv339, V339⟩
              have N340 := Fr.app N_J2 N339
              have HS341 := HS.keep HS313 K339 (sfS (sf316).1 sf0)
              have O342 := O314.keep K339 (allS (P := fun z_ => n0 ≤ z_) g_b312 all0)
              have Z343 : n0 ≤ T339.heap.size := Nat.le_trans Z315 K339.1
              show Go p e below _ T339 (mkF m 972 #[jv p0, .second, iv p1, iv p2, iv p3, rv b1, jv (Int64.ofNat W), .second, iv (Int32.ofNat len), iv fl, iv (Int32.ofNat d), iv (Int32.ofNat e_), iv (Int32.ofNat x), rv b119, rv b306, iv cI, jv (Int64.ofNat (pv W d e_ len)), .second, .unset] [(.ref b312)])
              have f344 := (A312.keep K339)
              have SX : StrX Z T339.heap b312 len sc := ⟨t, f344, Fv339, Or.inr ⟨Fc339, V339, hsc⟩⟩
              refine Go.callS (y := (⟨"com/example/stentor/stentor/core/PositiveDecimal", "parse", "(Ljava/lang/String;)Ljava/util/OptionalLong;"⟩ : MethodName)) X339 hx hZ hown (hw _ (List.mem_of_getElem? (i := 55) rfl)) (hw _ (List.mem_of_getElem? (i := 56) rfl)) (hw _ (List.mem_of_getElem? (i := 57) rfl)) (hw _ (List.mem_of_getElem? (i := 58) rfl)) (by decide) 0 (rm_prs l Z a0 hw [] b312 len bad sc (pv W d e_) n0 cS rF eA T339.heap Z343 hlen hbd (fun q hq => by rw [hfc q hq]; exact fc_dig hd he q) (pv_zero hW) (fun q hq => by rw [hfc q hq]; exact pv_step hW hd he (by omega)) (fun q => pv_le hW hd he q) hnd hsc SX O342 Sc hcS Sa Sh Sl Sr hr_rF Se Ee Fe) rfl (by decide) (by decide) (by decide) (by decide) (argsL := [(.ref b312)]) (rest := []) rfl (by rw [hml]; rfl) (lenOf pd__28Ljava_2flang_2fString_3b_29Ljava_2futil_2fOptionalLong_3b rfl) rfl rfl (by show 2 * 0 + _ ≤ _; exact Nat.le_of_eq rfl) (hb hby at_972) ?_
              rintro _ T345 L345 X345 ⟨r, rfl, N345, K345, Er, hr⟩
              have N346 := Fr.app N340 N345
              have HS347 := HS.keep HS341 K345 sf0
              have O348 := O342.keep K345 all0
              have Z349 : n0 ≤ T345.heap.size := Nat.le_trans Z343 K345.1
              show Go p e below _ T345 (mkF m 975 #[jv p0, .second, iv p1, iv p2, iv p3, rv b1, jv (Int64.ofNat W), .second, iv (Int32.ofNat len), iv fl, iv (Int32.ofNat d), iv (Int32.ofNat e_), iv (Int32.ofNat x), rv b119, rv b306, iv cI, jv (Int64.ofNat (pv W d e_ len)), .second, .unset] [(.ref r)])
              refine Go.st (T' := T345) (g' := (mkF m 977 #[jv p0, .second, iv p1, iv p2, iv p3, rv b1, jv (Int64.ofNat W), .second, iv (Int32.ofNat len), iv fl, iv (Int32.ofNat d), iv (Int32.ofNat e_), iv (Int32.ofNat x), rv b119, rv b306, iv cI, jv (Int64.ofNat (pv W d e_ len)), .second, rv r] [])) ?_ (fun _ kk_ => XS.astore X345.here hx rfl (hb hby at_975) rfl rfl (l' := #[jv p0, .second, iv p1, iv p2, iv p3, rv b1, jv (Int64.ofNat W), .second, iv (Int32.ofNat len), iv fl, iv (Int32.ofNat d), iv (Int32.ofNat e_), iv (Int32.ofNat x), rv b119, rv b306, iv cI, jv (Int64.ofNat (pv W d e_ len)), .second, rv r]) rfl kk_)
              have hpv : pv W d e_ len < 2 ^ 63 := Nat.lt_of_le_of_lt (pv_le hW hd he len) (by decide)
              obtain ⟨rfl, hb1⟩ | ⟨rfl, hb1⟩ := hcI
              ·
                refine Go.st (T' := T345) (g' := (mkF m 986 #[jv p0, .second, iv p1, iv p2, iv p3, rv b1, jv (Int64.ofNat W), .second, iv (Int32.ofNat len), iv fl, iv (Int32.ofNat d), iv (Int32.ofNat e_), iv (Int32.ofNat x), rv b119, rv b306, iv (0 : Int32), jv (Int64.ofNat (pv W d e_ len)), .second, rv r] [(.int (lcmpW (Int64.ofNat (pv W d e_ len)) (0 : Int64)))])) ?_ (fun _ kk_ => XS.iload X345.here hx rfl (hb hby at_977) rfl  (XS.ifNo X345.here hx rfl (hb hby at_979) rfl ((if0 _ _).trans (teq ((by decide) : (0 : Int32) = (0 : Int32))).2) (XS.lload X345.here hx rfl (hb hby at_982) rfl  (XS.lconst X345.here hx rfl (hb hby at_984) (XS.lcmp X345.here hx rfl (hb hby at_985) rfl kk_)))))
                by_cases hv0 : (lcmpW (Int64.ofNat (pv W d e_ len)) (0 : Int64)) = (0 : Int32)
                ·
                  refine Go.st (T' := T345) (g' := (mkF m 989 #[jv p0, .second, iv p1, iv p2, iv p3, rv b1, jv (Int64.ofNat W), .second, iv (Int32.ofNat len), iv fl, iv (Int32.ofNat d), iv (Int32.ofNat e_), iv (Int32.ofNat x), rv b119, rv b306, iv (0 : Int32), jv (Int64.ofNat (pv W d e_ len)), .second, rv r] [])) ?_ (fun _ kk_ => XS.ifNo X345.here hx rfl (hb hby at_986) rfl ((if0 _ _).trans (teq (hv0 : (lcmpW (Int64.ofNat (pv W d e_ len)) (0 : Int64)) = (0 : Int32))).2) kk_)
                  have g0 : pv W d e_ len = 0 := (own_leq (b := 0) hpv (by decide)).mp ((lw_eq _ _).mp hv0)
                  obtain ⟨-, Fi⟩ | ⟨hz2, -⟩ := hr
                  ·
                    refine Go.st (T' := T345) (g' := (mkF m 991 #[jv p0, .second, iv p1, iv p2, iv p3, rv b1, jv (Int64.ofNat W), .second, iv (Int32.ofNat len), iv fl, iv (Int32.ofNat d), iv (Int32.ofNat e_), iv (Int32.ofNat x), rv b119, rv b306, iv (0 : Int32), jv (Int64.ofNat (pv W d e_ len)), .second, rv r] [(.ref r)])) ?_ (fun _ kk_ => XS.aload X345.here hx rfl (hb hby at_989) rfl rfl  kk_)
                    refine Go.callV (y := (⟨"java/util/OptionalLong", "isPresent", "()Z"⟩ : MethodName)) (z := (⟨"java/util/OptionalLong", "isPresent", "()Z"⟩ : MethodName)) X345 hx hZ hown (hw _ (List.mem_of_getElem? (i := 98) rfl)) (hw _ (List.mem_of_getElem? (i := 99) rfl)) (notFace_of_selects (args := #[]) (mvT hZ (hw _ (List.mem_of_getElem? (i := 101) rfl)))) (hw _ (List.mem_of_getElem? (i := 101) rfl)) (hw _ (List.mem_of_getElem? (i := 100) rfl)) (hw _ (List.mem_of_getElem? (i := 95) rfl)) (hw _ (List.mem_of_getElem? (i := 102) rfl)) (by decide) 0 (rm_isp l Z a0 hw [] r (0 : Int32) T345.heap (Or.inl rfl) Fi) rfl (by decide) (by decide) (by decide) (by decide) Er (argsL := []) (rest := []) rfl (by rw [hml]; rfl) (lenOf pd__28_29Z rfl) rfl rfl (by show 2 * 0 + _ ≤ _; exact Nat.le_of_eq rfl) (hb hby at_991) ?_
                    rintro _ T350 L350 X350 ⟨rfl, e350, rfl⟩
                    have N351 := Fr.app N346 (Fr.nil _)
                    show Go p e below _ T350 (mkF m 994 #[jv p0, .second, iv p1, iv p2, iv p3, rv b1, jv (Int64.ofNat W), .second, iv (Int32.ofNat len), iv fl, iv (Int32.ofNat d), iv (Int32.ofNat e_), iv (Int32.ofNat x), rv b119, rv b306, iv (0 : Int32), jv (Int64.ofNat (pv W d e_ len)), .second, rv r] [(.int (0 : Int32))])
                    refine Go.st (T' := T350) (g' := (mkF m 1002 #[jv p0, .second, iv p1, iv p2, iv p3, rv b1, jv (Int64.ofNat W), .second, iv (Int32.ofNat len), iv fl, iv (Int32.ofNat d), iv (Int32.ofNat e_), iv (Int32.ofNat x), rv b119, rv b306, iv (0 : Int32), jv (Int64.ofNat (pv W d e_ len)), .second, rv r] [(.int (1 : Int32))])) ?_ (fun _ kk_ => XS.ifNo X350.here hx rfl (hb hby at_994) rfl ((if0 _ _).trans (teq ((by decide) : (0 : Int32) = (0 : Int32))).2) (XS.iconst X350.here hx rfl (hb hby at_997) (XS.goto X350.here hx rfl (pc0 := 998) (pc' := 1002) rfl (hb hby at_998) (by decide) (by decide) kk_)))
                    refine Go.retNH X350 hx hlk (t := .boolean) hret (by simp) (z' := (1 : Int32)) rfl (hb hby at_1002) (by decide) (by decide) hZ hEL (by rw [e350]; exact HS347) ?_
                    try rw [e350]
                    exact ⟨rfl, N351⟩
                  · exact absurd (Or.inr g0) hz2
                ·
                  refine Go.st (T' := T345) (g' := (mkF m 1003 #[jv p0, .second, iv p1, iv p2, iv p3, rv b1, jv (Int64.ofNat W), .second, iv (Int32.ofNat len), iv fl, iv (Int32.ofNat d), iv (Int32.ofNat e_), iv (Int32.ofNat x), rv b119, rv b306, iv (0 : Int32), jv (Int64.ofNat (pv W d e_ len)), .second, rv r] [])) ?_ (fun _ kk_ => XS.ifYes X345.here hx rfl (pc0 := 986) (pc' := 1003) rfl (hb hby at_986) rfl ((if0 _ _).trans (feq (hv0 : ¬ ((lcmpW (Int64.ofNat (pv W d e_ len)) (0 : Int64)) = (0 : Int32)))).2) (by decide) (by decide) kk_)
                  have g0 : ¬ pv W d e_ len = 0 := fun z => hv0 ((lw_eq _ _).mpr ((own_leq (b := 0) hpv (by decide)).mpr z))
                  obtain ⟨hz2, -⟩ | ⟨-, Fi, Fv_r⟩ := hr
                  · exact absurd (hz2.resolve_left (by omega)) g0
                  ·
                    refine Go.st (T' := T345) (g' := (mkF m 1005 #[jv p0, .second, iv p1, iv p2, iv p3, rv b1, jv (Int64.ofNat W), .second, iv (Int32.ofNat len), iv fl, iv (Int32.ofNat d), iv (Int32.ofNat e_), iv (Int32.ofNat x), rv b119, rv b306, iv (0 : Int32), jv (Int64.ofNat (pv W d e_ len)), .second, rv r] [(.ref r)])) ?_ (fun _ kk_ => XS.aload X345.here hx rfl (hb hby at_1003) rfl rfl  kk_)
                    refine Go.callV (y := (⟨"java/util/OptionalLong", "isPresent", "()Z"⟩ : MethodName)) (z := (⟨"java/util/OptionalLong", "isPresent", "()Z"⟩ : MethodName)) X345 hx hZ hown (hw _ (List.mem_of_getElem? (i := 98) rfl)) (hw _ (List.mem_of_getElem? (i := 99) rfl)) (notFace_of_selects (args := #[]) (mvT hZ (hw _ (List.mem_of_getElem? (i := 101) rfl)))) (hw _ (List.mem_of_getElem? (i := 101) rfl)) (hw _ (List.mem_of_getElem? (i := 100) rfl)) (hw _ (List.mem_of_getElem? (i := 95) rfl)) (hw _ (List.mem_of_getElem? (i := 102) rfl)) (by decide) 0 (rm_isp l Z a0 hw [] r (1 : Int32) T345.heap (Or.inr rfl) Fi) rfl (by decide) (by decide) (by decide) (by decide) Er (argsL := []) (rest := []) rfl (by rw [hml]; rfl) (lenOf pd__28_29Z rfl) rfl rfl (by show 2 * 0 + _ ≤ _; exact Nat.le_of_eq rfl) (hb hby at_1005) ?_
                    rintro _ T352 L352 X352 ⟨rfl, e352, rfl⟩
                    have N353 := Fr.app N346 (Fr.nil _)
                    show Go p e below _ T352 (mkF m 1008 #[jv p0, .second, iv p1, iv p2, iv p3, rv b1, jv (Int64.ofNat W), .second, iv (Int32.ofNat len), iv fl, iv (Int32.ofNat d), iv (Int32.ofNat e_), iv (Int32.ofNat x), rv b119, rv b306, iv (0 : Int32), jv (Int64.ofNat (pv W d e_ len)), .second, rv r] [(.int (1 : Int32))])
                    refine Go.st (T' := T352) (g' := (mkF m 1013 #[jv p0, .second, iv p1, iv p2, iv p3, rv b1, jv (Int64.ofNat W), .second, iv (Int32.ofNat len), iv fl, iv (Int32.ofNat d), iv (Int32.ofNat e_), iv (Int32.ofNat x), rv b119, rv b306, iv (0 : Int32), jv (Int64.ofNat (pv W d e_ len)), .second, rv r] [(.ref r)])) ?_ (fun _ kk_ => XS.ifNo X352.here hx rfl (hb hby at_1008) rfl ((if0 _ _).trans (feq ((by decide) : ¬ ((1 : Int32) = (0 : Int32)))).1) (XS.aload X352.here hx rfl (hb hby at_1011) rfl rfl  kk_))
                    refine Go.callV (y := (⟨"java/util/OptionalLong", "getAsLong", "()J"⟩ : MethodName)) (z := (⟨"java/util/OptionalLong", "getAsLong", "()J"⟩ : MethodName)) X352 hx hZ hown (hw _ (List.mem_of_getElem? (i := 117) rfl)) (hw _ (List.mem_of_getElem? (i := 118) rfl)) (notFace_of_selects (args := #[]) (mvT hZ (hw _ (List.mem_of_getElem? (i := 120) rfl)))) (hw _ (List.mem_of_getElem? (i := 120) rfl)) (hw _ (List.mem_of_getElem? (i := 119) rfl)) (hw _ (List.mem_of_getElem? (i := 95) rfl)) (hw _ (List.mem_of_getElem? (i := 121) rfl)) (by decide) 0 (rm_gal l Z a0 hw [] r (Int64.ofNat (pv W d e_ len)) T345.heap Fi Fv_r) e352 (by decide) (by decide) (by decide) (by decide) Er (argsL := []) (rest := []) rfl (by rw [hml]; rfl) (lenOf pd__28_29J rfl) rfl rfl (by show 2 * 0 + _ ≤ _; exact Nat.le_of_eq rfl) (hb hby at_1013) ?_
                    rintro _ T354 L354 X354 ⟨rfl, e354, rfl⟩
                    have N355 := Fr.app N353 (Fr.nil _)
                    show Go p e below _ T354 (mkF m 1016 #[jv p0, .second, iv p1, iv p2, iv p3, rv b1, jv (Int64.ofNat W), .second, iv (Int32.ofNat len), iv fl, iv (Int32.ofNat d), iv (Int32.ofNat e_), iv (Int32.ofNat x), rv b119, rv b306, iv (0 : Int32), jv (Int64.ofNat (pv W d e_ len)), .second, rv r] [(.long (Int64.ofNat (pv W d e_ len)))])
                    refine Go.st (T' := T354) (g' := (mkF m 1027 #[jv p0, .second, iv p1, iv p2, iv p3, rv b1, jv (Int64.ofNat W), .second, iv (Int32.ofNat len), iv fl, iv (Int32.ofNat d), iv (Int32.ofNat e_), iv (Int32.ofNat x), rv b119, rv b306, iv (0 : Int32), jv (Int64.ofNat (pv W d e_ len)), .second, rv r] [(.int (1 : Int32))])) ?_ (fun _ kk_ => XS.lload X354.here hx rfl (hb hby at_1016) rfl  (XS.lcmp X354.here hx rfl (hb hby at_1018) rfl (XS.ifNo X354.here hx rfl (hb hby at_1019) rfl ((if0 _ _).trans (teq (((lw_eq _ _).mpr rfl) : (lcmpW (Int64.ofNat (pv W d e_ len)) (Int64.ofNat (pv W d e_ len))) = (0 : Int32))).2) (XS.iconst X354.here hx rfl (hb hby at_1022) (XS.goto X354.here hx rfl (pc0 := 1023) (pc' := 1027) rfl (hb hby at_1023) (by decide) (by decide) kk_)))))
                    refine Go.retNH X354 hx hlk (t := .boolean) hret (by simp) (z' := (1 : Int32)) rfl (hb hby at_1027) (by decide) (by decide) hZ hEL (by rw [e354]; exact HS347) ?_
                    try rw [e354]
                    exact ⟨rfl, N355⟩
              ·
                obtain ⟨-, Fi⟩ | ⟨hz2, -⟩ := hr
                ·
                  refine Go.st (T' := T345) (g' := (mkF m 991 #[jv p0, .second, iv p1, iv p2, iv p3, rv b1, jv (Int64.ofNat W), .second, iv (Int32.ofNat len), iv fl, iv (Int32.ofNat d), iv (Int32.ofNat e_), iv (Int32.ofNat x), rv b119, rv b306, iv (1 : Int32), jv (Int64.ofNat (pv W d e_ len)), .second, rv r] [(.ref r)])) ?_ (fun _ kk_ => XS.iload X345.here hx rfl (hb hby at_977) rfl  (XS.ifYes X345.here hx rfl (pc0 := 979) (pc' := 989) rfl (hb hby at_979) rfl ((if0 _ _).trans (feq ((by decide) : ¬ ((1 : Int32) = (0 : Int32)))).2) (by decide) (by decide) (XS.aload X345.here hx rfl (hb hby at_989) rfl rfl  kk_)))
                  refine Go.callV (y := (⟨"java/util/OptionalLong", "isPresent", "()Z"⟩ : MethodName)) (z := (⟨"java/util/OptionalLong", "isPresent", "()Z"⟩ : MethodName)) X345 hx hZ hown (hw _ (List.mem_of_getElem? (i := 98) rfl)) (hw _ (List.mem_of_getElem? (i := 99) rfl)) (notFace_of_selects (args := #[]) (mvT hZ (hw _ (List.mem_of_getElem? (i := 101) rfl)))) (hw _ (List.mem_of_getElem? (i := 101) rfl)) (hw _ (List.mem_of_getElem? (i := 100) rfl)) (hw _ (List.mem_of_getElem? (i := 95) rfl)) (hw _ (List.mem_of_getElem? (i := 102) rfl)) (by decide) 0 (rm_isp l Z a0 hw [] r (0 : Int32) T345.heap (Or.inl rfl) Fi) rfl (by decide) (by decide) (by decide) (by decide) Er (argsL := []) (rest := []) rfl (by rw [hml]; rfl) (lenOf pd__28_29Z rfl) rfl rfl (by show 2 * 0 + _ ≤ _; exact Nat.le_of_eq rfl) (hb hby at_991) ?_
                  rintro _ T356 L356 X356 ⟨rfl, e356, rfl⟩
                  have N357 := Fr.app N346 (Fr.nil _)
                  show Go p e below _ T356 (mkF m 994 #[jv p0, .second, iv p1, iv p2, iv p3, rv b1, jv (Int64.ofNat W), .second, iv (Int32.ofNat len), iv fl, iv (Int32.ofNat d), iv (Int32.ofNat e_), iv (Int32.ofNat x), rv b119, rv b306, iv (1 : Int32), jv (Int64.ofNat (pv W d e_ len)), .second, rv r] [(.int (0 : Int32))])
                  refine Go.st (T' := T356) (g' := (mkF m 1002 #[jv p0, .second, iv p1, iv p2, iv p3, rv b1, jv (Int64.ofNat W), .second, iv (Int32.ofNat len), iv fl, iv (Int32.ofNat d), iv (Int32.ofNat e_), iv (Int32.ofNat x), rv b119, rv b306, iv (1 : Int32), jv (Int64.ofNat (pv W d e_ len)), .second, rv r] [(.int (1 : Int32))])) ?_ (fun _ kk_ => XS.ifNo X356.here hx rfl (hb hby at_994) rfl ((if0 _ _).trans (teq ((by decide) : (0 : Int32) = (0 : Int32))).2) (XS.iconst X356.here hx rfl (hb hby at_997) (XS.goto X356.here hx rfl (pc0 := 998) (pc' := 1002) rfl (hb hby at_998) (by decide) (by decide) kk_)))
                  refine Go.retNH X356 hx hlk (t := .boolean) hret (by simp) (z' := (1 : Int32)) rfl (hb hby at_1002) (by decide) (by decide) hZ hEL (by rw [e356]; exact HS347) ?_
                  try rw [e356]
                  exact ⟨rfl, N357⟩
                · exact absurd (Or.inl hb1) hz2
            ·
              have h8 : ∀ q, q < len → sc q < 256 := fun q hq => by
                by_cases z : q = bad
                · subst z; omega
                · exact hlo q hq z
              have f358 := (f_J2_0.ext E312)
              refine Go.callN (y := (⟨"java/lang/String", "<init>", "([C)V"⟩ : MethodName)) X312 hx hZ rfl hown (hw _ (List.mem_of_getElem? (i := 29) rfl)) (hw _ (List.mem_of_getElem? (i := 30) rfl)) (hw _ (List.mem_of_getElem? (i := 28) rfl)) (hw _ (List.mem_of_getElem? (i := 31) rfl)) (by decide) 1 (rm_in1 l Z a0 hw [] b312 b306 len sc n0 cS h312 Z315 (by omega) hlen h8 f358 A312 f318 f317 g_b312 O314 Sc hcS (Ne.symm ne_b306_b312)) e312 (by decide) (by decide) (by decide) (by decide) (a := b312) (argsL := [(.ref b306)]) (rest := [(.ref b312)]) rfl (by rw [hml]; rfl) (lenOf pd__28_5bC_29V rfl) rfl rfl (by show 2 * 0 + _ ≤ _; exact Nat.le_of_eq rfl) (hb hby at_969) ?_
              rintro _ T359 L359 X359 ⟨rfl, N359, K359, Fc359, t, tz, Fv359, V359⟩
              have N360 := Fr.app N_J2 N359
              have HS361 := HS.keep HS313 K359 (sfS (sf316).1 sf0)
              have O362 := O314.keep K359 (allS (P := fun z_ => n0 ≤ z_) g_b312 all0)
              have Z363 : n0 ≤ T359.heap.size := Nat.le_trans Z315 K359.1
              show Go p e below _ T359 (mkF m 972 #[jv p0, .second, iv p1, iv p2, iv p3, rv b1, jv (Int64.ofNat W), .second, iv (Int32.ofNat len), iv fl, iv (Int32.ofNat d), iv (Int32.ofNat e_), iv (Int32.ofNat x), rv b119, rv b306, iv cI, jv (Int64.ofNat (pv W d e_ len)), .second, .unset] [(.ref b312)])
              have f364 := (A312.keep K359)
              have SX : StrX Z T359.heap b312 len sc := ⟨t, f364, Fv359, Or.inl ⟨Fc359, V359, h8⟩⟩
              refine Go.callS (y := (⟨"com/example/stentor/stentor/core/PositiveDecimal", "parse", "(Ljava/lang/String;)Ljava/util/OptionalLong;"⟩ : MethodName)) X359 hx hZ hown (hw _ (List.mem_of_getElem? (i := 55) rfl)) (hw _ (List.mem_of_getElem? (i := 56) rfl)) (hw _ (List.mem_of_getElem? (i := 57) rfl)) (hw _ (List.mem_of_getElem? (i := 58) rfl)) (by decide) 0 (rm_prs l Z a0 hw [] b312 len bad sc (pv W d e_) n0 cS rF eA T359.heap Z363 hlen hbd (fun q hq => by rw [hfc q hq]; exact fc_dig hd he q) (pv_zero hW) (fun q hq => by rw [hfc q hq]; exact pv_step hW hd he (by omega)) (fun q => pv_le hW hd he q) hnd hsc SX O362 Sc hcS Sa Sh Sl Sr hr_rF Se Ee Fe) rfl (by decide) (by decide) (by decide) (by decide) (argsL := [(.ref b312)]) (rest := []) rfl (by rw [hml]; rfl) (lenOf pd__28Ljava_2flang_2fString_3b_29Ljava_2futil_2fOptionalLong_3b rfl) rfl rfl (by show 2 * 0 + _ ≤ _; exact Nat.le_of_eq rfl) (hb hby at_972) ?_
              rintro _ T365 L365 X365 ⟨r, rfl, N365, K365, Er, hr⟩
              have N366 := Fr.app N360 N365
              have HS367 := HS.keep HS361 K365 sf0
              have O368 := O362.keep K365 all0
              have Z369 : n0 ≤ T365.heap.size := Nat.le_trans Z363 K365.1
              show Go p e below _ T365 (mkF m 975 #[jv p0, .second, iv p1, iv p2, iv p3, rv b1, jv (Int64.ofNat W), .second, iv (Int32.ofNat len), iv fl, iv (Int32.ofNat d), iv (Int32.ofNat e_), iv (Int32.ofNat x), rv b119, rv b306, iv cI, jv (Int64.ofNat (pv W d e_ len)), .second, .unset] [(.ref r)])
              refine Go.st (T' := T365) (g' := (mkF m 977 #[jv p0, .second, iv p1, iv p2, iv p3, rv b1, jv (Int64.ofNat W), .second, iv (Int32.ofNat len), iv fl, iv (Int32.ofNat d), iv (Int32.ofNat e_), iv (Int32.ofNat x), rv b119, rv b306, iv cI, jv (Int64.ofNat (pv W d e_ len)), .second, rv r] [])) ?_ (fun _ kk_ => XS.astore X365.here hx rfl (hb hby at_975) rfl rfl (l' := #[jv p0, .second, iv p1, iv p2, iv p3, rv b1, jv (Int64.ofNat W), .second, iv (Int32.ofNat len), iv fl, iv (Int32.ofNat d), iv (Int32.ofNat e_), iv (Int32.ofNat x), rv b119, rv b306, iv cI, jv (Int64.ofNat (pv W d e_ len)), .second, rv r]) rfl kk_)
              have hpv : pv W d e_ len < 2 ^ 63 := Nat.lt_of_le_of_lt (pv_le hW hd he len) (by decide)
              obtain ⟨rfl, hb1⟩ | ⟨rfl, hb1⟩ := hcI
              ·
                refine Go.st (T' := T365) (g' := (mkF m 986 #[jv p0, .second, iv p1, iv p2, iv p3, rv b1, jv (Int64.ofNat W), .second, iv (Int32.ofNat len), iv fl, iv (Int32.ofNat d), iv (Int32.ofNat e_), iv (Int32.ofNat x), rv b119, rv b306, iv (0 : Int32), jv (Int64.ofNat (pv W d e_ len)), .second, rv r] [(.int (lcmpW (Int64.ofNat (pv W d e_ len)) (0 : Int64)))])) ?_ (fun _ kk_ => XS.iload X365.here hx rfl (hb hby at_977) rfl  (XS.ifNo X365.here hx rfl (hb hby at_979) rfl ((if0 _ _).trans (teq ((by decide) : (0 : Int32) = (0 : Int32))).2) (XS.lload X365.here hx rfl (hb hby at_982) rfl  (XS.lconst X365.here hx rfl (hb hby at_984) (XS.lcmp X365.here hx rfl (hb hby at_985) rfl kk_)))))
                by_cases hv0 : (lcmpW (Int64.ofNat (pv W d e_ len)) (0 : Int64)) = (0 : Int32)
                ·
                  refine Go.st (T' := T365) (g' := (mkF m 989 #[jv p0, .second, iv p1, iv p2, iv p3, rv b1, jv (Int64.ofNat W), .second, iv (Int32.ofNat len), iv fl, iv (Int32.ofNat d), iv (Int32.ofNat e_), iv (Int32.ofNat x), rv b119, rv b306, iv (0 : Int32), jv (Int64.ofNat (pv W d e_ len)), .second, rv r] [])) ?_ (fun _ kk_ => XS.ifNo X365.here hx rfl (hb hby at_986) rfl ((if0 _ _).trans (teq (hv0 : (lcmpW (Int64.ofNat (pv W d e_ len)) (0 : Int64)) = (0 : Int32))).2) kk_)
                  have g0 : pv W d e_ len = 0 := (own_leq (b := 0) hpv (by decide)).mp ((lw_eq _ _).mp hv0)
                  obtain ⟨-, Fi⟩ | ⟨hz2, -⟩ := hr
                  ·
                    refine Go.st (T' := T365) (g' := (mkF m 991 #[jv p0, .second, iv p1, iv p2, iv p3, rv b1, jv (Int64.ofNat W), .second, iv (Int32.ofNat len), iv fl, iv (Int32.ofNat d), iv (Int32.ofNat e_), iv (Int32.ofNat x), rv b119, rv b306, iv (0 : Int32), jv (Int64.ofNat (pv W d e_ len)), .second, rv r] [(.ref r)])) ?_ (fun _ kk_ => XS.aload X365.here hx rfl (hb hby at_989) rfl rfl  kk_)
                    refine Go.callV (y := (⟨"java/util/OptionalLong", "isPresent", "()Z"⟩ : MethodName)) (z := (⟨"java/util/OptionalLong", "isPresent", "()Z"⟩ : MethodName)) X365 hx hZ hown (hw _ (List.mem_of_getElem? (i := 98) rfl)) (hw _ (List.mem_of_getElem? (i := 99) rfl)) (notFace_of_selects (args := #[]) (mvT hZ (hw _ (List.mem_of_getElem? (i := 101) rfl)))) (hw _ (List.mem_of_getElem? (i := 101) rfl)) (hw _ (List.mem_of_getElem? (i := 100) rfl)) (hw _ (List.mem_of_getElem? (i := 95) rfl)) (hw _ (List.mem_of_getElem? (i := 102) rfl)) (by decide) 0 (rm_isp l Z a0 hw [] r (0 : Int32) T365.heap (Or.inl rfl) Fi) rfl (by decide) (by decide) (by decide) (by decide) Er (argsL := []) (rest := []) rfl (by rw [hml]; rfl) (lenOf pd__28_29Z rfl) rfl rfl (by show 2 * 0 + _ ≤ _; exact Nat.le_of_eq rfl) (hb hby at_991) ?_
                    rintro _ T370 L370 X370 ⟨rfl, e370, rfl⟩
                    have N371 := Fr.app N366 (Fr.nil _)
                    show Go p e below _ T370 (mkF m 994 #[jv p0, .second, iv p1, iv p2, iv p3, rv b1, jv (Int64.ofNat W), .second, iv (Int32.ofNat len), iv fl, iv (Int32.ofNat d), iv (Int32.ofNat e_), iv (Int32.ofNat x), rv b119, rv b306, iv (0 : Int32), jv (Int64.ofNat (pv W d e_ len)), .second, rv r] [(.int (0 : Int32))])
                    refine Go.st (T' := T370) (g' := (mkF m 1002 #[jv p0, .second, iv p1, iv p2, iv p3, rv b1, jv (Int64.ofNat W), .second, iv (Int32.ofNat len), iv fl, iv (Int32.ofNat d), iv (Int32.ofNat e_), iv (Int32.ofNat x), rv b119, rv b306, iv (0 : Int32), jv (Int64.ofNat (pv W d e_ len)), .second, rv r] [(.int (1 : Int32))])) ?_ (fun _ kk_ => XS.ifNo X370.here hx rfl (hb hby at_994) rfl ((if0 _ _).trans (teq ((by decide) : (0 : Int32) = (0 : Int32))).2) (XS.iconst X370.here hx rfl (hb hby at_997) (XS.goto X370.here hx rfl (pc0 := 998) (pc' := 1002) rfl (hb hby at_998) (by decide) (by decide) kk_)))
                    refine Go.retNH X370 hx hlk (t := .boolean) hret (by simp) (z' := (1 : Int32)) rfl (hb hby at_1002) (by decide) (by decide) hZ hEL (by rw [e370]; exact HS367) ?_
                    try rw [e370]
                    exact ⟨rfl, N371⟩
                  · exact absurd (Or.inr g0) hz2
                ·
                  refine Go.st (T' := T365) (g' := (mkF m 1003 #[jv p0, .second, iv p1, iv p2, iv p3, rv b1, jv (Int64.ofNat W), .second, iv (Int32.ofNat len), iv fl, iv (Int32.ofNat d), iv (Int32.ofNat e_), iv (Int32.ofNat x), rv b119, rv b306, iv (0 : Int32), jv (Int64.ofNat (pv W d e_ len)), .second, rv r] [])) ?_ (fun _ kk_ => XS.ifYes X365.here hx rfl (pc0 := 986) (pc' := 1003) rfl (hb hby at_986) rfl ((if0 _ _).trans (feq (hv0 : ¬ ((lcmpW (Int64.ofNat (pv W d e_ len)) (0 : Int64)) = (0 : Int32)))).2) (by decide) (by decide) kk_)
                  have g0 : ¬ pv W d e_ len = 0 := fun z => hv0 ((lw_eq _ _).mpr ((own_leq (b := 0) hpv (by decide)).mpr z))
                  obtain ⟨hz2, -⟩ | ⟨-, Fi, Fv_r⟩ := hr
                  · exact absurd (hz2.resolve_left (by omega)) g0
                  ·
                    refine Go.st (T' := T365) (g' := (mkF m 1005 #[jv p0, .second, iv p1, iv p2, iv p3, rv b1, jv (Int64.ofNat W), .second, iv (Int32.ofNat len), iv fl, iv (Int32.ofNat d), iv (Int32.ofNat e_), iv (Int32.ofNat x), rv b119, rv b306, iv (0 : Int32), jv (Int64.ofNat (pv W d e_ len)), .second, rv r] [(.ref r)])) ?_ (fun _ kk_ => XS.aload X365.here hx rfl (hb hby at_1003) rfl rfl  kk_)
                    refine Go.callV (y := (⟨"java/util/OptionalLong", "isPresent", "()Z"⟩ : MethodName)) (z := (⟨"java/util/OptionalLong", "isPresent", "()Z"⟩ : MethodName)) X365 hx hZ hown (hw _ (List.mem_of_getElem? (i := 98) rfl)) (hw _ (List.mem_of_getElem? (i := 99) rfl)) (notFace_of_selects (args := #[]) (mvT hZ (hw _ (List.mem_of_getElem? (i := 101) rfl)))) (hw _ (List.mem_of_getElem? (i := 101) rfl)) (hw _ (List.mem_of_getElem? (i := 100) rfl)) (hw _ (List.mem_of_getElem? (i := 95) rfl)) (hw _ (List.mem_of_getElem? (i := 102) rfl)) (by decide) 0 (rm_isp l Z a0 hw [] r (1 : Int32) T365.heap (Or.inr rfl) Fi) rfl (by decide) (by decide) (by decide) (by decide) Er (argsL := []) (rest := []) rfl (by rw [hml]; rfl) (lenOf pd__28_29Z rfl) rfl rfl (by show 2 * 0 + _ ≤ _; exact Nat.le_of_eq rfl) (hb hby at_1005) ?_
                    rintro _ T372 L372 X372 ⟨rfl, e372, rfl⟩
                    have N373 := Fr.app N366 (Fr.nil _)
                    show Go p e below _ T372 (mkF m 1008 #[jv p0, .second, iv p1, iv p2, iv p3, rv b1, jv (Int64.ofNat W), .second, iv (Int32.ofNat len), iv fl, iv (Int32.ofNat d), iv (Int32.ofNat e_), iv (Int32.ofNat x), rv b119, rv b306, iv (0 : Int32), jv (Int64.ofNat (pv W d e_ len)), .second, rv r] [(.int (1 : Int32))])
                    refine Go.st (T' := T372) (g' := (mkF m 1013 #[jv p0, .second, iv p1, iv p2, iv p3, rv b1, jv (Int64.ofNat W), .second, iv (Int32.ofNat len), iv fl, iv (Int32.ofNat d), iv (Int32.ofNat e_), iv (Int32.ofNat x), rv b119, rv b306, iv (0 : Int32), jv (Int64.ofNat (pv W d e_ len)), .second, rv r] [(.ref r)])) ?_ (fun _ kk_ => XS.ifNo X372.here hx rfl (hb hby at_1008) rfl ((if0 _ _).trans (feq ((by decide) : ¬ ((1 : Int32) = (0 : Int32)))).1) (XS.aload X372.here hx rfl (hb hby at_1011) rfl rfl  kk_))
                    refine Go.callV (y := (⟨"java/util/OptionalLong", "getAsLong", "()J"⟩ : MethodName)) (z := (⟨"java/util/OptionalLong", "getAsLong", "()J"⟩ : MethodName)) X372 hx hZ hown (hw _ (List.mem_of_getElem? (i := 117) rfl)) (hw _ (List.mem_of_getElem? (i := 118) rfl)) (notFace_of_selects (args := #[]) (mvT hZ (hw _ (List.mem_of_getElem? (i := 120) rfl)))) (hw _ (List.mem_of_getElem? (i := 120) rfl)) (hw _ (List.mem_of_getElem? (i := 119) rfl)) (hw _ (List.mem_of_getElem? (i := 95) rfl)) (hw _ (List.mem_of_getElem? (i := 121) rfl)) (by decide) 0 (rm_gal l Z a0 hw [] r (Int64.ofNat (pv W d e_ len)) T365.heap Fi Fv_r) e372 (by decide) (by decide) (by decide) (by decide) Er (argsL := []) (rest := []) rfl (by rw [hml]; rfl) (lenOf pd__28_29J rfl) rfl rfl (by show 2 * 0 + _ ≤ _; exact Nat.le_of_eq rfl) (hb hby at_1013) ?_
                    rintro _ T374 L374 X374 ⟨rfl, e374, rfl⟩
                    have N375 := Fr.app N373 (Fr.nil _)
                    show Go p e below _ T374 (mkF m 1016 #[jv p0, .second, iv p1, iv p2, iv p3, rv b1, jv (Int64.ofNat W), .second, iv (Int32.ofNat len), iv fl, iv (Int32.ofNat d), iv (Int32.ofNat e_), iv (Int32.ofNat x), rv b119, rv b306, iv (0 : Int32), jv (Int64.ofNat (pv W d e_ len)), .second, rv r] [(.long (Int64.ofNat (pv W d e_ len)))])
                    refine Go.st (T' := T374) (g' := (mkF m 1027 #[jv p0, .second, iv p1, iv p2, iv p3, rv b1, jv (Int64.ofNat W), .second, iv (Int32.ofNat len), iv fl, iv (Int32.ofNat d), iv (Int32.ofNat e_), iv (Int32.ofNat x), rv b119, rv b306, iv (0 : Int32), jv (Int64.ofNat (pv W d e_ len)), .second, rv r] [(.int (1 : Int32))])) ?_ (fun _ kk_ => XS.lload X374.here hx rfl (hb hby at_1016) rfl  (XS.lcmp X374.here hx rfl (hb hby at_1018) rfl (XS.ifNo X374.here hx rfl (hb hby at_1019) rfl ((if0 _ _).trans (teq (((lw_eq _ _).mpr rfl) : (lcmpW (Int64.ofNat (pv W d e_ len)) (Int64.ofNat (pv W d e_ len))) = (0 : Int32))).2) (XS.iconst X374.here hx rfl (hb hby at_1022) (XS.goto X374.here hx rfl (pc0 := 1023) (pc' := 1027) rfl (hb hby at_1023) (by decide) (by decide) kk_)))))
                    refine Go.retNH X374 hx hlk (t := .boolean) hret (by simp) (z' := (1 : Int32)) rfl (hb hby at_1027) (by decide) (by decide) hZ hEL (by rw [e374]; exact HS367) ?_
                    try rw [e374]
                    exact ⟨rfl, N375⟩
              ·
                obtain ⟨-, Fi⟩ | ⟨hz2, -⟩ := hr
                ·
                  refine Go.st (T' := T365) (g' := (mkF m 991 #[jv p0, .second, iv p1, iv p2, iv p3, rv b1, jv (Int64.ofNat W), .second, iv (Int32.ofNat len), iv fl, iv (Int32.ofNat d), iv (Int32.ofNat e_), iv (Int32.ofNat x), rv b119, rv b306, iv (1 : Int32), jv (Int64.ofNat (pv W d e_ len)), .second, rv r] [(.ref r)])) ?_ (fun _ kk_ => XS.iload X365.here hx rfl (hb hby at_977) rfl  (XS.ifYes X365.here hx rfl (pc0 := 979) (pc' := 989) rfl (hb hby at_979) rfl ((if0 _ _).trans (feq ((by decide) : ¬ ((1 : Int32) = (0 : Int32)))).2) (by decide) (by decide) (XS.aload X365.here hx rfl (hb hby at_989) rfl rfl  kk_)))
                  refine Go.callV (y := (⟨"java/util/OptionalLong", "isPresent", "()Z"⟩ : MethodName)) (z := (⟨"java/util/OptionalLong", "isPresent", "()Z"⟩ : MethodName)) X365 hx hZ hown (hw _ (List.mem_of_getElem? (i := 98) rfl)) (hw _ (List.mem_of_getElem? (i := 99) rfl)) (notFace_of_selects (args := #[]) (mvT hZ (hw _ (List.mem_of_getElem? (i := 101) rfl)))) (hw _ (List.mem_of_getElem? (i := 101) rfl)) (hw _ (List.mem_of_getElem? (i := 100) rfl)) (hw _ (List.mem_of_getElem? (i := 95) rfl)) (hw _ (List.mem_of_getElem? (i := 102) rfl)) (by decide) 0 (rm_isp l Z a0 hw [] r (0 : Int32) T365.heap (Or.inl rfl) Fi) rfl (by decide) (by decide) (by decide) (by decide) Er (argsL := []) (rest := []) rfl (by rw [hml]; rfl) (lenOf pd__28_29Z rfl) rfl rfl (by show 2 * 0 + _ ≤ _; exact Nat.le_of_eq rfl) (hb hby at_991) ?_
                  rintro _ T376 L376 X376 ⟨rfl, e376, rfl⟩
                  have N377 := Fr.app N366 (Fr.nil _)
                  show Go p e below _ T376 (mkF m 994 #[jv p0, .second, iv p1, iv p2, iv p3, rv b1, jv (Int64.ofNat W), .second, iv (Int32.ofNat len), iv fl, iv (Int32.ofNat d), iv (Int32.ofNat e_), iv (Int32.ofNat x), rv b119, rv b306, iv (1 : Int32), jv (Int64.ofNat (pv W d e_ len)), .second, rv r] [(.int (0 : Int32))])
                  refine Go.st (T' := T376) (g' := (mkF m 1002 #[jv p0, .second, iv p1, iv p2, iv p3, rv b1, jv (Int64.ofNat W), .second, iv (Int32.ofNat len), iv fl, iv (Int32.ofNat d), iv (Int32.ofNat e_), iv (Int32.ofNat x), rv b119, rv b306, iv (1 : Int32), jv (Int64.ofNat (pv W d e_ len)), .second, rv r] [(.int (1 : Int32))])) ?_ (fun _ kk_ => XS.ifNo X376.here hx rfl (hb hby at_994) rfl ((if0 _ _).trans (teq ((by decide) : (0 : Int32) = (0 : Int32))).2) (XS.iconst X376.here hx rfl (hb hby at_997) (XS.goto X376.here hx rfl (pc0 := 998) (pc' := 1002) rfl (hb hby at_998) (by decide) (by decide) kk_)))
                  refine Go.retNH X376 hx hlk (t := .boolean) hret (by simp) (z' := (1 : Int32)) rfl (hb hby at_1002) (by decide) (by decide) hZ hEL (by rw [e376]; exact HS367) ?_
                  try rw [e376]
                  exact ⟨rfl, N377⟩
                · exact absurd (Or.inl hb1) hz2
        refine Go.st (T' := T_J1) (g' := (mkF m 898 #[jv p0, .second, iv p1, iv p2, iv p3, rv b1, jv (Int64.ofNat W), .second, iv (Int32.ofNat len), iv fl, iv (Int32.ofNat d), iv (Int32.ofNat e_), iv (Int32.ofNat x), rv b119, rv b306, iv cI, s16, s17, .unset] [(.int (Int32.ofNat len))])) ?_ (fun _ kk_ => XS.iload X_J1.here hx rfl (hb hby at_896) rfl  kk_)
        by_cases hl0 : (Int32.ofNat len) = (0 : Int32)
        ·
          refine Go.st (T' := T_J1) (g' := (mkF m 901 #[jv p0, .second, iv p1, iv p2, iv p3, rv b1, jv (Int64.ofNat W), .second, iv (Int32.ofNat len), iv fl, iv (Int32.ofNat d), iv (Int32.ofNat e_), iv (Int32.ofNat x), rv b119, rv b306, iv cI, s16, s17, .unset] [])) ?_ (fun _ kk_ => XS.ifNo X_J1.here hx rfl (hb hby at_898) rfl ((if0 _ _).trans (teq (hl0 : (Int32.ofNat len) = (0 : Int32))).2) kk_)
          have g0 : len = 0 := (own_eq (n := 0) (by omega) (by decide)).mp hl0
          have ev : (0 : Int64) = (Int64.ofNat (pv W d e_ len)) := by rw [g0, pv_zero hW]; rfl
          refine Go.st (T' := T_J1) (g' := (mkF m 963 #[jv p0, .second, iv p1, iv p2, iv p3, rv b1, jv (Int64.ofNat W), .second, iv (Int32.ofNat len), iv fl, iv (Int32.ofNat d), iv (Int32.ofNat e_), iv (Int32.ofNat x), rv b119, rv b306, iv cI, jv (0 : Int64), .second, .unset] [])) ?_ (fun _ kk_ => XS.lconst X_J1.here hx rfl (hb hby at_901) (XS.lstore X_J1.here hx rfl (hb hby at_902) rfl (l' := #[jv p0, .second, iv p1, iv p2, iv p3, rv b1, jv (Int64.ofNat W), .second, iv (Int32.ofNat len), iv fl, iv (Int32.ofNat d), iv (Int32.ofNat e_), iv (Int32.ofNat x), rv b119, rv b306, iv cI, jv (0 : Int64), .second, .unset]) (by rcases hs16 with ⟨rfl, rfl⟩ | ⟨w, rfl, rfl⟩ <;> rfl) (XS.goto X_J1.here hx rfl (pc0 := 904) (pc' := 963) rfl (hb hby at_904) (by decide) (by decide) kk_)))
          rw [ev]
          show Go p e below _ T_J1 (mkF m 963 #[jv p0, .second, iv p1, iv p2, iv p3, rv b1, jv (Int64.ofNat W), .second, iv (Int32.ofNat len), iv fl, iv (Int32.ofNat d), iv (Int32.ofNat e_), iv (Int32.ofNat x), rv b119, rv b306, iv cI, jv (Int64.ofNat (pv W d e_ len)), .second, .unset] [])
          exact J2 T_J1 _ _  X_J1 e_J1 N_J1 O_J1 Z_J1 HS_J1 f_J1_1 
        ·
          refine Go.st (T' := T_J1) (g' := (mkF m 911 #[jv p0, .second, iv p1, iv p2, iv p3, rv b1, jv (Int64.ofNat W), .second, iv (Int32.ofNat len), iv fl, iv (Int32.ofNat d), iv (Int32.ofNat e_), iv (Int32.ofNat x), rv b119, rv b306, iv cI, s16, s17, .unset] [(.int (19 : Int32)), (.int (Int32.ofNat len))])) ?_ (fun _ kk_ => XS.ifYes X_J1.here hx rfl (pc0 := 898) (pc' := 907) rfl (hb hby at_898) rfl ((if0 _ _).trans (feq (hl0 : ¬ ((Int32.ofNat len) = (0 : Int32)))).2) (by decide) (by decide) (XS.iload X_J1.here hx rfl (hb hby at_907) rfl  (XS.bipush X_J1.here hx rfl (hb hby at_909) kk_)))
          by_cases hl1 : (19 : Int32) < (Int32.ofNat len)
          ·
            refine Go.st (T' := T_J1) (g' := (mkF m 930 #[jv p0, .second, iv p1, iv p2, iv p3, rv b1, jv (Int64.ofNat W), .second, iv (Int32.ofNat len), iv fl, iv (Int32.ofNat d), iv (Int32.ofNat e_), iv (Int32.ofNat x), rv b119, rv b306, iv cI, s16, s17, .unset] [])) ?_ (fun _ kk_ => XS.icmpYes X_J1.here hx rfl (pc0 := 911) (pc' := 930) rfl (hb hby at_911) rfl (tlt (hl1 : (19 : Int32) < (Int32.ofNat len))).2.2.1 (by decide) (by decide) kk_)
            have g19 : 19 < len := (own_lt (i := 19) (by decide) (by omega)).mp hl1
            refine Go.st (T' := T_J1) (g' := (mkF m 934 #[jv p0, .second, iv p1, iv p2, iv p3, rv b1, jv (Int64.ofNat W), .second, iv (Int32.ofNat len), iv fl, iv (Int32.ofNat d), iv (Int32.ofNat e_), iv (Int32.ofNat x), rv b119, rv b306, iv cI, s16, s17, .unset] [(.int (20 : Int32)), (.int (Int32.ofNat len))])) ?_ (fun _ kk_ => XS.iload X_J1.here hx rfl (hb hby at_930) rfl  (XS.bipush X_J1.here hx rfl (hb hby at_932) kk_))
            by_cases hl2 : (Int32.ofNat len) = (20 : Int32)
            ·
              refine Go.st (T' := T_J1) (g' := (mkF m 937 #[jv p0, .second, iv p1, iv p2, iv p3, rv b1, jv (Int64.ofNat W), .second, iv (Int32.ofNat len), iv fl, iv (Int32.ofNat d), iv (Int32.ofNat e_), iv (Int32.ofNat x), rv b119, rv b306, iv cI, s16, s17, .unset] [])) ?_ (fun _ kk_ => XS.icmpNo X_J1.here hx rfl (hb hby at_934) rfl (teq (hl2 : (Int32.ofNat len) = (20 : Int32))).2 kk_)
              have g20 : len = 20 := (own_eq (n := 20) (by omega) (by decide)).mp hl2
              refine Go.st (T' := T_J1) (g' := (mkF m 941 #[jv p0, .second, iv p1, iv p2, iv p3, rv b1, jv (Int64.ofNat W), .second, iv (Int32.ofNat len), iv fl, iv (Int32.ofNat d), iv (Int32.ofNat e_), iv (Int32.ofNat x), rv b119, rv b306, iv cI, s16, s17, .unset] [(.int (Int32.ofNat d)), (.long (Int64.ofNat W))])) ?_ (fun _ kk_ => XS.lload X_J1.here hx rfl (hb hby at_937) rfl  (XS.iload X_J1.here hx rfl (hb hby at_939) rfl  kk_))
              refine Go.callS (y := (⟨"com/example/stentor/stentor/core/PositiveDecimalParsePinLaw", "sat", "(JI)J"⟩ : MethodName)) X_J1 hx hZ hown (hw _ (List.mem_of_getElem? (i := 151) rfl)) (hw _ (List.mem_of_getElem? (i := 152) rfl)) (hw _ (List.mem_of_getElem? (i := 24) rfl)) (hw _ (List.mem_of_getElem? (i := 153) rfl)) (by decide) 0 (rm_sat l Z a0 hw [] W d h_J1 hW hd) e_J1 (by decide) (by decide) (by decide) (by decide) (argsL := [(.long (Int64.ofNat W)), (.int (Int32.ofNat d))]) (rest := []) rfl (by rw [hml]; rfl) (lenOf pd__28JI_29J rfl) rfl rfl (by show 2 * 0 + _ ≤ _; exact Nat.le_of_eq rfl) (hb hby at_941) ?_
              rintro _ T378 L378 X378 ⟨rfl, e378, rfl⟩
              have N379 := Fr.app N_J1 (Fr.nil _)
              show Go p e below _ T378 (mkF m 944 #[jv p0, .second, iv p1, iv p2, iv p3, rv b1, jv (Int64.ofNat W), .second, iv (Int32.ofNat len), iv fl, iv (Int32.ofNat d), iv (Int32.ofNat e_), iv (Int32.ofNat x), rv b119, rv b306, iv cI, s16, s17, .unset] [(.long (Int64.ofNat (satN W d)))])
              have ev : Int64.ofNat (satN W d) = (Int64.ofNat (pv W d e_ len)) := by rw [show pv W d e_ len = satN W d by unfold pv; rw [if_neg (by omega), if_pos g20]]
              rw [ev]
              show Go p e below _ T378 (mkF m 944 #[jv p0, .second, iv p1, iv p2, iv p3, rv b1, jv (Int64.ofNat W), .second, iv (Int32.ofNat len), iv fl, iv (Int32.ofNat d), iv (Int32.ofNat e_), iv (Int32.ofNat x), rv b119, rv b306, iv cI, s16, s17, .unset] [(.long (Int64.ofNat (pv W d e_ len)))])
              refine Go.st (T' := T378) (g' := (mkF m 963 #[jv p0, .second, iv p1, iv p2, iv p3, rv b1, jv (Int64.ofNat W), .second, iv (Int32.ofNat len), iv fl, iv (Int32.ofNat d), iv (Int32.ofNat e_), iv (Int32.ofNat x), rv b119, rv b306, iv cI, jv (Int64.ofNat (pv W d e_ len)), .second, .unset] [])) ?_ (fun _ kk_ => XS.lstore X378.here hx rfl (hb hby at_944) rfl (l' := #[jv p0, .second, iv p1, iv p2, iv p3, rv b1, jv (Int64.ofNat W), .second, iv (Int32.ofNat len), iv fl, iv (Int32.ofNat d), iv (Int32.ofNat e_), iv (Int32.ofNat x), rv b119, rv b306, iv cI, jv (Int64.ofNat (pv W d e_ len)), .second, .unset]) (by rcases hs16 with ⟨rfl, rfl⟩ | ⟨w, rfl, rfl⟩ <;> rfl) (XS.goto X378.here hx rfl (pc0 := 946) (pc' := 963) rfl (hb hby at_946) (by decide) (by decide) kk_))
              exact J2 T378 _ _  X378 e378 N379 O_J1 Z_J1 HS_J1 f_J1_1 
            ·
              refine Go.st (T' := T_J1) (g' := (mkF m 949 #[jv p0, .second, iv p1, iv p2, iv p3, rv b1, jv (Int64.ofNat W), .second, iv (Int32.ofNat len), iv fl, iv (Int32.ofNat d), iv (Int32.ofNat e_), iv (Int32.ofNat x), rv b119, rv b306, iv cI, s16, s17, .unset] [])) ?_ (fun _ kk_ => XS.icmpYes X_J1.here hx rfl (pc0 := 934) (pc' := 949) rfl (hb hby at_934) rfl (feq (hl2 : ¬ ((Int32.ofNat len) = (20 : Int32)))).2 (by decide) (by decide) kk_)
              have g20 : ¬ len = 20 := fun z => hl2 ((own_eq (n := 20) (by omega) (by decide)).mpr z)
              refine Go.st (T' := T_J1) (g' := (mkF m 953 #[jv p0, .second, iv p1, iv p2, iv p3, rv b1, jv (Int64.ofNat W), .second, iv (Int32.ofNat len), iv fl, iv (Int32.ofNat d), iv (Int32.ofNat e_), iv (Int32.ofNat x), rv b119, rv b306, iv cI, s16, s17, .unset] [(.int (Int32.ofNat d)), (.long (Int64.ofNat W))])) ?_ (fun _ kk_ => XS.lload X_J1.here hx rfl (hb hby at_949) rfl  (XS.iload X_J1.here hx rfl (hb hby at_951) rfl  kk_))
              refine Go.callS (y := (⟨"com/example/stentor/stentor/core/PositiveDecimalParsePinLaw", "sat", "(JI)J"⟩ : MethodName)) X_J1 hx hZ hown (hw _ (List.mem_of_getElem? (i := 151) rfl)) (hw _ (List.mem_of_getElem? (i := 152) rfl)) (hw _ (List.mem_of_getElem? (i := 24) rfl)) (hw _ (List.mem_of_getElem? (i := 153) rfl)) (by decide) 0 (rm_sat l Z a0 hw [] W d h_J1 hW hd) e_J1 (by decide) (by decide) (by decide) (by decide) (argsL := [(.long (Int64.ofNat W)), (.int (Int32.ofNat d))]) (rest := []) rfl (by rw [hml]; rfl) (lenOf pd__28JI_29J rfl) rfl rfl (by show 2 * 0 + _ ≤ _; exact Nat.le_of_eq rfl) (hb hby at_953) ?_
              rintro _ T380 L380 X380 ⟨rfl, e380, rfl⟩
              have N381 := Fr.app N_J1 (Fr.nil _)
              show Go p e below _ T380 (mkF m 956 #[jv p0, .second, iv p1, iv p2, iv p3, rv b1, jv (Int64.ofNat W), .second, iv (Int32.ofNat len), iv fl, iv (Int32.ofNat d), iv (Int32.ofNat e_), iv (Int32.ofNat x), rv b119, rv b306, iv cI, s16, s17, .unset] [(.long (Int64.ofNat (satN W d)))])
              refine Go.st (T' := T380) (g' := (mkF m 958 #[jv p0, .second, iv p1, iv p2, iv p3, rv b1, jv (Int64.ofNat W), .second, iv (Int32.ofNat len), iv fl, iv (Int32.ofNat d), iv (Int32.ofNat e_), iv (Int32.ofNat x), rv b119, rv b306, iv cI, s16, s17, .unset] [(.int (Int32.ofNat e_)), (.long (Int64.ofNat (satN W d)))])) ?_ (fun _ kk_ => XS.iload X380.here hx rfl (hb hby at_956) rfl  kk_)
              refine Go.callS (y := (⟨"com/example/stentor/stentor/core/PositiveDecimalParsePinLaw", "sat", "(JI)J"⟩ : MethodName)) X380 hx hZ hown (hw _ (List.mem_of_getElem? (i := 151) rfl)) (hw _ (List.mem_of_getElem? (i := 152) rfl)) (hw _ (List.mem_of_getElem? (i := 24) rfl)) (hw _ (List.mem_of_getElem? (i := 153) rfl)) (by decide) 0 (rm_sat l Z a0 hw [] (satN W d) e_ h_J1 (satN_le hd) he) e380 (by decide) (by decide) (by decide) (by decide) (argsL := [(.long (Int64.ofNat (satN W d))), (.int (Int32.ofNat e_))]) (rest := []) rfl (by rw [hml]; rfl) (lenOf pd__28JI_29J rfl) rfl rfl (by show 2 * 0 + _ ≤ _; exact Nat.le_of_eq rfl) (hb hby at_958) ?_
              rintro _ T382 L382 X382 ⟨rfl, e382, rfl⟩
              have N383 := Fr.app N381 (Fr.nil _)
              show Go p e below _ T382 (mkF m 961 #[jv p0, .second, iv p1, iv p2, iv p3, rv b1, jv (Int64.ofNat W), .second, iv (Int32.ofNat len), iv fl, iv (Int32.ofNat d), iv (Int32.ofNat e_), iv (Int32.ofNat x), rv b119, rv b306, iv cI, s16, s17, .unset] [(.long (Int64.ofNat (satN (satN W d) e_)))])
              have ev : Int64.ofNat (satN (satN W d) e_) = (Int64.ofNat (pv W d e_ len)) := by rw [show pv W d e_ len = satN (satN W d) e_ by unfold pv; rw [if_neg (by omega), if_neg g20]]
              rw [ev]
              show Go p e below _ T382 (mkF m 961 #[jv p0, .second, iv p1, iv p2, iv p3, rv b1, jv (Int64.ofNat W), .second, iv (Int32.ofNat len), iv fl, iv (Int32.ofNat d), iv (Int32.ofNat e_), iv (Int32.ofNat x), rv b119, rv b306, iv cI, s16, s17, .unset] [(.long (Int64.ofNat (pv W d e_ len)))])
              refine Go.st (T' := T382) (g' := (mkF m 963 #[jv p0, .second, iv p1, iv p2, iv p3, rv b1, jv (Int64.ofNat W), .second, iv (Int32.ofNat len), iv fl, iv (Int32.ofNat d), iv (Int32.ofNat e_), iv (Int32.ofNat x), rv b119, rv b306, iv cI, jv (Int64.ofNat (pv W d e_ len)), .second, .unset] [])) ?_ (fun _ kk_ => XS.lstore X382.here hx rfl (hb hby at_961) rfl (l' := #[jv p0, .second, iv p1, iv p2, iv p3, rv b1, jv (Int64.ofNat W), .second, iv (Int32.ofNat len), iv fl, iv (Int32.ofNat d), iv (Int32.ofNat e_), iv (Int32.ofNat x), rv b119, rv b306, iv cI, jv (Int64.ofNat (pv W d e_ len)), .second, .unset]) (by rcases hs16 with ⟨rfl, rfl⟩ | ⟨w, rfl, rfl⟩ <;> rfl) kk_)
              exact J2 T382 _ _  X382 e382 N383 O_J1 Z_J1 HS_J1 f_J1_1 
          ·
            refine Go.st (T' := T_J1) (g' := (mkF m 914 #[jv p0, .second, iv p1, iv p2, iv p3, rv b1, jv (Int64.ofNat W), .second, iv (Int32.ofNat len), iv fl, iv (Int32.ofNat d), iv (Int32.ofNat e_), iv (Int32.ofNat x), rv b119, rv b306, iv cI, s16, s17, .unset] [])) ?_ (fun _ kk_ => XS.icmpNo X_J1.here hx rfl (hb hby at_911) rfl (flt (hl1 : ¬ ((19 : Int32) < (Int32.ofNat len)))).2.2.1 kk_)
            have g19 : ¬ 19 < len := fun z => hl1 ((own_lt (i := 19) (by decide) (by omega)).mpr z)
            have g0 : ¬ len = 0 := fun z => hl0 ((own_eq (n := 0) (by omega) (by decide)).mpr z)
            refine Go.st (T' := T_J1) (g' := (mkF m 923 #[jv p0, .second, iv p1, iv p2, iv p3, rv b1, jv (Int64.ofNat W), .second, iv (Int32.ofNat len), iv fl, iv (Int32.ofNat d), iv (Int32.ofNat e_), iv (Int32.ofNat x), rv b119, rv b306, iv cI, s16, s17, .unset] [(.int ((19 : Int32) - (Int32.ofNat len))), (.ref b1), (.long (Int64.ofNat W))])) ?_ (fun _ kk_ => XS.lload X_J1.here hx rfl (hb hby at_914) rfl  (XS.aload X_J1.here hx rfl (hb hby at_916) rfl rfl  (XS.bipush X_J1.here hx rfl (hb hby at_918) (XS.iload X_J1.here hx rfl (hb hby at_920) rfl  (XS.isub X_J1.here hx rfl (hb hby at_922) rfl kk_)))))
            rw [show (19 : Int32) - Int32.ofNat len = Int32.ofNat (19 - len) from own_sub (i := 19) (by omega)]
            show Go p e below _ T_J1 (mkF m 923 #[jv p0, .second, iv p1, iv p2, iv p3, rv b1, jv (Int64.ofNat W), .second, iv (Int32.ofNat len), iv fl, iv (Int32.ofNat d), iv (Int32.ofNat e_), iv (Int32.ofNat x), rv b119, rv b306, iv cI, s16, s17, .unset] [(.int (Int32.ofNat (19 - len))), (.ref b1), (.long (Int64.ofNat W))])
            refine Go.st (T' := T_J1) (g' := (mkF m 924 #[jv p0, .second, iv p1, iv p2, iv p3, rv b1, jv (Int64.ofNat W), .second, iv (Int32.ofNat len), iv fl, iv (Int32.ofNat d), iv (Int32.ofNat e_), iv (Int32.ofNat x), rv b119, rv b306, iv cI, s16, s17, .unset] [(.long (Int64.ofNat (10 ^ (19 - len)))), (.long (Int64.ofNat W))])) ?_ (fun _ kk_ => own_laload X_J1 hx hZ e_J1 f_J1_0 (i := (19 - len)) (v := (.long (Int64.ofNat (10 ^ (19 - len))))) (own_pw (by omega)) rfl rfl rfl (hb hby at_923) kk_)
            have hp10 := own_p10 (k := 19 - len) (by omega)
            refine Go.st (T' := T_J1) (g' := (mkF m 925 #[jv p0, .second, iv p1, iv p2, iv p3, rv b1, jv (Int64.ofNat W), .second, iv (Int32.ofNat len), iv fl, iv (Int32.ofNat d), iv (Int32.ofNat e_), iv (Int32.ofNat x), rv b119, rv b306, iv cI, s16, s17, .unset] [(.long ((Int64.ofNat W) / (Int64.ofNat (10 ^ (19 - len)))))])) ?_ (fun _ kk_ => XS.ldiv X_J1.here hx rfl (hb hby at_924) rfl (fun z => by have := (own_leq (b := 0) hp10.2 (by decide)).mp z; omega) kk_)
            have ev : (Int64.ofNat W) / (Int64.ofNat (10 ^ (19 - len))) = (Int64.ofNat (pv W d e_ len)) := by rw [own_ldiv hW2 hp10.2, show pv W d e_ len = W / 10 ^ (19 - len) by unfold pv; rw [if_pos (by omega)]]
            rw [ev]
            show Go p e below _ T_J1 (mkF m 925 #[jv p0, .second, iv p1, iv p2, iv p3, rv b1, jv (Int64.ofNat W), .second, iv (Int32.ofNat len), iv fl, iv (Int32.ofNat d), iv (Int32.ofNat e_), iv (Int32.ofNat x), rv b119, rv b306, iv cI, s16, s17, .unset] [(.long (Int64.ofNat (pv W d e_ len)))])
            refine Go.st (T' := T_J1) (g' := (mkF m 963 #[jv p0, .second, iv p1, iv p2, iv p3, rv b1, jv (Int64.ofNat W), .second, iv (Int32.ofNat len), iv fl, iv (Int32.ofNat d), iv (Int32.ofNat e_), iv (Int32.ofNat x), rv b119, rv b306, iv cI, jv (Int64.ofNat (pv W d e_ len)), .second, .unset] [])) ?_ (fun _ kk_ => XS.lstore X_J1.here hx rfl (hb hby at_925) rfl (l' := #[jv p0, .second, iv p1, iv p2, iv p3, rv b1, jv (Int64.ofNat W), .second, iv (Int32.ofNat len), iv fl, iv (Int32.ofNat d), iv (Int32.ofNat e_), iv (Int32.ofNat x), rv b119, rv b306, iv cI, jv (Int64.ofNat (pv W d e_ len)), .second, .unset]) (by rcases hs16 with ⟨rfl, rfl⟩ | ⟨w, rfl, rfl⟩ <;> rfl) (XS.goto X_J1.here hx rfl (pc0 := 927) (pc' := 963) rfl (hb hby at_927) (by decide) (by decide) kk_))
            exact J2 T_J1 _ _  X_J1 e_J1 N_J1 O_J1 Z_J1 HS_J1 f_J1_1 
      refine Go.st (T' := T_c21) (g' := (mkF m 840 #[jv p0, .second, iv p1, iv p2, iv p3, rv b1, jv (Int64.ofNat W), .second, iv (Int32.ofNat len), iv fl, iv (Int32.ofNat d), iv (Int32.ofNat e_), iv (Int32.ofNat x), rv b119, rv b306, iv (0 : Int32), .unset, .unset, .unset] [(.int fl)])) ?_ (fun _ kk_ => XS.iload X_c21.here hx rfl (hb hby at_838) rfl  kk_)
      by_cases hf0 : fl = (0 : Int32)
      ·
        refine Go.st (T' := T_c21) (g' := (mkF m 896 #[jv p0, .second, iv p1, iv p2, iv p3, rv b1, jv (Int64.ofNat W), .second, iv (Int32.ofNat len), iv fl, iv (Int32.ofNat d), iv (Int32.ofNat e_), iv (Int32.ofNat x), rv b119, rv b306, iv (0 : Int32), .unset, .unset, .unset] [])) ?_ (fun _ kk_ => XS.ifYes X_c21.here hx rfl (pc0 := 840) (pc' := 896) rfl (hb hby at_840) rfl ((if0 _ _).trans (teq (hf0 : fl = (0 : Int32))).1) (by decide) (by decide) kk_)
        exact J1 T_c21 _ _ (0 : Int32) (fc W d e_) len _ _ X_c21 e_c21 N_c21 O_c21 Z_c21 HS_c21 f_c21_0 V3_ (fun q _ => by have := fc_dig (w := W) hd he q; omega) (fun q _ _ => by have := fc_dig (w := W) hd he q; omega) (Nat.le_refl _) (fun q _ => rfl) (fun z => absurd z (Nat.lt_irrefl _)) (Or.inl ⟨rfl, rfl⟩) (Or.inl ⟨rfl, rfl⟩)
      ·
        refine Go.st (T' := T_c21) (g' := (mkF m 845 #[jv p0, .second, iv p1, iv p2, iv p3, rv b1, jv (Int64.ofNat W), .second, iv (Int32.ofNat len), iv fl, iv (Int32.ofNat d), iv (Int32.ofNat e_), iv (Int32.ofNat x), rv b119, rv b306, iv (0 : Int32), .unset, .unset, .unset] [(.int (Int32.ofNat len))])) ?_ (fun _ kk_ => XS.ifNo X_c21.here hx rfl (hb hby at_840) rfl ((if0 _ _).trans (feq (hf0 : ¬ (fl = (0 : Int32)))).1) (XS.iload X_c21.here hx rfl (hb hby at_843) rfl  kk_))
        by_cases hl0 : (0 : Int32) < (Int32.ofNat len)
        ·
          refine Go.st (T' := T_c21) (g' := (mkF m 848 #[jv p0, .second, iv p1, iv p2, iv p3, rv b1, jv (Int64.ofNat W), .second, iv (Int32.ofNat len), iv fl, iv (Int32.ofNat d), iv (Int32.ofNat e_), iv (Int32.ofNat x), rv b119, rv b306, iv (0 : Int32), .unset, .unset, .unset] [])) ?_ (fun _ kk_ => XS.ifNo X_c21.here hx rfl (hb hby at_845) rfl ((if0 _ _).trans (tlt (hl0 : (0 : Int32) < (Int32.ofNat len))).2.2.2) kk_)
          have hl1 : 0 < len := (own_lt (i := 0) (by decide) (by omega)).mp hl0
          refine Go.st (T' := T_c21) (g' := (mkF m 858 #[jv p0, .second, iv p1, iv p2, iv p3, rv b1, jv (Int64.ofNat W), .second, iv (Int32.ofNat len), iv fl, iv (Int32.ofNat d), iv (Int32.ofNat e_), iv (Int32.ofNat x), rv b119, rv b306, iv (0 : Int32), .unset, .unset, .unset] [(.int ((((p1.toUInt32 >>> ((6 : Int32) &&& 31).toUInt32).toInt32) &&& (31 : Int32)) % (Int32.ofNat len)))])) ?_ (fun _ kk_ => XS.iloadN X_c21.here hx rfl (hb hby at_848) rfl  (XS.bipush X_c21.here hx rfl (hb hby at_849) (XS.iushr X_c21.here hx rfl (hb hby at_851) rfl (XS.bipush X_c21.here hx rfl (hb hby at_852) (XS.iand X_c21.here hx rfl (hb hby at_854) rfl (XS.iload X_c21.here hx rfl (hb hby at_855) rfl  (iremM X_c21 hx rfl (hb hby at_857) rfl (fun z => by have := (own_eq (i := len) (n := 0) (by omega) (by decide)).mp z; omega) kk_)))))))
          obtain ⟨pp, hpp, e_pp⟩ := own_am ((p1.toUInt32 >>> ((6 : Int32) &&& 31).toUInt32).toInt32) (31 : Int32) (by decide) len hl1 (by omega)
          rw [e_pp]
          show Go p e below _ T_c21 (mkF m 858 #[jv p0, .second, iv p1, iv p2, iv p3, rv b1, jv (Int64.ofNat W), .second, iv (Int32.ofNat len), iv fl, iv (Int32.ofNat d), iv (Int32.ofNat e_), iv (Int32.ofNat x), rv b119, rv b306, iv (0 : Int32), .unset, .unset, .unset] [(.int (Int32.ofNat pp))])
          refine Go.st (T' := T_c21) (g' := (mkF m 864 #[jv p0, .second, iv p1, iv p2, iv p3, rv b1, jv (Int64.ofNat W), .second, iv (Int32.ofNat len), iv fl, iv (Int32.ofNat d), iv (Int32.ofNat e_), iv (Int32.ofNat x), rv b119, rv b306, iv (0 : Int32), iv (Int32.ofNat pp), .unset, .unset] [(.int (48 : Int32)), (.int (Int32.ofNat x))])) ?_ (fun _ kk_ => XS.istore X_c21.here hx rfl (hb hby at_858) rfl (l' := #[jv p0, .second, iv p1, iv p2, iv p3, rv b1, jv (Int64.ofNat W), .second, iv (Int32.ofNat len), iv fl, iv (Int32.ofNat d), iv (Int32.ofNat e_), iv (Int32.ofNat x), rv b119, rv b306, iv (0 : Int32), iv (Int32.ofNat pp), .unset, .unset]) rfl (XS.iload X_c21.here hx rfl (hb hby at_860) rfl  (XS.bipush X_c21.here hx rfl (hb hby at_862) kk_)))
          by_cases h48 : (Int32.ofNat x) < (48 : Int32)
          ·
            refine Go.st (T' := T_c21) (g' := (mkF m 878 #[jv p0, .second, iv p1, iv p2, iv p3, rv b1, jv (Int64.ofNat W), .second, iv (Int32.ofNat len), iv fl, iv (Int32.ofNat d), iv (Int32.ofNat e_), iv (Int32.ofNat x), rv b119, rv b306, iv (0 : Int32), iv (Int32.ofNat pp), .unset, .unset] [])) ?_ (fun _ kk_ => XS.icmpYes X_c21.here hx rfl (pc0 := 864) (pc' := 878) rfl (hb hby at_864) rfl (tlt (h48 : (Int32.ofNat x) < (48 : Int32))).1 (by decide) (by decide) kk_)
            have g48 : x < 48 := (own_lt (n := 48) (by omega) (by decide)).mp h48
            refine Go.st (T' := T_c21) (g' := (mkF m 892 #[jv p0, .second, iv p1, iv p2, iv p3, rv b1, jv (Int64.ofNat W), .second, iv (Int32.ofNat len), iv fl, iv (Int32.ofNat d), iv (Int32.ofNat e_), iv (Int32.ofNat x), rv b119, rv b306, iv (0 : Int32), iv (Int32.ofNat pp), iv (0 : Int32), .unset] [(.int (Int32.ofNat x)), (.int (Int32.ofNat pp)), (.ref b306)])) ?_ (fun _ kk_ => XS.iconst X_c21.here hx rfl (hb hby at_878) (XS.istore X_c21.here hx rfl (hb hby at_879) rfl (l' := #[jv p0, .second, iv p1, iv p2, iv p3, rv b1, jv (Int64.ofNat W), .second, iv (Int32.ofNat len), iv fl, iv (Int32.ofNat d), iv (Int32.ofNat e_), iv (Int32.ofNat x), rv b119, rv b306, iv (0 : Int32), iv (Int32.ofNat pp), iv (0 : Int32), .unset]) rfl (XS.iload X_c21.here hx rfl (hb hby at_881) rfl  (XS.ifNo X_c21.here hx rfl (hb hby at_883) rfl ((if0 _ _).trans (teq ((by decide) : (0 : Int32) = (0 : Int32))).2) (XS.aload X_c21.here hx rfl (hb hby at_886) rfl rfl  (XS.iload X_c21.here hx rfl (hb hby at_888) rfl  (XS.iload X_c21.here hx rfl (hb hby at_890) rfl  kk_)))))))
            refine Go.castore X_c21 hx hZ e_c21 V3_ (y := (Int32.ofNat x)) (own_sto16 hx_) (i := pp) (by rw [IL_len]; exact hpp) rfl rfl rfl (hb hby at_892) ?_
            intro T384 h384 X384 e384 W384 V384
            have N385 := Fr.snoc X384 N_c21 g_b306
            have HS386 := HS.wr HS_c21 W384 (own_arySafe hZ.alike V3_ (by decide))
            have O387 := O_c21.wr W384 g_b306
            have Z388 : n0 ≤ h384.size := by rw [W384.size]; exact Z_c21
            show Go p e below _ T384 (mkF m 893 #[jv p0, .second, iv p1, iv p2, iv p3, rv b1, jv (Int64.ofNat W), .second, iv (Int32.ofNat len), iv fl, iv (Int32.ofNat d), iv (Int32.ofNat e_), iv (Int32.ofNat x), rv b119, rv b306, iv (0 : Int32), iv (Int32.ofNat pp), iv (0 : Int32), .unset] [])
            rw [IL_set hpp, cor_IL] at V384
            refine Go.st (T' := T384) (g' := (mkF m 896 #[jv p0, .second, iv p1, iv p2, iv p3, rv b1, jv (Int64.ofNat W), .second, iv (Int32.ofNat len), iv fl, iv (Int32.ofNat d), iv (Int32.ofNat e_), iv (Int32.ofNat x), rv b119, rv b306, iv (1 : Int32), iv (Int32.ofNat pp), iv (0 : Int32), .unset] [])) ?_ (fun _ kk_ => XS.iconst X384.here hx rfl (hb hby at_893) (XS.istore X384.here hx rfl (hb hby at_894) rfl (l' := #[jv p0, .second, iv p1, iv p2, iv p3, rv b1, jv (Int64.ofNat W), .second, iv (Int32.ofNat len), iv fl, iv (Int32.ofNat d), iv (Int32.ofNat e_), iv (Int32.ofNat x), rv b119, rv b306, iv (1 : Int32), iv (Int32.ofNat pp), iv (0 : Int32), .unset]) rfl kk_))
            have f389 := (f_c21_0.other W384 ne_b1_b306)
            exact J1 T384 _ _ (1 : Int32) (cor W d e_ pp x) pp _ _ X384 e384 N385 O387 Z388 HS386 f389 V384 (fun q _ => by have := fc_dig (w := W) hd he q; unfold cor; split <;> omega) (fun q _ hq => by have := fc_dig (w := W) hd he q; unfold cor; rw [if_neg hq]; omega) (by omega) (fun q hq => by unfold cor; rw [if_neg (by omega)]) (fun _ => by unfold cor; rw [if_pos rfl]; omega) (Or.inr ⟨rfl, hpp⟩) (Or.inr ⟨(Int32.ofNat pp, (0 : Int32)), rfl, rfl⟩)
          ·
            refine Go.st (T' := T_c21) (g' := (mkF m 867 #[jv p0, .second, iv p1, iv p2, iv p3, rv b1, jv (Int64.ofNat W), .second, iv (Int32.ofNat len), iv fl, iv (Int32.ofNat d), iv (Int32.ofNat e_), iv (Int32.ofNat x), rv b119, rv b306, iv (0 : Int32), iv (Int32.ofNat pp), .unset, .unset] [])) ?_ (fun _ kk_ => XS.icmpNo X_c21.here hx rfl (hb hby at_864) rfl (flt (h48 : ¬ ((Int32.ofNat x) < (48 : Int32)))).1 kk_)
            have g48 : ¬ x < 48 := fun z => h48 ((own_lt (n := 48) (by omega) (by decide)).mpr z)
            refine Go.st (T' := T_c21) (g' := (mkF m 871 #[jv p0, .second, iv p1, iv p2, iv p3, rv b1, jv (Int64.ofNat W), .second, iv (Int32.ofNat len), iv fl, iv (Int32.ofNat d), iv (Int32.ofNat e_), iv (Int32.ofNat x), rv b119, rv b306, iv (0 : Int32), iv (Int32.ofNat pp), .unset, .unset] [(.int (57 : Int32)), (.int (Int32.ofNat x))])) ?_ (fun _ kk_ => XS.iload X_c21.here hx rfl (hb hby at_867) rfl  (XS.bipush X_c21.here hx rfl (hb hby at_869) kk_))
            by_cases h57 : (57 : Int32) < (Int32.ofNat x)
            ·
              refine Go.st (T' := T_c21) (g' := (mkF m 878 #[jv p0, .second, iv p1, iv p2, iv p3, rv b1, jv (Int64.ofNat W), .second, iv (Int32.ofNat len), iv fl, iv (Int32.ofNat d), iv (Int32.ofNat e_), iv (Int32.ofNat x), rv b119, rv b306, iv (0 : Int32), iv (Int32.ofNat pp), .unset, .unset] [])) ?_ (fun _ kk_ => XS.icmpYes X_c21.here hx rfl (pc0 := 871) (pc' := 878) rfl (hb hby at_871) rfl (tlt (h57 : (57 : Int32) < (Int32.ofNat x))).2.2.1 (by decide) (by decide) kk_)
              have g57 : 57 < x := (own_lt (i := 57) (by decide) (by omega)).mp h57
              refine Go.st (T' := T_c21) (g' := (mkF m 892 #[jv p0, .second, iv p1, iv p2, iv p3, rv b1, jv (Int64.ofNat W), .second, iv (Int32.ofNat len), iv fl, iv (Int32.ofNat d), iv (Int32.ofNat e_), iv (Int32.ofNat x), rv b119, rv b306, iv (0 : Int32), iv (Int32.ofNat pp), iv (0 : Int32), .unset] [(.int (Int32.ofNat x)), (.int (Int32.ofNat pp)), (.ref b306)])) ?_ (fun _ kk_ => XS.iconst X_c21.here hx rfl (hb hby at_878) (XS.istore X_c21.here hx rfl (hb hby at_879) rfl (l' := #[jv p0, .second, iv p1, iv p2, iv p3, rv b1, jv (Int64.ofNat W), .second, iv (Int32.ofNat len), iv fl, iv (Int32.ofNat d), iv (Int32.ofNat e_), iv (Int32.ofNat x), rv b119, rv b306, iv (0 : Int32), iv (Int32.ofNat pp), iv (0 : Int32), .unset]) rfl (XS.iload X_c21.here hx rfl (hb hby at_881) rfl  (XS.ifNo X_c21.here hx rfl (hb hby at_883) rfl ((if0 _ _).trans (teq ((by decide) : (0 : Int32) = (0 : Int32))).2) (XS.aload X_c21.here hx rfl (hb hby at_886) rfl rfl  (XS.iload X_c21.here hx rfl (hb hby at_888) rfl  (XS.iload X_c21.here hx rfl (hb hby at_890) rfl  kk_)))))))
              refine Go.castore X_c21 hx hZ e_c21 V3_ (y := (Int32.ofNat x)) (own_sto16 hx_) (i := pp) (by rw [IL_len]; exact hpp) rfl rfl rfl (hb hby at_892) ?_
              intro T390 h390 X390 e390 W390 V390
              have N391 := Fr.snoc X390 N_c21 g_b306
              have HS392 := HS.wr HS_c21 W390 (own_arySafe hZ.alike V3_ (by decide))
              have O393 := O_c21.wr W390 g_b306
              have Z394 : n0 ≤ h390.size := by rw [W390.size]; exact Z_c21
              show Go p e below _ T390 (mkF m 893 #[jv p0, .second, iv p1, iv p2, iv p3, rv b1, jv (Int64.ofNat W), .second, iv (Int32.ofNat len), iv fl, iv (Int32.ofNat d), iv (Int32.ofNat e_), iv (Int32.ofNat x), rv b119, rv b306, iv (0 : Int32), iv (Int32.ofNat pp), iv (0 : Int32), .unset] [])
              rw [IL_set hpp, cor_IL] at V390
              refine Go.st (T' := T390) (g' := (mkF m 896 #[jv p0, .second, iv p1, iv p2, iv p3, rv b1, jv (Int64.ofNat W), .second, iv (Int32.ofNat len), iv fl, iv (Int32.ofNat d), iv (Int32.ofNat e_), iv (Int32.ofNat x), rv b119, rv b306, iv (1 : Int32), iv (Int32.ofNat pp), iv (0 : Int32), .unset] [])) ?_ (fun _ kk_ => XS.iconst X390.here hx rfl (hb hby at_893) (XS.istore X390.here hx rfl (hb hby at_894) rfl (l' := #[jv p0, .second, iv p1, iv p2, iv p3, rv b1, jv (Int64.ofNat W), .second, iv (Int32.ofNat len), iv fl, iv (Int32.ofNat d), iv (Int32.ofNat e_), iv (Int32.ofNat x), rv b119, rv b306, iv (1 : Int32), iv (Int32.ofNat pp), iv (0 : Int32), .unset]) rfl kk_))
              have f395 := (f_c21_0.other W390 ne_b1_b306)
              exact J1 T390 _ _ (1 : Int32) (cor W d e_ pp x) pp _ _ X390 e390 N391 O393 Z394 HS392 f395 V390 (fun q _ => by have := fc_dig (w := W) hd he q; unfold cor; split <;> omega) (fun q _ hq => by have := fc_dig (w := W) hd he q; unfold cor; rw [if_neg hq]; omega) (by omega) (fun q hq => by unfold cor; rw [if_neg (by omega)]) (fun _ => by unfold cor; rw [if_pos rfl]; omega) (Or.inr ⟨rfl, hpp⟩) (Or.inr ⟨(Int32.ofNat pp, (0 : Int32)), rfl, rfl⟩)
            ·
              refine Go.st (T' := T_c21) (g' := (mkF m 896 #[jv p0, .second, iv p1, iv p2, iv p3, rv b1, jv (Int64.ofNat W), .second, iv (Int32.ofNat len), iv fl, iv (Int32.ofNat d), iv (Int32.ofNat e_), iv (Int32.ofNat x), rv b119, rv b306, iv (0 : Int32), iv (Int32.ofNat pp), iv (1 : Int32), .unset] [])) ?_ (fun _ kk_ => XS.icmpNo X_c21.here hx rfl (hb hby at_871) rfl (flt (h57 : ¬ ((57 : Int32) < (Int32.ofNat x)))).2.2.1 (XS.iconst X_c21.here hx rfl (hb hby at_874) (XS.goto X_c21.here hx rfl (pc0 := 875) (pc' := 879) rfl (hb hby at_875) (by decide) (by decide) (XS.istore X_c21.here hx rfl (hb hby at_879) rfl (l' := #[jv p0, .second, iv p1, iv p2, iv p3, rv b1, jv (Int64.ofNat W), .second, iv (Int32.ofNat len), iv fl, iv (Int32.ofNat d), iv (Int32.ofNat e_), iv (Int32.ofNat x), rv b119, rv b306, iv (0 : Int32), iv (Int32.ofNat pp), iv (1 : Int32), .unset]) rfl (XS.iload X_c21.here hx rfl (hb hby at_881) rfl  (XS.ifYes X_c21.here hx rfl (pc0 := 883) (pc' := 896) rfl (hb hby at_883) rfl ((if0 _ _).trans (feq ((by decide) : ¬ ((1 : Int32) = (0 : Int32)))).2) (by decide) (by decide) kk_))))))
              exact J1 T_c21 _ _ (0 : Int32) (fc W d e_) len _ _ X_c21 e_c21 N_c21 O_c21 Z_c21 HS_c21 f_c21_0 V3_ (fun q _ => by have := fc_dig (w := W) hd he q; omega) (fun q _ _ => by have := fc_dig (w := W) hd he q; omega) (Nat.le_refl _) (fun q _ => rfl) (fun z => absurd z (Nat.lt_irrefl _)) (Or.inl ⟨rfl, rfl⟩) (Or.inr ⟨(Int32.ofNat pp, (1 : Int32)), rfl, rfl⟩)
        ·
          refine Go.st (T' := T_c21) (g' := (mkF m 896 #[jv p0, .second, iv p1, iv p2, iv p3, rv b1, jv (Int64.ofNat W), .second, iv (Int32.ofNat len), iv fl, iv (Int32.ofNat d), iv (Int32.ofNat e_), iv (Int32.ofNat x), rv b119, rv b306, iv (0 : Int32), .unset, .unset, .unset] [])) ?_ (fun _ kk_ => XS.ifYes X_c21.here hx rfl (pc0 := 845) (pc' := 896) rfl (hb hby at_845) rfl ((if0 _ _).trans (flt (hl0 : ¬ ((0 : Int32) < (Int32.ofNat len)))).2.2.2) (by decide) (by decide) kk_)
          exact J1 T_c21 _ _ (0 : Int32) (fc W d e_) len _ _ X_c21 e_c21 N_c21 O_c21 Z_c21 HS_c21 f_c21_0 V3_ (fun q _ => by have := fc_dig (w := W) hd he q; omega) (fun q _ _ => by have := fc_dig (w := W) hd he q; omega) (Nat.le_refl _) (fun q _ => rfl) (fun z => absurd z (Nat.lt_irrefl _)) (Or.inl ⟨rfl, rfl⟩) (Or.inl ⟨rfl, rfl⟩)
    have c20 : ∀ (T_c20 : State) (h_c20 : Heap) (lo_c20 : List Loc) , Stand p l e room_1 (s.setVm s.vm) m #[(.long p0), (.int p1), (.int p2), (.int p3)] below meth c T_c20 lo_c20 3 61 → T_c20.heap = h_c20 → Fr n0 lo_c20 → Old Z n0 h_c20 → n0 ≤ h_c20.size → HS Z consts_1 s s.heap s.vm h_c20 → Ary Z h_c20 b1 .long PWL → Ary Z h_c20 b119 .char (IL 21 (fun q => Int32.ofNat (fc W d e_ q))) → Ary Z h_c20 b306 .char (IL len (fun q => if q < 20 then Int32.ofNat (fc W d e_ q) else 0)) → Go p e below (WfH Z consts_1 s room_1.cells room_1.slots (fun v h L => v = some (.int (1 : Int32)) ∧ Fr n0 L)) T_c20 (mkF m 818 #[jv p0, .second, iv p1, iv p2, iv p3, rv b1, jv (Int64.ofNat W), .second, iv (Int32.ofNat len), iv fl, iv (Int32.ofNat d), iv (Int32.ofNat e_), iv (Int32.ofNat x), rv b119, rv b306, .unset, .unset, .unset, .unset] []) := by
      intro T_c20 h_c20 lo_c20  X_c20 e_c20 N_c20 O_c20 Z_c20 HS_c20 f_c20_0 f_c20_1 f_c20_2
      refine Go.st (T' := T_c20) (g' := (mkF m 822 #[jv p0, .second, iv p1, iv p2, iv p3, rv b1, jv (Int64.ofNat W), .second, iv (Int32.ofNat len), iv fl, iv (Int32.ofNat d), iv (Int32.ofNat e_), iv (Int32.ofNat x), rv b119, rv b306, .unset, .unset, .unset, .unset] [(.int (20 : Int32)), (.int (Int32.ofNat len))])) ?_ (fun _ kk_ => XS.iload X_c20.here hx rfl (hb hby at_818) rfl  (XS.bipush X_c20.here hx rfl (hb hby at_820) kk_))
      by_cases hl : (20 : Int32) < (Int32.ofNat len)
      ·
        refine Go.st (T' := T_c20) (g' := (mkF m 825 #[jv p0, .second, iv p1, iv p2, iv p3, rv b1, jv (Int64.ofNat W), .second, iv (Int32.ofNat len), iv fl, iv (Int32.ofNat d), iv (Int32.ofNat e_), iv (Int32.ofNat x), rv b119, rv b306, .unset, .unset, .unset, .unset] [])) ?_ (fun _ kk_ => XS.icmpNo X_c20.here hx rfl (hb hby at_822) rfl (tlt (hl : (20 : Int32) < (Int32.ofNat len))).2.2.2 kk_)
        have hlt : 20 < len := (own_lt (i := 20) (by decide) (by omega)).mp hl
        refine Go.st (T' := T_c20) (g' := (mkF m 834 #[jv p0, .second, iv p1, iv p2, iv p3, rv b1, jv (Int64.ofNat W), .second, iv (Int32.ofNat len), iv fl, iv (Int32.ofNat d), iv (Int32.ofNat e_), iv (Int32.ofNat x), rv b119, rv b306, .unset, .unset, .unset, .unset] [(.int (Int32.ofNat (fc W d e_ 20))), (.int (20 : Int32)), (.ref b306)])) ?_ (fun _ kk_ => XS.aload X_c20.here hx rfl (hb hby at_825) rfl rfl  (XS.bipush X_c20.here hx rfl (hb hby at_827) (XS.aload X_c20.here hx rfl (hb hby at_829) rfl rfl  (XS.bipush X_c20.here hx rfl (hb hby at_831) (own_caload X_c20 hx hZ e_c20 f_c20_1 (i := 20) (v := (.int (Int32.ofNat (fc W d e_ 20)))) (IL_at (by decide)) rfl rfl rfl (hb hby at_833) kk_)))))
        refine Go.castore X_c20 hx hZ e_c20 f_c20_2 (y := (Int32.ofNat (fc W d e_ 20))) (ch_sto _ (by have := fc_dig (w := W) hd he 20; omega)) (i := 20) (by rw [IL_len]; exact hlt) rfl rfl rfl (hb hby at_834) ?_
        intro T396 h396 X396 e396 W396 V396
        have N397 := Fr.snoc X396 N_c20 g_b306
        have HS398 := HS.wr HS_c20 W396 (own_arySafe hZ.alike f_c20_2 (by decide))
        have O399 := O_c20.wr W396 g_b306
        have Z400 : n0 ≤ h396.size := by rw [W396.size]; exact Z_c20
        show Go p e below _ T396 (mkF m 835 #[jv p0, .second, iv p1, iv p2, iv p3, rv b1, jv (Int64.ofNat W), .second, iv (Int32.ofNat len), iv fl, iv (Int32.ofNat d), iv (Int32.ofNat e_), iv (Int32.ofNat x), rv b119, rv b306, .unset, .unset, .unset, .unset] [])
        rw [IL_set hlt] at V396
        have f401 := (f_c20_0.other W396 ne_b1_b306)
        have f402 := (f_c20_1.other W396 ne_b119_b306)
        exact c21 T396 _ _  X396 e396 N397 O399 Z400 HS398 f401 f402 (IL_congr (f := fun q => if q = 20 then Int32.ofNat (fc W d e_ 20) else if q < 20 then Int32.ofNat (fc W d e_ q) else 0) (f' := (fun q => if q < 21 then Int32.ofNat (fc W d e_ q) else 0)) (fun q hq => own_fill (fun q => Int32.ofNat (fc W d e_ q)) 20 q) ▸ V396) 
      ·
        refine Go.st (T' := T_c20) (g' := (mkF m 835 #[jv p0, .second, iv p1, iv p2, iv p3, rv b1, jv (Int64.ofNat W), .second, iv (Int32.ofNat len), iv fl, iv (Int32.ofNat d), iv (Int32.ofNat e_), iv (Int32.ofNat x), rv b119, rv b306, .unset, .unset, .unset, .unset] [])) ?_ (fun _ kk_ => XS.icmpYes X_c20.here hx rfl (pc0 := 822) (pc' := 835) rfl (hb hby at_822) rfl (flt (hl : ¬ ((20 : Int32) < (Int32.ofNat len)))).2.2.2 (by decide) (by decide) kk_)
        have hge : ¬ 20 < len := fun z => hl ((own_lt (i := 20) (by decide) (by omega)).mpr z)
        exact c21 T_c20 _ _  X_c20 e_c20 N_c20 O_c20 Z_c20 HS_c20 f_c20_0 f_c20_1 (IL_congr (n := len) (f := (fun q => if q < 20 then Int32.ofNat (fc W d e_ q) else 0)) (f' := (fun q => if q < 21 then Int32.ofNat (fc W d e_ q) else 0)) (fun q hq => by rw [if_pos (by omega), if_pos (by omega)]) ▸ f_c20_2) 
    have c19 : ∀ (T_c19 : State) (h_c19 : Heap) (lo_c19 : List Loc) , Stand p l e room_1 (s.setVm s.vm) m #[(.long p0), (.int p1), (.int p2), (.int p3)] below meth c T_c19 lo_c19 3 61 → T_c19.heap = h_c19 → Fr n0 lo_c19 → Old Z n0 h_c19 → n0 ≤ h_c19.size → HS Z consts_1 s s.heap s.vm h_c19 → Ary Z h_c19 b1 .long PWL → Ary Z h_c19 b119 .char (IL 21 (fun q => Int32.ofNat (fc W d e_ q))) → Ary Z h_c19 b306 .char (IL len (fun q => if q < 19 then Int32.ofNat (fc W d e_ q) else 0)) → Go p e below (WfH Z consts_1 s room_1.cells room_1.slots (fun v h L => v = some (.int (1 : Int32)) ∧ Fr n0 L)) T_c19 (mkF m 801 #[jv p0, .second, iv p1, iv p2, iv p3, rv b1, jv (Int64.ofNat W), .second, iv (Int32.ofNat len), iv fl, iv (Int32.ofNat d), iv (Int32.ofNat e_), iv (Int32.ofNat x), rv b119, rv b306, .unset, .unset, .unset, .unset] []) := by
      intro T_c19 h_c19 lo_c19  X_c19 e_c19 N_c19 O_c19 Z_c19 HS_c19 f_c19_0 f_c19_1 f_c19_2
      refine Go.st (T' := T_c19) (g' := (mkF m 805 #[jv p0, .second, iv p1, iv p2, iv p3, rv b1, jv (Int64.ofNat W), .second, iv (Int32.ofNat len), iv fl, iv (Int32.ofNat d), iv (Int32.ofNat e_), iv (Int32.ofNat x), rv b119, rv b306, .unset, .unset, .unset, .unset] [(.int (19 : Int32)), (.int (Int32.ofNat len))])) ?_ (fun _ kk_ => XS.iload X_c19.here hx rfl (hb hby at_801) rfl  (XS.bipush X_c19.here hx rfl (hb hby at_803) kk_))
      by_cases hl : (19 : Int32) < (Int32.ofNat len)
      ·
        refine Go.st (T' := T_c19) (g' := (mkF m 808 #[jv p0, .second, iv p1, iv p2, iv p3, rv b1, jv (Int64.ofNat W), .second, iv (Int32.ofNat len), iv fl, iv (Int32.ofNat d), iv (Int32.ofNat e_), iv (Int32.ofNat x), rv b119, rv b306, .unset, .unset, .unset, .unset] [])) ?_ (fun _ kk_ => XS.icmpNo X_c19.here hx rfl (hb hby at_805) rfl (tlt (hl : (19 : Int32) < (Int32.ofNat len))).2.2.2 kk_)
        have hlt : 19 < len := (own_lt (i := 19) (by decide) (by omega)).mp hl
        refine Go.st (T' := T_c19) (g' := (mkF m 817 #[jv p0, .second, iv p1, iv p2, iv p3, rv b1, jv (Int64.ofNat W), .second, iv (Int32.ofNat len), iv fl, iv (Int32.ofNat d), iv (Int32.ofNat e_), iv (Int32.ofNat x), rv b119, rv b306, .unset, .unset, .unset, .unset] [(.int (Int32.ofNat (fc W d e_ 19))), (.int (19 : Int32)), (.ref b306)])) ?_ (fun _ kk_ => XS.aload X_c19.here hx rfl (hb hby at_808) rfl rfl  (XS.bipush X_c19.here hx rfl (hb hby at_810) (XS.aload X_c19.here hx rfl (hb hby at_812) rfl rfl  (XS.bipush X_c19.here hx rfl (hb hby at_814) (own_caload X_c19 hx hZ e_c19 f_c19_1 (i := 19) (v := (.int (Int32.ofNat (fc W d e_ 19)))) (IL_at (by decide)) rfl rfl rfl (hb hby at_816) kk_)))))
        refine Go.castore X_c19 hx hZ e_c19 f_c19_2 (y := (Int32.ofNat (fc W d e_ 19))) (ch_sto _ (by have := fc_dig (w := W) hd he 19; omega)) (i := 19) (by rw [IL_len]; exact hlt) rfl rfl rfl (hb hby at_817) ?_
        intro T403 h403 X403 e403 W403 V403
        have N404 := Fr.snoc X403 N_c19 g_b306
        have HS405 := HS.wr HS_c19 W403 (own_arySafe hZ.alike f_c19_2 (by decide))
        have O406 := O_c19.wr W403 g_b306
        have Z407 : n0 ≤ h403.size := by rw [W403.size]; exact Z_c19
        show Go p e below _ T403 (mkF m 818 #[jv p0, .second, iv p1, iv p2, iv p3, rv b1, jv (Int64.ofNat W), .second, iv (Int32.ofNat len), iv fl, iv (Int32.ofNat d), iv (Int32.ofNat e_), iv (Int32.ofNat x), rv b119, rv b306, .unset, .unset, .unset, .unset] [])
        rw [IL_set hlt] at V403
        have f408 := (f_c19_0.other W403 ne_b1_b306)
        have f409 := (f_c19_1.other W403 ne_b119_b306)
        exact c20 T403 _ _  X403 e403 N404 O406 Z407 HS405 f408 f409 (IL_congr (f := fun q => if q = 19 then Int32.ofNat (fc W d e_ 19) else if q < 19 then Int32.ofNat (fc W d e_ q) else 0) (f' := (fun q => if q < 20 then Int32.ofNat (fc W d e_ q) else 0)) (fun q hq => own_fill (fun q => Int32.ofNat (fc W d e_ q)) 19 q) ▸ V403) 
      ·
        refine Go.st (T' := T_c19) (g' := (mkF m 818 #[jv p0, .second, iv p1, iv p2, iv p3, rv b1, jv (Int64.ofNat W), .second, iv (Int32.ofNat len), iv fl, iv (Int32.ofNat d), iv (Int32.ofNat e_), iv (Int32.ofNat x), rv b119, rv b306, .unset, .unset, .unset, .unset] [])) ?_ (fun _ kk_ => XS.icmpYes X_c19.here hx rfl (pc0 := 805) (pc' := 818) rfl (hb hby at_805) rfl (flt (hl : ¬ ((19 : Int32) < (Int32.ofNat len)))).2.2.2 (by decide) (by decide) kk_)
        have hge : ¬ 19 < len := fun z => hl ((own_lt (i := 19) (by decide) (by omega)).mpr z)
        exact c20 T_c19 _ _  X_c19 e_c19 N_c19 O_c19 Z_c19 HS_c19 f_c19_0 f_c19_1 (IL_congr (n := len) (f := (fun q => if q < 19 then Int32.ofNat (fc W d e_ q) else 0)) (f' := (fun q => if q < 20 then Int32.ofNat (fc W d e_ q) else 0)) (fun q hq => by rw [if_pos (by omega), if_pos (by omega)]) ▸ f_c19_2) 
    have c18 : ∀ (T_c18 : State) (h_c18 : Heap) (lo_c18 : List Loc) , Stand p l e room_1 (s.setVm s.vm) m #[(.long p0), (.int p1), (.int p2), (.int p3)] below meth c T_c18 lo_c18 3 61 → T_c18.heap = h_c18 → Fr n0 lo_c18 → Old Z n0 h_c18 → n0 ≤ h_c18.size → HS Z consts_1 s s.heap s.vm h_c18 → Ary Z h_c18 b1 .long PWL → Ary Z h_c18 b119 .char (IL 21 (fun q => Int32.ofNat (fc W d e_ q))) → Ary Z h_c18 b306 .char (IL len (fun q => if q < 18 then Int32.ofNat (fc W d e_ q) else 0)) → Go p e below (WfH Z consts_1 s room_1.cells room_1.slots (fun v h L => v = some (.int (1 : Int32)) ∧ Fr n0 L)) T_c18 (mkF m 784 #[jv p0, .second, iv p1, iv p2, iv p3, rv b1, jv (Int64.ofNat W), .second, iv (Int32.ofNat len), iv fl, iv (Int32.ofNat d), iv (Int32.ofNat e_), iv (Int32.ofNat x), rv b119, rv b306, .unset, .unset, .unset, .unset] []) := by
      intro T_c18 h_c18 lo_c18  X_c18 e_c18 N_c18 O_c18 Z_c18 HS_c18 f_c18_0 f_c18_1 f_c18_2
      refine Go.st (T' := T_c18) (g' := (mkF m 788 #[jv p0, .second, iv p1, iv p2, iv p3, rv b1, jv (Int64.ofNat W), .second, iv (Int32.ofNat len), iv fl, iv (Int32.ofNat d), iv (Int32.ofNat e_), iv (Int32.ofNat x), rv b119, rv b306, .unset, .unset, .unset, .unset] [(.int (18 : Int32)), (.int (Int32.ofNat len))])) ?_ (fun _ kk_ => XS.iload X_c18.here hx rfl (hb hby at_784) rfl  (XS.bipush X_c18.here hx rfl (hb hby at_786) kk_))
      by_cases hl : (18 : Int32) < (Int32.ofNat len)
      ·
        refine Go.st (T' := T_c18) (g' := (mkF m 791 #[jv p0, .second, iv p1, iv p2, iv p3, rv b1, jv (Int64.ofNat W), .second, iv (Int32.ofNat len), iv fl, iv (Int32.ofNat d), iv (Int32.ofNat e_), iv (Int32.ofNat x), rv b119, rv b306, .unset, .unset, .unset, .unset] [])) ?_ (fun _ kk_ => XS.icmpNo X_c18.here hx rfl (hb hby at_788) rfl (tlt (hl : (18 : Int32) < (Int32.ofNat len))).2.2.2 kk_)
        have hlt : 18 < len := (own_lt (i := 18) (by decide) (by omega)).mp hl
        refine Go.st (T' := T_c18) (g' := (mkF m 800 #[jv p0, .second, iv p1, iv p2, iv p3, rv b1, jv (Int64.ofNat W), .second, iv (Int32.ofNat len), iv fl, iv (Int32.ofNat d), iv (Int32.ofNat e_), iv (Int32.ofNat x), rv b119, rv b306, .unset, .unset, .unset, .unset] [(.int (Int32.ofNat (fc W d e_ 18))), (.int (18 : Int32)), (.ref b306)])) ?_ (fun _ kk_ => XS.aload X_c18.here hx rfl (hb hby at_791) rfl rfl  (XS.bipush X_c18.here hx rfl (hb hby at_793) (XS.aload X_c18.here hx rfl (hb hby at_795) rfl rfl  (XS.bipush X_c18.here hx rfl (hb hby at_797) (own_caload X_c18 hx hZ e_c18 f_c18_1 (i := 18) (v := (.int (Int32.ofNat (fc W d e_ 18)))) (IL_at (by decide)) rfl rfl rfl (hb hby at_799) kk_)))))
        refine Go.castore X_c18 hx hZ e_c18 f_c18_2 (y := (Int32.ofNat (fc W d e_ 18))) (ch_sto _ (by have := fc_dig (w := W) hd he 18; omega)) (i := 18) (by rw [IL_len]; exact hlt) rfl rfl rfl (hb hby at_800) ?_
        intro T410 h410 X410 e410 W410 V410
        have N411 := Fr.snoc X410 N_c18 g_b306
        have HS412 := HS.wr HS_c18 W410 (own_arySafe hZ.alike f_c18_2 (by decide))
        have O413 := O_c18.wr W410 g_b306
        have Z414 : n0 ≤ h410.size := by rw [W410.size]; exact Z_c18
        show Go p e below _ T410 (mkF m 801 #[jv p0, .second, iv p1, iv p2, iv p3, rv b1, jv (Int64.ofNat W), .second, iv (Int32.ofNat len), iv fl, iv (Int32.ofNat d), iv (Int32.ofNat e_), iv (Int32.ofNat x), rv b119, rv b306, .unset, .unset, .unset, .unset] [])
        rw [IL_set hlt] at V410
        have f415 := (f_c18_0.other W410 ne_b1_b306)
        have f416 := (f_c18_1.other W410 ne_b119_b306)
        exact c19 T410 _ _  X410 e410 N411 O413 Z414 HS412 f415 f416 (IL_congr (f := fun q => if q = 18 then Int32.ofNat (fc W d e_ 18) else if q < 18 then Int32.ofNat (fc W d e_ q) else 0) (f' := (fun q => if q < 19 then Int32.ofNat (fc W d e_ q) else 0)) (fun q hq => own_fill (fun q => Int32.ofNat (fc W d e_ q)) 18 q) ▸ V410) 
      ·
        refine Go.st (T' := T_c18) (g' := (mkF m 801 #[jv p0, .second, iv p1, iv p2, iv p3, rv b1, jv (Int64.ofNat W), .second, iv (Int32.ofNat len), iv fl, iv (Int32.ofNat d), iv (Int32.ofNat e_), iv (Int32.ofNat x), rv b119, rv b306, .unset, .unset, .unset, .unset] [])) ?_ (fun _ kk_ => XS.icmpYes X_c18.here hx rfl (pc0 := 788) (pc' := 801) rfl (hb hby at_788) rfl (flt (hl : ¬ ((18 : Int32) < (Int32.ofNat len)))).2.2.2 (by decide) (by decide) kk_)
        have hge : ¬ 18 < len := fun z => hl ((own_lt (i := 18) (by decide) (by omega)).mpr z)
        exact c19 T_c18 _ _  X_c18 e_c18 N_c18 O_c18 Z_c18 HS_c18 f_c18_0 f_c18_1 (IL_congr (n := len) (f := (fun q => if q < 18 then Int32.ofNat (fc W d e_ q) else 0)) (f' := (fun q => if q < 19 then Int32.ofNat (fc W d e_ q) else 0)) (fun q hq => by rw [if_pos (by omega), if_pos (by omega)]) ▸ f_c18_2) 
    have c17 : ∀ (T_c17 : State) (h_c17 : Heap) (lo_c17 : List Loc) , Stand p l e room_1 (s.setVm s.vm) m #[(.long p0), (.int p1), (.int p2), (.int p3)] below meth c T_c17 lo_c17 3 61 → T_c17.heap = h_c17 → Fr n0 lo_c17 → Old Z n0 h_c17 → n0 ≤ h_c17.size → HS Z consts_1 s s.heap s.vm h_c17 → Ary Z h_c17 b1 .long PWL → Ary Z h_c17 b119 .char (IL 21 (fun q => Int32.ofNat (fc W d e_ q))) → Ary Z h_c17 b306 .char (IL len (fun q => if q < 17 then Int32.ofNat (fc W d e_ q) else 0)) → Go p e below (WfH Z consts_1 s room_1.cells room_1.slots (fun v h L => v = some (.int (1 : Int32)) ∧ Fr n0 L)) T_c17 (mkF m 767 #[jv p0, .second, iv p1, iv p2, iv p3, rv b1, jv (Int64.ofNat W), .second, iv (Int32.ofNat len), iv fl, iv (Int32.ofNat d), iv (Int32.ofNat e_), iv (Int32.ofNat x), rv b119, rv b306, .unset, .unset, .unset, .unset] []) := by
      intro T_c17 h_c17 lo_c17  X_c17 e_c17 N_c17 O_c17 Z_c17 HS_c17 f_c17_0 f_c17_1 f_c17_2
      refine Go.st (T' := T_c17) (g' := (mkF m 771 #[jv p0, .second, iv p1, iv p2, iv p3, rv b1, jv (Int64.ofNat W), .second, iv (Int32.ofNat len), iv fl, iv (Int32.ofNat d), iv (Int32.ofNat e_), iv (Int32.ofNat x), rv b119, rv b306, .unset, .unset, .unset, .unset] [(.int (17 : Int32)), (.int (Int32.ofNat len))])) ?_ (fun _ kk_ => XS.iload X_c17.here hx rfl (hb hby at_767) rfl  (XS.bipush X_c17.here hx rfl (hb hby at_769) kk_))
      by_cases hl : (17 : Int32) < (Int32.ofNat len)
      ·
        refine Go.st (T' := T_c17) (g' := (mkF m 774 #[jv p0, .second, iv p1, iv p2, iv p3, rv b1, jv (Int64.ofNat W), .second, iv (Int32.ofNat len), iv fl, iv (Int32.ofNat d), iv (Int32.ofNat e_), iv (Int32.ofNat x), rv b119, rv b306, .unset, .unset, .unset, .unset] [])) ?_ (fun _ kk_ => XS.icmpNo X_c17.here hx rfl (hb hby at_771) rfl (tlt (hl : (17 : Int32) < (Int32.ofNat len))).2.2.2 kk_)
        have hlt : 17 < len := (own_lt (i := 17) (by decide) (by omega)).mp hl
        refine Go.st (T' := T_c17) (g' := (mkF m 783 #[jv p0, .second, iv p1, iv p2, iv p3, rv b1, jv (Int64.ofNat W), .second, iv (Int32.ofNat len), iv fl, iv (Int32.ofNat d), iv (Int32.ofNat e_), iv (Int32.ofNat x), rv b119, rv b306, .unset, .unset, .unset, .unset] [(.int (Int32.ofNat (fc W d e_ 17))), (.int (17 : Int32)), (.ref b306)])) ?_ (fun _ kk_ => XS.aload X_c17.here hx rfl (hb hby at_774) rfl rfl  (XS.bipush X_c17.here hx rfl (hb hby at_776) (XS.aload X_c17.here hx rfl (hb hby at_778) rfl rfl  (XS.bipush X_c17.here hx rfl (hb hby at_780) (own_caload X_c17 hx hZ e_c17 f_c17_1 (i := 17) (v := (.int (Int32.ofNat (fc W d e_ 17)))) (IL_at (by decide)) rfl rfl rfl (hb hby at_782) kk_)))))
        refine Go.castore X_c17 hx hZ e_c17 f_c17_2 (y := (Int32.ofNat (fc W d e_ 17))) (ch_sto _ (by have := fc_dig (w := W) hd he 17; omega)) (i := 17) (by rw [IL_len]; exact hlt) rfl rfl rfl (hb hby at_783) ?_
        intro T417 h417 X417 e417 W417 V417
        have N418 := Fr.snoc X417 N_c17 g_b306
        have HS419 := HS.wr HS_c17 W417 (own_arySafe hZ.alike f_c17_2 (by decide))
        have O420 := O_c17.wr W417 g_b306
        have Z421 : n0 ≤ h417.size := by rw [W417.size]; exact Z_c17
        show Go p e below _ T417 (mkF m 784 #[jv p0, .second, iv p1, iv p2, iv p3, rv b1, jv (Int64.ofNat W), .second, iv (Int32.ofNat len), iv fl, iv (Int32.ofNat d), iv (Int32.ofNat e_), iv (Int32.ofNat x), rv b119, rv b306, .unset, .unset, .unset, .unset] [])
        rw [IL_set hlt] at V417
        have f422 := (f_c17_0.other W417 ne_b1_b306)
        have f423 := (f_c17_1.other W417 ne_b119_b306)
        exact c18 T417 _ _  X417 e417 N418 O420 Z421 HS419 f422 f423 (IL_congr (f := fun q => if q = 17 then Int32.ofNat (fc W d e_ 17) else if q < 17 then Int32.ofNat (fc W d e_ q) else 0) (f' := (fun q => if q < 18 then Int32.ofNat (fc W d e_ q) else 0)) (fun q hq => own_fill (fun q => Int32.ofNat (fc W d e_ q)) 17 q) ▸ V417) 
      ·
        refine Go.st (T' := T_c17) (g' := (mkF m 784 #[jv p0, .second, iv p1, iv p2, iv p3, rv b1, jv (Int64.ofNat W), .second, iv (Int32.ofNat len), iv fl, iv (Int32.ofNat d), iv (Int32.ofNat e_), iv (Int32.ofNat x), rv b119, rv b306, .unset, .unset, .unset, .unset] [])) ?_ (fun _ kk_ => XS.icmpYes X_c17.here hx rfl (pc0 := 771) (pc' := 784) rfl (hb hby at_771) rfl (flt (hl : ¬ ((17 : Int32) < (Int32.ofNat len)))).2.2.2 (by decide) (by decide) kk_)
        have hge : ¬ 17 < len := fun z => hl ((own_lt (i := 17) (by decide) (by omega)).mpr z)
        exact c18 T_c17 _ _  X_c17 e_c17 N_c17 O_c17 Z_c17 HS_c17 f_c17_0 f_c17_1 (IL_congr (n := len) (f := (fun q => if q < 17 then Int32.ofNat (fc W d e_ q) else 0)) (f' := (fun q => if q < 18 then Int32.ofNat (fc W d e_ q) else 0)) (fun q hq => by rw [if_pos (by omega), if_pos (by omega)]) ▸ f_c17_2) 
    have c16 : ∀ (T_c16 : State) (h_c16 : Heap) (lo_c16 : List Loc) , Stand p l e room_1 (s.setVm s.vm) m #[(.long p0), (.int p1), (.int p2), (.int p3)] below meth c T_c16 lo_c16 3 61 → T_c16.heap = h_c16 → Fr n0 lo_c16 → Old Z n0 h_c16 → n0 ≤ h_c16.size → HS Z consts_1 s s.heap s.vm h_c16 → Ary Z h_c16 b1 .long PWL → Ary Z h_c16 b119 .char (IL 21 (fun q => Int32.ofNat (fc W d e_ q))) → Ary Z h_c16 b306 .char (IL len (fun q => if q < 16 then Int32.ofNat (fc W d e_ q) else 0)) → Go p e below (WfH Z consts_1 s room_1.cells room_1.slots (fun v h L => v = some (.int (1 : Int32)) ∧ Fr n0 L)) T_c16 (mkF m 750 #[jv p0, .second, iv p1, iv p2, iv p3, rv b1, jv (Int64.ofNat W), .second, iv (Int32.ofNat len), iv fl, iv (Int32.ofNat d), iv (Int32.ofNat e_), iv (Int32.ofNat x), rv b119, rv b306, .unset, .unset, .unset, .unset] []) := by
      intro T_c16 h_c16 lo_c16  X_c16 e_c16 N_c16 O_c16 Z_c16 HS_c16 f_c16_0 f_c16_1 f_c16_2
      refine Go.st (T' := T_c16) (g' := (mkF m 754 #[jv p0, .second, iv p1, iv p2, iv p3, rv b1, jv (Int64.ofNat W), .second, iv (Int32.ofNat len), iv fl, iv (Int32.ofNat d), iv (Int32.ofNat e_), iv (Int32.ofNat x), rv b119, rv b306, .unset, .unset, .unset, .unset] [(.int (16 : Int32)), (.int (Int32.ofNat len))])) ?_ (fun _ kk_ => XS.iload X_c16.here hx rfl (hb hby at_750) rfl  (XS.bipush X_c16.here hx rfl (hb hby at_752) kk_))
      by_cases hl : (16 : Int32) < (Int32.ofNat len)
      ·
        refine Go.st (T' := T_c16) (g' := (mkF m 757 #[jv p0, .second, iv p1, iv p2, iv p3, rv b1, jv (Int64.ofNat W), .second, iv (Int32.ofNat len), iv fl, iv (Int32.ofNat d), iv (Int32.ofNat e_), iv (Int32.ofNat x), rv b119, rv b306, .unset, .unset, .unset, .unset] [])) ?_ (fun _ kk_ => XS.icmpNo X_c16.here hx rfl (hb hby at_754) rfl (tlt (hl : (16 : Int32) < (Int32.ofNat len))).2.2.2 kk_)
        have hlt : 16 < len := (own_lt (i := 16) (by decide) (by omega)).mp hl
        refine Go.st (T' := T_c16) (g' := (mkF m 766 #[jv p0, .second, iv p1, iv p2, iv p3, rv b1, jv (Int64.ofNat W), .second, iv (Int32.ofNat len), iv fl, iv (Int32.ofNat d), iv (Int32.ofNat e_), iv (Int32.ofNat x), rv b119, rv b306, .unset, .unset, .unset, .unset] [(.int (Int32.ofNat (fc W d e_ 16))), (.int (16 : Int32)), (.ref b306)])) ?_ (fun _ kk_ => XS.aload X_c16.here hx rfl (hb hby at_757) rfl rfl  (XS.bipush X_c16.here hx rfl (hb hby at_759) (XS.aload X_c16.here hx rfl (hb hby at_761) rfl rfl  (XS.bipush X_c16.here hx rfl (hb hby at_763) (own_caload X_c16 hx hZ e_c16 f_c16_1 (i := 16) (v := (.int (Int32.ofNat (fc W d e_ 16)))) (IL_at (by decide)) rfl rfl rfl (hb hby at_765) kk_)))))
        refine Go.castore X_c16 hx hZ e_c16 f_c16_2 (y := (Int32.ofNat (fc W d e_ 16))) (ch_sto _ (by have := fc_dig (w := W) hd he 16; omega)) (i := 16) (by rw [IL_len]; exact hlt) rfl rfl rfl (hb hby at_766) ?_
        intro T424 h424 X424 e424 W424 V424
        have N425 := Fr.snoc X424 N_c16 g_b306
        have HS426 := HS.wr HS_c16 W424 (own_arySafe hZ.alike f_c16_2 (by decide))
        have O427 := O_c16.wr W424 g_b306
        have Z428 : n0 ≤ h424.size := by rw [W424.size]; exact Z_c16
        show Go p e below _ T424 (mkF m 767 #[jv p0, .second, iv p1, iv p2, iv p3, rv b1, jv (Int64.ofNat W), .second, iv (Int32.ofNat len), iv fl, iv (Int32.ofNat d), iv (Int32.ofNat e_), iv (Int32.ofNat x), rv b119, rv b306, .unset, .unset, .unset, .unset] [])
        rw [IL_set hlt] at V424
        have f429 := (f_c16_0.other W424 ne_b1_b306)
        have f430 := (f_c16_1.other W424 ne_b119_b306)
        exact c17 T424 _ _  X424 e424 N425 O427 Z428 HS426 f429 f430 (IL_congr (f := fun q => if q = 16 then Int32.ofNat (fc W d e_ 16) else if q < 16 then Int32.ofNat (fc W d e_ q) else 0) (f' := (fun q => if q < 17 then Int32.ofNat (fc W d e_ q) else 0)) (fun q hq => own_fill (fun q => Int32.ofNat (fc W d e_ q)) 16 q) ▸ V424) 
      ·
        refine Go.st (T' := T_c16) (g' := (mkF m 767 #[jv p0, .second, iv p1, iv p2, iv p3, rv b1, jv (Int64.ofNat W), .second, iv (Int32.ofNat len), iv fl, iv (Int32.ofNat d), iv (Int32.ofNat e_), iv (Int32.ofNat x), rv b119, rv b306, .unset, .unset, .unset, .unset] [])) ?_ (fun _ kk_ => XS.icmpYes X_c16.here hx rfl (pc0 := 754) (pc' := 767) rfl (hb hby at_754) rfl (flt (hl : ¬ ((16 : Int32) < (Int32.ofNat len)))).2.2.2 (by decide) (by decide) kk_)
        have hge : ¬ 16 < len := fun z => hl ((own_lt (i := 16) (by decide) (by omega)).mpr z)
        exact c17 T_c16 _ _  X_c16 e_c16 N_c16 O_c16 Z_c16 HS_c16 f_c16_0 f_c16_1 (IL_congr (n := len) (f := (fun q => if q < 16 then Int32.ofNat (fc W d e_ q) else 0)) (f' := (fun q => if q < 17 then Int32.ofNat (fc W d e_ q) else 0)) (fun q hq => by rw [if_pos (by omega), if_pos (by omega)]) ▸ f_c16_2) 
    have c15 : ∀ (T_c15 : State) (h_c15 : Heap) (lo_c15 : List Loc) , Stand p l e room_1 (s.setVm s.vm) m #[(.long p0), (.int p1), (.int p2), (.int p3)] below meth c T_c15 lo_c15 3 61 → T_c15.heap = h_c15 → Fr n0 lo_c15 → Old Z n0 h_c15 → n0 ≤ h_c15.size → HS Z consts_1 s s.heap s.vm h_c15 → Ary Z h_c15 b1 .long PWL → Ary Z h_c15 b119 .char (IL 21 (fun q => Int32.ofNat (fc W d e_ q))) → Ary Z h_c15 b306 .char (IL len (fun q => if q < 15 then Int32.ofNat (fc W d e_ q) else 0)) → Go p e below (WfH Z consts_1 s room_1.cells room_1.slots (fun v h L => v = some (.int (1 : Int32)) ∧ Fr n0 L)) T_c15 (mkF m 733 #[jv p0, .second, iv p1, iv p2, iv p3, rv b1, jv (Int64.ofNat W), .second, iv (Int32.ofNat len), iv fl, iv (Int32.ofNat d), iv (Int32.ofNat e_), iv (Int32.ofNat x), rv b119, rv b306, .unset, .unset, .unset, .unset] []) := by
      intro T_c15 h_c15 lo_c15  X_c15 e_c15 N_c15 O_c15 Z_c15 HS_c15 f_c15_0 f_c15_1 f_c15_2
      refine Go.st (T' := T_c15) (g' := (mkF m 737 #[jv p0, .second, iv p1, iv p2, iv p3, rv b1, jv (Int64.ofNat W), .second, iv (Int32.ofNat len), iv fl, iv (Int32.ofNat d), iv (Int32.ofNat e_), iv (Int32.ofNat x), rv b119, rv b306, .unset, .unset, .unset, .unset] [(.int (15 : Int32)), (.int (Int32.ofNat len))])) ?_ (fun _ kk_ => XS.iload X_c15.here hx rfl (hb hby at_733) rfl  (XS.bipush X_c15.here hx rfl (hb hby at_735) kk_))
      by_cases hl : (15 : Int32) < (Int32.ofNat len)
      ·
        refine Go.st (T' := T_c15) (g' := (mkF m 740 #[jv p0, .second, iv p1, iv p2, iv p3, rv b1, jv (Int64.ofNat W), .second, iv (Int32.ofNat len), iv fl, iv (Int32.ofNat d), iv (Int32.ofNat e_), iv (Int32.ofNat x), rv b119, rv b306, .unset, .unset, .unset, .unset] [])) ?_ (fun _ kk_ => XS.icmpNo X_c15.here hx rfl (hb hby at_737) rfl (tlt (hl : (15 : Int32) < (Int32.ofNat len))).2.2.2 kk_)
        have hlt : 15 < len := (own_lt (i := 15) (by decide) (by omega)).mp hl
        refine Go.st (T' := T_c15) (g' := (mkF m 749 #[jv p0, .second, iv p1, iv p2, iv p3, rv b1, jv (Int64.ofNat W), .second, iv (Int32.ofNat len), iv fl, iv (Int32.ofNat d), iv (Int32.ofNat e_), iv (Int32.ofNat x), rv b119, rv b306, .unset, .unset, .unset, .unset] [(.int (Int32.ofNat (fc W d e_ 15))), (.int (15 : Int32)), (.ref b306)])) ?_ (fun _ kk_ => XS.aload X_c15.here hx rfl (hb hby at_740) rfl rfl  (XS.bipush X_c15.here hx rfl (hb hby at_742) (XS.aload X_c15.here hx rfl (hb hby at_744) rfl rfl  (XS.bipush X_c15.here hx rfl (hb hby at_746) (own_caload X_c15 hx hZ e_c15 f_c15_1 (i := 15) (v := (.int (Int32.ofNat (fc W d e_ 15)))) (IL_at (by decide)) rfl rfl rfl (hb hby at_748) kk_)))))
        refine Go.castore X_c15 hx hZ e_c15 f_c15_2 (y := (Int32.ofNat (fc W d e_ 15))) (ch_sto _ (by have := fc_dig (w := W) hd he 15; omega)) (i := 15) (by rw [IL_len]; exact hlt) rfl rfl rfl (hb hby at_749) ?_
        intro T431 h431 X431 e431 W431 V431
        have N432 := Fr.snoc X431 N_c15 g_b306
        have HS433 := HS.wr HS_c15 W431 (own_arySafe hZ.alike f_c15_2 (by decide))
        have O434 := O_c15.wr W431 g_b306
        have Z435 : n0 ≤ h431.size := by rw [W431.size]; exact Z_c15
        show Go p e below _ T431 (mkF m 750 #[jv p0, .second, iv p1, iv p2, iv p3, rv b1, jv (Int64.ofNat W), .second, iv (Int32.ofNat len), iv fl, iv (Int32.ofNat d), iv (Int32.ofNat e_), iv (Int32.ofNat x), rv b119, rv b306, .unset, .unset, .unset, .unset] [])
        rw [IL_set hlt] at V431
        have f436 := (f_c15_0.other W431 ne_b1_b306)
        have f437 := (f_c15_1.other W431 ne_b119_b306)
        exact c16 T431 _ _  X431 e431 N432 O434 Z435 HS433 f436 f437 (IL_congr (f := fun q => if q = 15 then Int32.ofNat (fc W d e_ 15) else if q < 15 then Int32.ofNat (fc W d e_ q) else 0) (f' := (fun q => if q < 16 then Int32.ofNat (fc W d e_ q) else 0)) (fun q hq => own_fill (fun q => Int32.ofNat (fc W d e_ q)) 15 q) ▸ V431) 
      ·
        refine Go.st (T' := T_c15) (g' := (mkF m 750 #[jv p0, .second, iv p1, iv p2, iv p3, rv b1, jv (Int64.ofNat W), .second, iv (Int32.ofNat len), iv fl, iv (Int32.ofNat d), iv (Int32.ofNat e_), iv (Int32.ofNat x), rv b119, rv b306, .unset, .unset, .unset, .unset] [])) ?_ (fun _ kk_ => XS.icmpYes X_c15.here hx rfl (pc0 := 737) (pc' := 750) rfl (hb hby at_737) rfl (flt (hl : ¬ ((15 : Int32) < (Int32.ofNat len)))).2.2.2 (by decide) (by decide) kk_)
        have hge : ¬ 15 < len := fun z => hl ((own_lt (i := 15) (by decide) (by omega)).mpr z)
        exact c16 T_c15 _ _  X_c15 e_c15 N_c15 O_c15 Z_c15 HS_c15 f_c15_0 f_c15_1 (IL_congr (n := len) (f := (fun q => if q < 15 then Int32.ofNat (fc W d e_ q) else 0)) (f' := (fun q => if q < 16 then Int32.ofNat (fc W d e_ q) else 0)) (fun q hq => by rw [if_pos (by omega), if_pos (by omega)]) ▸ f_c15_2) 
    have c14 : ∀ (T_c14 : State) (h_c14 : Heap) (lo_c14 : List Loc) , Stand p l e room_1 (s.setVm s.vm) m #[(.long p0), (.int p1), (.int p2), (.int p3)] below meth c T_c14 lo_c14 3 61 → T_c14.heap = h_c14 → Fr n0 lo_c14 → Old Z n0 h_c14 → n0 ≤ h_c14.size → HS Z consts_1 s s.heap s.vm h_c14 → Ary Z h_c14 b1 .long PWL → Ary Z h_c14 b119 .char (IL 21 (fun q => Int32.ofNat (fc W d e_ q))) → Ary Z h_c14 b306 .char (IL len (fun q => if q < 14 then Int32.ofNat (fc W d e_ q) else 0)) → Go p e below (WfH Z consts_1 s room_1.cells room_1.slots (fun v h L => v = some (.int (1 : Int32)) ∧ Fr n0 L)) T_c14 (mkF m 716 #[jv p0, .second, iv p1, iv p2, iv p3, rv b1, jv (Int64.ofNat W), .second, iv (Int32.ofNat len), iv fl, iv (Int32.ofNat d), iv (Int32.ofNat e_), iv (Int32.ofNat x), rv b119, rv b306, .unset, .unset, .unset, .unset] []) := by
      intro T_c14 h_c14 lo_c14  X_c14 e_c14 N_c14 O_c14 Z_c14 HS_c14 f_c14_0 f_c14_1 f_c14_2
      refine Go.st (T' := T_c14) (g' := (mkF m 720 #[jv p0, .second, iv p1, iv p2, iv p3, rv b1, jv (Int64.ofNat W), .second, iv (Int32.ofNat len), iv fl, iv (Int32.ofNat d), iv (Int32.ofNat e_), iv (Int32.ofNat x), rv b119, rv b306, .unset, .unset, .unset, .unset] [(.int (14 : Int32)), (.int (Int32.ofNat len))])) ?_ (fun _ kk_ => XS.iload X_c14.here hx rfl (hb hby at_716) rfl  (XS.bipush X_c14.here hx rfl (hb hby at_718) kk_))
      by_cases hl : (14 : Int32) < (Int32.ofNat len)
      ·
        refine Go.st (T' := T_c14) (g' := (mkF m 723 #[jv p0, .second, iv p1, iv p2, iv p3, rv b1, jv (Int64.ofNat W), .second, iv (Int32.ofNat len), iv fl, iv (Int32.ofNat d), iv (Int32.ofNat e_), iv (Int32.ofNat x), rv b119, rv b306, .unset, .unset, .unset, .unset] [])) ?_ (fun _ kk_ => XS.icmpNo X_c14.here hx rfl (hb hby at_720) rfl (tlt (hl : (14 : Int32) < (Int32.ofNat len))).2.2.2 kk_)
        have hlt : 14 < len := (own_lt (i := 14) (by decide) (by omega)).mp hl
        refine Go.st (T' := T_c14) (g' := (mkF m 732 #[jv p0, .second, iv p1, iv p2, iv p3, rv b1, jv (Int64.ofNat W), .second, iv (Int32.ofNat len), iv fl, iv (Int32.ofNat d), iv (Int32.ofNat e_), iv (Int32.ofNat x), rv b119, rv b306, .unset, .unset, .unset, .unset] [(.int (Int32.ofNat (fc W d e_ 14))), (.int (14 : Int32)), (.ref b306)])) ?_ (fun _ kk_ => XS.aload X_c14.here hx rfl (hb hby at_723) rfl rfl  (XS.bipush X_c14.here hx rfl (hb hby at_725) (XS.aload X_c14.here hx rfl (hb hby at_727) rfl rfl  (XS.bipush X_c14.here hx rfl (hb hby at_729) (own_caload X_c14 hx hZ e_c14 f_c14_1 (i := 14) (v := (.int (Int32.ofNat (fc W d e_ 14)))) (IL_at (by decide)) rfl rfl rfl (hb hby at_731) kk_)))))
        refine Go.castore X_c14 hx hZ e_c14 f_c14_2 (y := (Int32.ofNat (fc W d e_ 14))) (ch_sto _ (by have := fc_dig (w := W) hd he 14; omega)) (i := 14) (by rw [IL_len]; exact hlt) rfl rfl rfl (hb hby at_732) ?_
        intro T438 h438 X438 e438 W438 V438
        have N439 := Fr.snoc X438 N_c14 g_b306
        have HS440 := HS.wr HS_c14 W438 (own_arySafe hZ.alike f_c14_2 (by decide))
        have O441 := O_c14.wr W438 g_b306
        have Z442 : n0 ≤ h438.size := by rw [W438.size]; exact Z_c14
        show Go p e below _ T438 (mkF m 733 #[jv p0, .second, iv p1, iv p2, iv p3, rv b1, jv (Int64.ofNat W), .second, iv (Int32.ofNat len), iv fl, iv (Int32.ofNat d), iv (Int32.ofNat e_), iv (Int32.ofNat x), rv b119, rv b306, .unset, .unset, .unset, .unset] [])
        rw [IL_set hlt] at V438
        have f443 := (f_c14_0.other W438 ne_b1_b306)
        have f444 := (f_c14_1.other W438 ne_b119_b306)
        exact c15 T438 _ _  X438 e438 N439 O441 Z442 HS440 f443 f444 (IL_congr (f := fun q => if q = 14 then Int32.ofNat (fc W d e_ 14) else if q < 14 then Int32.ofNat (fc W d e_ q) else 0) (f' := (fun q => if q < 15 then Int32.ofNat (fc W d e_ q) else 0)) (fun q hq => own_fill (fun q => Int32.ofNat (fc W d e_ q)) 14 q) ▸ V438) 
      ·
        refine Go.st (T' := T_c14) (g' := (mkF m 733 #[jv p0, .second, iv p1, iv p2, iv p3, rv b1, jv (Int64.ofNat W), .second, iv (Int32.ofNat len), iv fl, iv (Int32.ofNat d), iv (Int32.ofNat e_), iv (Int32.ofNat x), rv b119, rv b306, .unset, .unset, .unset, .unset] [])) ?_ (fun _ kk_ => XS.icmpYes X_c14.here hx rfl (pc0 := 720) (pc' := 733) rfl (hb hby at_720) rfl (flt (hl : ¬ ((14 : Int32) < (Int32.ofNat len)))).2.2.2 (by decide) (by decide) kk_)
        have hge : ¬ 14 < len := fun z => hl ((own_lt (i := 14) (by decide) (by omega)).mpr z)
        exact c15 T_c14 _ _  X_c14 e_c14 N_c14 O_c14 Z_c14 HS_c14 f_c14_0 f_c14_1 (IL_congr (n := len) (f := (fun q => if q < 14 then Int32.ofNat (fc W d e_ q) else 0)) (f' := (fun q => if q < 15 then Int32.ofNat (fc W d e_ q) else 0)) (fun q hq => by rw [if_pos (by omega), if_pos (by omega)]) ▸ f_c14_2) 
    have c13 : ∀ (T_c13 : State) (h_c13 : Heap) (lo_c13 : List Loc) , Stand p l e room_1 (s.setVm s.vm) m #[(.long p0), (.int p1), (.int p2), (.int p3)] below meth c T_c13 lo_c13 3 61 → T_c13.heap = h_c13 → Fr n0 lo_c13 → Old Z n0 h_c13 → n0 ≤ h_c13.size → HS Z consts_1 s s.heap s.vm h_c13 → Ary Z h_c13 b1 .long PWL → Ary Z h_c13 b119 .char (IL 21 (fun q => Int32.ofNat (fc W d e_ q))) → Ary Z h_c13 b306 .char (IL len (fun q => if q < 13 then Int32.ofNat (fc W d e_ q) else 0)) → Go p e below (WfH Z consts_1 s room_1.cells room_1.slots (fun v h L => v = some (.int (1 : Int32)) ∧ Fr n0 L)) T_c13 (mkF m 699 #[jv p0, .second, iv p1, iv p2, iv p3, rv b1, jv (Int64.ofNat W), .second, iv (Int32.ofNat len), iv fl, iv (Int32.ofNat d), iv (Int32.ofNat e_), iv (Int32.ofNat x), rv b119, rv b306, .unset, .unset, .unset, .unset] []) := by
      intro T_c13 h_c13 lo_c13  X_c13 e_c13 N_c13 O_c13 Z_c13 HS_c13 f_c13_0 f_c13_1 f_c13_2
      refine Go.st (T' := T_c13) (g' := (mkF m 703 #[jv p0, .second, iv p1, iv p2, iv p3, rv b1, jv (Int64.ofNat W), .second, iv (Int32.ofNat len), iv fl, iv (Int32.ofNat d), iv (Int32.ofNat e_), iv (Int32.ofNat x), rv b119, rv b306, .unset, .unset, .unset, .unset] [(.int (13 : Int32)), (.int (Int32.ofNat len))])) ?_ (fun _ kk_ => XS.iload X_c13.here hx rfl (hb hby at_699) rfl  (XS.bipush X_c13.here hx rfl (hb hby at_701) kk_))
      by_cases hl : (13 : Int32) < (Int32.ofNat len)
      ·
        refine Go.st (T' := T_c13) (g' := (mkF m 706 #[jv p0, .second, iv p1, iv p2, iv p3, rv b1, jv (Int64.ofNat W), .second, iv (Int32.ofNat len), iv fl, iv (Int32.ofNat d), iv (Int32.ofNat e_), iv (Int32.ofNat x), rv b119, rv b306, .unset, .unset, .unset, .unset] [])) ?_ (fun _ kk_ => XS.icmpNo X_c13.here hx rfl (hb hby at_703) rfl (tlt (hl : (13 : Int32) < (Int32.ofNat len))).2.2.2 kk_)
        have hlt : 13 < len := (own_lt (i := 13) (by decide) (by omega)).mp hl
        refine Go.st (T' := T_c13) (g' := (mkF m 715 #[jv p0, .second, iv p1, iv p2, iv p3, rv b1, jv (Int64.ofNat W), .second, iv (Int32.ofNat len), iv fl, iv (Int32.ofNat d), iv (Int32.ofNat e_), iv (Int32.ofNat x), rv b119, rv b306, .unset, .unset, .unset, .unset] [(.int (Int32.ofNat (fc W d e_ 13))), (.int (13 : Int32)), (.ref b306)])) ?_ (fun _ kk_ => XS.aload X_c13.here hx rfl (hb hby at_706) rfl rfl  (XS.bipush X_c13.here hx rfl (hb hby at_708) (XS.aload X_c13.here hx rfl (hb hby at_710) rfl rfl  (XS.bipush X_c13.here hx rfl (hb hby at_712) (own_caload X_c13 hx hZ e_c13 f_c13_1 (i := 13) (v := (.int (Int32.ofNat (fc W d e_ 13)))) (IL_at (by decide)) rfl rfl rfl (hb hby at_714) kk_)))))
        refine Go.castore X_c13 hx hZ e_c13 f_c13_2 (y := (Int32.ofNat (fc W d e_ 13))) (ch_sto _ (by have := fc_dig (w := W) hd he 13; omega)) (i := 13) (by rw [IL_len]; exact hlt) rfl rfl rfl (hb hby at_715) ?_
        intro T445 h445 X445 e445 W445 V445
        have N446 := Fr.snoc X445 N_c13 g_b306
        have HS447 := HS.wr HS_c13 W445 (own_arySafe hZ.alike f_c13_2 (by decide))
        have O448 := O_c13.wr W445 g_b306
        have Z449 : n0 ≤ h445.size := by rw [W445.size]; exact Z_c13
        show Go p e below _ T445 (mkF m 716 #[jv p0, .second, iv p1, iv p2, iv p3, rv b1, jv (Int64.ofNat W), .second, iv (Int32.ofNat len), iv fl, iv (Int32.ofNat d), iv (Int32.ofNat e_), iv (Int32.ofNat x), rv b119, rv b306, .unset, .unset, .unset, .unset] [])
        rw [IL_set hlt] at V445
        have f450 := (f_c13_0.other W445 ne_b1_b306)
        have f451 := (f_c13_1.other W445 ne_b119_b306)
        exact c14 T445 _ _  X445 e445 N446 O448 Z449 HS447 f450 f451 (IL_congr (f := fun q => if q = 13 then Int32.ofNat (fc W d e_ 13) else if q < 13 then Int32.ofNat (fc W d e_ q) else 0) (f' := (fun q => if q < 14 then Int32.ofNat (fc W d e_ q) else 0)) (fun q hq => own_fill (fun q => Int32.ofNat (fc W d e_ q)) 13 q) ▸ V445) 
      ·
        refine Go.st (T' := T_c13) (g' := (mkF m 716 #[jv p0, .second, iv p1, iv p2, iv p3, rv b1, jv (Int64.ofNat W), .second, iv (Int32.ofNat len), iv fl, iv (Int32.ofNat d), iv (Int32.ofNat e_), iv (Int32.ofNat x), rv b119, rv b306, .unset, .unset, .unset, .unset] [])) ?_ (fun _ kk_ => XS.icmpYes X_c13.here hx rfl (pc0 := 703) (pc' := 716) rfl (hb hby at_703) rfl (flt (hl : ¬ ((13 : Int32) < (Int32.ofNat len)))).2.2.2 (by decide) (by decide) kk_)
        have hge : ¬ 13 < len := fun z => hl ((own_lt (i := 13) (by decide) (by omega)).mpr z)
        exact c14 T_c13 _ _  X_c13 e_c13 N_c13 O_c13 Z_c13 HS_c13 f_c13_0 f_c13_1 (IL_congr (n := len) (f := (fun q => if q < 13 then Int32.ofNat (fc W d e_ q) else 0)) (f' := (fun q => if q < 14 then Int32.ofNat (fc W d e_ q) else 0)) (fun q hq => by rw [if_pos (by omega), if_pos (by omega)]) ▸ f_c13_2) 
    have c12 : ∀ (T_c12 : State) (h_c12 : Heap) (lo_c12 : List Loc) , Stand p l e room_1 (s.setVm s.vm) m #[(.long p0), (.int p1), (.int p2), (.int p3)] below meth c T_c12 lo_c12 3 61 → T_c12.heap = h_c12 → Fr n0 lo_c12 → Old Z n0 h_c12 → n0 ≤ h_c12.size → HS Z consts_1 s s.heap s.vm h_c12 → Ary Z h_c12 b1 .long PWL → Ary Z h_c12 b119 .char (IL 21 (fun q => Int32.ofNat (fc W d e_ q))) → Ary Z h_c12 b306 .char (IL len (fun q => if q < 12 then Int32.ofNat (fc W d e_ q) else 0)) → Go p e below (WfH Z consts_1 s room_1.cells room_1.slots (fun v h L => v = some (.int (1 : Int32)) ∧ Fr n0 L)) T_c12 (mkF m 682 #[jv p0, .second, iv p1, iv p2, iv p3, rv b1, jv (Int64.ofNat W), .second, iv (Int32.ofNat len), iv fl, iv (Int32.ofNat d), iv (Int32.ofNat e_), iv (Int32.ofNat x), rv b119, rv b306, .unset, .unset, .unset, .unset] []) := by
      intro T_c12 h_c12 lo_c12  X_c12 e_c12 N_c12 O_c12 Z_c12 HS_c12 f_c12_0 f_c12_1 f_c12_2
      refine Go.st (T' := T_c12) (g' := (mkF m 686 #[jv p0, .second, iv p1, iv p2, iv p3, rv b1, jv (Int64.ofNat W), .second, iv (Int32.ofNat len), iv fl, iv (Int32.ofNat d), iv (Int32.ofNat e_), iv (Int32.ofNat x), rv b119, rv b306, .unset, .unset, .unset, .unset] [(.int (12 : Int32)), (.int (Int32.ofNat len))])) ?_ (fun _ kk_ => XS.iload X_c12.here hx rfl (hb hby at_682) rfl  (XS.bipush X_c12.here hx rfl (hb hby at_684) kk_))
      by_cases hl : (12 : Int32) < (Int32.ofNat len)
      ·
        refine Go.st (T' := T_c12) (g' := (mkF m 689 #[jv p0, .second, iv p1, iv p2, iv p3, rv b1, jv (Int64.ofNat W), .second, iv (Int32.ofNat len), iv fl, iv (Int32.ofNat d), iv (Int32.ofNat e_), iv (Int32.ofNat x), rv b119, rv b306, .unset, .unset, .unset, .unset] [])) ?_ (fun _ kk_ => XS.icmpNo X_c12.here hx rfl (hb hby at_686) rfl (tlt (hl : (12 : Int32) < (Int32.ofNat len))).2.2.2 kk_)
        have hlt : 12 < len := (own_lt (i := 12) (by decide) (by omega)).mp hl
        refine Go.st (T' := T_c12) (g' := (mkF m 698 #[jv p0, .second, iv p1, iv p2, iv p3, rv b1, jv (Int64.ofNat W), .second, iv (Int32.ofNat len), iv fl, iv (Int32.ofNat d), iv (Int32.ofNat e_), iv (Int32.ofNat x), rv b119, rv b306, .unset, .unset, .unset, .unset] [(.int (Int32.ofNat (fc W d e_ 12))), (.int (12 : Int32)), (.ref b306)])) ?_ (fun _ kk_ => XS.aload X_c12.here hx rfl (hb hby at_689) rfl rfl  (XS.bipush X_c12.here hx rfl (hb hby at_691) (XS.aload X_c12.here hx rfl (hb hby at_693) rfl rfl  (XS.bipush X_c12.here hx rfl (hb hby at_695) (own_caload X_c12 hx hZ e_c12 f_c12_1 (i := 12) (v := (.int (Int32.ofNat (fc W d e_ 12)))) (IL_at (by decide)) rfl rfl rfl (hb hby at_697) kk_)))))
        refine Go.castore X_c12 hx hZ e_c12 f_c12_2 (y := (Int32.ofNat (fc W d e_ 12))) (ch_sto _ (by have := fc_dig (w := W) hd he 12; omega)) (i := 12) (by rw [IL_len]; exact hlt) rfl rfl rfl (hb hby at_698) ?_
        intro T452 h452 X452 e452 W452 V452
        have N453 := Fr.snoc X452 N_c12 g_b306
        have HS454 := HS.wr HS_c12 W452 (own_arySafe hZ.alike f_c12_2 (by decide))
        have O455 := O_c12.wr W452 g_b306
        have Z456 : n0 ≤ h452.size := by rw [W452.size]; exact Z_c12
        show Go p e below _ T452 (mkF m 699 #[jv p0, .second, iv p1, iv p2, iv p3, rv b1, jv (Int64.ofNat W), .second, iv (Int32.ofNat len), iv fl, iv (Int32.ofNat d), iv (Int32.ofNat e_), iv (Int32.ofNat x), rv b119, rv b306, .unset, .unset, .unset, .unset] [])
        rw [IL_set hlt] at V452
        have f457 := (f_c12_0.other W452 ne_b1_b306)
        have f458 := (f_c12_1.other W452 ne_b119_b306)
        exact c13 T452 _ _  X452 e452 N453 O455 Z456 HS454 f457 f458 (IL_congr (f := fun q => if q = 12 then Int32.ofNat (fc W d e_ 12) else if q < 12 then Int32.ofNat (fc W d e_ q) else 0) (f' := (fun q => if q < 13 then Int32.ofNat (fc W d e_ q) else 0)) (fun q hq => own_fill (fun q => Int32.ofNat (fc W d e_ q)) 12 q) ▸ V452) 
      ·
        refine Go.st (T' := T_c12) (g' := (mkF m 699 #[jv p0, .second, iv p1, iv p2, iv p3, rv b1, jv (Int64.ofNat W), .second, iv (Int32.ofNat len), iv fl, iv (Int32.ofNat d), iv (Int32.ofNat e_), iv (Int32.ofNat x), rv b119, rv b306, .unset, .unset, .unset, .unset] [])) ?_ (fun _ kk_ => XS.icmpYes X_c12.here hx rfl (pc0 := 686) (pc' := 699) rfl (hb hby at_686) rfl (flt (hl : ¬ ((12 : Int32) < (Int32.ofNat len)))).2.2.2 (by decide) (by decide) kk_)
        have hge : ¬ 12 < len := fun z => hl ((own_lt (i := 12) (by decide) (by omega)).mpr z)
        exact c13 T_c12 _ _  X_c12 e_c12 N_c12 O_c12 Z_c12 HS_c12 f_c12_0 f_c12_1 (IL_congr (n := len) (f := (fun q => if q < 12 then Int32.ofNat (fc W d e_ q) else 0)) (f' := (fun q => if q < 13 then Int32.ofNat (fc W d e_ q) else 0)) (fun q hq => by rw [if_pos (by omega), if_pos (by omega)]) ▸ f_c12_2) 
    have c11 : ∀ (T_c11 : State) (h_c11 : Heap) (lo_c11 : List Loc) , Stand p l e room_1 (s.setVm s.vm) m #[(.long p0), (.int p1), (.int p2), (.int p3)] below meth c T_c11 lo_c11 3 61 → T_c11.heap = h_c11 → Fr n0 lo_c11 → Old Z n0 h_c11 → n0 ≤ h_c11.size → HS Z consts_1 s s.heap s.vm h_c11 → Ary Z h_c11 b1 .long PWL → Ary Z h_c11 b119 .char (IL 21 (fun q => Int32.ofNat (fc W d e_ q))) → Ary Z h_c11 b306 .char (IL len (fun q => if q < 11 then Int32.ofNat (fc W d e_ q) else 0)) → Go p e below (WfH Z consts_1 s room_1.cells room_1.slots (fun v h L => v = some (.int (1 : Int32)) ∧ Fr n0 L)) T_c11 (mkF m 665 #[jv p0, .second, iv p1, iv p2, iv p3, rv b1, jv (Int64.ofNat W), .second, iv (Int32.ofNat len), iv fl, iv (Int32.ofNat d), iv (Int32.ofNat e_), iv (Int32.ofNat x), rv b119, rv b306, .unset, .unset, .unset, .unset] []) := by
      intro T_c11 h_c11 lo_c11  X_c11 e_c11 N_c11 O_c11 Z_c11 HS_c11 f_c11_0 f_c11_1 f_c11_2
      refine Go.st (T' := T_c11) (g' := (mkF m 669 #[jv p0, .second, iv p1, iv p2, iv p3, rv b1, jv (Int64.ofNat W), .second, iv (Int32.ofNat len), iv fl, iv (Int32.ofNat d), iv (Int32.ofNat e_), iv (Int32.ofNat x), rv b119, rv b306, .unset, .unset, .unset, .unset] [(.int (11 : Int32)), (.int (Int32.ofNat len))])) ?_ (fun _ kk_ => XS.iload X_c11.here hx rfl (hb hby at_665) rfl  (XS.bipush X_c11.here hx rfl (hb hby at_667) kk_))
      by_cases hl : (11 : Int32) < (Int32.ofNat len)
      ·
        refine Go.st (T' := T_c11) (g' := (mkF m 672 #[jv p0, .second, iv p1, iv p2, iv p3, rv b1, jv (Int64.ofNat W), .second, iv (Int32.ofNat len), iv fl, iv (Int32.ofNat d), iv (Int32.ofNat e_), iv (Int32.ofNat x), rv b119, rv b306, .unset, .unset, .unset, .unset] [])) ?_ (fun _ kk_ => XS.icmpNo X_c11.here hx rfl (hb hby at_669) rfl (tlt (hl : (11 : Int32) < (Int32.ofNat len))).2.2.2 kk_)
        have hlt : 11 < len := (own_lt (i := 11) (by decide) (by omega)).mp hl
        refine Go.st (T' := T_c11) (g' := (mkF m 681 #[jv p0, .second, iv p1, iv p2, iv p3, rv b1, jv (Int64.ofNat W), .second, iv (Int32.ofNat len), iv fl, iv (Int32.ofNat d), iv (Int32.ofNat e_), iv (Int32.ofNat x), rv b119, rv b306, .unset, .unset, .unset, .unset] [(.int (Int32.ofNat (fc W d e_ 11))), (.int (11 : Int32)), (.ref b306)])) ?_ (fun _ kk_ => XS.aload X_c11.here hx rfl (hb hby at_672) rfl rfl  (XS.bipush X_c11.here hx rfl (hb hby at_674) (XS.aload X_c11.here hx rfl (hb hby at_676) rfl rfl  (XS.bipush X_c11.here hx rfl (hb hby at_678) (own_caload X_c11 hx hZ e_c11 f_c11_1 (i := 11) (v := (.int (Int32.ofNat (fc W d e_ 11)))) (IL_at (by decide)) rfl rfl rfl (hb hby at_680) kk_)))))
        refine Go.castore X_c11 hx hZ e_c11 f_c11_2 (y := (Int32.ofNat (fc W d e_ 11))) (ch_sto _ (by have := fc_dig (w := W) hd he 11; omega)) (i := 11) (by rw [IL_len]; exact hlt) rfl rfl rfl (hb hby at_681) ?_
        intro T459 h459 X459 e459 W459 V459
        have N460 := Fr.snoc X459 N_c11 g_b306
        have HS461 := HS.wr HS_c11 W459 (own_arySafe hZ.alike f_c11_2 (by decide))
        have O462 := O_c11.wr W459 g_b306
        have Z463 : n0 ≤ h459.size := by rw [W459.size]; exact Z_c11
        show Go p e below _ T459 (mkF m 682 #[jv p0, .second, iv p1, iv p2, iv p3, rv b1, jv (Int64.ofNat W), .second, iv (Int32.ofNat len), iv fl, iv (Int32.ofNat d), iv (Int32.ofNat e_), iv (Int32.ofNat x), rv b119, rv b306, .unset, .unset, .unset, .unset] [])
        rw [IL_set hlt] at V459
        have f464 := (f_c11_0.other W459 ne_b1_b306)
        have f465 := (f_c11_1.other W459 ne_b119_b306)
        exact c12 T459 _ _  X459 e459 N460 O462 Z463 HS461 f464 f465 (IL_congr (f := fun q => if q = 11 then Int32.ofNat (fc W d e_ 11) else if q < 11 then Int32.ofNat (fc W d e_ q) else 0) (f' := (fun q => if q < 12 then Int32.ofNat (fc W d e_ q) else 0)) (fun q hq => own_fill (fun q => Int32.ofNat (fc W d e_ q)) 11 q) ▸ V459) 
      ·
        refine Go.st (T' := T_c11) (g' := (mkF m 682 #[jv p0, .second, iv p1, iv p2, iv p3, rv b1, jv (Int64.ofNat W), .second, iv (Int32.ofNat len), iv fl, iv (Int32.ofNat d), iv (Int32.ofNat e_), iv (Int32.ofNat x), rv b119, rv b306, .unset, .unset, .unset, .unset] [])) ?_ (fun _ kk_ => XS.icmpYes X_c11.here hx rfl (pc0 := 669) (pc' := 682) rfl (hb hby at_669) rfl (flt (hl : ¬ ((11 : Int32) < (Int32.ofNat len)))).2.2.2 (by decide) (by decide) kk_)
        have hge : ¬ 11 < len := fun z => hl ((own_lt (i := 11) (by decide) (by omega)).mpr z)
        exact c12 T_c11 _ _  X_c11 e_c11 N_c11 O_c11 Z_c11 HS_c11 f_c11_0 f_c11_1 (IL_congr (n := len) (f := (fun q => if q < 11 then Int32.ofNat (fc W d e_ q) else 0)) (f' := (fun q => if q < 12 then Int32.ofNat (fc W d e_ q) else 0)) (fun q hq => by rw [if_pos (by omega), if_pos (by omega)]) ▸ f_c11_2) 
    have c10 : ∀ (T_c10 : State) (h_c10 : Heap) (lo_c10 : List Loc) , Stand p l e room_1 (s.setVm s.vm) m #[(.long p0), (.int p1), (.int p2), (.int p3)] below meth c T_c10 lo_c10 3 61 → T_c10.heap = h_c10 → Fr n0 lo_c10 → Old Z n0 h_c10 → n0 ≤ h_c10.size → HS Z consts_1 s s.heap s.vm h_c10 → Ary Z h_c10 b1 .long PWL → Ary Z h_c10 b119 .char (IL 21 (fun q => Int32.ofNat (fc W d e_ q))) → Ary Z h_c10 b306 .char (IL len (fun q => if q < 10 then Int32.ofNat (fc W d e_ q) else 0)) → Go p e below (WfH Z consts_1 s room_1.cells room_1.slots (fun v h L => v = some (.int (1 : Int32)) ∧ Fr n0 L)) T_c10 (mkF m 648 #[jv p0, .second, iv p1, iv p2, iv p3, rv b1, jv (Int64.ofNat W), .second, iv (Int32.ofNat len), iv fl, iv (Int32.ofNat d), iv (Int32.ofNat e_), iv (Int32.ofNat x), rv b119, rv b306, .unset, .unset, .unset, .unset] []) := by
      intro T_c10 h_c10 lo_c10  X_c10 e_c10 N_c10 O_c10 Z_c10 HS_c10 f_c10_0 f_c10_1 f_c10_2
      refine Go.st (T' := T_c10) (g' := (mkF m 652 #[jv p0, .second, iv p1, iv p2, iv p3, rv b1, jv (Int64.ofNat W), .second, iv (Int32.ofNat len), iv fl, iv (Int32.ofNat d), iv (Int32.ofNat e_), iv (Int32.ofNat x), rv b119, rv b306, .unset, .unset, .unset, .unset] [(.int (10 : Int32)), (.int (Int32.ofNat len))])) ?_ (fun _ kk_ => XS.iload X_c10.here hx rfl (hb hby at_648) rfl  (XS.bipush X_c10.here hx rfl (hb hby at_650) kk_))
      by_cases hl : (10 : Int32) < (Int32.ofNat len)
      ·
        refine Go.st (T' := T_c10) (g' := (mkF m 655 #[jv p0, .second, iv p1, iv p2, iv p3, rv b1, jv (Int64.ofNat W), .second, iv (Int32.ofNat len), iv fl, iv (Int32.ofNat d), iv (Int32.ofNat e_), iv (Int32.ofNat x), rv b119, rv b306, .unset, .unset, .unset, .unset] [])) ?_ (fun _ kk_ => XS.icmpNo X_c10.here hx rfl (hb hby at_652) rfl (tlt (hl : (10 : Int32) < (Int32.ofNat len))).2.2.2 kk_)
        have hlt : 10 < len := (own_lt (i := 10) (by decide) (by omega)).mp hl
        refine Go.st (T' := T_c10) (g' := (mkF m 664 #[jv p0, .second, iv p1, iv p2, iv p3, rv b1, jv (Int64.ofNat W), .second, iv (Int32.ofNat len), iv fl, iv (Int32.ofNat d), iv (Int32.ofNat e_), iv (Int32.ofNat x), rv b119, rv b306, .unset, .unset, .unset, .unset] [(.int (Int32.ofNat (fc W d e_ 10))), (.int (10 : Int32)), (.ref b306)])) ?_ (fun _ kk_ => XS.aload X_c10.here hx rfl (hb hby at_655) rfl rfl  (XS.bipush X_c10.here hx rfl (hb hby at_657) (XS.aload X_c10.here hx rfl (hb hby at_659) rfl rfl  (XS.bipush X_c10.here hx rfl (hb hby at_661) (own_caload X_c10 hx hZ e_c10 f_c10_1 (i := 10) (v := (.int (Int32.ofNat (fc W d e_ 10)))) (IL_at (by decide)) rfl rfl rfl (hb hby at_663) kk_)))))
        refine Go.castore X_c10 hx hZ e_c10 f_c10_2 (y := (Int32.ofNat (fc W d e_ 10))) (ch_sto _ (by have := fc_dig (w := W) hd he 10; omega)) (i := 10) (by rw [IL_len]; exact hlt) rfl rfl rfl (hb hby at_664) ?_
        intro T466 h466 X466 e466 W466 V466
        have N467 := Fr.snoc X466 N_c10 g_b306
        have HS468 := HS.wr HS_c10 W466 (own_arySafe hZ.alike f_c10_2 (by decide))
        have O469 := O_c10.wr W466 g_b306
        have Z470 : n0 ≤ h466.size := by rw [W466.size]; exact Z_c10
        show Go p e below _ T466 (mkF m 665 #[jv p0, .second, iv p1, iv p2, iv p3, rv b1, jv (Int64.ofNat W), .second, iv (Int32.ofNat len), iv fl, iv (Int32.ofNat d), iv (Int32.ofNat e_), iv (Int32.ofNat x), rv b119, rv b306, .unset, .unset, .unset, .unset] [])
        rw [IL_set hlt] at V466
        have f471 := (f_c10_0.other W466 ne_b1_b306)
        have f472 := (f_c10_1.other W466 ne_b119_b306)
        exact c11 T466 _ _  X466 e466 N467 O469 Z470 HS468 f471 f472 (IL_congr (f := fun q => if q = 10 then Int32.ofNat (fc W d e_ 10) else if q < 10 then Int32.ofNat (fc W d e_ q) else 0) (f' := (fun q => if q < 11 then Int32.ofNat (fc W d e_ q) else 0)) (fun q hq => own_fill (fun q => Int32.ofNat (fc W d e_ q)) 10 q) ▸ V466) 
      ·
        refine Go.st (T' := T_c10) (g' := (mkF m 665 #[jv p0, .second, iv p1, iv p2, iv p3, rv b1, jv (Int64.ofNat W), .second, iv (Int32.ofNat len), iv fl, iv (Int32.ofNat d), iv (Int32.ofNat e_), iv (Int32.ofNat x), rv b119, rv b306, .unset, .unset, .unset, .unset] [])) ?_ (fun _ kk_ => XS.icmpYes X_c10.here hx rfl (pc0 := 652) (pc' := 665) rfl (hb hby at_652) rfl (flt (hl : ¬ ((10 : Int32) < (Int32.ofNat len)))).2.2.2 (by decide) (by decide) kk_)
        have hge : ¬ 10 < len := fun z => hl ((own_lt (i := 10) (by decide) (by omega)).mpr z)
        exact c11 T_c10 _ _  X_c10 e_c10 N_c10 O_c10 Z_c10 HS_c10 f_c10_0 f_c10_1 (IL_congr (n := len) (f := (fun q => if q < 10 then Int32.ofNat (fc W d e_ q) else 0)) (f' := (fun q => if q < 11 then Int32.ofNat (fc W d e_ q) else 0)) (fun q hq => by rw [if_pos (by omega), if_pos (by omega)]) ▸ f_c10_2) 
    have c9 : ∀ (T_c9 : State) (h_c9 : Heap) (lo_c9 : List Loc) , Stand p l e room_1 (s.setVm s.vm) m #[(.long p0), (.int p1), (.int p2), (.int p3)] below meth c T_c9 lo_c9 3 61 → T_c9.heap = h_c9 → Fr n0 lo_c9 → Old Z n0 h_c9 → n0 ≤ h_c9.size → HS Z consts_1 s s.heap s.vm h_c9 → Ary Z h_c9 b1 .long PWL → Ary Z h_c9 b119 .char (IL 21 (fun q => Int32.ofNat (fc W d e_ q))) → Ary Z h_c9 b306 .char (IL len (fun q => if q < 9 then Int32.ofNat (fc W d e_ q) else 0)) → Go p e below (WfH Z consts_1 s room_1.cells room_1.slots (fun v h L => v = some (.int (1 : Int32)) ∧ Fr n0 L)) T_c9 (mkF m 631 #[jv p0, .second, iv p1, iv p2, iv p3, rv b1, jv (Int64.ofNat W), .second, iv (Int32.ofNat len), iv fl, iv (Int32.ofNat d), iv (Int32.ofNat e_), iv (Int32.ofNat x), rv b119, rv b306, .unset, .unset, .unset, .unset] []) := by
      intro T_c9 h_c9 lo_c9  X_c9 e_c9 N_c9 O_c9 Z_c9 HS_c9 f_c9_0 f_c9_1 f_c9_2
      refine Go.st (T' := T_c9) (g' := (mkF m 635 #[jv p0, .second, iv p1, iv p2, iv p3, rv b1, jv (Int64.ofNat W), .second, iv (Int32.ofNat len), iv fl, iv (Int32.ofNat d), iv (Int32.ofNat e_), iv (Int32.ofNat x), rv b119, rv b306, .unset, .unset, .unset, .unset] [(.int (9 : Int32)), (.int (Int32.ofNat len))])) ?_ (fun _ kk_ => XS.iload X_c9.here hx rfl (hb hby at_631) rfl  (XS.bipush X_c9.here hx rfl (hb hby at_633) kk_))
      by_cases hl : (9 : Int32) < (Int32.ofNat len)
      ·
        refine Go.st (T' := T_c9) (g' := (mkF m 638 #[jv p0, .second, iv p1, iv p2, iv p3, rv b1, jv (Int64.ofNat W), .second, iv (Int32.ofNat len), iv fl, iv (Int32.ofNat d), iv (Int32.ofNat e_), iv (Int32.ofNat x), rv b119, rv b306, .unset, .unset, .unset, .unset] [])) ?_ (fun _ kk_ => XS.icmpNo X_c9.here hx rfl (hb hby at_635) rfl (tlt (hl : (9 : Int32) < (Int32.ofNat len))).2.2.2 kk_)
        have hlt : 9 < len := (own_lt (i := 9) (by decide) (by omega)).mp hl
        refine Go.st (T' := T_c9) (g' := (mkF m 647 #[jv p0, .second, iv p1, iv p2, iv p3, rv b1, jv (Int64.ofNat W), .second, iv (Int32.ofNat len), iv fl, iv (Int32.ofNat d), iv (Int32.ofNat e_), iv (Int32.ofNat x), rv b119, rv b306, .unset, .unset, .unset, .unset] [(.int (Int32.ofNat (fc W d e_ 9))), (.int (9 : Int32)), (.ref b306)])) ?_ (fun _ kk_ => XS.aload X_c9.here hx rfl (hb hby at_638) rfl rfl  (XS.bipush X_c9.here hx rfl (hb hby at_640) (XS.aload X_c9.here hx rfl (hb hby at_642) rfl rfl  (XS.bipush X_c9.here hx rfl (hb hby at_644) (own_caload X_c9 hx hZ e_c9 f_c9_1 (i := 9) (v := (.int (Int32.ofNat (fc W d e_ 9)))) (IL_at (by decide)) rfl rfl rfl (hb hby at_646) kk_)))))
        refine Go.castore X_c9 hx hZ e_c9 f_c9_2 (y := (Int32.ofNat (fc W d e_ 9))) (ch_sto _ (by have := fc_dig (w := W) hd he 9; omega)) (i := 9) (by rw [IL_len]; exact hlt) rfl rfl rfl (hb hby at_647) ?_
        intro T473 h473 X473 e473 W473 V473
        have N474 := Fr.snoc X473 N_c9 g_b306
        have HS475 := HS.wr HS_c9 W473 (own_arySafe hZ.alike f_c9_2 (by decide))
        have O476 := O_c9.wr W473 g_b306
        have Z477 : n0 ≤ h473.size := by rw [W473.size]; exact Z_c9
        show Go p e below _ T473 (mkF m 648 #[jv p0, .second, iv p1, iv p2, iv p3, rv b1, jv (Int64.ofNat W), .second, iv (Int32.ofNat len), iv fl, iv (Int32.ofNat d), iv (Int32.ofNat e_), iv (Int32.ofNat x), rv b119, rv b306, .unset, .unset, .unset, .unset] [])
        rw [IL_set hlt] at V473
        have f478 := (f_c9_0.other W473 ne_b1_b306)
        have f479 := (f_c9_1.other W473 ne_b119_b306)
        exact c10 T473 _ _  X473 e473 N474 O476 Z477 HS475 f478 f479 (IL_congr (f := fun q => if q = 9 then Int32.ofNat (fc W d e_ 9) else if q < 9 then Int32.ofNat (fc W d e_ q) else 0) (f' := (fun q => if q < 10 then Int32.ofNat (fc W d e_ q) else 0)) (fun q hq => own_fill (fun q => Int32.ofNat (fc W d e_ q)) 9 q) ▸ V473) 
      ·
        refine Go.st (T' := T_c9) (g' := (mkF m 648 #[jv p0, .second, iv p1, iv p2, iv p3, rv b1, jv (Int64.ofNat W), .second, iv (Int32.ofNat len), iv fl, iv (Int32.ofNat d), iv (Int32.ofNat e_), iv (Int32.ofNat x), rv b119, rv b306, .unset, .unset, .unset, .unset] [])) ?_ (fun _ kk_ => XS.icmpYes X_c9.here hx rfl (pc0 := 635) (pc' := 648) rfl (hb hby at_635) rfl (flt (hl : ¬ ((9 : Int32) < (Int32.ofNat len)))).2.2.2 (by decide) (by decide) kk_)
        have hge : ¬ 9 < len := fun z => hl ((own_lt (i := 9) (by decide) (by omega)).mpr z)
        exact c10 T_c9 _ _  X_c9 e_c9 N_c9 O_c9 Z_c9 HS_c9 f_c9_0 f_c9_1 (IL_congr (n := len) (f := (fun q => if q < 9 then Int32.ofNat (fc W d e_ q) else 0)) (f' := (fun q => if q < 10 then Int32.ofNat (fc W d e_ q) else 0)) (fun q hq => by rw [if_pos (by omega), if_pos (by omega)]) ▸ f_c9_2) 
    have c8 : ∀ (T_c8 : State) (h_c8 : Heap) (lo_c8 : List Loc) , Stand p l e room_1 (s.setVm s.vm) m #[(.long p0), (.int p1), (.int p2), (.int p3)] below meth c T_c8 lo_c8 3 61 → T_c8.heap = h_c8 → Fr n0 lo_c8 → Old Z n0 h_c8 → n0 ≤ h_c8.size → HS Z consts_1 s s.heap s.vm h_c8 → Ary Z h_c8 b1 .long PWL → Ary Z h_c8 b119 .char (IL 21 (fun q => Int32.ofNat (fc W d e_ q))) → Ary Z h_c8 b306 .char (IL len (fun q => if q < 8 then Int32.ofNat (fc W d e_ q) else 0)) → Go p e below (WfH Z consts_1 s room_1.cells room_1.slots (fun v h L => v = some (.int (1 : Int32)) ∧ Fr n0 L)) T_c8 (mkF m 614 #[jv p0, .second, iv p1, iv p2, iv p3, rv b1, jv (Int64.ofNat W), .second, iv (Int32.ofNat len), iv fl, iv (Int32.ofNat d), iv (Int32.ofNat e_), iv (Int32.ofNat x), rv b119, rv b306, .unset, .unset, .unset, .unset] []) := by
      intro T_c8 h_c8 lo_c8  X_c8 e_c8 N_c8 O_c8 Z_c8 HS_c8 f_c8_0 f_c8_1 f_c8_2
      refine Go.st (T' := T_c8) (g' := (mkF m 618 #[jv p0, .second, iv p1, iv p2, iv p3, rv b1, jv (Int64.ofNat W), .second, iv (Int32.ofNat len), iv fl, iv (Int32.ofNat d), iv (Int32.ofNat e_), iv (Int32.ofNat x), rv b119, rv b306, .unset, .unset, .unset, .unset] [(.int (8 : Int32)), (.int (Int32.ofNat len))])) ?_ (fun _ kk_ => XS.iload X_c8.here hx rfl (hb hby at_614) rfl  (XS.bipush X_c8.here hx rfl (hb hby at_616) kk_))
      by_cases hl : (8 : Int32) < (Int32.ofNat len)
      ·
        refine Go.st (T' := T_c8) (g' := (mkF m 621 #[jv p0, .second, iv p1, iv p2, iv p3, rv b1, jv (Int64.ofNat W), .second, iv (Int32.ofNat len), iv fl, iv (Int32.ofNat d), iv (Int32.ofNat e_), iv (Int32.ofNat x), rv b119, rv b306, .unset, .unset, .unset, .unset] [])) ?_ (fun _ kk_ => XS.icmpNo X_c8.here hx rfl (hb hby at_618) rfl (tlt (hl : (8 : Int32) < (Int32.ofNat len))).2.2.2 kk_)
        have hlt : 8 < len := (own_lt (i := 8) (by decide) (by omega)).mp hl
        refine Go.st (T' := T_c8) (g' := (mkF m 630 #[jv p0, .second, iv p1, iv p2, iv p3, rv b1, jv (Int64.ofNat W), .second, iv (Int32.ofNat len), iv fl, iv (Int32.ofNat d), iv (Int32.ofNat e_), iv (Int32.ofNat x), rv b119, rv b306, .unset, .unset, .unset, .unset] [(.int (Int32.ofNat (fc W d e_ 8))), (.int (8 : Int32)), (.ref b306)])) ?_ (fun _ kk_ => XS.aload X_c8.here hx rfl (hb hby at_621) rfl rfl  (XS.bipush X_c8.here hx rfl (hb hby at_623) (XS.aload X_c8.here hx rfl (hb hby at_625) rfl rfl  (XS.bipush X_c8.here hx rfl (hb hby at_627) (own_caload X_c8 hx hZ e_c8 f_c8_1 (i := 8) (v := (.int (Int32.ofNat (fc W d e_ 8)))) (IL_at (by decide)) rfl rfl rfl (hb hby at_629) kk_)))))
        refine Go.castore X_c8 hx hZ e_c8 f_c8_2 (y := (Int32.ofNat (fc W d e_ 8))) (ch_sto _ (by have := fc_dig (w := W) hd he 8; omega)) (i := 8) (by rw [IL_len]; exact hlt) rfl rfl rfl (hb hby at_630) ?_
        intro T480 h480 X480 e480 W480 V480
        have N481 := Fr.snoc X480 N_c8 g_b306
        have HS482 := HS.wr HS_c8 W480 (own_arySafe hZ.alike f_c8_2 (by decide))
        have O483 := O_c8.wr W480 g_b306
        have Z484 : n0 ≤ h480.size := by rw [W480.size]; exact Z_c8
        show Go p e below _ T480 (mkF m 631 #[jv p0, .second, iv p1, iv p2, iv p3, rv b1, jv (Int64.ofNat W), .second, iv (Int32.ofNat len), iv fl, iv (Int32.ofNat d), iv (Int32.ofNat e_), iv (Int32.ofNat x), rv b119, rv b306, .unset, .unset, .unset, .unset] [])
        rw [IL_set hlt] at V480
        have f485 := (f_c8_0.other W480 ne_b1_b306)
        have f486 := (f_c8_1.other W480 ne_b119_b306)
        exact c9 T480 _ _  X480 e480 N481 O483 Z484 HS482 f485 f486 (IL_congr (f := fun q => if q = 8 then Int32.ofNat (fc W d e_ 8) else if q < 8 then Int32.ofNat (fc W d e_ q) else 0) (f' := (fun q => if q < 9 then Int32.ofNat (fc W d e_ q) else 0)) (fun q hq => own_fill (fun q => Int32.ofNat (fc W d e_ q)) 8 q) ▸ V480) 
      ·
        refine Go.st (T' := T_c8) (g' := (mkF m 631 #[jv p0, .second, iv p1, iv p2, iv p3, rv b1, jv (Int64.ofNat W), .second, iv (Int32.ofNat len), iv fl, iv (Int32.ofNat d), iv (Int32.ofNat e_), iv (Int32.ofNat x), rv b119, rv b306, .unset, .unset, .unset, .unset] [])) ?_ (fun _ kk_ => XS.icmpYes X_c8.here hx rfl (pc0 := 618) (pc' := 631) rfl (hb hby at_618) rfl (flt (hl : ¬ ((8 : Int32) < (Int32.ofNat len)))).2.2.2 (by decide) (by decide) kk_)
        have hge : ¬ 8 < len := fun z => hl ((own_lt (i := 8) (by decide) (by omega)).mpr z)
        exact c9 T_c8 _ _  X_c8 e_c8 N_c8 O_c8 Z_c8 HS_c8 f_c8_0 f_c8_1 (IL_congr (n := len) (f := (fun q => if q < 8 then Int32.ofNat (fc W d e_ q) else 0)) (f' := (fun q => if q < 9 then Int32.ofNat (fc W d e_ q) else 0)) (fun q hq => by rw [if_pos (by omega), if_pos (by omega)]) ▸ f_c8_2) 
    have c7 : ∀ (T_c7 : State) (h_c7 : Heap) (lo_c7 : List Loc) , Stand p l e room_1 (s.setVm s.vm) m #[(.long p0), (.int p1), (.int p2), (.int p3)] below meth c T_c7 lo_c7 3 61 → T_c7.heap = h_c7 → Fr n0 lo_c7 → Old Z n0 h_c7 → n0 ≤ h_c7.size → HS Z consts_1 s s.heap s.vm h_c7 → Ary Z h_c7 b1 .long PWL → Ary Z h_c7 b119 .char (IL 21 (fun q => Int32.ofNat (fc W d e_ q))) → Ary Z h_c7 b306 .char (IL len (fun q => if q < 7 then Int32.ofNat (fc W d e_ q) else 0)) → Go p e below (WfH Z consts_1 s room_1.cells room_1.slots (fun v h L => v = some (.int (1 : Int32)) ∧ Fr n0 L)) T_c7 (mkF m 597 #[jv p0, .second, iv p1, iv p2, iv p3, rv b1, jv (Int64.ofNat W), .second, iv (Int32.ofNat len), iv fl, iv (Int32.ofNat d), iv (Int32.ofNat e_), iv (Int32.ofNat x), rv b119, rv b306, .unset, .unset, .unset, .unset] []) := by
      intro T_c7 h_c7 lo_c7  X_c7 e_c7 N_c7 O_c7 Z_c7 HS_c7 f_c7_0 f_c7_1 f_c7_2
      refine Go.st (T' := T_c7) (g' := (mkF m 601 #[jv p0, .second, iv p1, iv p2, iv p3, rv b1, jv (Int64.ofNat W), .second, iv (Int32.ofNat len), iv fl, iv (Int32.ofNat d), iv (Int32.ofNat e_), iv (Int32.ofNat x), rv b119, rv b306, .unset, .unset, .unset, .unset] [(.int (7 : Int32)), (.int (Int32.ofNat len))])) ?_ (fun _ kk_ => XS.iload X_c7.here hx rfl (hb hby at_597) rfl  (XS.bipush X_c7.here hx rfl (hb hby at_599) kk_))
      by_cases hl : (7 : Int32) < (Int32.ofNat len)
      ·
        refine Go.st (T' := T_c7) (g' := (mkF m 604 #[jv p0, .second, iv p1, iv p2, iv p3, rv b1, jv (Int64.ofNat W), .second, iv (Int32.ofNat len), iv fl, iv (Int32.ofNat d), iv (Int32.ofNat e_), iv (Int32.ofNat x), rv b119, rv b306, .unset, .unset, .unset, .unset] [])) ?_ (fun _ kk_ => XS.icmpNo X_c7.here hx rfl (hb hby at_601) rfl (tlt (hl : (7 : Int32) < (Int32.ofNat len))).2.2.2 kk_)
        have hlt : 7 < len := (own_lt (i := 7) (by decide) (by omega)).mp hl
        refine Go.st (T' := T_c7) (g' := (mkF m 613 #[jv p0, .second, iv p1, iv p2, iv p3, rv b1, jv (Int64.ofNat W), .second, iv (Int32.ofNat len), iv fl, iv (Int32.ofNat d), iv (Int32.ofNat e_), iv (Int32.ofNat x), rv b119, rv b306, .unset, .unset, .unset, .unset] [(.int (Int32.ofNat (fc W d e_ 7))), (.int (7 : Int32)), (.ref b306)])) ?_ (fun _ kk_ => XS.aload X_c7.here hx rfl (hb hby at_604) rfl rfl  (XS.bipush X_c7.here hx rfl (hb hby at_606) (XS.aload X_c7.here hx rfl (hb hby at_608) rfl rfl  (XS.bipush X_c7.here hx rfl (hb hby at_610) (own_caload X_c7 hx hZ e_c7 f_c7_1 (i := 7) (v := (.int (Int32.ofNat (fc W d e_ 7)))) (IL_at (by decide)) rfl rfl rfl (hb hby at_612) kk_)))))
        refine Go.castore X_c7 hx hZ e_c7 f_c7_2 (y := (Int32.ofNat (fc W d e_ 7))) (ch_sto _ (by have := fc_dig (w := W) hd he 7; omega)) (i := 7) (by rw [IL_len]; exact hlt) rfl rfl rfl (hb hby at_613) ?_
        intro T487 h487 X487 e487 W487 V487
        have N488 := Fr.snoc X487 N_c7 g_b306
        have HS489 := HS.wr HS_c7 W487 (own_arySafe hZ.alike f_c7_2 (by decide))
        have O490 := O_c7.wr W487 g_b306
        have Z491 : n0 ≤ h487.size := by rw [W487.size]; exact Z_c7
        show Go p e below _ T487 (mkF m 614 #[jv p0, .second, iv p1, iv p2, iv p3, rv b1, jv (Int64.ofNat W), .second, iv (Int32.ofNat len), iv fl, iv (Int32.ofNat d), iv (Int32.ofNat e_), iv (Int32.ofNat x), rv b119, rv b306, .unset, .unset, .unset, .unset] [])
        rw [IL_set hlt] at V487
        have f492 := (f_c7_0.other W487 ne_b1_b306)
        have f493 := (f_c7_1.other W487 ne_b119_b306)
        exact c8 T487 _ _  X487 e487 N488 O490 Z491 HS489 f492 f493 (IL_congr (f := fun q => if q = 7 then Int32.ofNat (fc W d e_ 7) else if q < 7 then Int32.ofNat (fc W d e_ q) else 0) (f' := (fun q => if q < 8 then Int32.ofNat (fc W d e_ q) else 0)) (fun q hq => own_fill (fun q => Int32.ofNat (fc W d e_ q)) 7 q) ▸ V487) 
      ·
        refine Go.st (T' := T_c7) (g' := (mkF m 614 #[jv p0, .second, iv p1, iv p2, iv p3, rv b1, jv (Int64.ofNat W), .second, iv (Int32.ofNat len), iv fl, iv (Int32.ofNat d), iv (Int32.ofNat e_), iv (Int32.ofNat x), rv b119, rv b306, .unset, .unset, .unset, .unset] [])) ?_ (fun _ kk_ => XS.icmpYes X_c7.here hx rfl (pc0 := 601) (pc' := 614) rfl (hb hby at_601) rfl (flt (hl : ¬ ((7 : Int32) < (Int32.ofNat len)))).2.2.2 (by decide) (by decide) kk_)
        have hge : ¬ 7 < len := fun z => hl ((own_lt (i := 7) (by decide) (by omega)).mpr z)
        exact c8 T_c7 _ _  X_c7 e_c7 N_c7 O_c7 Z_c7 HS_c7 f_c7_0 f_c7_1 (IL_congr (n := len) (f := (fun q => if q < 7 then Int32.ofNat (fc W d e_ q) else 0)) (f' := (fun q => if q < 8 then Int32.ofNat (fc W d e_ q) else 0)) (fun q hq => by rw [if_pos (by omega), if_pos (by omega)]) ▸ f_c7_2) 
    have c6 : ∀ (T_c6 : State) (h_c6 : Heap) (lo_c6 : List Loc) , Stand p l e room_1 (s.setVm s.vm) m #[(.long p0), (.int p1), (.int p2), (.int p3)] below meth c T_c6 lo_c6 3 61 → T_c6.heap = h_c6 → Fr n0 lo_c6 → Old Z n0 h_c6 → n0 ≤ h_c6.size → HS Z consts_1 s s.heap s.vm h_c6 → Ary Z h_c6 b1 .long PWL → Ary Z h_c6 b119 .char (IL 21 (fun q => Int32.ofNat (fc W d e_ q))) → Ary Z h_c6 b306 .char (IL len (fun q => if q < 6 then Int32.ofNat (fc W d e_ q) else 0)) → Go p e below (WfH Z consts_1 s room_1.cells room_1.slots (fun v h L => v = some (.int (1 : Int32)) ∧ Fr n0 L)) T_c6 (mkF m 580 #[jv p0, .second, iv p1, iv p2, iv p3, rv b1, jv (Int64.ofNat W), .second, iv (Int32.ofNat len), iv fl, iv (Int32.ofNat d), iv (Int32.ofNat e_), iv (Int32.ofNat x), rv b119, rv b306, .unset, .unset, .unset, .unset] []) := by
      intro T_c6 h_c6 lo_c6  X_c6 e_c6 N_c6 O_c6 Z_c6 HS_c6 f_c6_0 f_c6_1 f_c6_2
      refine Go.st (T' := T_c6) (g' := (mkF m 584 #[jv p0, .second, iv p1, iv p2, iv p3, rv b1, jv (Int64.ofNat W), .second, iv (Int32.ofNat len), iv fl, iv (Int32.ofNat d), iv (Int32.ofNat e_), iv (Int32.ofNat x), rv b119, rv b306, .unset, .unset, .unset, .unset] [(.int (6 : Int32)), (.int (Int32.ofNat len))])) ?_ (fun _ kk_ => XS.iload X_c6.here hx rfl (hb hby at_580) rfl  (XS.bipush X_c6.here hx rfl (hb hby at_582) kk_))
      by_cases hl : (6 : Int32) < (Int32.ofNat len)
      ·
        refine Go.st (T' := T_c6) (g' := (mkF m 587 #[jv p0, .second, iv p1, iv p2, iv p3, rv b1, jv (Int64.ofNat W), .second, iv (Int32.ofNat len), iv fl, iv (Int32.ofNat d), iv (Int32.ofNat e_), iv (Int32.ofNat x), rv b119, rv b306, .unset, .unset, .unset, .unset] [])) ?_ (fun _ kk_ => XS.icmpNo X_c6.here hx rfl (hb hby at_584) rfl (tlt (hl : (6 : Int32) < (Int32.ofNat len))).2.2.2 kk_)
        have hlt : 6 < len := (own_lt (i := 6) (by decide) (by omega)).mp hl
        refine Go.st (T' := T_c6) (g' := (mkF m 596 #[jv p0, .second, iv p1, iv p2, iv p3, rv b1, jv (Int64.ofNat W), .second, iv (Int32.ofNat len), iv fl, iv (Int32.ofNat d), iv (Int32.ofNat e_), iv (Int32.ofNat x), rv b119, rv b306, .unset, .unset, .unset, .unset] [(.int (Int32.ofNat (fc W d e_ 6))), (.int (6 : Int32)), (.ref b306)])) ?_ (fun _ kk_ => XS.aload X_c6.here hx rfl (hb hby at_587) rfl rfl  (XS.bipush X_c6.here hx rfl (hb hby at_589) (XS.aload X_c6.here hx rfl (hb hby at_591) rfl rfl  (XS.bipush X_c6.here hx rfl (hb hby at_593) (own_caload X_c6 hx hZ e_c6 f_c6_1 (i := 6) (v := (.int (Int32.ofNat (fc W d e_ 6)))) (IL_at (by decide)) rfl rfl rfl (hb hby at_595) kk_)))))
        refine Go.castore X_c6 hx hZ e_c6 f_c6_2 (y := (Int32.ofNat (fc W d e_ 6))) (ch_sto _ (by have := fc_dig (w := W) hd he 6; omega)) (i := 6) (by rw [IL_len]; exact hlt) rfl rfl rfl (hb hby at_596) ?_
        intro T494 h494 X494 e494 W494 V494
        have N495 := Fr.snoc X494 N_c6 g_b306
        have HS496 := HS.wr HS_c6 W494 (own_arySafe hZ.alike f_c6_2 (by decide))
        have O497 := O_c6.wr W494 g_b306
        have Z498 : n0 ≤ h494.size := by rw [W494.size]; exact Z_c6
        show Go p e below _ T494 (mkF m 597 #[jv p0, .second, iv p1, iv p2, iv p3, rv b1, jv (Int64.ofNat W), .second, iv (Int32.ofNat len), iv fl, iv (Int32.ofNat d), iv (Int32.ofNat e_), iv (Int32.ofNat x), rv b119, rv b306, .unset, .unset, .unset, .unset] [])
        rw [IL_set hlt] at V494
        have f499 := (f_c6_0.other W494 ne_b1_b306)
        have f500 := (f_c6_1.other W494 ne_b119_b306)
        exact c7 T494 _ _  X494 e494 N495 O497 Z498 HS496 f499 f500 (IL_congr (f := fun q => if q = 6 then Int32.ofNat (fc W d e_ 6) else if q < 6 then Int32.ofNat (fc W d e_ q) else 0) (f' := (fun q => if q < 7 then Int32.ofNat (fc W d e_ q) else 0)) (fun q hq => own_fill (fun q => Int32.ofNat (fc W d e_ q)) 6 q) ▸ V494) 
      ·
        refine Go.st (T' := T_c6) (g' := (mkF m 597 #[jv p0, .second, iv p1, iv p2, iv p3, rv b1, jv (Int64.ofNat W), .second, iv (Int32.ofNat len), iv fl, iv (Int32.ofNat d), iv (Int32.ofNat e_), iv (Int32.ofNat x), rv b119, rv b306, .unset, .unset, .unset, .unset] [])) ?_ (fun _ kk_ => XS.icmpYes X_c6.here hx rfl (pc0 := 584) (pc' := 597) rfl (hb hby at_584) rfl (flt (hl : ¬ ((6 : Int32) < (Int32.ofNat len)))).2.2.2 (by decide) (by decide) kk_)
        have hge : ¬ 6 < len := fun z => hl ((own_lt (i := 6) (by decide) (by omega)).mpr z)
        exact c7 T_c6 _ _  X_c6 e_c6 N_c6 O_c6 Z_c6 HS_c6 f_c6_0 f_c6_1 (IL_congr (n := len) (f := (fun q => if q < 6 then Int32.ofNat (fc W d e_ q) else 0)) (f' := (fun q => if q < 7 then Int32.ofNat (fc W d e_ q) else 0)) (fun q hq => by rw [if_pos (by omega), if_pos (by omega)]) ▸ f_c6_2) 
    have c5 : ∀ (T_c5 : State) (h_c5 : Heap) (lo_c5 : List Loc) , Stand p l e room_1 (s.setVm s.vm) m #[(.long p0), (.int p1), (.int p2), (.int p3)] below meth c T_c5 lo_c5 3 61 → T_c5.heap = h_c5 → Fr n0 lo_c5 → Old Z n0 h_c5 → n0 ≤ h_c5.size → HS Z consts_1 s s.heap s.vm h_c5 → Ary Z h_c5 b1 .long PWL → Ary Z h_c5 b119 .char (IL 21 (fun q => Int32.ofNat (fc W d e_ q))) → Ary Z h_c5 b306 .char (IL len (fun q => if q < 5 then Int32.ofNat (fc W d e_ q) else 0)) → Go p e below (WfH Z consts_1 s room_1.cells room_1.slots (fun v h L => v = some (.int (1 : Int32)) ∧ Fr n0 L)) T_c5 (mkF m 566 #[jv p0, .second, iv p1, iv p2, iv p3, rv b1, jv (Int64.ofNat W), .second, iv (Int32.ofNat len), iv fl, iv (Int32.ofNat d), iv (Int32.ofNat e_), iv (Int32.ofNat x), rv b119, rv b306, .unset, .unset, .unset, .unset] []) := by
      intro T_c5 h_c5 lo_c5  X_c5 e_c5 N_c5 O_c5 Z_c5 HS_c5 f_c5_0 f_c5_1 f_c5_2
      refine Go.st (T' := T_c5) (g' := (mkF m 569 #[jv p0, .second, iv p1, iv p2, iv p3, rv b1, jv (Int64.ofNat W), .second, iv (Int32.ofNat len), iv fl, iv (Int32.ofNat d), iv (Int32.ofNat e_), iv (Int32.ofNat x), rv b119, rv b306, .unset, .unset, .unset, .unset] [(.int (5 : Int32)), (.int (Int32.ofNat len))])) ?_ (fun _ kk_ => XS.iload X_c5.here hx rfl (hb hby at_566) rfl  (XS.iconst X_c5.here hx rfl (hb hby at_568) kk_))
      by_cases hl : (5 : Int32) < (Int32.ofNat len)
      ·
        refine Go.st (T' := T_c5) (g' := (mkF m 572 #[jv p0, .second, iv p1, iv p2, iv p3, rv b1, jv (Int64.ofNat W), .second, iv (Int32.ofNat len), iv fl, iv (Int32.ofNat d), iv (Int32.ofNat e_), iv (Int32.ofNat x), rv b119, rv b306, .unset, .unset, .unset, .unset] [])) ?_ (fun _ kk_ => XS.icmpNo X_c5.here hx rfl (hb hby at_569) rfl (tlt (hl : (5 : Int32) < (Int32.ofNat len))).2.2.2 kk_)
        have hlt : 5 < len := (own_lt (i := 5) (by decide) (by omega)).mp hl
        refine Go.st (T' := T_c5) (g' := (mkF m 579 #[jv p0, .second, iv p1, iv p2, iv p3, rv b1, jv (Int64.ofNat W), .second, iv (Int32.ofNat len), iv fl, iv (Int32.ofNat d), iv (Int32.ofNat e_), iv (Int32.ofNat x), rv b119, rv b306, .unset, .unset, .unset, .unset] [(.int (Int32.ofNat (fc W d e_ 5))), (.int (5 : Int32)), (.ref b306)])) ?_ (fun _ kk_ => XS.aload X_c5.here hx rfl (hb hby at_572) rfl rfl  (XS.iconst X_c5.here hx rfl (hb hby at_574) (XS.aload X_c5.here hx rfl (hb hby at_575) rfl rfl  (XS.iconst X_c5.here hx rfl (hb hby at_577) (own_caload X_c5 hx hZ e_c5 f_c5_1 (i := 5) (v := (.int (Int32.ofNat (fc W d e_ 5)))) (IL_at (by decide)) rfl rfl rfl (hb hby at_578) kk_)))))
        refine Go.castore X_c5 hx hZ e_c5 f_c5_2 (y := (Int32.ofNat (fc W d e_ 5))) (ch_sto _ (by have := fc_dig (w := W) hd he 5; omega)) (i := 5) (by rw [IL_len]; exact hlt) rfl rfl rfl (hb hby at_579) ?_
        intro T501 h501 X501 e501 W501 V501
        have N502 := Fr.snoc X501 N_c5 g_b306
        have HS503 := HS.wr HS_c5 W501 (own_arySafe hZ.alike f_c5_2 (by decide))
        have O504 := O_c5.wr W501 g_b306
        have Z505 : n0 ≤ h501.size := by rw [W501.size]; exact Z_c5
        show Go p e below _ T501 (mkF m 580 #[jv p0, .second, iv p1, iv p2, iv p3, rv b1, jv (Int64.ofNat W), .second, iv (Int32.ofNat len), iv fl, iv (Int32.ofNat d), iv (Int32.ofNat e_), iv (Int32.ofNat x), rv b119, rv b306, .unset, .unset, .unset, .unset] [])
        rw [IL_set hlt] at V501
        have f506 := (f_c5_0.other W501 ne_b1_b306)
        have f507 := (f_c5_1.other W501 ne_b119_b306)
        exact c6 T501 _ _  X501 e501 N502 O504 Z505 HS503 f506 f507 (IL_congr (f := fun q => if q = 5 then Int32.ofNat (fc W d e_ 5) else if q < 5 then Int32.ofNat (fc W d e_ q) else 0) (f' := (fun q => if q < 6 then Int32.ofNat (fc W d e_ q) else 0)) (fun q hq => own_fill (fun q => Int32.ofNat (fc W d e_ q)) 5 q) ▸ V501) 
      ·
        refine Go.st (T' := T_c5) (g' := (mkF m 580 #[jv p0, .second, iv p1, iv p2, iv p3, rv b1, jv (Int64.ofNat W), .second, iv (Int32.ofNat len), iv fl, iv (Int32.ofNat d), iv (Int32.ofNat e_), iv (Int32.ofNat x), rv b119, rv b306, .unset, .unset, .unset, .unset] [])) ?_ (fun _ kk_ => XS.icmpYes X_c5.here hx rfl (pc0 := 569) (pc' := 580) rfl (hb hby at_569) rfl (flt (hl : ¬ ((5 : Int32) < (Int32.ofNat len)))).2.2.2 (by decide) (by decide) kk_)
        have hge : ¬ 5 < len := fun z => hl ((own_lt (i := 5) (by decide) (by omega)).mpr z)
        exact c6 T_c5 _ _  X_c5 e_c5 N_c5 O_c5 Z_c5 HS_c5 f_c5_0 f_c5_1 (IL_congr (n := len) (f := (fun q => if q < 5 then Int32.ofNat (fc W d e_ q) else 0)) (f' := (fun q => if q < 6 then Int32.ofNat (fc W d e_ q) else 0)) (fun q hq => by rw [if_pos (by omega), if_pos (by omega)]) ▸ f_c5_2) 
    have c4 : ∀ (T_c4 : State) (h_c4 : Heap) (lo_c4 : List Loc) , Stand p l e room_1 (s.setVm s.vm) m #[(.long p0), (.int p1), (.int p2), (.int p3)] below meth c T_c4 lo_c4 3 61 → T_c4.heap = h_c4 → Fr n0 lo_c4 → Old Z n0 h_c4 → n0 ≤ h_c4.size → HS Z consts_1 s s.heap s.vm h_c4 → Ary Z h_c4 b1 .long PWL → Ary Z h_c4 b119 .char (IL 21 (fun q => Int32.ofNat (fc W d e_ q))) → Ary Z h_c4 b306 .char (IL len (fun q => if q < 4 then Int32.ofNat (fc W d e_ q) else 0)) → Go p e below (WfH Z consts_1 s room_1.cells room_1.slots (fun v h L => v = some (.int (1 : Int32)) ∧ Fr n0 L)) T_c4 (mkF m 552 #[jv p0, .second, iv p1, iv p2, iv p3, rv b1, jv (Int64.ofNat W), .second, iv (Int32.ofNat len), iv fl, iv (Int32.ofNat d), iv (Int32.ofNat e_), iv (Int32.ofNat x), rv b119, rv b306, .unset, .unset, .unset, .unset] []) := by
      intro T_c4 h_c4 lo_c4  X_c4 e_c4 N_c4 O_c4 Z_c4 HS_c4 f_c4_0 f_c4_1 f_c4_2
      refine Go.st (T' := T_c4) (g' := (mkF m 555 #[jv p0, .second, iv p1, iv p2, iv p3, rv b1, jv (Int64.ofNat W), .second, iv (Int32.ofNat len), iv fl, iv (Int32.ofNat d), iv (Int32.ofNat e_), iv (Int32.ofNat x), rv b119, rv b306, .unset, .unset, .unset, .unset] [(.int (4 : Int32)), (.int (Int32.ofNat len))])) ?_ (fun _ kk_ => XS.iload X_c4.here hx rfl (hb hby at_552) rfl  (XS.iconst X_c4.here hx rfl (hb hby at_554) kk_))
      by_cases hl : (4 : Int32) < (Int32.ofNat len)
      ·
        refine Go.st (T' := T_c4) (g' := (mkF m 558 #[jv p0, .second, iv p1, iv p2, iv p3, rv b1, jv (Int64.ofNat W), .second, iv (Int32.ofNat len), iv fl, iv (Int32.ofNat d), iv (Int32.ofNat e_), iv (Int32.ofNat x), rv b119, rv b306, .unset, .unset, .unset, .unset] [])) ?_ (fun _ kk_ => XS.icmpNo X_c4.here hx rfl (hb hby at_555) rfl (tlt (hl : (4 : Int32) < (Int32.ofNat len))).2.2.2 kk_)
        have hlt : 4 < len := (own_lt (i := 4) (by decide) (by omega)).mp hl
        refine Go.st (T' := T_c4) (g' := (mkF m 565 #[jv p0, .second, iv p1, iv p2, iv p3, rv b1, jv (Int64.ofNat W), .second, iv (Int32.ofNat len), iv fl, iv (Int32.ofNat d), iv (Int32.ofNat e_), iv (Int32.ofNat x), rv b119, rv b306, .unset, .unset, .unset, .unset] [(.int (Int32.ofNat (fc W d e_ 4))), (.int (4 : Int32)), (.ref b306)])) ?_ (fun _ kk_ => XS.aload X_c4.here hx rfl (hb hby at_558) rfl rfl  (XS.iconst X_c4.here hx rfl (hb hby at_560) (XS.aload X_c4.here hx rfl (hb hby at_561) rfl rfl  (XS.iconst X_c4.here hx rfl (hb hby at_563) (own_caload X_c4 hx hZ e_c4 f_c4_1 (i := 4) (v := (.int (Int32.ofNat (fc W d e_ 4)))) (IL_at (by decide)) rfl rfl rfl (hb hby at_564) kk_)))))
        refine Go.castore X_c4 hx hZ e_c4 f_c4_2 (y := (Int32.ofNat (fc W d e_ 4))) (ch_sto _ (by have := fc_dig (w := W) hd he 4; omega)) (i := 4) (by rw [IL_len]; exact hlt) rfl rfl rfl (hb hby at_565) ?_
        intro T508 h508 X508 e508 W508 V508
        have N509 := Fr.snoc X508 N_c4 g_b306
        have HS510 := HS.wr HS_c4 W508 (own_arySafe hZ.alike f_c4_2 (by decide))
        have O511 := O_c4.wr W508 g_b306
        have Z512 : n0 ≤ h508.size := by rw [W508.size]; exact Z_c4
        show Go p e below _ T508 (mkF m 566 #[jv p0, .second, iv p1, iv p2, iv p3, rv b1, jv (Int64.ofNat W), .second, iv (Int32.ofNat len), iv fl, iv (Int32.ofNat d), iv (Int32.ofNat e_), iv (Int32.ofNat x), rv b119, rv b306, .unset, .unset, .unset, .unset] [])
        rw [IL_set hlt] at V508
        have f513 := (f_c4_0.other W508 ne_b1_b306)
        have f514 := (f_c4_1.other W508 ne_b119_b306)
        exact c5 T508 _ _  X508 e508 N509 O511 Z512 HS510 f513 f514 (IL_congr (f := fun q => if q = 4 then Int32.ofNat (fc W d e_ 4) else if q < 4 then Int32.ofNat (fc W d e_ q) else 0) (f' := (fun q => if q < 5 then Int32.ofNat (fc W d e_ q) else 0)) (fun q hq => own_fill (fun q => Int32.ofNat (fc W d e_ q)) 4 q) ▸ V508) 
      ·
        refine Go.st (T' := T_c4) (g' := (mkF m 566 #[jv p0, .second, iv p1, iv p2, iv p3, rv b1, jv (Int64.ofNat W), .second, iv (Int32.ofNat len), iv fl, iv (Int32.ofNat d), iv (Int32.ofNat e_), iv (Int32.ofNat x), rv b119, rv b306, .unset, .unset, .unset, .unset] [])) ?_ (fun _ kk_ => XS.icmpYes X_c4.here hx rfl (pc0 := 555) (pc' := 566) rfl (hb hby at_555) rfl (flt (hl : ¬ ((4 : Int32) < (Int32.ofNat len)))).2.2.2 (by decide) (by decide) kk_)
        have hge : ¬ 4 < len := fun z => hl ((own_lt (i := 4) (by decide) (by omega)).mpr z)
        exact c5 T_c4 _ _  X_c4 e_c4 N_c4 O_c4 Z_c4 HS_c4 f_c4_0 f_c4_1 (IL_congr (n := len) (f := (fun q => if q < 4 then Int32.ofNat (fc W d e_ q) else 0)) (f' := (fun q => if q < 5 then Int32.ofNat (fc W d e_ q) else 0)) (fun q hq => by rw [if_pos (by omega), if_pos (by omega)]) ▸ f_c4_2) 
    have c3 : ∀ (T_c3 : State) (h_c3 : Heap) (lo_c3 : List Loc) , Stand p l e room_1 (s.setVm s.vm) m #[(.long p0), (.int p1), (.int p2), (.int p3)] below meth c T_c3 lo_c3 3 61 → T_c3.heap = h_c3 → Fr n0 lo_c3 → Old Z n0 h_c3 → n0 ≤ h_c3.size → HS Z consts_1 s s.heap s.vm h_c3 → Ary Z h_c3 b1 .long PWL → Ary Z h_c3 b119 .char (IL 21 (fun q => Int32.ofNat (fc W d e_ q))) → Ary Z h_c3 b306 .char (IL len (fun q => if q < 3 then Int32.ofNat (fc W d e_ q) else 0)) → Go p e below (WfH Z consts_1 s room_1.cells room_1.slots (fun v h L => v = some (.int (1 : Int32)) ∧ Fr n0 L)) T_c3 (mkF m 538 #[jv p0, .second, iv p1, iv p2, iv p3, rv b1, jv (Int64.ofNat W), .second, iv (Int32.ofNat len), iv fl, iv (Int32.ofNat d), iv (Int32.ofNat e_), iv (Int32.ofNat x), rv b119, rv b306, .unset, .unset, .unset, .unset] []) := by
      intro T_c3 h_c3 lo_c3  X_c3 e_c3 N_c3 O_c3 Z_c3 HS_c3 f_c3_0 f_c3_1 f_c3_2
      refine Go.st (T' := T_c3) (g' := (mkF m 541 #[jv p0, .second, iv p1, iv p2, iv p3, rv b1, jv (Int64.ofNat W), .second, iv (Int32.ofNat len), iv fl, iv (Int32.ofNat d), iv (Int32.ofNat e_), iv (Int32.ofNat x), rv b119, rv b306, .unset, .unset, .unset, .unset] [(.int (3 : Int32)), (.int (Int32.ofNat len))])) ?_ (fun _ kk_ => XS.iload X_c3.here hx rfl (hb hby at_538) rfl  (XS.iconst X_c3.here hx rfl (hb hby at_540) kk_))
      by_cases hl : (3 : Int32) < (Int32.ofNat len)
      ·
        refine Go.st (T' := T_c3) (g' := (mkF m 544 #[jv p0, .second, iv p1, iv p2, iv p3, rv b1, jv (Int64.ofNat W), .second, iv (Int32.ofNat len), iv fl, iv (Int32.ofNat d), iv (Int32.ofNat e_), iv (Int32.ofNat x), rv b119, rv b306, .unset, .unset, .unset, .unset] [])) ?_ (fun _ kk_ => XS.icmpNo X_c3.here hx rfl (hb hby at_541) rfl (tlt (hl : (3 : Int32) < (Int32.ofNat len))).2.2.2 kk_)
        have hlt : 3 < len := (own_lt (i := 3) (by decide) (by omega)).mp hl
        refine Go.st (T' := T_c3) (g' := (mkF m 551 #[jv p0, .second, iv p1, iv p2, iv p3, rv b1, jv (Int64.ofNat W), .second, iv (Int32.ofNat len), iv fl, iv (Int32.ofNat d), iv (Int32.ofNat e_), iv (Int32.ofNat x), rv b119, rv b306, .unset, .unset, .unset, .unset] [(.int (Int32.ofNat (fc W d e_ 3))), (.int (3 : Int32)), (.ref b306)])) ?_ (fun _ kk_ => XS.aload X_c3.here hx rfl (hb hby at_544) rfl rfl  (XS.iconst X_c3.here hx rfl (hb hby at_546) (XS.aload X_c3.here hx rfl (hb hby at_547) rfl rfl  (XS.iconst X_c3.here hx rfl (hb hby at_549) (own_caload X_c3 hx hZ e_c3 f_c3_1 (i := 3) (v := (.int (Int32.ofNat (fc W d e_ 3)))) (IL_at (by decide)) rfl rfl rfl (hb hby at_550) kk_)))))
        refine Go.castore X_c3 hx hZ e_c3 f_c3_2 (y := (Int32.ofNat (fc W d e_ 3))) (ch_sto _ (by have := fc_dig (w := W) hd he 3; omega)) (i := 3) (by rw [IL_len]; exact hlt) rfl rfl rfl (hb hby at_551) ?_
        intro T515 h515 X515 e515 W515 V515
        have N516 := Fr.snoc X515 N_c3 g_b306
        have HS517 := HS.wr HS_c3 W515 (own_arySafe hZ.alike f_c3_2 (by decide))
        have O518 := O_c3.wr W515 g_b306
        have Z519 : n0 ≤ h515.size := by rw [W515.size]; exact Z_c3
        show Go p e below _ T515 (mkF m 552 #[jv p0, .second, iv p1, iv p2, iv p3, rv b1, jv (Int64.ofNat W), .second, iv (Int32.ofNat len), iv fl, iv (Int32.ofNat d), iv (Int32.ofNat e_), iv (Int32.ofNat x), rv b119, rv b306, .unset, .unset, .unset, .unset] [])
        rw [IL_set hlt] at V515
        have f520 := (f_c3_0.other W515 ne_b1_b306)
        have f521 := (f_c3_1.other W515 ne_b119_b306)
        exact c4 T515 _ _  X515 e515 N516 O518 Z519 HS517 f520 f521 (IL_congr (f := fun q => if q = 3 then Int32.ofNat (fc W d e_ 3) else if q < 3 then Int32.ofNat (fc W d e_ q) else 0) (f' := (fun q => if q < 4 then Int32.ofNat (fc W d e_ q) else 0)) (fun q hq => own_fill (fun q => Int32.ofNat (fc W d e_ q)) 3 q) ▸ V515) 
      ·
        refine Go.st (T' := T_c3) (g' := (mkF m 552 #[jv p0, .second, iv p1, iv p2, iv p3, rv b1, jv (Int64.ofNat W), .second, iv (Int32.ofNat len), iv fl, iv (Int32.ofNat d), iv (Int32.ofNat e_), iv (Int32.ofNat x), rv b119, rv b306, .unset, .unset, .unset, .unset] [])) ?_ (fun _ kk_ => XS.icmpYes X_c3.here hx rfl (pc0 := 541) (pc' := 552) rfl (hb hby at_541) rfl (flt (hl : ¬ ((3 : Int32) < (Int32.ofNat len)))).2.2.2 (by decide) (by decide) kk_)
        have hge : ¬ 3 < len := fun z => hl ((own_lt (i := 3) (by decide) (by omega)).mpr z)
        exact c4 T_c3 _ _  X_c3 e_c3 N_c3 O_c3 Z_c3 HS_c3 f_c3_0 f_c3_1 (IL_congr (n := len) (f := (fun q => if q < 3 then Int32.ofNat (fc W d e_ q) else 0)) (f' := (fun q => if q < 4 then Int32.ofNat (fc W d e_ q) else 0)) (fun q hq => by rw [if_pos (by omega), if_pos (by omega)]) ▸ f_c3_2) 
    have c2 : ∀ (T_c2 : State) (h_c2 : Heap) (lo_c2 : List Loc) , Stand p l e room_1 (s.setVm s.vm) m #[(.long p0), (.int p1), (.int p2), (.int p3)] below meth c T_c2 lo_c2 3 61 → T_c2.heap = h_c2 → Fr n0 lo_c2 → Old Z n0 h_c2 → n0 ≤ h_c2.size → HS Z consts_1 s s.heap s.vm h_c2 → Ary Z h_c2 b1 .long PWL → Ary Z h_c2 b119 .char (IL 21 (fun q => Int32.ofNat (fc W d e_ q))) → Ary Z h_c2 b306 .char (IL len (fun q => if q < 2 then Int32.ofNat (fc W d e_ q) else 0)) → Go p e below (WfH Z consts_1 s room_1.cells room_1.slots (fun v h L => v = some (.int (1 : Int32)) ∧ Fr n0 L)) T_c2 (mkF m 524 #[jv p0, .second, iv p1, iv p2, iv p3, rv b1, jv (Int64.ofNat W), .second, iv (Int32.ofNat len), iv fl, iv (Int32.ofNat d), iv (Int32.ofNat e_), iv (Int32.ofNat x), rv b119, rv b306, .unset, .unset, .unset, .unset] []) := by
      intro T_c2 h_c2 lo_c2  X_c2 e_c2 N_c2 O_c2 Z_c2 HS_c2 f_c2_0 f_c2_1 f_c2_2
      refine Go.st (T' := T_c2) (g' := (mkF m 527 #[jv p0, .second, iv p1, iv p2, iv p3, rv b1, jv (Int64.ofNat W), .second, iv (Int32.ofNat len), iv fl, iv (Int32.ofNat d), iv (Int32.ofNat e_), iv (Int32.ofNat x), rv b119, rv b306, .unset, .unset, .unset, .unset] [(.int (2 : Int32)), (.int (Int32.ofNat len))])) ?_ (fun _ kk_ => XS.iload X_c2.here hx rfl (hb hby at_524) rfl  (XS.iconst X_c2.here hx rfl (hb hby at_526) kk_))
      by_cases hl : (2 : Int32) < (Int32.ofNat len)
      ·
        refine Go.st (T' := T_c2) (g' := (mkF m 530 #[jv p0, .second, iv p1, iv p2, iv p3, rv b1, jv (Int64.ofNat W), .second, iv (Int32.ofNat len), iv fl, iv (Int32.ofNat d), iv (Int32.ofNat e_), iv (Int32.ofNat x), rv b119, rv b306, .unset, .unset, .unset, .unset] [])) ?_ (fun _ kk_ => XS.icmpNo X_c2.here hx rfl (hb hby at_527) rfl (tlt (hl : (2 : Int32) < (Int32.ofNat len))).2.2.2 kk_)
        have hlt : 2 < len := (own_lt (i := 2) (by decide) (by omega)).mp hl
        refine Go.st (T' := T_c2) (g' := (mkF m 537 #[jv p0, .second, iv p1, iv p2, iv p3, rv b1, jv (Int64.ofNat W), .second, iv (Int32.ofNat len), iv fl, iv (Int32.ofNat d), iv (Int32.ofNat e_), iv (Int32.ofNat x), rv b119, rv b306, .unset, .unset, .unset, .unset] [(.int (Int32.ofNat (fc W d e_ 2))), (.int (2 : Int32)), (.ref b306)])) ?_ (fun _ kk_ => XS.aload X_c2.here hx rfl (hb hby at_530) rfl rfl  (XS.iconst X_c2.here hx rfl (hb hby at_532) (XS.aload X_c2.here hx rfl (hb hby at_533) rfl rfl  (XS.iconst X_c2.here hx rfl (hb hby at_535) (own_caload X_c2 hx hZ e_c2 f_c2_1 (i := 2) (v := (.int (Int32.ofNat (fc W d e_ 2)))) (IL_at (by decide)) rfl rfl rfl (hb hby at_536) kk_)))))
        refine Go.castore X_c2 hx hZ e_c2 f_c2_2 (y := (Int32.ofNat (fc W d e_ 2))) (ch_sto _ (by have := fc_dig (w := W) hd he 2; omega)) (i := 2) (by rw [IL_len]; exact hlt) rfl rfl rfl (hb hby at_537) ?_
        intro T522 h522 X522 e522 W522 V522
        have N523 := Fr.snoc X522 N_c2 g_b306
        have HS524 := HS.wr HS_c2 W522 (own_arySafe hZ.alike f_c2_2 (by decide))
        have O525 := O_c2.wr W522 g_b306
        have Z526 : n0 ≤ h522.size := by rw [W522.size]; exact Z_c2
        show Go p e below _ T522 (mkF m 538 #[jv p0, .second, iv p1, iv p2, iv p3, rv b1, jv (Int64.ofNat W), .second, iv (Int32.ofNat len), iv fl, iv (Int32.ofNat d), iv (Int32.ofNat e_), iv (Int32.ofNat x), rv b119, rv b306, .unset, .unset, .unset, .unset] [])
        rw [IL_set hlt] at V522
        have f527 := (f_c2_0.other W522 ne_b1_b306)
        have f528 := (f_c2_1.other W522 ne_b119_b306)
        exact c3 T522 _ _  X522 e522 N523 O525 Z526 HS524 f527 f528 (IL_congr (f := fun q => if q = 2 then Int32.ofNat (fc W d e_ 2) else if q < 2 then Int32.ofNat (fc W d e_ q) else 0) (f' := (fun q => if q < 3 then Int32.ofNat (fc W d e_ q) else 0)) (fun q hq => own_fill (fun q => Int32.ofNat (fc W d e_ q)) 2 q) ▸ V522) 
      ·
        refine Go.st (T' := T_c2) (g' := (mkF m 538 #[jv p0, .second, iv p1, iv p2, iv p3, rv b1, jv (Int64.ofNat W), .second, iv (Int32.ofNat len), iv fl, iv (Int32.ofNat d), iv (Int32.ofNat e_), iv (Int32.ofNat x), rv b119, rv b306, .unset, .unset, .unset, .unset] [])) ?_ (fun _ kk_ => XS.icmpYes X_c2.here hx rfl (pc0 := 527) (pc' := 538) rfl (hb hby at_527) rfl (flt (hl : ¬ ((2 : Int32) < (Int32.ofNat len)))).2.2.2 (by decide) (by decide) kk_)
        have hge : ¬ 2 < len := fun z => hl ((own_lt (i := 2) (by decide) (by omega)).mpr z)
        exact c3 T_c2 _ _  X_c2 e_c2 N_c2 O_c2 Z_c2 HS_c2 f_c2_0 f_c2_1 (IL_congr (n := len) (f := (fun q => if q < 2 then Int32.ofNat (fc W d e_ q) else 0)) (f' := (fun q => if q < 3 then Int32.ofNat (fc W d e_ q) else 0)) (fun q hq => by rw [if_pos (by omega), if_pos (by omega)]) ▸ f_c2_2) 
    have c1 : ∀ (T_c1 : State) (h_c1 : Heap) (lo_c1 : List Loc) , Stand p l e room_1 (s.setVm s.vm) m #[(.long p0), (.int p1), (.int p2), (.int p3)] below meth c T_c1 lo_c1 3 61 → T_c1.heap = h_c1 → Fr n0 lo_c1 → Old Z n0 h_c1 → n0 ≤ h_c1.size → HS Z consts_1 s s.heap s.vm h_c1 → Ary Z h_c1 b1 .long PWL → Ary Z h_c1 b119 .char (IL 21 (fun q => Int32.ofNat (fc W d e_ q))) → Ary Z h_c1 b306 .char (IL len (fun q => if q < 1 then Int32.ofNat (fc W d e_ q) else 0)) → Go p e below (WfH Z consts_1 s room_1.cells room_1.slots (fun v h L => v = some (.int (1 : Int32)) ∧ Fr n0 L)) T_c1 (mkF m 510 #[jv p0, .second, iv p1, iv p2, iv p3, rv b1, jv (Int64.ofNat W), .second, iv (Int32.ofNat len), iv fl, iv (Int32.ofNat d), iv (Int32.ofNat e_), iv (Int32.ofNat x), rv b119, rv b306, .unset, .unset, .unset, .unset] []) := by
      intro T_c1 h_c1 lo_c1  X_c1 e_c1 N_c1 O_c1 Z_c1 HS_c1 f_c1_0 f_c1_1 f_c1_2
      refine Go.st (T' := T_c1) (g' := (mkF m 513 #[jv p0, .second, iv p1, iv p2, iv p3, rv b1, jv (Int64.ofNat W), .second, iv (Int32.ofNat len), iv fl, iv (Int32.ofNat d), iv (Int32.ofNat e_), iv (Int32.ofNat x), rv b119, rv b306, .unset, .unset, .unset, .unset] [(.int (1 : Int32)), (.int (Int32.ofNat len))])) ?_ (fun _ kk_ => XS.iload X_c1.here hx rfl (hb hby at_510) rfl  (XS.iconst X_c1.here hx rfl (hb hby at_512) kk_))
      by_cases hl : (1 : Int32) < (Int32.ofNat len)
      ·
        refine Go.st (T' := T_c1) (g' := (mkF m 516 #[jv p0, .second, iv p1, iv p2, iv p3, rv b1, jv (Int64.ofNat W), .second, iv (Int32.ofNat len), iv fl, iv (Int32.ofNat d), iv (Int32.ofNat e_), iv (Int32.ofNat x), rv b119, rv b306, .unset, .unset, .unset, .unset] [])) ?_ (fun _ kk_ => XS.icmpNo X_c1.here hx rfl (hb hby at_513) rfl (tlt (hl : (1 : Int32) < (Int32.ofNat len))).2.2.2 kk_)
        have hlt : 1 < len := (own_lt (i := 1) (by decide) (by omega)).mp hl
        refine Go.st (T' := T_c1) (g' := (mkF m 523 #[jv p0, .second, iv p1, iv p2, iv p3, rv b1, jv (Int64.ofNat W), .second, iv (Int32.ofNat len), iv fl, iv (Int32.ofNat d), iv (Int32.ofNat e_), iv (Int32.ofNat x), rv b119, rv b306, .unset, .unset, .unset, .unset] [(.int (Int32.ofNat (fc W d e_ 1))), (.int (1 : Int32)), (.ref b306)])) ?_ (fun _ kk_ => XS.aload X_c1.here hx rfl (hb hby at_516) rfl rfl  (XS.iconst X_c1.here hx rfl (hb hby at_518) (XS.aload X_c1.here hx rfl (hb hby at_519) rfl rfl  (XS.iconst X_c1.here hx rfl (hb hby at_521) (own_caload X_c1 hx hZ e_c1 f_c1_1 (i := 1) (v := (.int (Int32.ofNat (fc W d e_ 1)))) (IL_at (by decide)) rfl rfl rfl (hb hby at_522) kk_)))))
        refine Go.castore X_c1 hx hZ e_c1 f_c1_2 (y := (Int32.ofNat (fc W d e_ 1))) (ch_sto _ (by have := fc_dig (w := W) hd he 1; omega)) (i := 1) (by rw [IL_len]; exact hlt) rfl rfl rfl (hb hby at_523) ?_
        intro T529 h529 X529 e529 W529 V529
        have N530 := Fr.snoc X529 N_c1 g_b306
        have HS531 := HS.wr HS_c1 W529 (own_arySafe hZ.alike f_c1_2 (by decide))
        have O532 := O_c1.wr W529 g_b306
        have Z533 : n0 ≤ h529.size := by rw [W529.size]; exact Z_c1
        show Go p e below _ T529 (mkF m 524 #[jv p0, .second, iv p1, iv p2, iv p3, rv b1, jv (Int64.ofNat W), .second, iv (Int32.ofNat len), iv fl, iv (Int32.ofNat d), iv (Int32.ofNat e_), iv (Int32.ofNat x), rv b119, rv b306, .unset, .unset, .unset, .unset] [])
        rw [IL_set hlt] at V529
        have f534 := (f_c1_0.other W529 ne_b1_b306)
        have f535 := (f_c1_1.other W529 ne_b119_b306)
        exact c2 T529 _ _  X529 e529 N530 O532 Z533 HS531 f534 f535 (IL_congr (f := fun q => if q = 1 then Int32.ofNat (fc W d e_ 1) else if q < 1 then Int32.ofNat (fc W d e_ q) else 0) (f' := (fun q => if q < 2 then Int32.ofNat (fc W d e_ q) else 0)) (fun q hq => own_fill (fun q => Int32.ofNat (fc W d e_ q)) 1 q) ▸ V529) 
      ·
        refine Go.st (T' := T_c1) (g' := (mkF m 524 #[jv p0, .second, iv p1, iv p2, iv p3, rv b1, jv (Int64.ofNat W), .second, iv (Int32.ofNat len), iv fl, iv (Int32.ofNat d), iv (Int32.ofNat e_), iv (Int32.ofNat x), rv b119, rv b306, .unset, .unset, .unset, .unset] [])) ?_ (fun _ kk_ => XS.icmpYes X_c1.here hx rfl (pc0 := 513) (pc' := 524) rfl (hb hby at_513) rfl (flt (hl : ¬ ((1 : Int32) < (Int32.ofNat len)))).2.2.2 (by decide) (by decide) kk_)
        have hge : ¬ 1 < len := fun z => hl ((own_lt (i := 1) (by decide) (by omega)).mpr z)
        exact c2 T_c1 _ _  X_c1 e_c1 N_c1 O_c1 Z_c1 HS_c1 f_c1_0 f_c1_1 (IL_congr (n := len) (f := (fun q => if q < 1 then Int32.ofNat (fc W d e_ q) else 0)) (f' := (fun q => if q < 2 then Int32.ofNat (fc W d e_ q) else 0)) (fun q hq => by rw [if_pos (by omega), if_pos (by omega)]) ▸ f_c1_2) 
    have c0 : ∀ (T_c0 : State) (h_c0 : Heap) (lo_c0 : List Loc) , Stand p l e room_1 (s.setVm s.vm) m #[(.long p0), (.int p1), (.int p2), (.int p3)] below meth c T_c0 lo_c0 3 61 → T_c0.heap = h_c0 → Fr n0 lo_c0 → Old Z n0 h_c0 → n0 ≤ h_c0.size → HS Z consts_1 s s.heap s.vm h_c0 → Ary Z h_c0 b1 .long PWL → Ary Z h_c0 b119 .char (IL 21 (fun q => Int32.ofNat (fc W d e_ q))) → Ary Z h_c0 b306 .char (IL len (fun q => if q < 0 then Int32.ofNat (fc W d e_ q) else 0)) → Go p e below (WfH Z consts_1 s room_1.cells room_1.slots (fun v h L => v = some (.int (1 : Int32)) ∧ Fr n0 L)) T_c0 (mkF m 497 #[jv p0, .second, iv p1, iv p2, iv p3, rv b1, jv (Int64.ofNat W), .second, iv (Int32.ofNat len), iv fl, iv (Int32.ofNat d), iv (Int32.ofNat e_), iv (Int32.ofNat x), rv b119, rv b306, .unset, .unset, .unset, .unset] []) := by
      intro T_c0 h_c0 lo_c0  X_c0 e_c0 N_c0 O_c0 Z_c0 HS_c0 f_c0_0 f_c0_1 f_c0_2
      refine Go.st (T' := T_c0) (g' := (mkF m 499 #[jv p0, .second, iv p1, iv p2, iv p3, rv b1, jv (Int64.ofNat W), .second, iv (Int32.ofNat len), iv fl, iv (Int32.ofNat d), iv (Int32.ofNat e_), iv (Int32.ofNat x), rv b119, rv b306, .unset, .unset, .unset, .unset] [(.int (Int32.ofNat len))])) ?_ (fun _ kk_ => XS.iload X_c0.here hx rfl (hb hby at_497) rfl  kk_)
      by_cases hl : (0 : Int32) < (Int32.ofNat len)
      ·
        refine Go.st (T' := T_c0) (g' := (mkF m 502 #[jv p0, .second, iv p1, iv p2, iv p3, rv b1, jv (Int64.ofNat W), .second, iv (Int32.ofNat len), iv fl, iv (Int32.ofNat d), iv (Int32.ofNat e_), iv (Int32.ofNat x), rv b119, rv b306, .unset, .unset, .unset, .unset] [])) ?_ (fun _ kk_ => XS.ifNo X_c0.here hx rfl (hb hby at_499) rfl ((if0 _ _).trans (tlt (hl : (0 : Int32) < (Int32.ofNat len))).2.2.2) kk_)
        have hlt : 0 < len := (own_lt (i := 0) (by decide) (by omega)).mp hl
        refine Go.st (T' := T_c0) (g' := (mkF m 509 #[jv p0, .second, iv p1, iv p2, iv p3, rv b1, jv (Int64.ofNat W), .second, iv (Int32.ofNat len), iv fl, iv (Int32.ofNat d), iv (Int32.ofNat e_), iv (Int32.ofNat x), rv b119, rv b306, .unset, .unset, .unset, .unset] [(.int (Int32.ofNat (fc W d e_ 0))), (.int (0 : Int32)), (.ref b306)])) ?_ (fun _ kk_ => XS.aload X_c0.here hx rfl (hb hby at_502) rfl rfl  (XS.iconst X_c0.here hx rfl (hb hby at_504) (XS.aload X_c0.here hx rfl (hb hby at_505) rfl rfl  (XS.iconst X_c0.here hx rfl (hb hby at_507) (own_caload X_c0 hx hZ e_c0 f_c0_1 (i := 0) (v := (.int (Int32.ofNat (fc W d e_ 0)))) (IL_at (by decide)) rfl rfl rfl (hb hby at_508) kk_)))))
        refine Go.castore X_c0 hx hZ e_c0 f_c0_2 (y := (Int32.ofNat (fc W d e_ 0))) (ch_sto _ (by have := fc_dig (w := W) hd he 0; omega)) (i := 0) (by rw [IL_len]; exact hlt) rfl rfl rfl (hb hby at_509) ?_
        intro T536 h536 X536 e536 W536 V536
        have N537 := Fr.snoc X536 N_c0 g_b306
        have HS538 := HS.wr HS_c0 W536 (own_arySafe hZ.alike f_c0_2 (by decide))
        have O539 := O_c0.wr W536 g_b306
        have Z540 : n0 ≤ h536.size := by rw [W536.size]; exact Z_c0
        show Go p e below _ T536 (mkF m 510 #[jv p0, .second, iv p1, iv p2, iv p3, rv b1, jv (Int64.ofNat W), .second, iv (Int32.ofNat len), iv fl, iv (Int32.ofNat d), iv (Int32.ofNat e_), iv (Int32.ofNat x), rv b119, rv b306, .unset, .unset, .unset, .unset] [])
        rw [IL_set hlt] at V536
        have f541 := (f_c0_0.other W536 ne_b1_b306)
        have f542 := (f_c0_1.other W536 ne_b119_b306)
        exact c1 T536 _ _  X536 e536 N537 O539 Z540 HS538 f541 f542 (IL_congr (f := fun q => if q = 0 then Int32.ofNat (fc W d e_ 0) else if q < 0 then Int32.ofNat (fc W d e_ q) else 0) (f' := (fun q => if q < 1 then Int32.ofNat (fc W d e_ q) else 0)) (fun q hq => own_fill (fun q => Int32.ofNat (fc W d e_ q)) 0 q) ▸ V536) 
      ·
        refine Go.st (T' := T_c0) (g' := (mkF m 510 #[jv p0, .second, iv p1, iv p2, iv p3, rv b1, jv (Int64.ofNat W), .second, iv (Int32.ofNat len), iv fl, iv (Int32.ofNat d), iv (Int32.ofNat e_), iv (Int32.ofNat x), rv b119, rv b306, .unset, .unset, .unset, .unset] [])) ?_ (fun _ kk_ => XS.ifYes X_c0.here hx rfl (pc0 := 499) (pc' := 510) rfl (hb hby at_499) rfl ((if0 _ _).trans (flt (hl : ¬ ((0 : Int32) < (Int32.ofNat len)))).2.2.2) (by decide) (by decide) kk_)
        have hge : ¬ 0 < len := fun z => hl ((own_lt (i := 0) (by decide) (by omega)).mpr z)
        exact c1 T_c0 _ _  X_c0 e_c0 N_c0 O_c0 Z_c0 HS_c0 f_c0_0 f_c0_1 (IL_congr (n := len) (f := (fun q => if q < 0 then Int32.ofNat (fc W d e_ q) else 0)) (f' := (fun q => if q < 1 then Int32.ofNat (fc W d e_ q) else 0)) (fun q hq => by rw [if_pos (by omega), if_pos (by omega)]) ▸ f_c0_2) 
    have f543 := (f307.ext E306)
    have f544 := (V300.ext E306)
    exact c0 T306 _ _  X306 e306 N301 O309 Z310 HS308 f543 f544 (IL_congr (f := fun _ => 0) (f' := (fun q => if q < 0 then Int32.ofNat (fc W d e_ q) else 0)) (fun q hq => (if_neg (Nat.not_lt_zero q)).symm) ▸ V306) 
  by_cases hfl : (((p1.toUInt32 >>> ((5 : Int32) &&& 31).toUInt32).toInt32) &&& (1 : Int32)) = (0 : Int32)
  ·
    refine Go.st (T' := T113) (g' := (mkF m 160 #[jv p0, .second, iv p1, iv p2, iv p3, rv b1, jv (Int64.ofNat W), .second, iv (Int32.ofNat len), .unset, .unset, .unset, .unset, .unset, .unset, .unset, .unset, .unset, .unset] [(.int (0 : Int32))])) ?_ (fun _ kk_ => XS.ifYes X113.here hx rfl (pc0 := 152) (pc' := 159) rfl (hb hby at_152) rfl ((if0 _ _).trans (teq (hfl : (((p1.toUInt32 >>> ((5 : Int32) &&& 31).toUInt32).toInt32) &&& (1 : Int32)) = (0 : Int32))).1) (by decide) (by decide) (XS.iconst X113.here hx rfl (hb hby at_159) kk_))
    exact J0 T113 _ _ (0 : Int32) X113 e113 N114 O117 Z118 HS115 V113 
  ·
    refine Go.st (T' := T113) (g' := (mkF m 160 #[jv p0, .second, iv p1, iv p2, iv p3, rv b1, jv (Int64.ofNat W), .second, iv (Int32.ofNat len), .unset, .unset, .unset, .unset, .unset, .unset, .unset, .unset, .unset, .unset] [(.int (1 : Int32))])) ?_ (fun _ kk_ => XS.ifNo X113.here hx rfl (hb hby at_152) rfl ((if0 _ _).trans (feq (hfl : ¬ ((((p1.toUInt32 >>> ((5 : Int32) &&& 31).toUInt32).toInt32) &&& (1 : Int32)) = (0 : Int32)))).1) (XS.iconst X113.here hx rfl (hb hby at_155) (XS.goto X113.here hx rfl (pc0 := 156) (pc' := 160) rfl (hb hby at_156) (by decide) (by decide) kk_)))
    exact J0 T113 _ _ (1 : Int32) X113 e113 N114 O117 Z118 HS115 V113 
set_option maxRecDepth 65536 in
set_option maxHeartbeats 40000000 in
theorem comes_1 {Post : Tables → Env → Array Value → State → Outcome → State → Prop} (hpost : ∀ tb e args s v u, (limb_1_1.after args s (.returned v) u = true ∧ limb_1_2.after args s (.returned v) u = true ∧ True) → ReturnedEndW s (.returned v) u (Jvm.fieldLocs frame_1_writes args s ++ Jvm.arrayLocs frame_1_arrays args s ++ Jvm.staticLocs frame_1_statics s) 24 1408 → Post tb e args s (.returned v) u) :
    ArmFor flags0 classFile x code maxLocals ret World_1 tables_1 room_1 Calls_1 rest_1 Pre_1 Post := by
  intro l hfl _ _ p e ha hc hk s m args below hf hA hF happ hP
  obtain ⟨hcalls, hrest, hpre⟩ := hP
  obtain ⟨-, -, -, hnamed, -, -, -, hat⟩ := (Spec.applies_iff hf).mp happ
  obtain ⟨hg, hn⟩ := and_e (Cond.before_iff.mp (show (Jvm.Cond.and given_1 narrow_1).before args s = true from hpre))
  obtain ⟨h1, q0⟩ := and_e hg
  obtain ⟨w0, w1, w2, w3, rfl⟩ : ∃ w0 w1 w2 w3 : Value, args = #[w0, w1, w2, w3] := by
    have hs : args.size = 4 := by simpa [Cond.value, given_1] using h1
    obtain ⟨L⟩ := args
    match L, hs with
    | [w0, w1, w2, w3], _ => exact ⟨w0, w1, w2, w3, rfl⟩
  obtain ⟨a0, q1⟩ := and_e q0
  obtain ⟨i0, e0⟩ := isL_v a0
  obtain rfl : w0 = (.long i0) := Option.some.inj e0
  obtain ⟨a1, q2⟩ := and_e q1
  obtain ⟨i1, e1⟩ := is_v a1
  obtain rfl : w1 = (.int i1) := Option.some.inj e1
  obtain ⟨a2, q3⟩ := and_e q2
  obtain ⟨i2, e2⟩ := is_v a2
  obtain rfl : w2 = (.int i2) := Option.some.inj e2
  obtain ⟨i3, e3⟩ := is_v q3
  obtain rfl : w3 = (.int i3) := Option.some.inj e3
  have hw := fun d (hd : d ∈ tables_1) => atoms_spec (ws := Jvm.Cond.code x code maxLocals ret :: tables_1) hat d (List.mem_cons_of_mem _ hd)
  have hfit : Fit s := fun {y c} hc i hi => by
    obtain ⟨ha, rfl⟩ := Array.getElem?_eq_some_iff.mp hc
    have q := List.all_eq_true.mp ((Array.all_eq_true_iff_forall_mem.mp hF) _ (Array.getElem_mem ha)) i (List.mem_range.mpr hi)
    simpa [Array.getElem?_eq_getElem hi] using q
  obtain ⟨hsets, hown0⟩ := atoms_of _ (rest_1_c_eq ▸ (show rest_1_c.before _ s = true from hrest))
  have hEL : EW s _ consts_1 := (EW.cons (hw _ (List.mem_of_getElem? (i := 155) rfl)) (by decide) EW.nil)
  have hsub : ∀ a ∈ Bundle.stringAtoms, a ∈ tables_1 := by decide +kernel
  have wS : ∀ a ∈ Bundle.stringAtoms, a.before _ s = true := fun a q => hw a (hsub a q)
  have n5 := not_v (Cond.before_iff.mp (hsets _ (List.mem_of_getElem? (i := 2) rfl)))
  obtain ⟨cS, eS⟩ := is_v (Cond.before_iff.mp (hsets _ (List.mem_of_getElem? (i := 1) rfl)))
  have Sc : Sta s s.heap "java/lang/String" "COMPACT_STRINGS" "Z" (.int cS) := Sta.start eS (Or.inl (hsets _ (List.mem_of_getElem? (i := 0) rfl)))
  have hcS : ¬ (cS = (0 : Int32)) := gotF (Cond.eq_ints eS (Term.int_eval (0))) n5
  obtain ⟨rF, eF, hrF⟩ := isR_v (Cond.before_iff.mp (hsets _ (List.mem_of_getElem? (i := 8) rfl)))
  have Sr : Sta s s.heap "jdk/internal/util/Preconditions" "SIOOBE_FORMATTER" "Ljava/util/function/BiFunction;" rF := Sta.start eF (Or.inl (hsets _ (List.mem_of_getElem? (i := 7) rfl)))
  have hh : ∀ p ∈ consts_1, Jvm.Lit.constHeld s p.1 p.2 := hcalls.1
  have hCH : CHv s consts_1 s.vm s.heap := CHv.start hEL hh (hsets _ (List.mem_of_getElem? (i := 2) rfl)) (hw _ (List.mem_of_getElem? (i := 44) rfl)) (hw _ (List.mem_of_getElem? (i := 27) rfl))
  have Sa : Sta s s.heap "java/lang/StringUTF16" "$assertionsDisabled" "Z" (.int (1 : Int32)) := Sta.start (eqv_i (Term.int_eval (1)) (Cond.before_iff.mp (hsets _ (List.mem_of_getElem? (i := 17) rfl)))) (Or.inl (hsets _ (List.mem_of_getElem? (i := 16) rfl)))
  have Sh : Sta s s.heap "java/lang/StringUTF16" "HI_BYTE_SHIFT" "I" (.int (0 : Int32)) := Sta.start (eqv_i (Term.int_eval (0)) (Cond.before_iff.mp (hsets _ (List.mem_of_getElem? (i := 20) rfl)))) (Or.inl (hsets _ (List.mem_of_getElem? (i := 19) rfl)))
  have Sl : Sta s s.heap "java/lang/StringUTF16" "LO_BYTE_SHIFT" "I" (.int (8 : Int32)) := Sta.start (eqv_i (Term.int_eval (8)) (Cond.before_iff.mp (hsets _ (List.mem_of_getElem? (i := 23) rfl)))) (Or.inl (hsets _ (List.mem_of_getElem? (i := 22) rfl)))
  obtain ⟨eA, eE⟩ := exa_v (Cond.before_iff.mp (hsets _ (List.mem_of_getElem? (i := 11) rfl)))
  have Se : Sta s s.heap "java/util/OptionalLong" "EMPTY" "Ljava/util/OptionalLong;" (.ref eA) := Sta.start eE (Or.inl (hsets _ (List.mem_of_getElem? (i := 10) rfl)))
  have Ee : Exa s s.heap eA "java/util/OptionalLong" := Exa.start eE (Cond.before_iff.mp (hsets _ (List.mem_of_getElem? (i := 11) rfl)))
  have Fe : Fld s s.heap eA "java/util/OptionalLong" "isPresent" "Z" (.int (0 : Int32)) := Fld.start ((fld_at eE).symm.trans (eqv_i (Term.int_eval (0)) (Cond.before_iff.mp (hsets _ (List.mem_of_getElem? (i := 12) rfl)))))
  obtain ⟨n, o, h1, h2, h3, _, L, rfl, ⟨rfl, N⟩, -, hq⟩ := rm_law l s _ hw tables_1 i0 i1 i2 i3 s.heap.size cS rF eA s.heap hEL wS (Nat.le_refl _) (Old.start s) Sc hcS Sa Sh Sl Sr hrF Se Ee Fe p e ha hc hk s m _ below hf ((Spec.applies_iff_loose hf).mp happ).1 ⟨rfl, State.Warmed39.refl s, rfl, hCH⟩ trivial
  refine ⟨n, _, h1, h2, h3, hpost _ _ _ _ _ _ ⟨Cond.after_iff.mpr rfl, Cond.after_iff.mpr (eq_i res_at (Term.int_eval (1)) rfl), trivial⟩ ⟨hq.1, hq.2.1, hq.2.2.1, (hq.2.2.2.sift fun y hy => Or.inr (N y hy)).mono (by decide) (by decide)⟩⟩
theorem main_1_1 : Claimed_1_1 := comes_1 fun _ _ _ _ _ _ h hF => ⟨h.1, hF⟩
theorem main_1_2 : Claimed_1_2 := comes_1 fun _ _ _ _ _ _ h hF => ⟨h.2.1, hF⟩
end Jvm.Pilot.@@N@@
namespace Jvm.Pilot.@@N@@
open Jvm Jvm.ClassFile Sem Op Lib Jvm.Free Jvm.Stand Jvm.Pilot.@@N@@.Jvm.D
/-! MADE BY PROGRAM (witnessworld.py) out of the Statement's table words and the real class files: 23 classes; the members and pool entries that the words name. The judged class is class 1, her method 3. -/
namespace start1
open Jvm.ClassFile
def u (s : String) : CpInfo := .utf8 (stringToUtf16 s)
/-- a pool by its gaps: so many unusable entries, then the entry; so many at the end -/
def gap : Nat → List CpInfo → List CpInfo
  | 0, r => r
  | n + 1, r => .unusable :: gap n r
def poolList (es : List (Nat × CpInfo)) (last : Nat) : List CpInfo := es.foldr (fun e r => gap e.1 (e.2 :: r)) (gap last [])
def pool (es : List (Nat × CpInfo)) (last : Nat) : Array CpInfo := ⟨poolList es last⟩
def fileOf (pool : Array CpInfo) (this : Nat) (attrs : Array Attribute := #[]) (ms : Array MethodInfo := #[]) (fl : Nat := 33) (sup : Nat := 0) (ifs : Array Nat := #[]) (fds : Array FieldInfo := #[]) : ClassFile where
  minorVersion := 0
  majorVersion := 65
  constantPool := pool
  accessFlags := fl
  thisClass := this
  superClass := sup
  interfaces := ifs
  fields := fds
  methods := ms
  attributes := attrs
def plain (name : String) (sup : Option ClassId) : Class where
  name := name
  kind := .ordinary
  loader := none
  accessFlags := 33
  super := sup
  interfaces := #[]
  cf := none
  fields := #[]
  methods := #[]
  instanceTypes := #[]
  staticTypes := #[]
  resolved := #[]
  callSites := []
  init := .initialized
  statics := none
  mirror := none

def pool0 : Array CpInfo := pool [(5, u "<init>"), (0, u "()V"), (1, .class_ 10), (1, u "java/lang/Object")] 113

def k0c0 : Code := { maxStack := 0, maxLocals := 1, code := object_method_1_code, exceptionTable := #[], attributes := #[] }
def k0m0 : Method := { name := "<init>", desc := "()V", sig := { parameters := [], returnType := none }, accessFlags := 1, code := some k0c0 }
/-- java/lang/Object -/
def k0 : Class := { plain "java/lang/Object" none with
  accessFlags := 33
  interfaces := #[]
  cf := some (fileOf pool0 8 #[] #[{ accessFlags := 1, nameIndex := 5, descriptorIndex := 6, attributes := #[] }] 33 0 #[] #[])
  fields := #[]
  methods := #[k0m0]
  instanceTypes := #[]
  staticTypes := #[]
  resolved := Array.replicate 124 none
  statics := none }

def pool1 : Array CpInfo := pool [(2, .class_ 4), (1, u "java/lang/Object"), (0, u "<init>"), (0, u "()V"), (0, .long 10), (1, .long 922337203685477580), (3, .long 9223372036854775807), (1, .long 100), (1, .long 1000), (1, .long 10000), (1, .long 100000), (1, .long 1000000), (1, .long 10000000), (1, .long 100000000), (1, .long 1000000000), (1, .long 10000000000), (1, .long 100000000000), (1, .long 1000000000000), (1, .long 10000000000000), (1, .long 100000000000000), (1, .long 1000000000000000), (1, .long 10000000000000000), (1, .long 100000000000000000), (1, .long 1000000000000000000), (1, .integer 65535), (0, .methodref 51 52), (0, .class_ 53), (0, .nameAndType 54 55), (0, u "com/example/stentor/stentor/core/PositiveDecimalParsePinLaw"), (0, u "dig"), (0, u "(JJ)C"), (0, .methodref 51 57), (0, .nameAndType 58 59), (0, u "sat"), (0, u "(JI)J"), (0, .class_ 61), (0, u "java/lang/String"), (0, .methodref 60 63), (0, .nameAndType 5 64), (0, u "([C)V"), (0, .methodref 66 67), (0, .class_ 68), (0, .nameAndType 69 70), (0, u "com/example/stentor/stentor/core/PositiveDecimal"), (0, u "parse"), (0, u "(Ljava/lang/String;)Ljava/util/OptionalLong;"), (0, .methodref 72 73), (0, .class_ 74), (0, .nameAndType 75 76), (0, u "java/util/OptionalLong"), (0, u "isPresent"), (0, u "()Z"), (0, .methodref 72 78), (0, .nameAndType 79 80), (0, u "getAsLong"), (0, u "()J"), (3, u "law"), (0, u "(JIII)Z")] 6

def k1m0 : Method := { name := "<init>", desc := "()V", sig := { parameters := [], returnType := none }, accessFlags := 2, code := none }
def k1c1 : Code := { maxStack := 5, maxLocals := 4, code := method_2_code, exceptionTable := #[], attributes := #[] }
def k1m1 : Method := { name := "dig", desc := "(JJ)C", sig := { parameters := [.long, .long], returnType := some .char }, accessFlags := 10, code := some k1c1 }
def k1c2 : Code := { maxStack := 4, maxLocals := 3, code := method_3_code, exceptionTable := #[], attributes := #[] }
def k1m2 : Method := { name := "sat", desc := "(JI)J", sig := { parameters := [.long, .int], returnType := some .long }, accessFlags := 10, code := some k1c2 }
def k1c3 : Code := { maxStack := 6, maxLocals := 19, code := code, exceptionTable := #[], attributes := #[] }
def k1m3 : Method := { name := "law", desc := "(JIII)Z", sig := { parameters := [.long, .int, .int, .int], returnType := some .boolean }, accessFlags := 9, code := some k1c3 }
/-- com/example/stentor/stentor/core/PositiveDecimalParsePinLaw -/
def k1 : Class := { plain "com/example/stentor/stentor/core/PositiveDecimalParsePinLaw" (some 0) with
  accessFlags := 49
  interfaces := #[]
  cf := some (fileOf pool1 51 #[] #[{ accessFlags := 2, nameIndex := 5, descriptorIndex := 6, attributes := #[] }, { accessFlags := 10, nameIndex := 54, descriptorIndex := 55, attributes := #[] }, { accessFlags := 10, nameIndex := 58, descriptorIndex := 59, attributes := #[] }, { accessFlags := 9, nameIndex := 84, descriptorIndex := 85, attributes := #[] }] 49 2 #[] #[])
  fields := #[]
  methods := #[k1m0, k1m1, k1m2, k1m3]
  instanceTypes := #[]
  staticTypes := #[]
  resolved := Array.replicate 92 none
  statics := none }

def pool2 : Array CpInfo := pool [(1, .class_ 2), (0, u "java/io/Serializable"), (0, .class_ 4), (0, u "java/lang/Object")] 2

/-- java/io/Serializable -/
def k2 : Class := { plain "java/io/Serializable" (some 0) with
  accessFlags := 1537
  interfaces := #[]
  cf := some (fileOf pool2 1 #[] #[] 1537 3 #[] #[])
  fields := #[]
  methods := #[]
  instanceTypes := #[]
  staticTypes := #[]
  resolved := Array.replicate 7 none
  statics := none }

def pool3 : Array CpInfo := pool [(1, .class_ 2), (0, u "java/lang/Comparable"), (0, .class_ 4), (0, u "java/lang/Object")] 7

/-- java/lang/Comparable -/
def k3 : Class := { plain "java/lang/Comparable" (some 0) with
  accessFlags := 1537
  interfaces := #[]
  cf := some (fileOf pool3 1 #[] #[] 1537 3 #[] #[])
  fields := #[]
  methods := #[]
  instanceTypes := #[]
  staticTypes := #[]
  resolved := Array.replicate 12 none
  statics := none }

def pool4 : Array CpInfo := pool [(2, .class_ 4), (1, u "java/lang/CharSequence"), (42, .class_ 48), (0, u "java/lang/CharSequence$1CodePointIterator"), (10, .class_ 60), (0, u "java/lang/CharSequence$1CharIterator"), (5, .class_ 67), (0, u "java/lang/Object")] 63

/-- java/lang/CharSequence -/
def k4 : Class := { plain "java/lang/CharSequence" (some 0) with
  accessFlags := 1537
  interfaces := #[]
  cf := some (fileOf pool4 2 #[.nestMembers #[47, 59]] #[] 1537 66 #[] #[])
  fields := #[]
  methods := #[]
  instanceTypes := #[]
  staticTypes := #[]
  resolved := Array.replicate 131 none
  statics := none }

def pool5 : Array CpInfo := pool [(1, .class_ 2), (0, u "java/lang/constant/Constable"), (0, .class_ 4), (0, u "java/lang/Object")] 6

/-- java/lang/constant/Constable -/
def k5 : Class := { plain "java/lang/constant/Constable" (some 0) with
  accessFlags := 1537
  interfaces := #[]
  cf := some (fileOf pool5 1 #[] #[] 1537 3 #[] #[])
  fields := #[]
  methods := #[]
  instanceTypes := #[]
  staticTypes := #[]
  resolved := Array.replicate 11 none
  statics := none }

def pool6 : Array CpInfo := pool [(1, .class_ 2), (0, u "java/lang/constant/ConstantDesc"), (0, .class_ 4), (0, u "java/lang/Object")] 32

/-- java/lang/constant/ConstantDesc -/
def k6 : Class := { plain "java/lang/constant/ConstantDesc" (some 0) with
  accessFlags := 1537
  interfaces := #[]
  cf := some (fileOf pool6 1 #[] #[] 1537 3 #[] #[])
  fields := #[]
  methods := #[]
  instanceTypes := #[]
  staticTypes := #[]
  resolved := Array.replicate 37 none
  statics := none }

def pool7 : Array CpInfo := pool [(1, .methodref 2 3), (0, .class_ 4), (0, .nameAndType 5 6), (0, u "java/lang/Object"), (0, u "<init>"), (0, u "()V"), (0, .string 8), (0, u ""), (0, .fieldref 10 11), (0, .class_ 12), (0, .nameAndType 13 14), (0, u "java/lang/String"), (0, u "value"), (0, u "[B"), (0, .fieldref 10 16), (0, .nameAndType 17 18), (0, u "coder"), (0, u "B"), (2, u "hash"), (0, u "I"), (2, u "hashIsZero"), (0, u "Z"), (0, .methodref 10 28), (0, .nameAndType 5 29), (0, u "([CIILjava/lang/Void;)V"), (8, .fieldref 10 39), (0, .nameAndType 40 26), (0, u "COMPACT_STRINGS"), (1, .class_ 44), (1, u "java/lang/StringUTF16"), (0, u "compress"), (1, .methodref 42 48), (0, .nameAndType 49 50), (0, u "coderFromArrayLen"), (0, u "([BI)B"), (56, .class_ 109), (1, u "java/lang/StringLatin1"), (32, u "()Z"), (34, .methodref 42 178), (0, .nameAndType 45 179), (0, u "([CII)[B"), (154, u "()I"), (0, .methodref 10 336), (0, .nameAndType 17 337), (0, u "()B"), (25, u "([BI)C"), (27, u "(II)V"), (35, u "(I)C"), (64, .methodref 10 493), (0, .nameAndType 494 142), (0, u "isLatin1"), (0, .methodref 107 496), (0, .nameAndType 497 363), (0, u "charAt"), (0, .methodref 42 496), (2, u "checkIndex"), (5, u "length"), (67, .class_ 576), (0, u "java/lang/CharSequence"), (22, u "CASE_INSENSITIVE_ORDER"), (0, u "Ljava/util/Comparator;"), (409, u "([C)V"), (42, .fieldref 1054 1055), (0, .class_ 1056), (0, .nameAndType 1057 1058), (0, u "jdk/internal/util/Preconditions"), (0, u "SIOOBE_FORMATTER"), (0, u "Ljava/util/function/BiFunction;"), (0, .methodref 1054 1060), (0, .nameAndType 501 1061), (0, u "(IILjava/util/function/BiFunction;)I"), (39, u "serialPersistentFields"), (0, u "[Ljava/io/ObjectStreamField;"), (0, .class_ 1104), (0, u "java/lang/String$CaseInsensitiveComparator"), (1, .class_ 1107), (0, u "java/io/Serializable"), (0, .class_ 1109), (0, u "java/lang/Comparable"), (0, .class_ 1111), (0, u "java/lang/constant/Constable"), (0, .class_ 1113), (0, u "java/lang/constant/ConstantDesc"), (2, u "serialVersionUID"), (0, u "J"), (3, u "REPL"), (0, u "C"), (2, u "LATIN1"), (1, u "UTF16")] 323

def k7m0 : Method := { name := "<init>", desc := "()V", sig := { parameters := [], returnType := none }, accessFlags := 1, code := none }
def k7c1 : Code := { maxStack := 5, maxLocals := 2, code := jdk_42_method_3_code, exceptionTable := #[], attributes := #[] }
def k7m1 : Method := { name := "<init>", desc := "([C)V", sig := { parameters := [(.array .char)], returnType := none }, accessFlags := 1, code := some k7c1 }
def k7c2 : Code := { maxStack := 2, maxLocals := 1, code := jdk_42_method_54_code, exceptionTable := #[], attributes := #[] }
def k7m2 : Method := { name := "length", desc := "()I", sig := { parameters := [], returnType := some .int }, accessFlags := 1, code := some k7c2 }
def k7c3 : Code := { maxStack := 2, maxLocals := 2, code := jdk_42_method_56_code, exceptionTable := #[], attributes := #[] }
def k7m3 : Method := { name := "charAt", desc := "(I)C", sig := { parameters := [.int], returnType := some .char }, accessFlags := 1, code := some k7c3 }
def k7c4 : Code := { maxStack := 4, maxLocals := 6, code := jdk_42_method_149_code, exceptionTable := #[], attributes := #[] }
def k7m4 : Method := { name := "<init>", desc := "([CIILjava/lang/Void;)V", sig := { parameters := [(.array .char), .int, .int, (.object "java/lang/Void")], returnType := none }, accessFlags := 2, code := some k7c4 }
def k7c5 : Code := { maxStack := 1, maxLocals := 1, code := jdk_42_method_152_code, exceptionTable := #[], attributes := #[] }
def k7m5 : Method := { name := "coder", desc := "()B", sig := { parameters := [], returnType := some .byte }, accessFlags := 0, code := some k7c5 }
def k7c6 : Code := { maxStack := 1, maxLocals := 1, code := jdk_42_method_154_code, exceptionTable := #[], attributes := #[] }
def k7m6 : Method := { name := "isLatin1", desc := "()Z", sig := { parameters := [], returnType := some .boolean }, accessFlags := 0, code := some k7c6 }
def k7c7 : Code := { maxStack := 3, maxLocals := 2, code := jdk_42_method_155_code, exceptionTable := #[], attributes := #[] }
def k7m7 : Method := { name := "checkIndex", desc := "(II)V", sig := { parameters := [.int, .int], returnType := none }, accessFlags := 8, code := some k7c7 }
/-- java/lang/String -/
def k7 : Class := { plain "java/lang/String" (some 0) with
  accessFlags := 49
  interfaces := #[2, 3, 4, 5, 6]
  cf := some (fileOf pool7 10 #[.nestMembers #[1103]] #[{ accessFlags := 1, nameIndex := 5, descriptorIndex := 6, attributes := #[] }, { accessFlags := 1, nameIndex := 5, descriptorIndex := 1010, attributes := #[] }, { accessFlags := 1, nameIndex := 507, descriptorIndex := 334, attributes := #[] }, { accessFlags := 1, nameIndex := 497, descriptorIndex := 427, attributes := #[] }, { accessFlags := 2, nameIndex := 5, descriptorIndex := 29, attributes := #[] }, { accessFlags := 0, nameIndex := 17, descriptorIndex := 337, attributes := #[] }, { accessFlags := 0, nameIndex := 494, descriptorIndex := 142, attributes := #[] }, { accessFlags := 8, nameIndex := 501, descriptorIndex := 391, attributes := #[] }] 49 2 #[1106, 1108, 575, 1110, 1112] #[{ accessFlags := 18, nameIndex := 13, descriptorIndex := 14, attributes := #[] }, { accessFlags := 18, nameIndex := 17, descriptorIndex := 18, attributes := #[] }, { accessFlags := 2, nameIndex := 21, descriptorIndex := 22, attributes := #[] }, { accessFlags := 2, nameIndex := 25, descriptorIndex := 26, attributes := #[] }, { accessFlags := 26, nameIndex := 1116, descriptorIndex := 1117, attributes := #[] }, { accessFlags := 24, nameIndex := 40, descriptorIndex := 26, attributes := #[] }, { accessFlags := 26, nameIndex := 1101, descriptorIndex := 1102, attributes := #[] }, { accessFlags := 26, nameIndex := 1121, descriptorIndex := 1122, attributes := #[] }, { accessFlags := 25, nameIndex := 599, descriptorIndex := 600, attributes := #[] }, { accessFlags := 24, nameIndex := 1125, descriptorIndex := 18, attributes := #[] }, { accessFlags := 24, nameIndex := 1127, descriptorIndex := 18, attributes := #[] }])
  fields := #[{ name := "value", type := (.array .byte), accessFlags := 18, slot := 0, constantValue := 0 }, { name := "coder", type := .byte, accessFlags := 18, slot := 1, constantValue := 0 }, { name := "hash", type := .int, accessFlags := 2, slot := 2, constantValue := 0 }, { name := "hashIsZero", type := .boolean, accessFlags := 2, slot := 3, constantValue := 0 }, { name := "serialVersionUID", type := .long, accessFlags := 26, slot := 0, constantValue := 0 }, { name := "COMPACT_STRINGS", type := .boolean, accessFlags := 24, slot := 1, constantValue := 0 }, { name := "serialPersistentFields", type := (.array (.object "java/io/ObjectStreamField")), accessFlags := 26, slot := 2, constantValue := 0 }, { name := "REPL", type := .char, accessFlags := 26, slot := 3, constantValue := 0 }, { name := "CASE_INSENSITIVE_ORDER", type := (.object "java/util/Comparator"), accessFlags := 25, slot := 4, constantValue := 0 }, { name := "LATIN1", type := .byte, accessFlags := 24, slot := 5, constantValue := 0 }, { name := "UTF16", type := .byte, accessFlags := 24, slot := 6, constantValue := 0 }]
  methods := #[k7m0, k7m1, k7m2, k7m3, k7m4, k7m5, k7m6, k7m7]
  instanceTypes := #[(.array .byte), .byte, .int, .boolean]
  staticTypes := #[.long, .boolean, (.array (.object "java/io/ObjectStreamField")), .char, (.object "java/util/Comparator"), .byte, .byte]
  resolved := Array.replicate 1451 none
  statics := some 0 }

def pool8 : Array CpInfo := pool [(3, .class_ 4), (0, u "java/lang/String"), (1, .class_ 8), (1, u "java/lang/Object"), (0, u "<init>"), (0, u "()V"), (0, .methodref 12 13), (0, .class_ 14), (0, .nameAndType 15 16), (0, u "java/lang/StringUTF16"), (0, u "newBytesLength"), (0, u "(I)I"), (3, .integer 1073741823), (23, .fieldref 12 45), (0, .nameAndType 46 47), (0, u "$assertionsDisabled"), (0, u "Z"), (0, .methodref 12 49), (0, .nameAndType 50 51), (0, u "length"), (0, u "([B)I"), (7, .fieldref 12 60), (0, .nameAndType 61 62), (0, u "HI_BYTE_SHIFT"), (0, u "I"), (0, .fieldref 12 64), (0, .nameAndType 65 62), (0, u "LO_BYTE_SHIFT"), (1, .methodref 12 68), (0, .nameAndType 69 70), (0, u "checkIndex"), (0, u "(I[B)V"), (0, .methodref 12 72), (0, .nameAndType 73 74), (0, u "getChar"), (0, u "([BI)C"), (32, .methodref 12 108), (0, .nameAndType 109 110), (0, u "newBytesFor"), (0, u "(I)[B"), (0, .methodref 12 112), (0, .nameAndType 113 114), (0, u "putChar"), (0, u "([BII)V"), (0, .methodref 12 116), (0, .nameAndType 117 118), (0, u "compress"), (0, u "([CI[BII)I"), (0, .methodref 12 120), (0, .nameAndType 121 122), (0, u "toBytes"), (0, u "([CII)[B"), (138, u "coderFromArrayLen"), (0, u "([BI)B"), (106, .class_ 371), (1, u "java/lang/StringUTF16$LinesSpliterator"), (20, u "charAt"), (21, .methodref 3 415), (0, .nameAndType 69 416), (0, u "(II)V"), (13, u "MAX_LENGTH"), (196, .class_ 628), (0, u "java/lang/StringUTF16$CodePointsSpliterator"), (0, .class_ 630), (0, u "java/lang/StringUTF16$CharsSpliterator")] 4

def k8m0 : Method := { name := "<init>", desc := "()V", sig := { parameters := [], returnType := none }, accessFlags := 0, code := none }
def k8c1 : Code := { maxStack := 1, maxLocals := 1, code := jdk_52_method_2_code, exceptionTable := #[], attributes := #[] }
def k8m1 : Method := { name := "newBytesFor", desc := "(I)[B", sig := { parameters := [.int], returnType := some (.array .byte) }, accessFlags := 9, code := some k8c1 }
def k8c2 : Code := { maxStack := 4, maxLocals := 1, code := jdk_52_method_3_code, exceptionTable := #[], attributes := #[] }
def k8m2 : Method := { name := "newBytesLength", desc := "(I)I", sig := { parameters := [.int], returnType := some .int }, accessFlags := 9, code := some k8c2 }
def k8c3 : Code := { maxStack := 4, maxLocals := 3, code := jdk_52_method_4_code, exceptionTable := #[], attributes := #[] }
def k8m3 : Method := { name := "putChar", desc := "([BII)V", sig := { parameters := [(.array .byte), .int, .int], returnType := none }, accessFlags := 8, code := some k8c3 }
def k8c4 : Code := { maxStack := 3, maxLocals := 2, code := jdk_52_method_5_code, exceptionTable := #[], attributes := #[] }
def k8m4 : Method := { name := "getChar", desc := "([BI)C", sig := { parameters := [(.array .byte), .int], returnType := some .char }, accessFlags := 8, code := some k8c4 }
def k8c5 : Code := { maxStack := 2, maxLocals := 1, code := jdk_52_method_6_code, exceptionTable := #[], attributes := #[] }
def k8m5 : Method := { name := "length", desc := "([B)I", sig := { parameters := [(.array .byte)], returnType := some .int }, accessFlags := 9, code := some k8c5 }
def k8c6 : Code := { maxStack := 4, maxLocals := 5, code := jdk_52_method_14_code, exceptionTable := #[], attributes := #[] }
def k8m6 : Method := { name := "toBytes", desc := "([CII)[B", sig := { parameters := [(.array .char), .int, .int], returnType := some (.array .byte) }, accessFlags := 9, code := some k8c6 }
def k8c7 : Code := { maxStack := 2, maxLocals := 2, code := jdk_52_method_15_code, exceptionTable := #[], attributes := #[] }
def k8m7 : Method := { name := "coderFromArrayLen", desc := "([BI)B", sig := { parameters := [(.array .byte), .int], returnType := some .byte }, accessFlags := 8, code := some k8c7 }
def k8c8 : Code := { maxStack := 5, maxLocals := 6, code := jdk_52_method_16_code, exceptionTable := #[], attributes := #[] }
def k8m8 : Method := { name := "compress", desc := "([CII)[B", sig := { parameters := [(.array .char), .int, .int], returnType := some (.array .byte) }, accessFlags := 9, code := some k8c8 }
def k8c9 : Code := { maxStack := 3, maxLocals := 7, code := jdk_52_method_21_code, exceptionTable := #[], attributes := #[] }
def k8m9 : Method := { name := "compress", desc := "([CI[BII)I", sig := { parameters := [(.array .char), .int, (.array .byte), .int, .int], returnType := some .int }, accessFlags := 9, code := some k8c9 }
def k8c10 : Code := { maxStack := 2, maxLocals := 2, code := jdk_52_method_83_code, exceptionTable := #[], attributes := #[] }
def k8m10 : Method := { name := "charAt", desc := "([BI)C", sig := { parameters := [(.array .byte), .int], returnType := some .char }, accessFlags := 9, code := some k8c10 }
def k8c11 : Code := { maxStack := 2, maxLocals := 2, code := jdk_52_method_91_code, exceptionTable := #[], attributes := #[] }
def k8m11 : Method := { name := "checkIndex", desc := "(I[B)V", sig := { parameters := [.int, (.array .byte)], returnType := none }, accessFlags := 9, code := some k8c11 }
/-- java/lang/StringUTF16 -/
def k8 : Class := { plain "java/lang/StringUTF16" (some 0) with
  accessFlags := 48
  interfaces := #[]
  cf := some (fileOf pool8 12 #[.nestMembers #[627, 629, 369]] #[{ accessFlags := 0, nameIndex := 9, descriptorIndex := 10, attributes := #[] }, { accessFlags := 9, nameIndex := 109, descriptorIndex := 110, attributes := #[] }, { accessFlags := 9, nameIndex := 15, descriptorIndex := 16, attributes := #[] }, { accessFlags := 8, nameIndex := 113, descriptorIndex := 114, attributes := #[] }, { accessFlags := 8, nameIndex := 73, descriptorIndex := 74, attributes := #[] }, { accessFlags := 9, nameIndex := 50, descriptorIndex := 51, attributes := #[] }, { accessFlags := 9, nameIndex := 121, descriptorIndex := 122, attributes := #[] }, { accessFlags := 8, nameIndex := 261, descriptorIndex := 262, attributes := #[] }, { accessFlags := 9, nameIndex := 117, descriptorIndex := 122, attributes := #[] }, { accessFlags := 9, nameIndex := 117, descriptorIndex := 118, attributes := #[] }, { accessFlags := 9, nameIndex := 392, descriptorIndex := 74, attributes := #[] }, { accessFlags := 9, nameIndex := 69, descriptorIndex := 70, attributes := #[] }] 48 6 #[] #[{ accessFlags := 26, nameIndex := 61, descriptorIndex := 62, attributes := #[] }, { accessFlags := 26, nameIndex := 65, descriptorIndex := 62, attributes := #[] }, { accessFlags := 24, nameIndex := 430, descriptorIndex := 62, attributes := #[] }, { accessFlags := 4120, nameIndex := 46, descriptorIndex := 47, attributes := #[] }])
  fields := #[{ name := "HI_BYTE_SHIFT", type := .int, accessFlags := 26, slot := 0, constantValue := 0 }, { name := "LO_BYTE_SHIFT", type := .int, accessFlags := 26, slot := 1, constantValue := 0 }, { name := "MAX_LENGTH", type := .int, accessFlags := 24, slot := 2, constantValue := 0 }, { name := "$assertionsDisabled", type := .boolean, accessFlags := 4120, slot := 3, constantValue := 0 }]
  methods := #[k8m0, k8m1, k8m2, k8m3, k8m4, k8m5, k8m6, k8m7, k8m8, k8m9, k8m10, k8m11]
  instanceTypes := #[]
  staticTypes := #[.int, .int, .int, .boolean]
  resolved := Array.replicate 635 none
  statics := some 1 }

def pool9 : Array CpInfo := pool [(2, .class_ 4), (1, u "java/lang/Object"), (0, u "<init>"), (0, u "()V"), (0, .methodref 8 9), (0, .class_ 10), (0, .nameAndType 11 12), (0, u "java/lang/String"), (0, u "length"), (0, u "()I"), (0, .methodref 8 14), (0, .nameAndType 15 16), (0, u "charAt"), (0, u "(I)C"), (0, .methodref 18 19), (0, .class_ 20), (0, .nameAndType 21 22), (0, u "java/util/OptionalLong"), (0, u "empty"), (0, u "()Ljava/util/OptionalLong;"), (2, .long 9223372036854775807), (1, .long 10), (1, .methodref 18 30), (0, .nameAndType 31 32), (0, u "of"), (0, u "(J)Ljava/util/OptionalLong;"), (0, .class_ 34), (0, u "com/example/stentor/stentor/core/PositiveDecimal"), (2, u "parse"), (0, u "(Ljava/lang/String;)Ljava/util/OptionalLong;")] 3

def k9m0 : Method := { name := "<init>", desc := "()V", sig := { parameters := [], returnType := none }, accessFlags := 2, code := none }
def k9c1 : Code := { maxStack := 6, maxLocals := 6, code := prog_6_method_2_code, exceptionTable := #[], attributes := #[] }
def k9m1 : Method := { name := "parse", desc := "(Ljava/lang/String;)Ljava/util/OptionalLong;", sig := { parameters := [(.object "java/lang/String")], returnType := some (.object "java/util/OptionalLong") }, accessFlags := 9, code := some k9c1 }
/-- com/example/stentor/stentor/core/PositiveDecimal -/
def k9 : Class := { plain "com/example/stentor/stentor/core/PositiveDecimal" (some 0) with
  accessFlags := 49
  interfaces := #[]
  cf := some (fileOf pool9 33 #[] #[{ accessFlags := 2, nameIndex := 5, descriptorIndex := 6, attributes := #[] }, { accessFlags := 9, nameIndex := 37, descriptorIndex := 38, attributes := #[] }] 49 2 #[] #[])
  fields := #[]
  methods := #[k9m0, k9m1]
  instanceTypes := #[]
  staticTypes := #[]
  resolved := Array.replicate 42 none
  statics := none }

def pool10 : Array CpInfo := pool [(1, .class_ 2), (0, u "java/lang/String"), (1, .class_ 6), (1, u "java/lang/Object"), (0, u "<init>"), (0, u "()V"), (0, .methodref 1 10), (0, .nameAndType 11 12), (0, u "checkIndex"), (0, u "(II)V"), (1, .class_ 16), (1, u "java/lang/StringLatin1"), (36, u "([BI)C"), (67, u "$assertionsDisabled"), (0, u "Z"), (98, .class_ 223), (1, u "java/lang/StringLatin1$LinesSpliterator"), (28, u "charAt"), (137, .class_ 391), (0, u "java/lang/StringLatin1$CharsSpliterator")] 3

def k10m0 : Method := { name := "<init>", desc := "()V", sig := { parameters := [], returnType := none }, accessFlags := 0, code := none }
def k10c1 : Code := { maxStack := 2, maxLocals := 2, code := jdk_43_method_2_code, exceptionTable := #[], attributes := #[] }
def k10m1 : Method := { name := "charAt", desc := "([BI)C", sig := { parameters := [(.array .byte), .int], returnType := some .char }, accessFlags := 9, code := some k10c1 }
/-- java/lang/StringLatin1 -/
def k10 : Class := { plain "java/lang/StringLatin1" (some 0) with
  accessFlags := 48
  interfaces := #[]
  cf := some (fileOf pool10 14 #[.nestMembers #[390, 221]] #[{ accessFlags := 0, nameIndex := 7, descriptorIndex := 8, attributes := #[] }, { accessFlags := 9, nameIndex := 252, descriptorIndex := 53, attributes := #[] }] 48 4 #[] #[{ accessFlags := 4120, nameIndex := 121, descriptorIndex := 122, attributes := #[] }])
  fields := #[{ name := "$assertionsDisabled", type := .boolean, accessFlags := 4120, slot := 0, constantValue := 0 }]
  methods := #[k10m0, k10m1]
  instanceTypes := #[]
  staticTypes := #[.boolean]
  resolved := Array.replicate 395 none
  statics := none }

def pool11 : Array CpInfo := pool [(2, .class_ 4), (1, u "java/lang/Object"), (0, u "<init>"), (0, u "()V"), (17, .class_ 26), (1, u "jdk/internal/util/Preconditions"), (6, u "checkIndex"), (21, .class_ 56), (0, u "jdk/internal/util/Preconditions$4"), (57, .class_ 115), (0, u "jdk/internal/util/Preconditions$1"), (7, u "SIOOBE_FORMATTER"), (0, u "Ljava/util/function/BiFunction;"), (0, .class_ 126), (0, u "jdk/internal/util/Preconditions$2"), (3, u "AIOOBE_FORMATTER"), (0, .class_ 132), (0, u "jdk/internal/util/Preconditions$3"), (3, u "IOOBE_FORMATTER"), (41, u "(IILjava/util/function/BiFunction;)I")] 15

def k11m0 : Method := { name := "<init>", desc := "()V", sig := { parameters := [], returnType := none }, accessFlags := 1, code := none }
def k11c1 : Code := { maxStack := 3, maxLocals := 3, code := jdk_41_method_11_code, exceptionTable := #[], attributes := #[] }
def k11m1 : Method := { name := "checkIndex", desc := "(IILjava/util/function/BiFunction;)I", sig := { parameters := [.int, .int, (.object "java/util/function/BiFunction")], returnType := some .int }, accessFlags := 9, code := some k11c1 }
/-- jdk/internal/util/Preconditions -/
def k11 : Class := { plain "jdk/internal/util/Preconditions" (some 0) with
  accessFlags := 33
  interfaces := #[]
  cf := some (fileOf pool11 24 #[.nestMembers #[55, 131, 125, 114]] #[{ accessFlags := 1, nameIndex := 5, descriptorIndex := 6, attributes := #[] }, { accessFlags := 9, nameIndex := 33, descriptorIndex := 178, attributes := #[] }] 33 2 #[] #[{ accessFlags := 25, nameIndex := 123, descriptorIndex := 124, attributes := #[] }, { accessFlags := 25, nameIndex := 130, descriptorIndex := 124, attributes := #[] }, { accessFlags := 25, nameIndex := 136, descriptorIndex := 124, attributes := #[] }])
  fields := #[{ name := "SIOOBE_FORMATTER", type := (.object "java/util/function/BiFunction"), accessFlags := 25, slot := 0, constantValue := 0 }, { name := "AIOOBE_FORMATTER", type := (.object "java/util/function/BiFunction"), accessFlags := 25, slot := 1, constantValue := 0 }, { name := "IOOBE_FORMATTER", type := (.object "java/util/function/BiFunction"), accessFlags := 25, slot := 2, constantValue := 0 }]
  methods := #[k11m0, k11m1]
  instanceTypes := #[]
  staticTypes := #[(.object "java/util/function/BiFunction"), (.object "java/util/function/BiFunction"), (.object "java/util/function/BiFunction")]
  resolved := Array.replicate 194 none
  statics := some 2 }

def pool12 : Array CpInfo := pool [(1, .methodref 2 3), (0, .class_ 4), (0, .nameAndType 5 6), (0, u "java/lang/Object"), (0, u "<init>"), (0, u "()V"), (0, .fieldref 8 9), (0, .class_ 10), (0, .nameAndType 11 12), (0, u "java/util/OptionalLong"), (0, u "isPresent"), (0, u "Z"), (0, .fieldref 8 14), (0, .nameAndType 15 16), (0, u "value"), (0, u "J"), (0, .fieldref 8 18), (0, .nameAndType 19 20), (0, u "EMPTY"), (0, u "Ljava/util/OptionalLong;"), (0, .methodref 8 22), (0, .nameAndType 5 23), (0, u "(J)V"), (21, u "of"), (3, u "empty"), (5, u "getAsLong"), (0, u "()J"), (39, u "()Ljava/util/OptionalLong;"), (0, u "(J)Ljava/util/OptionalLong;"), (1, u "()Z")] 38

def k12m0 : Method := { name := "<init>", desc := "()V", sig := { parameters := [], returnType := none }, accessFlags := 2, code := none }
def k12c1 : Code := { maxStack := 1, maxLocals := 0, code := jdk_2650_method_2_code, exceptionTable := #[], attributes := #[] }
def k12m1 : Method := { name := "empty", desc := "()Ljava/util/OptionalLong;", sig := { parameters := [], returnType := some (.object "java/util/OptionalLong") }, accessFlags := 9, code := some k12c1 }
def k12c2 : Code := { maxStack := 3, maxLocals := 3, code := jdk_2650_method_3_code, exceptionTable := #[], attributes := #[] }
def k12m2 : Method := { name := "<init>", desc := "(J)V", sig := { parameters := [.long], returnType := none }, accessFlags := 2, code := some k12c2 }
def k12c3 : Code := { maxStack := 4, maxLocals := 2, code := jdk_2650_method_4_code, exceptionTable := #[], attributes := #[] }
def k12m3 : Method := { name := "of", desc := "(J)Ljava/util/OptionalLong;", sig := { parameters := [.long], returnType := some (.object "java/util/OptionalLong") }, accessFlags := 9, code := some k12c3 }
def k12c4 : Code := { maxStack := 3, maxLocals := 1, code := jdk_2650_method_5_code, exceptionTable := #[], attributes := #[] }
def k12m4 : Method := { name := "getAsLong", desc := "()J", sig := { parameters := [], returnType := some .long }, accessFlags := 1, code := some k12c4 }
def k12c5 : Code := { maxStack := 1, maxLocals := 1, code := jdk_2650_method_6_code, exceptionTable := #[], attributes := #[] }
def k12m5 : Method := { name := "isPresent", desc := "()Z", sig := { parameters := [], returnType := some .boolean }, accessFlags := 1, code := some k12c5 }
/-- java/util/OptionalLong -/
def k12 : Class := { plain "java/util/OptionalLong" (some 0) with
  accessFlags := 49
  interfaces := #[]
  cf := some (fileOf pool12 8 #[] #[{ accessFlags := 2, nameIndex := 5, descriptorIndex := 6, attributes := #[] }, { accessFlags := 9, nameIndex := 49, descriptorIndex := 96, attributes := #[] }, { accessFlags := 2, nameIndex := 5, descriptorIndex := 23, attributes := #[] }, { accessFlags := 9, nameIndex := 45, descriptorIndex := 97, attributes := #[] }, { accessFlags := 1, nameIndex := 55, descriptorIndex := 56, attributes := #[] }, { accessFlags := 1, nameIndex := 11, descriptorIndex := 99, attributes := #[] }] 49 2 #[] #[{ accessFlags := 26, nameIndex := 19, descriptorIndex := 20, attributes := #[] }, { accessFlags := 18, nameIndex := 11, descriptorIndex := 12, attributes := #[] }, { accessFlags := 18, nameIndex := 15, descriptorIndex := 16, attributes := #[] }])
  fields := #[{ name := "EMPTY", type := (.object "java/util/OptionalLong"), accessFlags := 26, slot := 0, constantValue := 0 }, { name := "isPresent", type := .boolean, accessFlags := 18, slot := 0, constantValue := 0 }, { name := "value", type := .long, accessFlags := 18, slot := 1, constantValue := 0 }]
  methods := #[k12m0, k12m1, k12m2, k12m3, k12m4, k12m5]
  instanceTypes := #[.boolean, .long]
  staticTypes := #[(.object "java/util/OptionalLong")]
  resolved := Array.replicate 138 none
  statics := some 3 }

def pool13 : Array CpInfo := pool [(9, u "<init>"), (6, .class_ 18), (1, u "java/lang/Object"), (0, u "()V"), (1, .class_ 23), (1, u "jdk/internal/util/ArraysSupport"), (0, u "LOG2_ARRAY_LONG_INDEX_SCALE"), (0, u "I"), (2, u "U"), (0, u "Ljdk/internal/misc/Unsafe;"), (8, u "BIG_ENDIAN"), (0, u "Z"), (8, u "LOG2_BYTE_BIT_SIZE"), (4, u "LOG2_ARRAY_INT_INDEX_SCALE"), (54, u "JLA"), (0, u "Ljdk/internal/access/JavaLangAccess;"), (11, u "LOG2_ARRAY_BOOLEAN_INDEX_SCALE"), (9, u "LOG2_ARRAY_BYTE_INDEX_SCALE"), (5, u "LOG2_ARRAY_CHAR_INDEX_SCALE"), (5, u "LOG2_ARRAY_SHORT_INDEX_SCALE"), (18, u "LOG2_ARRAY_FLOAT_INDEX_SCALE"), (24, u "LOG2_ARRAY_DOUBLE_INDEX_SCALE"), (89, u "T_BOOLEAN"), (2, u "T_CHAR"), (1, u "T_FLOAT"), (1, u "T_DOUBLE"), (1, u "T_BYTE"), (1, u "T_SHORT"), (1, u "T_INT"), (1, u "T_LONG"), (1, u "SOFT_MAX_ARRAY_LENGTH")] 83

def k13m0 : Method := { name := "<init>", desc := "()V", sig := { parameters := [], returnType := none }, accessFlags := 2, code := none }
/-- jdk/internal/util/ArraysSupport -/
def k13 : Class := { plain "jdk/internal/util/ArraysSupport" (some 0) with
  accessFlags := 33
  interfaces := #[]
  cf := some (fileOf pool13 21 #[] #[{ accessFlags := 2, nameIndex := 9, descriptorIndex := 19, attributes := #[] }] 33 16 #[] #[{ accessFlags := 24, nameIndex := 28, descriptorIndex := 29, attributes := #[] }, { accessFlags := 26, nameIndex := 38, descriptorIndex := 39, attributes := #[] }, { accessFlags := 25, nameIndex := 121, descriptorIndex := 25, attributes := #[] }, { accessFlags := 25, nameIndex := 131, descriptorIndex := 25, attributes := #[] }, { accessFlags := 25, nameIndex := 137, descriptorIndex := 25, attributes := #[] }, { accessFlags := 25, nameIndex := 143, descriptorIndex := 25, attributes := #[] }, { accessFlags := 25, nameIndex := 53, descriptorIndex := 25, attributes := #[] }, { accessFlags := 25, nameIndex := 24, descriptorIndex := 25, attributes := #[] }, { accessFlags := 25, nameIndex := 162, descriptorIndex := 25, attributes := #[] }, { accessFlags := 25, nameIndex := 187, descriptorIndex := 25, attributes := #[] }, { accessFlags := 26, nameIndex := 48, descriptorIndex := 25, attributes := #[] }, { accessFlags := 25, nameIndex := 277, descriptorIndex := 25, attributes := #[] }, { accessFlags := 25, nameIndex := 280, descriptorIndex := 25, attributes := #[] }, { accessFlags := 25, nameIndex := 282, descriptorIndex := 25, attributes := #[] }, { accessFlags := 25, nameIndex := 284, descriptorIndex := 25, attributes := #[] }, { accessFlags := 25, nameIndex := 286, descriptorIndex := 25, attributes := #[] }, { accessFlags := 25, nameIndex := 288, descriptorIndex := 25, attributes := #[] }, { accessFlags := 25, nameIndex := 290, descriptorIndex := 25, attributes := #[] }, { accessFlags := 25, nameIndex := 292, descriptorIndex := 25, attributes := #[] }, { accessFlags := 26, nameIndex := 108, descriptorIndex := 109, attributes := #[] }, { accessFlags := 25, nameIndex := 294, descriptorIndex := 25, attributes := #[] }])
  fields := #[{ name := "U", type := (.object "jdk/internal/misc/Unsafe"), accessFlags := 24, slot := 0, constantValue := 0 }, { name := "BIG_ENDIAN", type := .boolean, accessFlags := 26, slot := 1, constantValue := 0 }, { name := "LOG2_ARRAY_BOOLEAN_INDEX_SCALE", type := .int, accessFlags := 25, slot := 2, constantValue := 0 }, { name := "LOG2_ARRAY_BYTE_INDEX_SCALE", type := .int, accessFlags := 25, slot := 3, constantValue := 0 }, { name := "LOG2_ARRAY_CHAR_INDEX_SCALE", type := .int, accessFlags := 25, slot := 4, constantValue := 0 }, { name := "LOG2_ARRAY_SHORT_INDEX_SCALE", type := .int, accessFlags := 25, slot := 5, constantValue := 0 }, { name := "LOG2_ARRAY_INT_INDEX_SCALE", type := .int, accessFlags := 25, slot := 6, constantValue := 0 }, { name := "LOG2_ARRAY_LONG_INDEX_SCALE", type := .int, accessFlags := 25, slot := 7, constantValue := 0 }, { name := "LOG2_ARRAY_FLOAT_INDEX_SCALE", type := .int, accessFlags := 25, slot := 8, constantValue := 0 }, { name := "LOG2_ARRAY_DOUBLE_INDEX_SCALE", type := .int, accessFlags := 25, slot := 9, constantValue := 0 }, { name := "LOG2_BYTE_BIT_SIZE", type := .int, accessFlags := 26, slot := 10, constantValue := 0 }, { name := "T_BOOLEAN", type := .int, accessFlags := 25, slot := 11, constantValue := 0 }, { name := "T_CHAR", type := .int, accessFlags := 25, slot := 12, constantValue := 0 }, { name := "T_FLOAT", type := .int, accessFlags := 25, slot := 13, constantValue := 0 }, { name := "T_DOUBLE", type := .int, accessFlags := 25, slot := 14, constantValue := 0 }, { name := "T_BYTE", type := .int, accessFlags := 25, slot := 15, constantValue := 0 }, { name := "T_SHORT", type := .int, accessFlags := 25, slot := 16, constantValue := 0 }, { name := "T_INT", type := .int, accessFlags := 25, slot := 17, constantValue := 0 }, { name := "T_LONG", type := .int, accessFlags := 25, slot := 18, constantValue := 0 }, { name := "JLA", type := (.object "jdk/internal/access/JavaLangAccess"), accessFlags := 26, slot := 19, constantValue := 0 }, { name := "SOFT_MAX_ARRAY_LENGTH", type := .int, accessFlags := 25, slot := 20, constantValue := 0 }]
  methods := #[k13m0]
  instanceTypes := #[]
  staticTypes := #[(.object "jdk/internal/misc/Unsafe"), .boolean, .int, .int, .int, .int, .int, .int, .int, .int, .int, .int, .int, .int, .int, .int, .int, .int, .int, (.object "jdk/internal/access/JavaLangAccess"), .int]
  resolved := Array.replicate 378 none
  statics := none }

def pool14 : Array CpInfo := pool [(1, u "java/lang/Cloneable"), (0, .class_ 1), (0, u "java/lang/Object"), (0, .class_ 3)] 3

/-- java/lang/Cloneable -/
def k14 : Class := { plain "java/lang/Cloneable" (some 0) with
  accessFlags := 1537
  interfaces := #[]
  cf := some (fileOf pool14 2 #[] #[] 1537 4 #[] #[])
  fields := #[]
  methods := #[]
  instanceTypes := #[]
  staticTypes := #[]
  resolved := Array.replicate 8 none
  statics := none }

/-- the primitive byte -/
def k15 : Class := { plain "byte" none with kind := .primitive 'B', accessFlags := 0x411 }
/-- [B -/
def k16 : Class := { plain "[B" (some 0) with kind := .array 15 .byte, interfaces := #[14, 2], accessFlags := 1041 }

/-- the primitive char -/
def k17 : Class := { plain "char" none with kind := .primitive 'C', accessFlags := 0x411 }
/-- [C -/
def k18 : Class := { plain "[C" (some 0) with kind := .array 17 .char, interfaces := #[14, 2], accessFlags := 1041 }

/-- the primitive int -/
def k19 : Class := { plain "int" none with kind := .primitive 'I', accessFlags := 0x411 }
/-- [I -/
def k20 : Class := { plain "[I" (some 0) with kind := .array 19 .int, interfaces := #[14, 2], accessFlags := 1041 }

/-- the primitive long -/
def k21 : Class := { plain "long" none with kind := .primitive 'J', accessFlags := 0x411 }
/-- [J -/
def k22 : Class := { plain "[J" (some 0) with kind := .array 21 .long, interfaces := #[14, 2], accessFlags := 1041 }

def heap : Heap := #[{ cls := 7, slots := #[.long 0, .int 1, .null, .int 0, .null, .int 0, .int 0], vm := .statics 7 },
  { cls := 8, slots := #[.int 0, .int 8, .int 0, .int 1], vm := .statics 8 },
  { cls := 11, slots := #[.null, .null, .null], vm := .statics 11 },
  { cls := 12, slots := #[.ref 4], vm := .statics 12 },
  { cls := 12, slots := #[.int 0, .long 0], vm := .none }]
def classes : Array Class := #[k0, k1, k2, k3, k4, k5, k6, k7, k8, k9, k10, k11, k12, k13, k14, k15, k16, k17, k18, k19, k20, k21, k22]
def interned : List (Array UInt16 × Addr) := []
def slotsUsed : Nat := 17
def theMethod : MethodId := ⟨1, 3⟩
def args0 : Array Value := #[.long 5, .int 6, .int 1, .int 3]
def aboutOver (below : List Frame) : State where
  vm := { classes := classes, interned := interned.toArray }
  heap := heap
  slotsUsed := slotsUsed
  threads := #[{ frames := .invoking theMethod args0 :: below }]
def below0 : List Frame := [.native { method := ⟨0, 0⟩, args := #[] }]
def about1 : State := aboutOver below0
def p0 : Program := .bare "" "" ""
def e0 : Env := launch0.env 0 0 0
theorem w_frames : about1.frames = Frame.invoking theMethod args0 :: below0 := rfl
set_option maxRecDepth 65536 in
theorem w_args : argsFit about1.vm theMethod args0 = true := by decide +kernel
set_option maxRecDepth 65536 in
theorem w_heap : heapFits about1 = true := by decide +kernel
set_option maxRecDepth 65536 in
theorem w_runnable : about1.curStatus? = some .runnable := by decide +kernel
set_option maxRecDepth 65536 in
theorem w_alone : about1.alone = true := by decide +kernel
set_option maxRecDepth 65536 in
theorem w_named : about1.methodNamed? x = some theMethod := by decide +kernel
set_option maxRecDepth 65536 in
theorem w_hears : about1.hears theMethod below0 = true := by decide +kernel
set_option maxRecDepth 65536 in
theorem w_ripe : about1.ripe theMethod args0 below0 = true := by decide +kernel
theorem w_running : about1.status = .running := rfl
set_option maxRecDepth 65536 in
theorem w_room : about1.hasRoom e0.platform room_1 = true :=
  launch0.hasRoom_least _ room_1 (by decide +kernel) (by decide +kernel) (by decide +kernel) (by decide +kernel) (by decide +kernel) (by decide +kernel)
theorem allAtoms_all (ts : List Jvm.Cond) (a : Array Jvm.Value) (st : Jvm.State) : (allAtoms ts).before a st = ts.all (fun c => c.before a st) := by
  induction ts with
  | nil => rfl
  | cons c t ih =>
    show (Jvm.Cond.and c (allAtoms t)).before a st = _
    rw [Jvm.Cond.before_and, ih, List.all_cons]
def words1 : List Jvm.Cond := Jvm.Cond.code x code maxLocals ret :: tables_1
/-- a 'code' word, met by the world's own term for the bytes: nothing is compared byte by byte -/
theorem code_word {y : MethodName} {bytes : ByteArray} {mx : Nat} {rt : Option FieldType} {a : Array Value} {s : State} {m : MethodId} {meth : Method} {c : Code} (h1 : s.methodNamed? y = some m) (h2 : s.vm.method? m = some meth) (h3 : meth.code = some c) (h4 : c.code = bytes)
    (h5 : (c.maxLocals == mx && c.exceptionTable.isEmpty && decide (c.maxStack ≤ mostOperands) && decide (meth.sig.returnType = rt) && !meth.locks && decide (parseMethodDescriptor y.desc = some meth.sig)) = true) : (Jvm.Cond.code y bytes mx rt).before a s = true := by
  simp only [Bool.and_eq_true, beq_iff_eq, Bool.not_eq_true', decide_eq_true_eq] at h5
  obtain ⟨⟨⟨⟨⟨g1, g2⟩, g3⟩, g4⟩, g5⟩, g6⟩ := h5
  simp [Cond.before, Cond.holds, Cond.value, h1, h2, h3, h4, g1, g2, g3, g4, g5, g6]
def isCode : Jvm.Cond → Bool
  | .code _ _ _ _ => true
  | _ => false
theorem all_split {L : List Jvm.Cond} {P : Jvm.Cond → Bool} (h1 : L.all (fun c => isCode c || P c) = true) (h2 : ∀ c ∈ L.filter isCode, P c = true) : L.all P = true := by
  refine List.all_eq_true.mpr fun c hc => ?_
  have h := List.all_eq_true.mp h1 c hc
  rcases Bool.eq_false_or_eq_true (isCode c) with hi | hi
  · exact h2 c (List.mem_filter.mpr ⟨hc, hi⟩)
  · simpa [hi] using h
set_option maxRecDepth 65536 in
theorem w_c0 : (Jvm.Cond.code x code maxLocals ret).before args0 about1 = true := code_word (m := ⟨1, 3⟩) (meth := k1m3) (c := k1c3) (by decide +kernel) rfl rfl rfl (by decide +kernel)
set_option maxRecDepth 65536 in
theorem w_c1 : (Jvm.Cond.code ({ cls := "com/example/stentor/stentor/core/PositiveDecimalParsePinLaw", name := "dig", desc := "(JJ)C" } : Jvm.MethodName) method_2_code (4 : Nat) (Option.some Jvm.ClassFile.FieldType.char)).before args0 about1 = true := code_word (m := ⟨1, 1⟩) (meth := k1m1) (c := k1c1) (by decide +kernel) rfl rfl rfl (by decide +kernel)
set_option maxRecDepth 65536 in
theorem w_c2 : (Jvm.Cond.code ({ cls := "java/lang/String", name := "<init>", desc := "([C)V" } : Jvm.MethodName) jdk_42_method_3_code (2 : Nat) (Option.none : Option Jvm.ClassFile.FieldType)).before args0 about1 = true := code_word (m := ⟨7, 1⟩) (meth := k7m1) (c := k7c1) (by decide +kernel) rfl rfl rfl (by decide +kernel)
set_option maxRecDepth 65536 in
theorem w_c3 : (Jvm.Cond.code ({ cls := "java/lang/String", name := "<init>", desc := "([CIILjava/lang/Void;)V" } : Jvm.MethodName) jdk_42_method_149_code (6 : Nat) (Option.none : Option Jvm.ClassFile.FieldType)).before args0 about1 = true := code_word (m := ⟨7, 4⟩) (meth := k7m4) (c := k7c4) (by decide +kernel) rfl rfl rfl (by decide +kernel)
set_option maxRecDepth 65536 in
theorem w_c4 : (Jvm.Cond.code ({ cls := "java/lang/Object", name := "<init>", desc := "()V" } : Jvm.MethodName) object_method_1_code (1 : Nat) (Option.none : Option Jvm.ClassFile.FieldType)).before args0 about1 = true := code_word (m := ⟨0, 0⟩) (meth := k0m0) (c := k0c0) (by decide +kernel) rfl rfl rfl (by decide +kernel)
set_option maxRecDepth 65536 in
theorem w_c5 : (Jvm.Cond.code ({ cls := "java/lang/StringUTF16", name := "compress", desc := "([CII)[B" } : Jvm.MethodName) jdk_52_method_16_code (6 : Nat) (Option.some (Jvm.ClassFile.FieldType.array Jvm.ClassFile.FieldType.byte))).before args0 about1 = true := code_word (m := ⟨8, 8⟩) (meth := k8m8) (c := k8c8) (by decide +kernel) rfl rfl rfl (by decide +kernel)
set_option maxRecDepth 65536 in
theorem w_c6 : (Jvm.Cond.code ({ cls := "java/lang/StringUTF16", name := "compress", desc := "([CI[BII)I" } : Jvm.MethodName) jdk_52_method_21_code (7 : Nat) (Option.some Jvm.ClassFile.FieldType.int)).before args0 about1 = true := code_word (m := ⟨8, 9⟩) (meth := k8m9) (c := k8c9) (by decide +kernel) rfl rfl rfl (by decide +kernel)
set_option maxRecDepth 65536 in
theorem w_c7 : (Jvm.Cond.code ({ cls := "java/lang/StringUTF16", name := "coderFromArrayLen", desc := "([BI)B" } : Jvm.MethodName) jdk_52_method_15_code (2 : Nat) (Option.some Jvm.ClassFile.FieldType.byte)).before args0 about1 = true := code_word (m := ⟨8, 7⟩) (meth := k8m7) (c := k8c7) (by decide +kernel) rfl rfl rfl (by decide +kernel)
set_option maxRecDepth 65536 in
theorem w_c8 : (Jvm.Cond.code ({ cls := "com/example/stentor/stentor/core/PositiveDecimal", name := "parse", desc := "(Ljava/lang/String;)Ljava/util/OptionalLong;" } : Jvm.MethodName) prog_6_method_2_code (6 : Nat) (Option.some (Jvm.ClassFile.FieldType.object "java/util/OptionalLong"))).before args0 about1 = true := code_word (m := ⟨9, 1⟩) (meth := k9m1) (c := k9c1) (by decide +kernel) rfl rfl rfl (by decide +kernel)
set_option maxRecDepth 65536 in
theorem w_c9 : (Jvm.Cond.code ({ cls := "java/lang/String", name := "length", desc := "()I" } : Jvm.MethodName) jdk_42_method_54_code (1 : Nat) (Option.some Jvm.ClassFile.FieldType.int)).before args0 about1 = true := code_word (m := ⟨7, 2⟩) (meth := k7m2) (c := k7c2) (by decide +kernel) rfl rfl rfl (by decide +kernel)
set_option maxRecDepth 65536 in
theorem w_c10 : (Jvm.Cond.code ({ cls := "java/lang/String", name := "coder", desc := "()B" } : Jvm.MethodName) jdk_42_method_152_code (1 : Nat) (Option.some Jvm.ClassFile.FieldType.byte)).before args0 about1 = true := code_word (m := ⟨7, 5⟩) (meth := k7m5) (c := k7c5) (by decide +kernel) rfl rfl rfl (by decide +kernel)
set_option maxRecDepth 65536 in
theorem w_c11 : (Jvm.Cond.code ({ cls := "java/lang/String", name := "charAt", desc := "(I)C" } : Jvm.MethodName) jdk_42_method_56_code (2 : Nat) (Option.some Jvm.ClassFile.FieldType.char)).before args0 about1 = true := code_word (m := ⟨7, 3⟩) (meth := k7m3) (c := k7c3) (by decide +kernel) rfl rfl rfl (by decide +kernel)
set_option maxRecDepth 65536 in
theorem w_c12 : (Jvm.Cond.code ({ cls := "java/lang/String", name := "isLatin1", desc := "()Z" } : Jvm.MethodName) jdk_42_method_154_code (1 : Nat) (Option.some Jvm.ClassFile.FieldType.boolean)).before args0 about1 = true := code_word (m := ⟨7, 6⟩) (meth := k7m6) (c := k7c6) (by decide +kernel) rfl rfl rfl (by decide +kernel)
set_option maxRecDepth 65536 in
theorem w_c13 : (Jvm.Cond.code ({ cls := "java/lang/StringLatin1", name := "charAt", desc := "([BI)C" } : Jvm.MethodName) jdk_43_method_2_code (2 : Nat) (Option.some Jvm.ClassFile.FieldType.char)).before args0 about1 = true := code_word (m := ⟨10, 1⟩) (meth := k10m1) (c := k10c1) (by decide +kernel) rfl rfl rfl (by decide +kernel)
set_option maxRecDepth 65536 in
theorem w_c14 : (Jvm.Cond.code ({ cls := "java/lang/String", name := "checkIndex", desc := "(II)V" } : Jvm.MethodName) jdk_42_method_155_code (2 : Nat) (Option.none : Option Jvm.ClassFile.FieldType)).before args0 about1 = true := code_word (m := ⟨7, 7⟩) (meth := k7m7) (c := k7c7) (by decide +kernel) rfl rfl rfl (by decide +kernel)
set_option maxRecDepth 65536 in
theorem w_c15 : (Jvm.Cond.code ({ cls := "jdk/internal/util/Preconditions", name := "checkIndex", desc := "(IILjava/util/function/BiFunction;)I" } : Jvm.MethodName) jdk_41_method_11_code (3 : Nat) (Option.some Jvm.ClassFile.FieldType.int)).before args0 about1 = true := code_word (m := ⟨11, 1⟩) (meth := k11m1) (c := k11c1) (by decide +kernel) rfl rfl rfl (by decide +kernel)
set_option maxRecDepth 65536 in
theorem w_c16 : (Jvm.Cond.code ({ cls := "java/util/OptionalLong", name := "empty", desc := "()Ljava/util/OptionalLong;" } : Jvm.MethodName) jdk_2650_method_2_code (0 : Nat) (Option.some (Jvm.ClassFile.FieldType.object "java/util/OptionalLong"))).before args0 about1 = true := code_word (m := ⟨12, 1⟩) (meth := k12m1) (c := k12c1) (by decide +kernel) rfl rfl rfl (by decide +kernel)
set_option maxRecDepth 65536 in
theorem w_c17 : (Jvm.Cond.code ({ cls := "java/util/OptionalLong", name := "isPresent", desc := "()Z" } : Jvm.MethodName) jdk_2650_method_6_code (1 : Nat) (Option.some Jvm.ClassFile.FieldType.boolean)).before args0 about1 = true := code_word (m := ⟨12, 5⟩) (meth := k12m5) (c := k12c5) (by decide +kernel) rfl rfl rfl (by decide +kernel)
set_option maxRecDepth 65536 in
theorem w_c18 : (Jvm.Cond.code ({ cls := "java/util/OptionalLong", name := "of", desc := "(J)Ljava/util/OptionalLong;" } : Jvm.MethodName) jdk_2650_method_4_code (2 : Nat) (Option.some (Jvm.ClassFile.FieldType.object "java/util/OptionalLong"))).before args0 about1 = true := code_word (m := ⟨12, 3⟩) (meth := k12m3) (c := k12c3) (by decide +kernel) rfl rfl rfl (by decide +kernel)
set_option maxRecDepth 65536 in
theorem w_c19 : (Jvm.Cond.code ({ cls := "java/util/OptionalLong", name := "<init>", desc := "(J)V" } : Jvm.MethodName) jdk_2650_method_3_code (3 : Nat) (Option.none : Option Jvm.ClassFile.FieldType)).before args0 about1 = true := code_word (m := ⟨12, 2⟩) (meth := k12m2) (c := k12c2) (by decide +kernel) rfl rfl rfl (by decide +kernel)
set_option maxRecDepth 65536 in
theorem w_c20 : (Jvm.Cond.code ({ cls := "java/util/OptionalLong", name := "getAsLong", desc := "()J" } : Jvm.MethodName) jdk_2650_method_5_code (1 : Nat) (Option.some Jvm.ClassFile.FieldType.long)).before args0 about1 = true := code_word (m := ⟨12, 4⟩) (meth := k12m4) (c := k12c4) (by decide +kernel) rfl rfl rfl (by decide +kernel)
set_option maxRecDepth 65536 in
theorem w_c21 : (Jvm.Cond.code ({ cls := "java/lang/StringUTF16", name := "toBytes", desc := "([CII)[B" } : Jvm.MethodName) jdk_52_method_14_code (5 : Nat) (Option.some (Jvm.ClassFile.FieldType.array Jvm.ClassFile.FieldType.byte))).before args0 about1 = true := code_word (m := ⟨8, 6⟩) (meth := k8m6) (c := k8c6) (by decide +kernel) rfl rfl rfl (by decide +kernel)
set_option maxRecDepth 65536 in
theorem w_c22 : (Jvm.Cond.code ({ cls := "java/lang/StringUTF16", name := "newBytesFor", desc := "(I)[B" } : Jvm.MethodName) jdk_52_method_2_code (1 : Nat) (Option.some (Jvm.ClassFile.FieldType.array Jvm.ClassFile.FieldType.byte))).before args0 about1 = true := code_word (m := ⟨8, 1⟩) (meth := k8m1) (c := k8c1) (by decide +kernel) rfl rfl rfl (by decide +kernel)
set_option maxRecDepth 65536 in
theorem w_c23 : (Jvm.Cond.code ({ cls := "java/lang/StringUTF16", name := "newBytesLength", desc := "(I)I" } : Jvm.MethodName) jdk_52_method_3_code (1 : Nat) (Option.some Jvm.ClassFile.FieldType.int)).before args0 about1 = true := code_word (m := ⟨8, 2⟩) (meth := k8m2) (c := k8c2) (by decide +kernel) rfl rfl rfl (by decide +kernel)
set_option maxRecDepth 65536 in
theorem w_c24 : (Jvm.Cond.code ({ cls := "java/lang/StringUTF16", name := "putChar", desc := "([BII)V" } : Jvm.MethodName) jdk_52_method_4_code (3 : Nat) (Option.none : Option Jvm.ClassFile.FieldType)).before args0 about1 = true := code_word (m := ⟨8, 3⟩) (meth := k8m3) (c := k8c3) (by decide +kernel) rfl rfl rfl (by decide +kernel)
set_option maxRecDepth 65536 in
theorem w_c25 : (Jvm.Cond.code ({ cls := "java/lang/StringUTF16", name := "getChar", desc := "([BI)C" } : Jvm.MethodName) jdk_52_method_5_code (2 : Nat) (Option.some Jvm.ClassFile.FieldType.char)).before args0 about1 = true := code_word (m := ⟨8, 4⟩) (meth := k8m4) (c := k8c4) (by decide +kernel) rfl rfl rfl (by decide +kernel)
set_option maxRecDepth 65536 in
theorem w_c26 : (Jvm.Cond.code ({ cls := "java/lang/StringUTF16", name := "charAt", desc := "([BI)C" } : Jvm.MethodName) jdk_52_method_83_code (2 : Nat) (Option.some Jvm.ClassFile.FieldType.char)).before args0 about1 = true := code_word (m := ⟨8, 10⟩) (meth := k8m10) (c := k8c10) (by decide +kernel) rfl rfl rfl (by decide +kernel)
set_option maxRecDepth 65536 in
theorem w_c27 : (Jvm.Cond.code ({ cls := "java/lang/StringUTF16", name := "checkIndex", desc := "(I[B)V" } : Jvm.MethodName) jdk_52_method_91_code (2 : Nat) (Option.none : Option Jvm.ClassFile.FieldType)).before args0 about1 = true := code_word (m := ⟨8, 11⟩) (meth := k8m11) (c := k8c11) (by decide +kernel) rfl rfl rfl (by decide +kernel)
set_option maxRecDepth 65536 in
theorem w_c28 : (Jvm.Cond.code ({ cls := "java/lang/StringUTF16", name := "length", desc := "([B)I" } : Jvm.MethodName) jdk_52_method_6_code (1 : Nat) (Option.some Jvm.ClassFile.FieldType.int)).before args0 about1 = true := code_word (m := ⟨8, 5⟩) (meth := k8m5) (c := k8c5) (by decide +kernel) rfl rfl rfl (by decide +kernel)
set_option maxRecDepth 65536 in
theorem w_c29 : (Jvm.Cond.code ({ cls := "com/example/stentor/stentor/core/PositiveDecimalParsePinLaw", name := "sat", desc := "(JI)J" } : Jvm.MethodName) method_3_code (3 : Nat) (Option.some Jvm.ClassFile.FieldType.long)).before args0 about1 = true := code_word (m := ⟨1, 2⟩) (meth := k1m2) (c := k1c2) (by decide +kernel) rfl rfl rfl (by decide +kernel)
def codes1 : List Jvm.Cond := [Jvm.Cond.code x code maxLocals ret, Jvm.Cond.code ({ cls := "com/example/stentor/stentor/core/PositiveDecimalParsePinLaw", name := "dig", desc := "(JJ)C" } : Jvm.MethodName) method_2_code (4 : Nat) (Option.some Jvm.ClassFile.FieldType.char), Jvm.Cond.code ({ cls := "java/lang/String", name := "<init>", desc := "([C)V" } : Jvm.MethodName) jdk_42_method_3_code (2 : Nat) (Option.none : Option Jvm.ClassFile.FieldType), Jvm.Cond.code ({ cls := "java/lang/String", name := "<init>", desc := "([CIILjava/lang/Void;)V" } : Jvm.MethodName) jdk_42_method_149_code (6 : Nat) (Option.none : Option Jvm.ClassFile.FieldType), Jvm.Cond.code ({ cls := "java/lang/Object", name := "<init>", desc := "()V" } : Jvm.MethodName) object_method_1_code (1 : Nat) (Option.none : Option Jvm.ClassFile.FieldType), Jvm.Cond.code ({ cls := "java/lang/StringUTF16", name := "compress", desc := "([CII)[B" } : Jvm.MethodName) jdk_52_method_16_code (6 : Nat) (Option.some (Jvm.ClassFile.FieldType.array Jvm.ClassFile.FieldType.byte)), Jvm.Cond.code ({ cls := "java/lang/StringUTF16", name := "compress", desc := "([CI[BII)I" } : Jvm.MethodName) jdk_52_method_21_code (7 : Nat) (Option.some Jvm.ClassFile.FieldType.int), Jvm.Cond.code ({ cls := "java/lang/StringUTF16", name := "coderFromArrayLen", desc := "([BI)B" } : Jvm.MethodName) jdk_52_method_15_code (2 : Nat) (Option.some Jvm.ClassFile.FieldType.byte), Jvm.Cond.code ({ cls := "com/example/stentor/stentor/core/PositiveDecimal", name := "parse", desc := "(Ljava/lang/String;)Ljava/util/OptionalLong;" } : Jvm.MethodName) prog_6_method_2_code (6 : Nat) (Option.some (Jvm.ClassFile.FieldType.object "java/util/OptionalLong")), Jvm.Cond.code ({ cls := "java/lang/String", name := "length", desc := "()I" } : Jvm.MethodName) jdk_42_method_54_code (1 : Nat) (Option.some Jvm.ClassFile.FieldType.int), Jvm.Cond.code ({ cls := "java/lang/String", name := "coder", desc := "()B" } : Jvm.MethodName) jdk_42_method_152_code (1 : Nat) (Option.some Jvm.ClassFile.FieldType.byte), Jvm.Cond.code ({ cls := "java/lang/String", name := "charAt", desc := "(I)C" } : Jvm.MethodName) jdk_42_method_56_code (2 : Nat) (Option.some Jvm.ClassFile.FieldType.char), Jvm.Cond.code ({ cls := "java/lang/String", name := "isLatin1", desc := "()Z" } : Jvm.MethodName) jdk_42_method_154_code (1 : Nat) (Option.some Jvm.ClassFile.FieldType.boolean), Jvm.Cond.code ({ cls := "java/lang/StringLatin1", name := "charAt", desc := "([BI)C" } : Jvm.MethodName) jdk_43_method_2_code (2 : Nat) (Option.some Jvm.ClassFile.FieldType.char), Jvm.Cond.code ({ cls := "java/lang/String", name := "checkIndex", desc := "(II)V" } : Jvm.MethodName) jdk_42_method_155_code (2 : Nat) (Option.none : Option Jvm.ClassFile.FieldType), Jvm.Cond.code ({ cls := "jdk/internal/util/Preconditions", name := "checkIndex", desc := "(IILjava/util/function/BiFunction;)I" } : Jvm.MethodName) jdk_41_method_11_code (3 : Nat) (Option.some Jvm.ClassFile.FieldType.int), Jvm.Cond.code ({ cls := "java/util/OptionalLong", name := "empty", desc := "()Ljava/util/OptionalLong;" } : Jvm.MethodName) jdk_2650_method_2_code (0 : Nat) (Option.some (Jvm.ClassFile.FieldType.object "java/util/OptionalLong")), Jvm.Cond.code ({ cls := "java/util/OptionalLong", name := "isPresent", desc := "()Z" } : Jvm.MethodName) jdk_2650_method_6_code (1 : Nat) (Option.some Jvm.ClassFile.FieldType.boolean), Jvm.Cond.code ({ cls := "java/util/OptionalLong", name := "of", desc := "(J)Ljava/util/OptionalLong;" } : Jvm.MethodName) jdk_2650_method_4_code (2 : Nat) (Option.some (Jvm.ClassFile.FieldType.object "java/util/OptionalLong")), Jvm.Cond.code ({ cls := "java/util/OptionalLong", name := "<init>", desc := "(J)V" } : Jvm.MethodName) jdk_2650_method_3_code (3 : Nat) (Option.none : Option Jvm.ClassFile.FieldType), Jvm.Cond.code ({ cls := "java/util/OptionalLong", name := "getAsLong", desc := "()J" } : Jvm.MethodName) jdk_2650_method_5_code (1 : Nat) (Option.some Jvm.ClassFile.FieldType.long), Jvm.Cond.code ({ cls := "java/lang/StringUTF16", name := "toBytes", desc := "([CII)[B" } : Jvm.MethodName) jdk_52_method_14_code (5 : Nat) (Option.some (Jvm.ClassFile.FieldType.array Jvm.ClassFile.FieldType.byte)), Jvm.Cond.code ({ cls := "java/lang/StringUTF16", name := "newBytesFor", desc := "(I)[B" } : Jvm.MethodName) jdk_52_method_2_code (1 : Nat) (Option.some (Jvm.ClassFile.FieldType.array Jvm.ClassFile.FieldType.byte)), Jvm.Cond.code ({ cls := "java/lang/StringUTF16", name := "newBytesLength", desc := "(I)I" } : Jvm.MethodName) jdk_52_method_3_code (1 : Nat) (Option.some Jvm.ClassFile.FieldType.int), Jvm.Cond.code ({ cls := "java/lang/StringUTF16", name := "putChar", desc := "([BII)V" } : Jvm.MethodName) jdk_52_method_4_code (3 : Nat) (Option.none : Option Jvm.ClassFile.FieldType), Jvm.Cond.code ({ cls := "java/lang/StringUTF16", name := "getChar", desc := "([BI)C" } : Jvm.MethodName) jdk_52_method_5_code (2 : Nat) (Option.some Jvm.ClassFile.FieldType.char), Jvm.Cond.code ({ cls := "java/lang/StringUTF16", name := "charAt", desc := "([BI)C" } : Jvm.MethodName) jdk_52_method_83_code (2 : Nat) (Option.some Jvm.ClassFile.FieldType.char), Jvm.Cond.code ({ cls := "java/lang/StringUTF16", name := "checkIndex", desc := "(I[B)V" } : Jvm.MethodName) jdk_52_method_91_code (2 : Nat) (Option.none : Option Jvm.ClassFile.FieldType), Jvm.Cond.code ({ cls := "java/lang/StringUTF16", name := "length", desc := "([B)I" } : Jvm.MethodName) jdk_52_method_6_code (1 : Nat) (Option.some Jvm.ClassFile.FieldType.int), Jvm.Cond.code ({ cls := "com/example/stentor/stentor/core/PositiveDecimalParsePinLaw", name := "sat", desc := "(JI)J" } : Jvm.MethodName) method_3_code (3 : Nat) (Option.some Jvm.ClassFile.FieldType.long)]
set_option maxRecDepth 65536 in
theorem codes_eq : words1.filter isCode = codes1 := rfl
theorem w_codes : ∀ c ∈ words1.filter isCode, c.before args0 about1 = true := by
  rw [codes_eq]
  intro c hc
  simp only [codes1, List.mem_cons, List.not_mem_nil, or_false] at hc
  rcases hc with rfl | rfl | rfl | rfl | rfl | rfl | rfl | rfl | rfl | rfl | rfl | rfl | rfl | rfl | rfl | rfl | rfl | rfl | rfl | rfl | rfl | rfl | rfl | rfl | rfl | rfl | rfl | rfl | rfl | rfl
  · exact w_c0
  · exact w_c1
  · exact w_c2
  · exact w_c3
  · exact w_c4
  · exact w_c5
  · exact w_c6
  · exact w_c7
  · exact w_c8
  · exact w_c9
  · exact w_c10
  · exact w_c11
  · exact w_c12
  · exact w_c13
  · exact w_c14
  · exact w_c15
  · exact w_c16
  · exact w_c17
  · exact w_c18
  · exact w_c19
  · exact w_c20
  · exact w_c21
  · exact w_c22
  · exact w_c23
  · exact w_c24
  · exact w_c25
  · exact w_c26
  · exact w_c27
  · exact w_c28
  · exact w_c29
set_option maxRecDepth 65536 in
theorem w_t1 : (words1.take 24).all (fun c => isCode c || c.before args0 about1) = true := by decide +kernel
set_option maxRecDepth 65536 in
theorem w_t2 : ((words1.drop 24).take 24).all (fun c => isCode c || c.before args0 about1) = true := by decide +kernel
set_option maxRecDepth 65536 in
theorem w_t3 : (((words1.drop 24).drop 24).take 24).all (fun c => isCode c || c.before args0 about1) = true := by decide +kernel
set_option maxRecDepth 65536 in
theorem w_t4 : ((((words1.drop 24).drop 24).drop 24).take 24).all (fun c => isCode c || c.before args0 about1) = true := by decide +kernel
set_option maxRecDepth 65536 in
theorem w_t5 : (((((words1.drop 24).drop 24).drop 24).drop 24).take 24).all (fun c => isCode c || c.before args0 about1) = true := by decide +kernel
set_option maxRecDepth 65536 in
theorem w_t6 : ((((((words1.drop 24).drop 24).drop 24).drop 24).drop 24).take 24).all (fun c => isCode c || c.before args0 about1) = true := by decide +kernel
set_option maxRecDepth 65536 in
theorem w_t7 : ((((((words1.drop 24).drop 24).drop 24).drop 24).drop 24).drop 24).all (fun c => isCode c || c.before args0 about1) = true := by decide +kernel
theorem w_tables : (allAtoms (Jvm.Cond.code x code maxLocals ret :: tables_1)).before args0 about1 = true := by
  rw [allAtoms_all]
  show words1.all (fun c => c.before args0 about1) = true
  refine all_split ?_ w_codes
  rw [← List.take_append_drop 24 words1, List.all_append, w_t1, ← List.take_append_drop 24 (words1.drop 24), List.all_append, w_t2, ← List.take_append_drop 24 ((words1.drop 24).drop 24), List.all_append, w_t3, ← List.take_append_drop 24 (((words1.drop 24).drop 24).drop 24), List.all_append, w_t4, ← List.take_append_drop 24 ((((words1.drop 24).drop 24).drop 24).drop 24), List.all_append, w_t5, ← List.take_append_drop 24 (((((words1.drop 24).drop 24).drop 24).drop 24).drop 24), List.all_append, w_t6, w_t7]
  rfl
set_option maxRecDepth 65536 in
theorem w_rest : rest_1_c.before args0 about1 = true := by decide +kernel
set_option maxRecDepth 65536 in
theorem w_case : (Jvm.Cond.and given_1 narrow_1).before args0 about1 = true := by decide +kernel
set_option maxRecDepth 65536 in
theorem w_consts : constsHeld consts_1 about1 := Jvm.Lit.constsHeldB_iff.mp (by decide +kernel)
theorem w_applies : (headSpec (Jvm.Cond.code x code maxLocals ret :: tables_1) room_1).applies x e0.platform about1 = true :=
  (Spec.applies_iff w_frames).mpr ⟨w_running, w_runnable, w_alone, w_named, w_hears, w_ripe, w_room, w_tables⟩
theorem atStart : AtStart classFile x code maxLocals ret World_1 tables_1 room_1 Calls_1 rest_1 Pre_1 launch0 p0 e0 about1 theMethod args0 below0 :=
  ⟨lists_1, trivial, launch0.admits_env _ _ _, launch0.least_env, fairChoices_fair.cas, fairChoices_fair.clock, w_frames, w_args, w_heap, w_applies, ⟨w_consts, trivial⟩, w_rest, w_case⟩
end start1
theorem witness_1 : WitnessClaimed_1 := ⟨start1.p0, start1.e0, start1.about1, start1.theMethod, start1.args0, start1.below0, start1.atStart⟩
end Jvm.Pilot.@@N@@
