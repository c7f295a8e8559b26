import JvmDerived
import JvmDerived.Pilot.@@N@@Statement
import JvmDerived.Pilot.@@N@@Code
set_option linter.unusedVariables false
set_option linter.unusedSimpArgs false
namespace Jvm.Pilot.@@N@@
open Jvm Jvm.ClassFile Sem Op Lib Jvm.Free Jvm.Stand Jvm.LawKit Jvm.RoadKit Bundle Jvm.Pilot.@@N@@.Jvm.D
/-! own prelude: a walk as one chain of steps that ends well (Go), contracts (Mt), calls and returns in that form -/
abbrev jv (x : Int64) : Slot := .val (.long x)
section Own
variable {p : Program} {l : Launch} {e : Env} {R : Room} {s : State} {m : MethodId} {args : Array Value} {below : List Frame} {meth : Method} {c : Code} {T T' : State} {locs : List Loc} {cells slots : Nat} {Z : State} {a0 : Array Value} {h : Heap}
theorem own_retI (X : Stand p l e R s m args below meth c T locs cells slots) (hx : p.tables.exec = Jvm.exec) {pc : Nat} {Ls : Array Slot} {z : Int32} {rest : List Value} (hret : meth.sig.returnType = some .int) (hd : decode c.code pc = .ok (.ireturn, 1)) {fs : List Frame}
    (hl : ∀ (f : JFrame) (acts : List Action), f.method = m → f.locked = none → f.entered = [] → (doReturn e (T.setTop f) acts (some (.int z))).1 = T.setFrames fs) : Steps p.tables e below (T.setTop (mkF m pc Ls (.int z :: rest))) (T.setFrames fs) := by
  have hm' : T.vm.method? m = some meth := X.method'
  have hn : narrow .int (.int z) = .int z := rfl
  show Steps p.tables e below (T.setTop { method := m, pc := pc, locals := Ls, stack := _ :: rest, locked := none }) _
  jvm_step X.here [X.here.top, hx, hd, hm', hret, hn]
  first | (intro acts; rw [hl _ acts rfl rfl rfl]) | rw [hl _ _ rfl rfl rfl]
  exact Steps.refl _
theorem own_retL (X : Stand p l e R s m args below meth c T locs cells slots) (hx : p.tables.exec = Jvm.exec) {pc : Nat} {Ls : Array Slot} {z : Int64} {rest : List Value} (hret : meth.sig.returnType = some .long) (hd : decode c.code pc = .ok (.lreturn, 1)) {fs : List Frame}
    (hl : ∀ (f : JFrame) (acts : List Action), f.method = m → f.locked = none → f.entered = [] → (doReturn e (T.setTop f) acts (some (.long z))).1 = T.setFrames fs) : Steps p.tables e below (T.setTop (mkF m pc Ls (.long z :: rest))) (T.setFrames fs) := by
  have hm' : T.vm.method? m = some meth := X.method'
  show Steps p.tables e below (T.setTop { method := m, pc := pc, locals := Ls, stack := _ :: rest, locked := none }) _
  jvm_step X.here [X.here.top, hx, hd, hm', hret, narrow]
  first | (intro acts; rw [hl _ acts rfl rfl rfl]) | rw [hl _ _ rfl rfl rfl]
  exact Steps.refl _
theorem own_retA (X : Stand p l e R s m args below meth c T locs cells slots) (hx : p.tables.exec = Jvm.exec) {pc : Nat} {Ls : Array Slot} {v : Value} {rest : List Value} (hv : v.isRef = true) {t : FieldType} (hret : meth.sig.returnType = some t) (ht : t.isReference = true) (hd : decode c.code pc = .ok (.areturn, 1)) {fs : List Frame}
    (hl : ∀ (f : JFrame) (acts : List Action), f.method = m → f.locked = none → f.entered = [] → (doReturn e (T.setTop f) acts (some v)).1 = T.setFrames fs) : Steps p.tables e below (T.setTop (mkF m pc Ls (v :: rest))) (T.setFrames fs) := by
  have hm' : T.vm.method? m = some meth := X.method'
  show Steps p.tables e below (T.setTop { method := m, pc := pc, locals := Ls, stack := _ :: rest, locked := none }) _
  rcases ref_cases hv with rfl | ⟨a, rfl⟩
  · jvm_step X.here [X.here.top, hx, hd, hm', hret, ht, Value.isRef]
    first | (intro acts; rw [hl _ acts rfl rfl rfl]) | rw [hl _ _ rfl rfl rfl]
    exact Steps.refl _
  · jvm_step X.here [X.here.top, hx, hd, hm', hret, ht, Value.isRef]
    first | (intro acts; rw [hl _ acts rfl rfl rfl]) | rw [hl _ _ rfl rfl rfl]
    exact Steps.refl _
/-- from this frame the walk ends, and W holds of its end -/
def Go (p : Program) (e : Env) (below : List Frame) (W : Outcome → State → Prop) (T : State) (g : JFrame) : Prop := ∃ s₂ o, Steps p.tables e below (T.setTop g) s₂ ∧ s₂.status = .running ∧ Ended s₂ below o ∧ W o s₂
def Wf (s : State) (rc rs : Nat) (Q : Option Value → Heap → List Loc → Prop) (o : Outcome) (t : State) : Prop := ∃ v L, o = .returned v ∧ Q v t.heap L ∧ FrameEnd s o t L rc rs
/-- a method's contract: from these arguments and this heap it returns, and Q -/
def Mt (l : Launch) (Z : State) (y : MethodName) (bytes : ByteArray) (ml : Nat) (ret : Option FieldType) (ws : List Jvm.Cond) (rm : Room) (as' : Array Value) (h0 : Heap) (Q : Option Value → Heap → List Loc → Prop) : Prop :=
  MetFree l y (head1 (Jvm.Cond.code y bytes ml ret :: ws) rm) (fun a U => a = as' ∧ Z.Warmed39 U.vm ∧ U.heap = h0) (fun _ _ _ _ _ => True) (fun _ U o U' => ∃ v L, o = .returned v ∧ Q v U'.heap L ∧ FrameEnd U o U' L rm.cells rm.slots)
variable {W : Outcome → State → Prop} {g g' : JFrame} {Q : Option Value → Heap → List Loc → Prop} {rc rs : Nat}
theorem Go.st (k : Go p e below W T' g') (st : ∀ t, Steps p.tables e below (T'.setTop g') t → Steps p.tables e below (T.setTop g) t) : Go p e below W T g := by
  obtain ⟨s₂, o, h1, h2⟩ := k
  exact ⟨s₂, o, st _ h1, h2⟩
theorem Go.cast (q : g = g') (k : Go p e below W T g') : Go p e below W T g := q ▸ k
theorem Go.mono {W' : Outcome → State → Prop} (k : Go p e below W T g) (q : ∀ o t, W o t → W' o t) : Go p e below W' T g := by
  obtain ⟨s₂, o, h1, h2, h3, h4⟩ := k
  exact ⟨s₂, o, h1, h2, h3, q _ _ h4⟩
theorem Mt.body {y : MethodName} {bytes : ByteArray} {ml : Nat} {ret : Option FieldType} {ws : List Jvm.Cond} {rm : Room} {as' : Array Value} {h0 : Heap} (hpn : plainFor y = true)
    (body : ∀ (p : Program) (e : Env) (s : State) (m : MethodId) (below : List Frame) (meth : Method) (c : Code) (s₁ : State), p.tables.exec = Jvm.exec → c.code = bytes → c.maxLocals = ml → s.vm.findClass y.cls = some m.cls → meth.name = y.name → meth.sig.returnType = ret → meth.locks = false →
      Z.Warmed39 s.vm → Stand p l e rm s m as' below meth c s₁ [] 0 0 → s₁.heap = h0 → Go p e below (Wf s rm.cells rm.slots Q) s₁ (entryFrame m as' ml)) : Mt l Z y bytes ml ret ws rm as' h0 Q := by
  refine MetFree.of_bodySF hpn hisR ?_
  intro p e s m args below meth c s₁ Bd hml0 hP hK
  obtain ⟨rfl, hZ, hh⟩ := hP
  have := body p e s m below meth c s₁ Bd.exec Bd.bytes hml0 (findClass_of_methodNamed Bd.named) (name_of_methodNamed Bd.named Bd.method).1 Bd.returns Bd.notSynchronized hZ (Stand.of_body Bd) (by rw [← hh, Bd.state]; rfl)
  obtain ⟨s₂, o, h1, h2, h3, v, L, h4, h5, h6⟩ := this
  exact ⟨s₂, o, h1, h2, h3, v, L, h4, h5, h6⟩
theorem Go.retV (X : Stand p l e R s m args below meth c T locs cells slots) (hx : p.tables.exec = Jvm.exec) (hlk : meth.locks = false) (hret : meth.sig.returnType = none) {pc : Nat} {Ls : Array Slot} (hd : decode c.code pc = .ok (.return_, 1)) (hc : cells ≤ rc) (hs : slots ≤ rs) (hq : Q none T.heap locs) : Go p e below (Wf s rc rs Q) T (mkF m pc Ls []) := by
  obtain ⟨fs, hr, hrun, hended, hW, hsame⟩ := X.leave (v := none) (fun _ => rfl) hlk
  exact ⟨_, _, X.returnOut hx hret hd hr, hrun, hended, _, _, rfl, hq, ⟨_, rfl⟩, hW, hsame.mono hc hs⟩
theorem Go.retI (X : Stand p l e R s m args below meth c T locs cells slots) (hx : p.tables.exec = Jvm.exec) (hlk : meth.locks = false) (hret : meth.sig.returnType = some .int) {pc : Nat} {Ls : Array Slot} {z : Int32} {st : List Value} (hd : decode c.code pc = .ok (.ireturn, 1)) (hc : cells ≤ rc) (hs : slots ≤ rs) (hq : Q (some (.int z)) T.heap locs) : Go p e below (Wf s rc rs Q) T (mkF m pc Ls (.int z :: st)) := by
  obtain ⟨fs, hr, hrun, hended, hW, hsame⟩ := X.leave (v := some (.int z)) (fun h => by rw [hret] at h; cases h) hlk
  exact ⟨_, _, own_retI X hx hret hd hr, hrun, hended, _, _, rfl, hq, ⟨_, rfl⟩, hW, hsame.mono hc hs⟩
theorem Go.retL (X : Stand p l e R s m args below meth c T locs cells slots) (hx : p.tables.exec = Jvm.exec) (hlk : meth.locks = false) (hret : meth.sig.returnType = some .long) {pc : Nat} {Ls : Array Slot} {z : Int64} {st : List Value} (hd : decode c.code pc = .ok (.lreturn, 1)) (hc : cells ≤ rc) (hs : slots ≤ rs) (hq : Q (some (.long z)) T.heap locs) : Go p e below (Wf s rc rs Q) T (mkF m pc Ls (.long z :: st)) := by
  obtain ⟨fs, hr, hrun, hended, hW, hsame⟩ := X.leave (v := some (.long z)) (fun h => by rw [hret] at h; cases h) hlk
  exact ⟨_, _, own_retL X hx hret hd hr, hrun, hended, _, _, rfl, hq, ⟨_, rfl⟩, hW, hsame.mono hc hs⟩
theorem Go.retA (X : Stand p l e R s m args below meth c T locs cells slots) (hx : p.tables.exec = Jvm.exec) (hlk : meth.locks = false) {t : FieldType} (hret : meth.sig.returnType = some t) (ht : t.isReference = true) {pc : Nat} {Ls : Array Slot} {v : Value} (hv : v.isRef = true) {st : List Value} (hd : decode c.code pc = .ok (.areturn, 1)) (hc : cells ≤ rc) (hs : slots ≤ rs) (hq : Q (some v) T.heap locs) : Go p e below (Wf s rc rs Q) T (mkF m pc Ls (v :: st)) := by
  obtain ⟨fs, hr, hrun, hended, hW, hsame⟩ := X.leave (v := some v) (fun h => by rw [hret] at h; cases h) hlk
  exact ⟨_, _, own_retA X hx hv hret ht hd hr, hrun, hended, _, _, rfl, hq, ⟨_, rfl⟩, hW, hsame.mono hc hs⟩
theorem Go.retN (X : Stand p l e R s m args below meth c T locs cells slots) (hx : p.tables.exec = Jvm.exec) (hlk : meth.locks = false) {t : FieldType} (hret : meth.sig.returnType = some t) (ht : t = .boolean ∨ t = .byte ∨ t = .char ∨ t = .short) {pc : Nat} {Ls : Array Slot} {z z' : Int32} {st : List Value} (hn : narrow t (.int z) = .int z') (hd : decode c.code pc = .ok (.ireturn, 1)) (hc : cells ≤ rc) (hs : slots ≤ rs) (hq : Q (some (.int z')) T.heap locs) : Go p e below (Wf s rc rs Q) T (mkF m pc Ls (.int z :: st)) := by
  obtain ⟨fs, hr, hrun, hended, hW, hsame⟩ := X.leave (v := some (.int z')) (fun h => by rw [hret] at h; cases h) hlk
  refine ⟨_, _, ?_, hrun, hended, _, _, rfl, hq, ⟨_, rfl⟩, hW, hsame.mono hc hs⟩
  have hm' : T.vm.method? m = some meth := X.method'
  show Steps p.tables e below (T.setTop { method := m, pc := pc, locals := Ls, stack := _ :: st, locked := none }) _
  rcases ht with rfl | rfl | rfl | rfl
  all_goals
    jvm_step X.here [X.here.top, hx, hd, hm', hret, hn]
    first | (intro acts; rw [hr _ acts rfl rfl rfl]) | rw [hr _ _ rfl rfl rfl]
    exact Steps.refl _
/-! calls, paid by any Back -/
theorem Go.callSB (X : Stand p l e R s m args below meth c T locs cells slots) (hx : p.tables.exec = Jvm.exec) (hZ : Z.Warmed39 s.vm) {own : String} {index : Nat} {y : MethodName} {bytes : ByteArray} {maxL : Nat} {ret : Option FieldType} (hown : s.vm.findClass own = some m.cls)
    (w1 : (Jvm.Cond.methodLink own index y).before a0 Z = true) (w2 : (Jvm.Cond.static y).before a0 Z = true) (w3 : (Jvm.Cond.initialized y.cls).before a0 Z = true) (w4 : (Jvm.Cond.code y bytes maxL ret).before a0 Z = true) (hy : y.cls ≠ "java/lang/invoke/MethodHandle" ∧ y.cls ≠ "java/lang/invoke/VarHandle")
    {Wd : Nat} {Pre : Pt → Array Value → Prop} {Post : Pt → Array Value → Option Value → Pt → Prop} (hK : Back l R p e below s args y 3 Wd Pre Post)
    {argsL rest : List Value} (hg : g.method = m) (hsize : g.locals.size = c.maxLocals) (hlen : ∀ sig, parseMethodDescriptor y.desc = some sig → argsL.length = sig.parameters.length) (hstack : g.stack = argsL.reverse ++ rest) (hWd : 2 * g.monitorRoom + (rest.map fun v => v.category).sum ≤ Wd) (hd : decode c.code g.pc = .ok (.invokestatic index, 3))
    (hpre : ∀ vm₁, Pre ⟨T.setVm vm₁, locs, cells, slots⟩ argsL.toArray)
    (k : ∀ (v : Option Value) (vm₁ : Vm) (B : Pt), Stand p l e R s m args below meth c B.U B.locs B.cells B.slots → Post ⟨T.setVm vm₁, locs, cells, slots⟩ argsL.toArray v B → Go p e below W B.U { g with pc := g.pc + 3, stack := v.toList ++ rest }) : Go p e below W T g := by
  obtain ⟨v, vm₁, B, -, X', hP, st⟩ := Jvm.LawKit.callS X hx hown (mvT hZ w1) (mvT hZ w2) (mvT hZ w3) (mvT hZ w4) hy hK hg hsize hlen hstack hWd hd (fun vm₁ _ => hpre vm₁)
  exact (k v vm₁ B X' hP).st st
theorem Go.callNB (X : Stand p l e R s m args below meth c T locs cells slots) (hx : p.tables.exec = Jvm.exec) (hZ : Z.Warmed39 s.vm) {own : String} {index : Nat} {y : MethodName} {bytes : ByteArray} {maxL : Nat} (hy1 : y.name = "<init>") (hown : s.vm.findClass own = some m.cls)
    (w1 : (Jvm.Cond.methodLink own index y).before a0 Z = true) (w2 : (Jvm.Cond.instanceMethod y).before a0 Z = true) (w4 : (Jvm.Cond.code y bytes maxL none).before a0 Z = true) (hy : y.cls ≠ "java/lang/invoke/MethodHandle" ∧ y.cls ≠ "java/lang/invoke/VarHandle")
    {Wd : Nat} {Pre : Pt → Array Value → Prop} {Post : Pt → Array Value → Option Value → Pt → Prop} (hK : Back l R p e below s args y 3 Wd Pre Post)
    {a : Addr} {argsL rest : List Value} (hg : g.method = m) (hsize : g.locals.size = c.maxLocals) (hlen : ∀ sig, parseMethodDescriptor y.desc = some sig → argsL.length = sig.parameters.length) (hstack : g.stack = argsL.reverse ++ .ref a :: rest) (hWd : 2 * g.monitorRoom + (rest.map fun v => v.category).sum ≤ Wd) (hd : decode c.code g.pc = .ok (.invokespecial index, 3))
    (hpre : ∀ vm₁, Pre ⟨T.setVm vm₁, locs, cells, slots⟩ (.ref a :: argsL).toArray)
    (k : ∀ (v : Option Value) (vm₁ : Vm) (B : Pt), Stand p l e R s m args below meth c B.U B.locs B.cells B.slots → Post ⟨T.setVm vm₁, locs, cells, slots⟩ (.ref a :: argsL).toArray v B → Go p e below W B.U { g with pc := g.pc + 3, stack := v.toList ++ rest }) : Go p e below W T g := by
  obtain ⟨v, vm₁, B, -, X', hP, st⟩ := X.specialBack hx hy1 hown (mvT hZ w1) (mvT hZ w2) (mvT hZ w4) hy hK hg hsize (Steps.refl _) hlen hstack hWd hd (fun vm₁ _ => hpre vm₁)
  exact (k v vm₁ B X' hP).st fun _ q => st.trans q
theorem Go.callVB (X : Stand p l e R s m args below meth c T locs cells slots) (hx : p.tables.exec = Jvm.exec) (hZ : Z.Warmed39 s.vm) {own C : String} {index : Nat} {y z : MethodName} (hown : s.vm.findClass own = some m.cls)
    (w1 : (Jvm.Cond.methodLink own index y).before a0 Z = true) (w2 : (Jvm.Cond.declares y).before a0 Z = true) (hnf : NotFace s y) (w3 : (Jvm.Cond.selects C y z).before a0 Z = true) (w4 : (Jvm.Cond.instanceMethod z).before a0 Z = true) (hy : y.cls ≠ "java/lang/invoke/MethodHandle" ∧ y.cls ≠ "java/lang/invoke/VarHandle")
    {Wd : Nat} {Pre : Pt → Array Value → Prop} {Post : Pt → Array Value → Option Value → Pt → Prop} (hK : Back l R p e below s args z 3 Wd Pre Post)
    (eT : T.heap = h) {b : Addr} (E : Exa Z h b C) {argsL rest : List Value} (hg : g.method = m) (hsize : g.locals.size = c.maxLocals) (hlen : ∀ sig, parseMethodDescriptor y.desc = some sig → argsL.length = sig.parameters.length) (hstack : g.stack = argsL.reverse ++ .ref b :: rest) (hWd : 2 * g.monitorRoom + (rest.map fun v => v.category).sum ≤ Wd) (hd : decode c.code g.pc = .ok (.invokevirtual index, 3))
    (hpre : ∀ vm₁, Pre ⟨T.setVm vm₁, locs, cells, slots⟩ (.ref b :: argsL).toArray)
    (k : ∀ (v : Option Value) (vm₁ : Vm) (B : Pt), Stand p l e R s m args below meth c B.U B.locs B.cells B.slots → Post ⟨T.setVm vm₁, locs, cells, slots⟩ (.ref b :: argsL).toArray v B → Go p e below W B.U { g with pc := g.pc + 3, stack := v.toList ++ rest }) : Go p e below W T g := by
  obtain ⟨cB, kB, q1, q2, q3⟩ := isOf hZ eT E
  obtain ⟨v, vm₁, B, -, X', hP, st⟩ := X.virtualBack hx hown (mvT hZ w1) (mvT hZ w2) hnf (mvT hZ w3) (mvT hZ w4) hy hK q1 q3 hg hsize (Steps.refl _) hlen hstack hWd hd (fun vm₁ _ => hpre vm₁)
  exact (k v vm₁ B X' hP).st fun _ q => st.trans q
/-! calls, paid by a contract of one's own (Mt) -/
variable {Q' : Option Value → Heap → List Loc → Prop} {rm : Room} {as' : Array Value}
theorem Go.callS (X : Stand p l e R s m args below meth c T locs cells slots) (hx : p.tables.exec = Jvm.exec) (hZ : Z.Warmed39 s.vm) {own : String} {index : Nat} {y : MethodName} {bytes : ByteArray} {maxL : Nat} {ret : Option FieldType} (hown : s.vm.findClass own = some m.cls)
    (w1 : (Jvm.Cond.methodLink own index y).before a0 Z = true) (w2 : (Jvm.Cond.static y).before a0 Z = true) (w3 : (Jvm.Cond.initialized y.cls).before a0 Z = true) (w4 : (Jvm.Cond.code y bytes maxL ret).before a0 Z = true) (hy : y.cls ≠ "java/lang/invoke/MethodHandle" ∧ y.cls ≠ "java/lang/invoke/VarHandle") (Wd : Nat)
    (hM : Mt l Z y bytes maxL ret [] rm as' h Q') (eT : T.heap = h) (hf : rm.frames + 1 ≤ R.frames) (hl : Wd + (maxL + 11) + rm.locals ≤ R.locals) (hc : cells + rm.cells ≤ R.cells) (hs : slots + rm.slots ≤ R.slots)
    {argsL rest : List Value} (hg : g.method = m) (hsize : g.locals.size = c.maxLocals) (hlen : ∀ sig, parseMethodDescriptor y.desc = some sig → argsL.length = sig.parameters.length) (hstack : g.stack = argsL.reverse ++ rest) (ha : argsL.toArray = as') (hWd : 2 * g.monitorRoom + (rest.map fun v => v.category).sum ≤ Wd) (hd : decode c.code g.pc = .ok (.invokestatic index, 3))
    (k : ∀ (v : Option Value) (T' : State) (L : List Loc), Stand p l e R s m args below meth c T' (locs ++ L) (cells + rm.cells) (slots + rm.slots) → Q' v T'.heap L → Go p e below W T' { g with pc := g.pc + 3, stack := v.toList ++ rest }) : Go p e below W T g := by
  refine Go.callSB X hx hZ hown w1 w2 w3 w4 hy (backOf (W := Wd) hM hZ w4 w3 hf hl) hg hsize hlen hstack hWd hd (fun _ => ⟨ha, eT, hc, hs⟩) ?_
  rintro v vm₁ ⟨T1, L1, c1, n1⟩ X1 ⟨L, hQ, e1, e2, e3⟩
  dsimp only [Pt.U, Pt.locs, Pt.cells, Pt.slots] at X1 e1 e2 e3 hQ ⊢
  subst e1 e2 e3
  exact k v T1 L X1 hQ
theorem Go.callN (X : Stand p l e R s m args below meth c T locs cells slots) (hx : p.tables.exec = Jvm.exec) (hZ : Z.Warmed39 s.vm) {own : String} {index : Nat} {y : MethodName} {bytes : ByteArray} {maxL : Nat} (hy1 : y.name = "<init>") (hown : s.vm.findClass own = some m.cls)
    (w1 : (Jvm.Cond.methodLink own index y).before a0 Z = true) (w2 : (Jvm.Cond.instanceMethod y).before a0 Z = true) (w3 : (Jvm.Cond.initialized y.cls).before a0 Z = true) (w4 : (Jvm.Cond.code y bytes maxL none).before a0 Z = true) (hy : y.cls ≠ "java/lang/invoke/MethodHandle" ∧ y.cls ≠ "java/lang/invoke/VarHandle") (Wd : Nat)
    (hM : Mt l Z y bytes maxL none [] rm as' h Q') (eT : T.heap = h) (hf : rm.frames + 1 ≤ R.frames) (hl : Wd + (maxL + 11) + rm.locals ≤ R.locals) (hc : cells + rm.cells ≤ R.cells) (hs : slots + rm.slots ≤ R.slots)
    {a : Addr} {argsL rest : List Value} (hg : g.method = m) (hsize : g.locals.size = c.maxLocals) (hlen : ∀ sig, parseMethodDescriptor y.desc = some sig → argsL.length = sig.parameters.length) (hstack : g.stack = argsL.reverse ++ .ref a :: rest) (ha : (Value.ref a :: argsL).toArray = as') (hWd : 2 * g.monitorRoom + (rest.map fun v => v.category).sum ≤ Wd) (hd : decode c.code g.pc = .ok (.invokespecial index, 3))
    (k : ∀ (v : Option Value) (T' : State) (L : List Loc), Stand p l e R s m args below meth c T' (locs ++ L) (cells + rm.cells) (slots + rm.slots) → Q' v T'.heap L → Go p e below W T' { g with pc := g.pc + 3, stack := v.toList ++ rest }) : Go p e below W T g := by
  refine Go.callNB X hx hZ hy1 hown w1 w2 w4 hy (backOf (W := Wd) hM hZ w4 w3 hf hl) hg hsize hlen hstack hWd hd (fun _ => ⟨ha, eT, hc, hs⟩) ?_
  rintro v vm₁ ⟨T1, L1, c1, n1⟩ X1 ⟨L, hQ, e1, e2, e3⟩
  dsimp only [Pt.U, Pt.locs, Pt.cells, Pt.slots] at X1 e1 e2 e3 hQ ⊢
  subst e1 e2 e3
  exact k v T1 L X1 hQ
theorem Go.callV (X : Stand p l e R s m args below meth c T locs cells slots) (hx : p.tables.exec = Jvm.exec) (hZ : Z.Warmed39 s.vm) {own C : String} {index : Nat} {y z : MethodName} {bytes : ByteArray} {maxL : Nat} {ret : Option FieldType} (hown : s.vm.findClass own = some m.cls)
    (w1 : (Jvm.Cond.methodLink own index y).before a0 Z = true) (w2 : (Jvm.Cond.declares y).before a0 Z = true) (hnf : NotFace s y) (w3 : (Jvm.Cond.selects C y z).before a0 Z = true) (w4 : (Jvm.Cond.instanceMethod z).before a0 Z = true) (w5 : (Jvm.Cond.initialized z.cls).before a0 Z = true) (w6 : (Jvm.Cond.code z bytes maxL ret).before a0 Z = true) (hy : y.cls ≠ "java/lang/invoke/MethodHandle" ∧ y.cls ≠ "java/lang/invoke/VarHandle") (Wd : Nat)
    (hM : Mt l Z z bytes maxL ret [] rm as' h Q') (eT : T.heap = h) (hf : rm.frames + 1 ≤ R.frames) (hl : Wd + (maxL + 11) + rm.locals ≤ R.locals) (hc : cells + rm.cells ≤ R.cells) (hs : slots + rm.slots ≤ R.slots)
    {b : Addr} (E : Exa Z h b C) {argsL rest : List Value} (hg : g.method = m) (hsize : g.locals.size = c.maxLocals) (hlen : ∀ sig, parseMethodDescriptor y.desc = some sig → argsL.length = sig.parameters.length) (hstack : g.stack = argsL.reverse ++ .ref b :: rest) (ha : (Value.ref b :: argsL).toArray = as') (hWd : 2 * g.monitorRoom + (rest.map fun v => v.category).sum ≤ Wd) (hd : decode c.code g.pc = .ok (.invokevirtual index, 3))
    (k : ∀ (v : Option Value) (T' : State) (L : List Loc), Stand p l e R s m args below meth c T' (locs ++ L) (cells + rm.cells) (slots + rm.slots) → Q' v T'.heap L → Go p e below W T' { g with pc := g.pc + 3, stack := v.toList ++ rest }) : Go p e below W T g := by
  refine Go.callVB X hx hZ hown w1 w2 hnf w3 w4 hy (backOf (W := Wd) hM hZ w6 w5 hf hl) eT E hg hsize hlen hstack hWd hd (fun _ => ⟨ha, eT, hc, hs⟩) ?_
  rintro v vm₁ ⟨T1, L1, c1, n1⟩ X1 ⟨L, hQ, e1, e2, e3⟩
  dsimp only [Pt.U, Pt.locs, Pt.cells, Pt.slots] at X1 e1 e2 e3 hQ ⊢
  subst e1 e2 e3
  exact k v T1 L X1 hQ
end Own

/-! own prelude, arrays: Ary Z h a ty vs: at a lies an array of kind ty that holds just vs -/
theorem own_nat {n : Nat} (h : n < 2 ^ 31) : (Int32.ofNat n).toNatClampNeg = n ∧ ¬ Int32.ofNat n < 0 ∧ (Int32.ofNat n).toInt = n := by
  have e : (Int32.ofNat n).toInt = n := Int32.toInt_ofNat_of_lt h
  refine ⟨?_, ?_, e⟩
  · simp only [Int32.toNatClampNeg, e]; rfl
  · rw [Int32.lt_iff_toInt_lt, e]; simp
theorem own_lt {i n : Nat} (hi : i < 2 ^ 31) (hn : n < 2 ^ 31) : Int32.ofNat i < Int32.ofNat n ↔ i < n := by
  rw [Int32.lt_iff_toInt_lt, (own_nat hi).2.2, (own_nat hn).2.2]; omega
theorem own_eq {i n : Nat} (hi : i < 2 ^ 31) (hn : n < 2 ^ 31) : Int32.ofNat i = Int32.ofNat n ↔ i = n := by
  constructor
  · intro h
    have := congrArg Int32.toInt h
    rw [(own_nat hi).2.2, (own_nat hn).2.2] at this; omega
  · rintro rfl; rfl
theorem own_add (i n : Nat) : Int32.ofNat i + Int32.ofNat n = Int32.ofNat (i + n) := (Int32.ofNat_add i n).symm
theorem own_sub {i n : Nat} (h : n ≤ i) : Int32.ofNat i - Int32.ofNat n = Int32.ofNat (i - n) := by
  have : Int32.ofNat i = Int32.ofNat (i - n) + Int32.ofNat n := by rw [own_add]; congr 1; omega
  rw [this]; exact Int32.add_sub_cancel _ _
def Ary (Z : State) (h : Heap) (a : Addr) (ty : FieldType) (vs : List Value) : Prop := vs.length < 2 ^ 31 ∧ ∃ k d, Arv Z h a k ty (Int32.ofNat vs.length) vs d
section OwnA
variable {p : Program} {l : Launch} {e : Env} {R : Room} {s : State} {m : MethodId} {args : Array Value} {below : List Frame} {meth : Method} {c : Code} {T T' : State} {locs : List Loc} {cells slots : Nat} {Z : State} {a0 : Array Value} {h h' : Heap} {a b : Addr} {ty : FieldType} {vs : List Value} {v w : Value} {sl i : Nat} {j : Int32} {g : JFrame} {rest : List Value} {ws : List Addr} {W : Outcome → State → Prop} {t : State}
theorem Ary.lt (A : Ary Z h a ty vs) : a < h.size := by obtain ⟨-, k, d, F⟩ := A; exact F.lt
theorem Ary.ext (A : Ary Z h a ty vs) (E : Ext h h') : Ary Z h' a ty vs := by obtain ⟨q, k, d, F⟩ := A; exact ⟨q, k, d, F.ext E⟩
theorem Ary.other (A : Ary Z h a ty vs) (Wq : Wr h h' b sl w) (q : a ≠ b) : Ary Z h' a ty vs := by obtain ⟨q', k, d, F⟩ := A; exact ⟨q', k, d, F.other Wq q⟩
theorem Ary.keep (A : Ary Z h a ty vs) (K : Keep h h' ws) (q : a ∉ ws) : Ary Z h' a ty vs := by obtain ⟨q', k, d, F⟩ := A; exact ⟨q', k, d, F.keep K q⟩
theorem Ary.at (A : Ary Z h a ty vs) (hi : vs[i]? = some v) (hj : j = Int32.ofNat i) : ∃ cl, Arr Z h a cl ty ∧ ¬ (j < 0 ∨ cl.slots.size ≤ j.toNatClampNeg) ∧ cl.slots[j.toNatClampNeg]? = some v := by
  obtain ⟨q, k, d, cl, A, r1, r2, r3, H, G⟩ := A
  have hl := (List.getElem?_eq_some_iff.mp hi).1
  have n1 := own_nat q
  have n2 := own_nat (Nat.lt_trans hl q)
  subst hj
  rw [n1.1] at r2
  refine ⟨cl, A, ?_, ?_⟩
  · rw [n2.1, r2]; exact fun z => z.elim n2.2.1 fun y => Nat.not_le.mpr hl y
  · rw [n2.1, H i (by rw [r2]; exact hl)]; simp [List.getD_eq_getElem?_getD, hi]
theorem Ary.inb (A : Ary Z h a ty vs) (hi : i < vs.length) (hj : j = Int32.ofNat i) : ∃ cl, Arr Z h a cl ty ∧ ¬ (j < 0 ∨ cl.slots.size ≤ j.toNatClampNeg) := by
  obtain ⟨cl, h1, h2, -⟩ := A.at (v := vs[i]) (List.getElem?_eq_getElem hi) hj
  exact ⟨cl, h1, h2⟩
theorem own_new {k : ClassId} {n : Nat} (q : n < 2 ^ 31) (A : Arr Z h a (newA k ty (Int32.ofNat n)) ty) : Ary Z h a ty (List.replicate n (defaultValue ty)) := by
  refine ⟨by simpa using q, k, defaultValue ty, ?_⟩
  have F := (Arv.new A (own_nat q).2.1).pad (pad_rep [] (defaultValue ty) n)
  simpa using F
theorem Ary.set (A : Ary Z h a ty vs) (hi : i < vs.length) (hj : j = Int32.ofNat i) (hv : fits ty v = true) (Wq : Wr h h' a j.toNatClampNeg v) : Ary Z h' a ty (vs.set i v) := by
  obtain ⟨q, k, d, cl, A, r1, r2, r3, H, G⟩ := A
  refine ⟨by simpa using q, k, d, ?_⟩
  rw [List.length_set]
  exact Arv.set A r1 r2 r3 H G hv Wq i (by rw [hj]; exact (own_nat (Nat.lt_trans hi q)).1) hi
theorem own_laload (X : Stand p l e R s m args below meth c T locs cells slots) (hx : p.tables.exec = Jvm.exec) (hZ : Z.Warmed39 s.vm) (eT : T.heap = h) (A : Ary Z h a .long vs) (hi : vs[i]? = some v) (hj : j = Int32.ofNat i) (hg : g.method = m) (hs : g.stack = .int j :: .ref a :: rest) (hd : decode c.code g.pc = .ok (.laload, 1))
    (k : Steps p.tables e below (T.setTop { g with pc := g.pc + 1, stack := v :: rest }) t) : Steps p.tables e below (T.setTop g) t := by
  obtain ⟨cl, h1, h2, h3⟩ := A.at hi hj
  exact X.laload hx (by rw [eT]; exact h1.1) (State.isArrayOf_alike hZ.alike h1.2.1) h1.2.2 h2 h3 hg hs hd _ k
theorem own_iaload (X : Stand p l e R s m args below meth c T locs cells slots) (hx : p.tables.exec = Jvm.exec) (hZ : Z.Warmed39 s.vm) (eT : T.heap = h) (A : Ary Z h a .int vs) (hi : vs[i]? = some v) (hj : j = Int32.ofNat i) (hg : g.method = m) (hs : g.stack = .int j :: .ref a :: rest) (hd : decode c.code g.pc = .ok (.iaload, 1))
    (k : Steps p.tables e below (T.setTop { g with pc := g.pc + 1, stack := v :: rest }) t) : Steps p.tables e below (T.setTop g) t := by
  obtain ⟨cl, h1, h2, h3⟩ := A.at hi hj
  exact X.iaload hx (by rw [eT]; exact h1.1) (State.isArrayOf_alike hZ.alike h1.2.1) h1.2.2 h2 h3 hg hs hd _ k
theorem own_caload (X : Stand p l e R s m args below meth c T locs cells slots) (hx : p.tables.exec = Jvm.exec) (hZ : Z.Warmed39 s.vm) (eT : T.heap = h) (A : Ary Z h a .char vs) (hi : vs[i]? = some v) (hj : j = Int32.ofNat i) (hg : g.method = m) (hs : g.stack = .int j :: .ref a :: rest) (hd : decode c.code g.pc = .ok (.caload, 1))
    (k : Steps p.tables e below (T.setTop { g with pc := g.pc + 1, stack := v :: rest }) t) : Steps p.tables e below (T.setTop g) t := by
  obtain ⟨cl, h1, h2, h3⟩ := A.at hi hj
  exact X.caload hx (by rw [eT]; exact h1.1) (State.isArrayOf_alike hZ.alike h1.2.1) h1.2.2 h2 h3 hg hs hd _ k
theorem own_baload (X : Stand p l e R s m args below meth c T locs cells slots) (hx : p.tables.exec = Jvm.exec) (hZ : Z.Warmed39 s.vm) (eT : T.heap = h) (A : Ary Z h a .byte vs) (hi : vs[i]? = some v) (hj : j = Int32.ofNat i) (hg : g.method = m) (hs : g.stack = .int j :: .ref a :: rest) (hd : decode c.code g.pc = .ok (.baload, 1))
    (k : Steps p.tables e below (T.setTop { g with pc := g.pc + 1, stack := v :: rest }) t) : Steps p.tables e below (T.setTop g) t := by
  obtain ⟨cl, h1, h2, h3⟩ := A.at hi hj
  exact X.baloadBytes hx (by rw [eT]; exact h1.1) (State.isArrayOf_alike hZ.alike h1.2.1) h1.2.2 h2 h3 hg hs hd _ k
theorem own_aaload (X : Stand p l e R s m args below meth c T locs cells slots) (hx : p.tables.exec = Jvm.exec) (hZ : Z.Warmed39 s.vm) (eT : T.heap = h) (A : Ary Z h a ty vs) (hty : ty.isReference = true) (hi : vs[i]? = some v) (hj : j = Int32.ofNat i) (hg : g.method = m) (hs : g.stack = .int j :: .ref a :: rest) (hd : decode c.code g.pc = .ok (.aaload, 1))
    (k : Steps p.tables e below (T.setTop { g with pc := g.pc + 1, stack := v :: rest }) t) : Steps p.tables e below (T.setTop g) t := by
  obtain ⟨cl, h1, h2, h3⟩ := A.at hi hj
  exact X.aaload hx (by rw [eT]; exact h1.1) (State.isArrayOf_alike hZ.alike h1.2.1) hty h1.2.2 h2 h3 hg hs hd _ k
theorem own_alen (X : Stand p l e R s m args below meth c T locs cells slots) (hx : p.tables.exec = Jvm.exec) (hZ : Z.Warmed39 s.vm) (eT : T.heap = h) (A : Ary Z h a ty vs) {n : Nat} (hn : vs.length = n) (hg : g.method = m) (hs : g.stack = .ref a :: rest) (hd : decode c.code g.pc = .ok (.arraylength, 1))
    (k : Steps p.tables e below (T.setTop { g with pc := g.pc + 1, stack := .int (Int32.ofNat n) :: rest }) t) : Steps p.tables e below (T.setTop g) t := by
  subst hn
  obtain ⟨q, k', d, cl, A, r1, r2, r3, H, G⟩ := A
  refine X.arraylength hx (by rw [eT]; exact A.1) (State.isArrayOf_alike hZ.alike A.2.1) hg hs hd _ ?_
  rw [len_of r2 r3]; exact k
theorem Go.lastore (X : Stand p l e R s m args below meth c T locs cells slots) (hx : p.tables.exec = Jvm.exec) (hZ : Z.Warmed39 s.vm) (eT : T.heap = h) (A : Ary Z h a .long vs) {x : Int64} (hi : i < vs.length) (hj : j = Int32.ofNat i) (hg : g.method = m) (hs : g.stack = .long x :: .int j :: .ref a :: rest) (hd : decode c.code g.pc = .ok (.lastore, 1))
    (k : ∀ (T' : State) (h' : Heap), Stand p l e R s m args below meth c T' (locs ++ [⟨a, j.toNatClampNeg⟩]) cells slots → T'.heap = h' → Wr h h' a j.toNatClampNeg (.long x) → Ary Z h' a .long (vs.set i (.long x)) → Go p e below W T' { g with pc := g.pc + 1, stack := rest }) : Go p e below W T g := by
  obtain ⟨cl, h1, h2⟩ := A.inb hi hj
  obtain ⟨T', h', X', e', W', st⟩ := stJ X hx hZ eT h1 h2 hg hs hd
  exact (k T' h' X' e' W' (A.set hi hj rfl W')).st st
theorem Go.iastore (X : Stand p l e R s m args below meth c T locs cells slots) (hx : p.tables.exec = Jvm.exec) (hZ : Z.Warmed39 s.vm) (eT : T.heap = h) (A : Ary Z h a .int vs) {x : Int32} (hi : i < vs.length) (hj : j = Int32.ofNat i) (hg : g.method = m) (hs : g.stack = .int x :: .int j :: .ref a :: rest) (hd : decode c.code g.pc = .ok (.iastore, 1))
    (k : ∀ (T' : State) (h' : Heap), Stand p l e R s m args below meth c T' (locs ++ [⟨a, j.toNatClampNeg⟩]) cells slots → T'.heap = h' → Wr h h' a j.toNatClampNeg (.int x) → Ary Z h' a .int (vs.set i (.int x)) → Go p e below W T' { g with pc := g.pc + 1, stack := rest }) : Go p e below W T g := by
  obtain ⟨cl, h1, h2⟩ := A.inb hi hj
  obtain ⟨T', h', X', e', W', st⟩ := stI X hx hZ eT h1 h2 hg hs hd
  exact (k T' h' X' e' W' (A.set hi hj rfl W')).st st
theorem Go.castore (X : Stand p l e R s m args below meth c T locs cells slots) (hx : p.tables.exec = Jvm.exec) (hZ : Z.Warmed39 s.vm) (eT : T.heap = h) (A : Ary Z h a .char vs) {x y : Int32} (hn : nar .char x = y) (hi : i < vs.length) (hj : j = Int32.ofNat i) (hg : g.method = m) (hs : g.stack = .int x :: .int j :: .ref a :: rest) (hd : decode c.code g.pc = .ok (.castore, 1))
    (k : ∀ (T' : State) (h' : Heap), Stand p l e R s m args below meth c T' (locs ++ [⟨a, j.toNatClampNeg⟩]) cells slots → T'.heap = h' → Wr h h' a j.toNatClampNeg (.int y) → Ary Z h' a .char (vs.set i (.int y)) → Go p e below W T' { g with pc := g.pc + 1, stack := rest }) : Go p e below W T g := by
  obtain ⟨cl, h1, h2⟩ := A.inb hi hj
  obtain ⟨T', h', X', e', W', st⟩ := stC X hx hZ eT h1 h2 hg hs hd
  rw [hn] at W'
  exact (k T' h' X' e' W' (A.set hi hj (hn ▸ fits_nar_char x) W')).st st
theorem Go.bastore (X : Stand p l e R s m args below meth c T locs cells slots) (hx : p.tables.exec = Jvm.exec) (hZ : Z.Warmed39 s.vm) (eT : T.heap = h) (A : Ary Z h a .byte vs) {x : Int32} (hi : i < vs.length) (hj : j = Int32.ofNat i) (hg : g.method = m) (hs : g.stack = .int x :: .int j :: .ref a :: rest) (hd : decode c.code g.pc = .ok (.bastore, 1))
    (k : ∀ (T' : State) (h' : Heap), Stand p l e R s m args below meth c T' (locs ++ [⟨a, j.toNatClampNeg⟩]) cells slots → T'.heap = h' → Wr h h' a j.toNatClampNeg (.int x.toInt8.toInt32) → Ary Z h' a .byte (vs.set i (.int x.toInt8.toInt32)) → Go p e below W T' { g with pc := g.pc + 1, stack := rest }) : Go p e below W T g := by
  obtain ⟨cl, h1, h2⟩ := A.inb hi hj
  obtain ⟨T', h', X', e', W', st⟩ := stB X hx hZ eT h1 h2 hg hs hd
  exact (k T' h' X' e' W' (A.set hi hj (fits_nar_byte x) W')).st st
theorem Go.newP (X : Stand p l e R s m args below meth c T locs cells slots) (hx : p.tables.exec = Jvm.exec) (hZ : Z.Warmed39 s.vm) {aty : ArrayType} (w : (Jvm.Cond.arrayClass (newarray.typeOf aty)).before a0 Z = true) (eT : T.heap = h) (hg : g.method = m) (hd : decode c.code g.pc = .ok (.newarray aty, 2)) {j : Int32} {n : Nat} (hs : g.stack = .int j :: rest) (hj : j = Int32.ofNat n)
    (cap : Nat) (hcap : n ≤ cap) (hb : cap * 8 ≤ 536870912) (hc : cells + 1 ≤ R.cells) (hl : slots + cap ≤ R.slots)
    (k : ∀ (T' : State) (h' : Heap) (b : Addr), Stand p l e R s m args below meth c T' locs (cells + 1) (slots + cap) → T'.heap = h' → Ext h h' → b = h.size → Ary Z h' b (newarray.typeOf aty) (List.replicate n (defaultValue (newarray.typeOf aty))) → Go p e below W T' { g with pc := g.pc + 2, stack := .ref b :: rest }) : Go p e below W T g := by
  have q : n < 2 ^ 31 := by omega
  have n1 := own_nat q
  subst hj
  obtain ⟨T', h', cA, X', e', E', A', st⟩ := RoadKit.newP X hx hZ w eT hg hd hs n1.2.1 (cap := cap) (by rw [n1.1]; exact hcap) hb hc hl
  exact (k T' h' _ X' e' E' rfl (own_new q A')).st st
end OwnA


theorem own_div {n k : Nat} (h : n < 2 ^ 31) (hk : k < 2 ^ 31) : Int32.ofNat n / Int32.ofNat k = Int32.ofNat (n / k) := by
  have e := own_nat h; have e2 := own_nat hk
  have q : n / k < 2 ^ 31 := Nat.lt_of_le_of_lt (Nat.div_le_self _ _) h
  apply Int32.toInt_inj.mp
  rw [(own_nat q).2.2]
  have := (c_idiv (Int32.ofNat n) (Int32.ofNat k) k e2.2.2 (fun z => by have := congrArg Int32.toInt z; rw [e2.2.2] at this; simp at this)).1 (by rw [e.2.2]; omega)
  rw [this, e.2.2]; exact (Int.natCast_ediv n k).symm
theorem own_count (x : Int32) : ∃ N, 1 ≤ N ∧ N ≤ 32 ∧ (1 : Int32) + (x &&& (31 : Int32)) = Int32.ofNat N := by
  obtain ⟨h1, h2⟩ := c_and x 31 (by decide)
  have h31 : (31 : Int32).toInt = 31 := rfl
  refine ⟨1 + (x &&& 31).toInt.toNat, by omega, by omega, ?_⟩
  have : x &&& 31 = Int32.ofNat (x &&& 31).toInt.toNat := by
    apply Int32.toInt_inj.mp
    rw [(own_nat (by omega)).2.2]; omega
  exact (congrArg (fun z => (1 : Int32) + z) this).trans (own_add 1 _)
theorem own_rem (x : Int32) (N : Nat) (h1 : 1 ≤ N) (h2 : N ≤ 32) : ∃ I, I < N ∧ (x &&& (2147483647 : Int32)) % Int32.ofNat N = Int32.ofNat I := by
  have h0 := (c_and x 2147483647 (by decide)).1
  have e := (own_nat (n := N) (by omega)).2.2
  have q := (c_irem (x &&& 2147483647) (Int32.ofNat N) N e).1 h0
  have a1 := Int.emod_lt_of_pos (x &&& 2147483647).toInt (show (0 : Int) < N by omega)
  have a2 := Int.emod_nonneg (x &&& 2147483647).toInt (show (N : Int) ≠ 0 by omega)
  refine ⟨((x &&& 2147483647).toInt % N).toNat, by omega, ?_⟩
  apply Int32.toInt_inj.mp
  rw [q, (own_nat (by omega)).2.2]; omega
/-- n longs, by their place -/
def FL (n : Nat) (f : Nat → Int64) : List Value := (List.range n).map fun q => Value.long (f q)
theorem FL_len (n : Nat) (f : Nat → Int64) : (FL n f).length = n := by simp [FL]
theorem FL_at {n i : Nat} {f : Nat → Int64} (h : i < n) : (FL n f)[i]? = some (.long (f i)) := by simp [FL, h]
theorem FL_congr {n : Nat} {f f' : Nat → Int64} (h : ∀ q, q < n → f q = f' q) : FL n f = FL n f' := by
  simp only [FL]; apply List.map_congr_left; intro q hq; rw [h q (List.mem_range.mp hq)]
theorem FL_set {n i : Nat} {f : Nat → Int64} {x : Int64} (h : i < n) : (FL n f).set i (.long x) = FL n (fun q => if q = i then x else f q) := by
  apply List.ext_getElem?
  intro q
  by_cases hq : q < n
  · rw [FL_at hq]
    by_cases e : i = q
    · subst e; simp [List.getElem?_set, FL_len, h]
    · rw [List.getElem?_set_ne e, FL_at hq]; simp [Ne.symm e]
  · rw [List.getElem?_eq_none (by simp [FL_len]; omega), List.getElem?_eq_none (by simp [FL_len]; omega)]
theorem FL_rep (n : Nat) : List.replicate n (Value.long 0) = FL n (fun _ => 0) := by
  apply List.ext_getElem?
  intro q
  by_cases hq : q < n
  · rw [FL_at hq]; simp [hq]
  · rw [List.getElem?_eq_none (by simp; omega), List.getElem?_eq_none (by simp [FL_len]; omega)]
/-- the same values, in order -/
def Srt (n : Nat) (f f' : Nat → Int64) : Prop := (∀ x, (∃ q, q < n ∧ f' q = x) ↔ ∃ q, q < n ∧ f q = x) ∧ ∀ p q, p < q → q < n → (f' p).toInt ≤ (f' q).toInt
def Low (n : Nat) (f : Nat → Int64) (x : Int64) : Prop := (∃ q, q < n ∧ f q = x) ∧ ∀ q, q < n → x.toInt ≤ (f q).toInt
def Hig (n : Nat) (f : Nat → Int64) (x : Int64) : Prop := (∃ q, q < n ∧ f q = x) ∧ ∀ q, q < n → (f q).toInt ≤ x.toInt
theorem own_low {n : Nat} {f f' : Nat → Int64} (S : Srt n f f') (h : 0 < n) : Low n f (f' 0) := by
  refine ⟨(S.1 _).mp ⟨0, h, rfl⟩, fun q hq => ?_⟩
  obtain ⟨r, hr, er⟩ := (S.1 (f q)).mpr ⟨q, hq, rfl⟩
  rw [← er]
  rcases Nat.eq_zero_or_pos r with z | z
  · subst z; exact Int.le_refl _
  · exact S.2 0 r z hr
theorem own_hig {n : Nat} {f f' : Nat → Int64} (S : Srt n f f') (h : 0 < n) : Hig n f (f' (n - 1)) := by
  refine ⟨(S.1 _).mp ⟨n - 1, by omega, rfl⟩, fun q hq => ?_⟩
  obtain ⟨r, hr, er⟩ := (S.1 (f q)).mpr ⟨q, hq, rfl⟩
  rw [← er]
  by_cases z : r = n - 1
  · subst z; exact Int.le_refl _
  · exact S.2 r (n - 1) (by omega) (by omega)
theorem own_low1 {n : Nat} {f : Nat → Int64} {x y : Int64} (A : Low n f x) (B : Low n f y) : x = y := by
  obtain ⟨⟨p, hp, rfl⟩, a⟩ := A; obtain ⟨⟨q, hq, rfl⟩, b⟩ := B
  exact Int64.toInt_inj.mp (Int.le_antisymm (a q hq) (b p hp))
theorem own_hig1 {n : Nat} {f : Nat → Int64} {x y : Int64} (A : Hig n f x) (B : Hig n f y) : x = y := by
  obtain ⟨⟨p, hp, rfl⟩, a⟩ := A; obtain ⟨⟨q, hq, rfl⟩, b⟩ := B
  exact Int64.toInt_inj.mp (Int.le_antisymm (b p hp) (a q hq))
def fS (wu i : Nat) (x : Int64) (f : Nat → Int64) : Nat → Int64 := fun q => if wu ≤ i ∧ q = i - wu then x else f q
def mnJ (x y : Int64) : Int64 := if y < x then y else x
def mxJ (x y : Int64) : Int64 := if x < y then y else x
def LowL (vs : List Int64) (x : Int64) : Prop := x ∈ vs ∧ ∀ y ∈ vs, x.toInt ≤ y.toInt
def HigL (vs : List Int64) (x : Int64) : Prop := x ∈ vs ∧ ∀ y ∈ vs, y.toInt ≤ x.toInt
theorem LowL.one (x : Int64) : LowL [x] x := ⟨by simp, fun y h => by simp at h; rw [h]; exact Int.le_refl _⟩
theorem HigL.one (x : Int64) : HigL [x] x := ⟨by simp, fun y h => by simp at h; rw [h]; exact Int.le_refl _⟩
theorem LowL.mn {vs : List Int64} {x : Int64} (h : LowL vs x) (y : Int64) : LowL (y :: vs) (mnJ x y) := by
  unfold mnJ
  by_cases c : y < x
  · rw [if_pos c]; rw [Int64.lt_iff_toInt_lt] at c
    refine ⟨by simp, fun z hz => ?_⟩
    rcases List.mem_cons.mp hz with q | q
    · rw [q]; exact Int.le_refl _
    · have := h.2 z q; omega
  · rw [if_neg c]; rw [Int64.lt_iff_toInt_lt] at c
    refine ⟨List.mem_cons_of_mem _ h.1, fun z hz => ?_⟩
    rcases List.mem_cons.mp hz with q | q
    · rw [q]; omega
    · exact h.2 z q
theorem HigL.mx {vs : List Int64} {x : Int64} (h : HigL vs x) (y : Int64) : HigL (y :: vs) (mxJ x y) := by
  unfold mxJ
  by_cases c : x < y
  · rw [if_pos c]; rw [Int64.lt_iff_toInt_lt] at c
    refine ⟨by simp, fun z hz => ?_⟩
    rcases List.mem_cons.mp hz with q | q
    · rw [q]; exact Int.le_refl _
    · have := h.2 z q; omega
  · rw [if_neg c]; rw [Int64.lt_iff_toInt_lt] at c
    refine ⟨List.mem_cons_of_mem _ h.1, fun z hz => ?_⟩
    rcases List.mem_cons.mp hz with q | q
    · rw [q]; omega
    · exact h.2 z q
theorem own_LowL {n : Nat} {f : Nat → Int64} {vs : List Int64} {x : Int64} (h1 : ∀ y ∈ vs, ∃ q, q < n ∧ f q = y) (h2 : ∀ q, q < n → f q ∈ vs) (h : LowL vs x) : Low n f x := ⟨h1 x h.1, fun q hq => h.2 _ (h2 q hq)⟩
theorem own_HigL {n : Nat} {f : Nat → Int64} {vs : List Int64} {x : Int64} (h1 : ∀ y ∈ vs, ∃ q, q < n ∧ f q = y) (h2 : ∀ q, q < n → f q ∈ vs) (h : HigL vs x) : Hig n f x := ⟨h1 x h.1, fun q hq => h.2 _ (h2 q hq)⟩
theorem own_pick1 {n : Nat} (h : 1 < n) (p : Nat) : ∃ r, r < n ∧ r ≠ p := by
  by_cases e : p = 0
  · exact ⟨1, h, by omega⟩
  · exact ⟨0, by omega, by omega⟩
theorem own_pick2 {n : Nat} (h : 2 < n) (p q : Nat) : ∃ r, r < n ∧ r ≠ p ∧ r ≠ q := by
  by_cases e : p ≠ 0 ∧ q ≠ 0
  · exact ⟨0, by omega, by omega, by omega⟩
  · by_cases e2 : p ≠ 1 ∧ q ≠ 1
    · exact ⟨1, by omega, by omega, by omega⟩
    · exact ⟨2, h, by omega, by omega⟩
theorem own_rank1 : ∀ n : Fin 33, 1 ≤ n.val → (((((Int32.ofNat n.val).toInt64 * (1 : Int32).toInt64) + (100 : Int64)) - (1 : Int64)) / (100 : Int64)).toInt32 - (1 : Int32) = Int32.ofNat 0 := by decide +kernel
theorem own_rank100 : ∀ n : Fin 33, 1 ≤ n.val → (((((Int32.ofNat n.val).toInt64 * (100 : Int32).toInt64) + (100 : Int64)) - (1 : Int64)) / (100 : Int64)).toInt32 - (1 : Int32) = Int32.ofNat (n.val - 1) := by decide +kernel


theorem own_pred (j : Nat) : Int32.ofNat (j + 1) + (-1 : Int32) = Int32.ofNat j := by
  rw [← own_add]; show Int32.ofNat j + 1 + -1 = _; rw [Int32.add_assoc]; show Int32.ofNat j + 0 = _; exact Int32.add_zero _
theorem own_grow {k n : Nat} {g : Nat → Int64} (hs : ∀ a b, a < b → b ≤ k → b < n → (g a).toInt ≤ (g b).toInt) (h : (g k).toInt ≤ (g (k + 1)).toInt) : ∀ a b, a < b → b ≤ k + 1 → b < n → (g a).toInt ≤ (g b).toInt := by
  intro a b h1 h2 h3
  by_cases e : b = k + 1
  · subst e
    by_cases e2 : a = k
    · subst e2; exact h
    · exact Int.le_trans (hs a k (by omega) (by omega) (by omega)) h
  · exact hs a b h1 (by omega) h3
theorem own_hole {k n : Nat} {g : Nat → Int64} {x : Int64} (hk : k < n) : (x = g k ∨ ∃ q, q < n ∧ q ≠ k ∧ g q = x) ↔ ∃ q, q < n ∧ g q = x := by
  constructor
  · rintro (rfl | ⟨q, h1, h2, h3⟩)
    · exact ⟨k, hk, rfl⟩
    · exact ⟨q, h1, h3⟩
  · rintro ⟨q, h1, h2⟩
    by_cases e : q = k
    · subst e; exact Or.inl h2.symm
    · exact Or.inr ⟨q, h1, e, h2⟩
theorem own_finm {j n : Nat} {f z : Nat → Int64} {ai : Int64} (hj : j < n) (hm : ∀ x, (x = ai ∨ ∃ q, q < n ∧ q ≠ j ∧ z q = x) ↔ ∃ q, q < n ∧ f q = x) : ∀ x, (∃ q, q < n ∧ (if q = j then ai else z q) = x) ↔ ∃ q, q < n ∧ f q = x := by
  intro x
  rw [← hm x]
  constructor
  · rintro ⟨q, h1, h2⟩
    by_cases e : q = j
    · rw [if_pos e] at h2; exact Or.inl h2.symm
    · rw [if_neg e] at h2; exact Or.inr ⟨q, h1, e, h2⟩
  · rintro (rfl | ⟨q, h1, h2, h3⟩)
    · exact ⟨j, hj, if_pos rfl⟩
    · exact ⟨q, h1, by rw [if_neg h2]; exact h3⟩
theorem own_shm {j n : Nat} {f z : Nat → Int64} {ai : Int64} (hj : j + 1 < n) (hm : ∀ x, (x = ai ∨ ∃ q, q < n ∧ q ≠ j + 1 ∧ z q = x) ↔ ∃ q, q < n ∧ f q = x) : ∀ x, (x = ai ∨ ∃ q, q < n ∧ q ≠ j ∧ (if q = j + 1 then z j else z q) = x) ↔ ∃ q, q < n ∧ f q = x := by
  intro x
  rw [← hm x]
  constructor
  · rintro (h | ⟨q, h1, h2, h3⟩)
    · exact Or.inl h
    · by_cases e : q = j + 1
      · rw [if_pos e] at h3; exact Or.inr ⟨j, by omega, by omega, h3⟩
      · rw [if_neg e] at h3; exact Or.inr ⟨q, h1, e, h3⟩
  · rintro (h | ⟨q, h1, h2, h3⟩)
    · exact Or.inl h
    · by_cases e : q = j
      · subst e; exact Or.inr ⟨q + 1, hj, by omega, by rw [if_pos rfl]; exact h3⟩
      · exact Or.inr ⟨q, h1, e, by rw [if_neg h2]; exact h3⟩
theorem own_shs {j k : Nat} {z : Nat → Int64} (hs : ∀ a b, a < b → b ≤ k + 1 → a ≠ j + 1 → b ≠ j + 1 → (z a).toInt ≤ (z b).toInt) (hj : j + 1 ≤ k + 1) : ∀ a b, a < b → b ≤ k + 1 → a ≠ j → b ≠ j → ((fun q => if q = j + 1 then z j else z q) a).toInt ≤ ((fun q => if q = j + 1 then z j else z q) b).toInt := by
  intro a b h1 h2 h3 h4
  by_cases ea : a = j + 1
  · simp only [if_pos ea, if_neg (show ¬ b = j + 1 by omega)]; exact hs j b (by omega) h2 (by omega) (by omega)
  · by_cases eb : b = j + 1
    · simp only [if_neg ea, if_pos eb]; exact hs a j (by omega) (by omega) ea (by omega)
    · simp only [if_neg ea, if_neg eb]; exact hs a b h1 h2 ea eb
theorem own_shg {j k : Nat} {z : Nat → Int64} {ai : Int64} (hs : ∀ b, j + 1 < b → b ≤ k + 1 → ai.toInt ≤ (z b).toInt) (hd : ai.toInt < (z j).toInt) : ∀ b, j < b → b ≤ k + 1 → ai.toInt ≤ ((fun q => if q = j + 1 then z j else z q) b).toInt := by
  intro b h1 h2
  by_cases eb : b = j + 1
  · simp only [if_pos eb]; omega
  · simp only [if_neg eb]; exact hs b (by omega) h2
theorem own_fin0 {k n : Nat} {z : Nat → Int64} {ai : Int64} (hs : ∀ a b, a < b → b ≤ k + 1 → a ≠ 0 → b ≠ 0 → (z a).toInt ≤ (z b).toInt) (hg : ∀ b, 0 < b → b ≤ k + 1 → ai.toInt ≤ (z b).toInt) : ∀ a b, a < b → b ≤ k + 1 → b < n → ((fun q => if q = 0 then ai else z q) a).toInt ≤ ((fun q => if q = 0 then ai else z q) b).toInt := by
  intro a b h1 h2 _
  by_cases ea : a = 0
  · simp only [if_pos ea, if_neg (show ¬ b = 0 by omega)]; exact hg b (by omega) h2
  · simp only [if_neg ea, if_neg (show ¬ b = 0 by omega)]; exact hs a b h1 h2 ea (by omega)
theorem own_fin {j k n : Nat} {z : Nat → Int64} {ai : Int64} (hs : ∀ a b, a < b → b ≤ k + 1 → a ≠ j + 1 → b ≠ j + 1 → (z a).toInt ≤ (z b).toInt) (hg : ∀ b, j + 1 < b → b ≤ k + 1 → ai.toInt ≤ (z b).toInt) (hd : (z j).toInt ≤ ai.toInt) : ∀ a b, a < b → b ≤ k + 1 → b < n → ((fun q => if q = j + 1 then ai else z q) a).toInt ≤ ((fun q => if q = j + 1 then ai else z q) b).toInt := by
  intro a b h1 h2 _
  by_cases ea : a = j + 1
  · simp only [if_pos ea, if_neg (show ¬ b = j + 1 by omega)]; exact hg b (by omega) h2
  · by_cases eb : b = j + 1
    · simp only [if_neg ea, if_pos eb]
      by_cases e2 : a = j
      · subst e2; exact hd
      · exact Int.le_trans (hs a j (by omega) (by omega) ea (by omega)) hd
    · simp only [if_neg ea, if_neg eb]; exact hs a b h1 h2 ea eb

theorem pd__28II_29I : parseMethodDescriptor "(II)I" = some ⟨[.int, .int], some .int⟩ := by decide +kernel
theorem pd__28_5bJII_29V : parseMethodDescriptor "([JII)V" = some ⟨[(.array .long), .int, .int], none⟩ := by decide +kernel
theorem pd__28Ljava_2futil_2fDualPivotQuicksort_24Sorter_3b_5bJIII_29V : parseMethodDescriptor "(Ljava/util/DualPivotQuicksort$Sorter;[JIII)V" = some ⟨[(.object "java/util/DualPivotQuicksort$Sorter"), (.array .long), .int, .int, .int], none⟩ := by decide +kernel
theorem pd__28_5bJIII_29V : parseMethodDescriptor "([JIII)V" = some ⟨[(.array .long), .int, .int, .int], none⟩ := by decide +kernel
theorem pd__28_5bJ_29V : parseMethodDescriptor "([J)V" = some ⟨[(.array .long)], none⟩ := by decide +kernel
theorem pd__28I_29V : parseMethodDescriptor "(I)V" = some ⟨[.int], none⟩ := by decide +kernel
theorem pd__28IJ_29V : parseMethodDescriptor "(IJ)V" = some ⟨[.int, .long], none⟩ := by decide +kernel
theorem pd__28JJ_29J : parseMethodDescriptor "(JJ)J" = some ⟨[.long, .long], some .long⟩ := by decide +kernel
theorem pd__28I_29J : parseMethodDescriptor "(I)J" = some ⟨[.int], some .long⟩ := by decide +kernel
theorem dmnI_0 : decode jdk_29_method_69_code 0 = .ok (.iload_n 0, 1) := by decide +kernel
theorem dmnI_1 : decode jdk_29_method_69_code 1 = .ok (.iload_n 1, 1) := by decide +kernel
theorem dmnI_2 : decode jdk_29_method_69_code 2 = .ok (.if_icmp .gt 7, 3) := by decide +kernel
theorem dmnI_5 : decode jdk_29_method_69_code 5 = .ok (.iload_n 0, 1) := by decide +kernel
theorem dmnI_6 : decode jdk_29_method_69_code 6 = .ok (.goto 4, 3) := by decide +kernel
theorem dmnI_9 : decode jdk_29_method_69_code 9 = .ok (.iload_n 1, 1) := by decide +kernel
theorem dmnI_10 : decode jdk_29_method_69_code 10 = .ok (.ireturn, 1) := by decide +kernel
theorem pn_mnI : plainFor (⟨"java/lang/Math", "min", "(II)I"⟩ : MethodName) = true := by first | exact plainFor_of_name (by first | (simp [plainName, overriddenIn]; done) | decide +kernel) | decide +kernel
theorem ef_mnI (m : MethodId) (x0 : Int32) (x1 : Int32) : entryFrame m #[(.int x0), (.int x1)] 2 = mkF m 0 #[iv x0, iv x1] [] := by first | (simp [entryFrame, mkF, argsToLocals, Value.category]; done) | rfl
set_option maxRecDepth 65536 in
set_option maxHeartbeats 40000000 in
theorem rm_minI (l : Launch) (Z : State) (a0 : Array Value) (hw : ∀ d ∈ tables_1, d.before a0 Z = true) (ws : List Jvm.Cond) (x y : Int32) (h0 : Heap)  :
    Mt l Z (⟨"java/lang/Math", "min", "(II)I"⟩ : MethodName) jdk_29_method_69_code 2 (some .int) ws ({ frames := 0, cells := 0, slots := 0, locals := 0 } : Room) #[(.int x), (.int y)] h0 (fun v h L => v = some (.int (if y < x then y else x)) ∧ h = h0 ∧ L = []) := by
  refine Mt.body pn_mnI ?_
  intro p e s m below meth c s₁ hx hby hml hown hnm hret hlk hZ X0 e0
  refine Go.cast (g' := (mkF m 0 #[iv x, iv y] [])) (ef_mnI m x y) ?_
  have N0 := Fr.nil 0
  refine Go.st (T' := s₁) (g' := (mkF m 2 #[iv x, iv y] [(.int y), (.int x)])) ?_ (fun _ kk_ => XS.iloadN X0.here hx rfl (hb hby dmnI_0) rfl  (XS.iloadN X0.here hx rfl (hb hby dmnI_1) rfl  kk_))
  by_cases hc : y < x
  ·
    refine Go.st (T' := s₁) (g' := (mkF m 10 #[iv x, iv y] [(.int y)])) ?_ (fun _ kk_ => XS.icmpYes X0.here hx rfl (pc0 := 2) (pc' := 9) rfl (hb hby dmnI_2) rfl (tlt (hc : y < x)).2.2.1 (by decide) (by decide) (XS.iloadN X0.here hx rfl (hb hby dmnI_9) rfl  kk_))
    refine Go.retI X0 hx hlk hret (hb hby dmnI_10) (by decide) (by decide) ?_
    try rw [e0]
    exact ⟨by rw [if_pos hc], rfl, rfl⟩
  ·
    refine Go.st (T' := s₁) (g' := (mkF m 10 #[iv x, iv y] [(.int x)])) ?_ (fun _ kk_ => XS.icmpNo X0.here hx rfl (hb hby dmnI_2) rfl (flt (hc : ¬ (y < x))).2.2.1 (XS.iloadN X0.here hx rfl (hb hby dmnI_5) rfl  (XS.goto X0.here hx rfl (pc0 := 6) (pc' := 10) rfl (hb hby dmnI_6) (by decide) (by decide) kk_)))
    refine Go.retI X0 hx hlk hret (hb hby dmnI_10) (by decide) (by decide) ?_
    try rw [e0]
    exact ⟨by rw [if_neg hc], rfl, rfl⟩
theorem dmnJ_0 : decode jdk_29_method_70_code 0 = .ok (.lload_n 0, 1) := by decide +kernel
theorem dmnJ_1 : decode jdk_29_method_70_code 1 = .ok (.lload_n 2, 1) := by decide +kernel
theorem dmnJ_2 : decode jdk_29_method_70_code 2 = .ok (.lcmp, 1) := by decide +kernel
theorem dmnJ_3 : decode jdk_29_method_70_code 3 = .ok (.ifCond .gt 7, 3) := by decide +kernel
theorem dmnJ_6 : decode jdk_29_method_70_code 6 = .ok (.lload_n 0, 1) := by decide +kernel
theorem dmnJ_7 : decode jdk_29_method_70_code 7 = .ok (.goto 4, 3) := by decide +kernel
theorem dmnJ_10 : decode jdk_29_method_70_code 10 = .ok (.lload_n 2, 1) := by decide +kernel
theorem dmnJ_11 : decode jdk_29_method_70_code 11 = .ok (.lreturn, 1) := by decide +kernel
theorem pn_mnJ : plainFor (⟨"java/lang/Math", "min", "(JJ)J"⟩ : MethodName) = true := by first | exact plainFor_of_name (by first | (simp [plainName, overriddenIn]; done) | decide +kernel) | decide +kernel
theorem ef_mnJ (m : MethodId) (x0 : Int64) (x1 : Int64) : entryFrame m #[(.long x0), (.long x1)] 4 = mkF m 0 #[jv x0, .second, jv x1, .second] [] := by first | (simp [entryFrame, mkF, argsToLocals, Value.category]; done) | rfl
set_option maxRecDepth 65536 in
set_option maxHeartbeats 40000000 in
theorem rm_mnJ (l : Launch) (Z : State) (a0 : Array Value) (hw : ∀ d ∈ tables_1, d.before a0 Z = true) (ws : List Jvm.Cond) (x y : Int64) (h0 : Heap)  :
    Mt l Z (⟨"java/lang/Math", "min", "(JJ)J"⟩ : MethodName) jdk_29_method_70_code 4 (some .long) ws ({ frames := 0, cells := 0, slots := 0, locals := 0 } : Room) #[(.long x), (.long y)] h0 (fun v h L => v = some (.long (mnJ x y)) ∧ h = h0 ∧ L = []) := by
  refine Mt.body pn_mnJ ?_
  intro p e s m below meth c s₁ hx hby hml hown hnm hret hlk hZ X0 e0
  refine Go.cast (g' := (mkF m 0 #[jv x, .second, jv y, .second] [])) (ef_mnJ m x y) ?_
  have N0 := Fr.nil 0
  refine Go.st (T' := s₁) (g' := (mkF m 3 #[jv x, .second, jv y, .second] [(.int (lcmpW x y))])) ?_ (fun _ kk_ => XS.lloadN X0.here hx rfl (hb hby dmnJ_0) rfl  (XS.lloadN X0.here hx rfl (hb hby dmnJ_1) rfl  (XS.lcmp X0.here hx rfl (hb hby dmnJ_2) rfl kk_)))
  by_cases hc : (0 : Int32) < (lcmpW x y)
  ·
    refine Go.st (T' := s₁) (g' := (mkF m 11 #[jv x, .second, jv y, .second] [(.long y)])) ?_ (fun _ kk_ => XS.ifYes X0.here hx rfl (pc0 := 3) (pc' := 10) rfl (hb hby dmnJ_3) rfl ((if0 _ _).trans (tlt (hc : (0 : Int32) < (lcmpW x y))).2.2.1) (by decide) (by decide) (XS.lloadN X0.here hx rfl (hb hby dmnJ_10) rfl  kk_))
    refine Go.retL X0 hx hlk hret (hb hby dmnJ_11) (by decide) (by decide) ?_
    try rw [e0]
    exact ⟨by unfold mnJ; rw [if_pos ((lw_gt _ _).mp hc)], rfl, rfl⟩
  ·
    refine Go.st (T' := s₁) (g' := (mkF m 11 #[jv x, .second, jv y, .second] [(.long x)])) ?_ (fun _ kk_ => XS.ifNo X0.here hx rfl (hb hby dmnJ_3) rfl ((if0 _ _).trans (flt (hc : ¬ ((0 : Int32) < (lcmpW x y)))).2.2.1) (XS.lloadN X0.here hx rfl (hb hby dmnJ_6) rfl  (XS.goto X0.here hx rfl (pc0 := 7) (pc' := 11) rfl (hb hby dmnJ_7) (by decide) (by decide) kk_)))
    refine Go.retL X0 hx hlk hret (hb hby dmnJ_11) (by decide) (by decide) ?_
    try rw [e0]
    exact ⟨by unfold mnJ; rw [if_neg (fun z => hc ((lw_gt _ _).mpr z))], rfl, rfl⟩
theorem dmxJ_0 : decode jdk_29_method_66_code 0 = .ok (.lload_n 0, 1) := by decide +kernel
theorem dmxJ_1 : decode jdk_29_method_66_code 1 = .ok (.lload_n 2, 1) := by decide +kernel
theorem dmxJ_2 : decode jdk_29_method_66_code 2 = .ok (.lcmp, 1) := by decide +kernel
theorem dmxJ_3 : decode jdk_29_method_66_code 3 = .ok (.ifCond .lt 7, 3) := by decide +kernel
theorem dmxJ_6 : decode jdk_29_method_66_code 6 = .ok (.lload_n 0, 1) := by decide +kernel
theorem dmxJ_7 : decode jdk_29_method_66_code 7 = .ok (.goto 4, 3) := by decide +kernel
theorem dmxJ_10 : decode jdk_29_method_66_code 10 = .ok (.lload_n 2, 1) := by decide +kernel
theorem dmxJ_11 : decode jdk_29_method_66_code 11 = .ok (.lreturn, 1) := by decide +kernel
theorem pn_mxJ : plainFor (⟨"java/lang/Math", "max", "(JJ)J"⟩ : MethodName) = true := by first | exact plainFor_of_name (by first | (simp [plainName, overriddenIn]; done) | decide +kernel) | decide +kernel
theorem ef_mxJ (m : MethodId) (x0 : Int64) (x1 : Int64) : entryFrame m #[(.long x0), (.long x1)] 4 = mkF m 0 #[jv x0, .second, jv x1, .second] [] := by first | (simp [entryFrame, mkF, argsToLocals, Value.category]; done) | rfl
set_option maxRecDepth 65536 in
set_option maxHeartbeats 40000000 in
theorem rm_mxJ (l : Launch) (Z : State) (a0 : Array Value) (hw : ∀ d ∈ tables_1, d.before a0 Z = true) (ws : List Jvm.Cond) (x y : Int64) (h0 : Heap)  :
    Mt l Z (⟨"java/lang/Math", "max", "(JJ)J"⟩ : MethodName) jdk_29_method_66_code 4 (some .long) ws ({ frames := 0, cells := 0, slots := 0, locals := 0 } : Room) #[(.long x), (.long y)] h0 (fun v h L => v = some (.long (mxJ x y)) ∧ h = h0 ∧ L = []) := by
  refine Mt.body pn_mxJ ?_
  intro p e s m below meth c s₁ hx hby hml hown hnm hret hlk hZ X0 e0
  refine Go.cast (g' := (mkF m 0 #[jv x, .second, jv y, .second] [])) (ef_mxJ m x y) ?_
  have N0 := Fr.nil 0
  refine Go.st (T' := s₁) (g' := (mkF m 3 #[jv x, .second, jv y, .second] [(.int (lcmpW x y))])) ?_ (fun _ kk_ => XS.lloadN X0.here hx rfl (hb hby dmxJ_0) rfl  (XS.lloadN X0.here hx rfl (hb hby dmxJ_1) rfl  (XS.lcmp X0.here hx rfl (hb hby dmxJ_2) rfl kk_)))
  by_cases hc : (lcmpW x y) < (0 : Int32)
  ·
    refine Go.st (T' := s₁) (g' := (mkF m 11 #[jv x, .second, jv y, .second] [(.long y)])) ?_ (fun _ kk_ => XS.ifYes X0.here hx rfl (pc0 := 3) (pc' := 10) rfl (hb hby dmxJ_3) rfl ((if0 _ _).trans (tlt (hc : (lcmpW x y) < (0 : Int32))).1) (by decide) (by decide) (XS.lloadN X0.here hx rfl (hb hby dmxJ_10) rfl  kk_))
    refine Go.retL X0 hx hlk hret (hb hby dmxJ_11) (by decide) (by decide) ?_
    try rw [e0]
    exact ⟨by unfold mxJ; rw [if_pos ((lw_lt _ _).mp hc)], rfl, rfl⟩
  ·
    refine Go.st (T' := s₁) (g' := (mkF m 11 #[jv x, .second, jv y, .second] [(.long x)])) ?_ (fun _ kk_ => XS.ifNo X0.here hx rfl (hb hby dmxJ_3) rfl ((if0 _ _).trans (flt (hc : ¬ ((lcmpW x y) < (0 : Int32)))).1) (XS.lloadN X0.here hx rfl (hb hby dmxJ_6) rfl  (XS.goto X0.here hx rfl (pc0 := 7) (pc' := 11) rfl (hb hby dmxJ_7) (by decide) (by decide) kk_)))
    refine Go.retL X0 hx hlk hret (hb hby dmxJ_11) (by decide) (by decide) ?_
    try rw [e0]
    exact ⟨by unfold mxJ; rw [if_neg (fun z => hc ((lw_lt _ _).mpr z))], rfl, rfl⟩
theorem dini_0 : decode prog_47_method_1_code 0 = .ok (.aload_n 0, 1) := by decide +kernel
theorem dini_1 : decode prog_47_method_1_code 1 = .ok (.invokespecial 1, 3) := by decide +kernel
theorem dini_4 : decode prog_47_method_1_code 4 = .ok (.iload_n 1, 1) := by decide +kernel
theorem dini_5 : decode prog_47_method_1_code 5 = .ok (.iconst 1, 1) := by decide +kernel
theorem dini_6 : decode prog_47_method_1_code 6 = .ok (.if_icmp .ge 17, 3) := by decide +kernel
theorem dini_23 : decode prog_47_method_1_code 23 = .ok (.aload_n 0, 1) := by decide +kernel
theorem dini_24 : decode prog_47_method_1_code 24 = .ok (.sipush 1000, 3) := by decide +kernel
theorem dini_27 : decode prog_47_method_1_code 27 = .ok (.iload_n 1, 1) := by decide +kernel
theorem dini_28 : decode prog_47_method_1_code 28 = .ok (.bipush 10, 2) := by decide +kernel
theorem dini_30 : decode prog_47_method_1_code 30 = .ok (.idiv, 1) := by decide +kernel
theorem dini_31 : decode prog_47_method_1_code 31 = .ok (.invokestatic 18, 3) := by decide +kernel
theorem dini_34 : decode prog_47_method_1_code 34 = .ok (.putfield 24, 3) := by decide +kernel
theorem dini_37 : decode prog_47_method_1_code 37 = .ok (.aload_n 0, 1) := by decide +kernel
theorem dini_38 : decode prog_47_method_1_code 38 = .ok (.iload_n 1, 1) := by decide +kernel
theorem dini_39 : decode prog_47_method_1_code 39 = .ok (.aload_n 0, 1) := by decide +kernel
theorem dini_40 : decode prog_47_method_1_code 40 = .ok (.getfield 24, 3) := by decide +kernel
theorem dini_43 : decode prog_47_method_1_code 43 = .ok (.isub, 1) := by decide +kernel
theorem dini_44 : decode prog_47_method_1_code 44 = .ok (.newarray .long, 2) := by decide +kernel
theorem dini_46 : decode prog_47_method_1_code 46 = .ok (.putfield 28, 3) := by decide +kernel
theorem dini_49 : decode prog_47_method_1_code 49 = .ok (.return_, 1) := by decide +kernel
theorem pn_ini : plainFor (⟨"com/example/libdgram/libdgram/cli/Latencies", "<init>", "(I)V"⟩ : MethodName) = true := by first | exact plainFor_of_name (by first | (simp [plainName, overriddenIn]; done) | decide +kernel) | decide +kernel
theorem ef_ini (m : MethodId) (x0 : Addr) (x1 : Int32) : entryFrame m #[(.ref x0), (.int x1)] 2 = mkF m 0 #[rv x0, iv x1] [] := by first | (simp [entryFrame, mkF, argsToLocals, Value.category]; done) | rfl
set_option maxRecDepth 65536 in
set_option maxHeartbeats 40000000 in
theorem rm_ini (l : Launch) (Z : State) (a0 : Array Value) (hw : ∀ d ∈ tables_1, d.before a0 Z = true) (ws : List Jvm.Cond) (a : Addr) (N : Nat) (n0 : Nat) (h0 : Heap) (Z0 : n0 ≤ h0.size) (hN1 : 1 ≤ N) (hN2 : N ≤ 32) (E_a : Exa Z h0 a "com/example/libdgram/libdgram/cli/Latencies") (Fw : Fld Z h0 a "com/example/libdgram/libdgram/cli/Latencies" "warmUp" "I" (.int (0 : Int32))) (Fn : Fld Z h0 a "com/example/libdgram/libdgram/cli/Latencies" "nanos" "[J" .null) (Fs : Fld Z h0 a "com/example/libdgram/libdgram/cli/Latencies" "sorted" "Z" (.int (0 : Int32))) (g_a : n0 ≤ a) :
    Mt l Z (⟨"com/example/libdgram/libdgram/cli/Latencies", "<init>", "(I)V"⟩ : MethodName) prog_47_method_1_code 2 none ws ({ frames := 1, cells := 1, slots := 32, locals := 17 } : Room) #[(.ref a), (.int (Int32.ofNat N))] h0 (fun v h L => v = none ∧ Fr n0 L ∧ Keep h0 h [a] ∧ Fld Z h a "com/example/libdgram/libdgram/cli/Latencies" "warmUp" "I" (.int (Int32.ofNat (N / 10))) ∧ Fld Z h a "com/example/libdgram/libdgram/cli/Latencies" "sorted" "Z" (.int (0 : Int32)) ∧ ∃ t, h0.size ≤ t ∧ Fld Z h a "com/example/libdgram/libdgram/cli/Latencies" "nanos" "[J" (.ref t) ∧ Ary Z h t .long (FL (N - N / 10) (fun _ => 0))) := by
  refine Mt.body pn_ini ?_
  intro p e s m below meth c s₁ hx hby hml hown hnm hret hlk hZ X0 e0
  refine Go.cast (g' := (mkF m 0 #[rv a, iv (Int32.ofNat N)] [])) (ef_ini m a (Int32.ofNat N)) ?_
  have N0 := Fr.nil n0
  have K0 := Keep.refl h0 [a]
  have b1 : N < 2 ^ 31 := by omega
  have b2 : N / 10 < 2 ^ 31 := by omega
  have hge : ¬ Int32.ofNat N < (1 : Int32) := fun z => by have := (own_lt b1 (by decide) (n := 1)).mp z; omega
  refine Go.st (T' := s₁) (g' := (mkF m 1 #[rv a, iv (Int32.ofNat N)] [(.ref a)])) ?_ (fun _ kk_ => XS.aloadN X0.here hx rfl (hb hby dini_0) rfl rfl  kk_)
  obtain ⟨T1, X1, e1, st1⟩ := initO X0 hx hZ hown (hw _ (List.mem_of_getElem? (i := 7) rfl)) (hw _ (List.mem_of_getElem? (i := 8) rfl)) (hw _ (List.mem_of_getElem? (i := 9) rfl)) e0 (g := (mkF m 1 #[rv a, iv (Int32.ofNat N)] [(.ref a)])) rfl (by rw [hml]; rfl) rfl (hb hby dini_1) (by decide) (W := 0) (by show 2 * 0 + _ ≤ _; exact Nat.le_of_eq rfl) (by decide)
  refine Go.st (T' := T1) (g' := (mkF m 4 #[rv a, iv (Int32.ofNat N)] [])) ?_ st1
  refine Go.st (T' := T1) (g' := (mkF m 31 #[rv a, iv (Int32.ofNat N)] [(.int ((Int32.ofNat N) / (10 : Int32))), (.int (1000 : Int32)), (.ref a)])) ?_ (fun _ kk_ => XS.iloadN X1.here hx rfl (hb hby dini_4) rfl  (XS.iconst X1.here hx rfl (hb hby dini_5) (XS.icmpYes X1.here hx rfl (pc0 := 6) (pc' := 23) rfl (hb hby dini_6) rfl (flt (hge : ¬ ((Int32.ofNat N) < (1 : Int32)))).2.1 (by decide) (by decide) (XS.aloadN X1.here hx rfl (hb hby dini_23) rfl rfl  (XS.sipush X1.here hx rfl (hb hby dini_24) (XS.iloadN X1.here hx rfl (hb hby dini_27) rfl  (XS.bipush X1.here hx rfl (hb hby dini_28) (XS.idiv X1.here hx rfl (hb hby dini_30) rfl (by decide) kk_))))))))
  rw [show Int32.ofNat N / (10 : Int32) = Int32.ofNat (N / 10) from own_div b1 (by decide) (k := 10)]
  show Go p e below _ T1 (mkF m 31 #[rv a, iv (Int32.ofNat N)] [(.int (Int32.ofNat (N / 10))), (.int (1000 : Int32)), (.ref a)])
  refine Go.callS (y := (⟨"java/lang/Math", "min", "(II)I"⟩ : MethodName)) X1 hx hZ hown (hw _ (List.mem_of_getElem? (i := 10) rfl)) (hw _ (List.mem_of_getElem? (i := 11) rfl)) (hw _ (List.mem_of_getElem? (i := 12) rfl)) (hw _ (List.mem_of_getElem? (i := 13) rfl)) (by decide) 1 (rm_minI l Z a0 hw [] (1000 : Int32) (Int32.ofNat (N / 10)) h0) e1 (by decide) (by decide) (by decide) (by decide) (argsL := [(.int (1000 : Int32)), (.int (Int32.ofNat (N / 10)))]) (rest := [(.ref a)]) rfl (by rw [hml]; rfl) (lenOf pd__28II_29I rfl) rfl rfl (by show 2 * 0 + _ ≤ _; exact Nat.le_of_eq rfl) (hb hby dini_31) ?_
  rintro _ T2 L2 X2 ⟨rfl, e2, rfl⟩
  have N3 := Fr.app N0 (Fr.nil _)
  show Go p e below _ T2 (mkF m 34 #[rv a, iv (Int32.ofNat N)] [(.int (if (Int32.ofNat (N / 10)) < (1000 : Int32) then (Int32.ofNat (N / 10)) else (1000 : Int32))), (.ref a)])
  rw [show (if (Int32.ofNat (N / 10)) < (1000 : Int32) then (Int32.ofNat (N / 10)) else (1000 : Int32)) = Int32.ofNat (N / 10) from if_pos ((own_lt b2 (by decide) (n := 1000)).mpr (by omega))]
  show Go p e below _ T2 (mkF m 34 #[rv a, iv (Int32.ofNat N)] [(.int (Int32.ofNat (N / 10))), (.ref a)])
  obtain ⟨T4, h4, X4, e4, W4, st4⟩ := putF X2 hx hZ hown (host := "") (Or.inl (hw _ (List.mem_of_getElem? (i := 14) rfl))) Via.refl e2 Fw E_a (Or.inr ⟨(hw _ (List.mem_of_getElem? (i := 15) rfl)), rfl, hnm⟩) (hw _ (List.mem_of_getElem? (i := 2) rfl)) (ty := .int) (by decide) rfl rfl (g := (mkF m 34 #[rv a, iv (Int32.ofNat N)] [(.int (Int32.ofNat (N / 10))), (.ref a)])) rfl rfl (hb hby dini_34)
  have N5 := Fr.snoc X4 N3 g_a
  have f6 := Fw.same W4
  have K7 : Keep h0 h4 [a] := K0.wr W4 (Or.inl (List.mem_of_getElem? (i := 0) rfl))
  have Z8 : n0 ≤ h4.size := by rw [W4.size]; exact Z0
  refine Go.st (T' := T4) (g' := (mkF m 37 #[rv a, iv (Int32.ofNat N)] [])) ?_ st4
  refine Go.st (T' := T4) (g' := (mkF m 40 #[rv a, iv (Int32.ofNat N)] [(.ref a), (.int (Int32.ofNat N)), (.ref a)])) ?_ (fun _ kk_ => XS.aloadN X4.here hx rfl (hb hby dini_37) rfl rfl  (XS.iloadN X4.here hx rfl (hb hby dini_38) rfl  (XS.aloadN X4.here hx rfl (hb hby dini_39) rfl rfl  kk_)))
  obtain ⟨T9, X9, e9, st9⟩ := getF X4 hx hZ hown (host := "") (Or.inl (hw _ (List.mem_of_getElem? (i := 14) rfl))) Via.refl e4 f6 (g := (mkF m 40 #[rv a, iv (Int32.ofNat N)] [(.ref a), (.int (Int32.ofNat N)), (.ref a)])) rfl rfl (hb hby dini_40)
  refine Go.st (T' := T9) (g' := (mkF m 43 #[rv a, iv (Int32.ofNat N)] [(.int (Int32.ofNat (N / 10))), (.int (Int32.ofNat N)), (.ref a)])) ?_ st9
  refine Go.st (T' := T9) (g' := (mkF m 44 #[rv a, iv (Int32.ofNat N)] [(.int ((Int32.ofNat N) - (Int32.ofNat (N / 10)))), (.ref a)])) ?_ (fun _ kk_ => XS.isub X9.here hx rfl (hb hby dini_43) rfl kk_)
  rw [show Int32.ofNat N - Int32.ofNat (N / 10) = Int32.ofNat (N - N / 10) from own_sub (by omega)]
  show Go p e below _ T9 (mkF m 44 #[rv a, iv (Int32.ofNat N)] [(.int (Int32.ofNat (N - N / 10))), (.ref a)])
  refine Go.newP X9 hx hZ (aty := .long) (hw _ (List.mem_of_getElem? (i := 16) rfl)) e9 rfl (hb hby dini_44) (n := (N - N / 10)) rfl rfl 32 (by omega) (by decide) (by decide) (by decide) ?_
  intro T10 h10 b10 X10 e10 E10 g10 V10
  have f11 := (E_a.wr W4)
  have ne_a_b10 : a ≠ b10 := Nat.ne_of_lt (Nat.lt_of_lt_of_eq f11.lt g10.symm)
  have g_b10 : n0 ≤ b10 := Nat.le_trans Z8 (Nat.le_of_eq g10.symm)
  have sz_b10 : h0.size ≤ b10 := Nat.le_trans K7.1 (Nat.le_of_eq g10.symm)
  have Z12 : n0 ≤ h10.size := Nat.le_trans Z8 E10.1
  have K13 : Keep h0 h10 [a] := K7.ext E10
  change Ary Z h10 b10 .long (List.replicate (N - N / 10) (.long 0)) at V10
  show Go p e below _ T10 (mkF m 46 #[rv a, iv (Int32.ofNat N)] [(.ref b10), (.ref a)])
  rw [FL_rep] at V10
  have f14 := ((Fn.other W4 (Or.inr (slot_ne (C := "com/example/libdgram/libdgram/cli/Latencies") (Or.inr (hw _ (List.mem_of_getElem? (i := 18) rfl))) (Or.inr (hw _ (List.mem_of_getElem? (i := 15) rfl))) (by decide) (t := (.array .long)) (t' := .int) (by decide) (by decide)))).ext E10)
  have f15 := (f11.ext E10)
  obtain ⟨T16, h16, X16, e16, W16, st16⟩ := putF X10 hx hZ hown (host := "") (Or.inl (hw _ (List.mem_of_getElem? (i := 17) rfl))) Via.refl e10 f14 f15 (Or.inr ⟨(hw _ (List.mem_of_getElem? (i := 18) rfl)), rfl, hnm⟩) (hw _ (List.mem_of_getElem? (i := 2) rfl)) (ty := (.array .long)) (by decide) rfl rfl (g := (mkF m 46 #[rv a, iv (Int32.ofNat N)] [(.ref b10), (.ref a)])) rfl rfl (hb hby dini_46)
  have N17 := Fr.snoc X16 N5 g_a
  have f18 := f14.same W16
  have K19 : Keep h0 h16 [a] := K13.wr W16 (Or.inl (List.mem_of_getElem? (i := 0) rfl))
  have Z20 : n0 ≤ h16.size := by rw [W16.size]; exact Z12
  refine Go.st (T' := T16) (g' := (mkF m 49 #[rv a, iv (Int32.ofNat N)] [])) ?_ st16
  have f21 := ((f6.ext E10).other W16 (Or.inr (slot_ne (C := "com/example/libdgram/libdgram/cli/Latencies") (Or.inr (hw _ (List.mem_of_getElem? (i := 15) rfl))) (Or.inr (hw _ (List.mem_of_getElem? (i := 18) rfl))) (by decide) (t := .int) (t' := (.array .long)) (by decide) (by decide))))
  have f22 := (((Fs.other W4 (Or.inr (slot_ne (C := "com/example/libdgram/libdgram/cli/Latencies") (Or.inl (hw _ (List.mem_of_getElem? (i := 36) rfl))) (Or.inr (hw _ (List.mem_of_getElem? (i := 15) rfl))) (by decide) (t := .boolean) (t' := .int) (by decide) (by decide)))).ext E10).other W16 (Or.inr (slot_ne (C := "com/example/libdgram/libdgram/cli/Latencies") (Or.inl (hw _ (List.mem_of_getElem? (i := 36) rfl))) (Or.inr (hw _ (List.mem_of_getElem? (i := 18) rfl))) (by decide) (t := .boolean) (t' := (.array .long)) (by decide) (by decide))))
  have f23 := (V10.other W16 (Ne.symm ne_a_b10))
  refine Go.retV X16 hx hlk hret (hb hby dini_49) (by decide) (by decide) ?_
  try rw [e16]
  exact ⟨rfl, N17, K19, f21, f22, b10, sz_b10, f18, f23⟩
theorem dadd_0 : decode prog_47_method_3_code 0 = .ok (.iload_n 1, 1) := by decide +kernel
theorem dadd_1 : decode prog_47_method_3_code 1 = .ok (.aload_n 0, 1) := by decide +kernel
theorem dadd_2 : decode prog_47_method_3_code 2 = .ok (.getfield 24, 3) := by decide +kernel
theorem dadd_5 : decode prog_47_method_3_code 5 = .ok (.if_icmp .lt 15, 3) := by decide +kernel
theorem dadd_8 : decode prog_47_method_3_code 8 = .ok (.aload_n 0, 1) := by decide +kernel
theorem dadd_9 : decode prog_47_method_3_code 9 = .ok (.getfield 28, 3) := by decide +kernel
theorem dadd_12 : decode prog_47_method_3_code 12 = .ok (.iload_n 1, 1) := by decide +kernel
theorem dadd_13 : decode prog_47_method_3_code 13 = .ok (.aload_n 0, 1) := by decide +kernel
theorem dadd_14 : decode prog_47_method_3_code 14 = .ok (.getfield 24, 3) := by decide +kernel
theorem dadd_17 : decode prog_47_method_3_code 17 = .ok (.isub, 1) := by decide +kernel
theorem dadd_18 : decode prog_47_method_3_code 18 = .ok (.lload_n 2, 1) := by decide +kernel
theorem dadd_19 : decode prog_47_method_3_code 19 = .ok (.lastore, 1) := by decide +kernel
theorem dadd_20 : decode prog_47_method_3_code 20 = .ok (.return_, 1) := by decide +kernel
theorem pn_add : plainFor (⟨"com/example/libdgram/libdgram/cli/Latencies", "add", "(IJ)V"⟩ : MethodName) = true := by first | exact plainFor_of_name (by first | (simp [plainName, overriddenIn]; done) | decide +kernel) | decide +kernel
theorem ef_add (m : MethodId) (x0 : Addr) (x1 : Int32) (x2 : Int64) : entryFrame m #[(.ref x0), (.int x1), (.long x2)] 4 = mkF m 0 #[rv x0, iv x1, jv x2, .second] [] := by first | (simp [entryFrame, mkF, argsToLocals, Value.category]; done) | rfl
set_option maxRecDepth 65536 in
set_option maxHeartbeats 40000000 in
theorem rm_add (l : Launch) (Z : State) (a0 : Array Value) (hw : ∀ d ∈ tables_1, d.before a0 Z = true) (ws : List Jvm.Cond) (a t : Addr) (i wu n : Nat) (took : Int64) (f : Nat → Int64) (n0 : Nat) (h0 : Heap) (Z0 : n0 ≤ h0.size) (hn : n ≤ 32) (V_t : Ary Z h0 t .long (FL n f)) (g_t : n0 ≤ t) (hi : i < wu + n) (hwn : wu + n ≤ 32) (Fw : Fld Z h0 a "com/example/libdgram/libdgram/cli/Latencies" "warmUp" "I" (.int (Int32.ofNat wu))) (Fn : Fld Z h0 a "com/example/libdgram/libdgram/cli/Latencies" "nanos" "[J" (.ref t)) :
    Mt l Z (⟨"com/example/libdgram/libdgram/cli/Latencies", "add", "(IJ)V"⟩ : MethodName) prog_47_method_3_code 4 none ws ({ frames := 0, cells := 0, slots := 0, locals := 0 } : Room) #[(.ref a), (.int (Int32.ofNat i)), (.long took)] h0 (fun v h L => v = none ∧ Fr n0 L ∧ Keep h0 h [t] ∧ Ary Z h t .long (FL n (fS wu i took f))) := by
  refine Mt.body pn_add ?_
  intro p e s m below meth c s₁ hx hby hml hown hnm hret hlk hZ X0 e0
  refine Go.cast (g' := (mkF m 0 #[rv a, iv (Int32.ofNat i), jv took, .second] [])) (ef_add m a (Int32.ofNat i) took) ?_
  have N0 := Fr.nil n0
  have K0 := Keep.refl h0 [t]
  have b1 : i < 2 ^ 31 := by omega
  have b2 : wu < 2 ^ 31 := by omega
  refine Go.st (T' := s₁) (g' := (mkF m 2 #[rv a, iv (Int32.ofNat i), jv took, .second] [(.ref a), (.int (Int32.ofNat i))])) ?_ (fun _ kk_ => XS.iloadN X0.here hx rfl (hb hby dadd_0) rfl  (XS.aloadN X0.here hx rfl (hb hby dadd_1) rfl rfl  kk_))
  obtain ⟨T1, X1, e1, st1⟩ := getF X0 hx hZ hown (host := "") (Or.inl (hw _ (List.mem_of_getElem? (i := 14) rfl))) Via.refl e0 Fw (g := (mkF m 2 #[rv a, iv (Int32.ofNat i), jv took, .second] [(.ref a), (.int (Int32.ofNat i))])) rfl rfl (hb hby dadd_2)
  refine Go.st (T' := T1) (g' := (mkF m 5 #[rv a, iv (Int32.ofNat i), jv took, .second] [(.int (Int32.ofNat wu)), (.int (Int32.ofNat i))])) ?_ st1
  by_cases hc : (Int32.ofNat i) < (Int32.ofNat wu)
  ·
    refine Go.st (T' := T1) (g' := (mkF m 20 #[rv a, iv (Int32.ofNat i), jv took, .second] [])) ?_ (fun _ kk_ => XS.icmpYes X1.here hx rfl (pc0 := 5) (pc' := 20) rfl (hb hby dadd_5) rfl (tlt (hc : (Int32.ofNat i) < (Int32.ofNat wu))).1 (by decide) (by decide) kk_)
    have hc2 := (own_lt b1 b2).mp hc
    refine Go.retV X1 hx hlk hret (hb hby dadd_20) (by decide) (by decide) ?_
    try rw [e1]
    exact ⟨rfl, N0, K0, FL_congr (f := f) (f' := fS wu i took f) (fun q hq => by unfold fS; exact (if_neg (by omega)).symm) ▸ V_t⟩
  ·
    refine Go.st (T' := T1) (g' := (mkF m 8 #[rv a, iv (Int32.ofNat i), jv took, .second] [])) ?_ (fun _ kk_ => XS.icmpNo X1.here hx rfl (hb hby dadd_5) rfl (flt (hc : ¬ ((Int32.ofNat i) < (Int32.ofNat wu)))).1 kk_)
    have hc2 : ¬ i < wu := fun z => hc ((own_lt b1 b2).mpr z)
    refine Go.st (T' := T1) (g' := (mkF m 9 #[rv a, iv (Int32.ofNat i), jv took, .second] [(.ref a)])) ?_ (fun _ kk_ => XS.aloadN X1.here hx rfl (hb hby dadd_8) rfl rfl  kk_)
    obtain ⟨T2, X2, e2, st2⟩ := getF X1 hx hZ hown (host := "") (Or.inl (hw _ (List.mem_of_getElem? (i := 17) rfl))) Via.refl e1 Fn (g := (mkF m 9 #[rv a, iv (Int32.ofNat i), jv took, .second] [(.ref a)])) rfl rfl (hb hby dadd_9)
    refine Go.st (T' := T2) (g' := (mkF m 12 #[rv a, iv (Int32.ofNat i), jv took, .second] [(.ref t)])) ?_ st2
    refine Go.st (T' := T2) (g' := (mkF m 14 #[rv a, iv (Int32.ofNat i), jv took, .second] [(.ref a), (.int (Int32.ofNat i)), (.ref t)])) ?_ (fun _ kk_ => XS.iloadN X2.here hx rfl (hb hby dadd_12) rfl  (XS.aloadN X2.here hx rfl (hb hby dadd_13) rfl rfl  kk_))
    obtain ⟨T3, X3, e3, st3⟩ := getF X2 hx hZ hown (host := "") (Or.inl (hw _ (List.mem_of_getElem? (i := 14) rfl))) Via.refl e2 Fw (g := (mkF m 14 #[rv a, iv (Int32.ofNat i), jv took, .second] [(.ref a), (.int (Int32.ofNat i)), (.ref t)])) rfl rfl (hb hby dadd_14)
    refine Go.st (T' := T3) (g' := (mkF m 17 #[rv a, iv (Int32.ofNat i), jv took, .second] [(.int (Int32.ofNat wu)), (.int (Int32.ofNat i)), (.ref t)])) ?_ st3
    refine Go.st (T' := T3) (g' := (mkF m 19 #[rv a, iv (Int32.ofNat i), jv took, .second] [(.long took), (.int ((Int32.ofNat i) - (Int32.ofNat wu))), (.ref t)])) ?_ (fun _ kk_ => XS.isub X3.here hx rfl (hb hby dadd_17) rfl (XS.lloadN X3.here hx rfl (hb hby dadd_18) rfl  kk_))
    have eS : Int32.ofNat i - Int32.ofNat wu = Int32.ofNat (i - wu) := own_sub (Nat.le_of_not_lt hc2)
    rw [eS]
    show Go p e below _ T3 (mkF m 19 #[rv a, iv (Int32.ofNat i), jv took, .second] [(.long took), (.int (Int32.ofNat (i - wu))), (.ref t)])
    refine Go.lastore X3 hx hZ e3 V_t (i := (i - wu)) (by rw [FL_len]; omega) rfl rfl rfl (hb hby dadd_19) ?_
    intro T4 h4 X4 e4 W4 V4
    have N5 := Fr.snoc X4 N0 g_t
    have K6 : Keep h0 h4 [t] := K0.wr W4 (Or.inl (List.mem_of_getElem? (i := 0) rfl))
    have Z7 : n0 ≤ h4.size := by rw [W4.size]; exact Z0
    show Go p e below _ T4 (mkF m 20 #[rv a, iv (Int32.ofNat i), jv took, .second] [])
    rw [FL_set (show i - wu < n by omega)] at V4
    refine Go.retV X4 hx hlk hret (hb hby dadd_20) (by decide) (by decide) ?_
    try rw [e4]
    exact ⟨rfl, N5, K6, FL_congr (f := fun q => if q = i - wu then took else f q) (f' := fS wu i took f) (fun q hq => by unfold fS; by_cases z : q = i - wu <;> simp [z, Nat.le_of_not_lt hc2]) ▸ V4⟩
theorem diso_0 : decode jdk_2529_method_15_code 0 = .ok (.iload_n 1, 1) := by decide +kernel
theorem diso_1 : decode jdk_2529_method_15_code 1 = .ok (.istore 4, 2) := by decide +kernel
theorem diso_3 : decode jdk_2529_method_15_code 3 = .ok (.iinc 4 1, 3) := by decide +kernel
theorem diso_6 : decode jdk_2529_method_15_code 6 = .ok (.iload 4, 2) := by decide +kernel
theorem diso_8 : decode jdk_2529_method_15_code 8 = .ok (.iload_n 2, 1) := by decide +kernel
theorem diso_9 : decode jdk_2529_method_15_code 9 = .ok (.if_icmp .ge 60, 3) := by decide +kernel
theorem diso_12 : decode jdk_2529_method_15_code 12 = .ok (.aload_n 0, 1) := by decide +kernel
theorem diso_13 : decode jdk_2529_method_15_code 13 = .ok (.iload 4, 2) := by decide +kernel
theorem diso_15 : decode jdk_2529_method_15_code 15 = .ok (.dup, 1) := by decide +kernel
theorem diso_16 : decode jdk_2529_method_15_code 16 = .ok (.istore_n 3, 1) := by decide +kernel
theorem diso_17 : decode jdk_2529_method_15_code 17 = .ok (.laload, 1) := by decide +kernel
theorem diso_18 : decode jdk_2529_method_15_code 18 = .ok (.lstore 5, 2) := by decide +kernel
theorem diso_20 : decode jdk_2529_method_15_code 20 = .ok (.lload 5, 2) := by decide +kernel
theorem diso_22 : decode jdk_2529_method_15_code 22 = .ok (.aload_n 0, 1) := by decide +kernel
theorem diso_23 : decode jdk_2529_method_15_code 23 = .ok (.iload_n 3, 1) := by decide +kernel
theorem diso_24 : decode jdk_2529_method_15_code 24 = .ok (.iconst 1, 1) := by decide +kernel
theorem diso_25 : decode jdk_2529_method_15_code 25 = .ok (.isub, 1) := by decide +kernel
theorem diso_26 : decode jdk_2529_method_15_code 26 = .ok (.laload, 1) := by decide +kernel
theorem diso_27 : decode jdk_2529_method_15_code 27 = .ok (.lcmp, 1) := by decide +kernel
theorem diso_28 : decode jdk_2529_method_15_code 28 = .ok (.ifCond .ge 38, 3) := by decide +kernel
theorem diso_31 : decode jdk_2529_method_15_code 31 = .ok (.iinc 3 (-1), 3) := by decide +kernel
theorem diso_34 : decode jdk_2529_method_15_code 34 = .ok (.iload_n 3, 1) := by decide +kernel
theorem diso_35 : decode jdk_2529_method_15_code 35 = .ok (.iload_n 1, 1) := by decide +kernel
theorem diso_36 : decode jdk_2529_method_15_code 36 = .ok (.if_icmp .lt 23, 3) := by decide +kernel
theorem diso_39 : decode jdk_2529_method_15_code 39 = .ok (.lload 5, 2) := by decide +kernel
theorem diso_41 : decode jdk_2529_method_15_code 41 = .ok (.aload_n 0, 1) := by decide +kernel
theorem diso_42 : decode jdk_2529_method_15_code 42 = .ok (.iload_n 3, 1) := by decide +kernel
theorem diso_43 : decode jdk_2529_method_15_code 43 = .ok (.laload, 1) := by decide +kernel
theorem diso_44 : decode jdk_2529_method_15_code 44 = .ok (.lcmp, 1) := by decide +kernel
theorem diso_45 : decode jdk_2529_method_15_code 45 = .ok (.ifCond .ge 14, 3) := by decide +kernel
theorem diso_48 : decode jdk_2529_method_15_code 48 = .ok (.aload_n 0, 1) := by decide +kernel
theorem diso_49 : decode jdk_2529_method_15_code 49 = .ok (.iload_n 3, 1) := by decide +kernel
theorem diso_50 : decode jdk_2529_method_15_code 50 = .ok (.iconst 1, 1) := by decide +kernel
theorem diso_51 : decode jdk_2529_method_15_code 51 = .ok (.iadd, 1) := by decide +kernel
theorem diso_52 : decode jdk_2529_method_15_code 52 = .ok (.aload_n 0, 1) := by decide +kernel
theorem diso_53 : decode jdk_2529_method_15_code 53 = .ok (.iload_n 3, 1) := by decide +kernel
theorem diso_54 : decode jdk_2529_method_15_code 54 = .ok (.laload, 1) := by decide +kernel
theorem diso_55 : decode jdk_2529_method_15_code 55 = .ok (.lastore, 1) := by decide +kernel
theorem diso_56 : decode jdk_2529_method_15_code 56 = .ok (.goto (-25), 3) := by decide +kernel
theorem diso_59 : decode jdk_2529_method_15_code 59 = .ok (.aload_n 0, 1) := by decide +kernel
theorem diso_60 : decode jdk_2529_method_15_code 60 = .ok (.iload_n 3, 1) := by decide +kernel
theorem diso_61 : decode jdk_2529_method_15_code 61 = .ok (.iconst 1, 1) := by decide +kernel
theorem diso_62 : decode jdk_2529_method_15_code 62 = .ok (.iadd, 1) := by decide +kernel
theorem diso_63 : decode jdk_2529_method_15_code 63 = .ok (.lload 5, 2) := by decide +kernel
theorem diso_65 : decode jdk_2529_method_15_code 65 = .ok (.lastore, 1) := by decide +kernel
theorem diso_66 : decode jdk_2529_method_15_code 66 = .ok (.goto (-63), 3) := by decide +kernel
theorem diso_69 : decode jdk_2529_method_15_code 69 = .ok (.return_, 1) := by decide +kernel
theorem pn_iso : plainFor (⟨"java/util/DualPivotQuicksort", "insertionSort", "([JII)V"⟩ : MethodName) = true := by first | exact plainFor_of_name (by first | (simp [plainName, overriddenIn]; done) | decide +kernel) | decide +kernel
theorem ef_iso (m : MethodId) (x0 : Addr) (x1 : Int32) (x2 : Int32) : entryFrame m #[(.ref x0), (.int x1), (.int x2)] 7 = mkF m 0 #[rv x0, iv x1, iv x2, .unset, .unset, .unset, .unset] [] := by first | (simp [entryFrame, mkF, argsToLocals, Value.category]; done) | rfl
set_option maxRecDepth 65536 in
set_option maxHeartbeats 40000000 in
theorem rm_iso (l : Launch) (Z : State) (a0 : Array Value) (hw : ∀ d ∈ tables_1, d.before a0 Z = true) (ws : List Jvm.Cond) (t : Addr) (n : Nat) (f : Nat → Int64) (n0 : Nat) (h0 : Heap) (Z0 : n0 ≤ h0.size) (hn : n ≤ 32) (V_t : Ary Z h0 t .long (FL n f)) (g_t : n0 ≤ t) :
    Mt l Z (⟨"java/util/DualPivotQuicksort", "insertionSort", "([JII)V"⟩ : MethodName) jdk_2529_method_15_code 7 none ws ({ frames := 0, cells := 0, slots := 0, locals := 0 } : Room) #[(.ref t), (.int (0 : Int32)), (.int (Int32.ofNat n))] h0 (fun v h L => v = none ∧ Fr n0 L ∧ Keep h0 h [t] ∧ ∃ f', Srt n f f' ∧ Ary Z h t .long (FL n f')) := by
  refine Mt.body pn_iso ?_
  intro p e s m below meth c s₁ hx hby hml hown hnm hret hlk hZ X0 e0
  refine Go.cast (g' := (mkF m 0 #[rv t, iv (0 : Int32), iv (Int32.ofNat n), .unset, .unset, .unset, .unset] [])) (ef_iso m t (0 : Int32) (Int32.ofNat n)) ?_
  have N0 := Fr.nil n0
  refine Go.st (T' := s₁) (g' := (mkF m 3 #[rv t, iv (0 : Int32), iv (Int32.ofNat n), .unset, iv (0 : Int32), .unset, .unset] [])) ?_ (fun _ kk_ => XS.iloadN X0.here hx rfl (hb hby diso_0) rfl  (XS.istore X0.here hx rfl (hb hby diso_1) rfl (l' := #[rv t, iv (0 : Int32), iv (Int32.ofNat n), .unset, iv (0 : Int32), .unset, .unset]) rfl kk_))
  have loop : ∀ (r k : Nat) (T : State) (h : Heap) (locs : List Loc) (g : Nat → Int64) (s3 s5 s6 : Slot), k + r = n → (k < n ∨ r = 0) → Stand p l e ({ frames := 0, cells := 0, slots := 0, locals := 0 } : Room) s m #[.ref t, .int (0 : Int32), .int (Int32.ofNat n)] below meth c T locs 0 0 → T.heap = h → Fr n0 locs → Keep h0 h [t] → n0 ≤ h.size → Ary Z h t .long (FL n g) →
      (∀ x, (∃ q, q < n ∧ g q = x) ↔ ∃ q, q < n ∧ f q = x) → (∀ a b, a < b → b ≤ k → b < n → (g a).toInt ≤ (g b).toInt) → One s3 → ((s5 = .unset ∧ s6 = .unset) ∨ ∃ x, s5 = .val (.long x) ∧ s6 = .second) → Go p e below (Wf s 0 0 (fun v h L => v = none ∧ Fr n0 L ∧ Keep h0 h [t] ∧ ∃ f', Srt n f f' ∧ Ary Z h t .long (FL n f'))) T (mkF m 3 #[.val (.ref t), .val (.int (0 : Int32)), .val (.int (Int32.ofNat n)), s3, .val (.int (Int32.ofNat k)), s5, s6] []) := by
    intro r
    induction r with
    | zero =>
      intro k T h locs g s3 s5 s6 hk hk2 X e1 N1 K1 Z1 V1 hm hs hs3 hs5
      refine Go.st (T' := T) (g' := (mkF m 6 #[rv t, iv (0 : Int32), iv (Int32.ofNat n), s3, iv ((Int32.ofNat k) + (1 : Int32)), s5, s6] [])) ?_ (fun _ kk_ => XS.iinc X.here hx rfl (hb hby diso_3) rfl (l' := #[rv t, iv (0 : Int32), iv (Int32.ofNat n), s3, iv ((Int32.ofNat k) + (1 : Int32)), s5, s6]) rfl kk_)
      rw [show Int32.ofNat k + (1 : Int32) = Int32.ofNat (k + 1) from own_add k 1]
      show Go p e below _ T (mkF m 6 #[rv t, iv (0 : Int32), iv (Int32.ofNat n), s3, iv (Int32.ofNat (k + 1)), s5, s6] [])
      refine Go.st (T' := T) (g' := (mkF m 69 #[rv t, iv (0 : Int32), iv (Int32.ofNat n), s3, iv (Int32.ofNat (k + 1)), s5, s6] [])) ?_ (fun _ kk_ => XS.iload X.here hx rfl (hb hby diso_6) rfl  (XS.iloadN X.here hx rfl (hb hby diso_8) rfl  (XS.icmpYes X.here hx rfl (pc0 := 9) (pc' := 69) rfl (hb hby diso_9) rfl (flt ((fun z => by have := (own_lt (by omega) (by omega)).mp z; omega) : ¬ ((Int32.ofNat (k + 1)) < (Int32.ofNat n)))).2.1 (by decide) (by decide) kk_)))
      refine Go.retV X hx hlk hret (hb hby diso_69) (by decide) (by decide) ?_
      try rw [e1]
      exact ⟨rfl, N1, K1, g, ⟨hm, fun a b h1 h2 => hs a b h1 (by omega) h2⟩, V1⟩
    | succ r ih =>
      intro k T h locs g s3 s5 s6 hk hk2 X e1 N1 K1 Z1 V1 hm hs hs3 hs5
      refine Go.st (T' := T) (g' := (mkF m 6 #[rv t, iv (0 : Int32), iv (Int32.ofNat n), s3, iv ((Int32.ofNat k) + (1 : Int32)), s5, s6] [])) ?_ (fun _ kk_ => XS.iinc X.here hx rfl (hb hby diso_3) rfl (l' := #[rv t, iv (0 : Int32), iv (Int32.ofNat n), s3, iv ((Int32.ofNat k) + (1 : Int32)), s5, s6]) rfl kk_)
      rw [show Int32.ofNat k + (1 : Int32) = Int32.ofNat (k + 1) from own_add k 1]
      show Go p e below _ T (mkF m 6 #[rv t, iv (0 : Int32), iv (Int32.ofNat n), s3, iv (Int32.ofNat (k + 1)), s5, s6] [])
      refine Go.st (T' := T) (g' := (mkF m 9 #[rv t, iv (0 : Int32), iv (Int32.ofNat n), s3, iv (Int32.ofNat (k + 1)), s5, s6] [(.int (Int32.ofNat n)), (.int (Int32.ofNat (k + 1)))])) ?_ (fun _ kk_ => XS.iload X.here hx rfl (hb hby diso_6) rfl  (XS.iloadN X.here hx rfl (hb hby diso_8) rfl  kk_))
      by_cases hlast : k + 1 = n
      ·
        refine Go.st (T' := T) (g' := (mkF m 69 #[rv t, iv (0 : Int32), iv (Int32.ofNat n), s3, iv (Int32.ofNat (k + 1)), s5, s6] [])) ?_ (fun _ kk_ => XS.icmpYes X.here hx rfl (pc0 := 9) (pc' := 69) rfl (hb hby diso_9) rfl (flt ((fun z => by have := (own_lt (by omega) (by omega)).mp z; omega) : ¬ ((Int32.ofNat (k + 1)) < (Int32.ofNat n)))).2.1 (by decide) (by decide) kk_)
        refine Go.retV X hx hlk hret (hb hby diso_69) (by decide) (by decide) ?_
        try rw [e1]
        exact ⟨rfl, N1, K1, g, ⟨hm, fun a b h1 h2 => hs a b h1 (by omega) h2⟩, V1⟩
      ·
        have hkn : k + 1 < n := by omega
        refine Go.st (T' := T) (g' := (mkF m 26 #[rv t, iv (0 : Int32), iv (Int32.ofNat n), iv (Int32.ofNat (k + 1)), iv (Int32.ofNat (k + 1)), jv (g (k + 1)), .second] [(.int ((Int32.ofNat (k + 1)) - (1 : Int32))), (.ref t), (.long (g (k + 1)))])) ?_ (fun _ kk_ => XS.icmpNo X.here hx rfl (hb hby diso_9) rfl (tlt (((own_lt (by omega) (by omega)).mpr hkn) : (Int32.ofNat (k + 1)) < (Int32.ofNat n))).2.1 (XS.aloadN X.here hx rfl (hb hby diso_12) rfl rfl  (XS.iload X.here hx rfl (hb hby diso_13) rfl  (XS.dup X.here hx rfl (hb hby diso_15) rfl rfl (XS.istoreN X.here hx rfl (hb hby diso_16) rfl (l' := #[rv t, iv (0 : Int32), iv (Int32.ofNat n), iv (Int32.ofNat (k + 1)), iv (Int32.ofNat (k + 1)), s5, s6]) (by rcases hs3 with rfl | ⟨w, rfl, hw_⟩ <;> first | rfl | (cases w <;> first | rfl | (simp [Value.category] at hw_))) (own_laload X hx hZ e1 V1 (i := (k + 1)) (v := (.long (g (k + 1)))) (FL_at hkn) rfl rfl rfl (hb hby diso_17) (XS.lstore X.here hx rfl (hb hby diso_18) rfl (l' := #[rv t, iv (0 : Int32), iv (Int32.ofNat n), iv (Int32.ofNat (k + 1)), iv (Int32.ofNat (k + 1)), jv (g (k + 1)), .second]) (by rcases hs5 with ⟨rfl, rfl⟩ | ⟨w, rfl, rfl⟩ <;> rfl) (XS.lload X.here hx rfl (hb hby diso_20) rfl  (XS.aloadN X.here hx rfl (hb hby diso_22) rfl rfl  (XS.iloadN X.here hx rfl (hb hby diso_23) rfl  (XS.iconst X.here hx rfl (hb hby diso_24) (XS.isub X.here hx rfl (hb hby diso_25) rfl kk_))))))))))))
        rw [show Int32.ofNat (k + 1) - (1 : Int32) = Int32.ofNat k from own_sub (i := k + 1) (n := 1) (by omega)]
        show Go p e below _ T (mkF m 26 #[rv t, iv (0 : Int32), iv (Int32.ofNat n), iv (Int32.ofNat (k + 1)), iv (Int32.ofNat (k + 1)), jv (g (k + 1)), .second] [(.int (Int32.ofNat k)), (.ref t), (.long (g (k + 1)))])
        refine Go.st (T' := T) (g' := (mkF m 28 #[rv t, iv (0 : Int32), iv (Int32.ofNat n), iv (Int32.ofNat (k + 1)), iv (Int32.ofNat (k + 1)), jv (g (k + 1)), .second] [(.int (lcmpW (g (k + 1)) (g k)))])) ?_ (fun _ kk_ => own_laload X hx hZ e1 V1 (i := k) (v := (.long (g k))) (FL_at (by omega)) rfl rfl rfl (hb hby diso_26) (XS.lcmp X.here hx rfl (hb hby diso_27) rfl kk_))
        by_cases hc : (lcmpW (g (k + 1)) (g k)) < (0 : Int32)
        ·
          refine Go.st (T' := T) (g' := (mkF m 31 #[rv t, iv (0 : Int32), iv (Int32.ofNat n), iv (Int32.ofNat (k + 1)), iv (Int32.ofNat (k + 1)), jv (g (k + 1)), .second] [])) ?_ (fun _ kk_ => XS.ifNo X.here hx rfl (hb hby diso_28) rfl ((if0 _ _).trans (tlt (hc : (lcmpW (g (k + 1)) (g k)) < (0 : Int32))).2.1) kk_)
          have hc2 := (lw_lt _ _).mp hc
          have inn : ∀ (j : Nat) (T : State) (h : Heap) (locs : List Loc) (z : Nat → Int64), j ≤ k + 1 → Stand p l e ({ frames := 0, cells := 0, slots := 0, locals := 0 } : Room) s m #[.ref t, .int (0 : Int32), .int (Int32.ofNat n)] below meth c T locs 0 0 → T.heap = h → Fr n0 locs → Keep h0 h [t] → n0 ≤ h.size → Ary Z h t .long (FL n z) →
              (∀ x, (x = g (k + 1) ∨ ∃ q, q < n ∧ q ≠ j ∧ z q = x) ↔ ∃ q, q < n ∧ f q = x) → (∀ a b, a < b → b ≤ k + 1 → a ≠ j → b ≠ j → (z a).toInt ≤ (z b).toInt) → (∀ b, j < b → b ≤ k + 1 → (g (k + 1)).toInt ≤ (z b).toInt) → Go p e below (Wf s 0 0 (fun v h L => v = none ∧ Fr n0 L ∧ Keep h0 h [t] ∧ ∃ f', Srt n f f' ∧ Ary Z h t .long (FL n f'))) T (mkF m 31 #[.val (.ref t), .val (.int (0 : Int32)), .val (.int (Int32.ofNat n)), .val (.int (Int32.ofNat j)), .val (.int (Int32.ofNat (k + 1))), .val (.long (g (k + 1))), .second] []) := by
            intro j
            induction j with
            | zero =>
              intro T h locs z hj1 X e1 N1 K1 Z1 V1 hm2 hs2 hs3
              refine Go.st (T' := T) (g' := (mkF m 34 #[rv t, iv (0 : Int32), iv (Int32.ofNat n), iv ((Int32.ofNat 0) + ((-1) : Int32)), iv (Int32.ofNat (k + 1)), jv (g (k + 1)), .second] [])) ?_ (fun _ kk_ => XS.iinc X.here hx rfl (hb hby diso_31) rfl (l' := #[rv t, iv (0 : Int32), iv (Int32.ofNat n), iv ((Int32.ofNat 0) + ((-1) : Int32)), iv (Int32.ofNat (k + 1)), jv (g (k + 1)), .second]) rfl kk_)
              rw [show Int32.ofNat 0 + (-1 : Int32) = (-1 : Int32) from by decide]
              show Go p e below _ T (mkF m 34 #[rv t, iv (0 : Int32), iv (Int32.ofNat n), iv ((-1) : Int32), iv (Int32.ofNat (k + 1)), jv (g (k + 1)), .second] [])
              refine Go.st (T' := T) (g' := (mkF m 65 #[rv t, iv (0 : Int32), iv (Int32.ofNat n), iv ((-1) : Int32), iv (Int32.ofNat (k + 1)), jv (g (k + 1)), .second] [(.long (g (k + 1))), (.int (0 : Int32)), (.ref t)])) ?_ (fun _ kk_ => XS.iloadN X.here hx rfl (hb hby diso_34) rfl  (XS.iloadN X.here hx rfl (hb hby diso_35) rfl  (XS.icmpYes X.here hx rfl (pc0 := 36) (pc' := 59) rfl (hb hby diso_36) rfl (tlt ((by decide) : ((-1) : Int32) < (0 : Int32))).1 (by decide) (by decide) (XS.aloadN X.here hx rfl (hb hby diso_59) rfl rfl  (XS.iloadN X.here hx rfl (hb hby diso_60) rfl  (XS.iconst X.here hx rfl (hb hby diso_61) (XS.iadd X.here hx rfl (hb hby diso_62) rfl (XS.lload X.here hx rfl (hb hby diso_63) rfl  kk_))))))))
              refine Go.lastore X hx hZ e1 V1 (i := 0) (by rw [FL_len]; omega) rfl rfl rfl (hb hby diso_65) ?_
              intro T1 h1 X1 e1 W1 V1
              have N2 := Fr.snoc X1 N1 g_t
              have K3 : Keep h0 h1 [t] := K1.wr W1 (Or.inl (List.mem_of_getElem? (i := 0) rfl))
              have Z4 : n0 ≤ h1.size := by rw [W1.size]; exact Z1
              show Go p e below _ T1 (mkF m 66 #[rv t, iv (0 : Int32), iv (Int32.ofNat n), iv ((-1) : Int32), iv (Int32.ofNat (k + 1)), jv (g (k + 1)), .second] [])
              rw [FL_set (by omega)] at V1
              refine Go.st (T' := T1) (g' := (mkF m 3 #[rv t, iv (0 : Int32), iv (Int32.ofNat n), iv ((-1) : Int32), iv (Int32.ofNat (k + 1)), jv (g (k + 1)), .second] [])) ?_ (fun _ kk_ => XS.goto X1.here hx rfl (pc0 := 66) (pc' := 3) rfl (hb hby diso_66) (by decide) (by decide) kk_)
              exact ih (k + 1) T1 h1 _ _ _ _ _ (by omega) (by omega) X1 e1 N2 K3 Z4 V1 (own_finm (by omega) hm2) (own_fin0 hs2 hs3) (One.val rfl) (Or.inr ⟨_, rfl, rfl⟩)
            | succ j ihj =>
              intro T h locs z hj1 X e1 N1 K1 Z1 V1 hm2 hs2 hs3
              refine Go.st (T' := T) (g' := (mkF m 34 #[rv t, iv (0 : Int32), iv (Int32.ofNat n), iv ((Int32.ofNat (j + 1)) + ((-1) : Int32)), iv (Int32.ofNat (k + 1)), jv (g (k + 1)), .second] [])) ?_ (fun _ kk_ => XS.iinc X.here hx rfl (hb hby diso_31) rfl (l' := #[rv t, iv (0 : Int32), iv (Int32.ofNat n), iv ((Int32.ofNat (j + 1)) + ((-1) : Int32)), iv (Int32.ofNat (k + 1)), jv (g (k + 1)), .second]) rfl kk_)
              rw [show Int32.ofNat (j + 1) + (-1 : Int32) = Int32.ofNat j from own_pred j]
              show Go p e below _ T (mkF m 34 #[rv t, iv (0 : Int32), iv (Int32.ofNat n), iv (Int32.ofNat j), iv (Int32.ofNat (k + 1)), jv (g (k + 1)), .second] [])
              refine Go.st (T' := T) (g' := (mkF m 45 #[rv t, iv (0 : Int32), iv (Int32.ofNat n), iv (Int32.ofNat j), iv (Int32.ofNat (k + 1)), jv (g (k + 1)), .second] [(.int (lcmpW (g (k + 1)) (z j)))])) ?_ (fun _ kk_ => XS.iloadN X.here hx rfl (hb hby diso_34) rfl  (XS.iloadN X.here hx rfl (hb hby diso_35) rfl  (XS.icmpNo X.here hx rfl (hb hby diso_36) rfl (flt ((fun z => by have := (own_lt (i := j) (n := 0) (by omega) (by decide)).mp z; omega) : ¬ ((Int32.ofNat j) < (0 : Int32)))).1 (XS.lload X.here hx rfl (hb hby diso_39) rfl  (XS.aloadN X.here hx rfl (hb hby diso_41) rfl rfl  (XS.iloadN X.here hx rfl (hb hby diso_42) rfl  (own_laload X hx hZ e1 V1 (i := j) (v := (.long (z j))) (FL_at (by omega)) rfl rfl rfl (hb hby diso_43) (XS.lcmp X.here hx rfl (hb hby diso_44) rfl kk_))))))))
              by_cases hd : (lcmpW (g (k + 1)) (z j)) < (0 : Int32)
              ·
                refine Go.st (T' := T) (g' := (mkF m 48 #[rv t, iv (0 : Int32), iv (Int32.ofNat n), iv (Int32.ofNat j), iv (Int32.ofNat (k + 1)), jv (g (k + 1)), .second] [])) ?_ (fun _ kk_ => XS.ifNo X.here hx rfl (hb hby diso_45) rfl ((if0 _ _).trans (tlt (hd : (lcmpW (g (k + 1)) (z j)) < (0 : Int32))).2.1) kk_)
                have hd2 := (lw_lt _ _).mp hd
                have hd3 : (g (k + 1)).toInt < (z j).toInt := Int64.lt_iff_toInt_lt.mp hd2
                refine Go.st (T' := T) (g' := (mkF m 52 #[rv t, iv (0 : Int32), iv (Int32.ofNat n), iv (Int32.ofNat j), iv (Int32.ofNat (k + 1)), jv (g (k + 1)), .second] [(.int ((Int32.ofNat j) + (1 : Int32))), (.ref t)])) ?_ (fun _ kk_ => XS.aloadN X.here hx rfl (hb hby diso_48) rfl rfl  (XS.iloadN X.here hx rfl (hb hby diso_49) rfl  (XS.iconst X.here hx rfl (hb hby diso_50) (XS.iadd X.here hx rfl (hb hby diso_51) rfl kk_))))
                rw [show Int32.ofNat j + (1 : Int32) = Int32.ofNat (j + 1) from own_add j 1]
                show Go p e below _ T (mkF m 52 #[rv t, iv (0 : Int32), iv (Int32.ofNat n), iv (Int32.ofNat j), iv (Int32.ofNat (k + 1)), jv (g (k + 1)), .second] [(.int (Int32.ofNat (j + 1))), (.ref t)])
                refine Go.st (T' := T) (g' := (mkF m 55 #[rv t, iv (0 : Int32), iv (Int32.ofNat n), iv (Int32.ofNat j), iv (Int32.ofNat (k + 1)), jv (g (k + 1)), .second] [(.long (z j)), (.int (Int32.ofNat (j + 1))), (.ref t)])) ?_ (fun _ kk_ => XS.aloadN X.here hx rfl (hb hby diso_52) rfl rfl  (XS.iloadN X.here hx rfl (hb hby diso_53) rfl  (own_laload X hx hZ e1 V1 (i := j) (v := (.long (z j))) (FL_at (by omega)) rfl rfl rfl (hb hby diso_54) kk_)))
                refine Go.lastore X hx hZ e1 V1 (i := (j + 1)) (by rw [FL_len]; omega) rfl rfl rfl (hb hby diso_55) ?_
                intro T5 h5 X5 e5 W5 V5
                have N6 := Fr.snoc X5 N1 g_t
                have K7 : Keep h0 h5 [t] := K1.wr W5 (Or.inl (List.mem_of_getElem? (i := 0) rfl))
                have Z8 : n0 ≤ h5.size := by rw [W5.size]; exact Z1
                show Go p e below _ T5 (mkF m 56 #[rv t, iv (0 : Int32), iv (Int32.ofNat n), iv (Int32.ofNat j), iv (Int32.ofNat (k + 1)), jv (g (k + 1)), .second] [])
                rw [FL_set (by omega)] at V5
                refine Go.st (T' := T5) (g' := (mkF m 31 #[rv t, iv (0 : Int32), iv (Int32.ofNat n), iv (Int32.ofNat j), iv (Int32.ofNat (k + 1)), jv (g (k + 1)), .second] [])) ?_ (fun _ kk_ => XS.goto X5.here hx rfl (pc0 := 56) (pc' := 31) rfl (hb hby diso_56) (by decide) (by decide) kk_)
                exact ihj T5 h5 _ _ (by omega) X5 e5 N6 K7 Z8 V5 (own_shm (by omega) hm2) (own_shs hs2 hj1) (own_shg hs3 hd3)
              ·
                refine Go.st (T' := T) (g' := (mkF m 59 #[rv t, iv (0 : Int32), iv (Int32.ofNat n), iv (Int32.ofNat j), iv (Int32.ofNat (k + 1)), jv (g (k + 1)), .second] [])) ?_ (fun _ kk_ => XS.ifYes X.here hx rfl (pc0 := 45) (pc' := 59) rfl (hb hby diso_45) rfl ((if0 _ _).trans (flt (hd : ¬ ((lcmpW (g (k + 1)) (z j)) < (0 : Int32)))).2.1) (by decide) (by decide) kk_)
                have hd2 : ¬ g (k + 1) < z j := fun y => hd ((lw_lt _ _).mpr y)
                have hd3 : (z j).toInt ≤ (g (k + 1)).toInt := by rw [Int64.lt_iff_toInt_lt] at hd2; omega
                refine Go.st (T' := T) (g' := (mkF m 63 #[rv t, iv (0 : Int32), iv (Int32.ofNat n), iv (Int32.ofNat j), iv (Int32.ofNat (k + 1)), jv (g (k + 1)), .second] [(.int ((Int32.ofNat j) + (1 : Int32))), (.ref t)])) ?_ (fun _ kk_ => XS.aloadN X.here hx rfl (hb hby diso_59) rfl rfl  (XS.iloadN X.here hx rfl (hb hby diso_60) rfl  (XS.iconst X.here hx rfl (hb hby diso_61) (XS.iadd X.here hx rfl (hb hby diso_62) rfl kk_))))
                rw [show Int32.ofNat j + (1 : Int32) = Int32.ofNat (j + 1) from own_add j 1]
                show Go p e below _ T (mkF m 63 #[rv t, iv (0 : Int32), iv (Int32.ofNat n), iv (Int32.ofNat j), iv (Int32.ofNat (k + 1)), jv (g (k + 1)), .second] [(.int (Int32.ofNat (j + 1))), (.ref t)])
                refine Go.st (T' := T) (g' := (mkF m 65 #[rv t, iv (0 : Int32), iv (Int32.ofNat n), iv (Int32.ofNat j), iv (Int32.ofNat (k + 1)), jv (g (k + 1)), .second] [(.long (g (k + 1))), (.int (Int32.ofNat (j + 1))), (.ref t)])) ?_ (fun _ kk_ => XS.lload X.here hx rfl (hb hby diso_63) rfl  kk_)
                refine Go.lastore X hx hZ e1 V1 (i := (j + 1)) (by rw [FL_len]; omega) rfl rfl rfl (hb hby diso_65) ?_
                intro T9 h9 X9 e9 W9 V9
                have N10 := Fr.snoc X9 N1 g_t
                have K11 : Keep h0 h9 [t] := K1.wr W9 (Or.inl (List.mem_of_getElem? (i := 0) rfl))
                have Z12 : n0 ≤ h9.size := by rw [W9.size]; exact Z1
                show Go p e below _ T9 (mkF m 66 #[rv t, iv (0 : Int32), iv (Int32.ofNat n), iv (Int32.ofNat j), iv (Int32.ofNat (k + 1)), jv (g (k + 1)), .second] [])
                rw [FL_set (by omega)] at V9
                refine Go.st (T' := T9) (g' := (mkF m 3 #[rv t, iv (0 : Int32), iv (Int32.ofNat n), iv (Int32.ofNat j), iv (Int32.ofNat (k + 1)), jv (g (k + 1)), .second] [])) ?_ (fun _ kk_ => XS.goto X9.here hx rfl (pc0 := 66) (pc' := 3) rfl (hb hby diso_66) (by decide) (by decide) kk_)
                exact ih (k + 1) T9 h9 _ _ _ _ _ (by omega) (by omega) X9 e9 N10 K11 Z12 V9 (own_finm (by omega) hm2) (own_fin hs2 hs3 hd3) (One.val rfl) (Or.inr ⟨_, rfl, rfl⟩)
          have hm0 : ∀ x, (x = g (k + 1) ∨ ∃ q, q < n ∧ q ≠ k + 1 ∧ g q = x) ↔ ∃ q, q < n ∧ f q = x := fun x => by rw [← hm x]; exact own_hole hkn
          exact inn (k + 1) T h locs g (by omega) X e1 N1 K1 Z1 V1 hm0 (fun a b q1 q2 q3 q4 => hs a b q1 (by omega) (by omega)) (fun b q1 q2 => by omega)
        ·
          refine Go.st (T' := T) (g' := (mkF m 66 #[rv t, iv (0 : Int32), iv (Int32.ofNat n), iv (Int32.ofNat (k + 1)), iv (Int32.ofNat (k + 1)), jv (g (k + 1)), .second] [])) ?_ (fun _ kk_ => XS.ifYes X.here hx rfl (pc0 := 28) (pc' := 66) rfl (hb hby diso_28) rfl ((if0 _ _).trans (flt (hc : ¬ ((lcmpW (g (k + 1)) (g k)) < (0 : Int32)))).2.1) (by decide) (by decide) kk_)
          have hc2 : ¬ g (k + 1) < g k := fun z => hc ((lw_lt _ _).mpr z)
          have hc3 : (g k).toInt ≤ (g (k + 1)).toInt := by rw [Int64.lt_iff_toInt_lt] at hc2; omega
          refine Go.st (T' := T) (g' := (mkF m 3 #[rv t, iv (0 : Int32), iv (Int32.ofNat n), iv (Int32.ofNat (k + 1)), iv (Int32.ofNat (k + 1)), jv (g (k + 1)), .second] [])) ?_ (fun _ kk_ => XS.goto X.here hx rfl (pc0 := 66) (pc' := 3) rfl (hb hby diso_66) (by decide) (by decide) kk_)
          exact ih (k + 1) T h locs g _ _ _ (by omega) (by omega) X e1 N1 K1 Z1 V1 hm (own_grow hs hc3) (One.val rfl) (Or.inr ⟨_, rfl, rfl⟩)
  exact loop n 0 s₁ h0 [] f _ _ _ (by omega) (by omega) X0 e0 N0 (Keep.refl _ _) Z0 V_t (fun _ => Iff.rfl) (fun a b h1 h2 => by omega) One.u (Or.inl ⟨rfl, rfl⟩)
theorem ddp2_0 : decode jdk_2529_method_13_code 0 = .ok (.iload 4, 2) := by decide +kernel
theorem ddp2_2 : decode jdk_2529_method_13_code 2 = .ok (.iconst 1, 1) := by decide +kernel
theorem ddp2_3 : decode jdk_2529_method_13_code 3 = .ok (.isub, 1) := by decide +kernel
theorem ddp2_4 : decode jdk_2529_method_13_code 4 = .ok (.istore 5, 2) := by decide +kernel
theorem ddp2_6 : decode jdk_2529_method_13_code 6 = .ok (.iload 4, 2) := by decide +kernel
theorem ddp2_8 : decode jdk_2529_method_13_code 8 = .ok (.iload_n 3, 1) := by decide +kernel
theorem ddp2_9 : decode jdk_2529_method_13_code 9 = .ok (.isub, 1) := by decide +kernel
theorem ddp2_10 : decode jdk_2529_method_13_code 10 = .ok (.istore 6, 2) := by decide +kernel
theorem ddp2_12 : decode jdk_2529_method_13_code 12 = .ok (.iload 6, 2) := by decide +kernel
theorem ddp2_14 : decode jdk_2529_method_13_code 14 = .ok (.bipush 65, 2) := by decide +kernel
theorem ddp2_16 : decode jdk_2529_method_13_code 16 = .ok (.iload_n 2, 1) := by decide +kernel
theorem ddp2_17 : decode jdk_2529_method_13_code 17 = .ok (.iadd, 1) := by decide +kernel
theorem ddp2_18 : decode jdk_2529_method_13_code 18 = .ok (.if_icmp .ge 28, 3) := by decide +kernel
theorem ddp2_21 : decode jdk_2529_method_13_code 21 = .ok (.iload_n 2, 1) := by decide +kernel
theorem ddp2_22 : decode jdk_2529_method_13_code 22 = .ok (.iconst 1, 1) := by decide +kernel
theorem ddp2_23 : decode jdk_2529_method_13_code 23 = .ok (.iand, 1) := by decide +kernel
theorem ddp2_24 : decode jdk_2529_method_13_code 24 = .ok (.ifCond .le 22, 3) := by decide +kernel
theorem ddp2_46 : decode jdk_2529_method_13_code 46 = .ok (.iload 6, 2) := by decide +kernel
theorem ddp2_48 : decode jdk_2529_method_13_code 48 = .ok (.bipush 44, 2) := by decide +kernel
theorem ddp2_50 : decode jdk_2529_method_13_code 50 = .ok (.if_icmp .ge 11, 3) := by decide +kernel
theorem ddp2_53 : decode jdk_2529_method_13_code 53 = .ok (.aload_n 1, 1) := by decide +kernel
theorem ddp2_54 : decode jdk_2529_method_13_code 54 = .ok (.iload_n 3, 1) := by decide +kernel
theorem ddp2_55 : decode jdk_2529_method_13_code 55 = .ok (.iload 4, 2) := by decide +kernel
theorem ddp2_57 : decode jdk_2529_method_13_code 57 = .ok (.invokestatic 105, 3) := by decide +kernel
theorem ddp2_60 : decode jdk_2529_method_13_code 60 = .ok (.return_, 1) := by decide +kernel
theorem pn_dp2 : plainFor (⟨"java/util/DualPivotQuicksort", "sort", "(Ljava/util/DualPivotQuicksort$Sorter;[JIII)V"⟩ : MethodName) = true := by first | exact plainFor_of_name (by first | (simp [plainName, overriddenIn]; done) | decide +kernel) | decide +kernel
theorem ef_dp2 (m : MethodId) (x1 : Addr) (x2 : Int32) (x3 : Int32) (x4 : Int32) : entryFrame m #[.null, (.ref x1), (.int x2), (.int x3), (.int x4)] 25 = mkF m 0 #[.val .null, rv x1, iv x2, iv x3, iv x4, .unset, .unset, .unset, .unset, .unset, .unset, .unset, .unset, .unset, .unset, .unset, .unset, .unset, .unset, .unset, .unset, .unset, .unset, .unset, .unset] [] := by first | (simp [entryFrame, mkF, argsToLocals, Value.category]; done) | rfl
set_option maxRecDepth 65536 in
set_option maxHeartbeats 40000000 in
theorem rm_dp2 (l : Launch) (Z : State) (a0 : Array Value) (hw : ∀ d ∈ tables_1, d.before a0 Z = true) (ws : List Jvm.Cond) (t : Addr) (n : Nat) (f : Nat → Int64) (n0 : Nat) (h0 : Heap) (Z0 : n0 ≤ h0.size) (hn : n ≤ 32) (V_t : Ary Z h0 t .long (FL n f)) (g_t : n0 ≤ t) :
    Mt l Z (⟨"java/util/DualPivotQuicksort", "sort", "(Ljava/util/DualPivotQuicksort$Sorter;[JIII)V"⟩ : MethodName) jdk_2529_method_13_code 25 none ws ({ frames := 1, cells := 0, slots := 0, locals := 18 } : Room) #[.null, (.ref t), (.int (0 : Int32)), (.int (0 : Int32)), (.int (Int32.ofNat n))] h0 (fun v h L => v = none ∧ Fr n0 L ∧ Keep h0 h [t] ∧ ∃ f', Srt n f f' ∧ Ary Z h t .long (FL n f')) := by
  refine Mt.body pn_dp2 ?_
  intro p e s m below meth c s₁ hx hby hml hown hnm hret hlk hZ X0 e0
  refine Go.cast (g' := (mkF m 0 #[.val .null, rv t, iv (0 : Int32), iv (0 : Int32), iv (Int32.ofNat n), .unset, .unset, .unset, .unset, .unset, .unset, .unset, .unset, .unset, .unset, .unset, .unset, .unset, .unset, .unset, .unset, .unset, .unset, .unset, .unset] [])) (ef_dp2 m t (0 : Int32) (0 : Int32) (Int32.ofNat n)) ?_
  have N0 := Fr.nil n0
  have K0 := Keep.refl h0 [t]
  have b1 : n < 2 ^ 31 := by omega
  refine Go.st (T' := s₁) (g' := (mkF m 10 #[.val .null, rv t, iv (0 : Int32), iv (0 : Int32), iv (Int32.ofNat n), iv ((Int32.ofNat n) - (1 : Int32)), .unset, .unset, .unset, .unset, .unset, .unset, .unset, .unset, .unset, .unset, .unset, .unset, .unset, .unset, .unset, .unset, .unset, .unset, .unset] [(.int ((Int32.ofNat n) - (0 : Int32)))])) ?_ (fun _ kk_ => XS.iload X0.here hx rfl (hb hby ddp2_0) rfl  (XS.iconst X0.here hx rfl (hb hby ddp2_2) (XS.isub X0.here hx rfl (hb hby ddp2_3) rfl (XS.istore X0.here hx rfl (hb hby ddp2_4) rfl (l' := #[.val .null, rv t, iv (0 : Int32), iv (0 : Int32), iv (Int32.ofNat n), iv ((Int32.ofNat n) - (1 : Int32)), .unset, .unset, .unset, .unset, .unset, .unset, .unset, .unset, .unset, .unset, .unset, .unset, .unset, .unset, .unset, .unset, .unset, .unset, .unset]) rfl (XS.iload X0.here hx rfl (hb hby ddp2_6) rfl  (XS.iloadN X0.here hx rfl (hb hby ddp2_8) rfl  (XS.isub X0.here hx rfl (hb hby ddp2_9) rfl kk_)))))))
  rw [show Int32.ofNat n - (0 : Int32) = Int32.ofNat n from Int32.sub_zero _]
  show Go p e below _ s₁ (mkF m 10 #[.val .null, rv t, iv (0 : Int32), iv (0 : Int32), iv (Int32.ofNat n), iv ((Int32.ofNat n) - (1 : Int32)), .unset, .unset, .unset, .unset, .unset, .unset, .unset, .unset, .unset, .unset, .unset, .unset, .unset, .unset, .unset, .unset, .unset, .unset, .unset] [(.int (Int32.ofNat n))])
  refine Go.st (T' := s₁) (g' := (mkF m 54 #[.val .null, rv t, iv (0 : Int32), iv (0 : Int32), iv (Int32.ofNat n), iv ((Int32.ofNat n) - (1 : Int32)), iv (Int32.ofNat n), .unset, .unset, .unset, .unset, .unset, .unset, .unset, .unset, .unset, .unset, .unset, .unset, .unset, .unset, .unset, .unset, .unset, .unset] [(.ref t)])) ?_ (fun _ kk_ => XS.istore X0.here hx rfl (hb hby ddp2_10) rfl (l' := #[.val .null, rv t, iv (0 : Int32), iv (0 : Int32), iv (Int32.ofNat n), iv ((Int32.ofNat n) - (1 : Int32)), iv (Int32.ofNat n), .unset, .unset, .unset, .unset, .unset, .unset, .unset, .unset, .unset, .unset, .unset, .unset, .unset, .unset, .unset, .unset, .unset, .unset]) rfl (XS.iload X0.here hx rfl (hb hby ddp2_12) rfl  (XS.bipush X0.here hx rfl (hb hby ddp2_14) (XS.iloadN X0.here hx rfl (hb hby ddp2_16) rfl  (XS.iadd X0.here hx rfl (hb hby ddp2_17) rfl (XS.icmpNo X0.here hx rfl (hb hby ddp2_18) rfl (tlt (((own_lt b1 (by decide) (n := 65)).mpr (by omega)) : (Int32.ofNat n) < (65 : Int32))).2.1 (XS.iloadN X0.here hx rfl (hb hby ddp2_21) rfl  (XS.iconst X0.here hx rfl (hb hby ddp2_22) (XS.iand X0.here hx rfl (hb hby ddp2_23) rfl (XS.ifYes X0.here hx rfl (pc0 := 24) (pc' := 46) rfl (hb hby ddp2_24) rfl ((if0 _ _).trans (flt ((by decide) : ¬ ((0 : Int32) < (0 : Int32)))).2.2.2) (by decide) (by decide) (XS.iload X0.here hx rfl (hb hby ddp2_46) rfl  (XS.bipush X0.here hx rfl (hb hby ddp2_48) (XS.icmpNo X0.here hx rfl (hb hby ddp2_50) rfl (tlt (((own_lt b1 (by decide) (n := 44)).mpr (by omega)) : (Int32.ofNat n) < (44 : Int32))).2.1 (XS.aloadN X0.here hx rfl (hb hby ddp2_53) rfl rfl  kk_))))))))))))))
  refine Go.st (T' := s₁) (g' := (mkF m 57 #[.val .null, rv t, iv (0 : Int32), iv (0 : Int32), iv (Int32.ofNat n), iv ((Int32.ofNat n) - (1 : Int32)), iv (Int32.ofNat n), .unset, .unset, .unset, .unset, .unset, .unset, .unset, .unset, .unset, .unset, .unset, .unset, .unset, .unset, .unset, .unset, .unset, .unset] [(.int (Int32.ofNat n)), (.int (0 : Int32)), (.ref t)])) ?_ (fun _ kk_ => XS.iloadN X0.here hx rfl (hb hby ddp2_54) rfl  (XS.iload X0.here hx rfl (hb hby ddp2_55) rfl  kk_))
  refine Go.callS (y := (⟨"java/util/DualPivotQuicksort", "insertionSort", "([JII)V"⟩ : MethodName)) X0 hx hZ hown (hw _ (List.mem_of_getElem? (i := 48) rfl)) (hw _ (List.mem_of_getElem? (i := 49) rfl)) (hw _ (List.mem_of_getElem? (i := 43) rfl)) (hw _ (List.mem_of_getElem? (i := 50) rfl)) (by decide) 0 (rm_iso l Z a0 hw [] t n f n0 h0 Z0 hn V_t g_t) e0 (by decide) (by decide) (by decide) (by decide) (argsL := [(.ref t), (.int (0 : Int32)), (.int (Int32.ofNat n))]) (rest := []) rfl (by rw [hml]; rfl) (lenOf pd__28_5bJII_29V rfl) rfl rfl (by show 2 * 0 + _ ≤ _; exact Nat.le_of_eq rfl) (hb hby ddp2_57) ?_
  rintro _ T1 L1 X1 ⟨rfl, N1, K1, f', S1, V1⟩
  have N2 := Fr.app N0 N1
  have Z3 : n0 ≤ T1.heap.size := Nat.le_trans Z0 K1.1
  have K4 : Keep h0 T1.heap [t] := K0.trans K1 (allS (P := fun x => x ∈ [t] ∨ h0.size ≤ x) (Or.inl (List.mem_of_getElem? (i := 0) rfl)) all0)
  show Go p e below _ T1 (mkF m 60 #[.val .null, rv t, iv (0 : Int32), iv (0 : Int32), iv (Int32.ofNat n), iv ((Int32.ofNat n) - (1 : Int32)), iv (Int32.ofNat n), .unset, .unset, .unset, .unset, .unset, .unset, .unset, .unset, .unset, .unset, .unset, .unset, .unset, .unset, .unset, .unset, .unset, .unset] [])
  refine Go.retV X1 hx hlk hret (hb hby ddp2_60) (by decide) (by decide) ?_
  exact ⟨rfl, N2, K4, f', S1, V1⟩
theorem ddp1_0 : decode jdk_2529_method_12_code 0 = .ok (.iload_n 3, 1) := by decide +kernel
theorem ddp1_1 : decode jdk_2529_method_12_code 1 = .ok (.iload_n 2, 1) := by decide +kernel
theorem ddp1_2 : decode jdk_2529_method_12_code 2 = .ok (.isub, 1) := by decide +kernel
theorem ddp1_3 : decode jdk_2529_method_12_code 3 = .ok (.istore 4, 2) := by decide +kernel
theorem ddp1_5 : decode jdk_2529_method_12_code 5 = .ok (.iload_n 1, 1) := by decide +kernel
theorem ddp1_6 : decode jdk_2529_method_12_code 6 = .ok (.iconst 1, 1) := by decide +kernel
theorem ddp1_7 : decode jdk_2529_method_12_code 7 = .ok (.if_icmp .le 61, 3) := by decide +kernel
theorem ddp1_68 : decode jdk_2529_method_12_code 68 = .ok (.aconst_null, 1) := by decide +kernel
theorem ddp1_69 : decode jdk_2529_method_12_code 69 = .ok (.aload_n 0, 1) := by decide +kernel
theorem ddp1_70 : decode jdk_2529_method_12_code 70 = .ok (.iconst 0, 1) := by decide +kernel
theorem ddp1_71 : decode jdk_2529_method_12_code 71 = .ok (.iload_n 2, 1) := by decide +kernel
theorem ddp1_72 : decode jdk_2529_method_12_code 72 = .ok (.iload_n 3, 1) := by decide +kernel
theorem ddp1_73 : decode jdk_2529_method_12_code 73 = .ok (.invokestatic 99, 3) := by decide +kernel
theorem ddp1_76 : decode jdk_2529_method_12_code 76 = .ok (.return_, 1) := by decide +kernel
theorem pn_dp1 : plainFor (⟨"java/util/DualPivotQuicksort", "sort", "([JIII)V"⟩ : MethodName) = true := by first | exact plainFor_of_name (by first | (simp [plainName, overriddenIn]; done) | decide +kernel) | decide +kernel
theorem ef_dp1 (m : MethodId) (x0 : Addr) (x1 : Int32) (x2 : Int32) (x3 : Int32) : entryFrame m #[(.ref x0), (.int x1), (.int x2), (.int x3)] 7 = mkF m 0 #[rv x0, iv x1, iv x2, iv x3, .unset, .unset, .unset] [] := by first | (simp [entryFrame, mkF, argsToLocals, Value.category]; done) | rfl
set_option maxRecDepth 65536 in
set_option maxHeartbeats 40000000 in
theorem rm_dp1 (l : Launch) (Z : State) (a0 : Array Value) (hw : ∀ d ∈ tables_1, d.before a0 Z = true) (ws : List Jvm.Cond) (t : Addr) (n : Nat) (f : Nat → Int64) (n0 : Nat) (h0 : Heap) (Z0 : n0 ≤ h0.size) (hn : n ≤ 32) (V_t : Ary Z h0 t .long (FL n f)) (g_t : n0 ≤ t) :
    Mt l Z (⟨"java/util/DualPivotQuicksort", "sort", "([JIII)V"⟩ : MethodName) jdk_2529_method_12_code 7 none ws ({ frames := 2, cells := 0, slots := 0, locals := 54 } : Room) #[(.ref t), (.int (0 : Int32)), (.int (0 : Int32)), (.int (Int32.ofNat n))] h0 (fun v h L => v = none ∧ Fr n0 L ∧ Keep h0 h [t] ∧ ∃ f', Srt n f f' ∧ Ary Z h t .long (FL n f')) := by
  refine Mt.body pn_dp1 ?_
  intro p e s m below meth c s₁ hx hby hml hown hnm hret hlk hZ X0 e0
  refine Go.cast (g' := (mkF m 0 #[rv t, iv (0 : Int32), iv (0 : Int32), iv (Int32.ofNat n), .unset, .unset, .unset] [])) (ef_dp1 m t (0 : Int32) (0 : Int32) (Int32.ofNat n)) ?_
  have N0 := Fr.nil n0
  have K0 := Keep.refl h0 [t]
  refine Go.st (T' := s₁) (g' := (mkF m 73 #[rv t, iv (0 : Int32), iv (0 : Int32), iv (Int32.ofNat n), iv ((Int32.ofNat n) - (0 : Int32)), .unset, .unset] [(.int (Int32.ofNat n)), (.int (0 : Int32)), (.int (0 : Int32)), (.ref t), .null])) ?_ (fun _ kk_ => XS.iloadN X0.here hx rfl (hb hby ddp1_0) rfl  (XS.iloadN X0.here hx rfl (hb hby ddp1_1) rfl  (XS.isub X0.here hx rfl (hb hby ddp1_2) rfl (XS.istore X0.here hx rfl (hb hby ddp1_3) rfl (l' := #[rv t, iv (0 : Int32), iv (0 : Int32), iv (Int32.ofNat n), iv ((Int32.ofNat n) - (0 : Int32)), .unset, .unset]) rfl (XS.iloadN X0.here hx rfl (hb hby ddp1_5) rfl  (XS.iconst X0.here hx rfl (hb hby ddp1_6) (XS.icmpYes X0.here hx rfl (pc0 := 7) (pc' := 68) rfl (hb hby ddp1_7) rfl (flt ((by decide) : ¬ ((1 : Int32) < (0 : Int32)))).2.2.2 (by decide) (by decide) (XS.aconstNull X0.here hx rfl (hb hby ddp1_68) (XS.aloadN X0.here hx rfl (hb hby ddp1_69) rfl rfl  (XS.iconst X0.here hx rfl (hb hby ddp1_70) (XS.iloadN X0.here hx rfl (hb hby ddp1_71) rfl  (XS.iloadN X0.here hx rfl (hb hby ddp1_72) rfl  kk_))))))))))))
  refine Go.callS (y := (⟨"java/util/DualPivotQuicksort", "sort", "(Ljava/util/DualPivotQuicksort$Sorter;[JIII)V"⟩ : MethodName)) X0 hx hZ hown (hw _ (List.mem_of_getElem? (i := 45) rfl)) (hw _ (List.mem_of_getElem? (i := 46) rfl)) (hw _ (List.mem_of_getElem? (i := 43) rfl)) (hw _ (List.mem_of_getElem? (i := 47) rfl)) (by decide) 0 (rm_dp2 l Z a0 hw [] t n f n0 h0 Z0 hn V_t g_t) e0 (by decide) (by decide) (by decide) (by decide) (argsL := [.null, (.ref t), (.int (0 : Int32)), (.int (0 : Int32)), (.int (Int32.ofNat n))]) (rest := []) rfl (by rw [hml]; rfl) (lenOf pd__28Ljava_2futil_2fDualPivotQuicksort_24Sorter_3b_5bJIII_29V rfl) rfl rfl (by show 2 * 0 + _ ≤ _; exact Nat.le_of_eq rfl) (hb hby ddp1_73) ?_
  rintro _ T1 L1 X1 ⟨rfl, N1, K1, f', S1, V1⟩
  have N2 := Fr.app N0 N1
  have Z3 : n0 ≤ T1.heap.size := Nat.le_trans Z0 K1.1
  have K4 : Keep h0 T1.heap [t] := K0.trans K1 (allS (P := fun x => x ∈ [t] ∨ h0.size ≤ x) (Or.inl (List.mem_of_getElem? (i := 0) rfl)) all0)
  show Go p e below _ T1 (mkF m 76 #[rv t, iv (0 : Int32), iv (0 : Int32), iv (Int32.ofNat n), iv ((Int32.ofNat n) - (0 : Int32)), .unset, .unset] [])
  refine Go.retV X1 hx hlk hret (hb hby ddp1_76) (by decide) (by decide) ?_
  exact ⟨rfl, N2, K4, f', S1, V1⟩
theorem daso_0 : decode jdk_65_method_4_code 0 = .ok (.aload_n 0, 1) := by decide +kernel
theorem daso_1 : decode jdk_65_method_4_code 1 = .ok (.iconst 0, 1) := by decide +kernel
theorem daso_2 : decode jdk_65_method_4_code 2 = .ok (.iconst 0, 1) := by decide +kernel
theorem daso_3 : decode jdk_65_method_4_code 3 = .ok (.aload_n 0, 1) := by decide +kernel
theorem daso_4 : decode jdk_65_method_4_code 4 = .ok (.arraylength, 1) := by decide +kernel
theorem daso_5 : decode jdk_65_method_4_code 5 = .ok (.invokestatic 19, 3) := by decide +kernel
theorem daso_8 : decode jdk_65_method_4_code 8 = .ok (.return_, 1) := by decide +kernel
theorem pn_aso : plainFor (⟨"java/util/Arrays", "sort", "([J)V"⟩ : MethodName) = true := by first | exact plainFor_of_name (by first | (simp [plainName, overriddenIn]; done) | decide +kernel) | decide +kernel
theorem ef_aso (m : MethodId) (x0 : Addr) : entryFrame m #[(.ref x0)] 1 = mkF m 0 #[rv x0] [] := by first | (simp [entryFrame, mkF, argsToLocals, Value.category]; done) | rfl
set_option maxRecDepth 65536 in
set_option maxHeartbeats 40000000 in
theorem rm_aso (l : Launch) (Z : State) (a0 : Array Value) (hw : ∀ d ∈ tables_1, d.before a0 Z = true) (ws : List Jvm.Cond) (t : Addr) (n : Nat) (f : Nat → Int64) (n0 : Nat) (h0 : Heap) (Z0 : n0 ≤ h0.size) (hn : n ≤ 32) (V_t : Ary Z h0 t .long (FL n f)) (g_t : n0 ≤ t) :
    Mt l Z (⟨"java/util/Arrays", "sort", "([J)V"⟩ : MethodName) jdk_65_method_4_code 1 none ws ({ frames := 3, cells := 0, slots := 0, locals := 72 } : Room) #[(.ref t)] h0 (fun v h L => v = none ∧ Fr n0 L ∧ Keep h0 h [t] ∧ ∃ f', Srt n f f' ∧ Ary Z h t .long (FL n f')) := by
  refine Mt.body pn_aso ?_
  intro p e s m below meth c s₁ hx hby hml hown hnm hret hlk hZ X0 e0
  refine Go.cast (g' := (mkF m 0 #[rv t] [])) (ef_aso m t) ?_
  have N0 := Fr.nil n0
  have K0 := Keep.refl h0 [t]
  refine Go.st (T' := s₁) (g' := (mkF m 5 #[rv t] [(.int (Int32.ofNat n)), (.int (0 : Int32)), (.int (0 : Int32)), (.ref t)])) ?_ (fun _ kk_ => XS.aloadN X0.here hx rfl (hb hby daso_0) rfl rfl  (XS.iconst X0.here hx rfl (hb hby daso_1) (XS.iconst X0.here hx rfl (hb hby daso_2) (XS.aloadN X0.here hx rfl (hb hby daso_3) rfl rfl  (own_alen X0 hx hZ e0 V_t (FL_len _ _) rfl rfl (hb hby daso_4) kk_)))))
  refine Go.callS (y := (⟨"java/util/DualPivotQuicksort", "sort", "([JIII)V"⟩ : MethodName)) X0 hx hZ hown (hw _ (List.mem_of_getElem? (i := 41) rfl)) (hw _ (List.mem_of_getElem? (i := 42) rfl)) (hw _ (List.mem_of_getElem? (i := 43) rfl)) (hw _ (List.mem_of_getElem? (i := 44) rfl)) (by decide) 0 (rm_dp1 l Z a0 hw [] t n f n0 h0 Z0 hn V_t g_t) e0 (by decide) (by decide) (by decide) (by decide) (argsL := [(.ref t), (.int (0 : Int32)), (.int (0 : Int32)), (.int (Int32.ofNat n))]) (rest := []) rfl (by rw [hml]; rfl) (lenOf pd__28_5bJIII_29V rfl) rfl rfl (by show 2 * 0 + _ ≤ _; exact Nat.le_of_eq rfl) (hb hby daso_5) ?_
  rintro _ T1 L1 X1 ⟨rfl, N1, K1, f', S1, V1⟩
  have N2 := Fr.app N0 N1
  have Z3 : n0 ≤ T1.heap.size := Nat.le_trans Z0 K1.1
  have K4 : Keep h0 T1.heap [t] := K0.trans K1 (allS (P := fun x => x ∈ [t] ∨ h0.size ≤ x) (Or.inl (List.mem_of_getElem? (i := 0) rfl)) all0)
  show Go p e below _ T1 (mkF m 8 #[rv t] [])
  refine Go.retV X1 hx hlk hret (hb hby daso_8) (by decide) (by decide) ?_
  exact ⟨rfl, N2, K4, f', S1, V1⟩
theorem dpe1_0 : decode prog_47_method_4_code 0 = .ok (.aload_n 0, 1) := by decide +kernel
theorem dpe1_1 : decode prog_47_method_4_code 1 = .ok (.getfield 32, 3) := by decide +kernel
theorem dpe1_4 : decode prog_47_method_4_code 4 = .ok (.ifCond .ne 15, 3) := by decide +kernel
theorem dpe1_7 : decode prog_47_method_4_code 7 = .ok (.aload_n 0, 1) := by decide +kernel
theorem dpe1_8 : decode prog_47_method_4_code 8 = .ok (.getfield 28, 3) := by decide +kernel
theorem dpe1_11 : decode prog_47_method_4_code 11 = .ok (.invokestatic 36, 3) := by decide +kernel
theorem dpe1_14 : decode prog_47_method_4_code 14 = .ok (.aload_n 0, 1) := by decide +kernel
theorem dpe1_15 : decode prog_47_method_4_code 15 = .ok (.iconst 1, 1) := by decide +kernel
theorem dpe1_16 : decode prog_47_method_4_code 16 = .ok (.putfield 32, 3) := by decide +kernel
theorem dpe1_19 : decode prog_47_method_4_code 19 = .ok (.aload_n 0, 1) := by decide +kernel
theorem dpe1_20 : decode prog_47_method_4_code 20 = .ok (.getfield 28, 3) := by decide +kernel
theorem dpe1_23 : decode prog_47_method_4_code 23 = .ok (.arraylength, 1) := by decide +kernel
theorem dpe1_24 : decode prog_47_method_4_code 24 = .ok (.i2l, 1) := by decide +kernel
theorem dpe1_25 : decode prog_47_method_4_code 25 = .ok (.iload_n 1, 1) := by decide +kernel
theorem dpe1_26 : decode prog_47_method_4_code 26 = .ok (.i2l, 1) := by decide +kernel
theorem dpe1_27 : decode prog_47_method_4_code 27 = .ok (.lmul, 1) := by decide +kernel
theorem dpe1_28 : decode prog_47_method_4_code 28 = .ok (.ldc2_w 42, 3) := by decide +kernel
theorem dpe1_31 : decode prog_47_method_4_code 31 = .ok (.ladd, 1) := by decide +kernel
theorem dpe1_32 : decode prog_47_method_4_code 32 = .ok (.lconst 1, 1) := by decide +kernel
theorem dpe1_33 : decode prog_47_method_4_code 33 = .ok (.lsub, 1) := by decide +kernel
theorem dpe1_34 : decode prog_47_method_4_code 34 = .ok (.ldc2_w 42, 3) := by decide +kernel
theorem dpe1_37 : decode prog_47_method_4_code 37 = .ok (.ldiv, 1) := by decide +kernel
theorem dpe1_38 : decode prog_47_method_4_code 38 = .ok (.lstore_n 2, 1) := by decide +kernel
theorem dpe1_39 : decode prog_47_method_4_code 39 = .ok (.aload_n 0, 1) := by decide +kernel
theorem dpe1_40 : decode prog_47_method_4_code 40 = .ok (.getfield 28, 3) := by decide +kernel
theorem dpe1_43 : decode prog_47_method_4_code 43 = .ok (.lload_n 2, 1) := by decide +kernel
theorem dpe1_44 : decode prog_47_method_4_code 44 = .ok (.l2i, 1) := by decide +kernel
theorem dpe1_45 : decode prog_47_method_4_code 45 = .ok (.iconst 1, 1) := by decide +kernel
theorem dpe1_46 : decode prog_47_method_4_code 46 = .ok (.isub, 1) := by decide +kernel
theorem dpe1_47 : decode prog_47_method_4_code 47 = .ok (.laload, 1) := by decide +kernel
theorem dpe1_48 : decode prog_47_method_4_code 48 = .ok (.lreturn, 1) := by decide +kernel
theorem pn_pe1 : plainFor (⟨"com/example/libdgram/libdgram/cli/Latencies", "percentile", "(I)J"⟩ : MethodName) = true := by first | exact plainFor_of_name (by first | (simp [plainName, overriddenIn]; done) | decide +kernel) | decide +kernel
theorem ef_pe1 (m : MethodId) (x0 : Addr) (x1 : Int32) : entryFrame m #[(.ref x0), (.int x1)] 4 = mkF m 0 #[rv x0, iv x1, .unset, .unset] [] := by first | (simp [entryFrame, mkF, argsToLocals, Value.category]; done) | rfl
set_option maxRecDepth 65536 in
set_option maxHeartbeats 40000000 in
theorem rm_pe1 (l : Launch) (Z : State) (a0 : Array Value) (hw : ∀ d ∈ tables_1, d.before a0 Z = true) (ws : List Jvm.Cond) (a t : Addr) (n : Nat) (f : Nat → Int64) (n0 : Nat) (h0 : Heap) (Z0 : n0 ≤ h0.size) (hn : n ≤ 32) (V_t : Ary Z h0 t .long (FL n f)) (g_t : n0 ≤ t) (hn1 : 1 ≤ n) (E_a : Exa Z h0 a "com/example/libdgram/libdgram/cli/Latencies") (Fn : Fld Z h0 a "com/example/libdgram/libdgram/cli/Latencies" "nanos" "[J" (.ref t)) (Fs : Fld Z h0 a "com/example/libdgram/libdgram/cli/Latencies" "sorted" "Z" (.int (0 : Int32))) (g_a : n0 ≤ a) (ne_a_t : a ≠ t) :
    Mt l Z (⟨"com/example/libdgram/libdgram/cli/Latencies", "percentile", "(I)J"⟩ : MethodName) prog_47_method_4_code 4 (some .long) ws ({ frames := 4, cells := 0, slots := 0, locals := 84 } : Room) #[(.ref a), (.int (1 : Int32))] h0 (fun v h L => Fr n0 L ∧ Keep h0 h [a, t] ∧ Fld Z h a "com/example/libdgram/libdgram/cli/Latencies" "sorted" "Z" (.int (1 : Int32)) ∧ Fld Z h a "com/example/libdgram/libdgram/cli/Latencies" "nanos" "[J" (.ref t) ∧ ∃ f', Srt n f f' ∧ v = some (.long (f' 0)) ∧ Ary Z h t .long (FL n f')) := by
  refine Mt.body pn_pe1 ?_
  intro p e s m below meth c s₁ hx hby hml hown hnm hret hlk hZ X0 e0
  refine Go.cast (g' := (mkF m 0 #[rv a, iv (1 : Int32), .unset, .unset] [])) (ef_pe1 m a (1 : Int32)) ?_
  have N0 := Fr.nil n0
  have K0 := Keep.refl h0 [a, t]
  refine Go.st (T' := s₁) (g' := (mkF m 1 #[rv a, iv (1 : Int32), .unset, .unset] [(.ref a)])) ?_ (fun _ kk_ => XS.aloadN X0.here hx rfl (hb hby dpe1_0) rfl rfl  kk_)
  obtain ⟨T1, X1, e1, st1⟩ := getF X0 hx hZ hown (host := "") (Or.inl (hw _ (List.mem_of_getElem? (i := 35) rfl))) Via.refl e0 Fs (g := (mkF m 1 #[rv a, iv (1 : Int32), .unset, .unset] [(.ref a)])) rfl rfl (hb hby dpe1_1)
  refine Go.st (T' := T1) (g' := (mkF m 4 #[rv a, iv (1 : Int32), .unset, .unset] [(.int (0 : Int32))])) ?_ st1
  refine Go.st (T' := T1) (g' := (mkF m 8 #[rv a, iv (1 : Int32), .unset, .unset] [(.ref a)])) ?_ (fun _ kk_ => XS.ifNo X1.here hx rfl (hb hby dpe1_4) rfl ((if0 _ _).trans (teq ((by decide) : (0 : Int32) = (0 : Int32))).2) (XS.aloadN X1.here hx rfl (hb hby dpe1_7) rfl rfl  kk_))
  obtain ⟨T2, X2, e2, st2⟩ := getF X1 hx hZ hown (host := "") (Or.inl (hw _ (List.mem_of_getElem? (i := 17) rfl))) Via.refl e1 Fn (g := (mkF m 8 #[rv a, iv (1 : Int32), .unset, .unset] [(.ref a)])) rfl rfl (hb hby dpe1_8)
  refine Go.st (T' := T2) (g' := (mkF m 11 #[rv a, iv (1 : Int32), .unset, .unset] [(.ref t)])) ?_ st2
  refine Go.callS (y := (⟨"java/util/Arrays", "sort", "([J)V"⟩ : MethodName)) X2 hx hZ hown (hw _ (List.mem_of_getElem? (i := 37) rfl)) (hw _ (List.mem_of_getElem? (i := 38) rfl)) (hw _ (List.mem_of_getElem? (i := 39) rfl)) (hw _ (List.mem_of_getElem? (i := 40) rfl)) (by decide) 0 (rm_aso l Z a0 hw [] t n f n0 h0 Z0 hn V_t g_t) e2 (by decide) (by decide) (by decide) (by decide) (argsL := [(.ref t)]) (rest := []) rfl (by rw [hml]; rfl) (lenOf pd__28_5bJ_29V rfl) rfl rfl (by show 2 * 0 + _ ≤ _; exact Nat.le_of_eq rfl) (hb hby dpe1_11) ?_
  rintro _ T3 L3 X3 ⟨rfl, N3, K3, f', S3, V3⟩
  have N4 := Fr.app N0 N3
  have Z5 : n0 ≤ T3.heap.size := Nat.le_trans Z0 K3.1
  have K6 : Keep h0 T3.heap [a, t] := K0.trans K3 (allS (P := fun x => x ∈ [a, t] ∨ h0.size ≤ x) (Or.inl (List.mem_of_getElem? (i := 1) rfl)) all0)
  show Go p e below _ T3 (mkF m 14 #[rv a, iv (1 : Int32), .unset, .unset] [])
  refine Go.st (T' := T3) (g' := (mkF m 16 #[rv a, iv (1 : Int32), .unset, .unset] [(.int (1 : Int32)), (.ref a)])) ?_ (fun _ kk_ => XS.aloadN X3.here hx rfl (hb hby dpe1_14) rfl rfl  (XS.iconst X3.here hx rfl (hb hby dpe1_15) kk_))
  have f7 := (Fs.keep K3 (ninS ne_a_t nin0))
  have f8 := (E_a.keep K3)
  obtain ⟨T9, h9, X9, e9, W9, st9⟩ := putFN X3 hx hZ hown (hw _ (List.mem_of_getElem? (i := 35) rfl)) Via.refl rfl f7 f8 (Or.inl (hw _ (List.mem_of_getElem? (i := 36) rfl))) (hw _ (List.mem_of_getElem? (i := 2) rfl)) (ty := .boolean) (v' := (.int (1 : Int32))) (by decide) (by decide) (by decide) (g := (mkF m 16 #[rv a, iv (1 : Int32), .unset, .unset] [(.int (1 : Int32)), (.ref a)])) rfl rfl (hb hby dpe1_16)
  have N10 := Fr.snoc X9 N4 g_a
  have f11 := f7.same W9
  have K12 : Keep h0 h9 [a, t] := K6.wr W9 (Or.inl (List.mem_of_getElem? (i := 0) rfl))
  have Z13 : n0 ≤ h9.size := by rw [W9.size]; exact Z5
  refine Go.st (T' := T9) (g' := (mkF m 19 #[rv a, iv (1 : Int32), .unset, .unset] [])) ?_ st9
  refine Go.st (T' := T9) (g' := (mkF m 20 #[rv a, iv (1 : Int32), .unset, .unset] [(.ref a)])) ?_ (fun _ kk_ => XS.aloadN X9.here hx rfl (hb hby dpe1_19) rfl rfl  kk_)
  have f14 := ((Fn.keep K3 (ninS ne_a_t nin0)).other W9 (Or.inr (slot_ne (C := "com/example/libdgram/libdgram/cli/Latencies") (Or.inr (hw _ (List.mem_of_getElem? (i := 18) rfl))) (Or.inl (hw _ (List.mem_of_getElem? (i := 36) rfl))) (by decide) (t := (.array .long)) (t' := .boolean) (by decide) (by decide))))
  obtain ⟨T15, X15, e15, st15⟩ := getF X9 hx hZ hown (host := "") (Or.inl (hw _ (List.mem_of_getElem? (i := 17) rfl))) Via.refl e9 f14 (g := (mkF m 20 #[rv a, iv (1 : Int32), .unset, .unset] [(.ref a)])) rfl rfl (hb hby dpe1_20)
  refine Go.st (T' := T15) (g' := (mkF m 23 #[rv a, iv (1 : Int32), .unset, .unset] [(.ref t)])) ?_ st15
  have f16 := (V3.other W9 (Ne.symm ne_a_t))
  refine Go.st (T' := T15) (g' := (mkF m 40 #[rv a, iv (1 : Int32), jv ((((((Int32.ofNat n).toInt64) * ((1 : Int32).toInt64)) + (100 : Int64)) - (1 : Int64)) / (100 : Int64)), .second] [(.ref a)])) ?_ (fun _ kk_ => own_alen X15 hx hZ e15 f16 (FL_len _ _) rfl rfl (hb hby dpe1_23) (XS.i2l X15.here hx rfl (hb hby dpe1_24) rfl (XS.iloadN X15.here hx rfl (hb hby dpe1_25) rfl  (XS.i2l X15.here hx rfl (hb hby dpe1_26) rfl (XS.lmul X15.here hx rfl (hb hby dpe1_27) rfl (X15.ldc2Long hx hown (mvT hZ (hw _ (List.mem_of_getElem? (i := 51) rfl))) (g := (mkF m 28 #[rv a, iv (1 : Int32), .unset, .unset] [(.long (((Int32.ofNat n).toInt64) * ((1 : Int32).toInt64)))])) rfl (hb hby dpe1_28) _ (XS.ladd X15.here hx rfl (hb hby dpe1_31) rfl (XS.lconst X15.here hx rfl (hb hby dpe1_32) (XS.lsub X15.here hx rfl (hb hby dpe1_33) rfl (X15.ldc2Long hx hown (mvT hZ (hw _ (List.mem_of_getElem? (i := 51) rfl))) (g := (mkF m 34 #[rv a, iv (1 : Int32), .unset, .unset] [(.long (((((Int32.ofNat n).toInt64) * ((1 : Int32).toInt64)) + (100 : Int64)) - (1 : Int64)))])) rfl (hb hby dpe1_34) _ (XS.ldiv X15.here hx rfl (hb hby dpe1_37) rfl (by decide) (XS.lstoreN X15.here hx rfl (hb hby dpe1_38) rfl (l' := #[rv a, iv (1 : Int32), jv ((((((Int32.ofNat n).toInt64) * ((1 : Int32).toInt64)) + (100 : Int64)) - (1 : Int64)) / (100 : Int64)), .second]) rfl (XS.aloadN X15.here hx rfl (hb hby dpe1_39) rfl rfl  kk_)))))))))))))
  obtain ⟨T17, X17, e17, st17⟩ := getF X15 hx hZ hown (host := "") (Or.inl (hw _ (List.mem_of_getElem? (i := 17) rfl))) Via.refl e15 f14 (g := (mkF m 40 #[rv a, iv (1 : Int32), jv ((((((Int32.ofNat n).toInt64) * ((1 : Int32).toInt64)) + (100 : Int64)) - (1 : Int64)) / (100 : Int64)), .second] [(.ref a)])) rfl rfl (hb hby dpe1_40)
  refine Go.st (T' := T17) (g' := (mkF m 43 #[rv a, iv (1 : Int32), jv ((((((Int32.ofNat n).toInt64) * ((1 : Int32).toInt64)) + (100 : Int64)) - (1 : Int64)) / (100 : Int64)), .second] [(.ref t)])) ?_ st17
  refine Go.st (T' := T17) (g' := (mkF m 47 #[rv a, iv (1 : Int32), jv ((((((Int32.ofNat n).toInt64) * ((1 : Int32).toInt64)) + (100 : Int64)) - (1 : Int64)) / (100 : Int64)), .second] [(.int ((((((((Int32.ofNat n).toInt64) * ((1 : Int32).toInt64)) + (100 : Int64)) - (1 : Int64)) / (100 : Int64)).toInt32) - (1 : Int32))), (.ref t)])) ?_ (fun _ kk_ => XS.lloadN X17.here hx rfl (hb hby dpe1_43) rfl  (XS.l2i X17.here hx rfl (hb hby dpe1_44) rfl (XS.iconst X17.here hx rfl (hb hby dpe1_45) (XS.isub X17.here hx rfl (hb hby dpe1_46) rfl kk_))))
  rw [show ((((((((Int32.ofNat n).toInt64) * ((1 : Int32).toInt64)) + (100 : Int64)) - (1 : Int64)) / (100 : Int64)).toInt32) - (1 : Int32)) = Int32.ofNat 0 from own_rank1 ⟨n, by omega⟩ (by show 1 ≤ n; omega)]
  show Go p e below _ T17 (mkF m 47 #[rv a, iv (1 : Int32), jv ((((((Int32.ofNat n).toInt64) * ((1 : Int32).toInt64)) + (100 : Int64)) - (1 : Int64)) / (100 : Int64)), .second] [(.int (Int32.ofNat 0)), (.ref t)])
  refine Go.st (T' := T17) (g' := (mkF m 48 #[rv a, iv (1 : Int32), jv ((((((Int32.ofNat n).toInt64) * ((1 : Int32).toInt64)) + (100 : Int64)) - (1 : Int64)) / (100 : Int64)), .second] [(.long (f' 0))])) ?_ (fun _ kk_ => own_laload X17 hx hZ e17 f16 (i := 0) (v := (.long (f' 0))) (FL_at (by omega)) rfl rfl rfl (hb hby dpe1_47) kk_)
  refine Go.retL X17 hx hlk hret (hb hby dpe1_48) (by decide) (by decide) ?_
  try rw [e17]
  exact ⟨N10, K12, f11, f14, f', S3, rfl, f16⟩
theorem dpe2_0 : decode prog_47_method_4_code 0 = .ok (.aload_n 0, 1) := by decide +kernel
theorem dpe2_1 : decode prog_47_method_4_code 1 = .ok (.getfield 32, 3) := by decide +kernel
theorem dpe2_4 : decode prog_47_method_4_code 4 = .ok (.ifCond .ne 15, 3) := by decide +kernel
theorem dpe2_19 : decode prog_47_method_4_code 19 = .ok (.aload_n 0, 1) := by decide +kernel
theorem dpe2_20 : decode prog_47_method_4_code 20 = .ok (.getfield 28, 3) := by decide +kernel
theorem dpe2_23 : decode prog_47_method_4_code 23 = .ok (.arraylength, 1) := by decide +kernel
theorem dpe2_24 : decode prog_47_method_4_code 24 = .ok (.i2l, 1) := by decide +kernel
theorem dpe2_25 : decode prog_47_method_4_code 25 = .ok (.iload_n 1, 1) := by decide +kernel
theorem dpe2_26 : decode prog_47_method_4_code 26 = .ok (.i2l, 1) := by decide +kernel
theorem dpe2_27 : decode prog_47_method_4_code 27 = .ok (.lmul, 1) := by decide +kernel
theorem dpe2_28 : decode prog_47_method_4_code 28 = .ok (.ldc2_w 42, 3) := by decide +kernel
theorem dpe2_31 : decode prog_47_method_4_code 31 = .ok (.ladd, 1) := by decide +kernel
theorem dpe2_32 : decode prog_47_method_4_code 32 = .ok (.lconst 1, 1) := by decide +kernel
theorem dpe2_33 : decode prog_47_method_4_code 33 = .ok (.lsub, 1) := by decide +kernel
theorem dpe2_34 : decode prog_47_method_4_code 34 = .ok (.ldc2_w 42, 3) := by decide +kernel
theorem dpe2_37 : decode prog_47_method_4_code 37 = .ok (.ldiv, 1) := by decide +kernel
theorem dpe2_38 : decode prog_47_method_4_code 38 = .ok (.lstore_n 2, 1) := by decide +kernel
theorem dpe2_39 : decode prog_47_method_4_code 39 = .ok (.aload_n 0, 1) := by decide +kernel
theorem dpe2_40 : decode prog_47_method_4_code 40 = .ok (.getfield 28, 3) := by decide +kernel
theorem dpe2_43 : decode prog_47_method_4_code 43 = .ok (.lload_n 2, 1) := by decide +kernel
theorem dpe2_44 : decode prog_47_method_4_code 44 = .ok (.l2i, 1) := by decide +kernel
theorem dpe2_45 : decode prog_47_method_4_code 45 = .ok (.iconst 1, 1) := by decide +kernel
theorem dpe2_46 : decode prog_47_method_4_code 46 = .ok (.isub, 1) := by decide +kernel
theorem dpe2_47 : decode prog_47_method_4_code 47 = .ok (.laload, 1) := by decide +kernel
theorem dpe2_48 : decode prog_47_method_4_code 48 = .ok (.lreturn, 1) := by decide +kernel
theorem pn_pe2 : plainFor (⟨"com/example/libdgram/libdgram/cli/Latencies", "percentile", "(I)J"⟩ : MethodName) = true := by first | exact plainFor_of_name (by first | (simp [plainName, overriddenIn]; done) | decide +kernel) | decide +kernel
theorem ef_pe2 (m : MethodId) (x0 : Addr) (x1 : Int32) : entryFrame m #[(.ref x0), (.int x1)] 4 = mkF m 0 #[rv x0, iv x1, .unset, .unset] [] := by first | (simp [entryFrame, mkF, argsToLocals, Value.category]; done) | rfl
set_option maxRecDepth 65536 in
set_option maxHeartbeats 40000000 in
theorem rm_pe2 (l : Launch) (Z : State) (a0 : Array Value) (hw : ∀ d ∈ tables_1, d.before a0 Z = true) (ws : List Jvm.Cond) (a t : Addr) (n : Nat) (f : Nat → Int64) (h0 : Heap) (hn : n ≤ 32) (V_t : Ary Z h0 t .long (FL n f)) (hn1 : 1 ≤ n) (Fn : Fld Z h0 a "com/example/libdgram/libdgram/cli/Latencies" "nanos" "[J" (.ref t)) (Fs : Fld Z h0 a "com/example/libdgram/libdgram/cli/Latencies" "sorted" "Z" (.int (1 : Int32))) :
    Mt l Z (⟨"com/example/libdgram/libdgram/cli/Latencies", "percentile", "(I)J"⟩ : MethodName) prog_47_method_4_code 4 (some .long) ws ({ frames := 0, cells := 0, slots := 0, locals := 0 } : Room) #[(.ref a), (.int (100 : Int32))] h0 (fun v h L => v = some (.long (f (n - 1))) ∧ h = h0 ∧ L = []) := by
  refine Mt.body pn_pe2 ?_
  intro p e s m below meth c s₁ hx hby hml hown hnm hret hlk hZ X0 e0
  refine Go.cast (g' := (mkF m 0 #[rv a, iv (100 : Int32), .unset, .unset] [])) (ef_pe2 m a (100 : Int32)) ?_
  have N0 := Fr.nil 0
  refine Go.st (T' := s₁) (g' := (mkF m 1 #[rv a, iv (100 : Int32), .unset, .unset] [(.ref a)])) ?_ (fun _ kk_ => XS.aloadN X0.here hx rfl (hb hby dpe2_0) rfl rfl  kk_)
  obtain ⟨T1, X1, e1, st1⟩ := getF X0 hx hZ hown (host := "") (Or.inl (hw _ (List.mem_of_getElem? (i := 35) rfl))) Via.refl e0 Fs (g := (mkF m 1 #[rv a, iv (100 : Int32), .unset, .unset] [(.ref a)])) rfl rfl (hb hby dpe2_1)
  refine Go.st (T' := T1) (g' := (mkF m 4 #[rv a, iv (100 : Int32), .unset, .unset] [(.int (1 : Int32))])) ?_ st1
  refine Go.st (T' := T1) (g' := (mkF m 20 #[rv a, iv (100 : Int32), .unset, .unset] [(.ref a)])) ?_ (fun _ kk_ => XS.ifYes X1.here hx rfl (pc0 := 4) (pc' := 19) rfl (hb hby dpe2_4) rfl ((if0 _ _).trans (feq ((by decide) : ¬ ((1 : Int32) = (0 : Int32)))).2) (by decide) (by decide) (XS.aloadN X1.here hx rfl (hb hby dpe2_19) rfl rfl  kk_))
  obtain ⟨T2, X2, e2, st2⟩ := getF X1 hx hZ hown (host := "") (Or.inl (hw _ (List.mem_of_getElem? (i := 17) rfl))) Via.refl e1 Fn (g := (mkF m 20 #[rv a, iv (100 : Int32), .unset, .unset] [(.ref a)])) rfl rfl (hb hby dpe2_20)
  refine Go.st (T' := T2) (g' := (mkF m 23 #[rv a, iv (100 : Int32), .unset, .unset] [(.ref t)])) ?_ st2
  refine Go.st (T' := T2) (g' := (mkF m 40 #[rv a, iv (100 : Int32), jv ((((((Int32.ofNat n).toInt64) * ((100 : Int32).toInt64)) + (100 : Int64)) - (1 : Int64)) / (100 : Int64)), .second] [(.ref a)])) ?_ (fun _ kk_ => own_alen X2 hx hZ e2 V_t (FL_len _ _) rfl rfl (hb hby dpe2_23) (XS.i2l X2.here hx rfl (hb hby dpe2_24) rfl (XS.iloadN X2.here hx rfl (hb hby dpe2_25) rfl  (XS.i2l X2.here hx rfl (hb hby dpe2_26) rfl (XS.lmul X2.here hx rfl (hb hby dpe2_27) rfl (X2.ldc2Long hx hown (mvT hZ (hw _ (List.mem_of_getElem? (i := 51) rfl))) (g := (mkF m 28 #[rv a, iv (100 : Int32), .unset, .unset] [(.long (((Int32.ofNat n).toInt64) * ((100 : Int32).toInt64)))])) rfl (hb hby dpe2_28) _ (XS.ladd X2.here hx rfl (hb hby dpe2_31) rfl (XS.lconst X2.here hx rfl (hb hby dpe2_32) (XS.lsub X2.here hx rfl (hb hby dpe2_33) rfl (X2.ldc2Long hx hown (mvT hZ (hw _ (List.mem_of_getElem? (i := 51) rfl))) (g := (mkF m 34 #[rv a, iv (100 : Int32), .unset, .unset] [(.long (((((Int32.ofNat n).toInt64) * ((100 : Int32).toInt64)) + (100 : Int64)) - (1 : Int64)))])) rfl (hb hby dpe2_34) _ (XS.ldiv X2.here hx rfl (hb hby dpe2_37) rfl (by decide) (XS.lstoreN X2.here hx rfl (hb hby dpe2_38) rfl (l' := #[rv a, iv (100 : Int32), jv ((((((Int32.ofNat n).toInt64) * ((100 : Int32).toInt64)) + (100 : Int64)) - (1 : Int64)) / (100 : Int64)), .second]) rfl (XS.aloadN X2.here hx rfl (hb hby dpe2_39) rfl rfl  kk_)))))))))))))
  obtain ⟨T3, X3, e3, st3⟩ := getF X2 hx hZ hown (host := "") (Or.inl (hw _ (List.mem_of_getElem? (i := 17) rfl))) Via.refl e2 Fn (g := (mkF m 40 #[rv a, iv (100 : Int32), jv ((((((Int32.ofNat n).toInt64) * ((100 : Int32).toInt64)) + (100 : Int64)) - (1 : Int64)) / (100 : Int64)), .second] [(.ref a)])) rfl rfl (hb hby dpe2_40)
  refine Go.st (T' := T3) (g' := (mkF m 43 #[rv a, iv (100 : Int32), jv ((((((Int32.ofNat n).toInt64) * ((100 : Int32).toInt64)) + (100 : Int64)) - (1 : Int64)) / (100 : Int64)), .second] [(.ref t)])) ?_ st3
  refine Go.st (T' := T3) (g' := (mkF m 47 #[rv a, iv (100 : Int32), jv ((((((Int32.ofNat n).toInt64) * ((100 : Int32).toInt64)) + (100 : Int64)) - (1 : Int64)) / (100 : Int64)), .second] [(.int ((((((((Int32.ofNat n).toInt64) * ((100 : Int32).toInt64)) + (100 : Int64)) - (1 : Int64)) / (100 : Int64)).toInt32) - (1 : Int32))), (.ref t)])) ?_ (fun _ kk_ => XS.lloadN X3.here hx rfl (hb hby dpe2_43) rfl  (XS.l2i X3.here hx rfl (hb hby dpe2_44) rfl (XS.iconst X3.here hx rfl (hb hby dpe2_45) (XS.isub X3.here hx rfl (hb hby dpe2_46) rfl kk_))))
  rw [show ((((((((Int32.ofNat n).toInt64) * ((100 : Int32).toInt64)) + (100 : Int64)) - (1 : Int64)) / (100 : Int64)).toInt32) - (1 : Int32)) = Int32.ofNat (n - 1) from own_rank100 ⟨n, by omega⟩ (by show 1 ≤ n; omega)]
  show Go p e below _ T3 (mkF m 47 #[rv a, iv (100 : Int32), jv ((((((Int32.ofNat n).toInt64) * ((100 : Int32).toInt64)) + (100 : Int64)) - (1 : Int64)) / (100 : Int64)), .second] [(.int (Int32.ofNat (n - 1))), (.ref t)])
  refine Go.st (T' := T3) (g' := (mkF m 48 #[rv a, iv (100 : Int32), jv ((((((Int32.ofNat n).toInt64) * ((100 : Int32).toInt64)) + (100 : Int64)) - (1 : Int64)) / (100 : Int64)), .second] [(.long (f (n - 1)))])) ?_ (fun _ kk_ => own_laload X3 hx hZ e3 V_t (i := (n - 1)) (v := (.long (f (n - 1)))) (FL_at (by omega)) rfl rfl rfl (hb hby dpe2_47) kk_)
  refine Go.retL X3 hx hlk hret (hb hby dpe2_48) (by decide) (by decide) ?_
  try rw [e3]
  exact ⟨rfl, rfl, rfl⟩
theorem pn_law : plainFor x = true := by first | exact plainFor_of_name (by first | (simp [plainName, overriddenIn]; done) | decide +kernel) | decide +kernel
theorem ef_law (m : MethodId) (x0 : Int32) (x1 : Int32) (x2 : Int32) (x3 : Int64) (x4 : Int64) : entryFrame m #[(.int x0), (.int x1), (.int x2), (.long x3), (.long x4)] maxLocals = mkF m 0 #[iv x0, iv x1, iv x2, jv x3, .second, jv x4, .second, .unset, .unset, .unset, .unset, .unset, .unset, .unset, .unset, .unset, .unset, .unset, .unset, .unset, .unset, .unset, .unset, .unset, .unset, .unset, .unset] [] := by first | (simp [entryFrame, mkF, argsToLocals, Value.category, maxLocals]; done) | rfl
set_option maxRecDepth 65536 in
set_option maxHeartbeats 40000000 in
theorem rm_law (l : Launch) (Z : State) (a0 : Array Value) (hw : ∀ d ∈ tables_1, d.before a0 Z = true) (ws : List Jvm.Cond) (p0 p1 p2 : Int32) (p3 p4 : Int64) (n0 : Nat) (h0 : Heap) (Z0 : n0 ≤ h0.size) :
    Mt l Z x code maxLocals ret ws room_1 #[(.int p0), (.int p1), (.int p2), (.long p3), (.long p4)] h0 (fun v h L => v = some (.int (1 : Int32)) ∧ Fr n0 L) := by
  refine Mt.body pn_law ?_
  intro p e s m below meth c s₁ hx hby hml hown hnm hret hlk hZ X0 e0
  refine Go.cast (g' := (mkF m 0 #[iv p0, iv p1, iv p2, jv p3, .second, jv p4, .second, .unset, .unset, .unset, .unset, .unset, .unset, .unset, .unset, .unset, .unset, .unset, .unset, .unset, .unset, .unset, .unset, .unset, .unset, .unset, .unset] [])) (ef_law m p0 p1 p2 p3 p4) ?_
  have N0 := Fr.nil n0
  obtain ⟨N, hN1, hN2, eN⟩ := own_count p0
  obtain ⟨I, hI, eI⟩ := own_rem p1 N hN1 hN2
  obtain ⟨J, hJ, eJ⟩ := own_rem p2 N hN1 hN2
  have hne : Int32.ofNat N ≠ 0 := fun z => by have := (own_eq (i := N) (n := 0) (by omega) (by decide)).mp z; omega
  have eW : Int32.ofNat N / (10 : Int32) = Int32.ofNat (N / 10) := own_div (by omega) (by decide) (k := 10)
  refine Go.st (T' := s₁) (g' := (mkF m 6 #[iv p0, iv p1, iv p2, jv p3, .second, jv p4, .second, .unset, .unset, .unset, .unset, .unset, .unset, .unset, .unset, .unset, .unset, .unset, .unset, .unset, .unset, .unset, .unset, .unset, .unset, .unset, .unset] [(.int ((1 : Int32) + (p0 &&& (31 : Int32))))])) ?_ (fun _ kk_ => XS.iconst X0.here hx rfl (hb hby at_0) (XS.iloadN X0.here hx rfl (hb hby at_1) rfl  (XS.bipush X0.here hx rfl (hb hby at_2) (XS.iand X0.here hx rfl (hb hby at_4) rfl (XS.iadd X0.here hx rfl (hb hby at_5) rfl kk_)))))
  rw [eN]
  show Go p e below _ s₁ (mkF m 6 #[iv p0, iv p1, iv p2, jv p3, .second, jv p4, .second, .unset, .unset, .unset, .unset, .unset, .unset, .unset, .unset, .unset, .unset, .unset, .unset, .unset, .unset, .unset, .unset, .unset, .unset, .unset, .unset] [(.int (Int32.ofNat N))])
  refine Go.st (T' := s₁) (g' := (mkF m 15 #[iv p0, iv p1, iv p2, jv p3, .second, jv p4, .second, iv (Int32.ofNat N), .unset, .unset, .unset, .unset, .unset, .unset, .unset, .unset, .unset, .unset, .unset, .unset, .unset, .unset, .unset, .unset, .unset, .unset, .unset] [(.int ((p1 &&& (2147483647 : Int32)) % (Int32.ofNat N)))])) ?_ (fun _ kk_ => XS.istore X0.here hx rfl (hb hby at_6) rfl (l' := #[iv p0, iv p1, iv p2, jv p3, .second, jv p4, .second, iv (Int32.ofNat N), .unset, .unset, .unset, .unset, .unset, .unset, .unset, .unset, .unset, .unset, .unset, .unset, .unset, .unset, .unset, .unset, .unset, .unset, .unset]) rfl (XS.iloadN X0.here hx rfl (hb hby at_8) rfl  (X0.ldcInt hx hown (mvT hZ (hw _ (List.mem_of_getElem? (i := 0) rfl))) (g := (mkF m 9 #[iv p0, iv p1, iv p2, jv p3, .second, jv p4, .second, iv (Int32.ofNat N), .unset, .unset, .unset, .unset, .unset, .unset, .unset, .unset, .unset, .unset, .unset, .unset, .unset, .unset, .unset, .unset, .unset, .unset, .unset] [(.int p1)])) rfl (hb hby at_9) _ (XS.iand X0.here hx rfl (hb hby at_11) rfl (XS.iload X0.here hx rfl (hb hby at_12) rfl  (iremM X0 hx rfl (hb hby at_14) rfl hne kk_))))))
  rw [eI]
  show Go p e below _ s₁ (mkF m 15 #[iv p0, iv p1, iv p2, jv p3, .second, jv p4, .second, iv (Int32.ofNat N), .unset, .unset, .unset, .unset, .unset, .unset, .unset, .unset, .unset, .unset, .unset, .unset, .unset, .unset, .unset, .unset, .unset, .unset, .unset] [(.int (Int32.ofNat I))])
  refine Go.st (T' := s₁) (g' := (mkF m 24 #[iv p0, iv p1, iv p2, jv p3, .second, jv p4, .second, iv (Int32.ofNat N), iv (Int32.ofNat I), .unset, .unset, .unset, .unset, .unset, .unset, .unset, .unset, .unset, .unset, .unset, .unset, .unset, .unset, .unset, .unset, .unset, .unset] [(.int ((p2 &&& (2147483647 : Int32)) % (Int32.ofNat N)))])) ?_ (fun _ kk_ => XS.istore X0.here hx rfl (hb hby at_15) rfl (l' := #[iv p0, iv p1, iv p2, jv p3, .second, jv p4, .second, iv (Int32.ofNat N), iv (Int32.ofNat I), .unset, .unset, .unset, .unset, .unset, .unset, .unset, .unset, .unset, .unset, .unset, .unset, .unset, .unset, .unset, .unset, .unset, .unset]) rfl (XS.iloadN X0.here hx rfl (hb hby at_17) rfl  (X0.ldcInt hx hown (mvT hZ (hw _ (List.mem_of_getElem? (i := 0) rfl))) (g := (mkF m 18 #[iv p0, iv p1, iv p2, jv p3, .second, jv p4, .second, iv (Int32.ofNat N), iv (Int32.ofNat I), .unset, .unset, .unset, .unset, .unset, .unset, .unset, .unset, .unset, .unset, .unset, .unset, .unset, .unset, .unset, .unset, .unset, .unset] [(.int p2)])) rfl (hb hby at_18) _ (XS.iand X0.here hx rfl (hb hby at_20) rfl (XS.iload X0.here hx rfl (hb hby at_21) rfl  (iremM X0 hx rfl (hb hby at_23) rfl hne kk_))))))
  rw [eJ]
  show Go p e below _ s₁ (mkF m 24 #[iv p0, iv p1, iv p2, jv p3, .second, jv p4, .second, iv (Int32.ofNat N), iv (Int32.ofNat I), .unset, .unset, .unset, .unset, .unset, .unset, .unset, .unset, .unset, .unset, .unset, .unset, .unset, .unset, .unset, .unset, .unset, .unset] [(.int (Int32.ofNat J))])
  refine Go.st (T' := s₁) (g' := (mkF m 31 #[iv p0, iv p1, iv p2, jv p3, .second, jv p4, .second, iv (Int32.ofNat N), iv (Int32.ofNat I), iv (Int32.ofNat J), .unset, .unset, .unset, .unset, .unset, .unset, .unset, .unset, .unset, .unset, .unset, .unset, .unset, .unset, .unset, .unset, .unset] [(.int ((Int32.ofNat N) / (10 : Int32)))])) ?_ (fun _ kk_ => XS.istore X0.here hx rfl (hb hby at_24) rfl (l' := #[iv p0, iv p1, iv p2, jv p3, .second, jv p4, .second, iv (Int32.ofNat N), iv (Int32.ofNat I), iv (Int32.ofNat J), .unset, .unset, .unset, .unset, .unset, .unset, .unset, .unset, .unset, .unset, .unset, .unset, .unset, .unset, .unset, .unset, .unset]) rfl (XS.iload X0.here hx rfl (hb hby at_26) rfl  (XS.bipush X0.here hx rfl (hb hby at_28) (XS.idiv X0.here hx rfl (hb hby at_30) rfl (by decide) kk_))))
  rw [eW]
  show Go p e below _ s₁ (mkF m 31 #[iv p0, iv p1, iv p2, jv p3, .second, jv p4, .second, iv (Int32.ofNat N), iv (Int32.ofNat I), iv (Int32.ofNat J), .unset, .unset, .unset, .unset, .unset, .unset, .unset, .unset, .unset, .unset, .unset, .unset, .unset, .unset, .unset, .unset, .unset] [(.int (Int32.ofNat (N / 10)))])
  refine Go.st (T' := s₁) (g' := (mkF m 33 #[iv p0, iv p1, iv p2, jv p3, .second, jv p4, .second, iv (Int32.ofNat N), iv (Int32.ofNat I), iv (Int32.ofNat J), iv (Int32.ofNat (N / 10)), .unset, .unset, .unset, .unset, .unset, .unset, .unset, .unset, .unset, .unset, .unset, .unset, .unset, .unset, .unset, .unset] [])) ?_ (fun _ kk_ => XS.istore X0.here hx rfl (hb hby at_31) rfl (l' := #[iv p0, iv p1, iv p2, jv p3, .second, jv p4, .second, iv (Int32.ofNat N), iv (Int32.ofNat I), iv (Int32.ofNat J), iv (Int32.ofNat (N / 10)), .unset, .unset, .unset, .unset, .unset, .unset, .unset, .unset, .unset, .unset, .unset, .unset, .unset, .unset, .unset, .unset]) rfl kk_)
  obtain ⟨T1, h1, X1, e1, E1, A1, D1, -, st1⟩ := newO X0 hx hZ hown (hw _ (List.mem_of_getElem? (i := 1) rfl)) (hw _ (List.mem_of_getElem? (i := 2) rfl)) (hw _ (List.mem_of_getElem? (i := 3) rfl)) e0 (g := (mkF m 33 #[iv p0, iv p1, iv p2, jv p3, .second, jv p4, .second, iv (Int32.ofNat N), iv (Int32.ofNat I), iv (Int32.ofNat J), iv (Int32.ofNat (N / 10)), .unset, .unset, .unset, .unset, .unset, .unset, .unset, .unset, .unset, .unset, .unset, .unset, .unset, .unset, .unset, .unset] [])) rfl (hb hby at_33) (by decide) (by decide)
  obtain ⟨b1, g1⟩ : ∃ z, z = h0.size := ⟨_, rfl⟩
  rw [← g1] at A1 D1 st1
  have g_b1 : n0 ≤ b1 := Nat.le_trans Z0 (Nat.le_of_eq g1.symm)
  have Z2 : n0 ≤ h1.size := Nat.le_trans Z0 E1.1
  have f3 : Fld Z h1 b1 "com/example/libdgram/libdgram/cli/Latencies" "warmUp" "I" (.int (0 : Int32)) := D1 (Or.inr (hw _ (List.mem_of_getElem? (i := 15) rfl))) (ty := .int) (by decide)
  have f4 : Fld Z h1 b1 "com/example/libdgram/libdgram/cli/Latencies" "nanos" "[J" .null := D1 (Or.inr (hw _ (List.mem_of_getElem? (i := 18) rfl))) (ty := (.array .long)) (by decide)
  have f5 : Fld Z h1 b1 "com/example/libdgram/libdgram/cli/Latencies" "sorted" "Z" (.int (0 : Int32)) := D1 (Or.inl (hw _ (List.mem_of_getElem? (i := 36) rfl))) (ty := .boolean) (by decide)
  refine Go.st (T' := T1) (g' := (mkF m 36 #[iv p0, iv p1, iv p2, jv p3, .second, jv p4, .second, iv (Int32.ofNat N), iv (Int32.ofNat I), iv (Int32.ofNat J), iv (Int32.ofNat (N / 10)), .unset, .unset, .unset, .unset, .unset, .unset, .unset, .unset, .unset, .unset, .unset, .unset, .unset, .unset, .unset, .unset] [(.ref b1)])) ?_ st1
  refine Go.st (T' := T1) (g' := (mkF m 39 #[iv p0, iv p1, iv p2, jv p3, .second, jv p4, .second, iv (Int32.ofNat N), iv (Int32.ofNat I), iv (Int32.ofNat J), iv (Int32.ofNat (N / 10)), .unset, .unset, .unset, .unset, .unset, .unset, .unset, .unset, .unset, .unset, .unset, .unset, .unset, .unset, .unset, .unset] [(.int (Int32.ofNat N)), (.ref b1), (.ref b1)])) ?_ (fun _ kk_ => XS.dup X1.here hx rfl (hb hby at_36) rfl rfl (XS.iload X1.here hx rfl (hb hby at_37) rfl  kk_))
  refine Go.callN (y := (⟨"com/example/libdgram/libdgram/cli/Latencies", "<init>", "(I)V"⟩ : MethodName)) X1 hx hZ rfl hown (hw _ (List.mem_of_getElem? (i := 4) rfl)) (hw _ (List.mem_of_getElem? (i := 5) rfl)) (hw _ (List.mem_of_getElem? (i := 3) rfl)) (hw _ (List.mem_of_getElem? (i := 6) rfl)) (by decide) 1 (rm_ini l Z a0 hw [] b1 N n0 h1 Z2 hN1 hN2 A1 f3 f4 f5 g_b1) e1 (by decide) (by decide) (by decide) (by decide) (a := b1) (argsL := [(.int (Int32.ofNat N))]) (rest := [(.ref b1)]) rfl (by rw [hml]; rfl) (lenOf pd__28I_29V rfl) rfl rfl (by show 2 * 0 + _ ≤ _; exact Nat.le_of_eq rfl) (hb hby at_39) ?_
  rintro _ T6 L6 X6 ⟨rfl, N6, K6, Fw6, Fs6, t, tz, Fn6, V6⟩
  have N7 := Fr.app N0 N6
  have Z8 : n0 ≤ T6.heap.size := Nat.le_trans Z2 K6.1
  show Go p e below _ T6 (mkF m 42 #[iv p0, iv p1, iv p2, jv p3, .second, jv p4, .second, iv (Int32.ofNat N), iv (Int32.ofNat I), iv (Int32.ofNat J), iv (Int32.ofNat (N / 10)), .unset, .unset, .unset, .unset, .unset, .unset, .unset, .unset, .unset, .unset, .unset, .unset, .unset, .unset, .unset, .unset] [(.ref b1)])
  have ne_bt : b1 ≠ t := Nat.ne_of_lt (Nat.lt_of_lt_of_le A1.lt tz)
  have g_t : n0 ≤ t := Nat.le_trans Z2 tz
  refine Go.st (T' := T6) (g' := (mkF m 49 #[iv p0, iv p1, iv p2, jv p3, .second, jv p4, .second, iv (Int32.ofNat N), iv (Int32.ofNat I), iv (Int32.ofNat J), iv (Int32.ofNat (N / 10)), rv b1, .unset, .unset, .unset, .unset, .unset, .unset, .unset, .unset, .unset, .unset, .unset, .unset, .unset, .unset, .unset] [(.long p3), (.int (Int32.ofNat I)), (.ref b1)])) ?_ (fun _ kk_ => XS.astore X6.here hx rfl (hb hby at_42) rfl rfl (l' := #[iv p0, iv p1, iv p2, jv p3, .second, jv p4, .second, iv (Int32.ofNat N), iv (Int32.ofNat I), iv (Int32.ofNat J), iv (Int32.ofNat (N / 10)), rv b1, .unset, .unset, .unset, .unset, .unset, .unset, .unset, .unset, .unset, .unset, .unset, .unset, .unset, .unset, .unset]) rfl (XS.aload X6.here hx rfl (hb hby at_44) rfl rfl  (XS.iload X6.here hx rfl (hb hby at_46) rfl  (XS.lloadN X6.here hx rfl (hb hby at_48) rfl  kk_))))
  have f10 := (A1.keep K6)
  refine Go.callV (y := (⟨"com/example/libdgram/libdgram/cli/Latencies", "add", "(IJ)V"⟩ : MethodName)) (z := (⟨"com/example/libdgram/libdgram/cli/Latencies", "add", "(IJ)V"⟩ : MethodName)) X6 hx hZ hown (hw _ (List.mem_of_getElem? (i := 19) rfl)) (hw _ (List.mem_of_getElem? (i := 20) rfl)) (notFace_of_selects (args := #[]) (mvT hZ (hw _ (List.mem_of_getElem? (i := 22) rfl)))) (hw _ (List.mem_of_getElem? (i := 22) rfl)) (hw _ (List.mem_of_getElem? (i := 21) rfl)) (hw _ (List.mem_of_getElem? (i := 3) rfl)) (hw _ (List.mem_of_getElem? (i := 23) rfl)) (by decide) 0 (rm_add l Z a0 hw [] b1 t I (N / 10) (N - N / 10) p3 (fun _ => 0) n0 T6.heap Z8 (by omega) V6 g_t (by omega) (by omega) Fw6 Fn6) rfl (by decide) (by decide) (by decide) (by decide) f10 (argsL := [(.int (Int32.ofNat I)), (.long p3)]) (rest := []) rfl (by rw [hml]; rfl) (lenOf pd__28IJ_29V rfl) rfl rfl (by show 2 * 0 + _ ≤ _; exact Nat.le_of_eq rfl) (hb hby at_49) ?_
  rintro _ T9 L9 X9 ⟨rfl, N9, K9, V9⟩
  have N11 := Fr.app N7 N9
  have Z12 : n0 ≤ T9.heap.size := Nat.le_trans Z8 K9.1
  show Go p e below _ T9 (mkF m 52 #[iv p0, iv p1, iv p2, jv p3, .second, jv p4, .second, iv (Int32.ofNat N), iv (Int32.ofNat I), iv (Int32.ofNat J), iv (Int32.ofNat (N / 10)), rv b1, .unset, .unset, .unset, .unset, .unset, .unset, .unset, .unset, .unset, .unset, .unset, .unset, .unset, .unset, .unset] [])
  refine Go.st (T' := T9) (g' := (mkF m 58 #[iv p0, iv p1, iv p2, jv p3, .second, jv p4, .second, iv (Int32.ofNat N), iv (Int32.ofNat I), iv (Int32.ofNat J), iv (Int32.ofNat (N / 10)), rv b1, .unset, .unset, .unset, .unset, .unset, .unset, .unset, .unset, .unset, .unset, .unset, .unset, .unset, .unset, .unset] [(.long p4), (.int (Int32.ofNat J)), (.ref b1)])) ?_ (fun _ kk_ => XS.aload X9.here hx rfl (hb hby at_52) rfl rfl  (XS.iload X9.here hx rfl (hb hby at_54) rfl  (XS.lload X9.here hx rfl (hb hby at_56) rfl  kk_)))
  have f13 := (Fw6.keep K9 (ninS ne_bt nin0))
  have f14 := (Fn6.keep K9 (ninS ne_bt nin0))
  have f16 := (f10.keep K9)
  refine Go.callV (y := (⟨"com/example/libdgram/libdgram/cli/Latencies", "add", "(IJ)V"⟩ : MethodName)) (z := (⟨"com/example/libdgram/libdgram/cli/Latencies", "add", "(IJ)V"⟩ : MethodName)) X9 hx hZ hown (hw _ (List.mem_of_getElem? (i := 19) rfl)) (hw _ (List.mem_of_getElem? (i := 20) rfl)) (notFace_of_selects (args := #[]) (mvT hZ (hw _ (List.mem_of_getElem? (i := 22) rfl)))) (hw _ (List.mem_of_getElem? (i := 22) rfl)) (hw _ (List.mem_of_getElem? (i := 21) rfl)) (hw _ (List.mem_of_getElem? (i := 3) rfl)) (hw _ (List.mem_of_getElem? (i := 23) rfl)) (by decide) 0 (rm_add l Z a0 hw [] b1 t J (N / 10) (N - N / 10) p4 (fS (N / 10) I p3 (fun _ => 0)) n0 T9.heap Z12 (by omega) V9 g_t (by omega) (by omega) f13 f14) rfl (by decide) (by decide) (by decide) (by decide) f16 (argsL := [(.int (Int32.ofNat J)), (.long p4)]) (rest := []) rfl (by rw [hml]; rfl) (lenOf pd__28IJ_29V rfl) rfl rfl (by show 2 * 0 + _ ≤ _; exact Nat.le_of_eq rfl) (hb hby at_58) ?_
  rintro _ T15 L15 X15 ⟨rfl, N15, K15, V15⟩
  have N17 := Fr.app N11 N15
  have Z18 : n0 ≤ T15.heap.size := Nat.le_trans Z12 K15.1
  show Go p e below _ T15 (mkF m 61 #[iv p0, iv p1, iv p2, jv p3, .second, jv p4, .second, iv (Int32.ofNat N), iv (Int32.ofNat I), iv (Int32.ofNat J), iv (Int32.ofNat (N / 10)), rv b1, .unset, .unset, .unset, .unset, .unset, .unset, .unset, .unset, .unset, .unset, .unset, .unset, .unset, .unset, .unset] [])
  refine Go.st (T' := T15) (g' := (mkF m 65 #[iv p0, iv p1, iv p2, jv p3, .second, jv p4, .second, iv (Int32.ofNat N), iv (Int32.ofNat I), iv (Int32.ofNat J), iv (Int32.ofNat (N / 10)), rv b1, .unset, .unset, .unset, .unset, .unset, .unset, .unset, .unset, .unset, .unset, .unset, .unset, .unset, .unset, .unset] [(.int (Int32.ofNat (N / 10))), (.int (Int32.ofNat I))])) ?_ (fun _ kk_ => XS.iload X15.here hx rfl (hb hby at_61) rfl  (XS.iload X15.here hx rfl (hb hby at_63) rfl  kk_))
  by_cases hi : (Int32.ofNat I) < (Int32.ofNat (N / 10))
  ·
    refine Go.st (T' := T15) (g' := (mkF m 79 #[iv p0, iv p1, iv p2, jv p3, .second, jv p4, .second, iv (Int32.ofNat N), iv (Int32.ofNat I), iv (Int32.ofNat J), iv (Int32.ofNat (N / 10)), rv b1, .unset, .unset, .unset, .unset, .unset, .unset, .unset, .unset, .unset, .unset, .unset, .unset, .unset, .unset, .unset] [])) ?_ (fun _ kk_ => XS.icmpYes X15.here hx rfl (pc0 := 65) (pc' := 79) rfl (hb hby at_65) rfl (tlt (hi : (Int32.ofNat I) < (Int32.ofNat (N / 10)))).1 (by decide) (by decide) kk_)
    have hi2 := (own_lt (show I < 2 ^ 31 by omega) (show N / 10 < 2 ^ 31 by omega)).mp hi
    refine Go.st (T' := T15) (g' := (mkF m 86 #[iv p0, iv p1, iv p2, jv p3, .second, jv p4, .second, iv (Int32.ofNat N), iv (Int32.ofNat I), iv (Int32.ofNat J), iv (Int32.ofNat (N / 10)), rv b1, iv (0 : Int32), .unset, .unset, .unset, .unset, .unset, .unset, .unset, .unset, .unset, .unset, .unset, .unset, .unset, .unset] [(.int (Int32.ofNat (N / 10))), (.int (Int32.ofNat J))])) ?_ (fun _ kk_ => XS.iconst X15.here hx rfl (hb hby at_79) (XS.istore X15.here hx rfl (hb hby at_80) rfl (l' := #[iv p0, iv p1, iv p2, jv p3, .second, jv p4, .second, iv (Int32.ofNat N), iv (Int32.ofNat I), iv (Int32.ofNat J), iv (Int32.ofNat (N / 10)), rv b1, iv (0 : Int32), .unset, .unset, .unset, .unset, .unset, .unset, .unset, .unset, .unset, .unset, .unset, .unset, .unset, .unset]) rfl (XS.iload X15.here hx rfl (hb hby at_82) rfl  (XS.iload X15.here hx rfl (hb hby at_84) rfl  kk_))))
    by_cases hj : (Int32.ofNat J) < (Int32.ofNat (N / 10))
    ·
      refine Go.st (T' := T15) (g' := (mkF m 93 #[iv p0, iv p1, iv p2, jv p3, .second, jv p4, .second, iv (Int32.ofNat N), iv (Int32.ofNat I), iv (Int32.ofNat J), iv (Int32.ofNat (N / 10)), rv b1, iv (0 : Int32), .unset, .unset, .unset, .unset, .unset, .unset, .unset, .unset, .unset, .unset, .unset, .unset, .unset, .unset] [])) ?_ (fun _ kk_ => XS.icmpYes X15.here hx rfl (pc0 := 86) (pc' := 93) rfl (hb hby at_86) rfl (tlt (hj : (Int32.ofNat J) < (Int32.ofNat (N / 10)))).1 (by decide) (by decide) kk_)
      have hj2 := (own_lt (show J < 2 ^ 31 by omega) (show N / 10 < 2 ^ 31 by omega)).mp hj
      refine Go.st (T' := T15) (g' := (mkF m 101 #[iv p0, iv p1, iv p2, jv p3, .second, jv p4, .second, iv (Int32.ofNat N), iv (Int32.ofNat I), iv (Int32.ofNat J), iv (Int32.ofNat (N / 10)), rv b1, iv (0 : Int32), iv (0 : Int32), .unset, .unset, .unset, .unset, .unset, .unset, .unset, .unset, .unset, .unset, .unset, .unset, .unset] [(.int ((Int32.ofNat N) - (Int32.ofNat (N / 10))))])) ?_ (fun _ kk_ => XS.iconst X15.here hx rfl (hb hby at_93) (XS.istore X15.here hx rfl (hb hby at_94) rfl (l' := #[iv p0, iv p1, iv p2, jv p3, .second, jv p4, .second, iv (Int32.ofNat N), iv (Int32.ofNat I), iv (Int32.ofNat J), iv (Int32.ofNat (N / 10)), rv b1, iv (0 : Int32), iv (0 : Int32), .unset, .unset, .unset, .unset, .unset, .unset, .unset, .unset, .unset, .unset, .unset, .unset, .unset]) rfl (XS.iload X15.here hx rfl (hb hby at_96) rfl  (XS.iload X15.here hx rfl (hb hby at_98) rfl  (XS.isub X15.here hx rfl (hb hby at_100) rfl kk_)))))
      rw [show Int32.ofNat N - Int32.ofNat (N / 10) = Int32.ofNat (N - N / 10) from own_sub (by omega)]
      show Go p e below _ T15 (mkF m 101 #[iv p0, iv p1, iv p2, jv p3, .second, jv p4, .second, iv (Int32.ofNat N), iv (Int32.ofNat I), iv (Int32.ofNat J), iv (Int32.ofNat (N / 10)), rv b1, iv (0 : Int32), iv (0 : Int32), .unset, .unset, .unset, .unset, .unset, .unset, .unset, .unset, .unset, .unset, .unset, .unset, .unset] [(.int (Int32.ofNat (N - N / 10)))])
      refine Go.st (T' := T15) (g' := (mkF m 130 #[iv p0, iv p1, iv p2, jv p3, .second, jv p4, .second, iv (Int32.ofNat N), iv (Int32.ofNat I), iv (Int32.ofNat J), iv (Int32.ofNat (N / 10)), rv b1, iv (0 : Int32), iv (0 : Int32), iv (Int32.ofNat (N - N / 10)), iv (0 : Int32), .unset, .unset, .unset, .unset, .unset, .unset, .unset, .unset, .unset, .unset, .unset] [(.int (0 : Int32)), (.int (Int32.ofNat (N - N / 10)))])) ?_ (fun _ kk_ => XS.istore X15.here hx rfl (hb hby at_101) rfl (l' := #[iv p0, iv p1, iv p2, jv p3, .second, jv p4, .second, iv (Int32.ofNat N), iv (Int32.ofNat I), iv (Int32.ofNat J), iv (Int32.ofNat (N / 10)), rv b1, iv (0 : Int32), iv (0 : Int32), iv (Int32.ofNat (N - N / 10)), .unset, .unset, .unset, .unset, .unset, .unset, .unset, .unset, .unset, .unset, .unset, .unset]) rfl (XS.iload X15.here hx rfl (hb hby at_103) rfl  (XS.ifYes X15.here hx rfl (pc0 := 105) (pc' := 112) rfl (hb hby at_105) rfl ((if0 _ _).trans (teq ((by decide) : (0 : Int32) = (0 : Int32))).1) (by decide) (by decide) (XS.iconst X15.here hx rfl (hb hby at_112) (XS.iload X15.here hx rfl (hb hby at_113) rfl  (XS.ifYes X15.here hx rfl (pc0 := 115) (pc' := 122) rfl (hb hby at_115) rfl ((if0 _ _).trans (teq ((by decide) : (0 : Int32) = (0 : Int32))).1) (by decide) (by decide) (XS.iconst X15.here hx rfl (hb hby at_122) (XS.iadd X15.here hx rfl (hb hby at_123) rfl (XS.istore X15.here hx rfl (hb hby at_124) rfl (l' := #[iv p0, iv p1, iv p2, jv p3, .second, jv p4, .second, iv (Int32.ofNat N), iv (Int32.ofNat I), iv (Int32.ofNat J), iv (Int32.ofNat (N / 10)), rv b1, iv (0 : Int32), iv (0 : Int32), iv (Int32.ofNat (N - N / 10)), iv (0 : Int32), .unset, .unset, .unset, .unset, .unset, .unset, .unset, .unset, .unset, .unset, .unset]) rfl (XS.iload X15.here hx rfl (hb hby at_126) rfl  (XS.iload X15.here hx rfl (hb hby at_128) rfl  kk_)))))))))))
      by_cases hz : (0 : Int32) < (Int32.ofNat (N - N / 10))
      ·
        refine Go.st (T' := T15) (g' := (mkF m 133 #[iv p0, iv p1, iv p2, jv p3, .second, jv p4, .second, iv (Int32.ofNat N), iv (Int32.ofNat I), iv (Int32.ofNat J), iv (Int32.ofNat (N / 10)), rv b1, iv (0 : Int32), iv (0 : Int32), iv (Int32.ofNat (N - N / 10)), iv (0 : Int32), .unset, .unset, .unset, .unset, .unset, .unset, .unset, .unset, .unset, .unset, .unset] [])) ?_ (fun _ kk_ => XS.icmpNo X15.here hx rfl (hb hby at_130) rfl (tlt (hz : (0 : Int32) < (Int32.ofNat (N - N / 10)))).2.2.2 kk_)
        have hz2 : 0 < N - N / 10 := (own_lt (i := 0) (by decide) (by omega)).mp hz
        refine Go.st (T' := T15) (g' := (mkF m 172 #[iv p0, iv p1, iv p2, jv p3, .second, jv p4, .second, iv (Int32.ofNat N), iv (Int32.ofNat I), iv (Int32.ofNat J), iv (Int32.ofNat (N / 10)), rv b1, iv (0 : Int32), iv (0 : Int32), iv (Int32.ofNat (N - N / 10)), iv (0 : Int32), iv (1 : Int32), jv (0 : Int64), .second, jv (0 : Int64), .second, jv (0 : Int64), .second, .unset, .unset, .unset, .unset] [(.int (1 : Int32))])) ?_ (fun _ kk_ => XS.iconst X15.here hx rfl (hb hby at_133) (XS.goto X15.here hx rfl (pc0 := 134) (pc' := 138) rfl (hb hby at_134) (by decide) (by decide) (XS.istore X15.here hx rfl (hb hby at_138) rfl (l' := #[iv p0, iv p1, iv p2, jv p3, .second, jv p4, .second, iv (Int32.ofNat N), iv (Int32.ofNat I), iv (Int32.ofNat J), iv (Int32.ofNat (N / 10)), rv b1, iv (0 : Int32), iv (0 : Int32), iv (Int32.ofNat (N - N / 10)), iv (0 : Int32), iv (1 : Int32), .unset, .unset, .unset, .unset, .unset, .unset, .unset, .unset, .unset, .unset]) rfl (XS.iload X15.here hx rfl (hb hby at_140) rfl  (XS.ifYes X15.here hx rfl (pc0 := 142) (pc' := 150) rfl (hb hby at_142) rfl ((if0 _ _).trans (teq ((by decide) : (0 : Int32) = (0 : Int32))).1) (by decide) (by decide) (XS.iload X15.here hx rfl (hb hby at_150) rfl  (XS.ifYes X15.here hx rfl (pc0 := 152) (pc' := 159) rfl (hb hby at_152) rfl ((if0 _ _).trans (teq ((by decide) : (0 : Int32) = (0 : Int32))).1) (by decide) (by decide) (XS.lconst X15.here hx rfl (hb hby at_159) (XS.lstore X15.here hx rfl (hb hby at_160) rfl (l' := #[iv p0, iv p1, iv p2, jv p3, .second, jv p4, .second, iv (Int32.ofNat N), iv (Int32.ofNat I), iv (Int32.ofNat J), iv (Int32.ofNat (N / 10)), rv b1, iv (0 : Int32), iv (0 : Int32), iv (Int32.ofNat (N - N / 10)), iv (0 : Int32), iv (1 : Int32), jv (0 : Int64), .second, .unset, .unset, .unset, .unset, .unset, .unset, .unset, .unset]) rfl (XS.lload X15.here hx rfl (hb hby at_162) rfl  (XS.lstore X15.here hx rfl (hb hby at_164) rfl (l' := #[iv p0, iv p1, iv p2, jv p3, .second, jv p4, .second, iv (Int32.ofNat N), iv (Int32.ofNat I), iv (Int32.ofNat J), iv (Int32.ofNat (N / 10)), rv b1, iv (0 : Int32), iv (0 : Int32), iv (Int32.ofNat (N - N / 10)), iv (0 : Int32), iv (1 : Int32), jv (0 : Int64), .second, jv (0 : Int64), .second, .unset, .unset, .unset, .unset, .unset, .unset]) rfl (XS.lload X15.here hx rfl (hb hby at_166) rfl  (XS.lstore X15.here hx rfl (hb hby at_168) rfl (l' := #[iv p0, iv p1, iv p2, jv p3, .second, jv p4, .second, iv (Int32.ofNat N), iv (Int32.ofNat I), iv (Int32.ofNat J), iv (Int32.ofNat (N / 10)), rv b1, iv (0 : Int32), iv (0 : Int32), iv (Int32.ofNat (N - N / 10)), iv (0 : Int32), iv (1 : Int32), jv (0 : Int64), .second, jv (0 : Int64), .second, jv (0 : Int64), .second, .unset, .unset, .unset, .unset]) rfl (XS.iload X15.here hx rfl (hb hby at_170) rfl  kk_))))))))))))))
        refine Go.st (T' := T15) (g' := (mkF m 178 #[iv p0, iv p1, iv p2, jv p3, .second, jv p4, .second, iv (Int32.ofNat N), iv (Int32.ofNat I), iv (Int32.ofNat J), iv (Int32.ofNat (N / 10)), rv b1, iv (0 : Int32), iv (0 : Int32), iv (Int32.ofNat (N - N / 10)), iv (0 : Int32), iv (1 : Int32), jv (0 : Int64), .second, jv (0 : Int64), .second, jv (0 : Int64), .second, .unset, .unset, .unset, .unset] [(.long (0 : Int64)), (.long (0 : Int64))])) ?_ (fun _ kk_ => XS.ifNo X15.here hx rfl (hb hby at_172) rfl ((if0 _ _).trans (feq ((by decide) : ¬ ((1 : Int32) = (0 : Int32)))).1) (XS.lload X15.here hx rfl (hb hby at_175) rfl  (XS.lconst X15.here hx rfl (hb hby at_177) kk_)))
        refine Go.callS (y := (⟨"java/lang/Math", "min", "(JJ)J"⟩ : MethodName)) X15 hx hZ hown (hw _ (List.mem_of_getElem? (i := 24) rfl)) (hw _ (List.mem_of_getElem? (i := 25) rfl)) (hw _ (List.mem_of_getElem? (i := 12) rfl)) (hw _ (List.mem_of_getElem? (i := 26) rfl)) (by decide) 0 (rm_mnJ l Z a0 hw [] (0 : Int64) (0 : Int64) T15.heap) rfl (by decide) (by decide) (by decide) (by decide) (argsL := [(.long (0 : Int64)), (.long (0 : Int64))]) (rest := []) rfl (by rw [hml]; rfl) (lenOf pd__28JJ_29J rfl) rfl rfl (by show 2 * 0 + _ ≤ _; exact Nat.le_of_eq rfl) (hb hby at_178) ?_
        rintro _ T19 L19 X19 ⟨rfl, e19, rfl⟩
        have N20 := Fr.app N17 (Fr.nil _)
        show Go p e below _ T19 (mkF m 181 #[iv p0, iv p1, iv p2, jv p3, .second, jv p4, .second, iv (Int32.ofNat N), iv (Int32.ofNat I), iv (Int32.ofNat J), iv (Int32.ofNat (N / 10)), rv b1, iv (0 : Int32), iv (0 : Int32), iv (Int32.ofNat (N - N / 10)), iv (0 : Int32), iv (1 : Int32), jv (0 : Int64), .second, jv (0 : Int64), .second, jv (0 : Int64), .second, .unset, .unset, .unset, .unset] [(.long (mnJ (0 : Int64) (0 : Int64)))])
        refine Go.st (T' := T19) (g' := (mkF m 186 #[iv p0, iv p1, iv p2, jv p3, .second, jv p4, .second, iv (Int32.ofNat N), iv (Int32.ofNat I), iv (Int32.ofNat J), iv (Int32.ofNat (N / 10)), rv b1, iv (0 : Int32), iv (0 : Int32), iv (Int32.ofNat (N - N / 10)), iv (0 : Int32), iv (1 : Int32), jv (0 : Int64), .second, jv (mnJ (0 : Int64) (0 : Int64)), .second, jv (0 : Int64), .second, .unset, .unset, .unset, .unset] [(.long (0 : Int64)), (.long (0 : Int64))])) ?_ (fun _ kk_ => XS.lstore X19.here hx rfl (hb hby at_181) rfl (l' := #[iv p0, iv p1, iv p2, jv p3, .second, jv p4, .second, iv (Int32.ofNat N), iv (Int32.ofNat I), iv (Int32.ofNat J), iv (Int32.ofNat (N / 10)), rv b1, iv (0 : Int32), iv (0 : Int32), iv (Int32.ofNat (N - N / 10)), iv (0 : Int32), iv (1 : Int32), jv (0 : Int64), .second, jv (mnJ (0 : Int64) (0 : Int64)), .second, jv (0 : Int64), .second, .unset, .unset, .unset, .unset]) rfl (XS.lload X19.here hx rfl (hb hby at_183) rfl  (XS.lconst X19.here hx rfl (hb hby at_185) kk_)))
        refine Go.callS (y := (⟨"java/lang/Math", "max", "(JJ)J"⟩ : MethodName)) X19 hx hZ hown (hw _ (List.mem_of_getElem? (i := 27) rfl)) (hw _ (List.mem_of_getElem? (i := 28) rfl)) (hw _ (List.mem_of_getElem? (i := 12) rfl)) (hw _ (List.mem_of_getElem? (i := 29) rfl)) (by decide) 0 (rm_mxJ l Z a0 hw [] (0 : Int64) (0 : Int64) T15.heap) e19 (by decide) (by decide) (by decide) (by decide) (argsL := [(.long (0 : Int64)), (.long (0 : Int64))]) (rest := []) rfl (by rw [hml]; rfl) (lenOf pd__28JJ_29J rfl) rfl rfl (by show 2 * 0 + _ ≤ _; exact Nat.le_of_eq rfl) (hb hby at_186) ?_
        rintro _ T21 L21 X21 ⟨rfl, e21, rfl⟩
        have N22 := Fr.app N20 (Fr.nil _)
        show Go p e below _ T21 (mkF m 189 #[iv p0, iv p1, iv p2, jv p3, .second, jv p4, .second, iv (Int32.ofNat N), iv (Int32.ofNat I), iv (Int32.ofNat J), iv (Int32.ofNat (N / 10)), rv b1, iv (0 : Int32), iv (0 : Int32), iv (Int32.ofNat (N - N / 10)), iv (0 : Int32), iv (1 : Int32), jv (0 : Int64), .second, jv (mnJ (0 : Int64) (0 : Int64)), .second, jv (0 : Int64), .second, .unset, .unset, .unset, .unset] [(.long (mxJ (0 : Int64) (0 : Int64)))])
        refine Go.st (T' := T21) (g' := (mkF m 238 #[iv p0, iv p1, iv p2, jv p3, .second, jv p4, .second, iv (Int32.ofNat N), iv (Int32.ofNat I), iv (Int32.ofNat J), iv (Int32.ofNat (N / 10)), rv b1, iv (0 : Int32), iv (0 : Int32), iv (Int32.ofNat (N - N / 10)), iv (0 : Int32), iv (1 : Int32), jv (0 : Int64), .second, jv (mnJ (0 : Int64) (0 : Int64)), .second, jv (mxJ (0 : Int64) (0 : Int64)), .second, .unset, .unset, .unset, .unset] [(.int (1 : Int32)), (.ref b1)])) ?_ (fun _ kk_ => XS.lstore X21.here hx rfl (hb hby at_189) rfl (l' := #[iv p0, iv p1, iv p2, jv p3, .second, jv p4, .second, iv (Int32.ofNat N), iv (Int32.ofNat I), iv (Int32.ofNat J), iv (Int32.ofNat (N / 10)), rv b1, iv (0 : Int32), iv (0 : Int32), iv (Int32.ofNat (N - N / 10)), iv (0 : Int32), iv (1 : Int32), jv (0 : Int64), .second, jv (mnJ (0 : Int64) (0 : Int64)), .second, jv (mxJ (0 : Int64) (0 : Int64)), .second, .unset, .unset, .unset, .unset]) rfl (XS.iload X21.here hx rfl (hb hby at_191) rfl  (XS.ifYes X21.here hx rfl (pc0 := 193) (pc' := 212) rfl (hb hby at_193) rfl ((if0 _ _).trans (teq ((by decide) : (0 : Int32) = (0 : Int32))).1) (by decide) (by decide) (XS.iload X21.here hx rfl (hb hby at_212) rfl  (XS.ifYes X21.here hx rfl (pc0 := 214) (pc' := 235) rfl (hb hby at_214) rfl ((if0 _ _).trans (teq ((by decide) : (0 : Int32) = (0 : Int32))).1) (by decide) (by decide) (XS.aload X21.here hx rfl (hb hby at_235) rfl rfl  (XS.iconst X21.here hx rfl (hb hby at_237) kk_)))))))
        have f23 := (f16.keep K15)
        have f24 := (f14.keep K15 (ninS ne_bt nin0))
        have f25 := ((Fs6.keep K9 (ninS ne_bt nin0)).keep K15 (ninS ne_bt nin0))
        refine Go.callV (y := (⟨"com/example/libdgram/libdgram/cli/Latencies", "percentile", "(I)J"⟩ : MethodName)) (z := (⟨"com/example/libdgram/libdgram/cli/Latencies", "percentile", "(I)J"⟩ : MethodName)) X21 hx hZ hown (hw _ (List.mem_of_getElem? (i := 30) rfl)) (hw _ (List.mem_of_getElem? (i := 31) rfl)) (notFace_of_selects (args := #[]) (mvT hZ (hw _ (List.mem_of_getElem? (i := 33) rfl)))) (hw _ (List.mem_of_getElem? (i := 33) rfl)) (hw _ (List.mem_of_getElem? (i := 32) rfl)) (hw _ (List.mem_of_getElem? (i := 3) rfl)) (hw _ (List.mem_of_getElem? (i := 34) rfl)) (by decide) 0 (rm_pe1 l Z a0 hw [] b1 t (N - N / 10) (fS (N / 10) J p4 (fS (N / 10) I p3 (fun _ => 0))) n0 T15.heap Z18 (by omega) V15 g_t (by omega) f23 f24 f25 g_b1 ne_bt) e21 (by decide) (by decide) (by decide) (by decide) f23 (argsL := [(.int (1 : Int32))]) (rest := []) rfl (by rw [hml]; rfl) (lenOf pd__28I_29J rfl) rfl rfl (by show 2 * 0 + _ ≤ _; exact Nat.le_of_eq rfl) (hb hby at_238) ?_
        rintro _ T26 L26 X26 ⟨N26, K26, Fs26, Fn26, f', S26, rfl, V26⟩
        have N27 := Fr.app N22 N26
        have Z28 : n0 ≤ T26.heap.size := Nat.le_trans Z18 K26.1
        show Go p e below _ T26 (mkF m 241 #[iv p0, iv p1, iv p2, jv p3, .second, jv p4, .second, iv (Int32.ofNat N), iv (Int32.ofNat I), iv (Int32.ofNat J), iv (Int32.ofNat (N / 10)), rv b1, iv (0 : Int32), iv (0 : Int32), iv (Int32.ofNat (N - N / 10)), iv (0 : Int32), iv (1 : Int32), jv (0 : Int64), .second, jv (mnJ (0 : Int64) (0 : Int64)), .second, jv (mxJ (0 : Int64) (0 : Int64)), .second, .unset, .unset, .unset, .unset] [(.long (f' 0))])
        refine Go.st (T' := T26) (g' := (mkF m 247 #[iv p0, iv p1, iv p2, jv p3, .second, jv p4, .second, iv (Int32.ofNat N), iv (Int32.ofNat I), iv (Int32.ofNat J), iv (Int32.ofNat (N / 10)), rv b1, iv (0 : Int32), iv (0 : Int32), iv (Int32.ofNat (N - N / 10)), iv (0 : Int32), iv (1 : Int32), jv (0 : Int64), .second, jv (mnJ (0 : Int64) (0 : Int64)), .second, jv (mxJ (0 : Int64) (0 : Int64)), .second, jv (f' 0), .second, .unset, .unset] [(.int (100 : Int32)), (.ref b1)])) ?_ (fun _ kk_ => XS.lstore X26.here hx rfl (hb hby at_241) rfl (l' := #[iv p0, iv p1, iv p2, jv p3, .second, jv p4, .second, iv (Int32.ofNat N), iv (Int32.ofNat I), iv (Int32.ofNat J), iv (Int32.ofNat (N / 10)), rv b1, iv (0 : Int32), iv (0 : Int32), iv (Int32.ofNat (N - N / 10)), iv (0 : Int32), iv (1 : Int32), jv (0 : Int64), .second, jv (mnJ (0 : Int64) (0 : Int64)), .second, jv (mxJ (0 : Int64) (0 : Int64)), .second, jv (f' 0), .second, .unset, .unset]) rfl (XS.aload X26.here hx rfl (hb hby at_243) rfl rfl  (XS.bipush X26.here hx rfl (hb hby at_245) kk_)))
        have f30 := (f23.keep K26)
        refine Go.callV (y := (⟨"com/example/libdgram/libdgram/cli/Latencies", "percentile", "(I)J"⟩ : MethodName)) (z := (⟨"com/example/libdgram/libdgram/cli/Latencies", "percentile", "(I)J"⟩ : MethodName)) X26 hx hZ hown (hw _ (List.mem_of_getElem? (i := 30) rfl)) (hw _ (List.mem_of_getElem? (i := 31) rfl)) (notFace_of_selects (args := #[]) (mvT hZ (hw _ (List.mem_of_getElem? (i := 33) rfl)))) (hw _ (List.mem_of_getElem? (i := 33) rfl)) (hw _ (List.mem_of_getElem? (i := 32) rfl)) (hw _ (List.mem_of_getElem? (i := 3) rfl)) (hw _ (List.mem_of_getElem? (i := 34) rfl)) (by decide) 0 (rm_pe2 l Z a0 hw [] b1 t (N - N / 10) f' T26.heap (by omega) V26 (by omega) Fn26 Fs26) rfl (by decide) (by decide) (by decide) (by decide) f30 (argsL := [(.int (100 : Int32))]) (rest := []) rfl (by rw [hml]; rfl) (lenOf pd__28I_29J rfl) rfl rfl (by show 2 * 0 + _ ≤ _; exact Nat.le_of_eq rfl) (hb hby at_247) ?_
        rintro _ T29 L29 X29 ⟨rfl, e29, rfl⟩
        have N31 := Fr.app N27 (Fr.nil _)
        show Go p e below _ T29 (mkF m 250 #[iv p0, iv p1, iv p2, jv p3, .second, jv p4, .second, iv (Int32.ofNat N), iv (Int32.ofNat I), iv (Int32.ofNat J), iv (Int32.ofNat (N / 10)), rv b1, iv (0 : Int32), iv (0 : Int32), iv (Int32.ofNat (N - N / 10)), iv (0 : Int32), iv (1 : Int32), jv (0 : Int64), .second, jv (mnJ (0 : Int64) (0 : Int64)), .second, jv (mxJ (0 : Int64) (0 : Int64)), .second, jv (f' 0), .second, .unset, .unset] [(.long (f' (N - N / 10 - 1)))])
        have hv1 : ∀ y ∈ [(0 : Int64), (0 : Int64)], ∃ q, q < N - N / 10 ∧ (fS (N / 10) J p4 (fS (N / 10) I p3 (fun _ => 0))) q = y := by
          intro y hy
          simp only [List.mem_cons, List.not_mem_nil, or_false] at hy
          rcases hy with h | h
          · obtain ⟨r, r1⟩ : ∃ r, r < N - N / 10 := ⟨0, by omega⟩
            exact ⟨r, r1, by unfold fS; rw [if_neg (by omega), if_neg (by omega), h]⟩
          · obtain ⟨r, r1⟩ : ∃ r, r < N - N / 10 := ⟨0, by omega⟩
            exact ⟨r, r1, by unfold fS; rw [if_neg (by omega), if_neg (by omega), h]⟩
        have hv2 : ∀ q, q < N - N / 10 → (fS (N / 10) J p4 (fS (N / 10) I p3 (fun _ => 0))) q ∈ [(0 : Int64), (0 : Int64)] := fun q hq => by unfold fS; split <;> (try split) <;> first | (simp; done) | (exfalso; omega)
        have hlo : f' 0 = (mnJ (0 : Int64) (0 : Int64)) := own_low1 (own_low S26 (by omega)) (own_LowL hv1 hv2 (LowL.mn (LowL.one (0 : Int64)) (0 : Int64)))
        have hhi : f' (N - N / 10 - 1) = (mxJ (0 : Int64) (0 : Int64)) := own_hig1 (own_hig S26 (by omega)) (own_HigL hv1 hv2 (HigL.mx (HigL.one (0 : Int64)) (0 : Int64)))
        refine Go.st (T' := T29) (g' := (mkF m 273 #[iv p0, iv p1, iv p2, jv p3, .second, jv p4, .second, iv (Int32.ofNat N), iv (Int32.ofNat I), iv (Int32.ofNat J), iv (Int32.ofNat (N / 10)), rv b1, iv (0 : Int32), iv (0 : Int32), iv (Int32.ofNat (N - N / 10)), iv (0 : Int32), iv (1 : Int32), jv (0 : Int64), .second, jv (mnJ (0 : Int64) (0 : Int64)), .second, jv (mxJ (0 : Int64) (0 : Int64)), .second, jv (f' 0), .second, jv (f' (N - N / 10 - 1)), .second] [(.int (1 : Int32))])) ?_ (fun _ kk_ => XS.lstore X29.here hx rfl (hb hby at_250) rfl (l' := #[iv p0, iv p1, iv p2, jv p3, .second, jv p4, .second, iv (Int32.ofNat N), iv (Int32.ofNat I), iv (Int32.ofNat J), iv (Int32.ofNat (N / 10)), rv b1, iv (0 : Int32), iv (0 : Int32), iv (Int32.ofNat (N - N / 10)), iv (0 : Int32), iv (1 : Int32), jv (0 : Int64), .second, jv (mnJ (0 : Int64) (0 : Int64)), .second, jv (mxJ (0 : Int64) (0 : Int64)), .second, jv (f' 0), .second, jv (f' (N - N / 10 - 1)), .second]) rfl (XS.lload X29.here hx rfl (hb hby at_252) rfl  (XS.lload X29.here hx rfl (hb hby at_254) rfl  (XS.lcmp X29.here hx rfl (hb hby at_256) rfl (XS.ifNo X29.here hx rfl (hb hby at_257) rfl ((if0 _ _).trans (teq (((lw_eq _ _).mpr hlo) : (lcmpW (f' 0) (mnJ (0 : Int64) (0 : Int64))) = (0 : Int32))).2) (XS.lload X29.here hx rfl (hb hby at_260) rfl  (XS.lload X29.here hx rfl (hb hby at_262) rfl  (XS.lcmp X29.here hx rfl (hb hby at_264) rfl (XS.ifNo X29.here hx rfl (hb hby at_265) rfl ((if0 _ _).trans (teq (((lw_eq _ _).mpr hhi) : (lcmpW (f' (N - N / 10 - 1)) (mxJ (0 : Int64) (0 : Int64))) = (0 : Int32))).2) (XS.iconst X29.here hx rfl (hb hby at_268) (XS.goto X29.here hx rfl (pc0 := 269) (pc' := 273) rfl (hb hby at_269) (by decide) (by decide) kk_)))))))))))
        refine Go.retN X29 hx hlk (t := .boolean) hret (by simp) (z' := (1 : Int32)) rfl (hb hby at_273) (by decide) (by decide) ?_
        try rw [e29]
        exact ⟨rfl, N31⟩
      ·
        refine Go.st (T' := T15) (g' := (mkF m 137 #[iv p0, iv p1, iv p2, jv p3, .second, jv p4, .second, iv (Int32.ofNat N), iv (Int32.ofNat I), iv (Int32.ofNat J), iv (Int32.ofNat (N / 10)), rv b1, iv (0 : Int32), iv (0 : Int32), iv (Int32.ofNat (N - N / 10)), iv (0 : Int32), .unset, .unset, .unset, .unset, .unset, .unset, .unset, .unset, .unset, .unset, .unset] [])) ?_ (fun _ kk_ => XS.icmpYes X15.here hx rfl (pc0 := 130) (pc' := 137) rfl (hb hby at_130) rfl (flt (hz : ¬ ((0 : Int32) < (Int32.ofNat (N - N / 10))))).2.2.2 (by decide) (by decide) kk_)
        have hz2 : ¬ (0 < N - N / 10) := fun z => hz ((own_lt (i := 0) (by decide) (by omega)).mpr z)
        refine Go.st (T' := T15) (g' := (mkF m 191 #[iv p0, iv p1, iv p2, jv p3, .second, jv p4, .second, iv (Int32.ofNat N), iv (Int32.ofNat I), iv (Int32.ofNat J), iv (Int32.ofNat (N / 10)), rv b1, iv (0 : Int32), iv (0 : Int32), iv (Int32.ofNat (N - N / 10)), iv (0 : Int32), iv (0 : Int32), jv (0 : Int64), .second, jv (0 : Int64), .second, jv (0 : Int64), .second, .unset, .unset, .unset, .unset] [])) ?_ (fun _ kk_ => XS.iconst X15.here hx rfl (hb hby at_137) (XS.istore X15.here hx rfl (hb hby at_138) rfl (l' := #[iv p0, iv p1, iv p2, jv p3, .second, jv p4, .second, iv (Int32.ofNat N), iv (Int32.ofNat I), iv (Int32.ofNat J), iv (Int32.ofNat (N / 10)), rv b1, iv (0 : Int32), iv (0 : Int32), iv (Int32.ofNat (N - N / 10)), iv (0 : Int32), iv (0 : Int32), .unset, .unset, .unset, .unset, .unset, .unset, .unset, .unset, .unset, .unset]) rfl (XS.iload X15.here hx rfl (hb hby at_140) rfl  (XS.ifYes X15.here hx rfl (pc0 := 142) (pc' := 150) rfl (hb hby at_142) rfl ((if0 _ _).trans (teq ((by decide) : (0 : Int32) = (0 : Int32))).1) (by decide) (by decide) (XS.iload X15.here hx rfl (hb hby at_150) rfl  (XS.ifYes X15.here hx rfl (pc0 := 152) (pc' := 159) rfl (hb hby at_152) rfl ((if0 _ _).trans (teq ((by decide) : (0 : Int32) = (0 : Int32))).1) (by decide) (by decide) (XS.lconst X15.here hx rfl (hb hby at_159) (XS.lstore X15.here hx rfl (hb hby at_160) rfl (l' := #[iv p0, iv p1, iv p2, jv p3, .second, jv p4, .second, iv (Int32.ofNat N), iv (Int32.ofNat I), iv (Int32.ofNat J), iv (Int32.ofNat (N / 10)), rv b1, iv (0 : Int32), iv (0 : Int32), iv (Int32.ofNat (N - N / 10)), iv (0 : Int32), iv (0 : Int32), jv (0 : Int64), .second, .unset, .unset, .unset, .unset, .unset, .unset, .unset, .unset]) rfl (XS.lload X15.here hx rfl (hb hby at_162) rfl  (XS.lstore X15.here hx rfl (hb hby at_164) rfl (l' := #[iv p0, iv p1, iv p2, jv p3, .second, jv p4, .second, iv (Int32.ofNat N), iv (Int32.ofNat I), iv (Int32.ofNat J), iv (Int32.ofNat (N / 10)), rv b1, iv (0 : Int32), iv (0 : Int32), iv (Int32.ofNat (N - N / 10)), iv (0 : Int32), iv (0 : Int32), jv (0 : Int64), .second, jv (0 : Int64), .second, .unset, .unset, .unset, .unset, .unset, .unset]) rfl (XS.lload X15.here hx rfl (hb hby at_166) rfl  (XS.lstore X15.here hx rfl (hb hby at_168) rfl (l' := #[iv p0, iv p1, iv p2, jv p3, .second, jv p4, .second, iv (Int32.ofNat N), iv (Int32.ofNat I), iv (Int32.ofNat J), iv (Int32.ofNat (N / 10)), rv b1, iv (0 : Int32), iv (0 : Int32), iv (Int32.ofNat (N - N / 10)), iv (0 : Int32), iv (0 : Int32), jv (0 : Int64), .second, jv (0 : Int64), .second, jv (0 : Int64), .second, .unset, .unset, .unset, .unset]) rfl (XS.iload X15.here hx rfl (hb hby at_170) rfl  (XS.ifYes X15.here hx rfl (pc0 := 172) (pc' := 191) rfl (hb hby at_172) rfl ((if0 _ _).trans (teq ((by decide) : (0 : Int32) = (0 : Int32))).1) (by decide) (by decide) kk_))))))))))))))
        refine Go.st (T' := T15) (g' := (mkF m 238 #[iv p0, iv p1, iv p2, jv p3, .second, jv p4, .second, iv (Int32.ofNat N), iv (Int32.ofNat I), iv (Int32.ofNat J), iv (Int32.ofNat (N / 10)), rv b1, iv (0 : Int32), iv (0 : Int32), iv (Int32.ofNat (N - N / 10)), iv (0 : Int32), iv (0 : Int32), jv (0 : Int64), .second, jv (0 : Int64), .second, jv (0 : Int64), .second, .unset, .unset, .unset, .unset] [(.int (1 : Int32)), (.ref b1)])) ?_ (fun _ kk_ => XS.iload X15.here hx rfl (hb hby at_191) rfl  (XS.ifYes X15.here hx rfl (pc0 := 193) (pc' := 212) rfl (hb hby at_193) rfl ((if0 _ _).trans (teq ((by decide) : (0 : Int32) = (0 : Int32))).1) (by decide) (by decide) (XS.iload X15.here hx rfl (hb hby at_212) rfl  (XS.ifYes X15.here hx rfl (pc0 := 214) (pc' := 235) rfl (hb hby at_214) rfl ((if0 _ _).trans (teq ((by decide) : (0 : Int32) = (0 : Int32))).1) (by decide) (by decide) (XS.aload X15.here hx rfl (hb hby at_235) rfl rfl  (XS.iconst X15.here hx rfl (hb hby at_237) kk_))))))
        have f32 := (f16.keep K15)
        have f33 := (f14.keep K15 (ninS ne_bt nin0))
        have f34 := ((Fs6.keep K9 (ninS ne_bt nin0)).keep K15 (ninS ne_bt nin0))
        refine Go.callV (y := (⟨"com/example/libdgram/libdgram/cli/Latencies", "percentile", "(I)J"⟩ : MethodName)) (z := (⟨"com/example/libdgram/libdgram/cli/Latencies", "percentile", "(I)J"⟩ : MethodName)) X15 hx hZ hown (hw _ (List.mem_of_getElem? (i := 30) rfl)) (hw _ (List.mem_of_getElem? (i := 31) rfl)) (notFace_of_selects (args := #[]) (mvT hZ (hw _ (List.mem_of_getElem? (i := 33) rfl)))) (hw _ (List.mem_of_getElem? (i := 33) rfl)) (hw _ (List.mem_of_getElem? (i := 32) rfl)) (hw _ (List.mem_of_getElem? (i := 3) rfl)) (hw _ (List.mem_of_getElem? (i := 34) rfl)) (by decide) 0 (rm_pe1 l Z a0 hw [] b1 t (N - N / 10) (fS (N / 10) J p4 (fS (N / 10) I p3 (fun _ => 0))) n0 T15.heap Z18 (by omega) V15 g_t (by omega) f32 f33 f34 g_b1 ne_bt) rfl (by decide) (by decide) (by decide) (by decide) f32 (argsL := [(.int (1 : Int32))]) (rest := []) rfl (by rw [hml]; rfl) (lenOf pd__28I_29J rfl) rfl rfl (by show 2 * 0 + _ ≤ _; exact Nat.le_of_eq rfl) (hb hby at_238) ?_
        rintro _ T35 L35 X35 ⟨N35, K35, Fs35, Fn35, f', S35, rfl, V35⟩
        have N36 := Fr.app N17 N35
        have Z37 : n0 ≤ T35.heap.size := Nat.le_trans Z18 K35.1
        show Go p e below _ T35 (mkF m 241 #[iv p0, iv p1, iv p2, jv p3, .second, jv p4, .second, iv (Int32.ofNat N), iv (Int32.ofNat I), iv (Int32.ofNat J), iv (Int32.ofNat (N / 10)), rv b1, iv (0 : Int32), iv (0 : Int32), iv (Int32.ofNat (N - N / 10)), iv (0 : Int32), iv (0 : Int32), jv (0 : Int64), .second, jv (0 : Int64), .second, jv (0 : Int64), .second, .unset, .unset, .unset, .unset] [(.long (f' 0))])
        refine Go.st (T' := T35) (g' := (mkF m 247 #[iv p0, iv p1, iv p2, jv p3, .second, jv p4, .second, iv (Int32.ofNat N), iv (Int32.ofNat I), iv (Int32.ofNat J), iv (Int32.ofNat (N / 10)), rv b1, iv (0 : Int32), iv (0 : Int32), iv (Int32.ofNat (N - N / 10)), iv (0 : Int32), iv (0 : Int32), jv (0 : Int64), .second, jv (0 : Int64), .second, jv (0 : Int64), .second, jv (f' 0), .second, .unset, .unset] [(.int (100 : Int32)), (.ref b1)])) ?_ (fun _ kk_ => XS.lstore X35.here hx rfl (hb hby at_241) rfl (l' := #[iv p0, iv p1, iv p2, jv p3, .second, jv p4, .second, iv (Int32.ofNat N), iv (Int32.ofNat I), iv (Int32.ofNat J), iv (Int32.ofNat (N / 10)), rv b1, iv (0 : Int32), iv (0 : Int32), iv (Int32.ofNat (N - N / 10)), iv (0 : Int32), iv (0 : Int32), jv (0 : Int64), .second, jv (0 : Int64), .second, jv (0 : Int64), .second, jv (f' 0), .second, .unset, .unset]) rfl (XS.aload X35.here hx rfl (hb hby at_243) rfl rfl  (XS.bipush X35.here hx rfl (hb hby at_245) kk_)))
        have f39 := (f32.keep K35)
        refine Go.callV (y := (⟨"com/example/libdgram/libdgram/cli/Latencies", "percentile", "(I)J"⟩ : MethodName)) (z := (⟨"com/example/libdgram/libdgram/cli/Latencies", "percentile", "(I)J"⟩ : MethodName)) X35 hx hZ hown (hw _ (List.mem_of_getElem? (i := 30) rfl)) (hw _ (List.mem_of_getElem? (i := 31) rfl)) (notFace_of_selects (args := #[]) (mvT hZ (hw _ (List.mem_of_getElem? (i := 33) rfl)))) (hw _ (List.mem_of_getElem? (i := 33) rfl)) (hw _ (List.mem_of_getElem? (i := 32) rfl)) (hw _ (List.mem_of_getElem? (i := 3) rfl)) (hw _ (List.mem_of_getElem? (i := 34) rfl)) (by decide) 0 (rm_pe2 l Z a0 hw [] b1 t (N - N / 10) f' T35.heap (by omega) V35 (by omega) Fn35 Fs35) rfl (by decide) (by decide) (by decide) (by decide) f39 (argsL := [(.int (100 : Int32))]) (rest := []) rfl (by rw [hml]; rfl) (lenOf pd__28I_29J rfl) rfl rfl (by show 2 * 0 + _ ≤ _; exact Nat.le_of_eq rfl) (hb hby at_247) ?_
        rintro _ T38 L38 X38 ⟨rfl, e38, rfl⟩
        have N40 := Fr.app N36 (Fr.nil _)
        show Go p e below _ T38 (mkF m 250 #[iv p0, iv p1, iv p2, jv p3, .second, jv p4, .second, iv (Int32.ofNat N), iv (Int32.ofNat I), iv (Int32.ofNat J), iv (Int32.ofNat (N / 10)), rv b1, iv (0 : Int32), iv (0 : Int32), iv (Int32.ofNat (N - N / 10)), iv (0 : Int32), iv (0 : Int32), jv (0 : Int64), .second, jv (0 : Int64), .second, jv (0 : Int64), .second, jv (f' 0), .second, .unset, .unset] [(.long (f' (N - N / 10 - 1)))])
        have hv1 : ∀ y ∈ [(0 : Int64)], ∃ q, q < N - N / 10 ∧ (fS (N / 10) J p4 (fS (N / 10) I p3 (fun _ => 0))) q = y := by
          intro y hy
          simp only [List.mem_cons, List.not_mem_nil, or_false] at hy
          have h := hy
          · obtain ⟨r, r1⟩ : ∃ r, r < N - N / 10 := ⟨0, by omega⟩
            exact ⟨r, r1, by unfold fS; rw [if_neg (by omega), if_neg (by omega), h]⟩
        have hv2 : ∀ q, q < N - N / 10 → (fS (N / 10) J p4 (fS (N / 10) I p3 (fun _ => 0))) q ∈ [(0 : Int64)] := fun q hq => by unfold fS; split <;> (try split) <;> first | (simp; done) | (exfalso; omega)
        have hlo : f' 0 = (0 : Int64) := own_low1 (own_low S35 (by omega)) (own_LowL hv1 hv2 (LowL.one (0 : Int64)))
        have hhi : f' (N - N / 10 - 1) = (0 : Int64) := own_hig1 (own_hig S35 (by omega)) (own_HigL hv1 hv2 (HigL.one (0 : Int64)))
        refine Go.st (T' := T38) (g' := (mkF m 273 #[iv p0, iv p1, iv p2, jv p3, .second, jv p4, .second, iv (Int32.ofNat N), iv (Int32.ofNat I), iv (Int32.ofNat J), iv (Int32.ofNat (N / 10)), rv b1, iv (0 : Int32), iv (0 : Int32), iv (Int32.ofNat (N - N / 10)), iv (0 : Int32), iv (0 : Int32), jv (0 : Int64), .second, jv (0 : Int64), .second, jv (0 : Int64), .second, jv (f' 0), .second, jv (f' (N - N / 10 - 1)), .second] [(.int (1 : Int32))])) ?_ (fun _ kk_ => XS.lstore X38.here hx rfl (hb hby at_250) rfl (l' := #[iv p0, iv p1, iv p2, jv p3, .second, jv p4, .second, iv (Int32.ofNat N), iv (Int32.ofNat I), iv (Int32.ofNat J), iv (Int32.ofNat (N / 10)), rv b1, iv (0 : Int32), iv (0 : Int32), iv (Int32.ofNat (N - N / 10)), iv (0 : Int32), iv (0 : Int32), jv (0 : Int64), .second, jv (0 : Int64), .second, jv (0 : Int64), .second, jv (f' 0), .second, jv (f' (N - N / 10 - 1)), .second]) rfl (XS.lload X38.here hx rfl (hb hby at_252) rfl  (XS.lload X38.here hx rfl (hb hby at_254) rfl  (XS.lcmp X38.here hx rfl (hb hby at_256) rfl (XS.ifNo X38.here hx rfl (hb hby at_257) rfl ((if0 _ _).trans (teq (((lw_eq _ _).mpr hlo) : (lcmpW (f' 0) (0 : Int64)) = (0 : Int32))).2) (XS.lload X38.here hx rfl (hb hby at_260) rfl  (XS.lload X38.here hx rfl (hb hby at_262) rfl  (XS.lcmp X38.here hx rfl (hb hby at_264) rfl (XS.ifNo X38.here hx rfl (hb hby at_265) rfl ((if0 _ _).trans (teq (((lw_eq _ _).mpr hhi) : (lcmpW (f' (N - N / 10 - 1)) (0 : Int64)) = (0 : Int32))).2) (XS.iconst X38.here hx rfl (hb hby at_268) (XS.goto X38.here hx rfl (pc0 := 269) (pc' := 273) rfl (hb hby at_269) (by decide) (by decide) kk_)))))))))))
        refine Go.retN X38 hx hlk (t := .boolean) hret (by simp) (z' := (1 : Int32)) rfl (hb hby at_273) (by decide) (by decide) ?_
        try rw [e38]
        exact ⟨rfl, N40⟩
    ·
      refine Go.st (T' := T15) (g' := (mkF m 89 #[iv p0, iv p1, iv p2, jv p3, .second, jv p4, .second, iv (Int32.ofNat N), iv (Int32.ofNat I), iv (Int32.ofNat J), iv (Int32.ofNat (N / 10)), rv b1, iv (0 : Int32), .unset, .unset, .unset, .unset, .unset, .unset, .unset, .unset, .unset, .unset, .unset, .unset, .unset, .unset] [])) ?_ (fun _ kk_ => XS.icmpNo X15.here hx rfl (hb hby at_86) rfl (flt (hj : ¬ ((Int32.ofNat J) < (Int32.ofNat (N / 10))))).1 kk_)
      have hj2 : ¬ J < N / 10 := fun z => hj ((own_lt (show J < 2 ^ 31 by omega) (show N / 10 < 2 ^ 31 by omega)).mpr z)
      refine Go.st (T' := T15) (g' := (mkF m 101 #[iv p0, iv p1, iv p2, jv p3, .second, jv p4, .second, iv (Int32.ofNat N), iv (Int32.ofNat I), iv (Int32.ofNat J), iv (Int32.ofNat (N / 10)), rv b1, iv (0 : Int32), iv (1 : Int32), .unset, .unset, .unset, .unset, .unset, .unset, .unset, .unset, .unset, .unset, .unset, .unset, .unset] [(.int ((Int32.ofNat N) - (Int32.ofNat (N / 10))))])) ?_ (fun _ kk_ => XS.iconst X15.here hx rfl (hb hby at_89) (XS.goto X15.here hx rfl (pc0 := 90) (pc' := 94) rfl (hb hby at_90) (by decide) (by decide) (XS.istore X15.here hx rfl (hb hby at_94) rfl (l' := #[iv p0, iv p1, iv p2, jv p3, .second, jv p4, .second, iv (Int32.ofNat N), iv (Int32.ofNat I), iv (Int32.ofNat J), iv (Int32.ofNat (N / 10)), rv b1, iv (0 : Int32), iv (1 : Int32), .unset, .unset, .unset, .unset, .unset, .unset, .unset, .unset, .unset, .unset, .unset, .unset, .unset]) rfl (XS.iload X15.here hx rfl (hb hby at_96) rfl  (XS.iload X15.here hx rfl (hb hby at_98) rfl  (XS.isub X15.here hx rfl (hb hby at_100) rfl kk_))))))
      rw [show Int32.ofNat N - Int32.ofNat (N / 10) = Int32.ofNat (N - N / 10) from own_sub (by omega)]
      show Go p e below _ T15 (mkF m 101 #[iv p0, iv p1, iv p2, jv p3, .second, jv p4, .second, iv (Int32.ofNat N), iv (Int32.ofNat I), iv (Int32.ofNat J), iv (Int32.ofNat (N / 10)), rv b1, iv (0 : Int32), iv (1 : Int32), .unset, .unset, .unset, .unset, .unset, .unset, .unset, .unset, .unset, .unset, .unset, .unset, .unset] [(.int (Int32.ofNat (N - N / 10)))])
      refine Go.st (T' := T15) (g' := (mkF m 130 #[iv p0, iv p1, iv p2, jv p3, .second, jv p4, .second, iv (Int32.ofNat N), iv (Int32.ofNat I), iv (Int32.ofNat J), iv (Int32.ofNat (N / 10)), rv b1, iv (0 : Int32), iv (1 : Int32), iv (Int32.ofNat (N - N / 10)), iv (1 : Int32), .unset, .unset, .unset, .unset, .unset, .unset, .unset, .unset, .unset, .unset, .unset] [(.int (1 : Int32)), (.int (Int32.ofNat (N - N / 10)))])) ?_ (fun _ kk_ => XS.istore X15.here hx rfl (hb hby at_101) rfl (l' := #[iv p0, iv p1, iv p2, jv p3, .second, jv p4, .second, iv (Int32.ofNat N), iv (Int32.ofNat I), iv (Int32.ofNat J), iv (Int32.ofNat (N / 10)), rv b1, iv (0 : Int32), iv (1 : Int32), iv (Int32.ofNat (N - N / 10)), .unset, .unset, .unset, .unset, .unset, .unset, .unset, .unset, .unset, .unset, .unset, .unset]) rfl (XS.iload X15.here hx rfl (hb hby at_103) rfl  (XS.ifYes X15.here hx rfl (pc0 := 105) (pc' := 112) rfl (hb hby at_105) rfl ((if0 _ _).trans (teq ((by decide) : (0 : Int32) = (0 : Int32))).1) (by decide) (by decide) (XS.iconst X15.here hx rfl (hb hby at_112) (XS.iload X15.here hx rfl (hb hby at_113) rfl  (XS.ifNo X15.here hx rfl (hb hby at_115) rfl ((if0 _ _).trans (feq ((by decide) : ¬ ((1 : Int32) = (0 : Int32)))).1) (XS.iconst X15.here hx rfl (hb hby at_118) (XS.goto X15.here hx rfl (pc0 := 119) (pc' := 123) rfl (hb hby at_119) (by decide) (by decide) (XS.iadd X15.here hx rfl (hb hby at_123) rfl (XS.istore X15.here hx rfl (hb hby at_124) rfl (l' := #[iv p0, iv p1, iv p2, jv p3, .second, jv p4, .second, iv (Int32.ofNat N), iv (Int32.ofNat I), iv (Int32.ofNat J), iv (Int32.ofNat (N / 10)), rv b1, iv (0 : Int32), iv (1 : Int32), iv (Int32.ofNat (N - N / 10)), iv (1 : Int32), .unset, .unset, .unset, .unset, .unset, .unset, .unset, .unset, .unset, .unset, .unset]) rfl (XS.iload X15.here hx rfl (hb hby at_126) rfl  (XS.iload X15.here hx rfl (hb hby at_128) rfl  kk_))))))))))))
      by_cases hz : (1 : Int32) < (Int32.ofNat (N - N / 10))
      ·
        refine Go.st (T' := T15) (g' := (mkF m 133 #[iv p0, iv p1, iv p2, jv p3, .second, jv p4, .second, iv (Int32.ofNat N), iv (Int32.ofNat I), iv (Int32.ofNat J), iv (Int32.ofNat (N / 10)), rv b1, iv (0 : Int32), iv (1 : Int32), iv (Int32.ofNat (N - N / 10)), iv (1 : Int32), .unset, .unset, .unset, .unset, .unset, .unset, .unset, .unset, .unset, .unset, .unset] [])) ?_ (fun _ kk_ => XS.icmpNo X15.here hx rfl (hb hby at_130) rfl (tlt (hz : (1 : Int32) < (Int32.ofNat (N - N / 10)))).2.2.2 kk_)
        have hz2 : 1 < N - N / 10 := (own_lt (i := 1) (by decide) (by omega)).mp hz
        refine Go.st (T' := T15) (g' := (mkF m 175 #[iv p0, iv p1, iv p2, jv p3, .second, jv p4, .second, iv (Int32.ofNat N), iv (Int32.ofNat I), iv (Int32.ofNat J), iv (Int32.ofNat (N / 10)), rv b1, iv (0 : Int32), iv (1 : Int32), iv (Int32.ofNat (N - N / 10)), iv (1 : Int32), iv (1 : Int32), jv p4, .second, jv p4, .second, jv p4, .second, .unset, .unset, .unset, .unset] [])) ?_ (fun _ kk_ => XS.iconst X15.here hx rfl (hb hby at_133) (XS.goto X15.here hx rfl (pc0 := 134) (pc' := 138) rfl (hb hby at_134) (by decide) (by decide) (XS.istore X15.here hx rfl (hb hby at_138) rfl (l' := #[iv p0, iv p1, iv p2, jv p3, .second, jv p4, .second, iv (Int32.ofNat N), iv (Int32.ofNat I), iv (Int32.ofNat J), iv (Int32.ofNat (N / 10)), rv b1, iv (0 : Int32), iv (1 : Int32), iv (Int32.ofNat (N - N / 10)), iv (1 : Int32), iv (1 : Int32), .unset, .unset, .unset, .unset, .unset, .unset, .unset, .unset, .unset, .unset]) rfl (XS.iload X15.here hx rfl (hb hby at_140) rfl  (XS.ifNo X15.here hx rfl (hb hby at_142) rfl ((if0 _ _).trans (feq ((by decide) : ¬ ((1 : Int32) = (0 : Int32)))).1) (XS.lload X15.here hx rfl (hb hby at_145) rfl  (XS.goto X15.here hx rfl (pc0 := 147) (pc' := 160) rfl (hb hby at_147) (by decide) (by decide) (XS.lstore X15.here hx rfl (hb hby at_160) rfl (l' := #[iv p0, iv p1, iv p2, jv p3, .second, jv p4, .second, iv (Int32.ofNat N), iv (Int32.ofNat I), iv (Int32.ofNat J), iv (Int32.ofNat (N / 10)), rv b1, iv (0 : Int32), iv (1 : Int32), iv (Int32.ofNat (N - N / 10)), iv (1 : Int32), iv (1 : Int32), jv p4, .second, .unset, .unset, .unset, .unset, .unset, .unset, .unset, .unset]) rfl (XS.lload X15.here hx rfl (hb hby at_162) rfl  (XS.lstore X15.here hx rfl (hb hby at_164) rfl (l' := #[iv p0, iv p1, iv p2, jv p3, .second, jv p4, .second, iv (Int32.ofNat N), iv (Int32.ofNat I), iv (Int32.ofNat J), iv (Int32.ofNat (N / 10)), rv b1, iv (0 : Int32), iv (1 : Int32), iv (Int32.ofNat (N - N / 10)), iv (1 : Int32), iv (1 : Int32), jv p4, .second, jv p4, .second, .unset, .unset, .unset, .unset, .unset, .unset]) rfl (XS.lload X15.here hx rfl (hb hby at_166) rfl  (XS.lstore X15.here hx rfl (hb hby at_168) rfl (l' := #[iv p0, iv p1, iv p2, jv p3, .second, jv p4, .second, iv (Int32.ofNat N), iv (Int32.ofNat I), iv (Int32.ofNat J), iv (Int32.ofNat (N / 10)), rv b1, iv (0 : Int32), iv (1 : Int32), iv (Int32.ofNat (N - N / 10)), iv (1 : Int32), iv (1 : Int32), jv p4, .second, jv p4, .second, jv p4, .second, .unset, .unset, .unset, .unset]) rfl (XS.iload X15.here hx rfl (hb hby at_170) rfl  (XS.ifNo X15.here hx rfl (hb hby at_172) rfl ((if0 _ _).trans (feq ((by decide) : ¬ ((1 : Int32) = (0 : Int32)))).1) kk_))))))))))))))
        refine Go.st (T' := T15) (g' := (mkF m 178 #[iv p0, iv p1, iv p2, jv p3, .second, jv p4, .second, iv (Int32.ofNat N), iv (Int32.ofNat I), iv (Int32.ofNat J), iv (Int32.ofNat (N / 10)), rv b1, iv (0 : Int32), iv (1 : Int32), iv (Int32.ofNat (N - N / 10)), iv (1 : Int32), iv (1 : Int32), jv p4, .second, jv p4, .second, jv p4, .second, .unset, .unset, .unset, .unset] [(.long (0 : Int64)), (.long p4)])) ?_ (fun _ kk_ => XS.lload X15.here hx rfl (hb hby at_175) rfl  (XS.lconst X15.here hx rfl (hb hby at_177) kk_))
        refine Go.callS (y := (⟨"java/lang/Math", "min", "(JJ)J"⟩ : MethodName)) X15 hx hZ hown (hw _ (List.mem_of_getElem? (i := 24) rfl)) (hw _ (List.mem_of_getElem? (i := 25) rfl)) (hw _ (List.mem_of_getElem? (i := 12) rfl)) (hw _ (List.mem_of_getElem? (i := 26) rfl)) (by decide) 0 (rm_mnJ l Z a0 hw [] p4 (0 : Int64) T15.heap) rfl (by decide) (by decide) (by decide) (by decide) (argsL := [(.long p4), (.long (0 : Int64))]) (rest := []) rfl (by rw [hml]; rfl) (lenOf pd__28JJ_29J rfl) rfl rfl (by show 2 * 0 + _ ≤ _; exact Nat.le_of_eq rfl) (hb hby at_178) ?_
        rintro _ T41 L41 X41 ⟨rfl, e41, rfl⟩
        have N42 := Fr.app N17 (Fr.nil _)
        show Go p e below _ T41 (mkF m 181 #[iv p0, iv p1, iv p2, jv p3, .second, jv p4, .second, iv (Int32.ofNat N), iv (Int32.ofNat I), iv (Int32.ofNat J), iv (Int32.ofNat (N / 10)), rv b1, iv (0 : Int32), iv (1 : Int32), iv (Int32.ofNat (N - N / 10)), iv (1 : Int32), iv (1 : Int32), jv p4, .second, jv p4, .second, jv p4, .second, .unset, .unset, .unset, .unset] [(.long (mnJ p4 (0 : Int64)))])
        refine Go.st (T' := T41) (g' := (mkF m 186 #[iv p0, iv p1, iv p2, jv p3, .second, jv p4, .second, iv (Int32.ofNat N), iv (Int32.ofNat I), iv (Int32.ofNat J), iv (Int32.ofNat (N / 10)), rv b1, iv (0 : Int32), iv (1 : Int32), iv (Int32.ofNat (N - N / 10)), iv (1 : Int32), iv (1 : Int32), jv p4, .second, jv (mnJ p4 (0 : Int64)), .second, jv p4, .second, .unset, .unset, .unset, .unset] [(.long (0 : Int64)), (.long p4)])) ?_ (fun _ kk_ => XS.lstore X41.here hx rfl (hb hby at_181) rfl (l' := #[iv p0, iv p1, iv p2, jv p3, .second, jv p4, .second, iv (Int32.ofNat N), iv (Int32.ofNat I), iv (Int32.ofNat J), iv (Int32.ofNat (N / 10)), rv b1, iv (0 : Int32), iv (1 : Int32), iv (Int32.ofNat (N - N / 10)), iv (1 : Int32), iv (1 : Int32), jv p4, .second, jv (mnJ p4 (0 : Int64)), .second, jv p4, .second, .unset, .unset, .unset, .unset]) rfl (XS.lload X41.here hx rfl (hb hby at_183) rfl  (XS.lconst X41.here hx rfl (hb hby at_185) kk_)))
        refine Go.callS (y := (⟨"java/lang/Math", "max", "(JJ)J"⟩ : MethodName)) X41 hx hZ hown (hw _ (List.mem_of_getElem? (i := 27) rfl)) (hw _ (List.mem_of_getElem? (i := 28) rfl)) (hw _ (List.mem_of_getElem? (i := 12) rfl)) (hw _ (List.mem_of_getElem? (i := 29) rfl)) (by decide) 0 (rm_mxJ l Z a0 hw [] p4 (0 : Int64) T15.heap) e41 (by decide) (by decide) (by decide) (by decide) (argsL := [(.long p4), (.long (0 : Int64))]) (rest := []) rfl (by rw [hml]; rfl) (lenOf pd__28JJ_29J rfl) rfl rfl (by show 2 * 0 + _ ≤ _; exact Nat.le_of_eq rfl) (hb hby at_186) ?_
        rintro _ T43 L43 X43 ⟨rfl, e43, rfl⟩
        have N44 := Fr.app N42 (Fr.nil _)
        show Go p e below _ T43 (mkF m 189 #[iv p0, iv p1, iv p2, jv p3, .second, jv p4, .second, iv (Int32.ofNat N), iv (Int32.ofNat I), iv (Int32.ofNat J), iv (Int32.ofNat (N / 10)), rv b1, iv (0 : Int32), iv (1 : Int32), iv (Int32.ofNat (N - N / 10)), iv (1 : Int32), iv (1 : Int32), jv p4, .second, jv (mnJ p4 (0 : Int64)), .second, jv p4, .second, .unset, .unset, .unset, .unset] [(.long (mxJ p4 (0 : Int64)))])
        refine Go.st (T' := T43) (g' := (mkF m 221 #[iv p0, iv p1, iv p2, jv p3, .second, jv p4, .second, iv (Int32.ofNat N), iv (Int32.ofNat I), iv (Int32.ofNat J), iv (Int32.ofNat (N / 10)), rv b1, iv (0 : Int32), iv (1 : Int32), iv (Int32.ofNat (N - N / 10)), iv (1 : Int32), iv (1 : Int32), jv p4, .second, jv (mnJ p4 (0 : Int64)), .second, jv (mxJ p4 (0 : Int64)), .second, .unset, .unset, .unset, .unset] [(.long p4), (.long (mnJ p4 (0 : Int64)))])) ?_ (fun _ kk_ => XS.lstore X43.here hx rfl (hb hby at_189) rfl (l' := #[iv p0, iv p1, iv p2, jv p3, .second, jv p4, .second, iv (Int32.ofNat N), iv (Int32.ofNat I), iv (Int32.ofNat J), iv (Int32.ofNat (N / 10)), rv b1, iv (0 : Int32), iv (1 : Int32), iv (Int32.ofNat (N - N / 10)), iv (1 : Int32), iv (1 : Int32), jv p4, .second, jv (mnJ p4 (0 : Int64)), .second, jv (mxJ p4 (0 : Int64)), .second, .unset, .unset, .unset, .unset]) rfl (XS.iload X43.here hx rfl (hb hby at_191) rfl  (XS.ifYes X43.here hx rfl (pc0 := 193) (pc' := 212) rfl (hb hby at_193) rfl ((if0 _ _).trans (teq ((by decide) : (0 : Int32) = (0 : Int32))).1) (by decide) (by decide) (XS.iload X43.here hx rfl (hb hby at_212) rfl  (XS.ifNo X43.here hx rfl (hb hby at_214) rfl ((if0 _ _).trans (feq ((by decide) : ¬ ((1 : Int32) = (0 : Int32)))).1) (XS.lload X43.here hx rfl (hb hby at_217) rfl  (XS.lload X43.here hx rfl (hb hby at_219) rfl  kk_)))))))
        refine Go.callS (y := (⟨"java/lang/Math", "min", "(JJ)J"⟩ : MethodName)) X43 hx hZ hown (hw _ (List.mem_of_getElem? (i := 24) rfl)) (hw _ (List.mem_of_getElem? (i := 25) rfl)) (hw _ (List.mem_of_getElem? (i := 12) rfl)) (hw _ (List.mem_of_getElem? (i := 26) rfl)) (by decide) 0 (rm_mnJ l Z a0 hw [] (mnJ p4 (0 : Int64)) p4 T15.heap) e43 (by decide) (by decide) (by decide) (by decide) (argsL := [(.long (mnJ p4 (0 : Int64))), (.long p4)]) (rest := []) rfl (by rw [hml]; rfl) (lenOf pd__28JJ_29J rfl) rfl rfl (by show 2 * 0 + _ ≤ _; exact Nat.le_of_eq rfl) (hb hby at_221) ?_
        rintro _ T45 L45 X45 ⟨rfl, e45, rfl⟩
        have N46 := Fr.app N44 (Fr.nil _)
        show Go p e below _ T45 (mkF m 224 #[iv p0, iv p1, iv p2, jv p3, .second, jv p4, .second, iv (Int32.ofNat N), iv (Int32.ofNat I), iv (Int32.ofNat J), iv (Int32.ofNat (N / 10)), rv b1, iv (0 : Int32), iv (1 : Int32), iv (Int32.ofNat (N - N / 10)), iv (1 : Int32), iv (1 : Int32), jv p4, .second, jv (mnJ p4 (0 : Int64)), .second, jv (mxJ p4 (0 : Int64)), .second, .unset, .unset, .unset, .unset] [(.long (mnJ (mnJ p4 (0 : Int64)) p4))])
        refine Go.st (T' := T45) (g' := (mkF m 230 #[iv p0, iv p1, iv p2, jv p3, .second, jv p4, .second, iv (Int32.ofNat N), iv (Int32.ofNat I), iv (Int32.ofNat J), iv (Int32.ofNat (N / 10)), rv b1, iv (0 : Int32), iv (1 : Int32), iv (Int32.ofNat (N - N / 10)), iv (1 : Int32), iv (1 : Int32), jv p4, .second, jv (mnJ (mnJ p4 (0 : Int64)) p4), .second, jv (mxJ p4 (0 : Int64)), .second, .unset, .unset, .unset, .unset] [(.long p4), (.long (mxJ p4 (0 : Int64)))])) ?_ (fun _ kk_ => XS.lstore X45.here hx rfl (hb hby at_224) rfl (l' := #[iv p0, iv p1, iv p2, jv p3, .second, jv p4, .second, iv (Int32.ofNat N), iv (Int32.ofNat I), iv (Int32.ofNat J), iv (Int32.ofNat (N / 10)), rv b1, iv (0 : Int32), iv (1 : Int32), iv (Int32.ofNat (N - N / 10)), iv (1 : Int32), iv (1 : Int32), jv p4, .second, jv (mnJ (mnJ p4 (0 : Int64)) p4), .second, jv (mxJ p4 (0 : Int64)), .second, .unset, .unset, .unset, .unset]) rfl (XS.lload X45.here hx rfl (hb hby at_226) rfl  (XS.lload X45.here hx rfl (hb hby at_228) rfl  kk_)))
        refine Go.callS (y := (⟨"java/lang/Math", "max", "(JJ)J"⟩ : MethodName)) X45 hx hZ hown (hw _ (List.mem_of_getElem? (i := 27) rfl)) (hw _ (List.mem_of_getElem? (i := 28) rfl)) (hw _ (List.mem_of_getElem? (i := 12) rfl)) (hw _ (List.mem_of_getElem? (i := 29) rfl)) (by decide) 0 (rm_mxJ l Z a0 hw [] (mxJ p4 (0 : Int64)) p4 T15.heap) e45 (by decide) (by decide) (by decide) (by decide) (argsL := [(.long (mxJ p4 (0 : Int64))), (.long p4)]) (rest := []) rfl (by rw [hml]; rfl) (lenOf pd__28JJ_29J rfl) rfl rfl (by show 2 * 0 + _ ≤ _; exact Nat.le_of_eq rfl) (hb hby at_230) ?_
        rintro _ T47 L47 X47 ⟨rfl, e47, rfl⟩
        have N48 := Fr.app N46 (Fr.nil _)
        show Go p e below _ T47 (mkF m 233 #[iv p0, iv p1, iv p2, jv p3, .second, jv p4, .second, iv (Int32.ofNat N), iv (Int32.ofNat I), iv (Int32.ofNat J), iv (Int32.ofNat (N / 10)), rv b1, iv (0 : Int32), iv (1 : Int32), iv (Int32.ofNat (N - N / 10)), iv (1 : Int32), iv (1 : Int32), jv p4, .second, jv (mnJ (mnJ p4 (0 : Int64)) p4), .second, jv (mxJ p4 (0 : Int64)), .second, .unset, .unset, .unset, .unset] [(.long (mxJ (mxJ p4 (0 : Int64)) p4))])
        refine Go.st (T' := T47) (g' := (mkF m 238 #[iv p0, iv p1, iv p2, jv p3, .second, jv p4, .second, iv (Int32.ofNat N), iv (Int32.ofNat I), iv (Int32.ofNat J), iv (Int32.ofNat (N / 10)), rv b1, iv (0 : Int32), iv (1 : Int32), iv (Int32.ofNat (N - N / 10)), iv (1 : Int32), iv (1 : Int32), jv p4, .second, jv (mnJ (mnJ p4 (0 : Int64)) p4), .second, jv (mxJ (mxJ p4 (0 : Int64)) p4), .second, .unset, .unset, .unset, .unset] [(.int (1 : Int32)), (.ref b1)])) ?_ (fun _ kk_ => XS.lstore X47.here hx rfl (hb hby at_233) rfl (l' := #[iv p0, iv p1, iv p2, jv p3, .second, jv p4, .second, iv (Int32.ofNat N), iv (Int32.ofNat I), iv (Int32.ofNat J), iv (Int32.ofNat (N / 10)), rv b1, iv (0 : Int32), iv (1 : Int32), iv (Int32.ofNat (N - N / 10)), iv (1 : Int32), iv (1 : Int32), jv p4, .second, jv (mnJ (mnJ p4 (0 : Int64)) p4), .second, jv (mxJ (mxJ p4 (0 : Int64)) p4), .second, .unset, .unset, .unset, .unset]) rfl (XS.aload X47.here hx rfl (hb hby at_235) rfl rfl  (XS.iconst X47.here hx rfl (hb hby at_237) kk_)))
        have f49 := (f16.keep K15)
        have f50 := (f14.keep K15 (ninS ne_bt nin0))
        have f51 := ((Fs6.keep K9 (ninS ne_bt nin0)).keep K15 (ninS ne_bt nin0))
        refine Go.callV (y := (⟨"com/example/libdgram/libdgram/cli/Latencies", "percentile", "(I)J"⟩ : MethodName)) (z := (⟨"com/example/libdgram/libdgram/cli/Latencies", "percentile", "(I)J"⟩ : MethodName)) X47 hx hZ hown (hw _ (List.mem_of_getElem? (i := 30) rfl)) (hw _ (List.mem_of_getElem? (i := 31) rfl)) (notFace_of_selects (args := #[]) (mvT hZ (hw _ (List.mem_of_getElem? (i := 33) rfl)))) (hw _ (List.mem_of_getElem? (i := 33) rfl)) (hw _ (List.mem_of_getElem? (i := 32) rfl)) (hw _ (List.mem_of_getElem? (i := 3) rfl)) (hw _ (List.mem_of_getElem? (i := 34) rfl)) (by decide) 0 (rm_pe1 l Z a0 hw [] b1 t (N - N / 10) (fS (N / 10) J p4 (fS (N / 10) I p3 (fun _ => 0))) n0 T15.heap Z18 (by omega) V15 g_t (by omega) f49 f50 f51 g_b1 ne_bt) e47 (by decide) (by decide) (by decide) (by decide) f49 (argsL := [(.int (1 : Int32))]) (rest := []) rfl (by rw [hml]; rfl) (lenOf pd__28I_29J rfl) rfl rfl (by show 2 * 0 + _ ≤ _; exact Nat.le_of_eq rfl) (hb hby at_238) ?_
        rintro _ T52 L52 X52 ⟨N52, K52, Fs52, Fn52, f', S52, rfl, V52⟩
        have N53 := Fr.app N48 N52
        have Z54 : n0 ≤ T52.heap.size := Nat.le_trans Z18 K52.1
        show Go p e below _ T52 (mkF m 241 #[iv p0, iv p1, iv p2, jv p3, .second, jv p4, .second, iv (Int32.ofNat N), iv (Int32.ofNat I), iv (Int32.ofNat J), iv (Int32.ofNat (N / 10)), rv b1, iv (0 : Int32), iv (1 : Int32), iv (Int32.ofNat (N - N / 10)), iv (1 : Int32), iv (1 : Int32), jv p4, .second, jv (mnJ (mnJ p4 (0 : Int64)) p4), .second, jv (mxJ (mxJ p4 (0 : Int64)) p4), .second, .unset, .unset, .unset, .unset] [(.long (f' 0))])
        refine Go.st (T' := T52) (g' := (mkF m 247 #[iv p0, iv p1, iv p2, jv p3, .second, jv p4, .second, iv (Int32.ofNat N), iv (Int32.ofNat I), iv (Int32.ofNat J), iv (Int32.ofNat (N / 10)), rv b1, iv (0 : Int32), iv (1 : Int32), iv (Int32.ofNat (N - N / 10)), iv (1 : Int32), iv (1 : Int32), jv p4, .second, jv (mnJ (mnJ p4 (0 : Int64)) p4), .second, jv (mxJ (mxJ p4 (0 : Int64)) p4), .second, jv (f' 0), .second, .unset, .unset] [(.int (100 : Int32)), (.ref b1)])) ?_ (fun _ kk_ => XS.lstore X52.here hx rfl (hb hby at_241) rfl (l' := #[iv p0, iv p1, iv p2, jv p3, .second, jv p4, .second, iv (Int32.ofNat N), iv (Int32.ofNat I), iv (Int32.ofNat J), iv (Int32.ofNat (N / 10)), rv b1, iv (0 : Int32), iv (1 : Int32), iv (Int32.ofNat (N - N / 10)), iv (1 : Int32), iv (1 : Int32), jv p4, .second, jv (mnJ (mnJ p4 (0 : Int64)) p4), .second, jv (mxJ (mxJ p4 (0 : Int64)) p4), .second, jv (f' 0), .second, .unset, .unset]) rfl (XS.aload X52.here hx rfl (hb hby at_243) rfl rfl  (XS.bipush X52.here hx rfl (hb hby at_245) kk_)))
        have f56 := (f49.keep K52)
        refine Go.callV (y := (⟨"com/example/libdgram/libdgram/cli/Latencies", "percentile", "(I)J"⟩ : MethodName)) (z := (⟨"com/example/libdgram/libdgram/cli/Latencies", "percentile", "(I)J"⟩ : MethodName)) X52 hx hZ hown (hw _ (List.mem_of_getElem? (i := 30) rfl)) (hw _ (List.mem_of_getElem? (i := 31) rfl)) (notFace_of_selects (args := #[]) (mvT hZ (hw _ (List.mem_of_getElem? (i := 33) rfl)))) (hw _ (List.mem_of_getElem? (i := 33) rfl)) (hw _ (List.mem_of_getElem? (i := 32) rfl)) (hw _ (List.mem_of_getElem? (i := 3) rfl)) (hw _ (List.mem_of_getElem? (i := 34) rfl)) (by decide) 0 (rm_pe2 l Z a0 hw [] b1 t (N - N / 10) f' T52.heap (by omega) V52 (by omega) Fn52 Fs52) rfl (by decide) (by decide) (by decide) (by decide) f56 (argsL := [(.int (100 : Int32))]) (rest := []) rfl (by rw [hml]; rfl) (lenOf pd__28I_29J rfl) rfl rfl (by show 2 * 0 + _ ≤ _; exact Nat.le_of_eq rfl) (hb hby at_247) ?_
        rintro _ T55 L55 X55 ⟨rfl, e55, rfl⟩
        have N57 := Fr.app N53 (Fr.nil _)
        show Go p e below _ T55 (mkF m 250 #[iv p0, iv p1, iv p2, jv p3, .second, jv p4, .second, iv (Int32.ofNat N), iv (Int32.ofNat I), iv (Int32.ofNat J), iv (Int32.ofNat (N / 10)), rv b1, iv (0 : Int32), iv (1 : Int32), iv (Int32.ofNat (N - N / 10)), iv (1 : Int32), iv (1 : Int32), jv p4, .second, jv (mnJ (mnJ p4 (0 : Int64)) p4), .second, jv (mxJ (mxJ p4 (0 : Int64)) p4), .second, jv (f' 0), .second, .unset, .unset] [(.long (f' (N - N / 10 - 1)))])
        have hv1 : ∀ y ∈ [p4, (0 : Int64), p4], ∃ q, q < N - N / 10 ∧ (fS (N / 10) J p4 (fS (N / 10) I p3 (fun _ => 0))) q = y := by
          intro y hy
          simp only [List.mem_cons, List.not_mem_nil, or_false] at hy
          rcases hy with h | h | h
          · exact ⟨J - N / 10, by omega, by unfold fS; rw [if_pos ⟨by omega, rfl⟩, h]⟩
          · obtain ⟨r, r1, r2⟩ := own_pick1 hz2 (J - N / 10)
            exact ⟨r, r1, by unfold fS; rw [if_neg (by omega), if_neg (by omega), h]⟩
          · exact ⟨J - N / 10, by omega, by unfold fS; rw [if_pos ⟨by omega, rfl⟩, h]⟩
        have hv2 : ∀ q, q < N - N / 10 → (fS (N / 10) J p4 (fS (N / 10) I p3 (fun _ => 0))) q ∈ [p4, (0 : Int64), p4] := fun q hq => by unfold fS; split <;> (try split) <;> first | (simp; done) | (exfalso; omega)
        have hlo : f' 0 = (mnJ (mnJ p4 (0 : Int64)) p4) := own_low1 (own_low S52 (by omega)) (own_LowL hv1 hv2 (LowL.mn (LowL.mn (LowL.one p4) (0 : Int64)) p4))
        have hhi : f' (N - N / 10 - 1) = (mxJ (mxJ p4 (0 : Int64)) p4) := own_hig1 (own_hig S52 (by omega)) (own_HigL hv1 hv2 (HigL.mx (HigL.mx (HigL.one p4) (0 : Int64)) p4))
        refine Go.st (T' := T55) (g' := (mkF m 273 #[iv p0, iv p1, iv p2, jv p3, .second, jv p4, .second, iv (Int32.ofNat N), iv (Int32.ofNat I), iv (Int32.ofNat J), iv (Int32.ofNat (N / 10)), rv b1, iv (0 : Int32), iv (1 : Int32), iv (Int32.ofNat (N - N / 10)), iv (1 : Int32), iv (1 : Int32), jv p4, .second, jv (mnJ (mnJ p4 (0 : Int64)) p4), .second, jv (mxJ (mxJ p4 (0 : Int64)) p4), .second, jv (f' 0), .second, jv (f' (N - N / 10 - 1)), .second] [(.int (1 : Int32))])) ?_ (fun _ kk_ => XS.lstore X55.here hx rfl (hb hby at_250) rfl (l' := #[iv p0, iv p1, iv p2, jv p3, .second, jv p4, .second, iv (Int32.ofNat N), iv (Int32.ofNat I), iv (Int32.ofNat J), iv (Int32.ofNat (N / 10)), rv b1, iv (0 : Int32), iv (1 : Int32), iv (Int32.ofNat (N - N / 10)), iv (1 : Int32), iv (1 : Int32), jv p4, .second, jv (mnJ (mnJ p4 (0 : Int64)) p4), .second, jv (mxJ (mxJ p4 (0 : Int64)) p4), .second, jv (f' 0), .second, jv (f' (N - N / 10 - 1)), .second]) rfl (XS.lload X55.here hx rfl (hb hby at_252) rfl  (XS.lload X55.here hx rfl (hb hby at_254) rfl  (XS.lcmp X55.here hx rfl (hb hby at_256) rfl (XS.ifNo X55.here hx rfl (hb hby at_257) rfl ((if0 _ _).trans (teq (((lw_eq _ _).mpr hlo) : (lcmpW (f' 0) (mnJ (mnJ p4 (0 : Int64)) p4)) = (0 : Int32))).2) (XS.lload X55.here hx rfl (hb hby at_260) rfl  (XS.lload X55.here hx rfl (hb hby at_262) rfl  (XS.lcmp X55.here hx rfl (hb hby at_264) rfl (XS.ifNo X55.here hx rfl (hb hby at_265) rfl ((if0 _ _).trans (teq (((lw_eq _ _).mpr hhi) : (lcmpW (f' (N - N / 10 - 1)) (mxJ (mxJ p4 (0 : Int64)) p4)) = (0 : Int32))).2) (XS.iconst X55.here hx rfl (hb hby at_268) (XS.goto X55.here hx rfl (pc0 := 269) (pc' := 273) rfl (hb hby at_269) (by decide) (by decide) kk_)))))))))))
        refine Go.retN X55 hx hlk (t := .boolean) hret (by simp) (z' := (1 : Int32)) rfl (hb hby at_273) (by decide) (by decide) ?_
        try rw [e55]
        exact ⟨rfl, N57⟩
      ·
        refine Go.st (T' := T15) (g' := (mkF m 137 #[iv p0, iv p1, iv p2, jv p3, .second, jv p4, .second, iv (Int32.ofNat N), iv (Int32.ofNat I), iv (Int32.ofNat J), iv (Int32.ofNat (N / 10)), rv b1, iv (0 : Int32), iv (1 : Int32), iv (Int32.ofNat (N - N / 10)), iv (1 : Int32), .unset, .unset, .unset, .unset, .unset, .unset, .unset, .unset, .unset, .unset, .unset] [])) ?_ (fun _ kk_ => XS.icmpYes X15.here hx rfl (pc0 := 130) (pc' := 137) rfl (hb hby at_130) rfl (flt (hz : ¬ ((1 : Int32) < (Int32.ofNat (N - N / 10))))).2.2.2 (by decide) (by decide) kk_)
        have hz2 : ¬ (1 < N - N / 10) := fun z => hz ((own_lt (i := 1) (by decide) (by omega)).mpr z)
        refine Go.st (T' := T15) (g' := (mkF m 193 #[iv p0, iv p1, iv p2, jv p3, .second, jv p4, .second, iv (Int32.ofNat N), iv (Int32.ofNat I), iv (Int32.ofNat J), iv (Int32.ofNat (N / 10)), rv b1, iv (0 : Int32), iv (1 : Int32), iv (Int32.ofNat (N - N / 10)), iv (1 : Int32), iv (0 : Int32), jv p4, .second, jv p4, .second, jv p4, .second, .unset, .unset, .unset, .unset] [(.int (0 : Int32))])) ?_ (fun _ kk_ => XS.iconst X15.here hx rfl (hb hby at_137) (XS.istore X15.here hx rfl (hb hby at_138) rfl (l' := #[iv p0, iv p1, iv p2, jv p3, .second, jv p4, .second, iv (Int32.ofNat N), iv (Int32.ofNat I), iv (Int32.ofNat J), iv (Int32.ofNat (N / 10)), rv b1, iv (0 : Int32), iv (1 : Int32), iv (Int32.ofNat (N - N / 10)), iv (1 : Int32), iv (0 : Int32), .unset, .unset, .unset, .unset, .unset, .unset, .unset, .unset, .unset, .unset]) rfl (XS.iload X15.here hx rfl (hb hby at_140) rfl  (XS.ifNo X15.here hx rfl (hb hby at_142) rfl ((if0 _ _).trans (feq ((by decide) : ¬ ((1 : Int32) = (0 : Int32)))).1) (XS.lload X15.here hx rfl (hb hby at_145) rfl  (XS.goto X15.here hx rfl (pc0 := 147) (pc' := 160) rfl (hb hby at_147) (by decide) (by decide) (XS.lstore X15.here hx rfl (hb hby at_160) rfl (l' := #[iv p0, iv p1, iv p2, jv p3, .second, jv p4, .second, iv (Int32.ofNat N), iv (Int32.ofNat I), iv (Int32.ofNat J), iv (Int32.ofNat (N / 10)), rv b1, iv (0 : Int32), iv (1 : Int32), iv (Int32.ofNat (N - N / 10)), iv (1 : Int32), iv (0 : Int32), jv p4, .second, .unset, .unset, .unset, .unset, .unset, .unset, .unset, .unset]) rfl (XS.lload X15.here hx rfl (hb hby at_162) rfl  (XS.lstore X15.here hx rfl (hb hby at_164) rfl (l' := #[iv p0, iv p1, iv p2, jv p3, .second, jv p4, .second, iv (Int32.ofNat N), iv (Int32.ofNat I), iv (Int32.ofNat J), iv (Int32.ofNat (N / 10)), rv b1, iv (0 : Int32), iv (1 : Int32), iv (Int32.ofNat (N - N / 10)), iv (1 : Int32), iv (0 : Int32), jv p4, .second, jv p4, .second, .unset, .unset, .unset, .unset, .unset, .unset]) rfl (XS.lload X15.here hx rfl (hb hby at_166) rfl  (XS.lstore X15.here hx rfl (hb hby at_168) rfl (l' := #[iv p0, iv p1, iv p2, jv p3, .second, jv p4, .second, iv (Int32.ofNat N), iv (Int32.ofNat I), iv (Int32.ofNat J), iv (Int32.ofNat (N / 10)), rv b1, iv (0 : Int32), iv (1 : Int32), iv (Int32.ofNat (N - N / 10)), iv (1 : Int32), iv (0 : Int32), jv p4, .second, jv p4, .second, jv p4, .second, .unset, .unset, .unset, .unset]) rfl (XS.iload X15.here hx rfl (hb hby at_170) rfl  (XS.ifYes X15.here hx rfl (pc0 := 172) (pc' := 191) rfl (hb hby at_172) rfl ((if0 _ _).trans (teq ((by decide) : (0 : Int32) = (0 : Int32))).1) (by decide) (by decide) (XS.iload X15.here hx rfl (hb hby at_191) rfl  kk_))))))))))))))
        refine Go.st (T' := T15) (g' := (mkF m 221 #[iv p0, iv p1, iv p2, jv p3, .second, jv p4, .second, iv (Int32.ofNat N), iv (Int32.ofNat I), iv (Int32.ofNat J), iv (Int32.ofNat (N / 10)), rv b1, iv (0 : Int32), iv (1 : Int32), iv (Int32.ofNat (N - N / 10)), iv (1 : Int32), iv (0 : Int32), jv p4, .second, jv p4, .second, jv p4, .second, .unset, .unset, .unset, .unset] [(.long p4), (.long p4)])) ?_ (fun _ kk_ => XS.ifYes X15.here hx rfl (pc0 := 193) (pc' := 212) rfl (hb hby at_193) rfl ((if0 _ _).trans (teq ((by decide) : (0 : Int32) = (0 : Int32))).1) (by decide) (by decide) (XS.iload X15.here hx rfl (hb hby at_212) rfl  (XS.ifNo X15.here hx rfl (hb hby at_214) rfl ((if0 _ _).trans (feq ((by decide) : ¬ ((1 : Int32) = (0 : Int32)))).1) (XS.lload X15.here hx rfl (hb hby at_217) rfl  (XS.lload X15.here hx rfl (hb hby at_219) rfl  kk_)))))
        refine Go.callS (y := (⟨"java/lang/Math", "min", "(JJ)J"⟩ : MethodName)) X15 hx hZ hown (hw _ (List.mem_of_getElem? (i := 24) rfl)) (hw _ (List.mem_of_getElem? (i := 25) rfl)) (hw _ (List.mem_of_getElem? (i := 12) rfl)) (hw _ (List.mem_of_getElem? (i := 26) rfl)) (by decide) 0 (rm_mnJ l Z a0 hw [] p4 p4 T15.heap) rfl (by decide) (by decide) (by decide) (by decide) (argsL := [(.long p4), (.long p4)]) (rest := []) rfl (by rw [hml]; rfl) (lenOf pd__28JJ_29J rfl) rfl rfl (by show 2 * 0 + _ ≤ _; exact Nat.le_of_eq rfl) (hb hby at_221) ?_
        rintro _ T58 L58 X58 ⟨rfl, e58, rfl⟩
        have N59 := Fr.app N17 (Fr.nil _)
        show Go p e below _ T58 (mkF m 224 #[iv p0, iv p1, iv p2, jv p3, .second, jv p4, .second, iv (Int32.ofNat N), iv (Int32.ofNat I), iv (Int32.ofNat J), iv (Int32.ofNat (N / 10)), rv b1, iv (0 : Int32), iv (1 : Int32), iv (Int32.ofNat (N - N / 10)), iv (1 : Int32), iv (0 : Int32), jv p4, .second, jv p4, .second, jv p4, .second, .unset, .unset, .unset, .unset] [(.long (mnJ p4 p4))])
        refine Go.st (T' := T58) (g' := (mkF m 230 #[iv p0, iv p1, iv p2, jv p3, .second, jv p4, .second, iv (Int32.ofNat N), iv (Int32.ofNat I), iv (Int32.ofNat J), iv (Int32.ofNat (N / 10)), rv b1, iv (0 : Int32), iv (1 : Int32), iv (Int32.ofNat (N - N / 10)), iv (1 : Int32), iv (0 : Int32), jv p4, .second, jv (mnJ p4 p4), .second, jv p4, .second, .unset, .unset, .unset, .unset] [(.long p4), (.long p4)])) ?_ (fun _ kk_ => XS.lstore X58.here hx rfl (hb hby at_224) rfl (l' := #[iv p0, iv p1, iv p2, jv p3, .second, jv p4, .second, iv (Int32.ofNat N), iv (Int32.ofNat I), iv (Int32.ofNat J), iv (Int32.ofNat (N / 10)), rv b1, iv (0 : Int32), iv (1 : Int32), iv (Int32.ofNat (N - N / 10)), iv (1 : Int32), iv (0 : Int32), jv p4, .second, jv (mnJ p4 p4), .second, jv p4, .second, .unset, .unset, .unset, .unset]) rfl (XS.lload X58.here hx rfl (hb hby at_226) rfl  (XS.lload X58.here hx rfl (hb hby at_228) rfl  kk_)))
        refine Go.callS (y := (⟨"java/lang/Math", "max", "(JJ)J"⟩ : MethodName)) X58 hx hZ hown (hw _ (List.mem_of_getElem? (i := 27) rfl)) (hw _ (List.mem_of_getElem? (i := 28) rfl)) (hw _ (List.mem_of_getElem? (i := 12) rfl)) (hw _ (List.mem_of_getElem? (i := 29) rfl)) (by decide) 0 (rm_mxJ l Z a0 hw [] p4 p4 T15.heap) e58 (by decide) (by decide) (by decide) (by decide) (argsL := [(.long p4), (.long p4)]) (rest := []) rfl (by rw [hml]; rfl) (lenOf pd__28JJ_29J rfl) rfl rfl (by show 2 * 0 + _ ≤ _; exact Nat.le_of_eq rfl) (hb hby at_230) ?_
        rintro _ T60 L60 X60 ⟨rfl, e60, rfl⟩
        have N61 := Fr.app N59 (Fr.nil _)
        show Go p e below _ T60 (mkF m 233 #[iv p0, iv p1, iv p2, jv p3, .second, jv p4, .second, iv (Int32.ofNat N), iv (Int32.ofNat I), iv (Int32.ofNat J), iv (Int32.ofNat (N / 10)), rv b1, iv (0 : Int32), iv (1 : Int32), iv (Int32.ofNat (N - N / 10)), iv (1 : Int32), iv (0 : Int32), jv p4, .second, jv (mnJ p4 p4), .second, jv p4, .second, .unset, .unset, .unset, .unset] [(.long (mxJ p4 p4))])
        refine Go.st (T' := T60) (g' := (mkF m 238 #[iv p0, iv p1, iv p2, jv p3, .second, jv p4, .second, iv (Int32.ofNat N), iv (Int32.ofNat I), iv (Int32.ofNat J), iv (Int32.ofNat (N / 10)), rv b1, iv (0 : Int32), iv (1 : Int32), iv (Int32.ofNat (N - N / 10)), iv (1 : Int32), iv (0 : Int32), jv p4, .second, jv (mnJ p4 p4), .second, jv (mxJ p4 p4), .second, .unset, .unset, .unset, .unset] [(.int (1 : Int32)), (.ref b1)])) ?_ (fun _ kk_ => XS.lstore X60.here hx rfl (hb hby at_233) rfl (l' := #[iv p0, iv p1, iv p2, jv p3, .second, jv p4, .second, iv (Int32.ofNat N), iv (Int32.ofNat I), iv (Int32.ofNat J), iv (Int32.ofNat (N / 10)), rv b1, iv (0 : Int32), iv (1 : Int32), iv (Int32.ofNat (N - N / 10)), iv (1 : Int32), iv (0 : Int32), jv p4, .second, jv (mnJ p4 p4), .second, jv (mxJ p4 p4), .second, .unset, .unset, .unset, .unset]) rfl (XS.aload X60.here hx rfl (hb hby at_235) rfl rfl  (XS.iconst X60.here hx rfl (hb hby at_237) kk_)))
        have f62 := (f16.keep K15)
        have f63 := (f14.keep K15 (ninS ne_bt nin0))
        have f64 := ((Fs6.keep K9 (ninS ne_bt nin0)).keep K15 (ninS ne_bt nin0))
        refine Go.callV (y := (⟨"com/example/libdgram/libdgram/cli/Latencies", "percentile", "(I)J"⟩ : MethodName)) (z := (⟨"com/example/libdgram/libdgram/cli/Latencies", "percentile", "(I)J"⟩ : MethodName)) X60 hx hZ hown (hw _ (List.mem_of_getElem? (i := 30) rfl)) (hw _ (List.mem_of_getElem? (i := 31) rfl)) (notFace_of_selects (args := #[]) (mvT hZ (hw _ (List.mem_of_getElem? (i := 33) rfl)))) (hw _ (List.mem_of_getElem? (i := 33) rfl)) (hw _ (List.mem_of_getElem? (i := 32) rfl)) (hw _ (List.mem_of_getElem? (i := 3) rfl)) (hw _ (List.mem_of_getElem? (i := 34) rfl)) (by decide) 0 (rm_pe1 l Z a0 hw [] b1 t (N - N / 10) (fS (N / 10) J p4 (fS (N / 10) I p3 (fun _ => 0))) n0 T15.heap Z18 (by omega) V15 g_t (by omega) f62 f63 f64 g_b1 ne_bt) e60 (by decide) (by decide) (by decide) (by decide) f62 (argsL := [(.int (1 : Int32))]) (rest := []) rfl (by rw [hml]; rfl) (lenOf pd__28I_29J rfl) rfl rfl (by show 2 * 0 + _ ≤ _; exact Nat.le_of_eq rfl) (hb hby at_238) ?_
        rintro _ T65 L65 X65 ⟨N65, K65, Fs65, Fn65, f', S65, rfl, V65⟩
        have N66 := Fr.app N61 N65
        have Z67 : n0 ≤ T65.heap.size := Nat.le_trans Z18 K65.1
        show Go p e below _ T65 (mkF m 241 #[iv p0, iv p1, iv p2, jv p3, .second, jv p4, .second, iv (Int32.ofNat N), iv (Int32.ofNat I), iv (Int32.ofNat J), iv (Int32.ofNat (N / 10)), rv b1, iv (0 : Int32), iv (1 : Int32), iv (Int32.ofNat (N - N / 10)), iv (1 : Int32), iv (0 : Int32), jv p4, .second, jv (mnJ p4 p4), .second, jv (mxJ p4 p4), .second, .unset, .unset, .unset, .unset] [(.long (f' 0))])
        refine Go.st (T' := T65) (g' := (mkF m 247 #[iv p0, iv p1, iv p2, jv p3, .second, jv p4, .second, iv (Int32.ofNat N), iv (Int32.ofNat I), iv (Int32.ofNat J), iv (Int32.ofNat (N / 10)), rv b1, iv (0 : Int32), iv (1 : Int32), iv (Int32.ofNat (N - N / 10)), iv (1 : Int32), iv (0 : Int32), jv p4, .second, jv (mnJ p4 p4), .second, jv (mxJ p4 p4), .second, jv (f' 0), .second, .unset, .unset] [(.int (100 : Int32)), (.ref b1)])) ?_ (fun _ kk_ => XS.lstore X65.here hx rfl (hb hby at_241) rfl (l' := #[iv p0, iv p1, iv p2, jv p3, .second, jv p4, .second, iv (Int32.ofNat N), iv (Int32.ofNat I), iv (Int32.ofNat J), iv (Int32.ofNat (N / 10)), rv b1, iv (0 : Int32), iv (1 : Int32), iv (Int32.ofNat (N - N / 10)), iv (1 : Int32), iv (0 : Int32), jv p4, .second, jv (mnJ p4 p4), .second, jv (mxJ p4 p4), .second, jv (f' 0), .second, .unset, .unset]) rfl (XS.aload X65.here hx rfl (hb hby at_243) rfl rfl  (XS.bipush X65.here hx rfl (hb hby at_245) kk_)))
        have f69 := (f62.keep K65)
        refine Go.callV (y := (⟨"com/example/libdgram/libdgram/cli/Latencies", "percentile", "(I)J"⟩ : MethodName)) (z := (⟨"com/example/libdgram/libdgram/cli/Latencies", "percentile", "(I)J"⟩ : MethodName)) X65 hx hZ hown (hw _ (List.mem_of_getElem? (i := 30) rfl)) (hw _ (List.mem_of_getElem? (i := 31) rfl)) (notFace_of_selects (args := #[]) (mvT hZ (hw _ (List.mem_of_getElem? (i := 33) rfl)))) (hw _ (List.mem_of_getElem? (i := 33) rfl)) (hw _ (List.mem_of_getElem? (i := 32) rfl)) (hw _ (List.mem_of_getElem? (i := 3) rfl)) (hw _ (List.mem_of_getElem? (i := 34) rfl)) (by decide) 0 (rm_pe2 l Z a0 hw [] b1 t (N - N / 10) f' T65.heap (by omega) V65 (by omega) Fn65 Fs65) rfl (by decide) (by decide) (by decide) (by decide) f69 (argsL := [(.int (100 : Int32))]) (rest := []) rfl (by rw [hml]; rfl) (lenOf pd__28I_29J rfl) rfl rfl (by show 2 * 0 + _ ≤ _; exact Nat.le_of_eq rfl) (hb hby at_247) ?_
        rintro _ T68 L68 X68 ⟨rfl, e68, rfl⟩
        have N70 := Fr.app N66 (Fr.nil _)
        show Go p e below _ T68 (mkF m 250 #[iv p0, iv p1, iv p2, jv p3, .second, jv p4, .second, iv (Int32.ofNat N), iv (Int32.ofNat I), iv (Int32.ofNat J), iv (Int32.ofNat (N / 10)), rv b1, iv (0 : Int32), iv (1 : Int32), iv (Int32.ofNat (N - N / 10)), iv (1 : Int32), iv (0 : Int32), jv p4, .second, jv (mnJ p4 p4), .second, jv (mxJ p4 p4), .second, jv (f' 0), .second, .unset, .unset] [(.long (f' (N - N / 10 - 1)))])
        have hv1 : ∀ y ∈ [p4, p4], ∃ q, q < N - N / 10 ∧ (fS (N / 10) J p4 (fS (N / 10) I p3 (fun _ => 0))) q = y := by
          intro y hy
          simp only [List.mem_cons, List.not_mem_nil, or_false] at hy
          rcases hy with h | h
          · exact ⟨J - N / 10, by omega, by unfold fS; rw [if_pos ⟨by omega, rfl⟩, h]⟩
          · exact ⟨J - N / 10, by omega, by unfold fS; rw [if_pos ⟨by omega, rfl⟩, h]⟩
        have hv2 : ∀ q, q < N - N / 10 → (fS (N / 10) J p4 (fS (N / 10) I p3 (fun _ => 0))) q ∈ [p4, p4] := fun q hq => by unfold fS; split <;> (try split) <;> first | (simp; done) | (exfalso; omega)
        have hlo : f' 0 = (mnJ p4 p4) := own_low1 (own_low S65 (by omega)) (own_LowL hv1 hv2 (LowL.mn (LowL.one p4) p4))
        have hhi : f' (N - N / 10 - 1) = (mxJ p4 p4) := own_hig1 (own_hig S65 (by omega)) (own_HigL hv1 hv2 (HigL.mx (HigL.one p4) p4))
        refine Go.st (T' := T68) (g' := (mkF m 273 #[iv p0, iv p1, iv p2, jv p3, .second, jv p4, .second, iv (Int32.ofNat N), iv (Int32.ofNat I), iv (Int32.ofNat J), iv (Int32.ofNat (N / 10)), rv b1, iv (0 : Int32), iv (1 : Int32), iv (Int32.ofNat (N - N / 10)), iv (1 : Int32), iv (0 : Int32), jv p4, .second, jv (mnJ p4 p4), .second, jv (mxJ p4 p4), .second, jv (f' 0), .second, jv (f' (N - N / 10 - 1)), .second] [(.int (1 : Int32))])) ?_ (fun _ kk_ => XS.lstore X68.here hx rfl (hb hby at_250) rfl (l' := #[iv p0, iv p1, iv p2, jv p3, .second, jv p4, .second, iv (Int32.ofNat N), iv (Int32.ofNat I), iv (Int32.ofNat J), iv (Int32.ofNat (N / 10)), rv b1, iv (0 : Int32), iv (1 : Int32), iv (Int32.ofNat (N - N / 10)), iv (1 : Int32), iv (0 : Int32), jv p4, .second, jv (mnJ p4 p4), .second, jv (mxJ p4 p4), .second, jv (f' 0), .second, jv (f' (N - N / 10 - 1)), .second]) rfl (XS.lload X68.here hx rfl (hb hby at_252) rfl  (XS.lload X68.here hx rfl (hb hby at_254) rfl  (XS.lcmp X68.here hx rfl (hb hby at_256) rfl (XS.ifNo X68.here hx rfl (hb hby at_257) rfl ((if0 _ _).trans (teq (((lw_eq _ _).mpr hlo) : (lcmpW (f' 0) (mnJ p4 p4)) = (0 : Int32))).2) (XS.lload X68.here hx rfl (hb hby at_260) rfl  (XS.lload X68.here hx rfl (hb hby at_262) rfl  (XS.lcmp X68.here hx rfl (hb hby at_264) rfl (XS.ifNo X68.here hx rfl (hb hby at_265) rfl ((if0 _ _).trans (teq (((lw_eq _ _).mpr hhi) : (lcmpW (f' (N - N / 10 - 1)) (mxJ p4 p4)) = (0 : Int32))).2) (XS.iconst X68.here hx rfl (hb hby at_268) (XS.goto X68.here hx rfl (pc0 := 269) (pc' := 273) rfl (hb hby at_269) (by decide) (by decide) kk_)))))))))))
        refine Go.retN X68 hx hlk (t := .boolean) hret (by simp) (z' := (1 : Int32)) rfl (hb hby at_273) (by decide) (by decide) ?_
        try rw [e68]
        exact ⟨rfl, N70⟩
  ·
    refine Go.st (T' := T15) (g' := (mkF m 68 #[iv p0, iv p1, iv p2, jv p3, .second, jv p4, .second, iv (Int32.ofNat N), iv (Int32.ofNat I), iv (Int32.ofNat J), iv (Int32.ofNat (N / 10)), rv b1, .unset, .unset, .unset, .unset, .unset, .unset, .unset, .unset, .unset, .unset, .unset, .unset, .unset, .unset, .unset] [])) ?_ (fun _ kk_ => XS.icmpNo X15.here hx rfl (hb hby at_65) rfl (flt (hi : ¬ ((Int32.ofNat I) < (Int32.ofNat (N / 10))))).1 kk_)
    have hi2 : ¬ I < N / 10 := fun z => hi ((own_lt (show I < 2 ^ 31 by omega) (show N / 10 < 2 ^ 31 by omega)).mpr z)
    refine Go.st (T' := T15) (g' := (mkF m 72 #[iv p0, iv p1, iv p2, jv p3, .second, jv p4, .second, iv (Int32.ofNat N), iv (Int32.ofNat I), iv (Int32.ofNat J), iv (Int32.ofNat (N / 10)), rv b1, .unset, .unset, .unset, .unset, .unset, .unset, .unset, .unset, .unset, .unset, .unset, .unset, .unset, .unset, .unset] [(.int (Int32.ofNat J)), (.int (Int32.ofNat I))])) ?_ (fun _ kk_ => XS.iload X15.here hx rfl (hb hby at_68) rfl  (XS.iload X15.here hx rfl (hb hby at_70) rfl  kk_))
    by_cases hij : (Int32.ofNat I) = (Int32.ofNat J)
    ·
      refine Go.st (T' := T15) (g' := (mkF m 79 #[iv p0, iv p1, iv p2, jv p3, .second, jv p4, .second, iv (Int32.ofNat N), iv (Int32.ofNat I), iv (Int32.ofNat J), iv (Int32.ofNat (N / 10)), rv b1, .unset, .unset, .unset, .unset, .unset, .unset, .unset, .unset, .unset, .unset, .unset, .unset, .unset, .unset, .unset] [])) ?_ (fun _ kk_ => XS.icmpYes X15.here hx rfl (pc0 := 72) (pc' := 79) rfl (hb hby at_72) rfl (teq (hij : (Int32.ofNat I) = (Int32.ofNat J))).1 (by decide) (by decide) kk_)
      have hij2 := (own_eq (show I < 2 ^ 31 by omega) (show J < 2 ^ 31 by omega)).mp hij
      refine Go.st (T' := T15) (g' := (mkF m 86 #[iv p0, iv p1, iv p2, jv p3, .second, jv p4, .second, iv (Int32.ofNat N), iv (Int32.ofNat I), iv (Int32.ofNat J), iv (Int32.ofNat (N / 10)), rv b1, iv (0 : Int32), .unset, .unset, .unset, .unset, .unset, .unset, .unset, .unset, .unset, .unset, .unset, .unset, .unset, .unset] [(.int (Int32.ofNat (N / 10))), (.int (Int32.ofNat J))])) ?_ (fun _ kk_ => XS.iconst X15.here hx rfl (hb hby at_79) (XS.istore X15.here hx rfl (hb hby at_80) rfl (l' := #[iv p0, iv p1, iv p2, jv p3, .second, jv p4, .second, iv (Int32.ofNat N), iv (Int32.ofNat I), iv (Int32.ofNat J), iv (Int32.ofNat (N / 10)), rv b1, iv (0 : Int32), .unset, .unset, .unset, .unset, .unset, .unset, .unset, .unset, .unset, .unset, .unset, .unset, .unset, .unset]) rfl (XS.iload X15.here hx rfl (hb hby at_82) rfl  (XS.iload X15.here hx rfl (hb hby at_84) rfl  kk_))))
      by_cases hj : (Int32.ofNat J) < (Int32.ofNat (N / 10))
      ·
        refine Go.st (T' := T15) (g' := (mkF m 93 #[iv p0, iv p1, iv p2, jv p3, .second, jv p4, .second, iv (Int32.ofNat N), iv (Int32.ofNat I), iv (Int32.ofNat J), iv (Int32.ofNat (N / 10)), rv b1, iv (0 : Int32), .unset, .unset, .unset, .unset, .unset, .unset, .unset, .unset, .unset, .unset, .unset, .unset, .unset, .unset] [])) ?_ (fun _ kk_ => XS.icmpYes X15.here hx rfl (pc0 := 86) (pc' := 93) rfl (hb hby at_86) rfl (tlt (hj : (Int32.ofNat J) < (Int32.ofNat (N / 10)))).1 (by decide) (by decide) kk_)
        have hj2 := (own_lt (show J < 2 ^ 31 by omega) (show N / 10 < 2 ^ 31 by omega)).mp hj
        refine Go.st (T' := T15) (g' := (mkF m 101 #[iv p0, iv p1, iv p2, jv p3, .second, jv p4, .second, iv (Int32.ofNat N), iv (Int32.ofNat I), iv (Int32.ofNat J), iv (Int32.ofNat (N / 10)), rv b1, iv (0 : Int32), iv (0 : Int32), .unset, .unset, .unset, .unset, .unset, .unset, .unset, .unset, .unset, .unset, .unset, .unset, .unset] [(.int ((Int32.ofNat N) - (Int32.ofNat (N / 10))))])) ?_ (fun _ kk_ => XS.iconst X15.here hx rfl (hb hby at_93) (XS.istore X15.here hx rfl (hb hby at_94) rfl (l' := #[iv p0, iv p1, iv p2, jv p3, .second, jv p4, .second, iv (Int32.ofNat N), iv (Int32.ofNat I), iv (Int32.ofNat J), iv (Int32.ofNat (N / 10)), rv b1, iv (0 : Int32), iv (0 : Int32), .unset, .unset, .unset, .unset, .unset, .unset, .unset, .unset, .unset, .unset, .unset, .unset, .unset]) rfl (XS.iload X15.here hx rfl (hb hby at_96) rfl  (XS.iload X15.here hx rfl (hb hby at_98) rfl  (XS.isub X15.here hx rfl (hb hby at_100) rfl kk_)))))
        rw [show Int32.ofNat N - Int32.ofNat (N / 10) = Int32.ofNat (N - N / 10) from own_sub (by omega)]
        show Go p e below _ T15 (mkF m 101 #[iv p0, iv p1, iv p2, jv p3, .second, jv p4, .second, iv (Int32.ofNat N), iv (Int32.ofNat I), iv (Int32.ofNat J), iv (Int32.ofNat (N / 10)), rv b1, iv (0 : Int32), iv (0 : Int32), .unset, .unset, .unset, .unset, .unset, .unset, .unset, .unset, .unset, .unset, .unset, .unset, .unset] [(.int (Int32.ofNat (N - N / 10)))])
        refine Go.st (T' := T15) (g' := (mkF m 130 #[iv p0, iv p1, iv p2, jv p3, .second, jv p4, .second, iv (Int32.ofNat N), iv (Int32.ofNat I), iv (Int32.ofNat J), iv (Int32.ofNat (N / 10)), rv b1, iv (0 : Int32), iv (0 : Int32), iv (Int32.ofNat (N - N / 10)), iv (0 : Int32), .unset, .unset, .unset, .unset, .unset, .unset, .unset, .unset, .unset, .unset, .unset] [(.int (0 : Int32)), (.int (Int32.ofNat (N - N / 10)))])) ?_ (fun _ kk_ => XS.istore X15.here hx rfl (hb hby at_101) rfl (l' := #[iv p0, iv p1, iv p2, jv p3, .second, jv p4, .second, iv (Int32.ofNat N), iv (Int32.ofNat I), iv (Int32.ofNat J), iv (Int32.ofNat (N / 10)), rv b1, iv (0 : Int32), iv (0 : Int32), iv (Int32.ofNat (N - N / 10)), .unset, .unset, .unset, .unset, .unset, .unset, .unset, .unset, .unset, .unset, .unset, .unset]) rfl (XS.iload X15.here hx rfl (hb hby at_103) rfl  (XS.ifYes X15.here hx rfl (pc0 := 105) (pc' := 112) rfl (hb hby at_105) rfl ((if0 _ _).trans (teq ((by decide) : (0 : Int32) = (0 : Int32))).1) (by decide) (by decide) (XS.iconst X15.here hx rfl (hb hby at_112) (XS.iload X15.here hx rfl (hb hby at_113) rfl  (XS.ifYes X15.here hx rfl (pc0 := 115) (pc' := 122) rfl (hb hby at_115) rfl ((if0 _ _).trans (teq ((by decide) : (0 : Int32) = (0 : Int32))).1) (by decide) (by decide) (XS.iconst X15.here hx rfl (hb hby at_122) (XS.iadd X15.here hx rfl (hb hby at_123) rfl (XS.istore X15.here hx rfl (hb hby at_124) rfl (l' := #[iv p0, iv p1, iv p2, jv p3, .second, jv p4, .second, iv (Int32.ofNat N), iv (Int32.ofNat I), iv (Int32.ofNat J), iv (Int32.ofNat (N / 10)), rv b1, iv (0 : Int32), iv (0 : Int32), iv (Int32.ofNat (N - N / 10)), iv (0 : Int32), .unset, .unset, .unset, .unset, .unset, .unset, .unset, .unset, .unset, .unset, .unset]) rfl (XS.iload X15.here hx rfl (hb hby at_126) rfl  (XS.iload X15.here hx rfl (hb hby at_128) rfl  kk_)))))))))))
        by_cases hz : (0 : Int32) < (Int32.ofNat (N - N / 10))
        ·
          refine Go.st (T' := T15) (g' := (mkF m 133 #[iv p0, iv p1, iv p2, jv p3, .second, jv p4, .second, iv (Int32.ofNat N), iv (Int32.ofNat I), iv (Int32.ofNat J), iv (Int32.ofNat (N / 10)), rv b1, iv (0 : Int32), iv (0 : Int32), iv (Int32.ofNat (N - N / 10)), iv (0 : Int32), .unset, .unset, .unset, .unset, .unset, .unset, .unset, .unset, .unset, .unset, .unset] [])) ?_ (fun _ kk_ => XS.icmpNo X15.here hx rfl (hb hby at_130) rfl (tlt (hz : (0 : Int32) < (Int32.ofNat (N - N / 10)))).2.2.2 kk_)
          have hz2 : 0 < N - N / 10 := (own_lt (i := 0) (by decide) (by omega)).mp hz
          refine Go.st (T' := T15) (g' := (mkF m 172 #[iv p0, iv p1, iv p2, jv p3, .second, jv p4, .second, iv (Int32.ofNat N), iv (Int32.ofNat I), iv (Int32.ofNat J), iv (Int32.ofNat (N / 10)), rv b1, iv (0 : Int32), iv (0 : Int32), iv (Int32.ofNat (N - N / 10)), iv (0 : Int32), iv (1 : Int32), jv (0 : Int64), .second, jv (0 : Int64), .second, jv (0 : Int64), .second, .unset, .unset, .unset, .unset] [(.int (1 : Int32))])) ?_ (fun _ kk_ => XS.iconst X15.here hx rfl (hb hby at_133) (XS.goto X15.here hx rfl (pc0 := 134) (pc' := 138) rfl (hb hby at_134) (by decide) (by decide) (XS.istore X15.here hx rfl (hb hby at_138) rfl (l' := #[iv p0, iv p1, iv p2, jv p3, .second, jv p4, .second, iv (Int32.ofNat N), iv (Int32.ofNat I), iv (Int32.ofNat J), iv (Int32.ofNat (N / 10)), rv b1, iv (0 : Int32), iv (0 : Int32), iv (Int32.ofNat (N - N / 10)), iv (0 : Int32), iv (1 : Int32), .unset, .unset, .unset, .unset, .unset, .unset, .unset, .unset, .unset, .unset]) rfl (XS.iload X15.here hx rfl (hb hby at_140) rfl  (XS.ifYes X15.here hx rfl (pc0 := 142) (pc' := 150) rfl (hb hby at_142) rfl ((if0 _ _).trans (teq ((by decide) : (0 : Int32) = (0 : Int32))).1) (by decide) (by decide) (XS.iload X15.here hx rfl (hb hby at_150) rfl  (XS.ifYes X15.here hx rfl (pc0 := 152) (pc' := 159) rfl (hb hby at_152) rfl ((if0 _ _).trans (teq ((by decide) : (0 : Int32) = (0 : Int32))).1) (by decide) (by decide) (XS.lconst X15.here hx rfl (hb hby at_159) (XS.lstore X15.here hx rfl (hb hby at_160) rfl (l' := #[iv p0, iv p1, iv p2, jv p3, .second, jv p4, .second, iv (Int32.ofNat N), iv (Int32.ofNat I), iv (Int32.ofNat J), iv (Int32.ofNat (N / 10)), rv b1, iv (0 : Int32), iv (0 : Int32), iv (Int32.ofNat (N - N / 10)), iv (0 : Int32), iv (1 : Int32), jv (0 : Int64), .second, .unset, .unset, .unset, .unset, .unset, .unset, .unset, .unset]) rfl (XS.lload X15.here hx rfl (hb hby at_162) rfl  (XS.lstore X15.here hx rfl (hb hby at_164) rfl (l' := #[iv p0, iv p1, iv p2, jv p3, .second, jv p4, .second, iv (Int32.ofNat N), iv (Int32.ofNat I), iv (Int32.ofNat J), iv (Int32.ofNat (N / 10)), rv b1, iv (0 : Int32), iv (0 : Int32), iv (Int32.ofNat (N - N / 10)), iv (0 : Int32), iv (1 : Int32), jv (0 : Int64), .second, jv (0 : Int64), .second, .unset, .unset, .unset, .unset, .unset, .unset]) rfl (XS.lload X15.here hx rfl (hb hby at_166) rfl  (XS.lstore X15.here hx rfl (hb hby at_168) rfl (l' := #[iv p0, iv p1, iv p2, jv p3, .second, jv p4, .second, iv (Int32.ofNat N), iv (Int32.ofNat I), iv (Int32.ofNat J), iv (Int32.ofNat (N / 10)), rv b1, iv (0 : Int32), iv (0 : Int32), iv (Int32.ofNat (N - N / 10)), iv (0 : Int32), iv (1 : Int32), jv (0 : Int64), .second, jv (0 : Int64), .second, jv (0 : Int64), .second, .unset, .unset, .unset, .unset]) rfl (XS.iload X15.here hx rfl (hb hby at_170) rfl  kk_))))))))))))))
          refine Go.st (T' := T15) (g' := (mkF m 178 #[iv p0, iv p1, iv p2, jv p3, .second, jv p4, .second, iv (Int32.ofNat N), iv (Int32.ofNat I), iv (Int32.ofNat J), iv (Int32.ofNat (N / 10)), rv b1, iv (0 : Int32), iv (0 : Int32), iv (Int32.ofNat (N - N / 10)), iv (0 : Int32), iv (1 : Int32), jv (0 : Int64), .second, jv (0 : Int64), .second, jv (0 : Int64), .second, .unset, .unset, .unset, .unset] [(.long (0 : Int64)), (.long (0 : Int64))])) ?_ (fun _ kk_ => XS.ifNo X15.here hx rfl (hb hby at_172) rfl ((if0 _ _).trans (feq ((by decide) : ¬ ((1 : Int32) = (0 : Int32)))).1) (XS.lload X15.here hx rfl (hb hby at_175) rfl  (XS.lconst X15.here hx rfl (hb hby at_177) kk_)))
          refine Go.callS (y := (⟨"java/lang/Math", "min", "(JJ)J"⟩ : MethodName)) X15 hx hZ hown (hw _ (List.mem_of_getElem? (i := 24) rfl)) (hw _ (List.mem_of_getElem? (i := 25) rfl)) (hw _ (List.mem_of_getElem? (i := 12) rfl)) (hw _ (List.mem_of_getElem? (i := 26) rfl)) (by decide) 0 (rm_mnJ l Z a0 hw [] (0 : Int64) (0 : Int64) T15.heap) rfl (by decide) (by decide) (by decide) (by decide) (argsL := [(.long (0 : Int64)), (.long (0 : Int64))]) (rest := []) rfl (by rw [hml]; rfl) (lenOf pd__28JJ_29J rfl) rfl rfl (by show 2 * 0 + _ ≤ _; exact Nat.le_of_eq rfl) (hb hby at_178) ?_
          rintro _ T71 L71 X71 ⟨rfl, e71, rfl⟩
          have N72 := Fr.app N17 (Fr.nil _)
          show Go p e below _ T71 (mkF m 181 #[iv p0, iv p1, iv p2, jv p3, .second, jv p4, .second, iv (Int32.ofNat N), iv (Int32.ofNat I), iv (Int32.ofNat J), iv (Int32.ofNat (N / 10)), rv b1, iv (0 : Int32), iv (0 : Int32), iv (Int32.ofNat (N - N / 10)), iv (0 : Int32), iv (1 : Int32), jv (0 : Int64), .second, jv (0 : Int64), .second, jv (0 : Int64), .second, .unset, .unset, .unset, .unset] [(.long (mnJ (0 : Int64) (0 : Int64)))])
          refine Go.st (T' := T71) (g' := (mkF m 186 #[iv p0, iv p1, iv p2, jv p3, .second, jv p4, .second, iv (Int32.ofNat N), iv (Int32.ofNat I), iv (Int32.ofNat J), iv (Int32.ofNat (N / 10)), rv b1, iv (0 : Int32), iv (0 : Int32), iv (Int32.ofNat (N - N / 10)), iv (0 : Int32), iv (1 : Int32), jv (0 : Int64), .second, jv (mnJ (0 : Int64) (0 : Int64)), .second, jv (0 : Int64), .second, .unset, .unset, .unset, .unset] [(.long (0 : Int64)), (.long (0 : Int64))])) ?_ (fun _ kk_ => XS.lstore X71.here hx rfl (hb hby at_181) rfl (l' := #[iv p0, iv p1, iv p2, jv p3, .second, jv p4, .second, iv (Int32.ofNat N), iv (Int32.ofNat I), iv (Int32.ofNat J), iv (Int32.ofNat (N / 10)), rv b1, iv (0 : Int32), iv (0 : Int32), iv (Int32.ofNat (N - N / 10)), iv (0 : Int32), iv (1 : Int32), jv (0 : Int64), .second, jv (mnJ (0 : Int64) (0 : Int64)), .second, jv (0 : Int64), .second, .unset, .unset, .unset, .unset]) rfl (XS.lload X71.here hx rfl (hb hby at_183) rfl  (XS.lconst X71.here hx rfl (hb hby at_185) kk_)))
          refine Go.callS (y := (⟨"java/lang/Math", "max", "(JJ)J"⟩ : MethodName)) X71 hx hZ hown (hw _ (List.mem_of_getElem? (i := 27) rfl)) (hw _ (List.mem_of_getElem? (i := 28) rfl)) (hw _ (List.mem_of_getElem? (i := 12) rfl)) (hw _ (List.mem_of_getElem? (i := 29) rfl)) (by decide) 0 (rm_mxJ l Z a0 hw [] (0 : Int64) (0 : Int64) T15.heap) e71 (by decide) (by decide) (by decide) (by decide) (argsL := [(.long (0 : Int64)), (.long (0 : Int64))]) (rest := []) rfl (by rw [hml]; rfl) (lenOf pd__28JJ_29J rfl) rfl rfl (by show 2 * 0 + _ ≤ _; exact Nat.le_of_eq rfl) (hb hby at_186) ?_
          rintro _ T73 L73 X73 ⟨rfl, e73, rfl⟩
          have N74 := Fr.app N72 (Fr.nil _)
          show Go p e below _ T73 (mkF m 189 #[iv p0, iv p1, iv p2, jv p3, .second, jv p4, .second, iv (Int32.ofNat N), iv (Int32.ofNat I), iv (Int32.ofNat J), iv (Int32.ofNat (N / 10)), rv b1, iv (0 : Int32), iv (0 : Int32), iv (Int32.ofNat (N - N / 10)), iv (0 : Int32), iv (1 : Int32), jv (0 : Int64), .second, jv (mnJ (0 : Int64) (0 : Int64)), .second, jv (0 : Int64), .second, .unset, .unset, .unset, .unset] [(.long (mxJ (0 : Int64) (0 : Int64)))])
          refine Go.st (T' := T73) (g' := (mkF m 238 #[iv p0, iv p1, iv p2, jv p3, .second, jv p4, .second, iv (Int32.ofNat N), iv (Int32.ofNat I), iv (Int32.ofNat J), iv (Int32.ofNat (N / 10)), rv b1, iv (0 : Int32), iv (0 : Int32), iv (Int32.ofNat (N - N / 10)), iv (0 : Int32), iv (1 : Int32), jv (0 : Int64), .second, jv (mnJ (0 : Int64) (0 : Int64)), .second, jv (mxJ (0 : Int64) (0 : Int64)), .second, .unset, .unset, .unset, .unset] [(.int (1 : Int32)), (.ref b1)])) ?_ (fun _ kk_ => XS.lstore X73.here hx rfl (hb hby at_189) rfl (l' := #[iv p0, iv p1, iv p2, jv p3, .second, jv p4, .second, iv (Int32.ofNat N), iv (Int32.ofNat I), iv (Int32.ofNat J), iv (Int32.ofNat (N / 10)), rv b1, iv (0 : Int32), iv (0 : Int32), iv (Int32.ofNat (N - N / 10)), iv (0 : Int32), iv (1 : Int32), jv (0 : Int64), .second, jv (mnJ (0 : Int64) (0 : Int64)), .second, jv (mxJ (0 : Int64) (0 : Int64)), .second, .unset, .unset, .unset, .unset]) rfl (XS.iload X73.here hx rfl (hb hby at_191) rfl  (XS.ifYes X73.here hx rfl (pc0 := 193) (pc' := 212) rfl (hb hby at_193) rfl ((if0 _ _).trans (teq ((by decide) : (0 : Int32) = (0 : Int32))).1) (by decide) (by decide) (XS.iload X73.here hx rfl (hb hby at_212) rfl  (XS.ifYes X73.here hx rfl (pc0 := 214) (pc' := 235) rfl (hb hby at_214) rfl ((if0 _ _).trans (teq ((by decide) : (0 : Int32) = (0 : Int32))).1) (by decide) (by decide) (XS.aload X73.here hx rfl (hb hby at_235) rfl rfl  (XS.iconst X73.here hx rfl (hb hby at_237) kk_)))))))
          have f75 := (f16.keep K15)
          have f76 := (f14.keep K15 (ninS ne_bt nin0))
          have f77 := ((Fs6.keep K9 (ninS ne_bt nin0)).keep K15 (ninS ne_bt nin0))
          refine Go.callV (y := (⟨"com/example/libdgram/libdgram/cli/Latencies", "percentile", "(I)J"⟩ : MethodName)) (z := (⟨"com/example/libdgram/libdgram/cli/Latencies", "percentile", "(I)J"⟩ : MethodName)) X73 hx hZ hown (hw _ (List.mem_of_getElem? (i := 30) rfl)) (hw _ (List.mem_of_getElem? (i := 31) rfl)) (notFace_of_selects (args := #[]) (mvT hZ (hw _ (List.mem_of_getElem? (i := 33) rfl)))) (hw _ (List.mem_of_getElem? (i := 33) rfl)) (hw _ (List.mem_of_getElem? (i := 32) rfl)) (hw _ (List.mem_of_getElem? (i := 3) rfl)) (hw _ (List.mem_of_getElem? (i := 34) rfl)) (by decide) 0 (rm_pe1 l Z a0 hw [] b1 t (N - N / 10) (fS (N / 10) J p4 (fS (N / 10) I p3 (fun _ => 0))) n0 T15.heap Z18 (by omega) V15 g_t (by omega) f75 f76 f77 g_b1 ne_bt) e73 (by decide) (by decide) (by decide) (by decide) f75 (argsL := [(.int (1 : Int32))]) (rest := []) rfl (by rw [hml]; rfl) (lenOf pd__28I_29J rfl) rfl rfl (by show 2 * 0 + _ ≤ _; exact Nat.le_of_eq rfl) (hb hby at_238) ?_
          rintro _ T78 L78 X78 ⟨N78, K78, Fs78, Fn78, f', S78, rfl, V78⟩
          have N79 := Fr.app N74 N78
          have Z80 : n0 ≤ T78.heap.size := Nat.le_trans Z18 K78.1
          show Go p e below _ T78 (mkF m 241 #[iv p0, iv p1, iv p2, jv p3, .second, jv p4, .second, iv (Int32.ofNat N), iv (Int32.ofNat I), iv (Int32.ofNat J), iv (Int32.ofNat (N / 10)), rv b1, iv (0 : Int32), iv (0 : Int32), iv (Int32.ofNat (N - N / 10)), iv (0 : Int32), iv (1 : Int32), jv (0 : Int64), .second, jv (mnJ (0 : Int64) (0 : Int64)), .second, jv (mxJ (0 : Int64) (0 : Int64)), .second, .unset, .unset, .unset, .unset] [(.long (f' 0))])
          refine Go.st (T' := T78) (g' := (mkF m 247 #[iv p0, iv p1, iv p2, jv p3, .second, jv p4, .second, iv (Int32.ofNat N), iv (Int32.ofNat I), iv (Int32.ofNat J), iv (Int32.ofNat (N / 10)), rv b1, iv (0 : Int32), iv (0 : Int32), iv (Int32.ofNat (N - N / 10)), iv (0 : Int32), iv (1 : Int32), jv (0 : Int64), .second, jv (mnJ (0 : Int64) (0 : Int64)), .second, jv (mxJ (0 : Int64) (0 : Int64)), .second, jv (f' 0), .second, .unset, .unset] [(.int (100 : Int32)), (.ref b1)])) ?_ (fun _ kk_ => XS.lstore X78.here hx rfl (hb hby at_241) rfl (l' := #[iv p0, iv p1, iv p2, jv p3, .second, jv p4, .second, iv (Int32.ofNat N), iv (Int32.ofNat I), iv (Int32.ofNat J), iv (Int32.ofNat (N / 10)), rv b1, iv (0 : Int32), iv (0 : Int32), iv (Int32.ofNat (N - N / 10)), iv (0 : Int32), iv (1 : Int32), jv (0 : Int64), .second, jv (mnJ (0 : Int64) (0 : Int64)), .second, jv (mxJ (0 : Int64) (0 : Int64)), .second, jv (f' 0), .second, .unset, .unset]) rfl (XS.aload X78.here hx rfl (hb hby at_243) rfl rfl  (XS.bipush X78.here hx rfl (hb hby at_245) kk_)))
          have f82 := (f75.keep K78)
          refine Go.callV (y := (⟨"com/example/libdgram/libdgram/cli/Latencies", "percentile", "(I)J"⟩ : MethodName)) (z := (⟨"com/example/libdgram/libdgram/cli/Latencies", "percentile", "(I)J"⟩ : MethodName)) X78 hx hZ hown (hw _ (List.mem_of_getElem? (i := 30) rfl)) (hw _ (List.mem_of_getElem? (i := 31) rfl)) (notFace_of_selects (args := #[]) (mvT hZ (hw _ (List.mem_of_getElem? (i := 33) rfl)))) (hw _ (List.mem_of_getElem? (i := 33) rfl)) (hw _ (List.mem_of_getElem? (i := 32) rfl)) (hw _ (List.mem_of_getElem? (i := 3) rfl)) (hw _ (List.mem_of_getElem? (i := 34) rfl)) (by decide) 0 (rm_pe2 l Z a0 hw [] b1 t (N - N / 10) f' T78.heap (by omega) V78 (by omega) Fn78 Fs78) rfl (by decide) (by decide) (by decide) (by decide) f82 (argsL := [(.int (100 : Int32))]) (rest := []) rfl (by rw [hml]; rfl) (lenOf pd__28I_29J rfl) rfl rfl (by show 2 * 0 + _ ≤ _; exact Nat.le_of_eq rfl) (hb hby at_247) ?_
          rintro _ T81 L81 X81 ⟨rfl, e81, rfl⟩
          have N83 := Fr.app N79 (Fr.nil _)
          show Go p e below _ T81 (mkF m 250 #[iv p0, iv p1, iv p2, jv p3, .second, jv p4, .second, iv (Int32.ofNat N), iv (Int32.ofNat I), iv (Int32.ofNat J), iv (Int32.ofNat (N / 10)), rv b1, iv (0 : Int32), iv (0 : Int32), iv (Int32.ofNat (N - N / 10)), iv (0 : Int32), iv (1 : Int32), jv (0 : Int64), .second, jv (mnJ (0 : Int64) (0 : Int64)), .second, jv (mxJ (0 : Int64) (0 : Int64)), .second, jv (f' 0), .second, .unset, .unset] [(.long (f' (N - N / 10 - 1)))])
          have hv1 : ∀ y ∈ [(0 : Int64), (0 : Int64)], ∃ q, q < N - N / 10 ∧ (fS (N / 10) J p4 (fS (N / 10) I p3 (fun _ => 0))) q = y := by
            intro y hy
            simp only [List.mem_cons, List.not_mem_nil, or_false] at hy
            rcases hy with h | h
            · obtain ⟨r, r1⟩ : ∃ r, r < N - N / 10 := ⟨0, by omega⟩
              exact ⟨r, r1, by unfold fS; rw [if_neg (by omega), if_neg (by omega), h]⟩
            · obtain ⟨r, r1⟩ : ∃ r, r < N - N / 10 := ⟨0, by omega⟩
              exact ⟨r, r1, by unfold fS; rw [if_neg (by omega), if_neg (by omega), h]⟩
          have hv2 : ∀ q, q < N - N / 10 → (fS (N / 10) J p4 (fS (N / 10) I p3 (fun _ => 0))) q ∈ [(0 : Int64), (0 : Int64)] := fun q hq => by unfold fS; split <;> (try split) <;> first | (simp; done) | (exfalso; omega)
          have hlo : f' 0 = (mnJ (0 : Int64) (0 : Int64)) := own_low1 (own_low S78 (by omega)) (own_LowL hv1 hv2 (LowL.mn (LowL.one (0 : Int64)) (0 : Int64)))
          have hhi : f' (N - N / 10 - 1) = (mxJ (0 : Int64) (0 : Int64)) := own_hig1 (own_hig S78 (by omega)) (own_HigL hv1 hv2 (HigL.mx (HigL.one (0 : Int64)) (0 : Int64)))
          refine Go.st (T' := T81) (g' := (mkF m 273 #[iv p0, iv p1, iv p2, jv p3, .second, jv p4, .second, iv (Int32.ofNat N), iv (Int32.ofNat I), iv (Int32.ofNat J), iv (Int32.ofNat (N / 10)), rv b1, iv (0 : Int32), iv (0 : Int32), iv (Int32.ofNat (N - N / 10)), iv (0 : Int32), iv (1 : Int32), jv (0 : Int64), .second, jv (mnJ (0 : Int64) (0 : Int64)), .second, jv (mxJ (0 : Int64) (0 : Int64)), .second, jv (f' 0), .second, jv (f' (N - N / 10 - 1)), .second] [(.int (1 : Int32))])) ?_ (fun _ kk_ => XS.lstore X81.here hx rfl (hb hby at_250) rfl (l' := #[iv p0, iv p1, iv p2, jv p3, .second, jv p4, .second, iv (Int32.ofNat N), iv (Int32.ofNat I), iv (Int32.ofNat J), iv (Int32.ofNat (N / 10)), rv b1, iv (0 : Int32), iv (0 : Int32), iv (Int32.ofNat (N - N / 10)), iv (0 : Int32), iv (1 : Int32), jv (0 : Int64), .second, jv (mnJ (0 : Int64) (0 : Int64)), .second, jv (mxJ (0 : Int64) (0 : Int64)), .second, jv (f' 0), .second, jv (f' (N - N / 10 - 1)), .second]) rfl (XS.lload X81.here hx rfl (hb hby at_252) rfl  (XS.lload X81.here hx rfl (hb hby at_254) rfl  (XS.lcmp X81.here hx rfl (hb hby at_256) rfl (XS.ifNo X81.here hx rfl (hb hby at_257) rfl ((if0 _ _).trans (teq (((lw_eq _ _).mpr hlo) : (lcmpW (f' 0) (mnJ (0 : Int64) (0 : Int64))) = (0 : Int32))).2) (XS.lload X81.here hx rfl (hb hby at_260) rfl  (XS.lload X81.here hx rfl (hb hby at_262) rfl  (XS.lcmp X81.here hx rfl (hb hby at_264) rfl (XS.ifNo X81.here hx rfl (hb hby at_265) rfl ((if0 _ _).trans (teq (((lw_eq _ _).mpr hhi) : (lcmpW (f' (N - N / 10 - 1)) (mxJ (0 : Int64) (0 : Int64))) = (0 : Int32))).2) (XS.iconst X81.here hx rfl (hb hby at_268) (XS.goto X81.here hx rfl (pc0 := 269) (pc' := 273) rfl (hb hby at_269) (by decide) (by decide) kk_)))))))))))
          refine Go.retN X81 hx hlk (t := .boolean) hret (by simp) (z' := (1 : Int32)) rfl (hb hby at_273) (by decide) (by decide) ?_
          try rw [e81]
          exact ⟨rfl, N83⟩
        ·
          refine Go.st (T' := T15) (g' := (mkF m 137 #[iv p0, iv p1, iv p2, jv p3, .second, jv p4, .second, iv (Int32.ofNat N), iv (Int32.ofNat I), iv (Int32.ofNat J), iv (Int32.ofNat (N / 10)), rv b1, iv (0 : Int32), iv (0 : Int32), iv (Int32.ofNat (N - N / 10)), iv (0 : Int32), .unset, .unset, .unset, .unset, .unset, .unset, .unset, .unset, .unset, .unset, .unset] [])) ?_ (fun _ kk_ => XS.icmpYes X15.here hx rfl (pc0 := 130) (pc' := 137) rfl (hb hby at_130) rfl (flt (hz : ¬ ((0 : Int32) < (Int32.ofNat (N - N / 10))))).2.2.2 (by decide) (by decide) kk_)
          have hz2 : ¬ (0 < N - N / 10) := fun z => hz ((own_lt (i := 0) (by decide) (by omega)).mpr z)
          refine Go.st (T' := T15) (g' := (mkF m 191 #[iv p0, iv p1, iv p2, jv p3, .second, jv p4, .second, iv (Int32.ofNat N), iv (Int32.ofNat I), iv (Int32.ofNat J), iv (Int32.ofNat (N / 10)), rv b1, iv (0 : Int32), iv (0 : Int32), iv (Int32.ofNat (N - N / 10)), iv (0 : Int32), iv (0 : Int32), jv (0 : Int64), .second, jv (0 : Int64), .second, jv (0 : Int64), .second, .unset, .unset, .unset, .unset] [])) ?_ (fun _ kk_ => XS.iconst X15.here hx rfl (hb hby at_137) (XS.istore X15.here hx rfl (hb hby at_138) rfl (l' := #[iv p0, iv p1, iv p2, jv p3, .second, jv p4, .second, iv (Int32.ofNat N), iv (Int32.ofNat I), iv (Int32.ofNat J), iv (Int32.ofNat (N / 10)), rv b1, iv (0 : Int32), iv (0 : Int32), iv (Int32.ofNat (N - N / 10)), iv (0 : Int32), iv (0 : Int32), .unset, .unset, .unset, .unset, .unset, .unset, .unset, .unset, .unset, .unset]) rfl (XS.iload X15.here hx rfl (hb hby at_140) rfl  (XS.ifYes X15.here hx rfl (pc0 := 142) (pc' := 150) rfl (hb hby at_142) rfl ((if0 _ _).trans (teq ((by decide) : (0 : Int32) = (0 : Int32))).1) (by decide) (by decide) (XS.iload X15.here hx rfl (hb hby at_150) rfl  (XS.ifYes X15.here hx rfl (pc0 := 152) (pc' := 159) rfl (hb hby at_152) rfl ((if0 _ _).trans (teq ((by decide) : (0 : Int32) = (0 : Int32))).1) (by decide) (by decide) (XS.lconst X15.here hx rfl (hb hby at_159) (XS.lstore X15.here hx rfl (hb hby at_160) rfl (l' := #[iv p0, iv p1, iv p2, jv p3, .second, jv p4, .second, iv (Int32.ofNat N), iv (Int32.ofNat I), iv (Int32.ofNat J), iv (Int32.ofNat (N / 10)), rv b1, iv (0 : Int32), iv (0 : Int32), iv (Int32.ofNat (N - N / 10)), iv (0 : Int32), iv (0 : Int32), jv (0 : Int64), .second, .unset, .unset, .unset, .unset, .unset, .unset, .unset, .unset]) rfl (XS.lload X15.here hx rfl (hb hby at_162) rfl  (XS.lstore X15.here hx rfl (hb hby at_164) rfl (l' := #[iv p0, iv p1, iv p2, jv p3, .second, jv p4, .second, iv (Int32.ofNat N), iv (Int32.ofNat I), iv (Int32.ofNat J), iv (Int32.ofNat (N / 10)), rv b1, iv (0 : Int32), iv (0 : Int32), iv (Int32.ofNat (N - N / 10)), iv (0 : Int32), iv (0 : Int32), jv (0 : Int64), .second, jv (0 : Int64), .second, .unset, .unset, .unset, .unset, .unset, .unset]) rfl (XS.lload X15.here hx rfl (hb hby at_166) rfl  (XS.lstore X15.here hx rfl (hb hby at_168) rfl (l' := #[iv p0, iv p1, iv p2, jv p3, .second, jv p4, .second, iv (Int32.ofNat N), iv (Int32.ofNat I), iv (Int32.ofNat J), iv (Int32.ofNat (N / 10)), rv b1, iv (0 : Int32), iv (0 : Int32), iv (Int32.ofNat (N - N / 10)), iv (0 : Int32), iv (0 : Int32), jv (0 : Int64), .second, jv (0 : Int64), .second, jv (0 : Int64), .second, .unset, .unset, .unset, .unset]) rfl (XS.iload X15.here hx rfl (hb hby at_170) rfl  (XS.ifYes X15.here hx rfl (pc0 := 172) (pc' := 191) rfl (hb hby at_172) rfl ((if0 _ _).trans (teq ((by decide) : (0 : Int32) = (0 : Int32))).1) (by decide) (by decide) kk_))))))))))))))
          refine Go.st (T' := T15) (g' := (mkF m 238 #[iv p0, iv p1, iv p2, jv p3, .second, jv p4, .second, iv (Int32.ofNat N), iv (Int32.ofNat I), iv (Int32.ofNat J), iv (Int32.ofNat (N / 10)), rv b1, iv (0 : Int32), iv (0 : Int32), iv (Int32.ofNat (N - N / 10)), iv (0 : Int32), iv (0 : Int32), jv (0 : Int64), .second, jv (0 : Int64), .second, jv (0 : Int64), .second, .unset, .unset, .unset, .unset] [(.int (1 : Int32)), (.ref b1)])) ?_ (fun _ kk_ => XS.iload X15.here hx rfl (hb hby at_191) rfl  (XS.ifYes X15.here hx rfl (pc0 := 193) (pc' := 212) rfl (hb hby at_193) rfl ((if0 _ _).trans (teq ((by decide) : (0 : Int32) = (0 : Int32))).1) (by decide) (by decide) (XS.iload X15.here hx rfl (hb hby at_212) rfl  (XS.ifYes X15.here hx rfl (pc0 := 214) (pc' := 235) rfl (hb hby at_214) rfl ((if0 _ _).trans (teq ((by decide) : (0 : Int32) = (0 : Int32))).1) (by decide) (by decide) (XS.aload X15.here hx rfl (hb hby at_235) rfl rfl  (XS.iconst X15.here hx rfl (hb hby at_237) kk_))))))
          have f84 := (f16.keep K15)
          have f85 := (f14.keep K15 (ninS ne_bt nin0))
          have f86 := ((Fs6.keep K9 (ninS ne_bt nin0)).keep K15 (ninS ne_bt nin0))
          refine Go.callV (y := (⟨"com/example/libdgram/libdgram/cli/Latencies", "percentile", "(I)J"⟩ : MethodName)) (z := (⟨"com/example/libdgram/libdgram/cli/Latencies", "percentile", "(I)J"⟩ : MethodName)) X15 hx hZ hown (hw _ (List.mem_of_getElem? (i := 30) rfl)) (hw _ (List.mem_of_getElem? (i := 31) rfl)) (notFace_of_selects (args := #[]) (mvT hZ (hw _ (List.mem_of_getElem? (i := 33) rfl)))) (hw _ (List.mem_of_getElem? (i := 33) rfl)) (hw _ (List.mem_of_getElem? (i := 32) rfl)) (hw _ (List.mem_of_getElem? (i := 3) rfl)) (hw _ (List.mem_of_getElem? (i := 34) rfl)) (by decide) 0 (rm_pe1 l Z a0 hw [] b1 t (N - N / 10) (fS (N / 10) J p4 (fS (N / 10) I p3 (fun _ => 0))) n0 T15.heap Z18 (by omega) V15 g_t (by omega) f84 f85 f86 g_b1 ne_bt) rfl (by decide) (by decide) (by decide) (by decide) f84 (argsL := [(.int (1 : Int32))]) (rest := []) rfl (by rw [hml]; rfl) (lenOf pd__28I_29J rfl) rfl rfl (by show 2 * 0 + _ ≤ _; exact Nat.le_of_eq rfl) (hb hby at_238) ?_
          rintro _ T87 L87 X87 ⟨N87, K87, Fs87, Fn87, f', S87, rfl, V87⟩
          have N88 := Fr.app N17 N87
          have Z89 : n0 ≤ T87.heap.size := Nat.le_trans Z18 K87.1
          show Go p e below _ T87 (mkF m 241 #[iv p0, iv p1, iv p2, jv p3, .second, jv p4, .second, iv (Int32.ofNat N), iv (Int32.ofNat I), iv (Int32.ofNat J), iv (Int32.ofNat (N / 10)), rv b1, iv (0 : Int32), iv (0 : Int32), iv (Int32.ofNat (N - N / 10)), iv (0 : Int32), iv (0 : Int32), jv (0 : Int64), .second, jv (0 : Int64), .second, jv (0 : Int64), .second, .unset, .unset, .unset, .unset] [(.long (f' 0))])
          refine Go.st (T' := T87) (g' := (mkF m 247 #[iv p0, iv p1, iv p2, jv p3, .second, jv p4, .second, iv (Int32.ofNat N), iv (Int32.ofNat I), iv (Int32.ofNat J), iv (Int32.ofNat (N / 10)), rv b1, iv (0 : Int32), iv (0 : Int32), iv (Int32.ofNat (N - N / 10)), iv (0 : Int32), iv (0 : Int32), jv (0 : Int64), .second, jv (0 : Int64), .second, jv (0 : Int64), .second, jv (f' 0), .second, .unset, .unset] [(.int (100 : Int32)), (.ref b1)])) ?_ (fun _ kk_ => XS.lstore X87.here hx rfl (hb hby at_241) rfl (l' := #[iv p0, iv p1, iv p2, jv p3, .second, jv p4, .second, iv (Int32.ofNat N), iv (Int32.ofNat I), iv (Int32.ofNat J), iv (Int32.ofNat (N / 10)), rv b1, iv (0 : Int32), iv (0 : Int32), iv (Int32.ofNat (N - N / 10)), iv (0 : Int32), iv (0 : Int32), jv (0 : Int64), .second, jv (0 : Int64), .second, jv (0 : Int64), .second, jv (f' 0), .second, .unset, .unset]) rfl (XS.aload X87.here hx rfl (hb hby at_243) rfl rfl  (XS.bipush X87.here hx rfl (hb hby at_245) kk_)))
          have f91 := (f84.keep K87)
          refine Go.callV (y := (⟨"com/example/libdgram/libdgram/cli/Latencies", "percentile", "(I)J"⟩ : MethodName)) (z := (⟨"com/example/libdgram/libdgram/cli/Latencies", "percentile", "(I)J"⟩ : MethodName)) X87 hx hZ hown (hw _ (List.mem_of_getElem? (i := 30) rfl)) (hw _ (List.mem_of_getElem? (i := 31) rfl)) (notFace_of_selects (args := #[]) (mvT hZ (hw _ (List.mem_of_getElem? (i := 33) rfl)))) (hw _ (List.mem_of_getElem? (i := 33) rfl)) (hw _ (List.mem_of_getElem? (i := 32) rfl)) (hw _ (List.mem_of_getElem? (i := 3) rfl)) (hw _ (List.mem_of_getElem? (i := 34) rfl)) (by decide) 0 (rm_pe2 l Z a0 hw [] b1 t (N - N / 10) f' T87.heap (by omega) V87 (by omega) Fn87 Fs87) rfl (by decide) (by decide) (by decide) (by decide) f91 (argsL := [(.int (100 : Int32))]) (rest := []) rfl (by rw [hml]; rfl) (lenOf pd__28I_29J rfl) rfl rfl (by show 2 * 0 + _ ≤ _; exact Nat.le_of_eq rfl) (hb hby at_247) ?_
          rintro _ T90 L90 X90 ⟨rfl, e90, rfl⟩
          have N92 := Fr.app N88 (Fr.nil _)
          show Go p e below _ T90 (mkF m 250 #[iv p0, iv p1, iv p2, jv p3, .second, jv p4, .second, iv (Int32.ofNat N), iv (Int32.ofNat I), iv (Int32.ofNat J), iv (Int32.ofNat (N / 10)), rv b1, iv (0 : Int32), iv (0 : Int32), iv (Int32.ofNat (N - N / 10)), iv (0 : Int32), iv (0 : Int32), jv (0 : Int64), .second, jv (0 : Int64), .second, jv (0 : Int64), .second, jv (f' 0), .second, .unset, .unset] [(.long (f' (N - N / 10 - 1)))])
          have hv1 : ∀ y ∈ [(0 : Int64)], ∃ q, q < N - N / 10 ∧ (fS (N / 10) J p4 (fS (N / 10) I p3 (fun _ => 0))) q = y := by
            intro y hy
            simp only [List.mem_cons, List.not_mem_nil, or_false] at hy
            have h := hy
            · obtain ⟨r, r1⟩ : ∃ r, r < N - N / 10 := ⟨0, by omega⟩
              exact ⟨r, r1, by unfold fS; rw [if_neg (by omega), if_neg (by omega), h]⟩
          have hv2 : ∀ q, q < N - N / 10 → (fS (N / 10) J p4 (fS (N / 10) I p3 (fun _ => 0))) q ∈ [(0 : Int64)] := fun q hq => by unfold fS; split <;> (try split) <;> first | (simp; done) | (exfalso; omega)
          have hlo : f' 0 = (0 : Int64) := own_low1 (own_low S87 (by omega)) (own_LowL hv1 hv2 (LowL.one (0 : Int64)))
          have hhi : f' (N - N / 10 - 1) = (0 : Int64) := own_hig1 (own_hig S87 (by omega)) (own_HigL hv1 hv2 (HigL.one (0 : Int64)))
          refine Go.st (T' := T90) (g' := (mkF m 273 #[iv p0, iv p1, iv p2, jv p3, .second, jv p4, .second, iv (Int32.ofNat N), iv (Int32.ofNat I), iv (Int32.ofNat J), iv (Int32.ofNat (N / 10)), rv b1, iv (0 : Int32), iv (0 : Int32), iv (Int32.ofNat (N - N / 10)), iv (0 : Int32), iv (0 : Int32), jv (0 : Int64), .second, jv (0 : Int64), .second, jv (0 : Int64), .second, jv (f' 0), .second, jv (f' (N - N / 10 - 1)), .second] [(.int (1 : Int32))])) ?_ (fun _ kk_ => XS.lstore X90.here hx rfl (hb hby at_250) rfl (l' := #[iv p0, iv p1, iv p2, jv p3, .second, jv p4, .second, iv (Int32.ofNat N), iv (Int32.ofNat I), iv (Int32.ofNat J), iv (Int32.ofNat (N / 10)), rv b1, iv (0 : Int32), iv (0 : Int32), iv (Int32.ofNat (N - N / 10)), iv (0 : Int32), iv (0 : Int32), jv (0 : Int64), .second, jv (0 : Int64), .second, jv (0 : Int64), .second, jv (f' 0), .second, jv (f' (N - N / 10 - 1)), .second]) rfl (XS.lload X90.here hx rfl (hb hby at_252) rfl  (XS.lload X90.here hx rfl (hb hby at_254) rfl  (XS.lcmp X90.here hx rfl (hb hby at_256) rfl (XS.ifNo X90.here hx rfl (hb hby at_257) rfl ((if0 _ _).trans (teq (((lw_eq _ _).mpr hlo) : (lcmpW (f' 0) (0 : Int64)) = (0 : Int32))).2) (XS.lload X90.here hx rfl (hb hby at_260) rfl  (XS.lload X90.here hx rfl (hb hby at_262) rfl  (XS.lcmp X90.here hx rfl (hb hby at_264) rfl (XS.ifNo X90.here hx rfl (hb hby at_265) rfl ((if0 _ _).trans (teq (((lw_eq _ _).mpr hhi) : (lcmpW (f' (N - N / 10 - 1)) (0 : Int64)) = (0 : Int32))).2) (XS.iconst X90.here hx rfl (hb hby at_268) (XS.goto X90.here hx rfl (pc0 := 269) (pc' := 273) rfl (hb hby at_269) (by decide) (by decide) kk_)))))))))))
          refine Go.retN X90 hx hlk (t := .boolean) hret (by simp) (z' := (1 : Int32)) rfl (hb hby at_273) (by decide) (by decide) ?_
          try rw [e90]
          exact ⟨rfl, N92⟩
      ·
        refine Go.st (T' := T15) (g' := (mkF m 89 #[iv p0, iv p1, iv p2, jv p3, .second, jv p4, .second, iv (Int32.ofNat N), iv (Int32.ofNat I), iv (Int32.ofNat J), iv (Int32.ofNat (N / 10)), rv b1, iv (0 : Int32), .unset, .unset, .unset, .unset, .unset, .unset, .unset, .unset, .unset, .unset, .unset, .unset, .unset, .unset] [])) ?_ (fun _ kk_ => XS.icmpNo X15.here hx rfl (hb hby at_86) rfl (flt (hj : ¬ ((Int32.ofNat J) < (Int32.ofNat (N / 10))))).1 kk_)
        have hj2 : ¬ J < N / 10 := fun z => hj ((own_lt (show J < 2 ^ 31 by omega) (show N / 10 < 2 ^ 31 by omega)).mpr z)
        refine Go.st (T' := T15) (g' := (mkF m 101 #[iv p0, iv p1, iv p2, jv p3, .second, jv p4, .second, iv (Int32.ofNat N), iv (Int32.ofNat I), iv (Int32.ofNat J), iv (Int32.ofNat (N / 10)), rv b1, iv (0 : Int32), iv (1 : Int32), .unset, .unset, .unset, .unset, .unset, .unset, .unset, .unset, .unset, .unset, .unset, .unset, .unset] [(.int ((Int32.ofNat N) - (Int32.ofNat (N / 10))))])) ?_ (fun _ kk_ => XS.iconst X15.here hx rfl (hb hby at_89) (XS.goto X15.here hx rfl (pc0 := 90) (pc' := 94) rfl (hb hby at_90) (by decide) (by decide) (XS.istore X15.here hx rfl (hb hby at_94) rfl (l' := #[iv p0, iv p1, iv p2, jv p3, .second, jv p4, .second, iv (Int32.ofNat N), iv (Int32.ofNat I), iv (Int32.ofNat J), iv (Int32.ofNat (N / 10)), rv b1, iv (0 : Int32), iv (1 : Int32), .unset, .unset, .unset, .unset, .unset, .unset, .unset, .unset, .unset, .unset, .unset, .unset, .unset]) rfl (XS.iload X15.here hx rfl (hb hby at_96) rfl  (XS.iload X15.here hx rfl (hb hby at_98) rfl  (XS.isub X15.here hx rfl (hb hby at_100) rfl kk_))))))
        rw [show Int32.ofNat N - Int32.ofNat (N / 10) = Int32.ofNat (N - N / 10) from own_sub (by omega)]
        show Go p e below _ T15 (mkF m 101 #[iv p0, iv p1, iv p2, jv p3, .second, jv p4, .second, iv (Int32.ofNat N), iv (Int32.ofNat I), iv (Int32.ofNat J), iv (Int32.ofNat (N / 10)), rv b1, iv (0 : Int32), iv (1 : Int32), .unset, .unset, .unset, .unset, .unset, .unset, .unset, .unset, .unset, .unset, .unset, .unset, .unset] [(.int (Int32.ofNat (N - N / 10)))])
        refine Go.st (T' := T15) (g' := (mkF m 130 #[iv p0, iv p1, iv p2, jv p3, .second, jv p4, .second, iv (Int32.ofNat N), iv (Int32.ofNat I), iv (Int32.ofNat J), iv (Int32.ofNat (N / 10)), rv b1, iv (0 : Int32), iv (1 : Int32), iv (Int32.ofNat (N - N / 10)), iv (1 : Int32), .unset, .unset, .unset, .unset, .unset, .unset, .unset, .unset, .unset, .unset, .unset] [(.int (1 : Int32)), (.int (Int32.ofNat (N - N / 10)))])) ?_ (fun _ kk_ => XS.istore X15.here hx rfl (hb hby at_101) rfl (l' := #[iv p0, iv p1, iv p2, jv p3, .second, jv p4, .second, iv (Int32.ofNat N), iv (Int32.ofNat I), iv (Int32.ofNat J), iv (Int32.ofNat (N / 10)), rv b1, iv (0 : Int32), iv (1 : Int32), iv (Int32.ofNat (N - N / 10)), .unset, .unset, .unset, .unset, .unset, .unset, .unset, .unset, .unset, .unset, .unset, .unset]) rfl (XS.iload X15.here hx rfl (hb hby at_103) rfl  (XS.ifYes X15.here hx rfl (pc0 := 105) (pc' := 112) rfl (hb hby at_105) rfl ((if0 _ _).trans (teq ((by decide) : (0 : Int32) = (0 : Int32))).1) (by decide) (by decide) (XS.iconst X15.here hx rfl (hb hby at_112) (XS.iload X15.here hx rfl (hb hby at_113) rfl  (XS.ifNo X15.here hx rfl (hb hby at_115) rfl ((if0 _ _).trans (feq ((by decide) : ¬ ((1 : Int32) = (0 : Int32)))).1) (XS.iconst X15.here hx rfl (hb hby at_118) (XS.goto X15.here hx rfl (pc0 := 119) (pc' := 123) rfl (hb hby at_119) (by decide) (by decide) (XS.iadd X15.here hx rfl (hb hby at_123) rfl (XS.istore X15.here hx rfl (hb hby at_124) rfl (l' := #[iv p0, iv p1, iv p2, jv p3, .second, jv p4, .second, iv (Int32.ofNat N), iv (Int32.ofNat I), iv (Int32.ofNat J), iv (Int32.ofNat (N / 10)), rv b1, iv (0 : Int32), iv (1 : Int32), iv (Int32.ofNat (N - N / 10)), iv (1 : Int32), .unset, .unset, .unset, .unset, .unset, .unset, .unset, .unset, .unset, .unset, .unset]) rfl (XS.iload X15.here hx rfl (hb hby at_126) rfl  (XS.iload X15.here hx rfl (hb hby at_128) rfl  kk_))))))))))))
        by_cases hz : (1 : Int32) < (Int32.ofNat (N - N / 10))
        ·
          refine Go.st (T' := T15) (g' := (mkF m 133 #[iv p0, iv p1, iv p2, jv p3, .second, jv p4, .second, iv (Int32.ofNat N), iv (Int32.ofNat I), iv (Int32.ofNat J), iv (Int32.ofNat (N / 10)), rv b1, iv (0 : Int32), iv (1 : Int32), iv (Int32.ofNat (N - N / 10)), iv (1 : Int32), .unset, .unset, .unset, .unset, .unset, .unset, .unset, .unset, .unset, .unset, .unset] [])) ?_ (fun _ kk_ => XS.icmpNo X15.here hx rfl (hb hby at_130) rfl (tlt (hz : (1 : Int32) < (Int32.ofNat (N - N / 10)))).2.2.2 kk_)
          have hz2 : 1 < N - N / 10 := (own_lt (i := 1) (by decide) (by omega)).mp hz
          refine Go.st (T' := T15) (g' := (mkF m 175 #[iv p0, iv p1, iv p2, jv p3, .second, jv p4, .second, iv (Int32.ofNat N), iv (Int32.ofNat I), iv (Int32.ofNat J), iv (Int32.ofNat (N / 10)), rv b1, iv (0 : Int32), iv (1 : Int32), iv (Int32.ofNat (N - N / 10)), iv (1 : Int32), iv (1 : Int32), jv p4, .second, jv p4, .second, jv p4, .second, .unset, .unset, .unset, .unset] [])) ?_ (fun _ kk_ => XS.iconst X15.here hx rfl (hb hby at_133) (XS.goto X15.here hx rfl (pc0 := 134) (pc' := 138) rfl (hb hby at_134) (by decide) (by decide) (XS.istore X15.here hx rfl (hb hby at_138) rfl (l' := #[iv p0, iv p1, iv p2, jv p3, .second, jv p4, .second, iv (Int32.ofNat N), iv (Int32.ofNat I), iv (Int32.ofNat J), iv (Int32.ofNat (N / 10)), rv b1, iv (0 : Int32), iv (1 : Int32), iv (Int32.ofNat (N - N / 10)), iv (1 : Int32), iv (1 : Int32), .unset, .unset, .unset, .unset, .unset, .unset, .unset, .unset, .unset, .unset]) rfl (XS.iload X15.here hx rfl (hb hby at_140) rfl  (XS.ifNo X15.here hx rfl (hb hby at_142) rfl ((if0 _ _).trans (feq ((by decide) : ¬ ((1 : Int32) = (0 : Int32)))).1) (XS.lload X15.here hx rfl (hb hby at_145) rfl  (XS.goto X15.here hx rfl (pc0 := 147) (pc' := 160) rfl (hb hby at_147) (by decide) (by decide) (XS.lstore X15.here hx rfl (hb hby at_160) rfl (l' := #[iv p0, iv p1, iv p2, jv p3, .second, jv p4, .second, iv (Int32.ofNat N), iv (Int32.ofNat I), iv (Int32.ofNat J), iv (Int32.ofNat (N / 10)), rv b1, iv (0 : Int32), iv (1 : Int32), iv (Int32.ofNat (N - N / 10)), iv (1 : Int32), iv (1 : Int32), jv p4, .second, .unset, .unset, .unset, .unset, .unset, .unset, .unset, .unset]) rfl (XS.lload X15.here hx rfl (hb hby at_162) rfl  (XS.lstore X15.here hx rfl (hb hby at_164) rfl (l' := #[iv p0, iv p1, iv p2, jv p3, .second, jv p4, .second, iv (Int32.ofNat N), iv (Int32.ofNat I), iv (Int32.ofNat J), iv (Int32.ofNat (N / 10)), rv b1, iv (0 : Int32), iv (1 : Int32), iv (Int32.ofNat (N - N / 10)), iv (1 : Int32), iv (1 : Int32), jv p4, .second, jv p4, .second, .unset, .unset, .unset, .unset, .unset, .unset]) rfl (XS.lload X15.here hx rfl (hb hby at_166) rfl  (XS.lstore X15.here hx rfl (hb hby at_168) rfl (l' := #[iv p0, iv p1, iv p2, jv p3, .second, jv p4, .second, iv (Int32.ofNat N), iv (Int32.ofNat I), iv (Int32.ofNat J), iv (Int32.ofNat (N / 10)), rv b1, iv (0 : Int32), iv (1 : Int32), iv (Int32.ofNat (N - N / 10)), iv (1 : Int32), iv (1 : Int32), jv p4, .second, jv p4, .second, jv p4, .second, .unset, .unset, .unset, .unset]) rfl (XS.iload X15.here hx rfl (hb hby at_170) rfl  (XS.ifNo X15.here hx rfl (hb hby at_172) rfl ((if0 _ _).trans (feq ((by decide) : ¬ ((1 : Int32) = (0 : Int32)))).1) kk_))))))))))))))
          refine Go.st (T' := T15) (g' := (mkF m 178 #[iv p0, iv p1, iv p2, jv p3, .second, jv p4, .second, iv (Int32.ofNat N), iv (Int32.ofNat I), iv (Int32.ofNat J), iv (Int32.ofNat (N / 10)), rv b1, iv (0 : Int32), iv (1 : Int32), iv (Int32.ofNat (N - N / 10)), iv (1 : Int32), iv (1 : Int32), jv p4, .second, jv p4, .second, jv p4, .second, .unset, .unset, .unset, .unset] [(.long (0 : Int64)), (.long p4)])) ?_ (fun _ kk_ => XS.lload X15.here hx rfl (hb hby at_175) rfl  (XS.lconst X15.here hx rfl (hb hby at_177) kk_))
          refine Go.callS (y := (⟨"java/lang/Math", "min", "(JJ)J"⟩ : MethodName)) X15 hx hZ hown (hw _ (List.mem_of_getElem? (i := 24) rfl)) (hw _ (List.mem_of_getElem? (i := 25) rfl)) (hw _ (List.mem_of_getElem? (i := 12) rfl)) (hw _ (List.mem_of_getElem? (i := 26) rfl)) (by decide) 0 (rm_mnJ l Z a0 hw [] p4 (0 : Int64) T15.heap) rfl (by decide) (by decide) (by decide) (by decide) (argsL := [(.long p4), (.long (0 : Int64))]) (rest := []) rfl (by rw [hml]; rfl) (lenOf pd__28JJ_29J rfl) rfl rfl (by show 2 * 0 + _ ≤ _; exact Nat.le_of_eq rfl) (hb hby at_178) ?_
          rintro _ T93 L93 X93 ⟨rfl, e93, rfl⟩
          have N94 := Fr.app N17 (Fr.nil _)
          show Go p e below _ T93 (mkF m 181 #[iv p0, iv p1, iv p2, jv p3, .second, jv p4, .second, iv (Int32.ofNat N), iv (Int32.ofNat I), iv (Int32.ofNat J), iv (Int32.ofNat (N / 10)), rv b1, iv (0 : Int32), iv (1 : Int32), iv (Int32.ofNat (N - N / 10)), iv (1 : Int32), iv (1 : Int32), jv p4, .second, jv p4, .second, jv p4, .second, .unset, .unset, .unset, .unset] [(.long (mnJ p4 (0 : Int64)))])
          refine Go.st (T' := T93) (g' := (mkF m 186 #[iv p0, iv p1, iv p2, jv p3, .second, jv p4, .second, iv (Int32.ofNat N), iv (Int32.ofNat I), iv (Int32.ofNat J), iv (Int32.ofNat (N / 10)), rv b1, iv (0 : Int32), iv (1 : Int32), iv (Int32.ofNat (N - N / 10)), iv (1 : Int32), iv (1 : Int32), jv p4, .second, jv (mnJ p4 (0 : Int64)), .second, jv p4, .second, .unset, .unset, .unset, .unset] [(.long (0 : Int64)), (.long p4)])) ?_ (fun _ kk_ => XS.lstore X93.here hx rfl (hb hby at_181) rfl (l' := #[iv p0, iv p1, iv p2, jv p3, .second, jv p4, .second, iv (Int32.ofNat N), iv (Int32.ofNat I), iv (Int32.ofNat J), iv (Int32.ofNat (N / 10)), rv b1, iv (0 : Int32), iv (1 : Int32), iv (Int32.ofNat (N - N / 10)), iv (1 : Int32), iv (1 : Int32), jv p4, .second, jv (mnJ p4 (0 : Int64)), .second, jv p4, .second, .unset, .unset, .unset, .unset]) rfl (XS.lload X93.here hx rfl (hb hby at_183) rfl  (XS.lconst X93.here hx rfl (hb hby at_185) kk_)))
          refine Go.callS (y := (⟨"java/lang/Math", "max", "(JJ)J"⟩ : MethodName)) X93 hx hZ hown (hw _ (List.mem_of_getElem? (i := 27) rfl)) (hw _ (List.mem_of_getElem? (i := 28) rfl)) (hw _ (List.mem_of_getElem? (i := 12) rfl)) (hw _ (List.mem_of_getElem? (i := 29) rfl)) (by decide) 0 (rm_mxJ l Z a0 hw [] p4 (0 : Int64) T15.heap) e93 (by decide) (by decide) (by decide) (by decide) (argsL := [(.long p4), (.long (0 : Int64))]) (rest := []) rfl (by rw [hml]; rfl) (lenOf pd__28JJ_29J rfl) rfl rfl (by show 2 * 0 + _ ≤ _; exact Nat.le_of_eq rfl) (hb hby at_186) ?_
          rintro _ T95 L95 X95 ⟨rfl, e95, rfl⟩
          have N96 := Fr.app N94 (Fr.nil _)
          show Go p e below _ T95 (mkF m 189 #[iv p0, iv p1, iv p2, jv p3, .second, jv p4, .second, iv (Int32.ofNat N), iv (Int32.ofNat I), iv (Int32.ofNat J), iv (Int32.ofNat (N / 10)), rv b1, iv (0 : Int32), iv (1 : Int32), iv (Int32.ofNat (N - N / 10)), iv (1 : Int32), iv (1 : Int32), jv p4, .second, jv (mnJ p4 (0 : Int64)), .second, jv p4, .second, .unset, .unset, .unset, .unset] [(.long (mxJ p4 (0 : Int64)))])
          refine Go.st (T' := T95) (g' := (mkF m 221 #[iv p0, iv p1, iv p2, jv p3, .second, jv p4, .second, iv (Int32.ofNat N), iv (Int32.ofNat I), iv (Int32.ofNat J), iv (Int32.ofNat (N / 10)), rv b1, iv (0 : Int32), iv (1 : Int32), iv (Int32.ofNat (N - N / 10)), iv (1 : Int32), iv (1 : Int32), jv p4, .second, jv (mnJ p4 (0 : Int64)), .second, jv (mxJ p4 (0 : Int64)), .second, .unset, .unset, .unset, .unset] [(.long p4), (.long (mnJ p4 (0 : Int64)))])) ?_ (fun _ kk_ => XS.lstore X95.here hx rfl (hb hby at_189) rfl (l' := #[iv p0, iv p1, iv p2, jv p3, .second, jv p4, .second, iv (Int32.ofNat N), iv (Int32.ofNat I), iv (Int32.ofNat J), iv (Int32.ofNat (N / 10)), rv b1, iv (0 : Int32), iv (1 : Int32), iv (Int32.ofNat (N - N / 10)), iv (1 : Int32), iv (1 : Int32), jv p4, .second, jv (mnJ p4 (0 : Int64)), .second, jv (mxJ p4 (0 : Int64)), .second, .unset, .unset, .unset, .unset]) rfl (XS.iload X95.here hx rfl (hb hby at_191) rfl  (XS.ifYes X95.here hx rfl (pc0 := 193) (pc' := 212) rfl (hb hby at_193) rfl ((if0 _ _).trans (teq ((by decide) : (0 : Int32) = (0 : Int32))).1) (by decide) (by decide) (XS.iload X95.here hx rfl (hb hby at_212) rfl  (XS.ifNo X95.here hx rfl (hb hby at_214) rfl ((if0 _ _).trans (feq ((by decide) : ¬ ((1 : Int32) = (0 : Int32)))).1) (XS.lload X95.here hx rfl (hb hby at_217) rfl  (XS.lload X95.here hx rfl (hb hby at_219) rfl  kk_)))))))
          refine Go.callS (y := (⟨"java/lang/Math", "min", "(JJ)J"⟩ : MethodName)) X95 hx hZ hown (hw _ (List.mem_of_getElem? (i := 24) rfl)) (hw _ (List.mem_of_getElem? (i := 25) rfl)) (hw _ (List.mem_of_getElem? (i := 12) rfl)) (hw _ (List.mem_of_getElem? (i := 26) rfl)) (by decide) 0 (rm_mnJ l Z a0 hw [] (mnJ p4 (0 : Int64)) p4 T15.heap) e95 (by decide) (by decide) (by decide) (by decide) (argsL := [(.long (mnJ p4 (0 : Int64))), (.long p4)]) (rest := []) rfl (by rw [hml]; rfl) (lenOf pd__28JJ_29J rfl) rfl rfl (by show 2 * 0 + _ ≤ _; exact Nat.le_of_eq rfl) (hb hby at_221) ?_
          rintro _ T97 L97 X97 ⟨rfl, e97, rfl⟩
          have N98 := Fr.app N96 (Fr.nil _)
          show Go p e below _ T97 (mkF m 224 #[iv p0, iv p1, iv p2, jv p3, .second, jv p4, .second, iv (Int32.ofNat N), iv (Int32.ofNat I), iv (Int32.ofNat J), iv (Int32.ofNat (N / 10)), rv b1, iv (0 : Int32), iv (1 : Int32), iv (Int32.ofNat (N - N / 10)), iv (1 : Int32), iv (1 : Int32), jv p4, .second, jv (mnJ p4 (0 : Int64)), .second, jv (mxJ p4 (0 : Int64)), .second, .unset, .unset, .unset, .unset] [(.long (mnJ (mnJ p4 (0 : Int64)) p4))])
          refine Go.st (T' := T97) (g' := (mkF m 230 #[iv p0, iv p1, iv p2, jv p3, .second, jv p4, .second, iv (Int32.ofNat N), iv (Int32.ofNat I), iv (Int32.ofNat J), iv (Int32.ofNat (N / 10)), rv b1, iv (0 : Int32), iv (1 : Int32), iv (Int32.ofNat (N - N / 10)), iv (1 : Int32), iv (1 : Int32), jv p4, .second, jv (mnJ (mnJ p4 (0 : Int64)) p4), .second, jv (mxJ p4 (0 : Int64)), .second, .unset, .unset, .unset, .unset] [(.long p4), (.long (mxJ p4 (0 : Int64)))])) ?_ (fun _ kk_ => XS.lstore X97.here hx rfl (hb hby at_224) rfl (l' := #[iv p0, iv p1, iv p2, jv p3, .second, jv p4, .second, iv (Int32.ofNat N), iv (Int32.ofNat I), iv (Int32.ofNat J), iv (Int32.ofNat (N / 10)), rv b1, iv (0 : Int32), iv (1 : Int32), iv (Int32.ofNat (N - N / 10)), iv (1 : Int32), iv (1 : Int32), jv p4, .second, jv (mnJ (mnJ p4 (0 : Int64)) p4), .second, jv (mxJ p4 (0 : Int64)), .second, .unset, .unset, .unset, .unset]) rfl (XS.lload X97.here hx rfl (hb hby at_226) rfl  (XS.lload X97.here hx rfl (hb hby at_228) rfl  kk_)))
          refine Go.callS (y := (⟨"java/lang/Math", "max", "(JJ)J"⟩ : MethodName)) X97 hx hZ hown (hw _ (List.mem_of_getElem? (i := 27) rfl)) (hw _ (List.mem_of_getElem? (i := 28) rfl)) (hw _ (List.mem_of_getElem? (i := 12) rfl)) (hw _ (List.mem_of_getElem? (i := 29) rfl)) (by decide) 0 (rm_mxJ l Z a0 hw [] (mxJ p4 (0 : Int64)) p4 T15.heap) e97 (by decide) (by decide) (by decide) (by decide) (argsL := [(.long (mxJ p4 (0 : Int64))), (.long p4)]) (rest := []) rfl (by rw [hml]; rfl) (lenOf pd__28JJ_29J rfl) rfl rfl (by show 2 * 0 + _ ≤ _; exact Nat.le_of_eq rfl) (hb hby at_230) ?_
          rintro _ T99 L99 X99 ⟨rfl, e99, rfl⟩
          have N100 := Fr.app N98 (Fr.nil _)
          show Go p e below _ T99 (mkF m 233 #[iv p0, iv p1, iv p2, jv p3, .second, jv p4, .second, iv (Int32.ofNat N), iv (Int32.ofNat I), iv (Int32.ofNat J), iv (Int32.ofNat (N / 10)), rv b1, iv (0 : Int32), iv (1 : Int32), iv (Int32.ofNat (N - N / 10)), iv (1 : Int32), iv (1 : Int32), jv p4, .second, jv (mnJ (mnJ p4 (0 : Int64)) p4), .second, jv (mxJ p4 (0 : Int64)), .second, .unset, .unset, .unset, .unset] [(.long (mxJ (mxJ p4 (0 : Int64)) p4))])
          refine Go.st (T' := T99) (g' := (mkF m 238 #[iv p0, iv p1, iv p2, jv p3, .second, jv p4, .second, iv (Int32.ofNat N), iv (Int32.ofNat I), iv (Int32.ofNat J), iv (Int32.ofNat (N / 10)), rv b1, iv (0 : Int32), iv (1 : Int32), iv (Int32.ofNat (N - N / 10)), iv (1 : Int32), iv (1 : Int32), jv p4, .second, jv (mnJ (mnJ p4 (0 : Int64)) p4), .second, jv (mxJ (mxJ p4 (0 : Int64)) p4), .second, .unset, .unset, .unset, .unset] [(.int (1 : Int32)), (.ref b1)])) ?_ (fun _ kk_ => XS.lstore X99.here hx rfl (hb hby at_233) rfl (l' := #[iv p0, iv p1, iv p2, jv p3, .second, jv p4, .second, iv (Int32.ofNat N), iv (Int32.ofNat I), iv (Int32.ofNat J), iv (Int32.ofNat (N / 10)), rv b1, iv (0 : Int32), iv (1 : Int32), iv (Int32.ofNat (N - N / 10)), iv (1 : Int32), iv (1 : Int32), jv p4, .second, jv (mnJ (mnJ p4 (0 : Int64)) p4), .second, jv (mxJ (mxJ p4 (0 : Int64)) p4), .second, .unset, .unset, .unset, .unset]) rfl (XS.aload X99.here hx rfl (hb hby at_235) rfl rfl  (XS.iconst X99.here hx rfl (hb hby at_237) kk_)))
          have f101 := (f16.keep K15)
          have f102 := (f14.keep K15 (ninS ne_bt nin0))
          have f103 := ((Fs6.keep K9 (ninS ne_bt nin0)).keep K15 (ninS ne_bt nin0))
          refine Go.callV (y := (⟨"com/example/libdgram/libdgram/cli/Latencies", "percentile", "(I)J"⟩ : MethodName)) (z := (⟨"com/example/libdgram/libdgram/cli/Latencies", "percentile", "(I)J"⟩ : MethodName)) X99 hx hZ hown (hw _ (List.mem_of_getElem? (i := 30) rfl)) (hw _ (List.mem_of_getElem? (i := 31) rfl)) (notFace_of_selects (args := #[]) (mvT hZ (hw _ (List.mem_of_getElem? (i := 33) rfl)))) (hw _ (List.mem_of_getElem? (i := 33) rfl)) (hw _ (List.mem_of_getElem? (i := 32) rfl)) (hw _ (List.mem_of_getElem? (i := 3) rfl)) (hw _ (List.mem_of_getElem? (i := 34) rfl)) (by decide) 0 (rm_pe1 l Z a0 hw [] b1 t (N - N / 10) (fS (N / 10) J p4 (fS (N / 10) I p3 (fun _ => 0))) n0 T15.heap Z18 (by omega) V15 g_t (by omega) f101 f102 f103 g_b1 ne_bt) e99 (by decide) (by decide) (by decide) (by decide) f101 (argsL := [(.int (1 : Int32))]) (rest := []) rfl (by rw [hml]; rfl) (lenOf pd__28I_29J rfl) rfl rfl (by show 2 * 0 + _ ≤ _; exact Nat.le_of_eq rfl) (hb hby at_238) ?_
          rintro _ T104 L104 X104 ⟨N104, K104, Fs104, Fn104, f', S104, rfl, V104⟩
          have N105 := Fr.app N100 N104
          have Z106 : n0 ≤ T104.heap.size := Nat.le_trans Z18 K104.1
          show Go p e below _ T104 (mkF m 241 #[iv p0, iv p1, iv p2, jv p3, .second, jv p4, .second, iv (Int32.ofNat N), iv (Int32.ofNat I), iv (Int32.ofNat J), iv (Int32.ofNat (N / 10)), rv b1, iv (0 : Int32), iv (1 : Int32), iv (Int32.ofNat (N - N / 10)), iv (1 : Int32), iv (1 : Int32), jv p4, .second, jv (mnJ (mnJ p4 (0 : Int64)) p4), .second, jv (mxJ (mxJ p4 (0 : Int64)) p4), .second, .unset, .unset, .unset, .unset] [(.long (f' 0))])
          refine Go.st (T' := T104) (g' := (mkF m 247 #[iv p0, iv p1, iv p2, jv p3, .second, jv p4, .second, iv (Int32.ofNat N), iv (Int32.ofNat I), iv (Int32.ofNat J), iv (Int32.ofNat (N / 10)), rv b1, iv (0 : Int32), iv (1 : Int32), iv (Int32.ofNat (N - N / 10)), iv (1 : Int32), iv (1 : Int32), jv p4, .second, jv (mnJ (mnJ p4 (0 : Int64)) p4), .second, jv (mxJ (mxJ p4 (0 : Int64)) p4), .second, jv (f' 0), .second, .unset, .unset] [(.int (100 : Int32)), (.ref b1)])) ?_ (fun _ kk_ => XS.lstore X104.here hx rfl (hb hby at_241) rfl (l' := #[iv p0, iv p1, iv p2, jv p3, .second, jv p4, .second, iv (Int32.ofNat N), iv (Int32.ofNat I), iv (Int32.ofNat J), iv (Int32.ofNat (N / 10)), rv b1, iv (0 : Int32), iv (1 : Int32), iv (Int32.ofNat (N - N / 10)), iv (1 : Int32), iv (1 : Int32), jv p4, .second, jv (mnJ (mnJ p4 (0 : Int64)) p4), .second, jv (mxJ (mxJ p4 (0 : Int64)) p4), .second, jv (f' 0), .second, .unset, .unset]) rfl (XS.aload X104.here hx rfl (hb hby at_243) rfl rfl  (XS.bipush X104.here hx rfl (hb hby at_245) kk_)))
          have f108 := (f101.keep K104)
          refine Go.callV (y := (⟨"com/example/libdgram/libdgram/cli/Latencies", "percentile", "(I)J"⟩ : MethodName)) (z := (⟨"com/example/libdgram/libdgram/cli/Latencies", "percentile", "(I)J"⟩ : MethodName)) X104 hx hZ hown (hw _ (List.mem_of_getElem? (i := 30) rfl)) (hw _ (List.mem_of_getElem? (i := 31) rfl)) (notFace_of_selects (args := #[]) (mvT hZ (hw _ (List.mem_of_getElem? (i := 33) rfl)))) (hw _ (List.mem_of_getElem? (i := 33) rfl)) (hw _ (List.mem_of_getElem? (i := 32) rfl)) (hw _ (List.mem_of_getElem? (i := 3) rfl)) (hw _ (List.mem_of_getElem? (i := 34) rfl)) (by decide) 0 (rm_pe2 l Z a0 hw [] b1 t (N - N / 10) f' T104.heap (by omega) V104 (by omega) Fn104 Fs104) rfl (by decide) (by decide) (by decide) (by decide) f108 (argsL := [(.int (100 : Int32))]) (rest := []) rfl (by rw [hml]; rfl) (lenOf pd__28I_29J rfl) rfl rfl (by show 2 * 0 + _ ≤ _; exact Nat.le_of_eq rfl) (hb hby at_247) ?_
          rintro _ T107 L107 X107 ⟨rfl, e107, rfl⟩
          have N109 := Fr.app N105 (Fr.nil _)
          show Go p e below _ T107 (mkF m 250 #[iv p0, iv p1, iv p2, jv p3, .second, jv p4, .second, iv (Int32.ofNat N), iv (Int32.ofNat I), iv (Int32.ofNat J), iv (Int32.ofNat (N / 10)), rv b1, iv (0 : Int32), iv (1 : Int32), iv (Int32.ofNat (N - N / 10)), iv (1 : Int32), iv (1 : Int32), jv p4, .second, jv (mnJ (mnJ p4 (0 : Int64)) p4), .second, jv (mxJ (mxJ p4 (0 : Int64)) p4), .second, jv (f' 0), .second, .unset, .unset] [(.long (f' (N - N / 10 - 1)))])
          have hv1 : ∀ y ∈ [p4, (0 : Int64), p4], ∃ q, q < N - N / 10 ∧ (fS (N / 10) J p4 (fS (N / 10) I p3 (fun _ => 0))) q = y := by
            intro y hy
            simp only [List.mem_cons, List.not_mem_nil, or_false] at hy
            rcases hy with h | h | h
            · exact ⟨J - N / 10, by omega, by unfold fS; rw [if_pos ⟨by omega, rfl⟩, h]⟩
            · obtain ⟨r, r1, r2⟩ := own_pick1 hz2 (J - N / 10)
              exact ⟨r, r1, by unfold fS; rw [if_neg (by omega), if_neg (by omega), h]⟩
            · exact ⟨J - N / 10, by omega, by unfold fS; rw [if_pos ⟨by omega, rfl⟩, h]⟩
          have hv2 : ∀ q, q < N - N / 10 → (fS (N / 10) J p4 (fS (N / 10) I p3 (fun _ => 0))) q ∈ [p4, (0 : Int64), p4] := fun q hq => by unfold fS; split <;> (try split) <;> first | (simp; done) | (exfalso; omega)
          have hlo : f' 0 = (mnJ (mnJ p4 (0 : Int64)) p4) := own_low1 (own_low S104 (by omega)) (own_LowL hv1 hv2 (LowL.mn (LowL.mn (LowL.one p4) (0 : Int64)) p4))
          have hhi : f' (N - N / 10 - 1) = (mxJ (mxJ p4 (0 : Int64)) p4) := own_hig1 (own_hig S104 (by omega)) (own_HigL hv1 hv2 (HigL.mx (HigL.mx (HigL.one p4) (0 : Int64)) p4))
          refine Go.st (T' := T107) (g' := (mkF m 273 #[iv p0, iv p1, iv p2, jv p3, .second, jv p4, .second, iv (Int32.ofNat N), iv (Int32.ofNat I), iv (Int32.ofNat J), iv (Int32.ofNat (N / 10)), rv b1, iv (0 : Int32), iv (1 : Int32), iv (Int32.ofNat (N - N / 10)), iv (1 : Int32), iv (1 : Int32), jv p4, .second, jv (mnJ (mnJ p4 (0 : Int64)) p4), .second, jv (mxJ (mxJ p4 (0 : Int64)) p4), .second, jv (f' 0), .second, jv (f' (N - N / 10 - 1)), .second] [(.int (1 : Int32))])) ?_ (fun _ kk_ => XS.lstore X107.here hx rfl (hb hby at_250) rfl (l' := #[iv p0, iv p1, iv p2, jv p3, .second, jv p4, .second, iv (Int32.ofNat N), iv (Int32.ofNat I), iv (Int32.ofNat J), iv (Int32.ofNat (N / 10)), rv b1, iv (0 : Int32), iv (1 : Int32), iv (Int32.ofNat (N - N / 10)), iv (1 : Int32), iv (1 : Int32), jv p4, .second, jv (mnJ (mnJ p4 (0 : Int64)) p4), .second, jv (mxJ (mxJ p4 (0 : Int64)) p4), .second, jv (f' 0), .second, jv (f' (N - N / 10 - 1)), .second]) rfl (XS.lload X107.here hx rfl (hb hby at_252) rfl  (XS.lload X107.here hx rfl (hb hby at_254) rfl  (XS.lcmp X107.here hx rfl (hb hby at_256) rfl (XS.ifNo X107.here hx rfl (hb hby at_257) rfl ((if0 _ _).trans (teq (((lw_eq _ _).mpr hlo) : (lcmpW (f' 0) (mnJ (mnJ p4 (0 : Int64)) p4)) = (0 : Int32))).2) (XS.lload X107.here hx rfl (hb hby at_260) rfl  (XS.lload X107.here hx rfl (hb hby at_262) rfl  (XS.lcmp X107.here hx rfl (hb hby at_264) rfl (XS.ifNo X107.here hx rfl (hb hby at_265) rfl ((if0 _ _).trans (teq (((lw_eq _ _).mpr hhi) : (lcmpW (f' (N - N / 10 - 1)) (mxJ (mxJ p4 (0 : Int64)) p4)) = (0 : Int32))).2) (XS.iconst X107.here hx rfl (hb hby at_268) (XS.goto X107.here hx rfl (pc0 := 269) (pc' := 273) rfl (hb hby at_269) (by decide) (by decide) kk_)))))))))))
          refine Go.retN X107 hx hlk (t := .boolean) hret (by simp) (z' := (1 : Int32)) rfl (hb hby at_273) (by decide) (by decide) ?_
          try rw [e107]
          exact ⟨rfl, N109⟩
        ·
          refine Go.st (T' := T15) (g' := (mkF m 137 #[iv p0, iv p1, iv p2, jv p3, .second, jv p4, .second, iv (Int32.ofNat N), iv (Int32.ofNat I), iv (Int32.ofNat J), iv (Int32.ofNat (N / 10)), rv b1, iv (0 : Int32), iv (1 : Int32), iv (Int32.ofNat (N - N / 10)), iv (1 : Int32), .unset, .unset, .unset, .unset, .unset, .unset, .unset, .unset, .unset, .unset, .unset] [])) ?_ (fun _ kk_ => XS.icmpYes X15.here hx rfl (pc0 := 130) (pc' := 137) rfl (hb hby at_130) rfl (flt (hz : ¬ ((1 : Int32) < (Int32.ofNat (N - N / 10))))).2.2.2 (by decide) (by decide) kk_)
          have hz2 : ¬ (1 < N - N / 10) := fun z => hz ((own_lt (i := 1) (by decide) (by omega)).mpr z)
          refine Go.st (T' := T15) (g' := (mkF m 193 #[iv p0, iv p1, iv p2, jv p3, .second, jv p4, .second, iv (Int32.ofNat N), iv (Int32.ofNat I), iv (Int32.ofNat J), iv (Int32.ofNat (N / 10)), rv b1, iv (0 : Int32), iv (1 : Int32), iv (Int32.ofNat (N - N / 10)), iv (1 : Int32), iv (0 : Int32), jv p4, .second, jv p4, .second, jv p4, .second, .unset, .unset, .unset, .unset] [(.int (0 : Int32))])) ?_ (fun _ kk_ => XS.iconst X15.here hx rfl (hb hby at_137) (XS.istore X15.here hx rfl (hb hby at_138) rfl (l' := #[iv p0, iv p1, iv p2, jv p3, .second, jv p4, .second, iv (Int32.ofNat N), iv (Int32.ofNat I), iv (Int32.ofNat J), iv (Int32.ofNat (N / 10)), rv b1, iv (0 : Int32), iv (1 : Int32), iv (Int32.ofNat (N - N / 10)), iv (1 : Int32), iv (0 : Int32), .unset, .unset, .unset, .unset, .unset, .unset, .unset, .unset, .unset, .unset]) rfl (XS.iload X15.here hx rfl (hb hby at_140) rfl  (XS.ifNo X15.here hx rfl (hb hby at_142) rfl ((if0 _ _).trans (feq ((by decide) : ¬ ((1 : Int32) = (0 : Int32)))).1) (XS.lload X15.here hx rfl (hb hby at_145) rfl  (XS.goto X15.here hx rfl (pc0 := 147) (pc' := 160) rfl (hb hby at_147) (by decide) (by decide) (XS.lstore X15.here hx rfl (hb hby at_160) rfl (l' := #[iv p0, iv p1, iv p2, jv p3, .second, jv p4, .second, iv (Int32.ofNat N), iv (Int32.ofNat I), iv (Int32.ofNat J), iv (Int32.ofNat (N / 10)), rv b1, iv (0 : Int32), iv (1 : Int32), iv (Int32.ofNat (N - N / 10)), iv (1 : Int32), iv (0 : Int32), jv p4, .second, .unset, .unset, .unset, .unset, .unset, .unset, .unset, .unset]) rfl (XS.lload X15.here hx rfl (hb hby at_162) rfl  (XS.lstore X15.here hx rfl (hb hby at_164) rfl (l' := #[iv p0, iv p1, iv p2, jv p3, .second, jv p4, .second, iv (Int32.ofNat N), iv (Int32.ofNat I), iv (Int32.ofNat J), iv (Int32.ofNat (N / 10)), rv b1, iv (0 : Int32), iv (1 : Int32), iv (Int32.ofNat (N - N / 10)), iv (1 : Int32), iv (0 : Int32), jv p4, .second, jv p4, .second, .unset, .unset, .unset, .unset, .unset, .unset]) rfl (XS.lload X15.here hx rfl (hb hby at_166) rfl  (XS.lstore X15.here hx rfl (hb hby at_168) rfl (l' := #[iv p0, iv p1, iv p2, jv p3, .second, jv p4, .second, iv (Int32.ofNat N), iv (Int32.ofNat I), iv (Int32.ofNat J), iv (Int32.ofNat (N / 10)), rv b1, iv (0 : Int32), iv (1 : Int32), iv (Int32.ofNat (N - N / 10)), iv (1 : Int32), iv (0 : Int32), jv p4, .second, jv p4, .second, jv p4, .second, .unset, .unset, .unset, .unset]) rfl (XS.iload X15.here hx rfl (hb hby at_170) rfl  (XS.ifYes X15.here hx rfl (pc0 := 172) (pc' := 191) rfl (hb hby at_172) rfl ((if0 _ _).trans (teq ((by decide) : (0 : Int32) = (0 : Int32))).1) (by decide) (by decide) (XS.iload X15.here hx rfl (hb hby at_191) rfl  kk_))))))))))))))
          refine Go.st (T' := T15) (g' := (mkF m 221 #[iv p0, iv p1, iv p2, jv p3, .second, jv p4, .second, iv (Int32.ofNat N), iv (Int32.ofNat I), iv (Int32.ofNat J), iv (Int32.ofNat (N / 10)), rv b1, iv (0 : Int32), iv (1 : Int32), iv (Int32.ofNat (N - N / 10)), iv (1 : Int32), iv (0 : Int32), jv p4, .second, jv p4, .second, jv p4, .second, .unset, .unset, .unset, .unset] [(.long p4), (.long p4)])) ?_ (fun _ kk_ => XS.ifYes X15.here hx rfl (pc0 := 193) (pc' := 212) rfl (hb hby at_193) rfl ((if0 _ _).trans (teq ((by decide) : (0 : Int32) = (0 : Int32))).1) (by decide) (by decide) (XS.iload X15.here hx rfl (hb hby at_212) rfl  (XS.ifNo X15.here hx rfl (hb hby at_214) rfl ((if0 _ _).trans (feq ((by decide) : ¬ ((1 : Int32) = (0 : Int32)))).1) (XS.lload X15.here hx rfl (hb hby at_217) rfl  (XS.lload X15.here hx rfl (hb hby at_219) rfl  kk_)))))
          refine Go.callS (y := (⟨"java/lang/Math", "min", "(JJ)J"⟩ : MethodName)) X15 hx hZ hown (hw _ (List.mem_of_getElem? (i := 24) rfl)) (hw _ (List.mem_of_getElem? (i := 25) rfl)) (hw _ (List.mem_of_getElem? (i := 12) rfl)) (hw _ (List.mem_of_getElem? (i := 26) rfl)) (by decide) 0 (rm_mnJ l Z a0 hw [] p4 p4 T15.heap) rfl (by decide) (by decide) (by decide) (by decide) (argsL := [(.long p4), (.long p4)]) (rest := []) rfl (by rw [hml]; rfl) (lenOf pd__28JJ_29J rfl) rfl rfl (by show 2 * 0 + _ ≤ _; exact Nat.le_of_eq rfl) (hb hby at_221) ?_
          rintro _ T110 L110 X110 ⟨rfl, e110, rfl⟩
          have N111 := Fr.app N17 (Fr.nil _)
          show Go p e below _ T110 (mkF m 224 #[iv p0, iv p1, iv p2, jv p3, .second, jv p4, .second, iv (Int32.ofNat N), iv (Int32.ofNat I), iv (Int32.ofNat J), iv (Int32.ofNat (N / 10)), rv b1, iv (0 : Int32), iv (1 : Int32), iv (Int32.ofNat (N - N / 10)), iv (1 : Int32), iv (0 : Int32), jv p4, .second, jv p4, .second, jv p4, .second, .unset, .unset, .unset, .unset] [(.long (mnJ p4 p4))])
          refine Go.st (T' := T110) (g' := (mkF m 230 #[iv p0, iv p1, iv p2, jv p3, .second, jv p4, .second, iv (Int32.ofNat N), iv (Int32.ofNat I), iv (Int32.ofNat J), iv (Int32.ofNat (N / 10)), rv b1, iv (0 : Int32), iv (1 : Int32), iv (Int32.ofNat (N - N / 10)), iv (1 : Int32), iv (0 : Int32), jv p4, .second, jv (mnJ p4 p4), .second, jv p4, .second, .unset, .unset, .unset, .unset] [(.long p4), (.long p4)])) ?_ (fun _ kk_ => XS.lstore X110.here hx rfl (hb hby at_224) rfl (l' := #[iv p0, iv p1, iv p2, jv p3, .second, jv p4, .second, iv (Int32.ofNat N), iv (Int32.ofNat I), iv (Int32.ofNat J), iv (Int32.ofNat (N / 10)), rv b1, iv (0 : Int32), iv (1 : Int32), iv (Int32.ofNat (N - N / 10)), iv (1 : Int32), iv (0 : Int32), jv p4, .second, jv (mnJ p4 p4), .second, jv p4, .second, .unset, .unset, .unset, .unset]) rfl (XS.lload X110.here hx rfl (hb hby at_226) rfl  (XS.lload X110.here hx rfl (hb hby at_228) rfl  kk_)))
          refine Go.callS (y := (⟨"java/lang/Math", "max", "(JJ)J"⟩ : MethodName)) X110 hx hZ hown (hw _ (List.mem_of_getElem? (i := 27) rfl)) (hw _ (List.mem_of_getElem? (i := 28) rfl)) (hw _ (List.mem_of_getElem? (i := 12) rfl)) (hw _ (List.mem_of_getElem? (i := 29) rfl)) (by decide) 0 (rm_mxJ l Z a0 hw [] p4 p4 T15.heap) e110 (by decide) (by decide) (by decide) (by decide) (argsL := [(.long p4), (.long p4)]) (rest := []) rfl (by rw [hml]; rfl) (lenOf pd__28JJ_29J rfl) rfl rfl (by show 2 * 0 + _ ≤ _; exact Nat.le_of_eq rfl) (hb hby at_230) ?_
          rintro _ T112 L112 X112 ⟨rfl, e112, rfl⟩
          have N113 := Fr.app N111 (Fr.nil _)
          show Go p e below _ T112 (mkF m 233 #[iv p0, iv p1, iv p2, jv p3, .second, jv p4, .second, iv (Int32.ofNat N), iv (Int32.ofNat I), iv (Int32.ofNat J), iv (Int32.ofNat (N / 10)), rv b1, iv (0 : Int32), iv (1 : Int32), iv (Int32.ofNat (N - N / 10)), iv (1 : Int32), iv (0 : Int32), jv p4, .second, jv (mnJ p4 p4), .second, jv p4, .second, .unset, .unset, .unset, .unset] [(.long (mxJ p4 p4))])
          refine Go.st (T' := T112) (g' := (mkF m 238 #[iv p0, iv p1, iv p2, jv p3, .second, jv p4, .second, iv (Int32.ofNat N), iv (Int32.ofNat I), iv (Int32.ofNat J), iv (Int32.ofNat (N / 10)), rv b1, iv (0 : Int32), iv (1 : Int32), iv (Int32.ofNat (N - N / 10)), iv (1 : Int32), iv (0 : Int32), jv p4, .second, jv (mnJ p4 p4), .second, jv (mxJ p4 p4), .second, .unset, .unset, .unset, .unset] [(.int (1 : Int32)), (.ref b1)])) ?_ (fun _ kk_ => XS.lstore X112.here hx rfl (hb hby at_233) rfl (l' := #[iv p0, iv p1, iv p2, jv p3, .second, jv p4, .second, iv (Int32.ofNat N), iv (Int32.ofNat I), iv (Int32.ofNat J), iv (Int32.ofNat (N / 10)), rv b1, iv (0 : Int32), iv (1 : Int32), iv (Int32.ofNat (N - N / 10)), iv (1 : Int32), iv (0 : Int32), jv p4, .second, jv (mnJ p4 p4), .second, jv (mxJ p4 p4), .second, .unset, .unset, .unset, .unset]) rfl (XS.aload X112.here hx rfl (hb hby at_235) rfl rfl  (XS.iconst X112.here hx rfl (hb hby at_237) kk_)))
          have f114 := (f16.keep K15)
          have f115 := (f14.keep K15 (ninS ne_bt nin0))
          have f116 := ((Fs6.keep K9 (ninS ne_bt nin0)).keep K15 (ninS ne_bt nin0))
          refine Go.callV (y := (⟨"com/example/libdgram/libdgram/cli/Latencies", "percentile", "(I)J"⟩ : MethodName)) (z := (⟨"com/example/libdgram/libdgram/cli/Latencies", "percentile", "(I)J"⟩ : MethodName)) X112 hx hZ hown (hw _ (List.mem_of_getElem? (i := 30) rfl)) (hw _ (List.mem_of_getElem? (i := 31) rfl)) (notFace_of_selects (args := #[]) (mvT hZ (hw _ (List.mem_of_getElem? (i := 33) rfl)))) (hw _ (List.mem_of_getElem? (i := 33) rfl)) (hw _ (List.mem_of_getElem? (i := 32) rfl)) (hw _ (List.mem_of_getElem? (i := 3) rfl)) (hw _ (List.mem_of_getElem? (i := 34) rfl)) (by decide) 0 (rm_pe1 l Z a0 hw [] b1 t (N - N / 10) (fS (N / 10) J p4 (fS (N / 10) I p3 (fun _ => 0))) n0 T15.heap Z18 (by omega) V15 g_t (by omega) f114 f115 f116 g_b1 ne_bt) e112 (by decide) (by decide) (by decide) (by decide) f114 (argsL := [(.int (1 : Int32))]) (rest := []) rfl (by rw [hml]; rfl) (lenOf pd__28I_29J rfl) rfl rfl (by show 2 * 0 + _ ≤ _; exact Nat.le_of_eq rfl) (hb hby at_238) ?_
          rintro _ T117 L117 X117 ⟨N117, K117, Fs117, Fn117, f', S117, rfl, V117⟩
          have N118 := Fr.app N113 N117
          have Z119 : n0 ≤ T117.heap.size := Nat.le_trans Z18 K117.1
          show Go p e below _ T117 (mkF m 241 #[iv p0, iv p1, iv p2, jv p3, .second, jv p4, .second, iv (Int32.ofNat N), iv (Int32.ofNat I), iv (Int32.ofNat J), iv (Int32.ofNat (N / 10)), rv b1, iv (0 : Int32), iv (1 : Int32), iv (Int32.ofNat (N - N / 10)), iv (1 : Int32), iv (0 : Int32), jv p4, .second, jv (mnJ p4 p4), .second, jv (mxJ p4 p4), .second, .unset, .unset, .unset, .unset] [(.long (f' 0))])
          refine Go.st (T' := T117) (g' := (mkF m 247 #[iv p0, iv p1, iv p2, jv p3, .second, jv p4, .second, iv (Int32.ofNat N), iv (Int32.ofNat I), iv (Int32.ofNat J), iv (Int32.ofNat (N / 10)), rv b1, iv (0 : Int32), iv (1 : Int32), iv (Int32.ofNat (N - N / 10)), iv (1 : Int32), iv (0 : Int32), jv p4, .second, jv (mnJ p4 p4), .second, jv (mxJ p4 p4), .second, jv (f' 0), .second, .unset, .unset] [(.int (100 : Int32)), (.ref b1)])) ?_ (fun _ kk_ => XS.lstore X117.here hx rfl (hb hby at_241) rfl (l' := #[iv p0, iv p1, iv p2, jv p3, .second, jv p4, .second, iv (Int32.ofNat N), iv (Int32.ofNat I), iv (Int32.ofNat J), iv (Int32.ofNat (N / 10)), rv b1, iv (0 : Int32), iv (1 : Int32), iv (Int32.ofNat (N - N / 10)), iv (1 : Int32), iv (0 : Int32), jv p4, .second, jv (mnJ p4 p4), .second, jv (mxJ p4 p4), .second, jv (f' 0), .second, .unset, .unset]) rfl (XS.aload X117.here hx rfl (hb hby at_243) rfl rfl  (XS.bipush X117.here hx rfl (hb hby at_245) kk_)))
          have f121 := (f114.keep K117)
          refine Go.callV (y := (⟨"com/example/libdgram/libdgram/cli/Latencies", "percentile", "(I)J"⟩ : MethodName)) (z := (⟨"com/example/libdgram/libdgram/cli/Latencies", "percentile", "(I)J"⟩ : MethodName)) X117 hx hZ hown (hw _ (List.mem_of_getElem? (i := 30) rfl)) (hw _ (List.mem_of_getElem? (i := 31) rfl)) (notFace_of_selects (args := #[]) (mvT hZ (hw _ (List.mem_of_getElem? (i := 33) rfl)))) (hw _ (List.mem_of_getElem? (i := 33) rfl)) (hw _ (List.mem_of_getElem? (i := 32) rfl)) (hw _ (List.mem_of_getElem? (i := 3) rfl)) (hw _ (List.mem_of_getElem? (i := 34) rfl)) (by decide) 0 (rm_pe2 l Z a0 hw [] b1 t (N - N / 10) f' T117.heap (by omega) V117 (by omega) Fn117 Fs117) rfl (by decide) (by decide) (by decide) (by decide) f121 (argsL := [(.int (100 : Int32))]) (rest := []) rfl (by rw [hml]; rfl) (lenOf pd__28I_29J rfl) rfl rfl (by show 2 * 0 + _ ≤ _; exact Nat.le_of_eq rfl) (hb hby at_247) ?_
          rintro _ T120 L120 X120 ⟨rfl, e120, rfl⟩
          have N122 := Fr.app N118 (Fr.nil _)
          show Go p e below _ T120 (mkF m 250 #[iv p0, iv p1, iv p2, jv p3, .second, jv p4, .second, iv (Int32.ofNat N), iv (Int32.ofNat I), iv (Int32.ofNat J), iv (Int32.ofNat (N / 10)), rv b1, iv (0 : Int32), iv (1 : Int32), iv (Int32.ofNat (N - N / 10)), iv (1 : Int32), iv (0 : Int32), jv p4, .second, jv (mnJ p4 p4), .second, jv (mxJ p4 p4), .second, jv (f' 0), .second, .unset, .unset] [(.long (f' (N - N / 10 - 1)))])
          have hv1 : ∀ y ∈ [p4, p4], ∃ q, q < N - N / 10 ∧ (fS (N / 10) J p4 (fS (N / 10) I p3 (fun _ => 0))) q = y := by
            intro y hy
            simp only [List.mem_cons, List.not_mem_nil, or_false] at hy
            rcases hy with h | h
            · exact ⟨J - N / 10, by omega, by unfold fS; rw [if_pos ⟨by omega, rfl⟩, h]⟩
            · exact ⟨J - N / 10, by omega, by unfold fS; rw [if_pos ⟨by omega, rfl⟩, h]⟩
          have hv2 : ∀ q, q < N - N / 10 → (fS (N / 10) J p4 (fS (N / 10) I p3 (fun _ => 0))) q ∈ [p4, p4] := fun q hq => by unfold fS; split <;> (try split) <;> first | (simp; done) | (exfalso; omega)
          have hlo : f' 0 = (mnJ p4 p4) := own_low1 (own_low S117 (by omega)) (own_LowL hv1 hv2 (LowL.mn (LowL.one p4) p4))
          have hhi : f' (N - N / 10 - 1) = (mxJ p4 p4) := own_hig1 (own_hig S117 (by omega)) (own_HigL hv1 hv2 (HigL.mx (HigL.one p4) p4))
          refine Go.st (T' := T120) (g' := (mkF m 273 #[iv p0, iv p1, iv p2, jv p3, .second, jv p4, .second, iv (Int32.ofNat N), iv (Int32.ofNat I), iv (Int32.ofNat J), iv (Int32.ofNat (N / 10)), rv b1, iv (0 : Int32), iv (1 : Int32), iv (Int32.ofNat (N - N / 10)), iv (1 : Int32), iv (0 : Int32), jv p4, .second, jv (mnJ p4 p4), .second, jv (mxJ p4 p4), .second, jv (f' 0), .second, jv (f' (N - N / 10 - 1)), .second] [(.int (1 : Int32))])) ?_ (fun _ kk_ => XS.lstore X120.here hx rfl (hb hby at_250) rfl (l' := #[iv p0, iv p1, iv p2, jv p3, .second, jv p4, .second, iv (Int32.ofNat N), iv (Int32.ofNat I), iv (Int32.ofNat J), iv (Int32.ofNat (N / 10)), rv b1, iv (0 : Int32), iv (1 : Int32), iv (Int32.ofNat (N - N / 10)), iv (1 : Int32), iv (0 : Int32), jv p4, .second, jv (mnJ p4 p4), .second, jv (mxJ p4 p4), .second, jv (f' 0), .second, jv (f' (N - N / 10 - 1)), .second]) rfl (XS.lload X120.here hx rfl (hb hby at_252) rfl  (XS.lload X120.here hx rfl (hb hby at_254) rfl  (XS.lcmp X120.here hx rfl (hb hby at_256) rfl (XS.ifNo X120.here hx rfl (hb hby at_257) rfl ((if0 _ _).trans (teq (((lw_eq _ _).mpr hlo) : (lcmpW (f' 0) (mnJ p4 p4)) = (0 : Int32))).2) (XS.lload X120.here hx rfl (hb hby at_260) rfl  (XS.lload X120.here hx rfl (hb hby at_262) rfl  (XS.lcmp X120.here hx rfl (hb hby at_264) rfl (XS.ifNo X120.here hx rfl (hb hby at_265) rfl ((if0 _ _).trans (teq (((lw_eq _ _).mpr hhi) : (lcmpW (f' (N - N / 10 - 1)) (mxJ p4 p4)) = (0 : Int32))).2) (XS.iconst X120.here hx rfl (hb hby at_268) (XS.goto X120.here hx rfl (pc0 := 269) (pc' := 273) rfl (hb hby at_269) (by decide) (by decide) kk_)))))))))))
          refine Go.retN X120 hx hlk (t := .boolean) hret (by simp) (z' := (1 : Int32)) rfl (hb hby at_273) (by decide) (by decide) ?_
          try rw [e120]
          exact ⟨rfl, N122⟩
    ·
      refine Go.st (T' := T15) (g' := (mkF m 75 #[iv p0, iv p1, iv p2, jv p3, .second, jv p4, .second, iv (Int32.ofNat N), iv (Int32.ofNat I), iv (Int32.ofNat J), iv (Int32.ofNat (N / 10)), rv b1, .unset, .unset, .unset, .unset, .unset, .unset, .unset, .unset, .unset, .unset, .unset, .unset, .unset, .unset, .unset] [])) ?_ (fun _ kk_ => XS.icmpNo X15.here hx rfl (hb hby at_72) rfl (feq (hij : ¬ ((Int32.ofNat I) = (Int32.ofNat J)))).1 kk_)
      have hij2 : ¬ I = J := fun z => hij ((own_eq (show I < 2 ^ 31 by omega) (show J < 2 ^ 31 by omega)).mpr z)
      refine Go.st (T' := T15) (g' := (mkF m 86 #[iv p0, iv p1, iv p2, jv p3, .second, jv p4, .second, iv (Int32.ofNat N), iv (Int32.ofNat I), iv (Int32.ofNat J), iv (Int32.ofNat (N / 10)), rv b1, iv (1 : Int32), .unset, .unset, .unset, .unset, .unset, .unset, .unset, .unset, .unset, .unset, .unset, .unset, .unset, .unset] [(.int (Int32.ofNat (N / 10))), (.int (Int32.ofNat J))])) ?_ (fun _ kk_ => XS.iconst X15.here hx rfl (hb hby at_75) (XS.goto X15.here hx rfl (pc0 := 76) (pc' := 80) rfl (hb hby at_76) (by decide) (by decide) (XS.istore X15.here hx rfl (hb hby at_80) rfl (l' := #[iv p0, iv p1, iv p2, jv p3, .second, jv p4, .second, iv (Int32.ofNat N), iv (Int32.ofNat I), iv (Int32.ofNat J), iv (Int32.ofNat (N / 10)), rv b1, iv (1 : Int32), .unset, .unset, .unset, .unset, .unset, .unset, .unset, .unset, .unset, .unset, .unset, .unset, .unset, .unset]) rfl (XS.iload X15.here hx rfl (hb hby at_82) rfl  (XS.iload X15.here hx rfl (hb hby at_84) rfl  kk_)))))
      by_cases hj : (Int32.ofNat J) < (Int32.ofNat (N / 10))
      ·
        refine Go.st (T' := T15) (g' := (mkF m 93 #[iv p0, iv p1, iv p2, jv p3, .second, jv p4, .second, iv (Int32.ofNat N), iv (Int32.ofNat I), iv (Int32.ofNat J), iv (Int32.ofNat (N / 10)), rv b1, iv (1 : Int32), .unset, .unset, .unset, .unset, .unset, .unset, .unset, .unset, .unset, .unset, .unset, .unset, .unset, .unset] [])) ?_ (fun _ kk_ => XS.icmpYes X15.here hx rfl (pc0 := 86) (pc' := 93) rfl (hb hby at_86) rfl (tlt (hj : (Int32.ofNat J) < (Int32.ofNat (N / 10)))).1 (by decide) (by decide) kk_)
        have hj2 := (own_lt (show J < 2 ^ 31 by omega) (show N / 10 < 2 ^ 31 by omega)).mp hj
        refine Go.st (T' := T15) (g' := (mkF m 101 #[iv p0, iv p1, iv p2, jv p3, .second, jv p4, .second, iv (Int32.ofNat N), iv (Int32.ofNat I), iv (Int32.ofNat J), iv (Int32.ofNat (N / 10)), rv b1, iv (1 : Int32), iv (0 : Int32), .unset, .unset, .unset, .unset, .unset, .unset, .unset, .unset, .unset, .unset, .unset, .unset, .unset] [(.int ((Int32.ofNat N) - (Int32.ofNat (N / 10))))])) ?_ (fun _ kk_ => XS.iconst X15.here hx rfl (hb hby at_93) (XS.istore X15.here hx rfl (hb hby at_94) rfl (l' := #[iv p0, iv p1, iv p2, jv p3, .second, jv p4, .second, iv (Int32.ofNat N), iv (Int32.ofNat I), iv (Int32.ofNat J), iv (Int32.ofNat (N / 10)), rv b1, iv (1 : Int32), iv (0 : Int32), .unset, .unset, .unset, .unset, .unset, .unset, .unset, .unset, .unset, .unset, .unset, .unset, .unset]) rfl (XS.iload X15.here hx rfl (hb hby at_96) rfl  (XS.iload X15.here hx rfl (hb hby at_98) rfl  (XS.isub X15.here hx rfl (hb hby at_100) rfl kk_)))))
        rw [show Int32.ofNat N - Int32.ofNat (N / 10) = Int32.ofNat (N - N / 10) from own_sub (by omega)]
        show Go p e below _ T15 (mkF m 101 #[iv p0, iv p1, iv p2, jv p3, .second, jv p4, .second, iv (Int32.ofNat N), iv (Int32.ofNat I), iv (Int32.ofNat J), iv (Int32.ofNat (N / 10)), rv b1, iv (1 : Int32), iv (0 : Int32), .unset, .unset, .unset, .unset, .unset, .unset, .unset, .unset, .unset, .unset, .unset, .unset, .unset] [(.int (Int32.ofNat (N - N / 10)))])
        refine Go.st (T' := T15) (g' := (mkF m 130 #[iv p0, iv p1, iv p2, jv p3, .second, jv p4, .second, iv (Int32.ofNat N), iv (Int32.ofNat I), iv (Int32.ofNat J), iv (Int32.ofNat (N / 10)), rv b1, iv (1 : Int32), iv (0 : Int32), iv (Int32.ofNat (N - N / 10)), iv (1 : Int32), .unset, .unset, .unset, .unset, .unset, .unset, .unset, .unset, .unset, .unset, .unset] [(.int (1 : Int32)), (.int (Int32.ofNat (N - N / 10)))])) ?_ (fun _ kk_ => XS.istore X15.here hx rfl (hb hby at_101) rfl (l' := #[iv p0, iv p1, iv p2, jv p3, .second, jv p4, .second, iv (Int32.ofNat N), iv (Int32.ofNat I), iv (Int32.ofNat J), iv (Int32.ofNat (N / 10)), rv b1, iv (1 : Int32), iv (0 : Int32), iv (Int32.ofNat (N - N / 10)), .unset, .unset, .unset, .unset, .unset, .unset, .unset, .unset, .unset, .unset, .unset, .unset]) rfl (XS.iload X15.here hx rfl (hb hby at_103) rfl  (XS.ifNo X15.here hx rfl (hb hby at_105) rfl ((if0 _ _).trans (feq ((by decide) : ¬ ((1 : Int32) = (0 : Int32)))).1) (XS.iconst X15.here hx rfl (hb hby at_108) (XS.goto X15.here hx rfl (pc0 := 109) (pc' := 113) rfl (hb hby at_109) (by decide) (by decide) (XS.iload X15.here hx rfl (hb hby at_113) rfl  (XS.ifYes X15.here hx rfl (pc0 := 115) (pc' := 122) rfl (hb hby at_115) rfl ((if0 _ _).trans (teq ((by decide) : (0 : Int32) = (0 : Int32))).1) (by decide) (by decide) (XS.iconst X15.here hx rfl (hb hby at_122) (XS.iadd X15.here hx rfl (hb hby at_123) rfl (XS.istore X15.here hx rfl (hb hby at_124) rfl (l' := #[iv p0, iv p1, iv p2, jv p3, .second, jv p4, .second, iv (Int32.ofNat N), iv (Int32.ofNat I), iv (Int32.ofNat J), iv (Int32.ofNat (N / 10)), rv b1, iv (1 : Int32), iv (0 : Int32), iv (Int32.ofNat (N - N / 10)), iv (1 : Int32), .unset, .unset, .unset, .unset, .unset, .unset, .unset, .unset, .unset, .unset, .unset]) rfl (XS.iload X15.here hx rfl (hb hby at_126) rfl  (XS.iload X15.here hx rfl (hb hby at_128) rfl  kk_))))))))))))
        by_cases hz : (1 : Int32) < (Int32.ofNat (N - N / 10))
        ·
          refine Go.st (T' := T15) (g' := (mkF m 133 #[iv p0, iv p1, iv p2, jv p3, .second, jv p4, .second, iv (Int32.ofNat N), iv (Int32.ofNat I), iv (Int32.ofNat J), iv (Int32.ofNat (N / 10)), rv b1, iv (1 : Int32), iv (0 : Int32), iv (Int32.ofNat (N - N / 10)), iv (1 : Int32), .unset, .unset, .unset, .unset, .unset, .unset, .unset, .unset, .unset, .unset, .unset] [])) ?_ (fun _ kk_ => XS.icmpNo X15.here hx rfl (hb hby at_130) rfl (tlt (hz : (1 : Int32) < (Int32.ofNat (N - N / 10)))).2.2.2 kk_)
          have hz2 : 1 < N - N / 10 := (own_lt (i := 1) (by decide) (by omega)).mp hz
          refine Go.st (T' := T15) (g' := (mkF m 170 #[iv p0, iv p1, iv p2, jv p3, .second, jv p4, .second, iv (Int32.ofNat N), iv (Int32.ofNat I), iv (Int32.ofNat J), iv (Int32.ofNat (N / 10)), rv b1, iv (1 : Int32), iv (0 : Int32), iv (Int32.ofNat (N - N / 10)), iv (1 : Int32), iv (1 : Int32), jv p3, .second, jv p3, .second, jv p3, .second, .unset, .unset, .unset, .unset] [])) ?_ (fun _ kk_ => XS.iconst X15.here hx rfl (hb hby at_133) (XS.goto X15.here hx rfl (pc0 := 134) (pc' := 138) rfl (hb hby at_134) (by decide) (by decide) (XS.istore X15.here hx rfl (hb hby at_138) rfl (l' := #[iv p0, iv p1, iv p2, jv p3, .second, jv p4, .second, iv (Int32.ofNat N), iv (Int32.ofNat I), iv (Int32.ofNat J), iv (Int32.ofNat (N / 10)), rv b1, iv (1 : Int32), iv (0 : Int32), iv (Int32.ofNat (N - N / 10)), iv (1 : Int32), iv (1 : Int32), .unset, .unset, .unset, .unset, .unset, .unset, .unset, .unset, .unset, .unset]) rfl (XS.iload X15.here hx rfl (hb hby at_140) rfl  (XS.ifYes X15.here hx rfl (pc0 := 142) (pc' := 150) rfl (hb hby at_142) rfl ((if0 _ _).trans (teq ((by decide) : (0 : Int32) = (0 : Int32))).1) (by decide) (by decide) (XS.iload X15.here hx rfl (hb hby at_150) rfl  (XS.ifNo X15.here hx rfl (hb hby at_152) rfl ((if0 _ _).trans (feq ((by decide) : ¬ ((1 : Int32) = (0 : Int32)))).1) (XS.lloadN X15.here hx rfl (hb hby at_155) rfl  (XS.goto X15.here hx rfl (pc0 := 156) (pc' := 160) rfl (hb hby at_156) (by decide) (by decide) (XS.lstore X15.here hx rfl (hb hby at_160) rfl (l' := #[iv p0, iv p1, iv p2, jv p3, .second, jv p4, .second, iv (Int32.ofNat N), iv (Int32.ofNat I), iv (Int32.ofNat J), iv (Int32.ofNat (N / 10)), rv b1, iv (1 : Int32), iv (0 : Int32), iv (Int32.ofNat (N - N / 10)), iv (1 : Int32), iv (1 : Int32), jv p3, .second, .unset, .unset, .unset, .unset, .unset, .unset, .unset, .unset]) rfl (XS.lload X15.here hx rfl (hb hby at_162) rfl  (XS.lstore X15.here hx rfl (hb hby at_164) rfl (l' := #[iv p0, iv p1, iv p2, jv p3, .second, jv p4, .second, iv (Int32.ofNat N), iv (Int32.ofNat I), iv (Int32.ofNat J), iv (Int32.ofNat (N / 10)), rv b1, iv (1 : Int32), iv (0 : Int32), iv (Int32.ofNat (N - N / 10)), iv (1 : Int32), iv (1 : Int32), jv p3, .second, jv p3, .second, .unset, .unset, .unset, .unset, .unset, .unset]) rfl (XS.lload X15.here hx rfl (hb hby at_166) rfl  (XS.lstore X15.here hx rfl (hb hby at_168) rfl (l' := #[iv p0, iv p1, iv p2, jv p3, .second, jv p4, .second, iv (Int32.ofNat N), iv (Int32.ofNat I), iv (Int32.ofNat J), iv (Int32.ofNat (N / 10)), rv b1, iv (1 : Int32), iv (0 : Int32), iv (Int32.ofNat (N - N / 10)), iv (1 : Int32), iv (1 : Int32), jv p3, .second, jv p3, .second, jv p3, .second, .unset, .unset, .unset, .unset]) rfl kk_))))))))))))))
          refine Go.st (T' := T15) (g' := (mkF m 178 #[iv p0, iv p1, iv p2, jv p3, .second, jv p4, .second, iv (Int32.ofNat N), iv (Int32.ofNat I), iv (Int32.ofNat J), iv (Int32.ofNat (N / 10)), rv b1, iv (1 : Int32), iv (0 : Int32), iv (Int32.ofNat (N - N / 10)), iv (1 : Int32), iv (1 : Int32), jv p3, .second, jv p3, .second, jv p3, .second, .unset, .unset, .unset, .unset] [(.long (0 : Int64)), (.long p3)])) ?_ (fun _ kk_ => XS.iload X15.here hx rfl (hb hby at_170) rfl  (XS.ifNo X15.here hx rfl (hb hby at_172) rfl ((if0 _ _).trans (feq ((by decide) : ¬ ((1 : Int32) = (0 : Int32)))).1) (XS.lload X15.here hx rfl (hb hby at_175) rfl  (XS.lconst X15.here hx rfl (hb hby at_177) kk_))))
          refine Go.callS (y := (⟨"java/lang/Math", "min", "(JJ)J"⟩ : MethodName)) X15 hx hZ hown (hw _ (List.mem_of_getElem? (i := 24) rfl)) (hw _ (List.mem_of_getElem? (i := 25) rfl)) (hw _ (List.mem_of_getElem? (i := 12) rfl)) (hw _ (List.mem_of_getElem? (i := 26) rfl)) (by decide) 0 (rm_mnJ l Z a0 hw [] p3 (0 : Int64) T15.heap) rfl (by decide) (by decide) (by decide) (by decide) (argsL := [(.long p3), (.long (0 : Int64))]) (rest := []) rfl (by rw [hml]; rfl) (lenOf pd__28JJ_29J rfl) rfl rfl (by show 2 * 0 + _ ≤ _; exact Nat.le_of_eq rfl) (hb hby at_178) ?_
          rintro _ T123 L123 X123 ⟨rfl, e123, rfl⟩
          have N124 := Fr.app N17 (Fr.nil _)
          show Go p e below _ T123 (mkF m 181 #[iv p0, iv p1, iv p2, jv p3, .second, jv p4, .second, iv (Int32.ofNat N), iv (Int32.ofNat I), iv (Int32.ofNat J), iv (Int32.ofNat (N / 10)), rv b1, iv (1 : Int32), iv (0 : Int32), iv (Int32.ofNat (N - N / 10)), iv (1 : Int32), iv (1 : Int32), jv p3, .second, jv p3, .second, jv p3, .second, .unset, .unset, .unset, .unset] [(.long (mnJ p3 (0 : Int64)))])
          refine Go.st (T' := T123) (g' := (mkF m 186 #[iv p0, iv p1, iv p2, jv p3, .second, jv p4, .second, iv (Int32.ofNat N), iv (Int32.ofNat I), iv (Int32.ofNat J), iv (Int32.ofNat (N / 10)), rv b1, iv (1 : Int32), iv (0 : Int32), iv (Int32.ofNat (N - N / 10)), iv (1 : Int32), iv (1 : Int32), jv p3, .second, jv (mnJ p3 (0 : Int64)), .second, jv p3, .second, .unset, .unset, .unset, .unset] [(.long (0 : Int64)), (.long p3)])) ?_ (fun _ kk_ => XS.lstore X123.here hx rfl (hb hby at_181) rfl (l' := #[iv p0, iv p1, iv p2, jv p3, .second, jv p4, .second, iv (Int32.ofNat N), iv (Int32.ofNat I), iv (Int32.ofNat J), iv (Int32.ofNat (N / 10)), rv b1, iv (1 : Int32), iv (0 : Int32), iv (Int32.ofNat (N - N / 10)), iv (1 : Int32), iv (1 : Int32), jv p3, .second, jv (mnJ p3 (0 : Int64)), .second, jv p3, .second, .unset, .unset, .unset, .unset]) rfl (XS.lload X123.here hx rfl (hb hby at_183) rfl  (XS.lconst X123.here hx rfl (hb hby at_185) kk_)))
          refine Go.callS (y := (⟨"java/lang/Math", "max", "(JJ)J"⟩ : MethodName)) X123 hx hZ hown (hw _ (List.mem_of_getElem? (i := 27) rfl)) (hw _ (List.mem_of_getElem? (i := 28) rfl)) (hw _ (List.mem_of_getElem? (i := 12) rfl)) (hw _ (List.mem_of_getElem? (i := 29) rfl)) (by decide) 0 (rm_mxJ l Z a0 hw [] p3 (0 : Int64) T15.heap) e123 (by decide) (by decide) (by decide) (by decide) (argsL := [(.long p3), (.long (0 : Int64))]) (rest := []) rfl (by rw [hml]; rfl) (lenOf pd__28JJ_29J rfl) rfl rfl (by show 2 * 0 + _ ≤ _; exact Nat.le_of_eq rfl) (hb hby at_186) ?_
          rintro _ T125 L125 X125 ⟨rfl, e125, rfl⟩
          have N126 := Fr.app N124 (Fr.nil _)
          show Go p e below _ T125 (mkF m 189 #[iv p0, iv p1, iv p2, jv p3, .second, jv p4, .second, iv (Int32.ofNat N), iv (Int32.ofNat I), iv (Int32.ofNat J), iv (Int32.ofNat (N / 10)), rv b1, iv (1 : Int32), iv (0 : Int32), iv (Int32.ofNat (N - N / 10)), iv (1 : Int32), iv (1 : Int32), jv p3, .second, jv (mnJ p3 (0 : Int64)), .second, jv p3, .second, .unset, .unset, .unset, .unset] [(.long (mxJ p3 (0 : Int64)))])
          refine Go.st (T' := T125) (g' := (mkF m 199 #[iv p0, iv p1, iv p2, jv p3, .second, jv p4, .second, iv (Int32.ofNat N), iv (Int32.ofNat I), iv (Int32.ofNat J), iv (Int32.ofNat (N / 10)), rv b1, iv (1 : Int32), iv (0 : Int32), iv (Int32.ofNat (N - N / 10)), iv (1 : Int32), iv (1 : Int32), jv p3, .second, jv (mnJ p3 (0 : Int64)), .second, jv (mxJ p3 (0 : Int64)), .second, .unset, .unset, .unset, .unset] [(.long p3), (.long (mnJ p3 (0 : Int64)))])) ?_ (fun _ kk_ => XS.lstore X125.here hx rfl (hb hby at_189) rfl (l' := #[iv p0, iv p1, iv p2, jv p3, .second, jv p4, .second, iv (Int32.ofNat N), iv (Int32.ofNat I), iv (Int32.ofNat J), iv (Int32.ofNat (N / 10)), rv b1, iv (1 : Int32), iv (0 : Int32), iv (Int32.ofNat (N - N / 10)), iv (1 : Int32), iv (1 : Int32), jv p3, .second, jv (mnJ p3 (0 : Int64)), .second, jv (mxJ p3 (0 : Int64)), .second, .unset, .unset, .unset, .unset]) rfl (XS.iload X125.here hx rfl (hb hby at_191) rfl  (XS.ifNo X125.here hx rfl (hb hby at_193) rfl ((if0 _ _).trans (feq ((by decide) : ¬ ((1 : Int32) = (0 : Int32)))).1) (XS.lload X125.here hx rfl (hb hby at_196) rfl  (XS.lloadN X125.here hx rfl (hb hby at_198) rfl  kk_)))))
          refine Go.callS (y := (⟨"java/lang/Math", "min", "(JJ)J"⟩ : MethodName)) X125 hx hZ hown (hw _ (List.mem_of_getElem? (i := 24) rfl)) (hw _ (List.mem_of_getElem? (i := 25) rfl)) (hw _ (List.mem_of_getElem? (i := 12) rfl)) (hw _ (List.mem_of_getElem? (i := 26) rfl)) (by decide) 0 (rm_mnJ l Z a0 hw [] (mnJ p3 (0 : Int64)) p3 T15.heap) e125 (by decide) (by decide) (by decide) (by decide) (argsL := [(.long (mnJ p3 (0 : Int64))), (.long p3)]) (rest := []) rfl (by rw [hml]; rfl) (lenOf pd__28JJ_29J rfl) rfl rfl (by show 2 * 0 + _ ≤ _; exact Nat.le_of_eq rfl) (hb hby at_199) ?_
          rintro _ T127 L127 X127 ⟨rfl, e127, rfl⟩
          have N128 := Fr.app N126 (Fr.nil _)
          show Go p e below _ T127 (mkF m 202 #[iv p0, iv p1, iv p2, jv p3, .second, jv p4, .second, iv (Int32.ofNat N), iv (Int32.ofNat I), iv (Int32.ofNat J), iv (Int32.ofNat (N / 10)), rv b1, iv (1 : Int32), iv (0 : Int32), iv (Int32.ofNat (N - N / 10)), iv (1 : Int32), iv (1 : Int32), jv p3, .second, jv (mnJ p3 (0 : Int64)), .second, jv (mxJ p3 (0 : Int64)), .second, .unset, .unset, .unset, .unset] [(.long (mnJ (mnJ p3 (0 : Int64)) p3))])
          refine Go.st (T' := T127) (g' := (mkF m 207 #[iv p0, iv p1, iv p2, jv p3, .second, jv p4, .second, iv (Int32.ofNat N), iv (Int32.ofNat I), iv (Int32.ofNat J), iv (Int32.ofNat (N / 10)), rv b1, iv (1 : Int32), iv (0 : Int32), iv (Int32.ofNat (N - N / 10)), iv (1 : Int32), iv (1 : Int32), jv p3, .second, jv (mnJ (mnJ p3 (0 : Int64)) p3), .second, jv (mxJ p3 (0 : Int64)), .second, .unset, .unset, .unset, .unset] [(.long p3), (.long (mxJ p3 (0 : Int64)))])) ?_ (fun _ kk_ => XS.lstore X127.here hx rfl (hb hby at_202) rfl (l' := #[iv p0, iv p1, iv p2, jv p3, .second, jv p4, .second, iv (Int32.ofNat N), iv (Int32.ofNat I), iv (Int32.ofNat J), iv (Int32.ofNat (N / 10)), rv b1, iv (1 : Int32), iv (0 : Int32), iv (Int32.ofNat (N - N / 10)), iv (1 : Int32), iv (1 : Int32), jv p3, .second, jv (mnJ (mnJ p3 (0 : Int64)) p3), .second, jv (mxJ p3 (0 : Int64)), .second, .unset, .unset, .unset, .unset]) rfl (XS.lload X127.here hx rfl (hb hby at_204) rfl  (XS.lloadN X127.here hx rfl (hb hby at_206) rfl  kk_)))
          refine Go.callS (y := (⟨"java/lang/Math", "max", "(JJ)J"⟩ : MethodName)) X127 hx hZ hown (hw _ (List.mem_of_getElem? (i := 27) rfl)) (hw _ (List.mem_of_getElem? (i := 28) rfl)) (hw _ (List.mem_of_getElem? (i := 12) rfl)) (hw _ (List.mem_of_getElem? (i := 29) rfl)) (by decide) 0 (rm_mxJ l Z a0 hw [] (mxJ p3 (0 : Int64)) p3 T15.heap) e127 (by decide) (by decide) (by decide) (by decide) (argsL := [(.long (mxJ p3 (0 : Int64))), (.long p3)]) (rest := []) rfl (by rw [hml]; rfl) (lenOf pd__28JJ_29J rfl) rfl rfl (by show 2 * 0 + _ ≤ _; exact Nat.le_of_eq rfl) (hb hby at_207) ?_
          rintro _ T129 L129 X129 ⟨rfl, e129, rfl⟩
          have N130 := Fr.app N128 (Fr.nil _)
          show Go p e below _ T129 (mkF m 210 #[iv p0, iv p1, iv p2, jv p3, .second, jv p4, .second, iv (Int32.ofNat N), iv (Int32.ofNat I), iv (Int32.ofNat J), iv (Int32.ofNat (N / 10)), rv b1, iv (1 : Int32), iv (0 : Int32), iv (Int32.ofNat (N - N / 10)), iv (1 : Int32), iv (1 : Int32), jv p3, .second, jv (mnJ (mnJ p3 (0 : Int64)) p3), .second, jv (mxJ p3 (0 : Int64)), .second, .unset, .unset, .unset, .unset] [(.long (mxJ (mxJ p3 (0 : Int64)) p3))])
          refine Go.st (T' := T129) (g' := (mkF m 238 #[iv p0, iv p1, iv p2, jv p3, .second, jv p4, .second, iv (Int32.ofNat N), iv (Int32.ofNat I), iv (Int32.ofNat J), iv (Int32.ofNat (N / 10)), rv b1, iv (1 : Int32), iv (0 : Int32), iv (Int32.ofNat (N - N / 10)), iv (1 : Int32), iv (1 : Int32), jv p3, .second, jv (mnJ (mnJ p3 (0 : Int64)) p3), .second, jv (mxJ (mxJ p3 (0 : Int64)) p3), .second, .unset, .unset, .unset, .unset] [(.int (1 : Int32)), (.ref b1)])) ?_ (fun _ kk_ => XS.lstore X129.here hx rfl (hb hby at_210) rfl (l' := #[iv p0, iv p1, iv p2, jv p3, .second, jv p4, .second, iv (Int32.ofNat N), iv (Int32.ofNat I), iv (Int32.ofNat J), iv (Int32.ofNat (N / 10)), rv b1, iv (1 : Int32), iv (0 : Int32), iv (Int32.ofNat (N - N / 10)), iv (1 : Int32), iv (1 : Int32), jv p3, .second, jv (mnJ (mnJ p3 (0 : Int64)) p3), .second, jv (mxJ (mxJ p3 (0 : Int64)) p3), .second, .unset, .unset, .unset, .unset]) rfl (XS.iload X129.here hx rfl (hb hby at_212) rfl  (XS.ifYes X129.here hx rfl (pc0 := 214) (pc' := 235) rfl (hb hby at_214) rfl ((if0 _ _).trans (teq ((by decide) : (0 : Int32) = (0 : Int32))).1) (by decide) (by decide) (XS.aload X129.here hx rfl (hb hby at_235) rfl rfl  (XS.iconst X129.here hx rfl (hb hby at_237) kk_)))))
          have f131 := (f16.keep K15)
          have f132 := (f14.keep K15 (ninS ne_bt nin0))
          have f133 := ((Fs6.keep K9 (ninS ne_bt nin0)).keep K15 (ninS ne_bt nin0))
          refine Go.callV (y := (⟨"com/example/libdgram/libdgram/cli/Latencies", "percentile", "(I)J"⟩ : MethodName)) (z := (⟨"com/example/libdgram/libdgram/cli/Latencies", "percentile", "(I)J"⟩ : MethodName)) X129 hx hZ hown (hw _ (List.mem_of_getElem? (i := 30) rfl)) (hw _ (List.mem_of_getElem? (i := 31) rfl)) (notFace_of_selects (args := #[]) (mvT hZ (hw _ (List.mem_of_getElem? (i := 33) rfl)))) (hw _ (List.mem_of_getElem? (i := 33) rfl)) (hw _ (List.mem_of_getElem? (i := 32) rfl)) (hw _ (List.mem_of_getElem? (i := 3) rfl)) (hw _ (List.mem_of_getElem? (i := 34) rfl)) (by decide) 0 (rm_pe1 l Z a0 hw [] b1 t (N - N / 10) (fS (N / 10) J p4 (fS (N / 10) I p3 (fun _ => 0))) n0 T15.heap Z18 (by omega) V15 g_t (by omega) f131 f132 f133 g_b1 ne_bt) e129 (by decide) (by decide) (by decide) (by decide) f131 (argsL := [(.int (1 : Int32))]) (rest := []) rfl (by rw [hml]; rfl) (lenOf pd__28I_29J rfl) rfl rfl (by show 2 * 0 + _ ≤ _; exact Nat.le_of_eq rfl) (hb hby at_238) ?_
          rintro _ T134 L134 X134 ⟨N134, K134, Fs134, Fn134, f', S134, rfl, V134⟩
          have N135 := Fr.app N130 N134
          have Z136 : n0 ≤ T134.heap.size := Nat.le_trans Z18 K134.1
          show Go p e below _ T134 (mkF m 241 #[iv p0, iv p1, iv p2, jv p3, .second, jv p4, .second, iv (Int32.ofNat N), iv (Int32.ofNat I), iv (Int32.ofNat J), iv (Int32.ofNat (N / 10)), rv b1, iv (1 : Int32), iv (0 : Int32), iv (Int32.ofNat (N - N / 10)), iv (1 : Int32), iv (1 : Int32), jv p3, .second, jv (mnJ (mnJ p3 (0 : Int64)) p3), .second, jv (mxJ (mxJ p3 (0 : Int64)) p3), .second, .unset, .unset, .unset, .unset] [(.long (f' 0))])
          refine Go.st (T' := T134) (g' := (mkF m 247 #[iv p0, iv p1, iv p2, jv p3, .second, jv p4, .second, iv (Int32.ofNat N), iv (Int32.ofNat I), iv (Int32.ofNat J), iv (Int32.ofNat (N / 10)), rv b1, iv (1 : Int32), iv (0 : Int32), iv (Int32.ofNat (N - N / 10)), iv (1 : Int32), iv (1 : Int32), jv p3, .second, jv (mnJ (mnJ p3 (0 : Int64)) p3), .second, jv (mxJ (mxJ p3 (0 : Int64)) p3), .second, jv (f' 0), .second, .unset, .unset] [(.int (100 : Int32)), (.ref b1)])) ?_ (fun _ kk_ => XS.lstore X134.here hx rfl (hb hby at_241) rfl (l' := #[iv p0, iv p1, iv p2, jv p3, .second, jv p4, .second, iv (Int32.ofNat N), iv (Int32.ofNat I), iv (Int32.ofNat J), iv (Int32.ofNat (N / 10)), rv b1, iv (1 : Int32), iv (0 : Int32), iv (Int32.ofNat (N - N / 10)), iv (1 : Int32), iv (1 : Int32), jv p3, .second, jv (mnJ (mnJ p3 (0 : Int64)) p3), .second, jv (mxJ (mxJ p3 (0 : Int64)) p3), .second, jv (f' 0), .second, .unset, .unset]) rfl (XS.aload X134.here hx rfl (hb hby at_243) rfl rfl  (XS.bipush X134.here hx rfl (hb hby at_245) kk_)))
          have f138 := (f131.keep K134)
          refine Go.callV (y := (⟨"com/example/libdgram/libdgram/cli/Latencies", "percentile", "(I)J"⟩ : MethodName)) (z := (⟨"com/example/libdgram/libdgram/cli/Latencies", "percentile", "(I)J"⟩ : MethodName)) X134 hx hZ hown (hw _ (List.mem_of_getElem? (i := 30) rfl)) (hw _ (List.mem_of_getElem? (i := 31) rfl)) (notFace_of_selects (args := #[]) (mvT hZ (hw _ (List.mem_of_getElem? (i := 33) rfl)))) (hw _ (List.mem_of_getElem? (i := 33) rfl)) (hw _ (List.mem_of_getElem? (i := 32) rfl)) (hw _ (List.mem_of_getElem? (i := 3) rfl)) (hw _ (List.mem_of_getElem? (i := 34) rfl)) (by decide) 0 (rm_pe2 l Z a0 hw [] b1 t (N - N / 10) f' T134.heap (by omega) V134 (by omega) Fn134 Fs134) rfl (by decide) (by decide) (by decide) (by decide) f138 (argsL := [(.int (100 : Int32))]) (rest := []) rfl (by rw [hml]; rfl) (lenOf pd__28I_29J rfl) rfl rfl (by show 2 * 0 + _ ≤ _; exact Nat.le_of_eq rfl) (hb hby at_247) ?_
          rintro _ T137 L137 X137 ⟨rfl, e137, rfl⟩
          have N139 := Fr.app N135 (Fr.nil _)
          show Go p e below _ T137 (mkF m 250 #[iv p0, iv p1, iv p2, jv p3, .second, jv p4, .second, iv (Int32.ofNat N), iv (Int32.ofNat I), iv (Int32.ofNat J), iv (Int32.ofNat (N / 10)), rv b1, iv (1 : Int32), iv (0 : Int32), iv (Int32.ofNat (N - N / 10)), iv (1 : Int32), iv (1 : Int32), jv p3, .second, jv (mnJ (mnJ p3 (0 : Int64)) p3), .second, jv (mxJ (mxJ p3 (0 : Int64)) p3), .second, jv (f' 0), .second, .unset, .unset] [(.long (f' (N - N / 10 - 1)))])
          have hv1 : ∀ y ∈ [p3, (0 : Int64), p3], ∃ q, q < N - N / 10 ∧ (fS (N / 10) J p4 (fS (N / 10) I p3 (fun _ => 0))) q = y := by
            intro y hy
            simp only [List.mem_cons, List.not_mem_nil, or_false] at hy
            rcases hy with h | h | h
            · exact ⟨I - N / 10, by omega, by unfold fS; rw [if_neg (by omega), if_pos ⟨by omega, rfl⟩, h]⟩
            · obtain ⟨r, r1, r2⟩ := own_pick1 hz2 (I - N / 10)
              exact ⟨r, r1, by unfold fS; rw [if_neg (by omega), if_neg (by omega), h]⟩
            · exact ⟨I - N / 10, by omega, by unfold fS; rw [if_neg (by omega), if_pos ⟨by omega, rfl⟩, h]⟩
          have hv2 : ∀ q, q < N - N / 10 → (fS (N / 10) J p4 (fS (N / 10) I p3 (fun _ => 0))) q ∈ [p3, (0 : Int64), p3] := fun q hq => by unfold fS; split <;> (try split) <;> first | (simp; done) | (exfalso; omega)
          have hlo : f' 0 = (mnJ (mnJ p3 (0 : Int64)) p3) := own_low1 (own_low S134 (by omega)) (own_LowL hv1 hv2 (LowL.mn (LowL.mn (LowL.one p3) (0 : Int64)) p3))
          have hhi : f' (N - N / 10 - 1) = (mxJ (mxJ p3 (0 : Int64)) p3) := own_hig1 (own_hig S134 (by omega)) (own_HigL hv1 hv2 (HigL.mx (HigL.mx (HigL.one p3) (0 : Int64)) p3))
          refine Go.st (T' := T137) (g' := (mkF m 273 #[iv p0, iv p1, iv p2, jv p3, .second, jv p4, .second, iv (Int32.ofNat N), iv (Int32.ofNat I), iv (Int32.ofNat J), iv (Int32.ofNat (N / 10)), rv b1, iv (1 : Int32), iv (0 : Int32), iv (Int32.ofNat (N - N / 10)), iv (1 : Int32), iv (1 : Int32), jv p3, .second, jv (mnJ (mnJ p3 (0 : Int64)) p3), .second, jv (mxJ (mxJ p3 (0 : Int64)) p3), .second, jv (f' 0), .second, jv (f' (N - N / 10 - 1)), .second] [(.int (1 : Int32))])) ?_ (fun _ kk_ => XS.lstore X137.here hx rfl (hb hby at_250) rfl (l' := #[iv p0, iv p1, iv p2, jv p3, .second, jv p4, .second, iv (Int32.ofNat N), iv (Int32.ofNat I), iv (Int32.ofNat J), iv (Int32.ofNat (N / 10)), rv b1, iv (1 : Int32), iv (0 : Int32), iv (Int32.ofNat (N - N / 10)), iv (1 : Int32), iv (1 : Int32), jv p3, .second, jv (mnJ (mnJ p3 (0 : Int64)) p3), .second, jv (mxJ (mxJ p3 (0 : Int64)) p3), .second, jv (f' 0), .second, jv (f' (N - N / 10 - 1)), .second]) rfl (XS.lload X137.here hx rfl (hb hby at_252) rfl  (XS.lload X137.here hx rfl (hb hby at_254) rfl  (XS.lcmp X137.here hx rfl (hb hby at_256) rfl (XS.ifNo X137.here hx rfl (hb hby at_257) rfl ((if0 _ _).trans (teq (((lw_eq _ _).mpr hlo) : (lcmpW (f' 0) (mnJ (mnJ p3 (0 : Int64)) p3)) = (0 : Int32))).2) (XS.lload X137.here hx rfl (hb hby at_260) rfl  (XS.lload X137.here hx rfl (hb hby at_262) rfl  (XS.lcmp X137.here hx rfl (hb hby at_264) rfl (XS.ifNo X137.here hx rfl (hb hby at_265) rfl ((if0 _ _).trans (teq (((lw_eq _ _).mpr hhi) : (lcmpW (f' (N - N / 10 - 1)) (mxJ (mxJ p3 (0 : Int64)) p3)) = (0 : Int32))).2) (XS.iconst X137.here hx rfl (hb hby at_268) (XS.goto X137.here hx rfl (pc0 := 269) (pc' := 273) rfl (hb hby at_269) (by decide) (by decide) kk_)))))))))))
          refine Go.retN X137 hx hlk (t := .boolean) hret (by simp) (z' := (1 : Int32)) rfl (hb hby at_273) (by decide) (by decide) ?_
          try rw [e137]
          exact ⟨rfl, N139⟩
        ·
          refine Go.st (T' := T15) (g' := (mkF m 137 #[iv p0, iv p1, iv p2, jv p3, .second, jv p4, .second, iv (Int32.ofNat N), iv (Int32.ofNat I), iv (Int32.ofNat J), iv (Int32.ofNat (N / 10)), rv b1, iv (1 : Int32), iv (0 : Int32), iv (Int32.ofNat (N - N / 10)), iv (1 : Int32), .unset, .unset, .unset, .unset, .unset, .unset, .unset, .unset, .unset, .unset, .unset] [])) ?_ (fun _ kk_ => XS.icmpYes X15.here hx rfl (pc0 := 130) (pc' := 137) rfl (hb hby at_130) rfl (flt (hz : ¬ ((1 : Int32) < (Int32.ofNat (N - N / 10))))).2.2.2 (by decide) (by decide) kk_)
          have hz2 : ¬ (1 < N - N / 10) := fun z => hz ((own_lt (i := 1) (by decide) (by omega)).mpr z)
          refine Go.st (T' := T15) (g' := (mkF m 172 #[iv p0, iv p1, iv p2, jv p3, .second, jv p4, .second, iv (Int32.ofNat N), iv (Int32.ofNat I), iv (Int32.ofNat J), iv (Int32.ofNat (N / 10)), rv b1, iv (1 : Int32), iv (0 : Int32), iv (Int32.ofNat (N - N / 10)), iv (1 : Int32), iv (0 : Int32), jv p3, .second, jv p3, .second, jv p3, .second, .unset, .unset, .unset, .unset] [(.int (0 : Int32))])) ?_ (fun _ kk_ => XS.iconst X15.here hx rfl (hb hby at_137) (XS.istore X15.here hx rfl (hb hby at_138) rfl (l' := #[iv p0, iv p1, iv p2, jv p3, .second, jv p4, .second, iv (Int32.ofNat N), iv (Int32.ofNat I), iv (Int32.ofNat J), iv (Int32.ofNat (N / 10)), rv b1, iv (1 : Int32), iv (0 : Int32), iv (Int32.ofNat (N - N / 10)), iv (1 : Int32), iv (0 : Int32), .unset, .unset, .unset, .unset, .unset, .unset, .unset, .unset, .unset, .unset]) rfl (XS.iload X15.here hx rfl (hb hby at_140) rfl  (XS.ifYes X15.here hx rfl (pc0 := 142) (pc' := 150) rfl (hb hby at_142) rfl ((if0 _ _).trans (teq ((by decide) : (0 : Int32) = (0 : Int32))).1) (by decide) (by decide) (XS.iload X15.here hx rfl (hb hby at_150) rfl  (XS.ifNo X15.here hx rfl (hb hby at_152) rfl ((if0 _ _).trans (feq ((by decide) : ¬ ((1 : Int32) = (0 : Int32)))).1) (XS.lloadN X15.here hx rfl (hb hby at_155) rfl  (XS.goto X15.here hx rfl (pc0 := 156) (pc' := 160) rfl (hb hby at_156) (by decide) (by decide) (XS.lstore X15.here hx rfl (hb hby at_160) rfl (l' := #[iv p0, iv p1, iv p2, jv p3, .second, jv p4, .second, iv (Int32.ofNat N), iv (Int32.ofNat I), iv (Int32.ofNat J), iv (Int32.ofNat (N / 10)), rv b1, iv (1 : Int32), iv (0 : Int32), iv (Int32.ofNat (N - N / 10)), iv (1 : Int32), iv (0 : Int32), jv p3, .second, .unset, .unset, .unset, .unset, .unset, .unset, .unset, .unset]) rfl (XS.lload X15.here hx rfl (hb hby at_162) rfl  (XS.lstore X15.here hx rfl (hb hby at_164) rfl (l' := #[iv p0, iv p1, iv p2, jv p3, .second, jv p4, .second, iv (Int32.ofNat N), iv (Int32.ofNat I), iv (Int32.ofNat J), iv (Int32.ofNat (N / 10)), rv b1, iv (1 : Int32), iv (0 : Int32), iv (Int32.ofNat (N - N / 10)), iv (1 : Int32), iv (0 : Int32), jv p3, .second, jv p3, .second, .unset, .unset, .unset, .unset, .unset, .unset]) rfl (XS.lload X15.here hx rfl (hb hby at_166) rfl  (XS.lstore X15.here hx rfl (hb hby at_168) rfl (l' := #[iv p0, iv p1, iv p2, jv p3, .second, jv p4, .second, iv (Int32.ofNat N), iv (Int32.ofNat I), iv (Int32.ofNat J), iv (Int32.ofNat (N / 10)), rv b1, iv (1 : Int32), iv (0 : Int32), iv (Int32.ofNat (N - N / 10)), iv (1 : Int32), iv (0 : Int32), jv p3, .second, jv p3, .second, jv p3, .second, .unset, .unset, .unset, .unset]) rfl (XS.iload X15.here hx rfl (hb hby at_170) rfl  kk_))))))))))))))
          refine Go.st (T' := T15) (g' := (mkF m 199 #[iv p0, iv p1, iv p2, jv p3, .second, jv p4, .second, iv (Int32.ofNat N), iv (Int32.ofNat I), iv (Int32.ofNat J), iv (Int32.ofNat (N / 10)), rv b1, iv (1 : Int32), iv (0 : Int32), iv (Int32.ofNat (N - N / 10)), iv (1 : Int32), iv (0 : Int32), jv p3, .second, jv p3, .second, jv p3, .second, .unset, .unset, .unset, .unset] [(.long p3), (.long p3)])) ?_ (fun _ kk_ => XS.ifYes X15.here hx rfl (pc0 := 172) (pc' := 191) rfl (hb hby at_172) rfl ((if0 _ _).trans (teq ((by decide) : (0 : Int32) = (0 : Int32))).1) (by decide) (by decide) (XS.iload X15.here hx rfl (hb hby at_191) rfl  (XS.ifNo X15.here hx rfl (hb hby at_193) rfl ((if0 _ _).trans (feq ((by decide) : ¬ ((1 : Int32) = (0 : Int32)))).1) (XS.lload X15.here hx rfl (hb hby at_196) rfl  (XS.lloadN X15.here hx rfl (hb hby at_198) rfl  kk_)))))
          refine Go.callS (y := (⟨"java/lang/Math", "min", "(JJ)J"⟩ : MethodName)) X15 hx hZ hown (hw _ (List.mem_of_getElem? (i := 24) rfl)) (hw _ (List.mem_of_getElem? (i := 25) rfl)) (hw _ (List.mem_of_getElem? (i := 12) rfl)) (hw _ (List.mem_of_getElem? (i := 26) rfl)) (by decide) 0 (rm_mnJ l Z a0 hw [] p3 p3 T15.heap) rfl (by decide) (by decide) (by decide) (by decide) (argsL := [(.long p3), (.long p3)]) (rest := []) rfl (by rw [hml]; rfl) (lenOf pd__28JJ_29J rfl) rfl rfl (by show 2 * 0 + _ ≤ _; exact Nat.le_of_eq rfl) (hb hby at_199) ?_
          rintro _ T140 L140 X140 ⟨rfl, e140, rfl⟩
          have N141 := Fr.app N17 (Fr.nil _)
          show Go p e below _ T140 (mkF m 202 #[iv p0, iv p1, iv p2, jv p3, .second, jv p4, .second, iv (Int32.ofNat N), iv (Int32.ofNat I), iv (Int32.ofNat J), iv (Int32.ofNat (N / 10)), rv b1, iv (1 : Int32), iv (0 : Int32), iv (Int32.ofNat (N - N / 10)), iv (1 : Int32), iv (0 : Int32), jv p3, .second, jv p3, .second, jv p3, .second, .unset, .unset, .unset, .unset] [(.long (mnJ p3 p3))])
          refine Go.st (T' := T140) (g' := (mkF m 207 #[iv p0, iv p1, iv p2, jv p3, .second, jv p4, .second, iv (Int32.ofNat N), iv (Int32.ofNat I), iv (Int32.ofNat J), iv (Int32.ofNat (N / 10)), rv b1, iv (1 : Int32), iv (0 : Int32), iv (Int32.ofNat (N - N / 10)), iv (1 : Int32), iv (0 : Int32), jv p3, .second, jv (mnJ p3 p3), .second, jv p3, .second, .unset, .unset, .unset, .unset] [(.long p3), (.long p3)])) ?_ (fun _ kk_ => XS.lstore X140.here hx rfl (hb hby at_202) rfl (l' := #[iv p0, iv p1, iv p2, jv p3, .second, jv p4, .second, iv (Int32.ofNat N), iv (Int32.ofNat I), iv (Int32.ofNat J), iv (Int32.ofNat (N / 10)), rv b1, iv (1 : Int32), iv (0 : Int32), iv (Int32.ofNat (N - N / 10)), iv (1 : Int32), iv (0 : Int32), jv p3, .second, jv (mnJ p3 p3), .second, jv p3, .second, .unset, .unset, .unset, .unset]) rfl (XS.lload X140.here hx rfl (hb hby at_204) rfl  (XS.lloadN X140.here hx rfl (hb hby at_206) rfl  kk_)))
          refine Go.callS (y := (⟨"java/lang/Math", "max", "(JJ)J"⟩ : MethodName)) X140 hx hZ hown (hw _ (List.mem_of_getElem? (i := 27) rfl)) (hw _ (List.mem_of_getElem? (i := 28) rfl)) (hw _ (List.mem_of_getElem? (i := 12) rfl)) (hw _ (List.mem_of_getElem? (i := 29) rfl)) (by decide) 0 (rm_mxJ l Z a0 hw [] p3 p3 T15.heap) e140 (by decide) (by decide) (by decide) (by decide) (argsL := [(.long p3), (.long p3)]) (rest := []) rfl (by rw [hml]; rfl) (lenOf pd__28JJ_29J rfl) rfl rfl (by show 2 * 0 + _ ≤ _; exact Nat.le_of_eq rfl) (hb hby at_207) ?_
          rintro _ T142 L142 X142 ⟨rfl, e142, rfl⟩
          have N143 := Fr.app N141 (Fr.nil _)
          show Go p e below _ T142 (mkF m 210 #[iv p0, iv p1, iv p2, jv p3, .second, jv p4, .second, iv (Int32.ofNat N), iv (Int32.ofNat I), iv (Int32.ofNat J), iv (Int32.ofNat (N / 10)), rv b1, iv (1 : Int32), iv (0 : Int32), iv (Int32.ofNat (N - N / 10)), iv (1 : Int32), iv (0 : Int32), jv p3, .second, jv (mnJ p3 p3), .second, jv p3, .second, .unset, .unset, .unset, .unset] [(.long (mxJ p3 p3))])
          refine Go.st (T' := T142) (g' := (mkF m 238 #[iv p0, iv p1, iv p2, jv p3, .second, jv p4, .second, iv (Int32.ofNat N), iv (Int32.ofNat I), iv (Int32.ofNat J), iv (Int32.ofNat (N / 10)), rv b1, iv (1 : Int32), iv (0 : Int32), iv (Int32.ofNat (N - N / 10)), iv (1 : Int32), iv (0 : Int32), jv p3, .second, jv (mnJ p3 p3), .second, jv (mxJ p3 p3), .second, .unset, .unset, .unset, .unset] [(.int (1 : Int32)), (.ref b1)])) ?_ (fun _ kk_ => XS.lstore X142.here hx rfl (hb hby at_210) rfl (l' := #[iv p0, iv p1, iv p2, jv p3, .second, jv p4, .second, iv (Int32.ofNat N), iv (Int32.ofNat I), iv (Int32.ofNat J), iv (Int32.ofNat (N / 10)), rv b1, iv (1 : Int32), iv (0 : Int32), iv (Int32.ofNat (N - N / 10)), iv (1 : Int32), iv (0 : Int32), jv p3, .second, jv (mnJ p3 p3), .second, jv (mxJ p3 p3), .second, .unset, .unset, .unset, .unset]) rfl (XS.iload X142.here hx rfl (hb hby at_212) rfl  (XS.ifYes X142.here hx rfl (pc0 := 214) (pc' := 235) rfl (hb hby at_214) rfl ((if0 _ _).trans (teq ((by decide) : (0 : Int32) = (0 : Int32))).1) (by decide) (by decide) (XS.aload X142.here hx rfl (hb hby at_235) rfl rfl  (XS.iconst X142.here hx rfl (hb hby at_237) kk_)))))
          have f144 := (f16.keep K15)
          have f145 := (f14.keep K15 (ninS ne_bt nin0))
          have f146 := ((Fs6.keep K9 (ninS ne_bt nin0)).keep K15 (ninS ne_bt nin0))
          refine Go.callV (y := (⟨"com/example/libdgram/libdgram/cli/Latencies", "percentile", "(I)J"⟩ : MethodName)) (z := (⟨"com/example/libdgram/libdgram/cli/Latencies", "percentile", "(I)J"⟩ : MethodName)) X142 hx hZ hown (hw _ (List.mem_of_getElem? (i := 30) rfl)) (hw _ (List.mem_of_getElem? (i := 31) rfl)) (notFace_of_selects (args := #[]) (mvT hZ (hw _ (List.mem_of_getElem? (i := 33) rfl)))) (hw _ (List.mem_of_getElem? (i := 33) rfl)) (hw _ (List.mem_of_getElem? (i := 32) rfl)) (hw _ (List.mem_of_getElem? (i := 3) rfl)) (hw _ (List.mem_of_getElem? (i := 34) rfl)) (by decide) 0 (rm_pe1 l Z a0 hw [] b1 t (N - N / 10) (fS (N / 10) J p4 (fS (N / 10) I p3 (fun _ => 0))) n0 T15.heap Z18 (by omega) V15 g_t (by omega) f144 f145 f146 g_b1 ne_bt) e142 (by decide) (by decide) (by decide) (by decide) f144 (argsL := [(.int (1 : Int32))]) (rest := []) rfl (by rw [hml]; rfl) (lenOf pd__28I_29J rfl) rfl rfl (by show 2 * 0 + _ ≤ _; exact Nat.le_of_eq rfl) (hb hby at_238) ?_
          rintro _ T147 L147 X147 ⟨N147, K147, Fs147, Fn147, f', S147, rfl, V147⟩
          have N148 := Fr.app N143 N147
          have Z149 : n0 ≤ T147.heap.size := Nat.le_trans Z18 K147.1
          show Go p e below _ T147 (mkF m 241 #[iv p0, iv p1, iv p2, jv p3, .second, jv p4, .second, iv (Int32.ofNat N), iv (Int32.ofNat I), iv (Int32.ofNat J), iv (Int32.ofNat (N / 10)), rv b1, iv (1 : Int32), iv (0 : Int32), iv (Int32.ofNat (N - N / 10)), iv (1 : Int32), iv (0 : Int32), jv p3, .second, jv (mnJ p3 p3), .second, jv (mxJ p3 p3), .second, .unset, .unset, .unset, .unset] [(.long (f' 0))])
          refine Go.st (T' := T147) (g' := (mkF m 247 #[iv p0, iv p1, iv p2, jv p3, .second, jv p4, .second, iv (Int32.ofNat N), iv (Int32.ofNat I), iv (Int32.ofNat J), iv (Int32.ofNat (N / 10)), rv b1, iv (1 : Int32), iv (0 : Int32), iv (Int32.ofNat (N - N / 10)), iv (1 : Int32), iv (0 : Int32), jv p3, .second, jv (mnJ p3 p3), .second, jv (mxJ p3 p3), .second, jv (f' 0), .second, .unset, .unset] [(.int (100 : Int32)), (.ref b1)])) ?_ (fun _ kk_ => XS.lstore X147.here hx rfl (hb hby at_241) rfl (l' := #[iv p0, iv p1, iv p2, jv p3, .second, jv p4, .second, iv (Int32.ofNat N), iv (Int32.ofNat I), iv (Int32.ofNat J), iv (Int32.ofNat (N / 10)), rv b1, iv (1 : Int32), iv (0 : Int32), iv (Int32.ofNat (N - N / 10)), iv (1 : Int32), iv (0 : Int32), jv p3, .second, jv (mnJ p3 p3), .second, jv (mxJ p3 p3), .second, jv (f' 0), .second, .unset, .unset]) rfl (XS.aload X147.here hx rfl (hb hby at_243) rfl rfl  (XS.bipush X147.here hx rfl (hb hby at_245) kk_)))
          have f151 := (f144.keep K147)
          refine Go.callV (y := (⟨"com/example/libdgram/libdgram/cli/Latencies", "percentile", "(I)J"⟩ : MethodName)) (z := (⟨"com/example/libdgram/libdgram/cli/Latencies", "percentile", "(I)J"⟩ : MethodName)) X147 hx hZ hown (hw _ (List.mem_of_getElem? (i := 30) rfl)) (hw _ (List.mem_of_getElem? (i := 31) rfl)) (notFace_of_selects (args := #[]) (mvT hZ (hw _ (List.mem_of_getElem? (i := 33) rfl)))) (hw _ (List.mem_of_getElem? (i := 33) rfl)) (hw _ (List.mem_of_getElem? (i := 32) rfl)) (hw _ (List.mem_of_getElem? (i := 3) rfl)) (hw _ (List.mem_of_getElem? (i := 34) rfl)) (by decide) 0 (rm_pe2 l Z a0 hw [] b1 t (N - N / 10) f' T147.heap (by omega) V147 (by omega) Fn147 Fs147) rfl (by decide) (by decide) (by decide) (by decide) f151 (argsL := [(.int (100 : Int32))]) (rest := []) rfl (by rw [hml]; rfl) (lenOf pd__28I_29J rfl) rfl rfl (by show 2 * 0 + _ ≤ _; exact Nat.le_of_eq rfl) (hb hby at_247) ?_
          rintro _ T150 L150 X150 ⟨rfl, e150, rfl⟩
          have N152 := Fr.app N148 (Fr.nil _)
          show Go p e below _ T150 (mkF m 250 #[iv p0, iv p1, iv p2, jv p3, .second, jv p4, .second, iv (Int32.ofNat N), iv (Int32.ofNat I), iv (Int32.ofNat J), iv (Int32.ofNat (N / 10)), rv b1, iv (1 : Int32), iv (0 : Int32), iv (Int32.ofNat (N - N / 10)), iv (1 : Int32), iv (0 : Int32), jv p3, .second, jv (mnJ p3 p3), .second, jv (mxJ p3 p3), .second, jv (f' 0), .second, .unset, .unset] [(.long (f' (N - N / 10 - 1)))])
          have hv1 : ∀ y ∈ [p3, p3], ∃ q, q < N - N / 10 ∧ (fS (N / 10) J p4 (fS (N / 10) I p3 (fun _ => 0))) q = y := by
            intro y hy
            simp only [List.mem_cons, List.not_mem_nil, or_false] at hy
            rcases hy with h | h
            · exact ⟨I - N / 10, by omega, by unfold fS; rw [if_neg (by omega), if_pos ⟨by omega, rfl⟩, h]⟩
            · exact ⟨I - N / 10, by omega, by unfold fS; rw [if_neg (by omega), if_pos ⟨by omega, rfl⟩, h]⟩
          have hv2 : ∀ q, q < N - N / 10 → (fS (N / 10) J p4 (fS (N / 10) I p3 (fun _ => 0))) q ∈ [p3, p3] := fun q hq => by unfold fS; split <;> (try split) <;> first | (simp; done) | (exfalso; omega)
          have hlo : f' 0 = (mnJ p3 p3) := own_low1 (own_low S147 (by omega)) (own_LowL hv1 hv2 (LowL.mn (LowL.one p3) p3))
          have hhi : f' (N - N / 10 - 1) = (mxJ p3 p3) := own_hig1 (own_hig S147 (by omega)) (own_HigL hv1 hv2 (HigL.mx (HigL.one p3) p3))
          refine Go.st (T' := T150) (g' := (mkF m 273 #[iv p0, iv p1, iv p2, jv p3, .second, jv p4, .second, iv (Int32.ofNat N), iv (Int32.ofNat I), iv (Int32.ofNat J), iv (Int32.ofNat (N / 10)), rv b1, iv (1 : Int32), iv (0 : Int32), iv (Int32.ofNat (N - N / 10)), iv (1 : Int32), iv (0 : Int32), jv p3, .second, jv (mnJ p3 p3), .second, jv (mxJ p3 p3), .second, jv (f' 0), .second, jv (f' (N - N / 10 - 1)), .second] [(.int (1 : Int32))])) ?_ (fun _ kk_ => XS.lstore X150.here hx rfl (hb hby at_250) rfl (l' := #[iv p0, iv p1, iv p2, jv p3, .second, jv p4, .second, iv (Int32.ofNat N), iv (Int32.ofNat I), iv (Int32.ofNat J), iv (Int32.ofNat (N / 10)), rv b1, iv (1 : Int32), iv (0 : Int32), iv (Int32.ofNat (N - N / 10)), iv (1 : Int32), iv (0 : Int32), jv p3, .second, jv (mnJ p3 p3), .second, jv (mxJ p3 p3), .second, jv (f' 0), .second, jv (f' (N - N / 10 - 1)), .second]) rfl (XS.lload X150.here hx rfl (hb hby at_252) rfl  (XS.lload X150.here hx rfl (hb hby at_254) rfl  (XS.lcmp X150.here hx rfl (hb hby at_256) rfl (XS.ifNo X150.here hx rfl (hb hby at_257) rfl ((if0 _ _).trans (teq (((lw_eq _ _).mpr hlo) : (lcmpW (f' 0) (mnJ p3 p3)) = (0 : Int32))).2) (XS.lload X150.here hx rfl (hb hby at_260) rfl  (XS.lload X150.here hx rfl (hb hby at_262) rfl  (XS.lcmp X150.here hx rfl (hb hby at_264) rfl (XS.ifNo X150.here hx rfl (hb hby at_265) rfl ((if0 _ _).trans (teq (((lw_eq _ _).mpr hhi) : (lcmpW (f' (N - N / 10 - 1)) (mxJ p3 p3)) = (0 : Int32))).2) (XS.iconst X150.here hx rfl (hb hby at_268) (XS.goto X150.here hx rfl (pc0 := 269) (pc' := 273) rfl (hb hby at_269) (by decide) (by decide) kk_)))))))))))
          refine Go.retN X150 hx hlk (t := .boolean) hret (by simp) (z' := (1 : Int32)) rfl (hb hby at_273) (by decide) (by decide) ?_
          try rw [e150]
          exact ⟨rfl, N152⟩
      ·
        refine Go.st (T' := T15) (g' := (mkF m 89 #[iv p0, iv p1, iv p2, jv p3, .second, jv p4, .second, iv (Int32.ofNat N), iv (Int32.ofNat I), iv (Int32.ofNat J), iv (Int32.ofNat (N / 10)), rv b1, iv (1 : Int32), .unset, .unset, .unset, .unset, .unset, .unset, .unset, .unset, .unset, .unset, .unset, .unset, .unset, .unset] [])) ?_ (fun _ kk_ => XS.icmpNo X15.here hx rfl (hb hby at_86) rfl (flt (hj : ¬ ((Int32.ofNat J) < (Int32.ofNat (N / 10))))).1 kk_)
        have hj2 : ¬ J < N / 10 := fun z => hj ((own_lt (show J < 2 ^ 31 by omega) (show N / 10 < 2 ^ 31 by omega)).mpr z)
        refine Go.st (T' := T15) (g' := (mkF m 101 #[iv p0, iv p1, iv p2, jv p3, .second, jv p4, .second, iv (Int32.ofNat N), iv (Int32.ofNat I), iv (Int32.ofNat J), iv (Int32.ofNat (N / 10)), rv b1, iv (1 : Int32), iv (1 : Int32), .unset, .unset, .unset, .unset, .unset, .unset, .unset, .unset, .unset, .unset, .unset, .unset, .unset] [(.int ((Int32.ofNat N) - (Int32.ofNat (N / 10))))])) ?_ (fun _ kk_ => XS.iconst X15.here hx rfl (hb hby at_89) (XS.goto X15.here hx rfl (pc0 := 90) (pc' := 94) rfl (hb hby at_90) (by decide) (by decide) (XS.istore X15.here hx rfl (hb hby at_94) rfl (l' := #[iv p0, iv p1, iv p2, jv p3, .second, jv p4, .second, iv (Int32.ofNat N), iv (Int32.ofNat I), iv (Int32.ofNat J), iv (Int32.ofNat (N / 10)), rv b1, iv (1 : Int32), iv (1 : Int32), .unset, .unset, .unset, .unset, .unset, .unset, .unset, .unset, .unset, .unset, .unset, .unset, .unset]) rfl (XS.iload X15.here hx rfl (hb hby at_96) rfl  (XS.iload X15.here hx rfl (hb hby at_98) rfl  (XS.isub X15.here hx rfl (hb hby at_100) rfl kk_))))))
        rw [show Int32.ofNat N - Int32.ofNat (N / 10) = Int32.ofNat (N - N / 10) from own_sub (by omega)]
        show Go p e below _ T15 (mkF m 101 #[iv p0, iv p1, iv p2, jv p3, .second, jv p4, .second, iv (Int32.ofNat N), iv (Int32.ofNat I), iv (Int32.ofNat J), iv (Int32.ofNat (N / 10)), rv b1, iv (1 : Int32), iv (1 : Int32), .unset, .unset, .unset, .unset, .unset, .unset, .unset, .unset, .unset, .unset, .unset, .unset, .unset] [(.int (Int32.ofNat (N - N / 10)))])
        refine Go.st (T' := T15) (g' := (mkF m 130 #[iv p0, iv p1, iv p2, jv p3, .second, jv p4, .second, iv (Int32.ofNat N), iv (Int32.ofNat I), iv (Int32.ofNat J), iv (Int32.ofNat (N / 10)), rv b1, iv (1 : Int32), iv (1 : Int32), iv (Int32.ofNat (N - N / 10)), iv (2 : Int32), .unset, .unset, .unset, .unset, .unset, .unset, .unset, .unset, .unset, .unset, .unset] [(.int (2 : Int32)), (.int (Int32.ofNat (N - N / 10)))])) ?_ (fun _ kk_ => XS.istore X15.here hx rfl (hb hby at_101) rfl (l' := #[iv p0, iv p1, iv p2, jv p3, .second, jv p4, .second, iv (Int32.ofNat N), iv (Int32.ofNat I), iv (Int32.ofNat J), iv (Int32.ofNat (N / 10)), rv b1, iv (1 : Int32), iv (1 : Int32), iv (Int32.ofNat (N - N / 10)), .unset, .unset, .unset, .unset, .unset, .unset, .unset, .unset, .unset, .unset, .unset, .unset]) rfl (XS.iload X15.here hx rfl (hb hby at_103) rfl  (XS.ifNo X15.here hx rfl (hb hby at_105) rfl ((if0 _ _).trans (feq ((by decide) : ¬ ((1 : Int32) = (0 : Int32)))).1) (XS.iconst X15.here hx rfl (hb hby at_108) (XS.goto X15.here hx rfl (pc0 := 109) (pc' := 113) rfl (hb hby at_109) (by decide) (by decide) (XS.iload X15.here hx rfl (hb hby at_113) rfl  (XS.ifNo X15.here hx rfl (hb hby at_115) rfl ((if0 _ _).trans (feq ((by decide) : ¬ ((1 : Int32) = (0 : Int32)))).1) (XS.iconst X15.here hx rfl (hb hby at_118) (XS.goto X15.here hx rfl (pc0 := 119) (pc' := 123) rfl (hb hby at_119) (by decide) (by decide) (XS.iadd X15.here hx rfl (hb hby at_123) rfl (XS.istore X15.here hx rfl (hb hby at_124) rfl (l' := #[iv p0, iv p1, iv p2, jv p3, .second, jv p4, .second, iv (Int32.ofNat N), iv (Int32.ofNat I), iv (Int32.ofNat J), iv (Int32.ofNat (N / 10)), rv b1, iv (1 : Int32), iv (1 : Int32), iv (Int32.ofNat (N - N / 10)), iv (2 : Int32), .unset, .unset, .unset, .unset, .unset, .unset, .unset, .unset, .unset, .unset, .unset]) rfl (XS.iload X15.here hx rfl (hb hby at_126) rfl  (XS.iload X15.here hx rfl (hb hby at_128) rfl  kk_)))))))))))))
        by_cases hz : (2 : Int32) < (Int32.ofNat (N - N / 10))
        ·
          refine Go.st (T' := T15) (g' := (mkF m 133 #[iv p0, iv p1, iv p2, jv p3, .second, jv p4, .second, iv (Int32.ofNat N), iv (Int32.ofNat I), iv (Int32.ofNat J), iv (Int32.ofNat (N / 10)), rv b1, iv (1 : Int32), iv (1 : Int32), iv (Int32.ofNat (N - N / 10)), iv (2 : Int32), .unset, .unset, .unset, .unset, .unset, .unset, .unset, .unset, .unset, .unset, .unset] [])) ?_ (fun _ kk_ => XS.icmpNo X15.here hx rfl (hb hby at_130) rfl (tlt (hz : (2 : Int32) < (Int32.ofNat (N - N / 10)))).2.2.2 kk_)
          have hz2 : 2 < N - N / 10 := (own_lt (i := 2) (by decide) (by omega)).mp hz
          refine Go.st (T' := T15) (g' := (mkF m 175 #[iv p0, iv p1, iv p2, jv p3, .second, jv p4, .second, iv (Int32.ofNat N), iv (Int32.ofNat I), iv (Int32.ofNat J), iv (Int32.ofNat (N / 10)), rv b1, iv (1 : Int32), iv (1 : Int32), iv (Int32.ofNat (N - N / 10)), iv (2 : Int32), iv (1 : Int32), jv p4, .second, jv p4, .second, jv p4, .second, .unset, .unset, .unset, .unset] [])) ?_ (fun _ kk_ => XS.iconst X15.here hx rfl (hb hby at_133) (XS.goto X15.here hx rfl (pc0 := 134) (pc' := 138) rfl (hb hby at_134) (by decide) (by decide) (XS.istore X15.here hx rfl (hb hby at_138) rfl (l' := #[iv p0, iv p1, iv p2, jv p3, .second, jv p4, .second, iv (Int32.ofNat N), iv (Int32.ofNat I), iv (Int32.ofNat J), iv (Int32.ofNat (N / 10)), rv b1, iv (1 : Int32), iv (1 : Int32), iv (Int32.ofNat (N - N / 10)), iv (2 : Int32), iv (1 : Int32), .unset, .unset, .unset, .unset, .unset, .unset, .unset, .unset, .unset, .unset]) rfl (XS.iload X15.here hx rfl (hb hby at_140) rfl  (XS.ifNo X15.here hx rfl (hb hby at_142) rfl ((if0 _ _).trans (feq ((by decide) : ¬ ((1 : Int32) = (0 : Int32)))).1) (XS.lload X15.here hx rfl (hb hby at_145) rfl  (XS.goto X15.here hx rfl (pc0 := 147) (pc' := 160) rfl (hb hby at_147) (by decide) (by decide) (XS.lstore X15.here hx rfl (hb hby at_160) rfl (l' := #[iv p0, iv p1, iv p2, jv p3, .second, jv p4, .second, iv (Int32.ofNat N), iv (Int32.ofNat I), iv (Int32.ofNat J), iv (Int32.ofNat (N / 10)), rv b1, iv (1 : Int32), iv (1 : Int32), iv (Int32.ofNat (N - N / 10)), iv (2 : Int32), iv (1 : Int32), jv p4, .second, .unset, .unset, .unset, .unset, .unset, .unset, .unset, .unset]) rfl (XS.lload X15.here hx rfl (hb hby at_162) rfl  (XS.lstore X15.here hx rfl (hb hby at_164) rfl (l' := #[iv p0, iv p1, iv p2, jv p3, .second, jv p4, .second, iv (Int32.ofNat N), iv (Int32.ofNat I), iv (Int32.ofNat J), iv (Int32.ofNat (N / 10)), rv b1, iv (1 : Int32), iv (1 : Int32), iv (Int32.ofNat (N - N / 10)), iv (2 : Int32), iv (1 : Int32), jv p4, .second, jv p4, .second, .unset, .unset, .unset, .unset, .unset, .unset]) rfl (XS.lload X15.here hx rfl (hb hby at_166) rfl  (XS.lstore X15.here hx rfl (hb hby at_168) rfl (l' := #[iv p0, iv p1, iv p2, jv p3, .second, jv p4, .second, iv (Int32.ofNat N), iv (Int32.ofNat I), iv (Int32.ofNat J), iv (Int32.ofNat (N / 10)), rv b1, iv (1 : Int32), iv (1 : Int32), iv (Int32.ofNat (N - N / 10)), iv (2 : Int32), iv (1 : Int32), jv p4, .second, jv p4, .second, jv p4, .second, .unset, .unset, .unset, .unset]) rfl (XS.iload X15.here hx rfl (hb hby at_170) rfl  (XS.ifNo X15.here hx rfl (hb hby at_172) rfl ((if0 _ _).trans (feq ((by decide) : ¬ ((1 : Int32) = (0 : Int32)))).1) kk_))))))))))))))
          refine Go.st (T' := T15) (g' := (mkF m 178 #[iv p0, iv p1, iv p2, jv p3, .second, jv p4, .second, iv (Int32.ofNat N), iv (Int32.ofNat I), iv (Int32.ofNat J), iv (Int32.ofNat (N / 10)), rv b1, iv (1 : Int32), iv (1 : Int32), iv (Int32.ofNat (N - N / 10)), iv (2 : Int32), iv (1 : Int32), jv p4, .second, jv p4, .second, jv p4, .second, .unset, .unset, .unset, .unset] [(.long (0 : Int64)), (.long p4)])) ?_ (fun _ kk_ => XS.lload X15.here hx rfl (hb hby at_175) rfl  (XS.lconst X15.here hx rfl (hb hby at_177) kk_))
          refine Go.callS (y := (⟨"java/lang/Math", "min", "(JJ)J"⟩ : MethodName)) X15 hx hZ hown (hw _ (List.mem_of_getElem? (i := 24) rfl)) (hw _ (List.mem_of_getElem? (i := 25) rfl)) (hw _ (List.mem_of_getElem? (i := 12) rfl)) (hw _ (List.mem_of_getElem? (i := 26) rfl)) (by decide) 0 (rm_mnJ l Z a0 hw [] p4 (0 : Int64) T15.heap) rfl (by decide) (by decide) (by decide) (by decide) (argsL := [(.long p4), (.long (0 : Int64))]) (rest := []) rfl (by rw [hml]; rfl) (lenOf pd__28JJ_29J rfl) rfl rfl (by show 2 * 0 + _ ≤ _; exact Nat.le_of_eq rfl) (hb hby at_178) ?_
          rintro _ T153 L153 X153 ⟨rfl, e153, rfl⟩
          have N154 := Fr.app N17 (Fr.nil _)
          show Go p e below _ T153 (mkF m 181 #[iv p0, iv p1, iv p2, jv p3, .second, jv p4, .second, iv (Int32.ofNat N), iv (Int32.ofNat I), iv (Int32.ofNat J), iv (Int32.ofNat (N / 10)), rv b1, iv (1 : Int32), iv (1 : Int32), iv (Int32.ofNat (N - N / 10)), iv (2 : Int32), iv (1 : Int32), jv p4, .second, jv p4, .second, jv p4, .second, .unset, .unset, .unset, .unset] [(.long (mnJ p4 (0 : Int64)))])
          refine Go.st (T' := T153) (g' := (mkF m 186 #[iv p0, iv p1, iv p2, jv p3, .second, jv p4, .second, iv (Int32.ofNat N), iv (Int32.ofNat I), iv (Int32.ofNat J), iv (Int32.ofNat (N / 10)), rv b1, iv (1 : Int32), iv (1 : Int32), iv (Int32.ofNat (N - N / 10)), iv (2 : Int32), iv (1 : Int32), jv p4, .second, jv (mnJ p4 (0 : Int64)), .second, jv p4, .second, .unset, .unset, .unset, .unset] [(.long (0 : Int64)), (.long p4)])) ?_ (fun _ kk_ => XS.lstore X153.here hx rfl (hb hby at_181) rfl (l' := #[iv p0, iv p1, iv p2, jv p3, .second, jv p4, .second, iv (Int32.ofNat N), iv (Int32.ofNat I), iv (Int32.ofNat J), iv (Int32.ofNat (N / 10)), rv b1, iv (1 : Int32), iv (1 : Int32), iv (Int32.ofNat (N - N / 10)), iv (2 : Int32), iv (1 : Int32), jv p4, .second, jv (mnJ p4 (0 : Int64)), .second, jv p4, .second, .unset, .unset, .unset, .unset]) rfl (XS.lload X153.here hx rfl (hb hby at_183) rfl  (XS.lconst X153.here hx rfl (hb hby at_185) kk_)))
          refine Go.callS (y := (⟨"java/lang/Math", "max", "(JJ)J"⟩ : MethodName)) X153 hx hZ hown (hw _ (List.mem_of_getElem? (i := 27) rfl)) (hw _ (List.mem_of_getElem? (i := 28) rfl)) (hw _ (List.mem_of_getElem? (i := 12) rfl)) (hw _ (List.mem_of_getElem? (i := 29) rfl)) (by decide) 0 (rm_mxJ l Z a0 hw [] p4 (0 : Int64) T15.heap) e153 (by decide) (by decide) (by decide) (by decide) (argsL := [(.long p4), (.long (0 : Int64))]) (rest := []) rfl (by rw [hml]; rfl) (lenOf pd__28JJ_29J rfl) rfl rfl (by show 2 * 0 + _ ≤ _; exact Nat.le_of_eq rfl) (hb hby at_186) ?_
          rintro _ T155 L155 X155 ⟨rfl, e155, rfl⟩
          have N156 := Fr.app N154 (Fr.nil _)
          show Go p e below _ T155 (mkF m 189 #[iv p0, iv p1, iv p2, jv p3, .second, jv p4, .second, iv (Int32.ofNat N), iv (Int32.ofNat I), iv (Int32.ofNat J), iv (Int32.ofNat (N / 10)), rv b1, iv (1 : Int32), iv (1 : Int32), iv (Int32.ofNat (N - N / 10)), iv (2 : Int32), iv (1 : Int32), jv p4, .second, jv (mnJ p4 (0 : Int64)), .second, jv p4, .second, .unset, .unset, .unset, .unset] [(.long (mxJ p4 (0 : Int64)))])
          refine Go.st (T' := T155) (g' := (mkF m 199 #[iv p0, iv p1, iv p2, jv p3, .second, jv p4, .second, iv (Int32.ofNat N), iv (Int32.ofNat I), iv (Int32.ofNat J), iv (Int32.ofNat (N / 10)), rv b1, iv (1 : Int32), iv (1 : Int32), iv (Int32.ofNat (N - N / 10)), iv (2 : Int32), iv (1 : Int32), jv p4, .second, jv (mnJ p4 (0 : Int64)), .second, jv (mxJ p4 (0 : Int64)), .second, .unset, .unset, .unset, .unset] [(.long p3), (.long (mnJ p4 (0 : Int64)))])) ?_ (fun _ kk_ => XS.lstore X155.here hx rfl (hb hby at_189) rfl (l' := #[iv p0, iv p1, iv p2, jv p3, .second, jv p4, .second, iv (Int32.ofNat N), iv (Int32.ofNat I), iv (Int32.ofNat J), iv (Int32.ofNat (N / 10)), rv b1, iv (1 : Int32), iv (1 : Int32), iv (Int32.ofNat (N - N / 10)), iv (2 : Int32), iv (1 : Int32), jv p4, .second, jv (mnJ p4 (0 : Int64)), .second, jv (mxJ p4 (0 : Int64)), .second, .unset, .unset, .unset, .unset]) rfl (XS.iload X155.here hx rfl (hb hby at_191) rfl  (XS.ifNo X155.here hx rfl (hb hby at_193) rfl ((if0 _ _).trans (feq ((by decide) : ¬ ((1 : Int32) = (0 : Int32)))).1) (XS.lload X155.here hx rfl (hb hby at_196) rfl  (XS.lloadN X155.here hx rfl (hb hby at_198) rfl  kk_)))))
          refine Go.callS (y := (⟨"java/lang/Math", "min", "(JJ)J"⟩ : MethodName)) X155 hx hZ hown (hw _ (List.mem_of_getElem? (i := 24) rfl)) (hw _ (List.mem_of_getElem? (i := 25) rfl)) (hw _ (List.mem_of_getElem? (i := 12) rfl)) (hw _ (List.mem_of_getElem? (i := 26) rfl)) (by decide) 0 (rm_mnJ l Z a0 hw [] (mnJ p4 (0 : Int64)) p3 T15.heap) e155 (by decide) (by decide) (by decide) (by decide) (argsL := [(.long (mnJ p4 (0 : Int64))), (.long p3)]) (rest := []) rfl (by rw [hml]; rfl) (lenOf pd__28JJ_29J rfl) rfl rfl (by show 2 * 0 + _ ≤ _; exact Nat.le_of_eq rfl) (hb hby at_199) ?_
          rintro _ T157 L157 X157 ⟨rfl, e157, rfl⟩
          have N158 := Fr.app N156 (Fr.nil _)
          show Go p e below _ T157 (mkF m 202 #[iv p0, iv p1, iv p2, jv p3, .second, jv p4, .second, iv (Int32.ofNat N), iv (Int32.ofNat I), iv (Int32.ofNat J), iv (Int32.ofNat (N / 10)), rv b1, iv (1 : Int32), iv (1 : Int32), iv (Int32.ofNat (N - N / 10)), iv (2 : Int32), iv (1 : Int32), jv p4, .second, jv (mnJ p4 (0 : Int64)), .second, jv (mxJ p4 (0 : Int64)), .second, .unset, .unset, .unset, .unset] [(.long (mnJ (mnJ p4 (0 : Int64)) p3))])
          refine Go.st (T' := T157) (g' := (mkF m 207 #[iv p0, iv p1, iv p2, jv p3, .second, jv p4, .second, iv (Int32.ofNat N), iv (Int32.ofNat I), iv (Int32.ofNat J), iv (Int32.ofNat (N / 10)), rv b1, iv (1 : Int32), iv (1 : Int32), iv (Int32.ofNat (N - N / 10)), iv (2 : Int32), iv (1 : Int32), jv p4, .second, jv (mnJ (mnJ p4 (0 : Int64)) p3), .second, jv (mxJ p4 (0 : Int64)), .second, .unset, .unset, .unset, .unset] [(.long p3), (.long (mxJ p4 (0 : Int64)))])) ?_ (fun _ kk_ => XS.lstore X157.here hx rfl (hb hby at_202) rfl (l' := #[iv p0, iv p1, iv p2, jv p3, .second, jv p4, .second, iv (Int32.ofNat N), iv (Int32.ofNat I), iv (Int32.ofNat J), iv (Int32.ofNat (N / 10)), rv b1, iv (1 : Int32), iv (1 : Int32), iv (Int32.ofNat (N - N / 10)), iv (2 : Int32), iv (1 : Int32), jv p4, .second, jv (mnJ (mnJ p4 (0 : Int64)) p3), .second, jv (mxJ p4 (0 : Int64)), .second, .unset, .unset, .unset, .unset]) rfl (XS.lload X157.here hx rfl (hb hby at_204) rfl  (XS.lloadN X157.here hx rfl (hb hby at_206) rfl  kk_)))
          refine Go.callS (y := (⟨"java/lang/Math", "max", "(JJ)J"⟩ : MethodName)) X157 hx hZ hown (hw _ (List.mem_of_getElem? (i := 27) rfl)) (hw _ (List.mem_of_getElem? (i := 28) rfl)) (hw _ (List.mem_of_getElem? (i := 12) rfl)) (hw _ (List.mem_of_getElem? (i := 29) rfl)) (by decide) 0 (rm_mxJ l Z a0 hw [] (mxJ p4 (0 : Int64)) p3 T15.heap) e157 (by decide) (by decide) (by decide) (by decide) (argsL := [(.long (mxJ p4 (0 : Int64))), (.long p3)]) (rest := []) rfl (by rw [hml]; rfl) (lenOf pd__28JJ_29J rfl) rfl rfl (by show 2 * 0 + _ ≤ _; exact Nat.le_of_eq rfl) (hb hby at_207) ?_
          rintro _ T159 L159 X159 ⟨rfl, e159, rfl⟩
          have N160 := Fr.app N158 (Fr.nil _)
          show Go p e below _ T159 (mkF m 210 #[iv p0, iv p1, iv p2, jv p3, .second, jv p4, .second, iv (Int32.ofNat N), iv (Int32.ofNat I), iv (Int32.ofNat J), iv (Int32.ofNat (N / 10)), rv b1, iv (1 : Int32), iv (1 : Int32), iv (Int32.ofNat (N - N / 10)), iv (2 : Int32), iv (1 : Int32), jv p4, .second, jv (mnJ (mnJ p4 (0 : Int64)) p3), .second, jv (mxJ p4 (0 : Int64)), .second, .unset, .unset, .unset, .unset] [(.long (mxJ (mxJ p4 (0 : Int64)) p3))])
          refine Go.st (T' := T159) (g' := (mkF m 221 #[iv p0, iv p1, iv p2, jv p3, .second, jv p4, .second, iv (Int32.ofNat N), iv (Int32.ofNat I), iv (Int32.ofNat J), iv (Int32.ofNat (N / 10)), rv b1, iv (1 : Int32), iv (1 : Int32), iv (Int32.ofNat (N - N / 10)), iv (2 : Int32), iv (1 : Int32), jv p4, .second, jv (mnJ (mnJ p4 (0 : Int64)) p3), .second, jv (mxJ (mxJ p4 (0 : Int64)) p3), .second, .unset, .unset, .unset, .unset] [(.long p4), (.long (mnJ (mnJ p4 (0 : Int64)) p3))])) ?_ (fun _ kk_ => XS.lstore X159.here hx rfl (hb hby at_210) rfl (l' := #[iv p0, iv p1, iv p2, jv p3, .second, jv p4, .second, iv (Int32.ofNat N), iv (Int32.ofNat I), iv (Int32.ofNat J), iv (Int32.ofNat (N / 10)), rv b1, iv (1 : Int32), iv (1 : Int32), iv (Int32.ofNat (N - N / 10)), iv (2 : Int32), iv (1 : Int32), jv p4, .second, jv (mnJ (mnJ p4 (0 : Int64)) p3), .second, jv (mxJ (mxJ p4 (0 : Int64)) p3), .second, .unset, .unset, .unset, .unset]) rfl (XS.iload X159.here hx rfl (hb hby at_212) rfl  (XS.ifNo X159.here hx rfl (hb hby at_214) rfl ((if0 _ _).trans (feq ((by decide) : ¬ ((1 : Int32) = (0 : Int32)))).1) (XS.lload X159.here hx rfl (hb hby at_217) rfl  (XS.lload X159.here hx rfl (hb hby at_219) rfl  kk_)))))
          refine Go.callS (y := (⟨"java/lang/Math", "min", "(JJ)J"⟩ : MethodName)) X159 hx hZ hown (hw _ (List.mem_of_getElem? (i := 24) rfl)) (hw _ (List.mem_of_getElem? (i := 25) rfl)) (hw _ (List.mem_of_getElem? (i := 12) rfl)) (hw _ (List.mem_of_getElem? (i := 26) rfl)) (by decide) 0 (rm_mnJ l Z a0 hw [] (mnJ (mnJ p4 (0 : Int64)) p3) p4 T15.heap) e159 (by decide) (by decide) (by decide) (by decide) (argsL := [(.long (mnJ (mnJ p4 (0 : Int64)) p3)), (.long p4)]) (rest := []) rfl (by rw [hml]; rfl) (lenOf pd__28JJ_29J rfl) rfl rfl (by show 2 * 0 + _ ≤ _; exact Nat.le_of_eq rfl) (hb hby at_221) ?_
          rintro _ T161 L161 X161 ⟨rfl, e161, rfl⟩
          have N162 := Fr.app N160 (Fr.nil _)
          show Go p e below _ T161 (mkF m 224 #[iv p0, iv p1, iv p2, jv p3, .second, jv p4, .second, iv (Int32.ofNat N), iv (Int32.ofNat I), iv (Int32.ofNat J), iv (Int32.ofNat (N / 10)), rv b1, iv (1 : Int32), iv (1 : Int32), iv (Int32.ofNat (N - N / 10)), iv (2 : Int32), iv (1 : Int32), jv p4, .second, jv (mnJ (mnJ p4 (0 : Int64)) p3), .second, jv (mxJ (mxJ p4 (0 : Int64)) p3), .second, .unset, .unset, .unset, .unset] [(.long (mnJ (mnJ (mnJ p4 (0 : Int64)) p3) p4))])
          refine Go.st (T' := T161) (g' := (mkF m 230 #[iv p0, iv p1, iv p2, jv p3, .second, jv p4, .second, iv (Int32.ofNat N), iv (Int32.ofNat I), iv (Int32.ofNat J), iv (Int32.ofNat (N / 10)), rv b1, iv (1 : Int32), iv (1 : Int32), iv (Int32.ofNat (N - N / 10)), iv (2 : Int32), iv (1 : Int32), jv p4, .second, jv (mnJ (mnJ (mnJ p4 (0 : Int64)) p3) p4), .second, jv (mxJ (mxJ p4 (0 : Int64)) p3), .second, .unset, .unset, .unset, .unset] [(.long p4), (.long (mxJ (mxJ p4 (0 : Int64)) p3))])) ?_ (fun _ kk_ => XS.lstore X161.here hx rfl (hb hby at_224) rfl (l' := #[iv p0, iv p1, iv p2, jv p3, .second, jv p4, .second, iv (Int32.ofNat N), iv (Int32.ofNat I), iv (Int32.ofNat J), iv (Int32.ofNat (N / 10)), rv b1, iv (1 : Int32), iv (1 : Int32), iv (Int32.ofNat (N - N / 10)), iv (2 : Int32), iv (1 : Int32), jv p4, .second, jv (mnJ (mnJ (mnJ p4 (0 : Int64)) p3) p4), .second, jv (mxJ (mxJ p4 (0 : Int64)) p3), .second, .unset, .unset, .unset, .unset]) rfl (XS.lload X161.here hx rfl (hb hby at_226) rfl  (XS.lload X161.here hx rfl (hb hby at_228) rfl  kk_)))
          refine Go.callS (y := (⟨"java/lang/Math", "max", "(JJ)J"⟩ : MethodName)) X161 hx hZ hown (hw _ (List.mem_of_getElem? (i := 27) rfl)) (hw _ (List.mem_of_getElem? (i := 28) rfl)) (hw _ (List.mem_of_getElem? (i := 12) rfl)) (hw _ (List.mem_of_getElem? (i := 29) rfl)) (by decide) 0 (rm_mxJ l Z a0 hw [] (mxJ (mxJ p4 (0 : Int64)) p3) p4 T15.heap) e161 (by decide) (by decide) (by decide) (by decide) (argsL := [(.long (mxJ (mxJ p4 (0 : Int64)) p3)), (.long p4)]) (rest := []) rfl (by rw [hml]; rfl) (lenOf pd__28JJ_29J rfl) rfl rfl (by show 2 * 0 + _ ≤ _; exact Nat.le_of_eq rfl) (hb hby at_230) ?_
          rintro _ T163 L163 X163 ⟨rfl, e163, rfl⟩
          have N164 := Fr.app N162 (Fr.nil _)
          show Go p e below _ T163 (mkF m 233 #[iv p0, iv p1, iv p2, jv p3, .second, jv p4, .second, iv (Int32.ofNat N), iv (Int32.ofNat I), iv (Int32.ofNat J), iv (Int32.ofNat (N / 10)), rv b1, iv (1 : Int32), iv (1 : Int32), iv (Int32.ofNat (N - N / 10)), iv (2 : Int32), iv (1 : Int32), jv p4, .second, jv (mnJ (mnJ (mnJ p4 (0 : Int64)) p3) p4), .second, jv (mxJ (mxJ p4 (0 : Int64)) p3), .second, .unset, .unset, .unset, .unset] [(.long (mxJ (mxJ (mxJ p4 (0 : Int64)) p3) p4))])
          refine Go.st (T' := T163) (g' := (mkF m 238 #[iv p0, iv p1, iv p2, jv p3, .second, jv p4, .second, iv (Int32.ofNat N), iv (Int32.ofNat I), iv (Int32.ofNat J), iv (Int32.ofNat (N / 10)), rv b1, iv (1 : Int32), iv (1 : Int32), iv (Int32.ofNat (N - N / 10)), iv (2 : Int32), iv (1 : Int32), jv p4, .second, jv (mnJ (mnJ (mnJ p4 (0 : Int64)) p3) p4), .second, jv (mxJ (mxJ (mxJ p4 (0 : Int64)) p3) p4), .second, .unset, .unset, .unset, .unset] [(.int (1 : Int32)), (.ref b1)])) ?_ (fun _ kk_ => XS.lstore X163.here hx rfl (hb hby at_233) rfl (l' := #[iv p0, iv p1, iv p2, jv p3, .second, jv p4, .second, iv (Int32.ofNat N), iv (Int32.ofNat I), iv (Int32.ofNat J), iv (Int32.ofNat (N / 10)), rv b1, iv (1 : Int32), iv (1 : Int32), iv (Int32.ofNat (N - N / 10)), iv (2 : Int32), iv (1 : Int32), jv p4, .second, jv (mnJ (mnJ (mnJ p4 (0 : Int64)) p3) p4), .second, jv (mxJ (mxJ (mxJ p4 (0 : Int64)) p3) p4), .second, .unset, .unset, .unset, .unset]) rfl (XS.aload X163.here hx rfl (hb hby at_235) rfl rfl  (XS.iconst X163.here hx rfl (hb hby at_237) kk_)))
          have f165 := (f16.keep K15)
          have f166 := (f14.keep K15 (ninS ne_bt nin0))
          have f167 := ((Fs6.keep K9 (ninS ne_bt nin0)).keep K15 (ninS ne_bt nin0))
          refine Go.callV (y := (⟨"com/example/libdgram/libdgram/cli/Latencies", "percentile", "(I)J"⟩ : MethodName)) (z := (⟨"com/example/libdgram/libdgram/cli/Latencies", "percentile", "(I)J"⟩ : MethodName)) X163 hx hZ hown (hw _ (List.mem_of_getElem? (i := 30) rfl)) (hw _ (List.mem_of_getElem? (i := 31) rfl)) (notFace_of_selects (args := #[]) (mvT hZ (hw _ (List.mem_of_getElem? (i := 33) rfl)))) (hw _ (List.mem_of_getElem? (i := 33) rfl)) (hw _ (List.mem_of_getElem? (i := 32) rfl)) (hw _ (List.mem_of_getElem? (i := 3) rfl)) (hw _ (List.mem_of_getElem? (i := 34) rfl)) (by decide) 0 (rm_pe1 l Z a0 hw [] b1 t (N - N / 10) (fS (N / 10) J p4 (fS (N / 10) I p3 (fun _ => 0))) n0 T15.heap Z18 (by omega) V15 g_t (by omega) f165 f166 f167 g_b1 ne_bt) e163 (by decide) (by decide) (by decide) (by decide) f165 (argsL := [(.int (1 : Int32))]) (rest := []) rfl (by rw [hml]; rfl) (lenOf pd__28I_29J rfl) rfl rfl (by show 2 * 0 + _ ≤ _; exact Nat.le_of_eq rfl) (hb hby at_238) ?_
          rintro _ T168 L168 X168 ⟨N168, K168, Fs168, Fn168, f', S168, rfl, V168⟩
          have N169 := Fr.app N164 N168
          have Z170 : n0 ≤ T168.heap.size := Nat.le_trans Z18 K168.1
          show Go p e below _ T168 (mkF m 241 #[iv p0, iv p1, iv p2, jv p3, .second, jv p4, .second, iv (Int32.ofNat N), iv (Int32.ofNat I), iv (Int32.ofNat J), iv (Int32.ofNat (N / 10)), rv b1, iv (1 : Int32), iv (1 : Int32), iv (Int32.ofNat (N - N / 10)), iv (2 : Int32), iv (1 : Int32), jv p4, .second, jv (mnJ (mnJ (mnJ p4 (0 : Int64)) p3) p4), .second, jv (mxJ (mxJ (mxJ p4 (0 : Int64)) p3) p4), .second, .unset, .unset, .unset, .unset] [(.long (f' 0))])
          refine Go.st (T' := T168) (g' := (mkF m 247 #[iv p0, iv p1, iv p2, jv p3, .second, jv p4, .second, iv (Int32.ofNat N), iv (Int32.ofNat I), iv (Int32.ofNat J), iv (Int32.ofNat (N / 10)), rv b1, iv (1 : Int32), iv (1 : Int32), iv (Int32.ofNat (N - N / 10)), iv (2 : Int32), iv (1 : Int32), jv p4, .second, jv (mnJ (mnJ (mnJ p4 (0 : Int64)) p3) p4), .second, jv (mxJ (mxJ (mxJ p4 (0 : Int64)) p3) p4), .second, jv (f' 0), .second, .unset, .unset] [(.int (100 : Int32)), (.ref b1)])) ?_ (fun _ kk_ => XS.lstore X168.here hx rfl (hb hby at_241) rfl (l' := #[iv p0, iv p1, iv p2, jv p3, .second, jv p4, .second, iv (Int32.ofNat N), iv (Int32.ofNat I), iv (Int32.ofNat J), iv (Int32.ofNat (N / 10)), rv b1, iv (1 : Int32), iv (1 : Int32), iv (Int32.ofNat (N - N / 10)), iv (2 : Int32), iv (1 : Int32), jv p4, .second, jv (mnJ (mnJ (mnJ p4 (0 : Int64)) p3) p4), .second, jv (mxJ (mxJ (mxJ p4 (0 : Int64)) p3) p4), .second, jv (f' 0), .second, .unset, .unset]) rfl (XS.aload X168.here hx rfl (hb hby at_243) rfl rfl  (XS.bipush X168.here hx rfl (hb hby at_245) kk_)))
          have f172 := (f165.keep K168)
          refine Go.callV (y := (⟨"com/example/libdgram/libdgram/cli/Latencies", "percentile", "(I)J"⟩ : MethodName)) (z := (⟨"com/example/libdgram/libdgram/cli/Latencies", "percentile", "(I)J"⟩ : MethodName)) X168 hx hZ hown (hw _ (List.mem_of_getElem? (i := 30) rfl)) (hw _ (List.mem_of_getElem? (i := 31) rfl)) (notFace_of_selects (args := #[]) (mvT hZ (hw _ (List.mem_of_getElem? (i := 33) rfl)))) (hw _ (List.mem_of_getElem? (i := 33) rfl)) (hw _ (List.mem_of_getElem? (i := 32) rfl)) (hw _ (List.mem_of_getElem? (i := 3) rfl)) (hw _ (List.mem_of_getElem? (i := 34) rfl)) (by decide) 0 (rm_pe2 l Z a0 hw [] b1 t (N - N / 10) f' T168.heap (by omega) V168 (by omega) Fn168 Fs168) rfl (by decide) (by decide) (by decide) (by decide) f172 (argsL := [(.int (100 : Int32))]) (rest := []) rfl (by rw [hml]; rfl) (lenOf pd__28I_29J rfl) rfl rfl (by show 2 * 0 + _ ≤ _; exact Nat.le_of_eq rfl) (hb hby at_247) ?_
          rintro _ T171 L171 X171 ⟨rfl, e171, rfl⟩
          have N173 := Fr.app N169 (Fr.nil _)
          show Go p e below _ T171 (mkF m 250 #[iv p0, iv p1, iv p2, jv p3, .second, jv p4, .second, iv (Int32.ofNat N), iv (Int32.ofNat I), iv (Int32.ofNat J), iv (Int32.ofNat (N / 10)), rv b1, iv (1 : Int32), iv (1 : Int32), iv (Int32.ofNat (N - N / 10)), iv (2 : Int32), iv (1 : Int32), jv p4, .second, jv (mnJ (mnJ (mnJ p4 (0 : Int64)) p3) p4), .second, jv (mxJ (mxJ (mxJ p4 (0 : Int64)) p3) p4), .second, jv (f' 0), .second, .unset, .unset] [(.long (f' (N - N / 10 - 1)))])
          have hv1 : ∀ y ∈ [p4, p3, (0 : Int64), p4], ∃ q, q < N - N / 10 ∧ (fS (N / 10) J p4 (fS (N / 10) I p3 (fun _ => 0))) q = y := by
            intro y hy
            simp only [List.mem_cons, List.not_mem_nil, or_false] at hy
            rcases hy with h | h | h | h
            · exact ⟨J - N / 10, by omega, by unfold fS; rw [if_pos ⟨by omega, rfl⟩, h]⟩
            · exact ⟨I - N / 10, by omega, by unfold fS; rw [if_neg (by omega), if_pos ⟨by omega, rfl⟩, h]⟩
            · obtain ⟨r, r1, r2, r3⟩ := own_pick2 hz2 (I - N / 10) (J - N / 10)
              exact ⟨r, r1, by unfold fS; rw [if_neg (by omega), if_neg (by omega), h]⟩
            · exact ⟨J - N / 10, by omega, by unfold fS; rw [if_pos ⟨by omega, rfl⟩, h]⟩
          have hv2 : ∀ q, q < N - N / 10 → (fS (N / 10) J p4 (fS (N / 10) I p3 (fun _ => 0))) q ∈ [p4, p3, (0 : Int64), p4] := fun q hq => by unfold fS; split <;> (try split) <;> first | (simp; done) | (exfalso; omega)
          have hlo : f' 0 = (mnJ (mnJ (mnJ p4 (0 : Int64)) p3) p4) := own_low1 (own_low S168 (by omega)) (own_LowL hv1 hv2 (LowL.mn (LowL.mn (LowL.mn (LowL.one p4) (0 : Int64)) p3) p4))
          have hhi : f' (N - N / 10 - 1) = (mxJ (mxJ (mxJ p4 (0 : Int64)) p3) p4) := own_hig1 (own_hig S168 (by omega)) (own_HigL hv1 hv2 (HigL.mx (HigL.mx (HigL.mx (HigL.one p4) (0 : Int64)) p3) p4))
          refine Go.st (T' := T171) (g' := (mkF m 273 #[iv p0, iv p1, iv p2, jv p3, .second, jv p4, .second, iv (Int32.ofNat N), iv (Int32.ofNat I), iv (Int32.ofNat J), iv (Int32.ofNat (N / 10)), rv b1, iv (1 : Int32), iv (1 : Int32), iv (Int32.ofNat (N - N / 10)), iv (2 : Int32), iv (1 : Int32), jv p4, .second, jv (mnJ (mnJ (mnJ p4 (0 : Int64)) p3) p4), .second, jv (mxJ (mxJ (mxJ p4 (0 : Int64)) p3) p4), .second, jv (f' 0), .second, jv (f' (N - N / 10 - 1)), .second] [(.int (1 : Int32))])) ?_ (fun _ kk_ => XS.lstore X171.here hx rfl (hb hby at_250) rfl (l' := #[iv p0, iv p1, iv p2, jv p3, .second, jv p4, .second, iv (Int32.ofNat N), iv (Int32.ofNat I), iv (Int32.ofNat J), iv (Int32.ofNat (N / 10)), rv b1, iv (1 : Int32), iv (1 : Int32), iv (Int32.ofNat (N - N / 10)), iv (2 : Int32), iv (1 : Int32), jv p4, .second, jv (mnJ (mnJ (mnJ p4 (0 : Int64)) p3) p4), .second, jv (mxJ (mxJ (mxJ p4 (0 : Int64)) p3) p4), .second, jv (f' 0), .second, jv (f' (N - N / 10 - 1)), .second]) rfl (XS.lload X171.here hx rfl (hb hby at_252) rfl  (XS.lload X171.here hx rfl (hb hby at_254) rfl  (XS.lcmp X171.here hx rfl (hb hby at_256) rfl (XS.ifNo X171.here hx rfl (hb hby at_257) rfl ((if0 _ _).trans (teq (((lw_eq _ _).mpr hlo) : (lcmpW (f' 0) (mnJ (mnJ (mnJ p4 (0 : Int64)) p3) p4)) = (0 : Int32))).2) (XS.lload X171.here hx rfl (hb hby at_260) rfl  (XS.lload X171.here hx rfl (hb hby at_262) rfl  (XS.lcmp X171.here hx rfl (hb hby at_264) rfl (XS.ifNo X171.here hx rfl (hb hby at_265) rfl ((if0 _ _).trans (teq (((lw_eq _ _).mpr hhi) : (lcmpW (f' (N - N / 10 - 1)) (mxJ (mxJ (mxJ p4 (0 : Int64)) p3) p4)) = (0 : Int32))).2) (XS.iconst X171.here hx rfl (hb hby at_268) (XS.goto X171.here hx rfl (pc0 := 269) (pc' := 273) rfl (hb hby at_269) (by decide) (by decide) kk_)))))))))))
          refine Go.retN X171 hx hlk (t := .boolean) hret (by simp) (z' := (1 : Int32)) rfl (hb hby at_273) (by decide) (by decide) ?_
          try rw [e171]
          exact ⟨rfl, N173⟩
        ·
          refine Go.st (T' := T15) (g' := (mkF m 137 #[iv p0, iv p1, iv p2, jv p3, .second, jv p4, .second, iv (Int32.ofNat N), iv (Int32.ofNat I), iv (Int32.ofNat J), iv (Int32.ofNat (N / 10)), rv b1, iv (1 : Int32), iv (1 : Int32), iv (Int32.ofNat (N - N / 10)), iv (2 : Int32), .unset, .unset, .unset, .unset, .unset, .unset, .unset, .unset, .unset, .unset, .unset] [])) ?_ (fun _ kk_ => XS.icmpYes X15.here hx rfl (pc0 := 130) (pc' := 137) rfl (hb hby at_130) rfl (flt (hz : ¬ ((2 : Int32) < (Int32.ofNat (N - N / 10))))).2.2.2 (by decide) (by decide) kk_)
          have hz2 : ¬ (2 < N - N / 10) := fun z => hz ((own_lt (i := 2) (by decide) (by omega)).mpr z)
          refine Go.st (T' := T15) (g' := (mkF m 193 #[iv p0, iv p1, iv p2, jv p3, .second, jv p4, .second, iv (Int32.ofNat N), iv (Int32.ofNat I), iv (Int32.ofNat J), iv (Int32.ofNat (N / 10)), rv b1, iv (1 : Int32), iv (1 : Int32), iv (Int32.ofNat (N - N / 10)), iv (2 : Int32), iv (0 : Int32), jv p4, .second, jv p4, .second, jv p4, .second, .unset, .unset, .unset, .unset] [(.int (1 : Int32))])) ?_ (fun _ kk_ => XS.iconst X15.here hx rfl (hb hby at_137) (XS.istore X15.here hx rfl (hb hby at_138) rfl (l' := #[iv p0, iv p1, iv p2, jv p3, .second, jv p4, .second, iv (Int32.ofNat N), iv (Int32.ofNat I), iv (Int32.ofNat J), iv (Int32.ofNat (N / 10)), rv b1, iv (1 : Int32), iv (1 : Int32), iv (Int32.ofNat (N - N / 10)), iv (2 : Int32), iv (0 : Int32), .unset, .unset, .unset, .unset, .unset, .unset, .unset, .unset, .unset, .unset]) rfl (XS.iload X15.here hx rfl (hb hby at_140) rfl  (XS.ifNo X15.here hx rfl (hb hby at_142) rfl ((if0 _ _).trans (feq ((by decide) : ¬ ((1 : Int32) = (0 : Int32)))).1) (XS.lload X15.here hx rfl (hb hby at_145) rfl  (XS.goto X15.here hx rfl (pc0 := 147) (pc' := 160) rfl (hb hby at_147) (by decide) (by decide) (XS.lstore X15.here hx rfl (hb hby at_160) rfl (l' := #[iv p0, iv p1, iv p2, jv p3, .second, jv p4, .second, iv (Int32.ofNat N), iv (Int32.ofNat I), iv (Int32.ofNat J), iv (Int32.ofNat (N / 10)), rv b1, iv (1 : Int32), iv (1 : Int32), iv (Int32.ofNat (N - N / 10)), iv (2 : Int32), iv (0 : Int32), jv p4, .second, .unset, .unset, .unset, .unset, .unset, .unset, .unset, .unset]) rfl (XS.lload X15.here hx rfl (hb hby at_162) rfl  (XS.lstore X15.here hx rfl (hb hby at_164) rfl (l' := #[iv p0, iv p1, iv p2, jv p3, .second, jv p4, .second, iv (Int32.ofNat N), iv (Int32.ofNat I), iv (Int32.ofNat J), iv (Int32.ofNat (N / 10)), rv b1, iv (1 : Int32), iv (1 : Int32), iv (Int32.ofNat (N - N / 10)), iv (2 : Int32), iv (0 : Int32), jv p4, .second, jv p4, .second, .unset, .unset, .unset, .unset, .unset, .unset]) rfl (XS.lload X15.here hx rfl (hb hby at_166) rfl  (XS.lstore X15.here hx rfl (hb hby at_168) rfl (l' := #[iv p0, iv p1, iv p2, jv p3, .second, jv p4, .second, iv (Int32.ofNat N), iv (Int32.ofNat I), iv (Int32.ofNat J), iv (Int32.ofNat (N / 10)), rv b1, iv (1 : Int32), iv (1 : Int32), iv (Int32.ofNat (N - N / 10)), iv (2 : Int32), iv (0 : Int32), jv p4, .second, jv p4, .second, jv p4, .second, .unset, .unset, .unset, .unset]) rfl (XS.iload X15.here hx rfl (hb hby at_170) rfl  (XS.ifYes X15.here hx rfl (pc0 := 172) (pc' := 191) rfl (hb hby at_172) rfl ((if0 _ _).trans (teq ((by decide) : (0 : Int32) = (0 : Int32))).1) (by decide) (by decide) (XS.iload X15.here hx rfl (hb hby at_191) rfl  kk_))))))))))))))
          refine Go.st (T' := T15) (g' := (mkF m 199 #[iv p0, iv p1, iv p2, jv p3, .second, jv p4, .second, iv (Int32.ofNat N), iv (Int32.ofNat I), iv (Int32.ofNat J), iv (Int32.ofNat (N / 10)), rv b1, iv (1 : Int32), iv (1 : Int32), iv (Int32.ofNat (N - N / 10)), iv (2 : Int32), iv (0 : Int32), jv p4, .second, jv p4, .second, jv p4, .second, .unset, .unset, .unset, .unset] [(.long p3), (.long p4)])) ?_ (fun _ kk_ => XS.ifNo X15.here hx rfl (hb hby at_193) rfl ((if0 _ _).trans (feq ((by decide) : ¬ ((1 : Int32) = (0 : Int32)))).1) (XS.lload X15.here hx rfl (hb hby at_196) rfl  (XS.lloadN X15.here hx rfl (hb hby at_198) rfl  kk_)))
          refine Go.callS (y := (⟨"java/lang/Math", "min", "(JJ)J"⟩ : MethodName)) X15 hx hZ hown (hw _ (List.mem_of_getElem? (i := 24) rfl)) (hw _ (List.mem_of_getElem? (i := 25) rfl)) (hw _ (List.mem_of_getElem? (i := 12) rfl)) (hw _ (List.mem_of_getElem? (i := 26) rfl)) (by decide) 0 (rm_mnJ l Z a0 hw [] p4 p3 T15.heap) rfl (by decide) (by decide) (by decide) (by decide) (argsL := [(.long p4), (.long p3)]) (rest := []) rfl (by rw [hml]; rfl) (lenOf pd__28JJ_29J rfl) rfl rfl (by show 2 * 0 + _ ≤ _; exact Nat.le_of_eq rfl) (hb hby at_199) ?_
          rintro _ T174 L174 X174 ⟨rfl, e174, rfl⟩
          have N175 := Fr.app N17 (Fr.nil _)
          show Go p e below _ T174 (mkF m 202 #[iv p0, iv p1, iv p2, jv p3, .second, jv p4, .second, iv (Int32.ofNat N), iv (Int32.ofNat I), iv (Int32.ofNat J), iv (Int32.ofNat (N / 10)), rv b1, iv (1 : Int32), iv (1 : Int32), iv (Int32.ofNat (N - N / 10)), iv (2 : Int32), iv (0 : Int32), jv p4, .second, jv p4, .second, jv p4, .second, .unset, .unset, .unset, .unset] [(.long (mnJ p4 p3))])
          refine Go.st (T' := T174) (g' := (mkF m 207 #[iv p0, iv p1, iv p2, jv p3, .second, jv p4, .second, iv (Int32.ofNat N), iv (Int32.ofNat I), iv (Int32.ofNat J), iv (Int32.ofNat (N / 10)), rv b1, iv (1 : Int32), iv (1 : Int32), iv (Int32.ofNat (N - N / 10)), iv (2 : Int32), iv (0 : Int32), jv p4, .second, jv (mnJ p4 p3), .second, jv p4, .second, .unset, .unset, .unset, .unset] [(.long p3), (.long p4)])) ?_ (fun _ kk_ => XS.lstore X174.here hx rfl (hb hby at_202) rfl (l' := #[iv p0, iv p1, iv p2, jv p3, .second, jv p4, .second, iv (Int32.ofNat N), iv (Int32.ofNat I), iv (Int32.ofNat J), iv (Int32.ofNat (N / 10)), rv b1, iv (1 : Int32), iv (1 : Int32), iv (Int32.ofNat (N - N / 10)), iv (2 : Int32), iv (0 : Int32), jv p4, .second, jv (mnJ p4 p3), .second, jv p4, .second, .unset, .unset, .unset, .unset]) rfl (XS.lload X174.here hx rfl (hb hby at_204) rfl  (XS.lloadN X174.here hx rfl (hb hby at_206) rfl  kk_)))
          refine Go.callS (y := (⟨"java/lang/Math", "max", "(JJ)J"⟩ : MethodName)) X174 hx hZ hown (hw _ (List.mem_of_getElem? (i := 27) rfl)) (hw _ (List.mem_of_getElem? (i := 28) rfl)) (hw _ (List.mem_of_getElem? (i := 12) rfl)) (hw _ (List.mem_of_getElem? (i := 29) rfl)) (by decide) 0 (rm_mxJ l Z a0 hw [] p4 p3 T15.heap) e174 (by decide) (by decide) (by decide) (by decide) (argsL := [(.long p4), (.long p3)]) (rest := []) rfl (by rw [hml]; rfl) (lenOf pd__28JJ_29J rfl) rfl rfl (by show 2 * 0 + _ ≤ _; exact Nat.le_of_eq rfl) (hb hby at_207) ?_
          rintro _ T176 L176 X176 ⟨rfl, e176, rfl⟩
          have N177 := Fr.app N175 (Fr.nil _)
          show Go p e below _ T176 (mkF m 210 #[iv p0, iv p1, iv p2, jv p3, .second, jv p4, .second, iv (Int32.ofNat N), iv (Int32.ofNat I), iv (Int32.ofNat J), iv (Int32.ofNat (N / 10)), rv b1, iv (1 : Int32), iv (1 : Int32), iv (Int32.ofNat (N - N / 10)), iv (2 : Int32), iv (0 : Int32), jv p4, .second, jv (mnJ p4 p3), .second, jv p4, .second, .unset, .unset, .unset, .unset] [(.long (mxJ p4 p3))])
          refine Go.st (T' := T176) (g' := (mkF m 221 #[iv p0, iv p1, iv p2, jv p3, .second, jv p4, .second, iv (Int32.ofNat N), iv (Int32.ofNat I), iv (Int32.ofNat J), iv (Int32.ofNat (N / 10)), rv b1, iv (1 : Int32), iv (1 : Int32), iv (Int32.ofNat (N - N / 10)), iv (2 : Int32), iv (0 : Int32), jv p4, .second, jv (mnJ p4 p3), .second, jv (mxJ p4 p3), .second, .unset, .unset, .unset, .unset] [(.long p4), (.long (mnJ p4 p3))])) ?_ (fun _ kk_ => XS.lstore X176.here hx rfl (hb hby at_210) rfl (l' := #[iv p0, iv p1, iv p2, jv p3, .second, jv p4, .second, iv (Int32.ofNat N), iv (Int32.ofNat I), iv (Int32.ofNat J), iv (Int32.ofNat (N / 10)), rv b1, iv (1 : Int32), iv (1 : Int32), iv (Int32.ofNat (N - N / 10)), iv (2 : Int32), iv (0 : Int32), jv p4, .second, jv (mnJ p4 p3), .second, jv (mxJ p4 p3), .second, .unset, .unset, .unset, .unset]) rfl (XS.iload X176.here hx rfl (hb hby at_212) rfl  (XS.ifNo X176.here hx rfl (hb hby at_214) rfl ((if0 _ _).trans (feq ((by decide) : ¬ ((1 : Int32) = (0 : Int32)))).1) (XS.lload X176.here hx rfl (hb hby at_217) rfl  (XS.lload X176.here hx rfl (hb hby at_219) rfl  kk_)))))
          refine Go.callS (y := (⟨"java/lang/Math", "min", "(JJ)J"⟩ : MethodName)) X176 hx hZ hown (hw _ (List.mem_of_getElem? (i := 24) rfl)) (hw _ (List.mem_of_getElem? (i := 25) rfl)) (hw _ (List.mem_of_getElem? (i := 12) rfl)) (hw _ (List.mem_of_getElem? (i := 26) rfl)) (by decide) 0 (rm_mnJ l Z a0 hw [] (mnJ p4 p3) p4 T15.heap) e176 (by decide) (by decide) (by decide) (by decide) (argsL := [(.long (mnJ p4 p3)), (.long p4)]) (rest := []) rfl (by rw [hml]; rfl) (lenOf pd__28JJ_29J rfl) rfl rfl (by show 2 * 0 + _ ≤ _; exact Nat.le_of_eq rfl) (hb hby at_221) ?_
          rintro _ T178 L178 X178 ⟨rfl, e178, rfl⟩
          have N179 := Fr.app N177 (Fr.nil _)
          show Go p e below _ T178 (mkF m 224 #[iv p0, iv p1, iv p2, jv p3, .second, jv p4, .second, iv (Int32.ofNat N), iv (Int32.ofNat I), iv (Int32.ofNat J), iv (Int32.ofNat (N / 10)), rv b1, iv (1 : Int32), iv (1 : Int32), iv (Int32.ofNat (N - N / 10)), iv (2 : Int32), iv (0 : Int32), jv p4, .second, jv (mnJ p4 p3), .second, jv (mxJ p4 p3), .second, .unset, .unset, .unset, .unset] [(.long (mnJ (mnJ p4 p3) p4))])
          refine Go.st (T' := T178) (g' := (mkF m 230 #[iv p0, iv p1, iv p2, jv p3, .second, jv p4, .second, iv (Int32.ofNat N), iv (Int32.ofNat I), iv (Int32.ofNat J), iv (Int32.ofNat (N / 10)), rv b1, iv (1 : Int32), iv (1 : Int32), iv (Int32.ofNat (N - N / 10)), iv (2 : Int32), iv (0 : Int32), jv p4, .second, jv (mnJ (mnJ p4 p3) p4), .second, jv (mxJ p4 p3), .second, .unset, .unset, .unset, .unset] [(.long p4), (.long (mxJ p4 p3))])) ?_ (fun _ kk_ => XS.lstore X178.here hx rfl (hb hby at_224) rfl (l' := #[iv p0, iv p1, iv p2, jv p3, .second, jv p4, .second, iv (Int32.ofNat N), iv (Int32.ofNat I), iv (Int32.ofNat J), iv (Int32.ofNat (N / 10)), rv b1, iv (1 : Int32), iv (1 : Int32), iv (Int32.ofNat (N - N / 10)), iv (2 : Int32), iv (0 : Int32), jv p4, .second, jv (mnJ (mnJ p4 p3) p4), .second, jv (mxJ p4 p3), .second, .unset, .unset, .unset, .unset]) rfl (XS.lload X178.here hx rfl (hb hby at_226) rfl  (XS.lload X178.here hx rfl (hb hby at_228) rfl  kk_)))
          refine Go.callS (y := (⟨"java/lang/Math", "max", "(JJ)J"⟩ : MethodName)) X178 hx hZ hown (hw _ (List.mem_of_getElem? (i := 27) rfl)) (hw _ (List.mem_of_getElem? (i := 28) rfl)) (hw _ (List.mem_of_getElem? (i := 12) rfl)) (hw _ (List.mem_of_getElem? (i := 29) rfl)) (by decide) 0 (rm_mxJ l Z a0 hw [] (mxJ p4 p3) p4 T15.heap) e178 (by decide) (by decide) (by decide) (by decide) (argsL := [(.long (mxJ p4 p3)), (.long p4)]) (rest := []) rfl (by rw [hml]; rfl) (lenOf pd__28JJ_29J rfl) rfl rfl (by show 2 * 0 + _ ≤ _; exact Nat.le_of_eq rfl) (hb hby at_230) ?_
          rintro _ T180 L180 X180 ⟨rfl, e180, rfl⟩
          have N181 := Fr.app N179 (Fr.nil _)
          show Go p e below _ T180 (mkF m 233 #[iv p0, iv p1, iv p2, jv p3, .second, jv p4, .second, iv (Int32.ofNat N), iv (Int32.ofNat I), iv (Int32.ofNat J), iv (Int32.ofNat (N / 10)), rv b1, iv (1 : Int32), iv (1 : Int32), iv (Int32.ofNat (N - N / 10)), iv (2 : Int32), iv (0 : Int32), jv p4, .second, jv (mnJ (mnJ p4 p3) p4), .second, jv (mxJ p4 p3), .second, .unset, .unset, .unset, .unset] [(.long (mxJ (mxJ p4 p3) p4))])
          refine Go.st (T' := T180) (g' := (mkF m 238 #[iv p0, iv p1, iv p2, jv p3, .second, jv p4, .second, iv (Int32.ofNat N), iv (Int32.ofNat I), iv (Int32.ofNat J), iv (Int32.ofNat (N / 10)), rv b1, iv (1 : Int32), iv (1 : Int32), iv (Int32.ofNat (N - N / 10)), iv (2 : Int32), iv (0 : Int32), jv p4, .second, jv (mnJ (mnJ p4 p3) p4), .second, jv (mxJ (mxJ p4 p3) p4), .second, .unset, .unset, .unset, .unset] [(.int (1 : Int32)), (.ref b1)])) ?_ (fun _ kk_ => XS.lstore X180.here hx rfl (hb hby at_233) rfl (l' := #[iv p0, iv p1, iv p2, jv p3, .second, jv p4, .second, iv (Int32.ofNat N), iv (Int32.ofNat I), iv (Int32.ofNat J), iv (Int32.ofNat (N / 10)), rv b1, iv (1 : Int32), iv (1 : Int32), iv (Int32.ofNat (N - N / 10)), iv (2 : Int32), iv (0 : Int32), jv p4, .second, jv (mnJ (mnJ p4 p3) p4), .second, jv (mxJ (mxJ p4 p3) p4), .second, .unset, .unset, .unset, .unset]) rfl (XS.aload X180.here hx rfl (hb hby at_235) rfl rfl  (XS.iconst X180.here hx rfl (hb hby at_237) kk_)))
          have f182 := (f16.keep K15)
          have f183 := (f14.keep K15 (ninS ne_bt nin0))
          have f184 := ((Fs6.keep K9 (ninS ne_bt nin0)).keep K15 (ninS ne_bt nin0))
          refine Go.callV (y := (⟨"com/example/libdgram/libdgram/cli/Latencies", "percentile", "(I)J"⟩ : MethodName)) (z := (⟨"com/example/libdgram/libdgram/cli/Latencies", "percentile", "(I)J"⟩ : MethodName)) X180 hx hZ hown (hw _ (List.mem_of_getElem? (i := 30) rfl)) (hw _ (List.mem_of_getElem? (i := 31) rfl)) (notFace_of_selects (args := #[]) (mvT hZ (hw _ (List.mem_of_getElem? (i := 33) rfl)))) (hw _ (List.mem_of_getElem? (i := 33) rfl)) (hw _ (List.mem_of_getElem? (i := 32) rfl)) (hw _ (List.mem_of_getElem? (i := 3) rfl)) (hw _ (List.mem_of_getElem? (i := 34) rfl)) (by decide) 0 (rm_pe1 l Z a0 hw [] b1 t (N - N / 10) (fS (N / 10) J p4 (fS (N / 10) I p3 (fun _ => 0))) n0 T15.heap Z18 (by omega) V15 g_t (by omega) f182 f183 f184 g_b1 ne_bt) e180 (by decide) (by decide) (by decide) (by decide) f182 (argsL := [(.int (1 : Int32))]) (rest := []) rfl (by rw [hml]; rfl) (lenOf pd__28I_29J rfl) rfl rfl (by show 2 * 0 + _ ≤ _; exact Nat.le_of_eq rfl) (hb hby at_238) ?_
          rintro _ T185 L185 X185 ⟨N185, K185, Fs185, Fn185, f', S185, rfl, V185⟩
          have N186 := Fr.app N181 N185
          have Z187 : n0 ≤ T185.heap.size := Nat.le_trans Z18 K185.1
          show Go p e below _ T185 (mkF m 241 #[iv p0, iv p1, iv p2, jv p3, .second, jv p4, .second, iv (Int32.ofNat N), iv (Int32.ofNat I), iv (Int32.ofNat J), iv (Int32.ofNat (N / 10)), rv b1, iv (1 : Int32), iv (1 : Int32), iv (Int32.ofNat (N - N / 10)), iv (2 : Int32), iv (0 : Int32), jv p4, .second, jv (mnJ (mnJ p4 p3) p4), .second, jv (mxJ (mxJ p4 p3) p4), .second, .unset, .unset, .unset, .unset] [(.long (f' 0))])
          refine Go.st (T' := T185) (g' := (mkF m 247 #[iv p0, iv p1, iv p2, jv p3, .second, jv p4, .second, iv (Int32.ofNat N), iv (Int32.ofNat I), iv (Int32.ofNat J), iv (Int32.ofNat (N / 10)), rv b1, iv (1 : Int32), iv (1 : Int32), iv (Int32.ofNat (N - N / 10)), iv (2 : Int32), iv (0 : Int32), jv p4, .second, jv (mnJ (mnJ p4 p3) p4), .second, jv (mxJ (mxJ p4 p3) p4), .second, jv (f' 0), .second, .unset, .unset] [(.int (100 : Int32)), (.ref b1)])) ?_ (fun _ kk_ => XS.lstore X185.here hx rfl (hb hby at_241) rfl (l' := #[iv p0, iv p1, iv p2, jv p3, .second, jv p4, .second, iv (Int32.ofNat N), iv (Int32.ofNat I), iv (Int32.ofNat J), iv (Int32.ofNat (N / 10)), rv b1, iv (1 : Int32), iv (1 : Int32), iv (Int32.ofNat (N - N / 10)), iv (2 : Int32), iv (0 : Int32), jv p4, .second, jv (mnJ (mnJ p4 p3) p4), .second, jv (mxJ (mxJ p4 p3) p4), .second, jv (f' 0), .second, .unset, .unset]) rfl (XS.aload X185.here hx rfl (hb hby at_243) rfl rfl  (XS.bipush X185.here hx rfl (hb hby at_245) kk_)))
          have f189 := (f182.keep K185)
          refine Go.callV (y := (⟨"com/example/libdgram/libdgram/cli/Latencies", "percentile", "(I)J"⟩ : MethodName)) (z := (⟨"com/example/libdgram/libdgram/cli/Latencies", "percentile", "(I)J"⟩ : MethodName)) X185 hx hZ hown (hw _ (List.mem_of_getElem? (i := 30) rfl)) (hw _ (List.mem_of_getElem? (i := 31) rfl)) (notFace_of_selects (args := #[]) (mvT hZ (hw _ (List.mem_of_getElem? (i := 33) rfl)))) (hw _ (List.mem_of_getElem? (i := 33) rfl)) (hw _ (List.mem_of_getElem? (i := 32) rfl)) (hw _ (List.mem_of_getElem? (i := 3) rfl)) (hw _ (List.mem_of_getElem? (i := 34) rfl)) (by decide) 0 (rm_pe2 l Z a0 hw [] b1 t (N - N / 10) f' T185.heap (by omega) V185 (by omega) Fn185 Fs185) rfl (by decide) (by decide) (by decide) (by decide) f189 (argsL := [(.int (100 : Int32))]) (rest := []) rfl (by rw [hml]; rfl) (lenOf pd__28I_29J rfl) rfl rfl (by show 2 * 0 + _ ≤ _; exact Nat.le_of_eq rfl) (hb hby at_247) ?_
          rintro _ T188 L188 X188 ⟨rfl, e188, rfl⟩
          have N190 := Fr.app N186 (Fr.nil _)
          show Go p e below _ T188 (mkF m 250 #[iv p0, iv p1, iv p2, jv p3, .second, jv p4, .second, iv (Int32.ofNat N), iv (Int32.ofNat I), iv (Int32.ofNat J), iv (Int32.ofNat (N / 10)), rv b1, iv (1 : Int32), iv (1 : Int32), iv (Int32.ofNat (N - N / 10)), iv (2 : Int32), iv (0 : Int32), jv p4, .second, jv (mnJ (mnJ p4 p3) p4), .second, jv (mxJ (mxJ p4 p3) p4), .second, jv (f' 0), .second, .unset, .unset] [(.long (f' (N - N / 10 - 1)))])
          have hv1 : ∀ y ∈ [p4, p3, p4], ∃ q, q < N - N / 10 ∧ (fS (N / 10) J p4 (fS (N / 10) I p3 (fun _ => 0))) q = y := by
            intro y hy
            simp only [List.mem_cons, List.not_mem_nil, or_false] at hy
            rcases hy with h | h | h
            · exact ⟨J - N / 10, by omega, by unfold fS; rw [if_pos ⟨by omega, rfl⟩, h]⟩
            · exact ⟨I - N / 10, by omega, by unfold fS; rw [if_neg (by omega), if_pos ⟨by omega, rfl⟩, h]⟩
            · exact ⟨J - N / 10, by omega, by unfold fS; rw [if_pos ⟨by omega, rfl⟩, h]⟩
          have hv2 : ∀ q, q < N - N / 10 → (fS (N / 10) J p4 (fS (N / 10) I p3 (fun _ => 0))) q ∈ [p4, p3, p4] := fun q hq => by unfold fS; split <;> (try split) <;> first | (simp; done) | (exfalso; omega)
          have hlo : f' 0 = (mnJ (mnJ p4 p3) p4) := own_low1 (own_low S185 (by omega)) (own_LowL hv1 hv2 (LowL.mn (LowL.mn (LowL.one p4) p3) p4))
          have hhi : f' (N - N / 10 - 1) = (mxJ (mxJ p4 p3) p4) := own_hig1 (own_hig S185 (by omega)) (own_HigL hv1 hv2 (HigL.mx (HigL.mx (HigL.one p4) p3) p4))
          refine Go.st (T' := T188) (g' := (mkF m 273 #[iv p0, iv p1, iv p2, jv p3, .second, jv p4, .second, iv (Int32.ofNat N), iv (Int32.ofNat I), iv (Int32.ofNat J), iv (Int32.ofNat (N / 10)), rv b1, iv (1 : Int32), iv (1 : Int32), iv (Int32.ofNat (N - N / 10)), iv (2 : Int32), iv (0 : Int32), jv p4, .second, jv (mnJ (mnJ p4 p3) p4), .second, jv (mxJ (mxJ p4 p3) p4), .second, jv (f' 0), .second, jv (f' (N - N / 10 - 1)), .second] [(.int (1 : Int32))])) ?_ (fun _ kk_ => XS.lstore X188.here hx rfl (hb hby at_250) rfl (l' := #[iv p0, iv p1, iv p2, jv p3, .second, jv p4, .second, iv (Int32.ofNat N), iv (Int32.ofNat I), iv (Int32.ofNat J), iv (Int32.ofNat (N / 10)), rv b1, iv (1 : Int32), iv (1 : Int32), iv (Int32.ofNat (N - N / 10)), iv (2 : Int32), iv (0 : Int32), jv p4, .second, jv (mnJ (mnJ p4 p3) p4), .second, jv (mxJ (mxJ p4 p3) p4), .second, jv (f' 0), .second, jv (f' (N - N / 10 - 1)), .second]) rfl (XS.lload X188.here hx rfl (hb hby at_252) rfl  (XS.lload X188.here hx rfl (hb hby at_254) rfl  (XS.lcmp X188.here hx rfl (hb hby at_256) rfl (XS.ifNo X188.here hx rfl (hb hby at_257) rfl ((if0 _ _).trans (teq (((lw_eq _ _).mpr hlo) : (lcmpW (f' 0) (mnJ (mnJ p4 p3) p4)) = (0 : Int32))).2) (XS.lload X188.here hx rfl (hb hby at_260) rfl  (XS.lload X188.here hx rfl (hb hby at_262) rfl  (XS.lcmp X188.here hx rfl (hb hby at_264) rfl (XS.ifNo X188.here hx rfl (hb hby at_265) rfl ((if0 _ _).trans (teq (((lw_eq _ _).mpr hhi) : (lcmpW (f' (N - N / 10 - 1)) (mxJ (mxJ p4 p3) p4)) = (0 : Int32))).2) (XS.iconst X188.here hx rfl (hb hby at_268) (XS.goto X188.here hx rfl (pc0 := 269) (pc' := 273) rfl (hb hby at_269) (by decide) (by decide) kk_)))))))))))
          refine Go.retN X188 hx hlk (t := .boolean) hret (by simp) (z' := (1 : Int32)) rfl (hb hby at_273) (by decide) (by decide) ?_
          try rw [e188]
          exact ⟨rfl, N190⟩
set_option maxRecDepth 65536 in
set_option maxHeartbeats 40000000 in
theorem comes_1 {Post : Tables → Env → Array Value → State → Outcome → State → Prop} (hpost : ∀ tb e args s v u, (limb_1_1.after args s (.returned v) u = true ∧ limb_1_2.after args s (.returned v) u = true ∧ True) → FrameEnd s (.returned v) u (Jvm.fieldLocs frame_1_writes args s ++ Jvm.arrayLocs frame_1_arrays args s ++ Jvm.staticLocs frame_1_statics s) 16 128 → Post tb e args s (.returned v) u) :
    ArmFor flags0 classFile x code maxLocals ret World_1 tables_1 room_1 Calls_1 rest_1 Pre_1 Post := by
  intro l hfl _ _ p e ha hc hk s m args below hf hA hF happ hP
  obtain ⟨hcalls, hrest, hpre⟩ := hP
  obtain ⟨-, -, -, hnamed, -, -, -, hat⟩ := (Spec.applies_iff hf).mp happ
  obtain ⟨hg, hn⟩ := and_e (Cond.before_iff.mp (show (Jvm.Cond.and given_1 narrow_1).before args s = true from hpre))
  obtain ⟨h1, q0⟩ := and_e hg
  obtain ⟨w0, w1, w2, w3, w4, rfl⟩ : ∃ w0 w1 w2 w3 w4 : Value, args = #[w0, w1, w2, w3, w4] := by
    have hs : args.size = 5 := by simpa [Cond.value, given_1] using h1
    obtain ⟨L⟩ := args
    match L, hs with
    | [w0, w1, w2, w3, w4], _ => exact ⟨w0, w1, w2, w3, w4, rfl⟩
  obtain ⟨a0, q1⟩ := and_e q0
  obtain ⟨i0, e0⟩ := is_v a0
  obtain rfl : w0 = (.int i0) := Option.some.inj e0
  obtain ⟨a1, q2⟩ := and_e q1
  obtain ⟨i1, e1⟩ := is_v a1
  obtain rfl : w1 = (.int i1) := Option.some.inj e1
  obtain ⟨a2, q3⟩ := and_e q2
  obtain ⟨i2, e2⟩ := is_v a2
  obtain rfl : w2 = (.int i2) := Option.some.inj e2
  obtain ⟨a3, q4⟩ := and_e q3
  obtain ⟨i3, e3⟩ := isL_v a3
  obtain rfl : w3 = (.long i3) := Option.some.inj e3
  obtain ⟨i4, e4⟩ := isL_v q4
  obtain rfl : w4 = (.long i4) := Option.some.inj e4
  have hw := fun d (hd : d ∈ tables_1) => atoms_spec (ws := Jvm.Cond.code x code maxLocals ret :: tables_1) hat d (List.mem_cons_of_mem _ hd)
  have hfit : Fit s := fun {y c} hc i hi => by
    obtain ⟨ha, rfl⟩ := Array.getElem?_eq_some_iff.mp hc
    have q := List.all_eq_true.mp ((Array.all_eq_true_iff_forall_mem.mp hF) _ (Array.getElem_mem ha)) i (List.mem_range.mpr hi)
    simpa [Array.getElem?_eq_getElem hi] using q
  obtain ⟨n, o, h1, h2, h3, _, L, rfl, ⟨rfl, N⟩, hq⟩ := rm_law l s _ hw tables_1 i0 i1 i2 i3 i4 s.heap.size s.heap (Nat.le_refl _) p e ha hc hk s m _ below hf ((Spec.applies_iff_loose hf).mp happ).1 ⟨rfl, State.Warmed39.refl s, rfl⟩ trivial
  refine ⟨n, _, h1, h2, h3, hpost _ _ _ _ _ _ ⟨Cond.after_iff.mpr rfl, Cond.after_iff.mpr (eq_i res_at (Term.int_eval (1)) rfl), trivial⟩ ⟨hq.1, hq.2.1, (hq.2.2.sift fun y hy => Or.inr (N y hy)).mono (by decide) (by decide)⟩⟩
theorem main_1_1 : Claimed_1_1 := comes_1 fun _ _ _ _ _ _ h hF => ⟨h.1, hF⟩
theorem main_1_2 : Claimed_1_2 := comes_1 fun _ _ _ _ _ _ h hF => ⟨h.2.1, hF⟩
end Jvm.Pilot.@@N@@
namespace Jvm.Pilot.@@N@@
open Jvm Jvm.ClassFile Sem Op Lib Jvm.Free Jvm.Stand Jvm.Pilot.@@N@@.Jvm.D
/-! MADE BY PROGRAM (witnessworld.py) out of the Statement's table words and the real class files: 14 classes; the members and pool entries that the words name. The judged class is class 1, her method 1. -/
namespace start1
open Jvm.ClassFile
def u (s : String) : CpInfo := .utf8 (stringToUtf16 s)
/-- a pool by its gaps: so many unusable entries, then the entry; so many at the end -/
def gap : Nat → List CpInfo → List CpInfo
  | 0, r => r
  | n + 1, r => .unusable :: gap n r
def poolList (es : List (Nat × CpInfo)) (last : Nat) : List CpInfo := es.foldr (fun e r => gap e.1 (e.2 :: r)) (gap last [])
def pool (es : List (Nat × CpInfo)) (last : Nat) : Array CpInfo := ⟨poolList es last⟩
def fileOf (pool : Array CpInfo) (this : Nat) (attrs : Array Attribute := #[]) (ms : Array MethodInfo := #[]) (fl : Nat := 33) (sup : Nat := 0) (ifs : Array Nat := #[]) (fds : Array FieldInfo := #[]) : ClassFile where
  minorVersion := 0
  majorVersion := 65
  constantPool := pool
  accessFlags := fl
  thisClass := this
  superClass := sup
  interfaces := ifs
  fields := fds
  methods := ms
  attributes := attrs
def plain (name : String) (sup : Option ClassId) : Class where
  name := name
  kind := .ordinary
  loader := none
  accessFlags := 33
  super := sup
  interfaces := #[]
  cf := none
  fields := #[]
  methods := #[]
  instanceTypes := #[]
  staticTypes := #[]
  resolved := #[]
  callSites := []
  init := .initialized
  statics := none
  mirror := none

def pool0 : Array CpInfo := pool [(5, u "<init>"), (0, u "()V"), (1, .class_ 10), (1, u "java/lang/Object")] 113

def k0c0 : Code := { maxStack := 0, maxLocals := 1, code := object_method_1_code, exceptionTable := #[], attributes := #[] }
def k0m0 : Method := { name := "<init>", desc := "()V", sig := { parameters := [], returnType := none }, accessFlags := 1, code := some k0c0 }
/-- java/lang/Object -/
def k0 : Class := { plain "java/lang/Object" none with
  accessFlags := 33
  interfaces := #[]
  cf := some (fileOf pool0 8 #[] #[{ accessFlags := 1, nameIndex := 5, descriptorIndex := 6, attributes := #[] }] 33 0 #[] #[])
  fields := #[]
  methods := #[k0m0]
  instanceTypes := #[]
  staticTypes := #[]
  resolved := Array.replicate 124 none
  statics := none }

def pool1 : Array CpInfo := pool [(2, .class_ 4), (1, u "java/lang/Object"), (0, u "<init>"), (0, u "()V"), (0, .integer 2147483647), (0, .class_ 9), (0, u "com/example/libdgram/libdgram/cli/Latencies"), (0, .methodref 8 11), (0, .nameAndType 5 12), (0, u "(I)V"), (0, .methodref 8 14), (0, .nameAndType 15 16), (0, u "add"), (0, u "(IJ)V"), (0, .methodref 18 19), (0, .class_ 20), (0, .nameAndType 21 22), (0, u "java/lang/Math"), (0, u "min"), (0, u "(JJ)J"), (0, .methodref 18 24), (0, .nameAndType 25 22), (0, u "max"), (0, .methodref 8 27), (0, .nameAndType 28 29), (0, u "percentile"), (0, u "(I)J"), (0, .class_ 31), (0, u "com/example/libdgram/libdgram/cli/LatenciesAddPinLaw"), (2, u "law"), (0, u "(IIIJJ)Z")] 3

def k1m0 : Method := { name := "<init>", desc := "()V", sig := { parameters := [], returnType := none }, accessFlags := 1, code := none }
def k1c1 : Code := { maxStack := 4, maxLocals := 27, code := code, exceptionTable := #[], attributes := #[] }
def k1m1 : Method := { name := "law", desc := "(IIIJJ)Z", sig := { parameters := [.int, .int, .int, .long, .long], returnType := some .boolean }, accessFlags := 9, code := some k1c1 }
/-- com/example/libdgram/libdgram/cli/LatenciesAddPinLaw -/
def k1 : Class := { plain "com/example/libdgram/libdgram/cli/LatenciesAddPinLaw" (some 0) with
  accessFlags := 49
  interfaces := #[]
  cf := some (fileOf pool1 30 #[] #[{ accessFlags := 1, nameIndex := 5, descriptorIndex := 6, attributes := #[] }, { accessFlags := 9, nameIndex := 34, descriptorIndex := 35, attributes := #[] }] 49 2 #[] #[])
  fields := #[]
  methods := #[k1m0, k1m1]
  instanceTypes := #[]
  staticTypes := #[]
  resolved := Array.replicate 39 none
  statics := none }

def pool2 : Array CpInfo := pool [(1, .methodref 2 3), (0, .class_ 4), (0, .nameAndType 5 6), (0, u "java/lang/Object"), (0, u "<init>"), (0, u "()V"), (9, .class_ 17), (0, u "com/example/libdgram/libdgram/cli/Latencies"), (0, .methodref 19 20), (0, .class_ 21), (0, .nameAndType 22 23), (0, u "java/lang/Math"), (0, u "min"), (0, u "(II)I"), (0, .fieldref 16 25), (0, .nameAndType 26 27), (0, u "warmUp"), (0, u "I"), (0, .fieldref 16 29), (0, .nameAndType 30 31), (0, u "nanos"), (0, u "[J"), (0, .fieldref 16 33), (0, .nameAndType 34 35), (0, u "sorted"), (0, u "Z"), (0, .methodref 37 38), (0, .class_ 39), (0, .nameAndType 40 41), (0, u "java/util/Arrays"), (0, u "sort"), (0, u "([J)V"), (0, .long 100), (1, u "WARM_UP"), (2, u "WHOLE"), (1, u "(I)V"), (4, u "add"), (0, u "(IJ)V"), (0, u "percentile"), (0, u "(I)J")] 17

def k2c0 : Code := { maxStack := 4, maxLocals := 2, code := prog_47_method_1_code, exceptionTable := #[], attributes := #[] }
def k2m0 : Method := { name := "<init>", desc := "(I)V", sig := { parameters := [.int], returnType := none }, accessFlags := 0, code := some k2c0 }
def k2c1 : Code := { maxStack := 4, maxLocals := 4, code := prog_47_method_3_code, exceptionTable := #[], attributes := #[] }
def k2m1 : Method := { name := "add", desc := "(IJ)V", sig := { parameters := [.int, .long], returnType := none }, accessFlags := 0, code := some k2c1 }
def k2c2 : Code := { maxStack := 4, maxLocals := 4, code := prog_47_method_4_code, exceptionTable := #[], attributes := #[] }
def k2m2 : Method := { name := "percentile", desc := "(I)J", sig := { parameters := [.int], returnType := some .long }, accessFlags := 0, code := some k2c2 }
/-- com/example/libdgram/libdgram/cli/Latencies -/
def k2 : Class := { plain "com/example/libdgram/libdgram/cli/Latencies" (some 0) with
  accessFlags := 32
  interfaces := #[]
  cf := some (fileOf pool2 16 #[] #[{ accessFlags := 0, nameIndex := 5, descriptorIndex := 49, attributes := #[] }, { accessFlags := 0, nameIndex := 54, descriptorIndex := 55, attributes := #[] }, { accessFlags := 0, nameIndex := 56, descriptorIndex := 57, attributes := #[] }] 32 2 #[] #[{ accessFlags := 26, nameIndex := 44, descriptorIndex := 27, attributes := #[] }, { accessFlags := 26, nameIndex := 47, descriptorIndex := 27, attributes := #[] }, { accessFlags := 18, nameIndex := 26, descriptorIndex := 27, attributes := #[] }, { accessFlags := 18, nameIndex := 30, descriptorIndex := 31, attributes := #[] }, { accessFlags := 2, nameIndex := 34, descriptorIndex := 35, attributes := #[] }])
  fields := #[{ name := "WARM_UP", type := .int, accessFlags := 26, slot := 0, constantValue := 0 }, { name := "WHOLE", type := .int, accessFlags := 26, slot := 1, constantValue := 0 }, { name := "warmUp", type := .int, accessFlags := 18, slot := 0, constantValue := 0 }, { name := "nanos", type := (.array .long), accessFlags := 18, slot := 1, constantValue := 0 }, { name := "sorted", type := .boolean, accessFlags := 2, slot := 2, constantValue := 0 }]
  methods := #[k2m0, k2m1, k2m2]
  instanceTypes := #[.int, (.array .long), .boolean]
  staticTypes := #[.int, .int]
  resolved := Array.replicate 75 none
  statics := none }

def pool3 : Array CpInfo := pool [(1, .class_ 2), (0, u "java/lang/Math"), (1, .class_ 6), (1, u "java/lang/Object"), (0, u "<init>"), (0, u "()V"), (89, .class_ 100), (1, u "java/lang/Math$RandomNumberGeneratorHolder"), (20, u "(JJ)J"), (50, u "negativeZeroFloatBits"), (0, u "J"), (2, u "negativeZeroDoubleBits"), (21, u "max"), (2, u "min"), (43, u "$assertionsDisabled"), (0, u "Z"), (88, u "(II)I"), (2, u "twoToTheDoubleScaleDown"), (0, u "D"), (4, u "twoToTheDoubleScaleUp"), (9, u "E"), (3, u "PI"), (2, u "TAU"), (2, u "DEGREES_TO_RADIANS"), (0, u "RADIANS_TO_DEGREES")] 94

def k3m0 : Method := { name := "<init>", desc := "()V", sig := { parameters := [], returnType := none }, accessFlags := 2, code := none }
def k3c1 : Code := { maxStack := 4, maxLocals := 4, code := jdk_29_method_66_code, exceptionTable := #[], attributes := #[] }
def k3m1 : Method := { name := "max", desc := "(JJ)J", sig := { parameters := [.long, .long], returnType := some .long }, accessFlags := 9, code := some k3c1 }
def k3c2 : Code := { maxStack := 2, maxLocals := 2, code := jdk_29_method_69_code, exceptionTable := #[], attributes := #[] }
def k3m2 : Method := { name := "min", desc := "(II)I", sig := { parameters := [.int, .int], returnType := some .int }, accessFlags := 9, code := some k3c2 }
def k3c3 : Code := { maxStack := 4, maxLocals := 4, code := jdk_29_method_70_code, exceptionTable := #[], attributes := #[] }
def k3m3 : Method := { name := "min", desc := "(JJ)J", sig := { parameters := [.long, .long], returnType := some .long }, accessFlags := 9, code := some k3c3 }
/-- java/lang/Math -/
def k3 : Class := { plain "java/lang/Math" (some 0) with
  accessFlags := 49
  interfaces := #[]
  cf := some (fileOf pool3 1 #[.nestMembers #[98]] #[{ accessFlags := 2, nameIndex := 7, descriptorIndex := 8, attributes := #[] }, { accessFlags := 9, nameIndex := 198, descriptorIndex := 121, attributes := #[] }, { accessFlags := 9, nameIndex := 201, descriptorIndex := 335, attributes := #[] }, { accessFlags := 9, nameIndex := 201, descriptorIndex := 121, attributes := #[] }] 49 4 #[] #[{ accessFlags := 25, nameIndex := 354, descriptorIndex := 339, attributes := #[] }, { accessFlags := 25, nameIndex := 358, descriptorIndex := 339, attributes := #[] }, { accessFlags := 25, nameIndex := 361, descriptorIndex := 339, attributes := #[] }, { accessFlags := 26, nameIndex := 364, descriptorIndex := 339, attributes := #[] }, { accessFlags := 26, nameIndex := 365, descriptorIndex := 339, attributes := #[] }, { accessFlags := 26, nameIndex := 172, descriptorIndex := 173, attributes := #[] }, { accessFlags := 26, nameIndex := 176, descriptorIndex := 173, attributes := #[] }, { accessFlags := 8, nameIndex := 344, descriptorIndex := 339, attributes := #[] }, { accessFlags := 8, nameIndex := 338, descriptorIndex := 339, attributes := #[] }, { accessFlags := 4120, nameIndex := 245, descriptorIndex := 246, attributes := #[] }])
  fields := #[{ name := "E", type := .double, accessFlags := 25, slot := 0, constantValue := 0 }, { name := "PI", type := .double, accessFlags := 25, slot := 1, constantValue := 0 }, { name := "TAU", type := .double, accessFlags := 25, slot := 2, constantValue := 0 }, { name := "DEGREES_TO_RADIANS", type := .double, accessFlags := 26, slot := 3, constantValue := 0 }, { name := "RADIANS_TO_DEGREES", type := .double, accessFlags := 26, slot := 4, constantValue := 0 }, { name := "negativeZeroFloatBits", type := .long, accessFlags := 26, slot := 5, constantValue := 0 }, { name := "negativeZeroDoubleBits", type := .long, accessFlags := 26, slot := 6, constantValue := 0 }, { name := "twoToTheDoubleScaleUp", type := .double, accessFlags := 8, slot := 7, constantValue := 0 }, { name := "twoToTheDoubleScaleDown", type := .double, accessFlags := 8, slot := 8, constantValue := 0 }, { name := "$assertionsDisabled", type := .boolean, accessFlags := 4120, slot := 9, constantValue := 0 }]
  methods := #[k3m0, k3m1, k3m2, k3m3]
  instanceTypes := #[]
  staticTypes := #[.double, .double, .double, .double, .double, .long, .long, .double, .double, .boolean]
  resolved := Array.replicate 460 none
  statics := none }

def pool4 : Array CpInfo := pool [(2, .class_ 4), (1, u "java/lang/Object"), (0, u "<init>"), (0, u "()V"), (1, .class_ 10), (1, u "java/util/DualPivotQuicksort"), (0, u "sort"), (2, .class_ 16), (1, u "java/util/Arrays"), (2, .methodref 8 20), (0, .nameAndType 11 21), (0, u "([JIII)V"), (52, .class_ 76), (1, u "java/util/Arrays$NaturalOrder"), (36, .class_ 115), (1, u "java/util/Arrays$LegacyMergeSort"), (1, u "Z"), (257, .class_ 376), (0, u "java/util/Arrays$ArrayList"), (68, u "$assertionsDisabled"), (269, u "MIN_ARRAY_SORT_GRAN"), (0, u "I"), (2, u "INSERTIONSORT_THRESHOLD"), (11, u "([J)V"), (243, .class_ 976), (0, u "java/util/Arrays$ArrayItr")] 52

def k4m0 : Method := { name := "<init>", desc := "()V", sig := { parameters := [], returnType := none }, accessFlags := 2, code := none }
def k4c1 : Code := { maxStack := 4, maxLocals := 1, code := jdk_65_method_4_code, exceptionTable := #[], attributes := #[] }
def k4m1 : Method := { name := "sort", desc := "([J)V", sig := { parameters := [(.array .long)], returnType := none }, accessFlags := 9, code := some k4c1 }
/-- java/util/Arrays -/
def k4 : Class := { plain "java/util/Arrays" (some 0) with
  accessFlags := 49
  interfaces := #[]
  cf := some (fileOf pool4 14 #[.nestMembers #[975, 375, 113, 74]] #[{ accessFlags := 2, nameIndex := 5, descriptorIndex := 6, attributes := #[] }, { accessFlags := 9, nameIndex := 11, descriptorIndex := 731, attributes := #[] }] 49 2 #[] #[{ accessFlags := 26, nameIndex := 715, descriptorIndex := 716, attributes := #[] }, { accessFlags := 26, nameIndex := 719, descriptorIndex := 716, attributes := #[] }, { accessFlags := 4120, nameIndex := 445, descriptorIndex := 117, attributes := #[] }])
  fields := #[{ name := "MIN_ARRAY_SORT_GRAN", type := .int, accessFlags := 26, slot := 0, constantValue := 0 }, { name := "INSERTIONSORT_THRESHOLD", type := .int, accessFlags := 26, slot := 1, constantValue := 0 }, { name := "$assertionsDisabled", type := .boolean, accessFlags := 4120, slot := 2, constantValue := 0 }]
  methods := #[k4m0, k4m1]
  instanceTypes := #[]
  staticTypes := #[.int, .int, .boolean]
  resolved := Array.replicate 1029 none
  statics := none }

def pool5 : Array CpInfo := pool [(1, .class_ 2), (0, u "java/util/DualPivotQuicksort"), (5, .class_ 10), (1, u "java/lang/Object"), (0, u "<init>"), (0, u "()V"), (4, .class_ 18), (0, u "java/util/DualPivotQuicksort$Sorter"), (9, u "sort"), (7, u "insertionSort"), (31, u "I"), (4, .class_ 74), (0, u "java/util/DualPivotQuicksort$RunMerger"), (10, .class_ 86), (0, u "java/util/DualPivotQuicksort$Merger"), (12, .methodref 1 100), (0, .nameAndType 28 101), (0, u "(Ljava/util/DualPivotQuicksort$Sorter;[JIII)V"), (2, u "([JIII)V"), (0, .methodref 1 106), (0, .nameAndType 36 107), (0, u "([JII)V"), (106, u "MAX_MIXED_INSERTION_SORT_SIZE"), (2, u "MAX_INSERTION_SORT_SIZE"), (1, u "MIN_PARALLEL_SORT_SIZE"), (1, u "MIN_TRY_MERGE_SIZE"), (0, u "MIN_FIRST_RUN_SIZE"), (1, u "MIN_FIRST_RUNS_FACTOR"), (1, u "MAX_RUN_CAPACITY"), (1, u "MIN_RUN_COUNT"), (1, u "MIN_PARALLEL_MERGE_PARTS_SIZE"), (0, u "MIN_BYTE_COUNTING_SORT_SIZE"), (1, u "MIN_SHORT_OR_CHAR_COUNTING_SORT_SIZE"), (1, u "DELTA"), (1, u "MAX_RECURSION_DEPTH"), (1, u "NUM_BYTE_VALUES"), (1, u "MAX_BYTE_INDEX"), (0, u "NUM_CHAR_VALUES"), (0, u "NUM_SHORT_VALUES"), (0, u "MAX_SHORT_INDEX")] 86

def k5m0 : Method := { name := "<init>", desc := "()V", sig := { parameters := [], returnType := none }, accessFlags := 2, code := none }
def k5c1 : Code := { maxStack := 9, maxLocals := 7, code := jdk_2529_method_12_code, exceptionTable := #[], attributes := #[] }
def k5m1 : Method := { name := "sort", desc := "([JIII)V", sig := { parameters := [(.array .long), .int, .int, .int], returnType := none }, accessFlags := 8, code := some k5c1 }
def k5c2 : Code := { maxStack := 6, maxLocals := 25, code := jdk_2529_method_13_code, exceptionTable := #[], attributes := #[] }
def k5m2 : Method := { name := "sort", desc := "(Ljava/util/DualPivotQuicksort$Sorter;[JIII)V", sig := { parameters := [(.object "java/util/DualPivotQuicksort$Sorter"), (.array .long), .int, .int, .int], returnType := none }, accessFlags := 8, code := some k5c2 }
def k5c3 : Code := { maxStack := 5, maxLocals := 7, code := jdk_2529_method_15_code, exceptionTable := #[], attributes := #[] }
def k5m3 : Method := { name := "insertionSort", desc := "([JII)V", sig := { parameters := [(.array .long), .int, .int], returnType := none }, accessFlags := 10, code := some k5c3 }
/-- java/util/DualPivotQuicksort -/
def k5 : Class := { plain "java/util/DualPivotQuicksort" (some 0) with
  accessFlags := 48
  interfaces := #[]
  cf := some (fileOf pool5 1 #[.nestMembers #[73, 85, 17]] #[{ accessFlags := 2, nameIndex := 11, descriptorIndex := 12, attributes := #[] }, { accessFlags := 8, nameIndex := 28, descriptorIndex := 104, attributes := #[] }, { accessFlags := 8, nameIndex := 28, descriptorIndex := 101, attributes := #[] }, { accessFlags := 10, nameIndex := 36, descriptorIndex := 107, attributes := #[] }] 48 8 #[] #[{ accessFlags := 26, nameIndex := 214, descriptorIndex := 68, attributes := #[] }, { accessFlags := 26, nameIndex := 217, descriptorIndex := 68, attributes := #[] }, { accessFlags := 26, nameIndex := 219, descriptorIndex := 68, attributes := #[] }, { accessFlags := 26, nameIndex := 221, descriptorIndex := 68, attributes := #[] }, { accessFlags := 26, nameIndex := 222, descriptorIndex := 68, attributes := #[] }, { accessFlags := 26, nameIndex := 224, descriptorIndex := 68, attributes := #[] }, { accessFlags := 26, nameIndex := 226, descriptorIndex := 68, attributes := #[] }, { accessFlags := 26, nameIndex := 228, descriptorIndex := 68, attributes := #[] }, { accessFlags := 26, nameIndex := 230, descriptorIndex := 68, attributes := #[] }, { accessFlags := 26, nameIndex := 231, descriptorIndex := 68, attributes := #[] }, { accessFlags := 26, nameIndex := 233, descriptorIndex := 68, attributes := #[] }, { accessFlags := 26, nameIndex := 235, descriptorIndex := 68, attributes := #[] }, { accessFlags := 26, nameIndex := 237, descriptorIndex := 68, attributes := #[] }, { accessFlags := 26, nameIndex := 239, descriptorIndex := 68, attributes := #[] }, { accessFlags := 26, nameIndex := 241, descriptorIndex := 68, attributes := #[] }, { accessFlags := 26, nameIndex := 242, descriptorIndex := 68, attributes := #[] }, { accessFlags := 26, nameIndex := 243, descriptorIndex := 68, attributes := #[] }, { accessFlags := 26, nameIndex := 244, descriptorIndex := 68, attributes := #[] }])
  fields := #[{ name := "MAX_MIXED_INSERTION_SORT_SIZE", type := .int, accessFlags := 26, slot := 0, constantValue := 0 }, { name := "MAX_INSERTION_SORT_SIZE", type := .int, accessFlags := 26, slot := 1, constantValue := 0 }, { name := "MIN_PARALLEL_SORT_SIZE", type := .int, accessFlags := 26, slot := 2, constantValue := 0 }, { name := "MIN_TRY_MERGE_SIZE", type := .int, accessFlags := 26, slot := 3, constantValue := 0 }, { name := "MIN_FIRST_RUN_SIZE", type := .int, accessFlags := 26, slot := 4, constantValue := 0 }, { name := "MIN_FIRST_RUNS_FACTOR", type := .int, accessFlags := 26, slot := 5, constantValue := 0 }, { name := "MAX_RUN_CAPACITY", type := .int, accessFlags := 26, slot := 6, constantValue := 0 }, { name := "MIN_RUN_COUNT", type := .int, accessFlags := 26, slot := 7, constantValue := 0 }, { name := "MIN_PARALLEL_MERGE_PARTS_SIZE", type := .int, accessFlags := 26, slot := 8, constantValue := 0 }, { name := "MIN_BYTE_COUNTING_SORT_SIZE", type := .int, accessFlags := 26, slot := 9, constantValue := 0 }, { name := "MIN_SHORT_OR_CHAR_COUNTING_SORT_SIZE", type := .int, accessFlags := 26, slot := 10, constantValue := 0 }, { name := "DELTA", type := .int, accessFlags := 26, slot := 11, constantValue := 0 }, { name := "MAX_RECURSION_DEPTH", type := .int, accessFlags := 26, slot := 12, constantValue := 0 }, { name := "NUM_BYTE_VALUES", type := .int, accessFlags := 26, slot := 13, constantValue := 0 }, { name := "MAX_BYTE_INDEX", type := .int, accessFlags := 26, slot := 14, constantValue := 0 }, { name := "NUM_CHAR_VALUES", type := .int, accessFlags := 26, slot := 15, constantValue := 0 }, { name := "NUM_SHORT_VALUES", type := .int, accessFlags := 26, slot := 16, constantValue := 0 }, { name := "MAX_SHORT_INDEX", type := .int, accessFlags := 26, slot := 17, constantValue := 0 }]
  methods := #[k5m0, k5m1, k5m2, k5m3]
  instanceTypes := #[]
  staticTypes := #[.int, .int, .int, .int, .int, .int, .int, .int, .int, .int, .int, .int, .int, .int, .int, .int, .int, .int]
  resolved := Array.replicate 331 none
  statics := none }

def pool6 : Array CpInfo := pool [(1, u "java/lang/Cloneable"), (0, .class_ 1), (0, u "java/lang/Object"), (0, .class_ 3)] 3

/-- java/lang/Cloneable -/
def k6 : Class := { plain "java/lang/Cloneable" (some 0) with
  accessFlags := 1537
  interfaces := #[]
  cf := some (fileOf pool6 2 #[] #[] 1537 4 #[] #[])
  fields := #[]
  methods := #[]
  instanceTypes := #[]
  staticTypes := #[]
  resolved := Array.replicate 8 none
  statics := none }

def pool7 : Array CpInfo := pool [(1, u "java/io/Serializable"), (0, .class_ 1), (0, u "java/lang/Object"), (0, .class_ 3)] 3

/-- java/io/Serializable -/
def k7 : Class := { plain "java/io/Serializable" (some 0) with
  accessFlags := 1537
  interfaces := #[]
  cf := some (fileOf pool7 2 #[] #[] 1537 4 #[] #[])
  fields := #[]
  methods := #[]
  instanceTypes := #[]
  staticTypes := #[]
  resolved := Array.replicate 8 none
  statics := none }

/-- the primitive byte -/
def k8 : Class := { plain "byte" none with kind := .primitive 'B', accessFlags := 0x411 }
/-- [B -/
def k9 : Class := { plain "[B" (some 0) with kind := .array 8 .byte, interfaces := #[6, 7], accessFlags := 1041 }

/-- the primitive int -/
def k10 : Class := { plain "int" none with kind := .primitive 'I', accessFlags := 0x411 }
/-- [I -/
def k11 : Class := { plain "[I" (some 0) with kind := .array 10 .int, interfaces := #[6, 7], accessFlags := 1041 }

/-- the primitive long -/
def k12 : Class := { plain "long" none with kind := .primitive 'J', accessFlags := 0x411 }
/-- [J -/
def k13 : Class := { plain "[J" (some 0) with kind := .array 12 .long, interfaces := #[6, 7], accessFlags := 1041 }

def heap : Heap := #[]
def classes : Array Class := #[k0, k1, k2, k3, k4, k5, k6, k7, k8, k9, k10, k11, k12, k13]
def interned : List (Array UInt16 × Addr) := []
def slotsUsed : Nat := 0
def theMethod : MethodId := ⟨1, 1⟩
def args0 : Array Value := #[.int 5, .int 3, .int 2, .long 7, .long 9]
def aboutOver (below : List Frame) : State where
  vm := { classes := classes, interned := interned.toArray }
  heap := heap
  slotsUsed := slotsUsed
  threads := #[{ frames := .invoking theMethod args0 :: below }]
def below0 : List Frame := [.native { method := ⟨0, 0⟩, args := #[] }]
def about1 : State := aboutOver below0
def p0 : Program := .bare "" "" ""
def e0 : Env := launch0.env 0 0 0
theorem w_frames : about1.frames = Frame.invoking theMethod args0 :: below0 := rfl
set_option maxRecDepth 65536 in
theorem w_args : argsFit about1.vm theMethod args0 = true := by decide +kernel
set_option maxRecDepth 65536 in
theorem w_heap : heapFits about1 = true := by decide +kernel
set_option maxRecDepth 65536 in
theorem w_runnable : about1.curStatus? = some .runnable := by decide +kernel
set_option maxRecDepth 65536 in
theorem w_alone : about1.alone = true := by decide +kernel
set_option maxRecDepth 65536 in
theorem w_named : about1.methodNamed? x = some theMethod := by decide +kernel
set_option maxRecDepth 65536 in
theorem w_hears : about1.hears theMethod below0 = true := by decide +kernel
set_option maxRecDepth 65536 in
theorem w_ripe : about1.ripe theMethod args0 below0 = true := by decide +kernel
theorem w_running : about1.status = .running := rfl
set_option maxRecDepth 65536 in
theorem w_room : about1.hasRoom e0.platform room_1 = true :=
  launch0.hasRoom_least _ room_1 (by decide +kernel) (by decide +kernel) (by decide +kernel) (by decide +kernel) (by decide +kernel) (by decide +kernel)
theorem allAtoms_all (ts : List Jvm.Cond) (a : Array Jvm.Value) (st : Jvm.State) : (allAtoms ts).before a st = ts.all (fun c => c.before a st) := by
  induction ts with
  | nil => rfl
  | cons c t ih =>
    show (Jvm.Cond.and c (allAtoms t)).before a st = _
    rw [Jvm.Cond.before_and, ih, List.all_cons]
def words1 : List Jvm.Cond := Jvm.Cond.code x code maxLocals ret :: tables_1
/-- a 'code' word, met by the world's own term for the bytes: nothing is compared byte by byte -/
theorem code_word {y : MethodName} {bytes : ByteArray} {mx : Nat} {rt : Option FieldType} {a : Array Value} {s : State} {m : MethodId} {meth : Method} {c : Code} (h1 : s.methodNamed? y = some m) (h2 : s.vm.method? m = some meth) (h3 : meth.code = some c) (h4 : c.code = bytes)
    (h5 : (c.maxLocals == mx && c.exceptionTable.isEmpty && decide (c.maxStack ≤ mostOperands) && decide (meth.sig.returnType = rt) && !meth.locks && decide (parseMethodDescriptor y.desc = some meth.sig)) = true) : (Jvm.Cond.code y bytes mx rt).before a s = true := by
  simp only [Bool.and_eq_true, beq_iff_eq, Bool.not_eq_true', decide_eq_true_eq] at h5
  obtain ⟨⟨⟨⟨⟨g1, g2⟩, g3⟩, g4⟩, g5⟩, g6⟩ := h5
  simp [Cond.before, Cond.holds, Cond.value, h1, h2, h3, h4, g1, g2, g3, g4, g5, g6]
def isCode : Jvm.Cond → Bool
  | .code _ _ _ _ => true
  | _ => false
theorem all_split {L : List Jvm.Cond} {P : Jvm.Cond → Bool} (h1 : L.all (fun c => isCode c || P c) = true) (h2 : ∀ c ∈ L.filter isCode, P c = true) : L.all P = true := by
  refine List.all_eq_true.mpr fun c hc => ?_
  have h := List.all_eq_true.mp h1 c hc
  rcases Bool.eq_false_or_eq_true (isCode c) with hi | hi
  · exact h2 c (List.mem_filter.mpr ⟨hc, hi⟩)
  · simpa [hi] using h
set_option maxRecDepth 65536 in
theorem w_c0 : (Jvm.Cond.code x code maxLocals ret).before args0 about1 = true := code_word (m := ⟨1, 1⟩) (meth := k1m1) (c := k1c1) (by decide +kernel) rfl rfl rfl (by decide +kernel)
set_option maxRecDepth 65536 in
theorem w_c1 : (Jvm.Cond.code ({ cls := "com/example/libdgram/libdgram/cli/Latencies", name := "<init>", desc := "(I)V" } : Jvm.MethodName) prog_47_method_1_code (2 : Nat) (Option.none : Option Jvm.ClassFile.FieldType)).before args0 about1 = true := code_word (m := ⟨2, 0⟩) (meth := k2m0) (c := k2c0) (by decide +kernel) rfl rfl rfl (by decide +kernel)
set_option maxRecDepth 65536 in
theorem w_c2 : (Jvm.Cond.code ({ cls := "java/lang/Object", name := "<init>", desc := "()V" } : Jvm.MethodName) object_method_1_code (1 : Nat) (Option.none : Option Jvm.ClassFile.FieldType)).before args0 about1 = true := code_word (m := ⟨0, 0⟩) (meth := k0m0) (c := k0c0) (by decide +kernel) rfl rfl rfl (by decide +kernel)
set_option maxRecDepth 65536 in
theorem w_c3 : (Jvm.Cond.code ({ cls := "java/lang/Math", name := "min", desc := "(II)I" } : Jvm.MethodName) jdk_29_method_69_code (2 : Nat) (Option.some Jvm.ClassFile.FieldType.int)).before args0 about1 = true := code_word (m := ⟨3, 2⟩) (meth := k3m2) (c := k3c2) (by decide +kernel) rfl rfl rfl (by decide +kernel)
set_option maxRecDepth 65536 in
theorem w_c4 : (Jvm.Cond.code ({ cls := "com/example/libdgram/libdgram/cli/Latencies", name := "add", desc := "(IJ)V" } : Jvm.MethodName) prog_47_method_3_code (4 : Nat) (Option.none : Option Jvm.ClassFile.FieldType)).before args0 about1 = true := code_word (m := ⟨2, 1⟩) (meth := k2m1) (c := k2c1) (by decide +kernel) rfl rfl rfl (by decide +kernel)
set_option maxRecDepth 65536 in
theorem w_c5 : (Jvm.Cond.code ({ cls := "java/lang/Math", name := "min", desc := "(JJ)J" } : Jvm.MethodName) jdk_29_method_70_code (4 : Nat) (Option.some Jvm.ClassFile.FieldType.long)).before args0 about1 = true := code_word (m := ⟨3, 3⟩) (meth := k3m3) (c := k3c3) (by decide +kernel) rfl rfl rfl (by decide +kernel)
set_option maxRecDepth 65536 in
theorem w_c6 : (Jvm.Cond.code ({ cls := "java/lang/Math", name := "max", desc := "(JJ)J" } : Jvm.MethodName) jdk_29_method_66_code (4 : Nat) (Option.some Jvm.ClassFile.FieldType.long)).before args0 about1 = true := code_word (m := ⟨3, 1⟩) (meth := k3m1) (c := k3c1) (by decide +kernel) rfl rfl rfl (by decide +kernel)
set_option maxRecDepth 65536 in
theorem w_c7 : (Jvm.Cond.code ({ cls := "com/example/libdgram/libdgram/cli/Latencies", name := "percentile", desc := "(I)J" } : Jvm.MethodName) prog_47_method_4_code (4 : Nat) (Option.some Jvm.ClassFile.FieldType.long)).before args0 about1 = true := code_word (m := ⟨2, 2⟩) (meth := k2m2) (c := k2c2) (by decide +kernel) rfl rfl rfl (by decide +kernel)
set_option maxRecDepth 65536 in
theorem w_c8 : (Jvm.Cond.code ({ cls := "java/util/Arrays", name := "sort", desc := "([J)V" } : Jvm.MethodName) jdk_65_method_4_code (1 : Nat) (Option.none : Option Jvm.ClassFile.FieldType)).before args0 about1 = true := code_word (m := ⟨4, 1⟩) (meth := k4m1) (c := k4c1) (by decide +kernel) rfl rfl rfl (by decide +kernel)
set_option maxRecDepth 65536 in
theorem w_c9 : (Jvm.Cond.code ({ cls := "java/util/DualPivotQuicksort", name := "sort", desc := "([JIII)V" } : Jvm.MethodName) jdk_2529_method_12_code (7 : Nat) (Option.none : Option Jvm.ClassFile.FieldType)).before args0 about1 = true := code_word (m := ⟨5, 1⟩) (meth := k5m1) (c := k5c1) (by decide +kernel) rfl rfl rfl (by decide +kernel)
set_option maxRecDepth 65536 in
theorem w_c10 : (Jvm.Cond.code ({ cls := "java/util/DualPivotQuicksort", name := "sort", desc := "(Ljava/util/DualPivotQuicksort$Sorter;[JIII)V" } : Jvm.MethodName) jdk_2529_method_13_code (25 : Nat) (Option.none : Option Jvm.ClassFile.FieldType)).before args0 about1 = true := code_word (m := ⟨5, 2⟩) (meth := k5m2) (c := k5c2) (by decide +kernel) rfl rfl rfl (by decide +kernel)
set_option maxRecDepth 65536 in
theorem w_c11 : (Jvm.Cond.code ({ cls := "java/util/DualPivotQuicksort", name := "insertionSort", desc := "([JII)V" } : Jvm.MethodName) jdk_2529_method_15_code (7 : Nat) (Option.none : Option Jvm.ClassFile.FieldType)).before args0 about1 = true := code_word (m := ⟨5, 3⟩) (meth := k5m3) (c := k5c3) (by decide +kernel) rfl rfl rfl (by decide +kernel)
def codes1 : List Jvm.Cond := [Jvm.Cond.code x code maxLocals ret, Jvm.Cond.code ({ cls := "com/example/libdgram/libdgram/cli/Latencies", name := "<init>", desc := "(I)V" } : Jvm.MethodName) prog_47_method_1_code (2 : Nat) (Option.none : Option Jvm.ClassFile.FieldType), Jvm.Cond.code ({ cls := "java/lang/Object", name := "<init>", desc := "()V" } : Jvm.MethodName) object_method_1_code (1 : Nat) (Option.none : Option Jvm.ClassFile.FieldType), Jvm.Cond.code ({ cls := "java/lang/Math", name := "min", desc := "(II)I" } : Jvm.MethodName) jdk_29_method_69_code (2 : Nat) (Option.some Jvm.ClassFile.FieldType.int), Jvm.Cond.code ({ cls := "com/example/libdgram/libdgram/cli/Latencies", name := "add", desc := "(IJ)V" } : Jvm.MethodName) prog_47_method_3_code (4 : Nat) (Option.none : Option Jvm.ClassFile.FieldType), Jvm.Cond.code ({ cls := "java/lang/Math", name := "min", desc := "(JJ)J" } : Jvm.MethodName) jdk_29_method_70_code (4 : Nat) (Option.some Jvm.ClassFile.FieldType.long), Jvm.Cond.code ({ cls := "java/lang/Math", name := "max", desc := "(JJ)J" } : Jvm.MethodName) jdk_29_method_66_code (4 : Nat) (Option.some Jvm.ClassFile.FieldType.long), Jvm.Cond.code ({ cls := "com/example/libdgram/libdgram/cli/Latencies", name := "percentile", desc := "(I)J" } : Jvm.MethodName) prog_47_method_4_code (4 : Nat) (Option.some Jvm.ClassFile.FieldType.long), Jvm.Cond.code ({ cls := "java/util/Arrays", name := "sort", desc := "([J)V" } : Jvm.MethodName) jdk_65_method_4_code (1 : Nat) (Option.none : Option Jvm.ClassFile.FieldType), Jvm.Cond.code ({ cls := "java/util/DualPivotQuicksort", name := "sort", desc := "([JIII)V" } : Jvm.MethodName) jdk_2529_method_12_code (7 : Nat) (Option.none : Option Jvm.ClassFile.FieldType), Jvm.Cond.code ({ cls := "java/util/DualPivotQuicksort", name := "sort", desc := "(Ljava/util/DualPivotQuicksort$Sorter;[JIII)V" } : Jvm.MethodName) jdk_2529_method_13_code (25 : Nat) (Option.none : Option Jvm.ClassFile.FieldType), Jvm.Cond.code ({ cls := "java/util/DualPivotQuicksort", name := "insertionSort", desc := "([JII)V" } : Jvm.MethodName) jdk_2529_method_15_code (7 : Nat) (Option.none : Option Jvm.ClassFile.FieldType)]
set_option maxRecDepth 65536 in
theorem codes_eq : words1.filter isCode = codes1 := rfl
theorem w_codes : ∀ c ∈ words1.filter isCode, c.before args0 about1 = true := by
  rw [codes_eq]
  intro c hc
  simp only [codes1, List.mem_cons, List.not_mem_nil, or_false] at hc
  rcases hc with rfl | rfl | rfl | rfl | rfl | rfl | rfl | rfl | rfl | rfl | rfl | rfl
  · exact w_c0
  · exact w_c1
  · exact w_c2
  · exact w_c3
  · exact w_c4
  · exact w_c5
  · exact w_c6
  · exact w_c7
  · exact w_c8
  · exact w_c9
  · exact w_c10
  · exact w_c11
set_option maxRecDepth 65536 in
theorem w_t1 : (words1.take 24).all (fun c => isCode c || c.before args0 about1) = true := by decide +kernel
set_option maxRecDepth 65536 in
theorem w_t2 : ((words1.drop 24).take 24).all (fun c => isCode c || c.before args0 about1) = true := by decide +kernel
set_option maxRecDepth 65536 in
theorem w_t3 : ((words1.drop 24).drop 24).all (fun c => isCode c || c.before args0 about1) = true := by decide +kernel
theorem w_tables : (allAtoms (Jvm.Cond.code x code maxLocals ret :: tables_1)).before args0 about1 = true := by
  rw [allAtoms_all]
  show words1.all (fun c => c.before args0 about1) = true
  refine all_split ?_ w_codes
  rw [← List.take_append_drop 24 words1, List.all_append, w_t1, ← List.take_append_drop 24 (words1.drop 24), List.all_append, w_t2, w_t3]
  rfl
set_option maxRecDepth 65536 in
theorem w_case : (Jvm.Cond.and given_1 narrow_1).before args0 about1 = true := by decide +kernel
theorem w_applies : (headSpec (Jvm.Cond.code x code maxLocals ret :: tables_1) room_1).applies x e0.platform about1 = true :=
  (Spec.applies_iff w_frames).mpr ⟨w_running, w_runnable, w_alone, w_named, w_hears, w_ripe, w_room, w_tables⟩
theorem atStart : AtStart classFile x code maxLocals ret World_1 tables_1 room_1 Calls_1 rest_1 Pre_1 launch0 p0 e0 about1 theMethod args0 below0 :=
  ⟨lists_1, trivial, launch0.admits_env _ _ _, launch0.least_env, fairChoices_fair.cas, fairChoices_fair.clock, w_frames, w_args, w_heap, w_applies, trivial, trivial, w_case⟩
end start1
theorem witness_1 : WitnessClaimed_1 := ⟨start1.p0, start1.e0, start1.about1, start1.theMethod, start1.args0, start1.below0, start1.atStart⟩
end Jvm.Pilot.@@N@@
