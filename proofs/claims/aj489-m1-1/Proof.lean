import JvmDerived
import JvmDerived.Pilot.@@N@@Statement
import JvmDerived.Pilot.@@N@@Code
set_option linter.unusedVariables false
set_option linter.unusedSimpArgs false
namespace Jvm.Pilot.@@N@@
open Jvm Jvm.ClassFile Sem Op Lib Jvm.Free Jvm.Stand Jvm.LawKit Jvm.RoadKit Bundle Jvm.Pilot.@@N@@.Jvm.D
/-! own prelude: a walk as one chain of steps that ends well (Go), contracts (Mt), calls and returns in that form -/
abbrev jv (x : Int64) : Slot := .val (.long x)
section Own
variable {p : Program} {l : Launch} {e : Env} {R : Room} {s : State} {m : MethodId} {args : Array Value} {below : List Frame} {meth : Method} {c : Code} {T T' : State} {locs : List Loc} {cells slots : Nat} {Z : State} {a0 : Array Value} {h : Heap}
theorem own_retI (X : Stand p l e R s m args below meth c T locs cells slots) (hx : p.tables.exec = Jvm.exec) {pc : Nat} {Ls : Array Slot} {z : Int32} {rest : List Value} (hret : meth.sig.returnType = some .int) (hd : decode c.code pc = .ok (.ireturn, 1)) {fs : List Frame}
    (hl : ∀ (f : JFrame) (acts : List Action), f.method = m → f.locked = none → f.entered = [] → (doReturn e (T.setTop f) acts (some (.int z))).1 = T.setFrames fs) : Steps p.tables e below (T.setTop (mkF m pc Ls (.int z :: rest))) (T.setFrames fs) := by
  have hm' : T.vm.method? m = some meth := X.method'
  have hn : narrow .int (.int z) = .int z := rfl
  show Steps p.tables e below (T.setTop { method := m, pc := pc, locals := Ls, stack := _ :: rest, locked := none }) _
  jvm_step X.here [X.here.top, hx, hd, hm', hret, hn]
  first | (intro acts; rw [hl _ acts rfl rfl rfl]) | rw [hl _ _ rfl rfl rfl]
  exact Steps.refl _
theorem own_retL (X : Stand p l e R s m args below meth c T locs cells slots) (hx : p.tables.exec = Jvm.exec) {pc : Nat} {Ls : Array Slot} {z : Int64} {rest : List Value} (hret : meth.sig.returnType = some .long) (hd : decode c.code pc = .ok (.lreturn, 1)) {fs : List Frame}
    (hl : ∀ (f : JFrame) (acts : List Action), f.method = m → f.locked = none → f.entered = [] → (doReturn e (T.setTop f) acts (some (.long z))).1 = T.setFrames fs) : Steps p.tables e below (T.setTop (mkF m pc Ls (.long z :: rest))) (T.setFrames fs) := by
  have hm' : T.vm.method? m = some meth := X.method'
  show Steps p.tables e below (T.setTop { method := m, pc := pc, locals := Ls, stack := _ :: rest, locked := none }) _
  jvm_step X.here [X.here.top, hx, hd, hm', hret, narrow]
  first | (intro acts; rw [hl _ acts rfl rfl rfl]) | rw [hl _ _ rfl rfl rfl]
  exact Steps.refl _
theorem own_retA (X : Stand p l e R s m args below meth c T locs cells slots) (hx : p.tables.exec = Jvm.exec) {pc : Nat} {Ls : Array Slot} {v : Value} {rest : List Value} (hv : v.isRef = true) {t : FieldType} (hret : meth.sig.returnType = some t) (ht : t.isReference = true) (hd : decode c.code pc = .ok (.areturn, 1)) {fs : List Frame}
    (hl : ∀ (f : JFrame) (acts : List Action), f.method = m → f.locked = none → f.entered = [] → (doReturn e (T.setTop f) acts (some v)).1 = T.setFrames fs) : Steps p.tables e below (T.setTop (mkF m pc Ls (v :: rest))) (T.setFrames fs) := by
  have hm' : T.vm.method? m = some meth := X.method'
  show Steps p.tables e below (T.setTop { method := m, pc := pc, locals := Ls, stack := _ :: rest, locked := none }) _
  rcases ref_cases hv with rfl | ⟨a, rfl⟩
  · jvm_step X.here [X.here.top, hx, hd, hm', hret, ht, Value.isRef]
    first | (intro acts; rw [hl _ acts rfl rfl rfl]) | rw [hl _ _ rfl rfl rfl]
    exact Steps.refl _
  · jvm_step X.here [X.here.top, hx, hd, hm', hret, ht, Value.isRef]
    first | (intro acts; rw [hl _ acts rfl rfl rfl]) | rw [hl _ _ rfl rfl rfl]
    exact Steps.refl _
/-- from this frame the walk ends, and W holds of its end -/
def Go (p : Program) (e : Env) (below : List Frame) (W : Outcome → State → Prop) (T : State) (g : JFrame) : Prop := ∃ s₂ o, Steps p.tables e below (T.setTop g) s₂ ∧ s₂.status = .running ∧ Ended s₂ below o ∧ W o s₂
def Wf (s : State) (rc rs : Nat) (Q : Option Value → Heap → List Loc → Prop) (o : Outcome) (t : State) : Prop := ∃ v L, o = .returned v ∧ Q v t.heap L ∧ FrameEnd s o t L rc rs
/-- a method's contract: from these arguments and this heap it returns, and Q -/
def Mt (l : Launch) (Z : State) (y : MethodName) (bytes : ByteArray) (ml : Nat) (ret : Option FieldType) (ws : List Jvm.Cond) (rm : Room) (as' : Array Value) (h0 : Heap) (Q : Option Value → Heap → List Loc → Prop) : Prop :=
  MetFree l y (head1 (Jvm.Cond.code y bytes ml ret :: ws) rm) (fun a U => a = as' ∧ Z.Warmed39 U.vm ∧ U.heap = h0) (fun _ _ _ _ _ => True) (fun _ U o U' => ∃ v L, o = .returned v ∧ Q v U'.heap L ∧ FrameEnd U o U' L rm.cells rm.slots)
variable {W : Outcome → State → Prop} {g g' : JFrame} {Q : Option Value → Heap → List Loc → Prop} {rc rs : Nat}
theorem Go.st (k : Go p e below W T' g') (st : ∀ t, Steps p.tables e below (T'.setTop g') t → Steps p.tables e below (T.setTop g) t) : Go p e below W T g := by
  obtain ⟨s₂, o, h1, h2⟩ := k
  exact ⟨s₂, o, st _ h1, h2⟩
theorem Go.cast (q : g = g') (k : Go p e below W T g') : Go p e below W T g := q ▸ k
theorem Go.mono {W' : Outcome → State → Prop} (k : Go p e below W T g) (q : ∀ o t, W o t → W' o t) : Go p e below W' T g := by
  obtain ⟨s₂, o, h1, h2, h3, h4⟩ := k
  exact ⟨s₂, o, h1, h2, h3, q _ _ h4⟩
theorem Mt.body {y : MethodName} {bytes : ByteArray} {ml : Nat} {ret : Option FieldType} {ws : List Jvm.Cond} {rm : Room} {as' : Array Value} {h0 : Heap} (hpn : plainFor y = true)
    (body : ∀ (p : Program) (e : Env) (s : State) (m : MethodId) (below : List Frame) (meth : Method) (c : Code) (s₁ : State), p.tables.exec = Jvm.exec → c.code = bytes → c.maxLocals = ml → s.vm.findClass y.cls = some m.cls → meth.name = y.name → meth.sig.returnType = ret → meth.locks = false →
      Z.Warmed39 s.vm → Stand p l e rm s m as' below meth c s₁ [] 0 0 → s₁.heap = h0 → Go p e below (Wf s rm.cells rm.slots Q) s₁ (entryFrame m as' ml)) : Mt l Z y bytes ml ret ws rm as' h0 Q := by
  refine MetFree.of_bodySF hpn hisR ?_
  intro p e s m args below meth c s₁ Bd hml0 hP hK
  obtain ⟨rfl, hZ, hh⟩ := hP
  have := body p e s m below meth c s₁ Bd.exec Bd.bytes hml0 (findClass_of_methodNamed Bd.named) (name_of_methodNamed Bd.named Bd.method).1 Bd.returns Bd.notSynchronized hZ (Stand.of_body Bd) (by rw [← hh, Bd.state]; rfl)
  obtain ⟨s₂, o, h1, h2, h3, v, L, h4, h5, h6⟩ := this
  exact ⟨s₂, o, h1, h2, h3, v, L, h4, h5, h6⟩
theorem Go.retV (X : Stand p l e R s m args below meth c T locs cells slots) (hx : p.tables.exec = Jvm.exec) (hlk : meth.locks = false) (hret : meth.sig.returnType = none) {pc : Nat} {Ls : Array Slot} (hd : decode c.code pc = .ok (.return_, 1)) (hc : cells ≤ rc) (hs : slots ≤ rs) (hq : Q none T.heap locs) : Go p e below (Wf s rc rs Q) T (mkF m pc Ls []) := by
  obtain ⟨fs, hr, hrun, hended, hW, hsame⟩ := X.leave (v := none) (fun _ => rfl) hlk
  exact ⟨_, _, X.returnOut hx hret hd hr, hrun, hended, _, _, rfl, hq, ⟨_, rfl⟩, hW, hsame.mono hc hs⟩
theorem Go.retI (X : Stand p l e R s m args below meth c T locs cells slots) (hx : p.tables.exec = Jvm.exec) (hlk : meth.locks = false) (hret : meth.sig.returnType = some .int) {pc : Nat} {Ls : Array Slot} {z : Int32} {st : List Value} (hd : decode c.code pc = .ok (.ireturn, 1)) (hc : cells ≤ rc) (hs : slots ≤ rs) (hq : Q (some (.int z)) T.heap locs) : Go p e below (Wf s rc rs Q) T (mkF m pc Ls (.int z :: st)) := by
  obtain ⟨fs, hr, hrun, hended, hW, hsame⟩ := X.leave (v := some (.int z)) (fun h => by rw [hret] at h; cases h) hlk
  exact ⟨_, _, own_retI X hx hret hd hr, hrun, hended, _, _, rfl, hq, ⟨_, rfl⟩, hW, hsame.mono hc hs⟩
theorem Go.retL (X : Stand p l e R s m args below meth c T locs cells slots) (hx : p.tables.exec = Jvm.exec) (hlk : meth.locks = false) (hret : meth.sig.returnType = some .long) {pc : Nat} {Ls : Array Slot} {z : Int64} {st : List Value} (hd : decode c.code pc = .ok (.lreturn, 1)) (hc : cells ≤ rc) (hs : slots ≤ rs) (hq : Q (some (.long z)) T.heap locs) : Go p e below (Wf s rc rs Q) T (mkF m pc Ls (.long z :: st)) := by
  obtain ⟨fs, hr, hrun, hended, hW, hsame⟩ := X.leave (v := some (.long z)) (fun h => by rw [hret] at h; cases h) hlk
  exact ⟨_, _, own_retL X hx hret hd hr, hrun, hended, _, _, rfl, hq, ⟨_, rfl⟩, hW, hsame.mono hc hs⟩
theorem Go.retA (X : Stand p l e R s m args below meth c T locs cells slots) (hx : p.tables.exec = Jvm.exec) (hlk : meth.locks = false) {t : FieldType} (hret : meth.sig.returnType = some t) (ht : t.isReference = true) {pc : Nat} {Ls : Array Slot} {v : Value} (hv : v.isRef = true) {st : List Value} (hd : decode c.code pc = .ok (.areturn, 1)) (hc : cells ≤ rc) (hs : slots ≤ rs) (hq : Q (some v) T.heap locs) : Go p e below (Wf s rc rs Q) T (mkF m pc Ls (v :: st)) := by
  obtain ⟨fs, hr, hrun, hended, hW, hsame⟩ := X.leave (v := some v) (fun h => by rw [hret] at h; cases h) hlk
  exact ⟨_, _, own_retA X hx hv hret ht hd hr, hrun, hended, _, _, rfl, hq, ⟨_, rfl⟩, hW, hsame.mono hc hs⟩
theorem Go.retN (X : Stand p l e R s m args below meth c T locs cells slots) (hx : p.tables.exec = Jvm.exec) (hlk : meth.locks = false) {t : FieldType} (hret : meth.sig.returnType = some t) (ht : t = .boolean ∨ t = .byte ∨ t = .char ∨ t = .short) {pc : Nat} {Ls : Array Slot} {z z' : Int32} {st : List Value} (hn : narrow t (.int z) = .int z') (hd : decode c.code pc = .ok (.ireturn, 1)) (hc : cells ≤ rc) (hs : slots ≤ rs) (hq : Q (some (.int z')) T.heap locs) : Go p e below (Wf s rc rs Q) T (mkF m pc Ls (.int z :: st)) := by
  obtain ⟨fs, hr, hrun, hended, hW, hsame⟩ := X.leave (v := some (.int z')) (fun h => by rw [hret] at h; cases h) hlk
  refine ⟨_, _, ?_, hrun, hended, _, _, rfl, hq, ⟨_, rfl⟩, hW, hsame.mono hc hs⟩
  have hm' : T.vm.method? m = some meth := X.method'
  show Steps p.tables e below (T.setTop { method := m, pc := pc, locals := Ls, stack := _ :: st, locked := none }) _
  rcases ht with rfl | rfl | rfl | rfl
  all_goals
    jvm_step X.here [X.here.top, hx, hd, hm', hret, hn]
    first | (intro acts; rw [hr _ acts rfl rfl rfl]) | rw [hr _ _ rfl rfl rfl]
    exact Steps.refl _
/-! calls, paid by any Back -/
theorem Go.callSB (X : Stand p l e R s m args below meth c T locs cells slots) (hx : p.tables.exec = Jvm.exec) (hZ : Z.Warmed39 s.vm) {own : String} {index : Nat} {y : MethodName} {bytes : ByteArray} {maxL : Nat} {ret : Option FieldType} (hown : s.vm.findClass own = some m.cls)
    (w1 : (Jvm.Cond.methodLink own index y).before a0 Z = true) (w2 : (Jvm.Cond.static y).before a0 Z = true) (w3 : (Jvm.Cond.initialized y.cls).before a0 Z = true) (w4 : (Jvm.Cond.code y bytes maxL ret).before a0 Z = true) (hy : y.cls ≠ "java/lang/invoke/MethodHandle" ∧ y.cls ≠ "java/lang/invoke/VarHandle")
    {Wd : Nat} {Pre : Pt → Array Value → Prop} {Post : Pt → Array Value → Option Value → Pt → Prop} (hK : Back l R p e below s args y 3 Wd Pre Post)
    {argsL rest : List Value} (hg : g.method = m) (hsize : g.locals.size = c.maxLocals) (hlen : ∀ sig, parseMethodDescriptor y.desc = some sig → argsL.length = sig.parameters.length) (hstack : g.stack = argsL.reverse ++ rest) (hWd : 2 * g.monitorRoom + (rest.map fun v => v.category).sum ≤ Wd) (hd : decode c.code g.pc = .ok (.invokestatic index, 3))
    (hpre : ∀ vm₁, Pre ⟨T.setVm vm₁, locs, cells, slots⟩ argsL.toArray)
    (k : ∀ (v : Option Value) (vm₁ : Vm) (B : Pt), Stand p l e R s m args below meth c B.U B.locs B.cells B.slots → Post ⟨T.setVm vm₁, locs, cells, slots⟩ argsL.toArray v B → Go p e below W B.U { g with pc := g.pc + 3, stack := v.toList ++ rest }) : Go p e below W T g := by
  obtain ⟨v, vm₁, B, -, X', hP, st⟩ := Jvm.LawKit.callS X hx hown (mvT hZ w1) (mvT hZ w2) (mvT hZ w3) (mvT hZ w4) hy hK hg hsize hlen hstack hWd hd (fun vm₁ _ => hpre vm₁)
  exact (k v vm₁ B X' hP).st st
theorem Go.callNB (X : Stand p l e R s m args below meth c T locs cells slots) (hx : p.tables.exec = Jvm.exec) (hZ : Z.Warmed39 s.vm) {own : String} {index : Nat} {y : MethodName} {bytes : ByteArray} {maxL : Nat} (hy1 : y.name = "<init>") (hown : s.vm.findClass own = some m.cls)
    (w1 : (Jvm.Cond.methodLink own index y).before a0 Z = true) (w2 : (Jvm.Cond.instanceMethod y).before a0 Z = true) (w4 : (Jvm.Cond.code y bytes maxL none).before a0 Z = true) (hy : y.cls ≠ "java/lang/invoke/MethodHandle" ∧ y.cls ≠ "java/lang/invoke/VarHandle")
    {Wd : Nat} {Pre : Pt → Array Value → Prop} {Post : Pt → Array Value → Option Value → Pt → Prop} (hK : Back l R p e below s args y 3 Wd Pre Post)
    {a : Addr} {argsL rest : List Value} (hg : g.method = m) (hsize : g.locals.size = c.maxLocals) (hlen : ∀ sig, parseMethodDescriptor y.desc = some sig → argsL.length = sig.parameters.length) (hstack : g.stack = argsL.reverse ++ .ref a :: rest) (hWd : 2 * g.monitorRoom + (rest.map fun v => v.category).sum ≤ Wd) (hd : decode c.code g.pc = .ok (.invokespecial index, 3))
    (hpre : ∀ vm₁, Pre ⟨T.setVm vm₁, locs, cells, slots⟩ (.ref a :: argsL).toArray)
    (k : ∀ (v : Option Value) (vm₁ : Vm) (B : Pt), Stand p l e R s m args below meth c B.U B.locs B.cells B.slots → Post ⟨T.setVm vm₁, locs, cells, slots⟩ (.ref a :: argsL).toArray v B → Go p e below W B.U { g with pc := g.pc + 3, stack := v.toList ++ rest }) : Go p e below W T g := by
  obtain ⟨v, vm₁, B, -, X', hP, st⟩ := X.specialBack hx hy1 hown (mvT hZ w1) (mvT hZ w2) (mvT hZ w4) hy hK hg hsize (Steps.refl _) hlen hstack hWd hd (fun vm₁ _ => hpre vm₁)
  exact (k v vm₁ B X' hP).st fun _ q => st.trans q
theorem Go.callVB (X : Stand p l e R s m args below meth c T locs cells slots) (hx : p.tables.exec = Jvm.exec) (hZ : Z.Warmed39 s.vm) {own C : String} {index : Nat} {y z : MethodName} (hown : s.vm.findClass own = some m.cls)
    (w1 : (Jvm.Cond.methodLink own index y).before a0 Z = true) (w2 : (Jvm.Cond.declares y).before a0 Z = true) (hnf : NotFace s y) (w3 : (Jvm.Cond.selects C y z).before a0 Z = true) (w4 : (Jvm.Cond.instanceMethod z).before a0 Z = true) (hy : y.cls ≠ "java/lang/invoke/MethodHandle" ∧ y.cls ≠ "java/lang/invoke/VarHandle")
    {Wd : Nat} {Pre : Pt → Array Value → Prop} {Post : Pt → Array Value → Option Value → Pt → Prop} (hK : Back l R p e below s args z 3 Wd Pre Post)
    (eT : T.heap = h) {b : Addr} (E : Exa Z h b C) {argsL rest : List Value} (hg : g.method = m) (hsize : g.locals.size = c.maxLocals) (hlen : ∀ sig, parseMethodDescriptor y.desc = some sig → argsL.length = sig.parameters.length) (hstack : g.stack = argsL.reverse ++ .ref b :: rest) (hWd : 2 * g.monitorRoom + (rest.map fun v => v.category).sum ≤ Wd) (hd : decode c.code g.pc = .ok (.invokevirtual index, 3))
    (hpre : ∀ vm₁, Pre ⟨T.setVm vm₁, locs, cells, slots⟩ (.ref b :: argsL).toArray)
    (k : ∀ (v : Option Value) (vm₁ : Vm) (B : Pt), Stand p l e R s m args below meth c B.U B.locs B.cells B.slots → Post ⟨T.setVm vm₁, locs, cells, slots⟩ (.ref b :: argsL).toArray v B → Go p e below W B.U { g with pc := g.pc + 3, stack := v.toList ++ rest }) : Go p e below W T g := by
  obtain ⟨cB, kB, q1, q2, q3⟩ := isOf hZ eT E
  obtain ⟨v, vm₁, B, -, X', hP, st⟩ := X.virtualBack hx hown (mvT hZ w1) (mvT hZ w2) hnf (mvT hZ w3) (mvT hZ w4) hy hK q1 q3 hg hsize (Steps.refl _) hlen hstack hWd hd (fun vm₁ _ => hpre vm₁)
  exact (k v vm₁ B X' hP).st fun _ q => st.trans q
/-! calls, paid by a contract of one's own (Mt) -/
variable {Q' : Option Value → Heap → List Loc → Prop} {rm : Room} {as' : Array Value}
theorem Go.callS (X : Stand p l e R s m args below meth c T locs cells slots) (hx : p.tables.exec = Jvm.exec) (hZ : Z.Warmed39 s.vm) {own : String} {index : Nat} {y : MethodName} {bytes : ByteArray} {maxL : Nat} {ret : Option FieldType} (hown : s.vm.findClass own = some m.cls)
    (w1 : (Jvm.Cond.methodLink own index y).before a0 Z = true) (w2 : (Jvm.Cond.static y).before a0 Z = true) (w3 : (Jvm.Cond.initialized y.cls).before a0 Z = true) (w4 : (Jvm.Cond.code y bytes maxL ret).before a0 Z = true) (hy : y.cls ≠ "java/lang/invoke/MethodHandle" ∧ y.cls ≠ "java/lang/invoke/VarHandle") (Wd : Nat)
    (hM : Mt l Z y bytes maxL ret [] rm as' h Q') (eT : T.heap = h) (hf : rm.frames + 1 ≤ R.frames) (hl : Wd + (maxL + 11) + rm.locals ≤ R.locals) (hc : cells + rm.cells ≤ R.cells) (hs : slots + rm.slots ≤ R.slots)
    {argsL rest : List Value} (hg : g.method = m) (hsize : g.locals.size = c.maxLocals) (hlen : ∀ sig, parseMethodDescriptor y.desc = some sig → argsL.length = sig.parameters.length) (hstack : g.stack = argsL.reverse ++ rest) (ha : argsL.toArray = as') (hWd : 2 * g.monitorRoom + (rest.map fun v => v.category).sum ≤ Wd) (hd : decode c.code g.pc = .ok (.invokestatic index, 3))
    (k : ∀ (v : Option Value) (T' : State) (L : List Loc), Stand p l e R s m args below meth c T' (locs ++ L) (cells + rm.cells) (slots + rm.slots) → Q' v T'.heap L → Go p e below W T' { g with pc := g.pc + 3, stack := v.toList ++ rest }) : Go p e below W T g := by
  refine Go.callSB X hx hZ hown w1 w2 w3 w4 hy (backOf (W := Wd) hM hZ w4 w3 hf hl) hg hsize hlen hstack hWd hd (fun _ => ⟨ha, eT, hc, hs⟩) ?_
  rintro v vm₁ ⟨T1, L1, c1, n1⟩ X1 ⟨L, hQ, e1, e2, e3⟩
  dsimp only [Pt.U, Pt.locs, Pt.cells, Pt.slots] at X1 e1 e2 e3 hQ ⊢
  subst e1 e2 e3
  exact k v T1 L X1 hQ
theorem Go.callN (X : Stand p l e R s m args below meth c T locs cells slots) (hx : p.tables.exec = Jvm.exec) (hZ : Z.Warmed39 s.vm) {own : String} {index : Nat} {y : MethodName} {bytes : ByteArray} {maxL : Nat} (hy1 : y.name = "<init>") (hown : s.vm.findClass own = some m.cls)
    (w1 : (Jvm.Cond.methodLink own index y).before a0 Z = true) (w2 : (Jvm.Cond.instanceMethod y).before a0 Z = true) (w3 : (Jvm.Cond.initialized y.cls).before a0 Z = true) (w4 : (Jvm.Cond.code y bytes maxL none).before a0 Z = true) (hy : y.cls ≠ "java/lang/invoke/MethodHandle" ∧ y.cls ≠ "java/lang/invoke/VarHandle") (Wd : Nat)
    (hM : Mt l Z y bytes maxL none [] rm as' h Q') (eT : T.heap = h) (hf : rm.frames + 1 ≤ R.frames) (hl : Wd + (maxL + 11) + rm.locals ≤ R.locals) (hc : cells + rm.cells ≤ R.cells) (hs : slots + rm.slots ≤ R.slots)
    {a : Addr} {argsL rest : List Value} (hg : g.method = m) (hsize : g.locals.size = c.maxLocals) (hlen : ∀ sig, parseMethodDescriptor y.desc = some sig → argsL.length = sig.parameters.length) (hstack : g.stack = argsL.reverse ++ .ref a :: rest) (ha : (Value.ref a :: argsL).toArray = as') (hWd : 2 * g.monitorRoom + (rest.map fun v => v.category).sum ≤ Wd) (hd : decode c.code g.pc = .ok (.invokespecial index, 3))
    (k : ∀ (v : Option Value) (T' : State) (L : List Loc), Stand p l e R s m args below meth c T' (locs ++ L) (cells + rm.cells) (slots + rm.slots) → Q' v T'.heap L → Go p e below W T' { g with pc := g.pc + 3, stack := v.toList ++ rest }) : Go p e below W T g := by
  refine Go.callNB X hx hZ hy1 hown w1 w2 w4 hy (backOf (W := Wd) hM hZ w4 w3 hf hl) hg hsize hlen hstack hWd hd (fun _ => ⟨ha, eT, hc, hs⟩) ?_
  rintro v vm₁ ⟨T1, L1, c1, n1⟩ X1 ⟨L, hQ, e1, e2, e3⟩
  dsimp only [Pt.U, Pt.locs, Pt.cells, Pt.slots] at X1 e1 e2 e3 hQ ⊢
  subst e1 e2 e3
  exact k v T1 L X1 hQ
theorem Go.callV (X : Stand p l e R s m args below meth c T locs cells slots) (hx : p.tables.exec = Jvm.exec) (hZ : Z.Warmed39 s.vm) {own C : String} {index : Nat} {y z : MethodName} {bytes : ByteArray} {maxL : Nat} {ret : Option FieldType} (hown : s.vm.findClass own = some m.cls)
    (w1 : (Jvm.Cond.methodLink own index y).before a0 Z = true) (w2 : (Jvm.Cond.declares y).before a0 Z = true) (hnf : NotFace s y) (w3 : (Jvm.Cond.selects C y z).before a0 Z = true) (w4 : (Jvm.Cond.instanceMethod z).before a0 Z = true) (w5 : (Jvm.Cond.initialized z.cls).before a0 Z = true) (w6 : (Jvm.Cond.code z bytes maxL ret).before a0 Z = true) (hy : y.cls ≠ "java/lang/invoke/MethodHandle" ∧ y.cls ≠ "java/lang/invoke/VarHandle") (Wd : Nat)
    (hM : Mt l Z z bytes maxL ret [] rm as' h Q') (eT : T.heap = h) (hf : rm.frames + 1 ≤ R.frames) (hl : Wd + (maxL + 11) + rm.locals ≤ R.locals) (hc : cells + rm.cells ≤ R.cells) (hs : slots + rm.slots ≤ R.slots)
    {b : Addr} (E : Exa Z h b C) {argsL rest : List Value} (hg : g.method = m) (hsize : g.locals.size = c.maxLocals) (hlen : ∀ sig, parseMethodDescriptor y.desc = some sig → argsL.length = sig.parameters.length) (hstack : g.stack = argsL.reverse ++ .ref b :: rest) (ha : (Value.ref b :: argsL).toArray = as') (hWd : 2 * g.monitorRoom + (rest.map fun v => v.category).sum ≤ Wd) (hd : decode c.code g.pc = .ok (.invokevirtual index, 3))
    (k : ∀ (v : Option Value) (T' : State) (L : List Loc), Stand p l e R s m args below meth c T' (locs ++ L) (cells + rm.cells) (slots + rm.slots) → Q' v T'.heap L → Go p e below W T' { g with pc := g.pc + 3, stack := v.toList ++ rest }) : Go p e below W T g := by
  refine Go.callVB X hx hZ hown w1 w2 hnf w3 w4 hy (backOf (W := Wd) hM hZ w6 w5 hf hl) eT E hg hsize hlen hstack hWd hd (fun _ => ⟨ha, eT, hc, hs⟩) ?_
  rintro v vm₁ ⟨T1, L1, c1, n1⟩ X1 ⟨L, hQ, e1, e2, e3⟩
  dsimp only [Pt.U, Pt.locs, Pt.cells, Pt.slots] at X1 e1 e2 e3 hQ ⊢
  subst e1 e2 e3
  exact k v T1 L X1 hQ
end Own

/-! own prelude, arrays: Ary Z h a ty vs: at a lies an array of kind ty that holds just vs -/
theorem own_nat {n : Nat} (h : n < 2 ^ 31) : (Int32.ofNat n).toNatClampNeg = n ∧ ¬ Int32.ofNat n < 0 ∧ (Int32.ofNat n).toInt = n := by
  have e : (Int32.ofNat n).toInt = n := Int32.toInt_ofNat_of_lt h
  refine ⟨?_, ?_, e⟩
  · simp only [Int32.toNatClampNeg, e]; rfl
  · rw [Int32.lt_iff_toInt_lt, e]; simp
theorem own_lt {i n : Nat} (hi : i < 2 ^ 31) (hn : n < 2 ^ 31) : Int32.ofNat i < Int32.ofNat n ↔ i < n := by
  rw [Int32.lt_iff_toInt_lt, (own_nat hi).2.2, (own_nat hn).2.2]; omega
theorem own_eq {i n : Nat} (hi : i < 2 ^ 31) (hn : n < 2 ^ 31) : Int32.ofNat i = Int32.ofNat n ↔ i = n := by
  constructor
  · intro h
    have := congrArg Int32.toInt h
    rw [(own_nat hi).2.2, (own_nat hn).2.2] at this; omega
  · rintro rfl; rfl
theorem own_add (i n : Nat) : Int32.ofNat i + Int32.ofNat n = Int32.ofNat (i + n) := (Int32.ofNat_add i n).symm
theorem own_sub {i n : Nat} (h : n ≤ i) : Int32.ofNat i - Int32.ofNat n = Int32.ofNat (i - n) := by
  have : Int32.ofNat i = Int32.ofNat (i - n) + Int32.ofNat n := by rw [own_add]; congr 1; omega
  rw [this]; exact Int32.add_sub_cancel _ _
def Ary (Z : State) (h : Heap) (a : Addr) (ty : FieldType) (vs : List Value) : Prop := vs.length < 2 ^ 31 ∧ ∃ k d, Arv Z h a k ty (Int32.ofNat vs.length) vs d
section OwnA
variable {p : Program} {l : Launch} {e : Env} {R : Room} {s : State} {m : MethodId} {args : Array Value} {below : List Frame} {meth : Method} {c : Code} {T T' : State} {locs : List Loc} {cells slots : Nat} {Z : State} {a0 : Array Value} {h h' : Heap} {a b : Addr} {ty : FieldType} {vs : List Value} {v w : Value} {sl i : Nat} {j : Int32} {g : JFrame} {rest : List Value} {ws : List Addr} {W : Outcome → State → Prop} {t : State}
theorem Ary.lt (A : Ary Z h a ty vs) : a < h.size := by obtain ⟨-, k, d, F⟩ := A; exact F.lt
theorem Ary.ext (A : Ary Z h a ty vs) (E : Ext h h') : Ary Z h' a ty vs := by obtain ⟨q, k, d, F⟩ := A; exact ⟨q, k, d, F.ext E⟩
theorem Ary.other (A : Ary Z h a ty vs) (Wq : Wr h h' b sl w) (q : a ≠ b) : Ary Z h' a ty vs := by obtain ⟨q', k, d, F⟩ := A; exact ⟨q', k, d, F.other Wq q⟩
theorem Ary.keep (A : Ary Z h a ty vs) (K : Keep h h' ws) (q : a ∉ ws) : Ary Z h' a ty vs := by obtain ⟨q', k, d, F⟩ := A; exact ⟨q', k, d, F.keep K q⟩
theorem Ary.at (A : Ary Z h a ty vs) (hi : vs[i]? = some v) (hj : j = Int32.ofNat i) : ∃ cl, Arr Z h a cl ty ∧ ¬ (j < 0 ∨ cl.slots.size ≤ j.toNatClampNeg) ∧ cl.slots[j.toNatClampNeg]? = some v := by
  obtain ⟨q, k, d, cl, A, r1, r2, r3, H, G⟩ := A
  have hl := (List.getElem?_eq_some_iff.mp hi).1
  have n1 := own_nat q
  have n2 := own_nat (Nat.lt_trans hl q)
  subst hj
  rw [n1.1] at r2
  refine ⟨cl, A, ?_, ?_⟩
  · rw [n2.1, r2]; exact fun z => z.elim n2.2.1 fun y => Nat.not_le.mpr hl y
  · rw [n2.1, H i (by rw [r2]; exact hl)]; simp [List.getD_eq_getElem?_getD, hi]
theorem Ary.inb (A : Ary Z h a ty vs) (hi : i < vs.length) (hj : j = Int32.ofNat i) : ∃ cl, Arr Z h a cl ty ∧ ¬ (j < 0 ∨ cl.slots.size ≤ j.toNatClampNeg) := by
  obtain ⟨cl, h1, h2, -⟩ := A.at (v := vs[i]) (List.getElem?_eq_getElem hi) hj
  exact ⟨cl, h1, h2⟩
theorem own_new {k : ClassId} {n : Nat} (q : n < 2 ^ 31) (A : Arr Z h a (newA k ty (Int32.ofNat n)) ty) : Ary Z h a ty (List.replicate n (defaultValue ty)) := by
  refine ⟨by simpa using q, k, defaultValue ty, ?_⟩
  have F := (Arv.new A (own_nat q).2.1).pad (pad_rep [] (defaultValue ty) n)
  simpa using F
theorem Ary.set (A : Ary Z h a ty vs) (hi : i < vs.length) (hj : j = Int32.ofNat i) (hv : fits ty v = true) (Wq : Wr h h' a j.toNatClampNeg v) : Ary Z h' a ty (vs.set i v) := by
  obtain ⟨q, k, d, cl, A, r1, r2, r3, H, G⟩ := A
  refine ⟨by simpa using q, k, d, ?_⟩
  rw [List.length_set]
  exact Arv.set A r1 r2 r3 H G hv Wq i (by rw [hj]; exact (own_nat (Nat.lt_trans hi q)).1) hi
theorem own_laload (X : Stand p l e R s m args below meth c T locs cells slots) (hx : p.tables.exec = Jvm.exec) (hZ : Z.Warmed39 s.vm) (eT : T.heap = h) (A : Ary Z h a .long vs) (hi : vs[i]? = some v) (hj : j = Int32.ofNat i) (hg : g.method = m) (hs : g.stack = .int j :: .ref a :: rest) (hd : decode c.code g.pc = .ok (.laload, 1))
    (k : Steps p.tables e below (T.setTop { g with pc := g.pc + 1, stack := v :: rest }) t) : Steps p.tables e below (T.setTop g) t := by
  obtain ⟨cl, h1, h2, h3⟩ := A.at hi hj
  exact X.laload hx (by rw [eT]; exact h1.1) (State.isArrayOf_alike hZ.alike h1.2.1) h1.2.2 h2 h3 hg hs hd _ k
theorem own_iaload (X : Stand p l e R s m args below meth c T locs cells slots) (hx : p.tables.exec = Jvm.exec) (hZ : Z.Warmed39 s.vm) (eT : T.heap = h) (A : Ary Z h a .int vs) (hi : vs[i]? = some v) (hj : j = Int32.ofNat i) (hg : g.method = m) (hs : g.stack = .int j :: .ref a :: rest) (hd : decode c.code g.pc = .ok (.iaload, 1))
    (k : Steps p.tables e below (T.setTop { g with pc := g.pc + 1, stack := v :: rest }) t) : Steps p.tables e below (T.setTop g) t := by
  obtain ⟨cl, h1, h2, h3⟩ := A.at hi hj
  exact X.iaload hx (by rw [eT]; exact h1.1) (State.isArrayOf_alike hZ.alike h1.2.1) h1.2.2 h2 h3 hg hs hd _ k
theorem own_caload (X : Stand p l e R s m args below meth c T locs cells slots) (hx : p.tables.exec = Jvm.exec) (hZ : Z.Warmed39 s.vm) (eT : T.heap = h) (A : Ary Z h a .char vs) (hi : vs[i]? = some v) (hj : j = Int32.ofNat i) (hg : g.method = m) (hs : g.stack = .int j :: .ref a :: rest) (hd : decode c.code g.pc = .ok (.caload, 1))
    (k : Steps p.tables e below (T.setTop { g with pc := g.pc + 1, stack := v :: rest }) t) : Steps p.tables e below (T.setTop g) t := by
  obtain ⟨cl, h1, h2, h3⟩ := A.at hi hj
  exact X.caload hx (by rw [eT]; exact h1.1) (State.isArrayOf_alike hZ.alike h1.2.1) h1.2.2 h2 h3 hg hs hd _ k
theorem own_baload (X : Stand p l e R s m args below meth c T locs cells slots) (hx : p.tables.exec = Jvm.exec) (hZ : Z.Warmed39 s.vm) (eT : T.heap = h) (A : Ary Z h a .byte vs) (hi : vs[i]? = some v) (hj : j = Int32.ofNat i) (hg : g.method = m) (hs : g.stack = .int j :: .ref a :: rest) (hd : decode c.code g.pc = .ok (.baload, 1))
    (k : Steps p.tables e below (T.setTop { g with pc := g.pc + 1, stack := v :: rest }) t) : Steps p.tables e below (T.setTop g) t := by
  obtain ⟨cl, h1, h2, h3⟩ := A.at hi hj
  exact X.baloadBytes hx (by rw [eT]; exact h1.1) (State.isArrayOf_alike hZ.alike h1.2.1) h1.2.2 h2 h3 hg hs hd _ k
theorem own_aaload (X : Stand p l e R s m args below meth c T locs cells slots) (hx : p.tables.exec = Jvm.exec) (hZ : Z.Warmed39 s.vm) (eT : T.heap = h) (A : Ary Z h a ty vs) (hty : ty.isReference = true) (hi : vs[i]? = some v) (hj : j = Int32.ofNat i) (hg : g.method = m) (hs : g.stack = .int j :: .ref a :: rest) (hd : decode c.code g.pc = .ok (.aaload, 1))
    (k : Steps p.tables e below (T.setTop { g with pc := g.pc + 1, stack := v :: rest }) t) : Steps p.tables e below (T.setTop g) t := by
  obtain ⟨cl, h1, h2, h3⟩ := A.at hi hj
  exact X.aaload hx (by rw [eT]; exact h1.1) (State.isArrayOf_alike hZ.alike h1.2.1) hty h1.2.2 h2 h3 hg hs hd _ k
theorem own_alen (X : Stand p l e R s m args below meth c T locs cells slots) (hx : p.tables.exec = Jvm.exec) (hZ : Z.Warmed39 s.vm) (eT : T.heap = h) (A : Ary Z h a ty vs) {n : Nat} (hn : vs.length = n) (hg : g.method = m) (hs : g.stack = .ref a :: rest) (hd : decode c.code g.pc = .ok (.arraylength, 1))
    (k : Steps p.tables e below (T.setTop { g with pc := g.pc + 1, stack := .int (Int32.ofNat n) :: rest }) t) : Steps p.tables e below (T.setTop g) t := by
  subst hn
  obtain ⟨q, k', d, cl, A, r1, r2, r3, H, G⟩ := A
  refine X.arraylength hx (by rw [eT]; exact A.1) (State.isArrayOf_alike hZ.alike A.2.1) hg hs hd _ ?_
  rw [len_of r2 r3]; exact k
theorem Go.lastore (X : Stand p l e R s m args below meth c T locs cells slots) (hx : p.tables.exec = Jvm.exec) (hZ : Z.Warmed39 s.vm) (eT : T.heap = h) (A : Ary Z h a .long vs) {x : Int64} (hi : i < vs.length) (hj : j = Int32.ofNat i) (hg : g.method = m) (hs : g.stack = .long x :: .int j :: .ref a :: rest) (hd : decode c.code g.pc = .ok (.lastore, 1))
    (k : ∀ (T' : State) (h' : Heap), Stand p l e R s m args below meth c T' (locs ++ [⟨a, j.toNatClampNeg⟩]) cells slots → T'.heap = h' → Wr h h' a j.toNatClampNeg (.long x) → Ary Z h' a .long (vs.set i (.long x)) → Go p e below W T' { g with pc := g.pc + 1, stack := rest }) : Go p e below W T g := by
  obtain ⟨cl, h1, h2⟩ := A.inb hi hj
  obtain ⟨T', h', X', e', W', st⟩ := stJ X hx hZ eT h1 h2 hg hs hd
  exact (k T' h' X' e' W' (A.set hi hj rfl W')).st st
theorem Go.iastore (X : Stand p l e R s m args below meth c T locs cells slots) (hx : p.tables.exec = Jvm.exec) (hZ : Z.Warmed39 s.vm) (eT : T.heap = h) (A : Ary Z h a .int vs) {x : Int32} (hi : i < vs.length) (hj : j = Int32.ofNat i) (hg : g.method = m) (hs : g.stack = .int x :: .int j :: .ref a :: rest) (hd : decode c.code g.pc = .ok (.iastore, 1))
    (k : ∀ (T' : State) (h' : Heap), Stand p l e R s m args below meth c T' (locs ++ [⟨a, j.toNatClampNeg⟩]) cells slots → T'.heap = h' → Wr h h' a j.toNatClampNeg (.int x) → Ary Z h' a .int (vs.set i (.int x)) → Go p e below W T' { g with pc := g.pc + 1, stack := rest }) : Go p e below W T g := by
  obtain ⟨cl, h1, h2⟩ := A.inb hi hj
  obtain ⟨T', h', X', e', W', st⟩ := stI X hx hZ eT h1 h2 hg hs hd
  exact (k T' h' X' e' W' (A.set hi hj rfl W')).st st
theorem Go.castore (X : Stand p l e R s m args below meth c T locs cells slots) (hx : p.tables.exec = Jvm.exec) (hZ : Z.Warmed39 s.vm) (eT : T.heap = h) (A : Ary Z h a .char vs) {x y : Int32} (hn : nar .char x = y) (hi : i < vs.length) (hj : j = Int32.ofNat i) (hg : g.method = m) (hs : g.stack = .int x :: .int j :: .ref a :: rest) (hd : decode c.code g.pc = .ok (.castore, 1))
    (k : ∀ (T' : State) (h' : Heap), Stand p l e R s m args below meth c T' (locs ++ [⟨a, j.toNatClampNeg⟩]) cells slots → T'.heap = h' → Wr h h' a j.toNatClampNeg (.int y) → Ary Z h' a .char (vs.set i (.int y)) → Go p e below W T' { g with pc := g.pc + 1, stack := rest }) : Go p e below W T g := by
  obtain ⟨cl, h1, h2⟩ := A.inb hi hj
  obtain ⟨T', h', X', e', W', st⟩ := stC X hx hZ eT h1 h2 hg hs hd
  rw [hn] at W'
  exact (k T' h' X' e' W' (A.set hi hj (hn ▸ fits_nar_char x) W')).st st
theorem Go.bastore (X : Stand p l e R s m args below meth c T locs cells slots) (hx : p.tables.exec = Jvm.exec) (hZ : Z.Warmed39 s.vm) (eT : T.heap = h) (A : Ary Z h a .byte vs) {x : Int32} (hi : i < vs.length) (hj : j = Int32.ofNat i) (hg : g.method = m) (hs : g.stack = .int x :: .int j :: .ref a :: rest) (hd : decode c.code g.pc = .ok (.bastore, 1))
    (k : ∀ (T' : State) (h' : Heap), Stand p l e R s m args below meth c T' (locs ++ [⟨a, j.toNatClampNeg⟩]) cells slots → T'.heap = h' → Wr h h' a j.toNatClampNeg (.int x.toInt8.toInt32) → Ary Z h' a .byte (vs.set i (.int x.toInt8.toInt32)) → Go p e below W T' { g with pc := g.pc + 1, stack := rest }) : Go p e below W T g := by
  obtain ⟨cl, h1, h2⟩ := A.inb hi hj
  obtain ⟨T', h', X', e', W', st⟩ := stB X hx hZ eT h1 h2 hg hs hd
  exact (k T' h' X' e' W' (A.set hi hj (fits_nar_byte x) W')).st st
theorem Go.newP (X : Stand p l e R s m args below meth c T locs cells slots) (hx : p.tables.exec = Jvm.exec) (hZ : Z.Warmed39 s.vm) {aty : ArrayType} (w : (Jvm.Cond.arrayClass (newarray.typeOf aty)).before a0 Z = true) (eT : T.heap = h) (hg : g.method = m) (hd : decode c.code g.pc = .ok (.newarray aty, 2)) {j : Int32} {n : Nat} (hs : g.stack = .int j :: rest) (hj : j = Int32.ofNat n)
    (cap : Nat) (hcap : n ≤ cap) (hb : cap * 8 ≤ 536870912) (hc : cells + 1 ≤ R.cells) (hl : slots + cap ≤ R.slots)
    (k : ∀ (T' : State) (h' : Heap) (b : Addr), Stand p l e R s m args below meth c T' locs (cells + 1) (slots + cap) → T'.heap = h' → Ext h h' → b = h.size → Ary Z h' b (newarray.typeOf aty) (List.replicate n (defaultValue (newarray.typeOf aty))) → Go p e below W T' { g with pc := g.pc + 2, stack := .ref b :: rest }) : Go p e below W T g := by
  have q : n < 2 ^ 31 := by omega
  have n1 := own_nat q
  subst hj
  obtain ⟨T', h', cA, X', e', E', A', st⟩ := RoadKit.newP X hx hZ w eT hg hd hs n1.2.1 (cap := cap) (by rw [n1.1]; exact hcap) hb hc hl
  exact (k T' h' _ X' e' E' rfl (own_new q A')).st st
end OwnA

/-! own prelude, literals: walks that may load String constants (ldc), with what the constants hold (CHv of the library) -/
def HS (Z : State) (EL : List (String × Nat)) (s : State) (h0 : Heap) (vm : Vm) (h : Heap) : Prop := (∃ k, s.Since vm k ∧ k ≤ h.size) ∧ CHr Z EL s.vm h0 vm h
def WfH (Z : State) (EL : List (String × Nat)) (s : State) (rc rs : Nat) (Q : Option Value → Heap → List Loc → Prop) (o : Outcome) (t : State) : Prop := ∃ v L, o = .returned v ∧ Q v t.heap L ∧ CHr Z EL s.vm s.heap t.vm t.heap ∧ ReturnedEndW s o t L rc rs
def MtH (l : Launch) (Z : State) (EL : List (String × Nat)) (y : MethodName) (bytes : ByteArray) (ml : Nat) (ret : Option FieldType) (ws : List Jvm.Cond) (rm : Room) (as' : Array Value) (h0 : Heap) (Q : Option Value → Heap → List Loc → Prop) : Prop :=
  MetFree l y (head1 (Jvm.Cond.code y bytes ml ret :: ws) rm) (fun a U => a = as' ∧ Z.Warmed39 U.vm ∧ U.heap = h0 ∧ CHv Z EL U.vm h0) (fun _ _ _ _ _ => True) (fun _ U o U' => ∃ v L, o = .returned v ∧ Q v U'.heap L ∧ CHr Z EL U.vm U.heap U'.vm U'.heap ∧ ReturnedEndW U o U' L rm.cells rm.slots)
section OwnH
variable {p : Program} {l : Launch} {e : Env} {R : Room} {s : State} {m : MethodId} {args : Array Value} {below : List Frame} {meth : Method} {c : Code} {T T' : State} {locs : List Loc} {cells slots : Nat} {Z : State} {a0 : Array Value} {h h' h0 : Heap} {EL : List (String × Nat)} {vm0 : Vm} {g : JFrame} {W : Outcome → State → Prop} {Q Q' : Option Value → Heap → List Loc → Prop} {rc rs : Nat} {a x : Addr} {sl : Nat} {v : Value} {ws : List Addr} {rm : Room} {as' : Array Value}
theorem HS.ext (H : HS Z EL s h0 vm0 h) (E : Ext h h') : HS Z EL s h0 vm0 h' := ⟨by obtain ⟨k, a, b⟩ := H.1; exact ⟨k, a, Nat.le_trans b E.1⟩, H.2.trans (CHr.ext E H.2.1)⟩
theorem HS.wr (H : HS Z EL s h0 vm0 h) (Wq : Wr h h' a sl v) (S : Safe Z EL vm0 h a) : HS Z EL s h0 vm0 h' := ⟨by obtain ⟨k, q, b⟩ := H.1; exact ⟨k, q, by rw [Wq.size]; exact b⟩, H.2.trans (CHr.wr Wq S H.2.1)⟩
theorem HS.keep (H : HS Z EL s h0 vm0 h) (K : Keep h h' ws) (hs : ∀ x ∈ ws, Safe Z EL vm0 h x) : HS Z EL s h0 vm0 h' := ⟨by obtain ⟨k, q, b⟩ := H.1; exact ⟨k, q, Nat.le_trans b K.1⟩, H.2.trans (CHr.keep K hs H.2.1)⟩
theorem own_arySafe {ty : FieldType} {vs : List Value} (hal : Z.vm.Alike vm0) (A : Ary Z h x ty vs) (ht : ty ≠ .byte) : Safe Z EL vm0 h x := by obtain ⟨-, k, d, F⟩ := A; exact Safe.arv hal F ht
/-- no literal's cell, and there -/
def Sf (Z : State) (EL : List (String × Nat)) (vm : Vm) (h : Heap) (x : Addr) : Prop := Safe Z EL vm h x ∧ x < h.size
theorem Sf.ext (H : HS Z EL s h0 vm0 h) (E : Ext h h') (S : Sf Z EL vm0 h x) : Sf Z EL vm0 h' x := ⟨Safe.ext E H.2.1 S.1, Nat.lt_of_lt_of_le S.2 E.1⟩
theorem Sf.wr (H : HS Z EL s h0 vm0 h) (Wq : Wr h h' a sl v) (Sa : Safe Z EL vm0 h a) (S : Sf Z EL vm0 h x) : Sf Z EL vm0 h' x := ⟨Safe.wr Wq Sa H.2.1 S.1, by rw [Wq.size]; exact S.2⟩
theorem Sf.keep (H : HS Z EL s h0 vm0 h) (K : Keep h h' ws) (hs : ∀ x ∈ ws, Safe Z EL vm0 h x) (S : Sf Z EL vm0 h x) : Sf Z EL vm0 h' x := ⟨Safe.keep K hs H.2.1 S.1, Nat.lt_of_lt_of_le S.2 K.1⟩
theorem Sf.vm {vm1 : Vm} (hz : h.size ≤ h'.size) (C : ∀ x, x < h.size → Safe Z EL vm0 h x → Safe Z EL vm1 h' x) (S : Sf Z EL vm0 h x) : Sf Z EL vm1 h' x := ⟨C x S.2 S.1, Nat.lt_of_lt_of_le S.2 hz⟩
theorem Sf.born (H : HS Z EL s h0 vm0 h) (E : Ext h h') (q : x = h.size) (lt : x < h'.size) : Sf Z EL vm0 h' x := ⟨Safe.ext E H.2.1 (Safe.new (Nat.le_of_eq q.symm)), lt⟩
theorem Sf.bornK (H : HS Z EL s h0 vm0 h) (K : Keep h h' ws) (hs : ∀ x ∈ ws, Safe Z EL vm0 h x) (hz : h.size ≤ x) (lt : x < h'.size) : Sf Z EL vm0 h' x := ⟨Safe.keep K hs H.2.1 (Safe.new hz), lt⟩
/-- a String that has no bytes yet is no literal's -/
theorem own_nullSafe {vm : Vm} (hal : Z.vm.Alike vm) (E : Exa Z h x "java/lang/String") (Fv : Fld Z h x "java/lang/String" "value" "[B" .null) : Safe Z EL vm h x := fun B => by
  obtain ⟨p, -, u, a, -, q, -, F, e | e⟩ := B
  · have ha : h[q.sa]? = some q.sC := F.ha
    obtain ⟨cS, ⟨⟨-, -, -, ⟨c1, k1, i1, f1, -⟩, -, -, -, v1, -⟩, -⟩, -⟩ := F
    obtain ⟨cell, cf, k, i, f, g1, g2, -, -, -, -, g7⟩ := Fv
    rw [e] at g1
    cases ha.symm.trans g1
    obtain ⟨k3, e3, -⟩ := State.fieldFound?_setVm (s := Z) hal g2
    have e4 := (show (Wst Z vm h).fieldFound? _ _ _ = _ from e3).symm.trans f1
    simp only [Option.some.injEq, Prod.mk.injEq] at e4
    rw [← e4.2.2.2, g7] at v1
    simp at v1
  · have hd : h[q.sd]? = some q.SA := F.hd
    obtain ⟨cell, k, e1, e2, e3, -, -⟩ := E
    rw [e] at e1
    cases hd.symm.trans e1
    obtain ⟨cS, -, -, f, -⟩ := F
    have f' : vm.findClass "[B" = some q.SA.cls := f
    rw [hal.findClass] at f'
    obtain ⟨k1, q1, q2⟩ := Vm.findClass_spec f'
    obtain ⟨k2, q3, q4⟩ := Vm.findClass_spec e2
    cases q1.symm.trans q3
    exact absurd (q2.symm.trans q4) (by decide)
theorem MtH.body {y : MethodName} {bytes : ByteArray} {ml : Nat} {ret : Option FieldType} {ws : List Jvm.Cond} (hpn : plainFor y = true)
    (body : ∀ (p : Program) (e : Env) (s : State) (m : MethodId) (below : List Frame) (meth : Method) (c : Code) (s₁ : State), p.tables.exec = Jvm.exec → c.code = bytes → c.maxLocals = ml → s.vm.findClass y.cls = some m.cls → meth.name = y.name → meth.sig.returnType = ret → meth.locks = false →
      Z.Warmed39 s.vm → Stand p l e rm (s.setVm s.vm) m as' below meth c s₁ [] 0 0 → s₁.heap = h0 → HS Z EL s s.heap s.vm h0 → Go p e below (WfH Z EL s rm.cells rm.slots Q) s₁ (entryFrame m as' ml)) : MtH l Z EL y bytes ml ret ws rm as' h0 Q := by
  refine MetFree.of_bodySF hpn hisR ?_
  intro p e s m args below meth c s₁ Bd hml0 hP hK
  obtain ⟨rfl, hZ, hh, hH⟩ := hP
  have := body p e s m below meth c s₁ Bd.exec Bd.bytes hml0 (findClass_of_methodNamed Bd.named) (name_of_methodNamed Bd.named Bd.method).1 Bd.returns Bd.notSynchronized hZ (Stand.of_body Bd) (by rw [← hh, Bd.state]; rfl) ⟨⟨h0.size, (State.WarmedH.refl s).since _, Nat.le_refl _⟩, by rw [hh]; exact CHr.refl hH⟩
  obtain ⟨s₂, o, h1, h2, h3, v, L, h4, h5, h6, h7⟩ := this
  exact ⟨s₂, o, h1, h2, h3, v, L, h4, h5, h6, h7⟩
theorem own_endH (X : Stand p l e R (s.setVm vm0) m args below meth c T locs cells slots) (hZ : Z.Warmed39 vm0) (hEL : EW Z a0 EL) (H : HS Z EL s s.heap vm0 T.heap) (hc : cells ≤ rc) (hs : slots ≤ rs) {fs : List Frame} {v : Option Value} (hr : ReturnedEndW s (.returned v) (T.setFrames fs) locs cells slots) (hq : Q v T.heap locs) : WfH Z EL s rc rs Q (.returned v) (T.setFrames fs) := by
  have q : CHr Z EL vm0 T.heap T.vm T.heap := CHv.at X hZ hEL H.2.1
  have q2 : CHr Z EL s.vm s.heap T.vm T.heap := H.2.trans q
  exact ⟨v, locs, rfl, hq, q2, hr.1, hr.2.1, hr.2.2.1, hr.2.2.2.mono hc hs⟩
theorem Go.retVH (X : Stand p l e R (s.setVm vm0) m args below meth c T locs cells slots) (hx : p.tables.exec = Jvm.exec) (hlk : meth.locks = false) (hret : meth.sig.returnType = none) {pc : Nat} {Ls : Array Slot} (hd : decode c.code pc = .ok (.return_, 1)) (hc : cells ≤ rc) (hs : slots ≤ rs) (hZ : Z.Warmed39 vm0) (hEL : EW Z a0 EL) (H : HS Z EL s s.heap vm0 T.heap) (hq : Q none T.heap locs) : Go p e below (WfH Z EL s rc rs Q) T (mkF m pc Ls []) := by
  obtain ⟨k, hS, hk⟩ := H.1
  obtain ⟨fs, hr, hrun, hended, hE⟩ := X.leaveW (v := none) hS hk (fun _ => rfl) hlk
  exact ⟨_, _, X.returnOut hx hret hd hr, hrun, hended, own_endH X hZ hEL H hc hs hE hq⟩
theorem Go.retAH (X : Stand p l e R (s.setVm vm0) m args below meth c T locs cells slots) (hx : p.tables.exec = Jvm.exec) (hlk : meth.locks = false) {t : FieldType} (hret : meth.sig.returnType = some t) (ht : t.isReference = true) {pc : Nat} {Ls : Array Slot} {v : Value} (hv : v.isRef = true) {st : List Value} (hd : decode c.code pc = .ok (.areturn, 1)) (hc : cells ≤ rc) (hs : slots ≤ rs) (hZ : Z.Warmed39 vm0) (hEL : EW Z a0 EL) (H : HS Z EL s s.heap vm0 T.heap) (hq : Q (some v) T.heap locs) : Go p e below (WfH Z EL s rc rs Q) T (mkF m pc Ls (v :: st)) := by
  obtain ⟨k, hS, hk⟩ := H.1
  obtain ⟨fs, hr, hrun, hended, hE⟩ := X.leaveW (v := some v) hS hk (fun h => by rw [hret] at h; cases h) hlk
  exact ⟨_, _, own_retA X hx hv hret ht hd hr, hrun, hended, own_endH X hZ hEL H hc hs hE hq⟩
theorem Go.retIH (X : Stand p l e R (s.setVm vm0) m args below meth c T locs cells slots) (hx : p.tables.exec = Jvm.exec) (hlk : meth.locks = false) (hret : meth.sig.returnType = some .int) {pc : Nat} {Ls : Array Slot} {z : Int32} {st : List Value} (hd : decode c.code pc = .ok (.ireturn, 1)) (hc : cells ≤ rc) (hs : slots ≤ rs) (hZ : Z.Warmed39 vm0) (hEL : EW Z a0 EL) (H : HS Z EL s s.heap vm0 T.heap) (hq : Q (some (.int z)) T.heap locs) : Go p e below (WfH Z EL s rc rs Q) T (mkF m pc Ls (.int z :: st)) := by
  obtain ⟨k, hS, hk⟩ := H.1
  obtain ⟨fs, hr, hrun, hended, hE⟩ := X.leaveW (v := some (.int z)) hS hk (fun h => by rw [hret] at h; cases h) hlk
  exact ⟨_, _, own_retI X hx hret hd hr, hrun, hended, own_endH X hZ hEL H hc hs hE hq⟩
theorem Go.retNH (X : Stand p l e R (s.setVm vm0) m args below meth c T locs cells slots) (hx : p.tables.exec = Jvm.exec) (hlk : meth.locks = false) {t : FieldType} (hret : meth.sig.returnType = some t) (ht : t = .boolean ∨ t = .byte ∨ t = .char ∨ t = .short) {pc : Nat} {Ls : Array Slot} {z z' : Int32} {st : List Value} (hn : narrow t (.int z) = .int z') (hd : decode c.code pc = .ok (.ireturn, 1)) (hc : cells ≤ rc) (hs : slots ≤ rs) (hZ : Z.Warmed39 vm0) (hEL : EW Z a0 EL) (H : HS Z EL s s.heap vm0 T.heap) (hq : Q (some (.int z')) T.heap locs) : Go p e below (WfH Z EL s rc rs Q) T (mkF m pc Ls (.int z :: st)) := by
  obtain ⟨k, hS, hk⟩ := H.1
  obtain ⟨fs, hr, hrun, hended, hE⟩ := X.leaveW (v := some (.int z')) hS hk (fun h => by rw [hret] at h; cases h) hlk
  refine ⟨_, _, ?_, hrun, hended, own_endH X hZ hEL H hc hs hE hq⟩
  have hm' : T.vm.method? m = some meth := X.method'
  show Steps p.tables e below (T.setTop { method := m, pc := pc, locals := Ls, stack := _ :: st, locked := none }) _
  rcases ht with rfl | rfl | rfl | rfl
  all_goals
    jvm_step X.here [X.here.top, hx, hd, hm', hret, hn]
    first | (intro acts; rw [hr _ acts rfl rfl rfl]) | rw [hr _ _ rfl rfl rfl]
    exact Steps.refl _
theorem Go.ldcH (X : Stand p l e R (s.setVm vm0) m args below meth c T locs cells slots) (hx : p.tables.exec = Jvm.exec) (hZ : Z.Warmed39 vm0) {own text : String} {index : Nat} (hown : vm0.findClass own = some m.cls) (w : (Jvm.Cond.stringLink own index text).before a0 Z = true) (wS : ∀ a ∈ Bundle.stringAtoms, a.before a0 Z = true)
    (eT : T.heap = h) (H : HS Z EL s h0 vm0 h) (hEL : EW Z a0 EL) (hmem : (own, index) ∈ EL) {vs : List Value} (ht : (∀ c ∈ text.toList, c.toNat < 256) ∧ text.toList.map (fun c => Value.int (Jvm.Lit.byteI c.toNat.toUInt16)) = vs) (hvl : vs.length < 2 ^ 31)
    (hg : g.method = m) (hd : decode c.code g.pc = .ok (.ldc index, 2)) (n : Nat) (hn : 4 * text.toList.length ≤ n) (hbig : n ≤ 536870912) (hc : cells + 2 ≤ R.cells) (hl' : slots + (n + 4) ≤ R.slots)
    (k : ∀ (a b : Addr) (T' : State) (h' : Heap), Stand p l e R (s.setVm T'.vm) m args below meth c T' locs (cells + 2) (slots + (n + 4)) → T'.heap = h' → Ext h h' → Z.Warmed39 T'.vm → T'.vm.findClass own = some m.cls → HS Z EL s h0 T'.vm h' →
      Exa Z h' a "java/lang/String" → Fld Z h' a "java/lang/String" "coder" "B" (.int 0) → Fld Z h' a "java/lang/String" "value" "[B" (.ref b) → Ary Z h' b .byte vs → (∀ x, x < h.size → Safe Z EL vm0 h x → Safe Z EL T'.vm h' x) → (∀ x, Safe Z EL T'.vm h' x → x ≠ a ∧ x ≠ b) →
      Go p e below W T' { g with pc := g.pc + 2, stack := .ref a :: g.stack }) : Go p e below W T g := by
  obtain ⟨k0, hS, hk⟩ := H.1
  have n1 := own_nat hvl
  obtain ⟨a, T', h', k1, b, kk, X', e', E', hS', hk', hZ', ho', A1, F1, F2, V1, -, -, C1, -, D1, st⟩ := ldcCH X hx hZ hown w wS eT hS hk hEL hmem H.2.1 ht n1.2.1 n1.1 hg hd hn hbig hc hl'
  exact (k a b T' h' X' e' E' hZ' ho' ⟨⟨k1, hS', hk'⟩, H.2.trans C1⟩ A1 F1 F2 ⟨hvl, kk, _, V1⟩ (fun x hx' S => C1.safe hx' S) D1).st st
theorem Go.callNH (X : Stand p l e R (s.setVm vm0) m args below meth c T locs cells slots) (hx : p.tables.exec = Jvm.exec) (hZ : Z.Warmed39 vm0) {own : String} {index : Nat} {y : MethodName} {bytes : ByteArray} {maxL : Nat} (hy1 : y.name = "<init>") (hown : vm0.findClass own = some m.cls)
    (w1 : (Jvm.Cond.methodLink own index y).before a0 Z = true) (w2 : (Jvm.Cond.instanceMethod y).before a0 Z = true) (w3 : (Jvm.Cond.initialized y.cls).before a0 Z = true) (w4 : (Jvm.Cond.code y bytes maxL none).before a0 Z = true) (hy : y.cls ≠ "java/lang/invoke/MethodHandle" ∧ y.cls ≠ "java/lang/invoke/VarHandle") (Wd : Nat) (H : HS Z EL s h0 vm0 h) (hEL : EW Z a0 EL)
    (hM : MtH l Z EL y bytes maxL none [] rm as' h Q') (eT : T.heap = h) (hf : rm.frames + 1 ≤ R.frames) (hl : Wd + (maxL + 11) + rm.locals ≤ R.locals) (hc : cells + rm.cells ≤ R.cells) (hs : slots + rm.slots ≤ R.slots)
    {a : Addr} {argsL rest : List Value} (hg : g.method = m) (hsize : g.locals.size = c.maxLocals) (hlen : ∀ sig, parseMethodDescriptor y.desc = some sig → argsL.length = sig.parameters.length) (hstack : g.stack = argsL.reverse ++ .ref a :: rest) (ha : (Value.ref a :: argsL).toArray = as') (hWd : 2 * g.monitorRoom + (rest.map fun v => v.category).sum ≤ Wd) (hd : decode c.code g.pc = .ok (.invokespecial index, 3))
    (k : ∀ (v : Option Value) (T' : State) (L : List Loc), Stand p l e R (s.setVm T'.vm) m args below meth c T' (locs ++ L) (cells + rm.cells) (slots + rm.slots) → Q' v T'.heap L → Z.Warmed39 T'.vm → T'.vm.findClass own = some m.cls → HS Z EL s h0 T'.vm T'.heap → (∀ x, x < h.size → Safe Z EL vm0 h x → Safe Z EL T'.vm T'.heap x) → Go p e below W T' { g with pc := g.pc + 3, stack := v.toList ++ rest }) : Go p e below W T g := by
  obtain ⟨k0, hS, hk⟩ := H.1
  obtain ⟨v, vm₁, ⟨T1, L1, c1, n1⟩, -, X1, hS1, hg1, hP, st⟩ := X.specialBackS hx hy1 hown (mvT (s := s.setVm vm0) hZ w1) (mvT (s := s.setVm vm0) hZ w2) (mvT (s := s.setVm vm0) hZ w4) hy (backOfSH (W := Wd) (a0 := a0) hM hZ w4 w3 hf hl hEL H.2.1) hg hsize (Steps.refl _) hlen hstack hWd hd (fun _ _ => ⟨ha, eT, hc, hs⟩)
  obtain ⟨L, hQ, e1, e2, e3, C1⟩ := hP
  dsimp only [Pt.U, Pt.locs, Pt.cells, Pt.slots] at X1 e1 e2 e3 hQ C1 hS1 hg1 st
  subst e1 e2 e3
  have hW1 : Z.Warmed39 T1.vm := State.Warmed39.trans (t := s.setVm vm0) hZ hS1.1
  exact (k v T1 L X1 hQ hW1 (by rw [hS1.1.alike.findClass]; exact hown) ⟨⟨_, hS.trans hS1 (Nat.le_trans hk (by rw [← eT]; exact hg1)), Nat.le_refl _⟩, H.2.trans C1⟩ (fun x hx' S => C1.safe hx' S)).st fun _ q => st.trans q
theorem Go.callSH (X : Stand p l e R (s.setVm vm0) m args below meth c T locs cells slots) (hx : p.tables.exec = Jvm.exec) (hZ : Z.Warmed39 vm0) {own : String} {index : Nat} {y : MethodName} {bytes : ByteArray} {maxL : Nat} {ret : Option FieldType} (hown : vm0.findClass own = some m.cls)
    (w1 : (Jvm.Cond.methodLink own index y).before a0 Z = true) (w2 : (Jvm.Cond.static y).before a0 Z = true) (w3 : (Jvm.Cond.initialized y.cls).before a0 Z = true) (w4 : (Jvm.Cond.code y bytes maxL ret).before a0 Z = true) (hy : y.cls ≠ "java/lang/invoke/MethodHandle" ∧ y.cls ≠ "java/lang/invoke/VarHandle") (Wd : Nat) (H : HS Z EL s h0 vm0 h) (hEL : EW Z a0 EL)
    (hM : MtH l Z EL y bytes maxL ret [] rm as' h Q') (eT : T.heap = h) (hf : rm.frames + 1 ≤ R.frames) (hl : Wd + (maxL + 11) + rm.locals ≤ R.locals) (hc : cells + rm.cells ≤ R.cells) (hs : slots + rm.slots ≤ R.slots)
    {argsL rest : List Value} (hg : g.method = m) (hsize : g.locals.size = c.maxLocals) (hlen : ∀ sig, parseMethodDescriptor y.desc = some sig → argsL.length = sig.parameters.length) (hstack : g.stack = argsL.reverse ++ rest) (ha : argsL.toArray = as') (hWd : 2 * g.monitorRoom + (rest.map fun v => v.category).sum ≤ Wd) (hd : decode c.code g.pc = .ok (.invokestatic index, 3))
    (k : ∀ (v : Option Value) (T' : State) (L : List Loc), Stand p l e R (s.setVm T'.vm) m args below meth c T' (locs ++ L) (cells + rm.cells) (slots + rm.slots) → Q' v T'.heap L → Z.Warmed39 T'.vm → T'.vm.findClass own = some m.cls → HS Z EL s h0 T'.vm T'.heap → (∀ x, x < h.size → Safe Z EL vm0 h x → Safe Z EL T'.vm T'.heap x) → Go p e below W T' { g with pc := g.pc + 3, stack := v.toList ++ rest }) : Go p e below W T g := by
  obtain ⟨k0, hS, hk⟩ := H.1
  obtain ⟨v, vm₁, ⟨T1, L1, c1, n1⟩, -, X1, hS1, hg1, hP, st⟩ := callSS X hx hown (mvT (s := s.setVm vm0) hZ w1) (mvT (s := s.setVm vm0) hZ w2) (mvT (s := s.setVm vm0) hZ w3) (mvT (s := s.setVm vm0) hZ w4) hy (backOfSH (W := Wd) (a0 := a0) hM hZ w4 w3 hf hl hEL H.2.1) hg hsize hlen hstack hWd hd (fun _ _ => ⟨ha, eT, hc, hs⟩)
  obtain ⟨L, hQ, e1, e2, e3, C1⟩ := hP
  dsimp only [Pt.U, Pt.locs, Pt.cells, Pt.slots] at X1 e1 e2 e3 hQ C1 hS1 hg1 st
  subst e1 e2 e3
  have hW1 : Z.Warmed39 T1.vm := State.Warmed39.trans (t := s.setVm vm0) hZ hS1.1
  exact (k v T1 L X1 hQ hW1 (by rw [hS1.1.alike.findClass]; exact hown) ⟨⟨_, hS.trans hS1 (Nat.le_trans hk (by rw [← eT]; exact hg1)), Nat.le_refl _⟩, H.2.trans C1⟩ (fun x hx' S => C1.safe hx' S)).st fun _ q => st.trans q
end OwnH

/-! own prelude: private and super calls, arraycopy -/
section OwnC
variable {p : Program} {l : Launch} {e : Env} {R : Room} {s : State} {m : MethodId} {args : Array Value} {below : List Frame} {meth : Method} {c : Code} {T T' : State} {locs : List Loc} {cells slots : Nat} {Z : State} {a0 : Array Value} {h h' h0 : Heap} {g : JFrame} {W : Outcome → State → Prop} {Q Q' : Option Value → Heap → List Loc → Prop} {rc rs : Nat} {rm : Room} {as' : Array Value}
theorem own_notFace {y y1 : MethodName} (h1 : NotFace s y1) (hn : ∃ r, s.methodNamed? y1 = some r) (hc : y1.cls = y.cls) : NotFace s y := fun r0 q0 => by
  obtain ⟨r, hr⟩ := hn
  obtain ⟨kr, k1, k2⟩ := h1 r hr
  have a := findClass_of_methodNamed hr
  have b := findClass_of_methodNamed q0
  rw [hc] at a
  have : r.cls = r0.cls := Option.some.inj (a.symm.trans b)
  exact ⟨kr, this ▸ k1, k2⟩
theorem own_same {y : MethodName} (w : (Jvm.Cond.instanceMethod y).before a0 Z = true) (hy : y.cls ≠ "java/lang/invoke/MethodHandle" ∧ y.cls ≠ "java/lang/invoke/VarHandle") (nf : NotFace Z y) : (Jvm.Cond.sameMethod y.cls y.cls y.name y.desc).before a0 Z = true := by
  obtain ⟨mk, methM, hnamed, hmethM, -, -⟩ := Cond.instanceMethod_spec w
  have hfound := State.methodFound?_of_named hnamed hy
  obtain ⟨kr, k1, k2⟩ := nf mk hnamed
  have hc := findClass_of_methodNamed hnamed
  have hn' : Z.methodNamed? ⟨y.cls, y.name, y.desc⟩ = some mk := hnamed
  simp [Cond.before, Cond.holds, Cond.value, hc, hfound, hn', k1, k2]
theorem Go.callP (X : Stand p l e R s m args below meth c T locs cells slots) (hx : p.tables.exec = Jvm.exec) (hZ : Z.Warmed39 s.vm) {own C : String} {index : Nat} {y : MethodName} {bytes : ByteArray} {maxL : Nat} {ret : Option FieldType} (hown : s.vm.findClass own = some m.cls)
    (w1 : (Jvm.Cond.methodLink own index y).before a0 Z = true) (w2 : (Jvm.Cond.instanceMethod y).before a0 Z = true) (w3 : (Jvm.Cond.selects C y y).before a0 Z = true) (wp : (Jvm.Cond.privateMethod y).before a0 Z = true) (w5 : (Jvm.Cond.initialized y.cls).before a0 Z = true) (w6 : (Jvm.Cond.code y bytes maxL ret).before a0 Z = true) (hy : y.cls ≠ "java/lang/invoke/MethodHandle" ∧ y.cls ≠ "java/lang/invoke/VarHandle") (Wd : Nat)
    (hM : Mt l Z y bytes maxL ret [] rm as' h Q') (eT : T.heap = h) (hf : rm.frames + 1 ≤ R.frames) (hl : Wd + (maxL + 11) + rm.locals ≤ R.locals) (hc : cells + rm.cells ≤ R.cells) (hs : slots + rm.slots ≤ R.slots)
    {b : Addr} {K : String} (E : Exa Z h b K) {argsL rest : List Value} (hg : g.method = m) (hsize : g.locals.size = c.maxLocals) (hlen : ∀ sig, parseMethodDescriptor y.desc = some sig → argsL.length = sig.parameters.length) (hstack : g.stack = argsL.reverse ++ .ref b :: rest) (ha : (Value.ref b :: argsL).toArray = as') (hWd : 2 * g.monitorRoom + (rest.map fun v => v.category).sum ≤ Wd) (hd : decode c.code g.pc = .ok (.invokevirtual index, 3))
    (k : ∀ (v : Option Value) (T' : State) (L : List Loc), Stand p l e R s m args below meth c T' (locs ++ L) (cells + rm.cells) (slots + rm.slots) → Q' v T'.heap L → Go p e below W T' { g with pc := g.pc + 3, stack := v.toList ++ rest }) : Go p e below W T g := by
  have hp : s.PrivateAt y := Cond.privateMethod_at (mvP (args := #[]) hZ wp)
  obtain ⟨c2, r2, m2, -, -, q3, -, kP, hkP, hkPi⟩ := Cond.selects_spec (mvT (args := args) hZ w3)
  have hself : (Jvm.Cond.selects y.cls y y).before args s = true := selects_self_of_private (findClass_of_methodNamed q3) hkP hkPi hp (mvT hZ w2) hy
  obtain ⟨cell, z1, z2⟩ := E.cell
  obtain ⟨v, vm₁, ⟨T1, L1, c1, n1⟩, -, X1, hP, st⟩ := X.privateBack hx hown (mvT hZ w1) (mvT hZ w2) hself hp (mvT hZ w6) hy (backOf (W := Wd) hM hZ w6 w5 hf hl) hg hsize (Steps.refl _) (a := b) (by rw [eT]; exact z1) z2 hlen hstack hWd hd (fun _ _ => ⟨ha, eT, hc, hs⟩)
  obtain ⟨L, hQ, e1, e2, e3⟩ := hP
  dsimp only [Pt.U, Pt.locs, Pt.cells, Pt.slots] at X1 e1 e2 e3 hQ st
  subst e1 e2 e3
  exact (k v T1 L X1 hQ).st fun _ q => st.trans q
theorem Go.callU (X : Stand p l e R s m args below meth c T locs cells slots) (hx : p.tables.exec = Jvm.exec) (hZ : Z.Warmed39 s.vm) {own : String} {index : Nat} {y : MethodName} {bytes : ByteArray} {maxL : Nat} {ret : Option FieldType} (hown : s.vm.findClass own = some m.cls)
    (w1 : (Jvm.Cond.methodLink own index y).before a0 Z = true) (w2 : (Jvm.Cond.sameMethod y.cls y.cls y.name y.desc).before a0 Z = true) (w3 : (Jvm.Cond.instanceMethod y).before a0 Z = true) (w4 : (Jvm.Cond.superclass own y.cls).before a0 Z = true) (w5 : (Jvm.Cond.initialized y.cls).before a0 Z = true) (w6 : (Jvm.Cond.code y bytes maxL ret).before a0 Z = true) (hn : y.name ≠ "<init>") (Wd : Nat)
    (hM : Mt l Z y bytes maxL ret [] rm as' h Q') (eT : T.heap = h) (hf : rm.frames + 1 ≤ R.frames) (hl : Wd + (maxL + 11) + rm.locals ≤ R.locals) (hc : cells + rm.cells ≤ R.cells) (hs : slots + rm.slots ≤ R.slots)
    {b : Addr} {K : String} (E : Exa Z h b K) {argsL rest : List Value} (hg : g.method = m) (hsize : g.locals.size = c.maxLocals) (hlen : ∀ sig, parseMethodDescriptor y.desc = some sig → argsL.length = sig.parameters.length) (hstack : g.stack = argsL.reverse ++ .ref b :: rest) (ha : (Value.ref b :: argsL).toArray = as') (hWd : 2 * g.monitorRoom + (rest.map fun v => v.category).sum ≤ Wd) (hd : decode c.code g.pc = .ok (.invokespecial index, 3))
    (k : ∀ (v : Option Value) (T' : State) (L : List Loc), Stand p l e R s m args below meth c T' (locs ++ L) (cells + rm.cells) (slots + rm.slots) → Q' v T'.heap L → Go p e below W T' { g with pc := g.pc + 3, stack := v.toList ++ rest }) : Go p e below W T g := by
  obtain ⟨v, vm₁, ⟨T1, L1, c1, n1⟩, -, X1, hP, st⟩ := superBack X hx hZ hown w1 w2 w3 w4 hn (backOf (W := Wd) hM hZ w6 w5 hf hl) eT (Ins.self E) hg hsize w6 hlen hstack hWd hd (fun _ _ => ⟨ha, eT, hc, hs⟩)
  obtain ⟨L, hQ, e1, e2, e3⟩ := hP
  dsimp only [Pt.U, Pt.locs, Pt.cells, Pt.slots] at X1 e1 e2 e3 hQ st
  subst e1 e2 e3
  exact (k v T1 L X1 hQ).st fun _ q => st.trans q
theorem Go.acopy (X : Stand p l e R s m args below meth c T locs cells slots) (hx : p.tables.exec = Jvm.exec) (hZ : Z.Warmed39 s.vm) {own : String} {index : Nat} (hown : s.vm.findClass own = some m.cls)
    (w1 : (Jvm.Cond.methodLink own index Jvm.Stand.acN).before a0 Z = true) (w2 : (Jvm.Cond.native Jvm.Stand.acN).before a0 Z = true) (w3 : (Jvm.Cond.static Jvm.Stand.acN).before a0 Z = true) (w4 : (Jvm.Cond.initialized "java/lang/System").before a0 Z = true) (eT : T.heap = h)
    {a b : Addr} {ty : FieldType} {vs vd us : List Value} (A : Ary Z h a ty vs) (B : Ary Z h b ty vd) (hp : refKind ty = false) {jn jd js : Int32} {sp dp nn : Nat} (hjn : jn = Int32.ofNat nn) (hjd : jd = Int32.ofNat dp) (hjs : js = Int32.ofNat sp) (h4 : sp + nn ≤ vs.length) (h5 : dp + nn ≤ vd.length)
    (hu : vd.take dp ++ (List.range nn).map (fun i => vs.getD (sp + i) (.int 0)) ++ vd.drop (dp + nn) = us) (hul : us.length = vd.length) {n0 : Nat} (N : Fr n0 locs) (ge : n0 ≤ b)
    (hg : g.method = m) (hsize : g.locals.size = c.maxLocals) {rest : List Value} (hst : g.stack = .int jn :: .int jd :: .ref b :: .int js :: .ref a :: rest) (hd : decode c.code g.pc = .ok (.invokestatic index, 3))
    (hf : 1 ≤ R.frames) (Wd : Nat) (hW : 2 * g.monitorRoom + (rest.map fun v => v.category).sum ≤ Wd) (hlo : Wd + (nativeFrameWords "java/lang/System" "arraycopy" 5 + 11) ≤ R.locals)
    (k : ∀ (T' : State) (h' : Heap) (L : List Loc), Stand p l e R s m args below meth c T' L cells slots → T'.heap = h' → Fr n0 L → Keep h h' [b] → Ary Z h' b ty us → Go p e below W T' { g with pc := g.pc + 3, stack := rest }) : Go p e below W T g := by
  obtain ⟨qa, ka, da, FA⟩ := A
  obtain ⟨qb, kb, db, FB⟩ := B
  subst hjn hjd hjs
  have n1 := own_nat qa; have n2 := own_nat qb
  have m1 := own_nat (n := nn) (by omega); have m2 := own_nat (n := dp) (by omega); have m3 := own_nat (n := sp) (by omega)
  have hus : (List.range nn).map (fun i => vs.getD (sp + i) (.int 0)) = (List.range (Int32.ofNat nn).toNatClampNeg).map fun i => vs.getD ((Int32.ofNat sp).toNatClampNeg + i) da := by
    rw [m1.1, m3.1]
    apply List.map_congr_left
    intro i hi
    have := List.mem_range.mp hi
    simp [List.getD_eq_getElem?_getD, List.getElem?_eq_getElem (show sp + i < vs.length by omega)]
  obtain ⟨T', h', L, X', e', N', K', V', st⟩ := cpA X hx hZ hown w1 w2 w3 w4 eT FA FB (Or.inl ⟨rfl, hp⟩) m3.2.1 m2.2.1 m1.2.1 (by rw [m3.1, m1.1, n1.1]; exact h4) (by rw [m2.1, m1.1, n2.1]; exact h5) hus (by rw [m2.1, m1.1]; exact h5) N ge hg hsize hst hd hf hW hlo
  rw [m2.1, m1.1, hu] at V'
  exact (k T' h' L X' e' N' K' ⟨by rw [hul]; exact qb, kb, db, by rw [hul]; exact V'⟩).st st
end OwnC


/-- n ints, by their place -/
def IL (n : Nat) (f : Nat → Int32) : List Value := (List.range n).map fun q => Value.int (f q)
theorem IL_len (n : Nat) (f : Nat → Int32) : (IL n f).length = n := by simp [IL]
theorem IL_at {n i : Nat} {f : Nat → Int32} (h : i < n) : (IL n f)[i]? = some (.int (f i)) := by simp [IL, h]
theorem IL_congr {n : Nat} {f f' : Nat → Int32} (h : ∀ q, q < n → f q = f' q) : IL n f = IL n f' := by
  simp only [IL]; apply List.map_congr_left; intro q hq; rw [h q (List.mem_range.mp hq)]
theorem IL_set {n i : Nat} {f : Nat → Int32} {x : Int32} (h : i < n) : (IL n f).set i (.int x) = IL n (fun q => if q = i then x else f q) := by
  apply List.ext_getElem?
  intro q
  by_cases hq : q < n
  · rw [IL_at hq]
    by_cases e : i = q
    · subst e; simp [List.getElem?_set, IL_len, h]
    · rw [List.getElem?_set_ne e, IL_at hq]; simp [Ne.symm e]
  · rw [List.getElem?_eq_none (by simp [IL_len]; omega), List.getElem?_eq_none (by simp [IL_len]; omega)]
theorem IL_rep (n : Nat) : List.replicate n (Value.int 0) = IL n (fun _ => 0) := by
  apply List.ext_getElem?
  intro q
  by_cases hq : q < n
  · rw [IL_at hq]; simp [hq]
  · rw [List.getElem?_eq_none (by simp; omega), List.getElem?_eq_none (by simp [IL_len]; omega)]
/-- a char's byte -/
def bI (c : Nat) : Int32 := (Int32.ofNat c).toInt8.toInt32
theorem bI_back (c : Nat) (h : c < 256) : bI c &&& (255 : Int32) = Int32.ofNat c := (by decide +kernel : ∀ c : Fin 256, bI c.val &&& (255 : Int32) = Int32.ofNat c.val) ⟨c, h⟩
theorem bI_twice (c : Nat) (h : c < 256) : (bI c).toInt8.toInt32 = bI c := (by decide +kernel : ∀ c : Fin 256, (bI c.val).toInt8.toInt32 = bI c.val) ⟨c, h⟩
theorem ch_back (c : Nat) (h : c < 256) : (Int32.ofNat c).toUInt32.toUInt16.toUInt32.toInt32 = Int32.ofNat c := (by decide +kernel : ∀ c : Fin 256, (Int32.ofNat c.val).toUInt32.toUInt16.toUInt32.toInt32 = Int32.ofNat c.val) ⟨c, h⟩
theorem ch_nar (c : Nat) (h : c < 256) : narrow .char (.int (Int32.ofNat c)) = .int (Int32.ofNat c) := by
  show Value.int _ = _; congr 1; exact ch_back c h
theorem ch_sto (c : Nat) (h : c < 256) : nar .char (Int32.ofNat c) = Int32.ofNat c := ch_back c h
theorem own_shr0 (x : Int32) : x >>> ((0 : Int32) &&& 31) = x := by
  apply Int32.toBitVec_inj.mp
  rw [Int32.toBitVec_shiftRight]; simp
theorem own_shl0 (x : Int32) : x <<< ((0 : Int32) &&& 31) = x := by
  apply Int32.toBitVec_inj.mp
  rw [Int32.toBitVec_shiftLeft]; simp
theorem own_cat {v : Value} (h : v.isRef = true) : v.category = 1 := by cases v <;> simp_all [Value.isRef, Value.category]
theorem own_nar {t : FieldType} {v : Value} (h : v.isRef = true) : narrow t v = v := by cases v <;> cases t <;> simp_all [Value.isRef, narrow]

theorem own_fill (b : Nat → Int32) (i q : Nat) : (if q = i then b i else if q < i then b q else 0) = if q < i + 1 then b q else 0 := by
  by_cases e : q = i
  · subst e; simp
  · by_cases l : q < i
    · simp [e, l, show q < i + 1 by omega]
    · simp [e, l, show ¬ q < i + 1 by omega]

def apF (k n : Nat) (ft f : Nat → Int32) : Nat → Int32 := fun q => if k ≤ q ∧ q < k + n then ft (q - k) else f q
theorem own_ens (m : Nat) (h : m ≤ 16) : ¬ ((0 : Int32) < (Int32.ofNat m) - (16 : Int32)) := (by decide +kernel : ∀ m : Fin 17, ¬ ((0 : Int32) < (Int32.ofNat m.val) - (16 : Int32))) ⟨m, by omega⟩
theorem own_copy {k n N : Nat} {ft f : Nat → Int32} (h : k + n ≤ N) : (IL N f).take k ++ (List.range n).map (fun i => (IL n ft).getD (0 + i) (.int 0)) ++ (IL N f).drop (k + n) = IL N (apF k n ft f) := by
  apply List.ext_getElem?
  intro q
  have l1 : ((IL N f).take k).length = k := by simp [IL_len]; omega
  have l2 : ((List.range n).map (fun i => (IL n ft).getD (0 + i) (.int 0))).length = n := by simp
  by_cases hq : q < N
  · rw [IL_at hq]; unfold apF
    by_cases c1 : q < k
    · rw [List.append_assoc, List.getElem?_append_left (by omega), List.getElem?_take_of_lt c1, IL_at hq, if_neg (by omega)]
    · by_cases c2 : q < k + n
      · rw [List.getElem?_append_left (by rw [List.length_append]; omega), List.getElem?_append_right (by omega), l1, if_pos ⟨by omega, c2⟩]
        simp [List.getElem?_range (show q - k < n by omega), List.getD_eq_getElem?_getD, IL_at (show q - k < n by omega)]
      · rw [List.getElem?_append_right (by rw [List.length_append]; omega), List.length_append, l1, l2, List.getElem?_drop, if_neg (by omega)]
        rw [show k + n + (q - (k + n)) = q by omega, IL_at hq]
  · rw [List.getElem?_eq_none (by simp [IL_len]; omega), List.getElem?_eq_none (by simp [IL_len]; omega)]
theorem own_copy0 {n N : Nat} {f : Nat → Int32} (h : n ≤ N) : (IL n (fun _ => 0)).take 0 ++ (List.range n).map (fun i => (IL N f).getD (0 + i) (.int 0)) ++ (IL n (fun _ => 0)).drop (0 + n) = IL n f := by
  have e : (IL n (fun _ => 0)).drop (0 + n) = [] := List.drop_eq_nil_of_le (by simp [IL_len])
  rw [e, List.append_nil]
  show ([] : List Value) ++ _ = _
  rw [List.nil_append]
  apply List.map_congr_left
  intro q hq
  have := List.mem_range.mp hq
  simp [List.getD_eq_getElem?_getD, IL_at (show q < N by omega)]

/-- strictly rising -/
abbrev Up (l : List Nat) : Prop := l.Pairwise (· < ·)
theorem Up.ext : ∀ {l l' : List Nat}, Up l → Up l' → (∀ x, x ∈ l ↔ x ∈ l') → l = l'
  | [], [], _, _, _ => rfl
  | [], b :: r, _, _, h => absurd ((h b).mpr (by simp)) (by simp)
  | a :: r, [], _, _, h => absurd ((h a).mp (by simp)) (by simp)
  | a :: r, b :: r', h1, h2, h => by
    obtain ⟨a1, a2⟩ := List.pairwise_cons.mp h1
    obtain ⟨b1, b2⟩ := List.pairwise_cons.mp h2
    have e : a = b := by
      rcases List.mem_cons.mp ((h a).mp (by simp)) with q | q
      · exact q
      · rcases List.mem_cons.mp ((h b).mpr (by simp)) with q' | q'
        · exact q'.symm
        · have := a1 b q'; have := b1 a q; omega
    subst e
    congr 1
    refine Up.ext a2 b2 fun x => ⟨fun q => ?_, fun q => ?_⟩
    · rcases List.mem_cons.mp ((h x).mp (List.mem_cons_of_mem _ q)) with z | z
      · subst z; exact absurd (a1 _ q) (Nat.lt_irrefl _)
      · exact z
    · rcases List.mem_cons.mp ((h x).mpr (List.mem_cons_of_mem _ q)) with z | z
      · subst z; exact absurd (b1 _ q) (Nat.lt_irrefl _)
      · exact z
/-- x put in at the place j -/
def putIn (j x : Nat) (l : List Nat) : List Nat := l.take j ++ x :: l.drop j
theorem putIn_len {j x : Nat} {l : List Nat} (h : j ≤ l.length) : (putIn j x l).length = l.length + 1 := by
  simp [putIn]; omega
theorem putIn_mem {j x : Nat} {l : List Nat} (y : Nat) : y ∈ putIn j x l ↔ y = x ∨ y ∈ l := by
  have : y ∈ l ↔ y ∈ l.take j ++ l.drop j := by rw [List.take_append_drop]
  rw [this]; simp only [putIn, List.mem_append, List.mem_cons]
  constructor
  · rintro (h | h | h) <;> simp [h]
  · rintro (h | h | h) <;> simp [h]
theorem putIn_at {j x : Nat} {l : List Nat} (h : j ≤ l.length) (q : Nat) : (putIn j x l)[q]? = if q < j then l[q]? else if q = j then some x else l[q - 1]? := by
  unfold putIn
  by_cases a : q < j
  · rw [if_pos a, List.getElem?_append_left (by simp; omega), List.getElem?_take, if_pos a]
  · rw [if_neg a, List.getElem?_append_right (by simp; omega)]
    have e : (l.take j).length = j := by simp; omega
    rw [e]
    by_cases b : q = j
    · subst b; rw [if_pos rfl, Nat.sub_self]; rfl
    · rw [if_neg b, show q - j = (q - j - 1) + 1 by omega, List.getElem?_cons_succ, List.getElem?_drop]; congr 1; omega
theorem putIn_up {j x : Nat} {l : List Nat} (U : Up l) (h : j ≤ l.length) (h1 : ∀ i y, i < j → l[i]? = some y → y < x) (h2 : ∀ i y, j ≤ i → l[i]? = some y → x < y) : Up (putIn j x l) := by
  have T : ∀ y ∈ l.take j, y < x := fun y hy => by
    obtain ⟨i, hi⟩ := List.mem_iff_getElem?.mp hy
    rw [List.getElem?_take] at hi
    split at hi
    · exact h1 i y (by assumption) hi
    · cases hi
  have D : ∀ y ∈ l.drop j, x < y := fun y hy => by
    obtain ⟨i, hi⟩ := List.mem_iff_getElem?.mp hy
    rw [List.getElem?_drop] at hi
    exact h2 (j + i) y (by omega) hi
  have S : Up (l.take j ++ l.drop j) := by rw [List.take_append_drop]; exact U
  obtain ⟨s1, s2, s3⟩ := List.pairwise_append.mp S
  refine List.pairwise_append.mpr ⟨s1, List.pairwise_cons.mpr ⟨D, s2⟩, fun y hy z hz => ?_⟩
  rcases List.mem_cons.mp hz with rfl | hz
  · exact T y hy
  · exact s3 y hy z hz
theorem Up.lt_at {l : List Nat} (U : Up l) {i j : Nat} {x y : Nat} (h : i < j) (hi : l[i]? = some x) (hj : l[j]? = some y) : x < y := by
  obtain ⟨a, rfl⟩ := List.getElem?_eq_some_iff.mp hi
  obtain ⟨b, rfl⟩ := List.getElem?_eq_some_iff.mp hj
  exact List.pairwise_iff_getElem.mp U i j a b h
/-- how many pairs the first i holders have -/
def cntR (R : Nat → List Nat) (l : List Nat) : Nat := (l.flatMap R).length
theorem flat_at (R : Nat → List Nat) (f : Nat → Nat → Nat) : ∀ (l : List Nat) (i j s : Nat) (o : Nat), l[i]? = some s → (R s)[j]? = some o → (l.flatMap fun s => (R s).map (f s))[cntR R (l.take i) + j]? = some (f s o)
  | [], i, j, s, o, h, _ => by simp at h
  | a :: r, 0, j, s, o, h, h2 => by
    simp at h; subst h
    simp only [List.take_zero, cntR, List.flatMap_nil, List.length_nil, Nat.zero_add, List.flatMap_cons]
    rw [List.getElem?_append_left (by obtain ⟨z, -⟩ := List.getElem?_eq_some_iff.mp h2; simpa using z), List.getElem?_map, h2]; rfl
  | a :: r, i + 1, j, s, o, h, h2 => by
    simp only [List.getElem?_cons_succ] at h
    have ih := flat_at R f r i j s o h h2
    simp only [List.take_succ_cons, cntR, List.flatMap_cons, List.length_append]
    rw [List.getElem?_append_right (by simp; omega)]
    rw [← ih]; congr 1
    simp only [List.length_map, cntR]; omega
theorem cntR_succ (R : Nat → List Nat) {l : List Nat} {i s : Nat} (h : l[i]? = some s) : cntR R (l.take (i + 1)) = cntR R (l.take i) + (R s).length := by
  rw [List.take_add_one, h]; simp [cntR]
theorem cntR_le (R : Nat → List Nat) (l : List Nat) (i : Nat) : cntR R (l.take i) ≤ cntR R l := by
  conv => rhs; rw [← List.take_append_drop i l]
  simp only [cntR, List.flatMap_append, List.length_append]; omega
/-- the keys of one relation, in their order -/
def keysOf (H : List Nat) (R : Nat → List Nat) : List Nat := H.flatMap fun s => (R s).map fun o => 8 * s + o
theorem keysOf_len (H : List Nat) (R : Nat → List Nat) : (keysOf H R).length = cntR R H := by
  unfold keysOf cntR
  induction H with
  | nil => rfl
  | cons a r ih => simp only [List.flatMap_cons, List.length_append, List.length_map, ih]
theorem keysOf_mem {H : List Nat} {R : Nat → List Nat} (x : Nat) : x ∈ keysOf H R ↔ ∃ s ∈ H, ∃ o ∈ R s, 8 * s + o = x := by simp [keysOf]
theorem keysOf_up {H : List Nat} {R : Nat → List Nat} (U : Up H) (V : ∀ s, Up (R s)) (h8 : ∀ s, ∀ o ∈ R s, o < 8) : Up (keysOf H R) := by
  induction H with
  | nil => exact List.Pairwise.nil
  | cons a r ih =>
    obtain ⟨a1, a2⟩ := List.pairwise_cons.mp U
    show Up ((R a).map (fun o => 8 * a + o) ++ keysOf r R)
    refine List.pairwise_append.mpr ⟨?_, ih a2, fun x hx y hy => ?_⟩
    · rw [List.pairwise_map]; exact (V a).imp fun h => by omega
    · obtain ⟨o, ho, rfl⟩ := List.mem_map.mp hx
      obtain ⟨s, hs, o', ho', rfl⟩ := (keysOf_mem y).mp hy
      have := a1 s hs; have := h8 a o ho; omega
/-- the four sorted keys, each once, those below 1000 -/
def exOf (s0 s1 s2 s3 : Nat) : List Nat := (if s0 < 1000 then [s0] else []) ++ (if s1 < 1000 ∧ s1 ≠ s0 then [s1] else []) ++ (if s2 < 1000 ∧ s2 ≠ s1 then [s2] else []) ++ (if s3 < 1000 ∧ s3 ≠ s2 then [s3] else [])
theorem exOf_up {s0 s1 s2 s3 : Nat} (h0 : s0 ≤ s1) (h1 : s1 ≤ s2) (h2 : s2 ≤ s3) : Up (exOf s0 s1 s2 s3) := by
  unfold exOf Up
  repeat' split
  all_goals simp
  all_goals omega
theorem exOf_mem {s0 s1 s2 s3 : Nat} (h0 : s0 ≤ s1) (h1 : s1 ≤ s2) (h2 : s2 ≤ s3) (x : Nat) : x ∈ exOf s0 s1 s2 s3 ↔ x < 1000 ∧ (x = s0 ∨ x = s1 ∨ x = s2 ∨ x = s3) := by
  unfold exOf
  simp only [List.mem_append]
  have q : ∀ (P : Prop) [Decidable P] (y : Nat), x ∈ (if P then [y] else []) ↔ P ∧ x = y := fun P _ y => by split <;> simp [*]
  rw [q, q, q, q]; omega
/-- the law's network -/
def srt4 (k0 k1 k2 k3 : Nat) : Nat × Nat × Nat × Nat :=
  let a0 := min k0 k1; let a1 := max k0 k1; let a2 := min k2 k3; let a3 := max k2 k3
  let b0 := min a0 a2; let b2 := max a0 a2; let b1 := min a1 a3; let b3 := max a1 a3
  (b0, min b1 b2, max b1 b2, b3)
theorem srt4_ok (k0 k1 k2 k3 : Nat) : (srt4 k0 k1 k2 k3).1 ≤ (srt4 k0 k1 k2 k3).2.1 ∧ (srt4 k0 k1 k2 k3).2.1 ≤ (srt4 k0 k1 k2 k3).2.2.1 ∧ (srt4 k0 k1 k2 k3).2.2.1 ≤ (srt4 k0 k1 k2 k3).2.2.2 ∧
    ∀ x, (x = (srt4 k0 k1 k2 k3).1 ∨ x = (srt4 k0 k1 k2 k3).2.1 ∨ x = (srt4 k0 k1 k2 k3).2.2.1 ∨ x = (srt4 k0 k1 k2 k3).2.2.2) ↔ (x = k0 ∨ x = k1 ∨ x = k2 ∨ x = k3) := by
  unfold srt4; dsimp only
  refine ⟨by omega, by omega, by omega, fun x => ?_⟩
  omega
/-- a place inside the flat list -/
theorem flat_lt {R : Nat → List Nat} {l : List Nat} {i s j : Nat} (h : l[i]? = some s) (hj : j < (R s).length) : cntR R (l.take i) + j < cntR R l := by
  have := cntR_le R l (i + 1); rw [cntR_succ R h] at this; omega
theorem own_bsgt {lo hi : Nat} (h1 : lo ≤ 4) (h2 : hi ≤ 4) : (Int32.ofNat hi - (1 : Int32) < Int32.ofNat lo) ↔ hi ≤ lo :=
  (by decide +kernel : ∀ (lo hi : Fin 5), (Int32.ofNat hi.val - (1 : Int32) < Int32.ofNat lo.val) ↔ hi.val ≤ lo.val) ⟨lo, by omega⟩ ⟨hi, by omega⟩
theorem own_bsmid {lo hi : Nat} (h1 : lo < hi) (h2 : hi ≤ 4) : (((Int32.ofNat lo + (Int32.ofNat hi - (1 : Int32))).toUInt32 >>> ((1 : Int32) &&& 31).toUInt32).toInt32) = Int32.ofNat ((lo + hi - 1) / 2) :=
  (by decide +kernel : ∀ (lo hi : Fin 5), lo.val < hi.val → (((Int32.ofNat lo.val + (Int32.ofNat hi.val - (1 : Int32))).toUInt32 >>> ((1 : Int32) &&& 31).toUInt32).toInt32) = Int32.ofNat ((lo.val + hi.val - 1) / 2)) ⟨lo, by omega⟩ ⟨hi, by omega⟩ h1
theorem own_bsneg {j : Nat} (h : j ≤ 4) : -(Int32.ofNat j + (1 : Int32)) < (0 : Int32) ∧ (-(-(Int32.ofNat j + (1 : Int32)))) - (1 : Int32) = Int32.ofNat j :=
  (by decide +kernel : ∀ j : Fin 5, -(Int32.ofNat j.val + (1 : Int32)) < (0 : Int32) ∧ (-(-(Int32.ofNat j.val + (1 : Int32)))) - (1 : Int32) = Int32.ofNat j.val) ⟨j, by omega⟩
/-! own prelude: arrays of references (AO), getfield through an entry that is resolved already -/
def AO (Z : State) (h : Heap) (a : Addr) (ty : FieldType) (C : String) (vs : List Value) : Prop := vs.length < 2 ^ 31 ∧ ∃ k d, Arv Z h a k ty (Int32.ofNat vs.length) vs d ∧ ∀ (h' : Heap) (c : Cell) (y : Addr), Arr Z h' a c ty → c.cls = k → Ins Z h' y C true → Sto Z h' a (.ref y)
section OwnR
variable {p : Program} {l : Launch} {e : Env} {R : Room} {s : State} {m : MethodId} {args : Array Value} {below : List Frame} {meth : Method} {c : Code} {T T' : State} {locs : List Loc} {cells slots : Nat} {Z : State} {a0 : Array Value} {h h' : Heap} {a b : Addr} {ty : FieldType} {vs : List Value} {v w : Value} {sl i : Nat} {j : Int32} {rest : List Value} {ws : List Addr} {W : Outcome → State → Prop} {C : String}
theorem AO.ary (A : AO Z h a ty C vs) : Ary Z h a ty vs := by obtain ⟨q, k, d, F, -⟩ := A; exact ⟨q, k, d, F⟩
theorem AO.lt (A : AO Z h a ty C vs) : a < h.size := A.ary.lt
theorem AO.ext (A : AO Z h a ty C vs) (E : Ext h h') : AO Z h' a ty C vs := by obtain ⟨q, k, d, F, S⟩ := A; exact ⟨q, k, d, F.ext E, S⟩
theorem AO.keep (A : AO Z h a ty C vs) (K : Keep h h' ws) (q : a ∉ ws) : AO Z h' a ty C vs := by obtain ⟨q', k, d, F, S⟩ := A; exact ⟨q', k, d, F.keep K q, S⟩
theorem own_getRef {g : JFrame} {t : State} (X : Stand p l e R s m args below meth c T locs cells slots) (hx : p.tables.exec = Jvm.exec) (hZ : Z.Warmed39 s.vm) {own R0 n d : String} {index : Nat} (hown : s.vm.findClass own = some m.cls) (wf : (Jvm.Cond.fieldRef own index R0 n d).before a0 Z = true) (eT : T.heap = h) (F : Fld Z h a R0 n d v)
    (hg : g.method = m) (hs : g.stack = .ref a :: rest) (hd : decode c.code g.pc = .ok (.getfield index, 3)) (k : Steps p.tables e below (T.setTop { g with pc := g.pc + 3, stack := v :: rest }) t) : Steps p.tables e below (T.setTop g) t := by
  obtain ⟨cell, cf, k0, i, f, h1, h2, h3, h4, -, -, h7⟩ := F
  have hW : Z.Warmed39 T.vm := wtrans hZ X.warmed
  have q := Cond.fieldRef_warmed39 (args := a0) hW wf
  obtain ⟨c', k', i', f', e1, e2⟩ := Cond.fieldRef_spec (s := Z.setVm T.vm) (cur := m.cls) (by show T.vm.findClass own = _; rw [X.warmed.alike.findClass]; exact hown) q
  obtain ⟨k2, e3, -⟩ := State.fieldFound?_setVm (s := Z) hW.alike h2
  have e4 := e1.symm.trans e3
  simp only [Option.some.injEq, Prod.mk.injEq] at e4
  obtain ⟨rfl, -, -, rfl⟩ := e4
  subst hg
  jvm_step X.here [X.here.top, hx, hd, getfield.wp_ready (e := e) (s := T) (index := index) (c := c') (a := a) (field := f') (rest := rest) (cell := cell) (v := v) (f := g) X.here.top e2 h3 hs (by rw [eT]; exact h1) h4 h7]
  exact k
variable {g : JFrame}
theorem Go.aastore (X : Stand p l e R s m args below meth c T locs cells slots) (hx : p.tables.exec = Jvm.exec) (hZ : Z.Warmed39 s.vm) (eT : T.heap = h) (A : AO Z h a ty C vs) (hty : ty.isReference = true) {y : Addr} (hi : i < vs.length) (hj : j = Int32.ofNat i) (I : Ins Z h y C true) (hg : g.method = m) (hs : g.stack = .ref y :: .int j :: .ref a :: rest) (hd : decode c.code g.pc = .ok (.aastore, 1))
    (k : ∀ (T' : State) (h' : Heap), Stand p l e R s m args below meth c T' (locs ++ [⟨a, j.toNatClampNeg⟩]) cells slots → T'.heap = h' → Wr h h' a j.toNatClampNeg (.ref y) → AO Z h' a ty C (vs.set i (.ref y)) → Go p e below W T' { g with pc := g.pc + 1, stack := rest }) : Go p e below W T g := by
  obtain ⟨cl, h1, h2⟩ := A.ary.inb hi hj
  obtain ⟨q, kk, d, F, S⟩ := A
  have F0 := F
  obtain ⟨c0, A0, r1, r2, r3, H, G⟩ := F
  cases A0.1.symm.trans h1.1
  obtain ⟨T', h', X', e', W', st⟩ := stR X hx hZ eT h1 h2 hty (S h cl y h1 r1 I) hg hs hd
  refine (k T' h' X' e' W' ⟨by simpa using q, kk, d, ?_, S⟩).st st
  rw [List.length_set]
  exact Arv.set A0 r1 r2 r3 H G (by cases ty <;> first | rfl | cases hty) W' i (by rw [hj]; exact (own_nat (Nat.lt_trans hi q)).1) hi
theorem Go.newRO (X : Stand p l e R s m args below meth c T locs cells slots) (hx : p.tables.exec = Jvm.exec) (hZ : Z.Warmed39 s.vm) {own : String} {index : Nat} (hown : s.vm.findClass own = some m.cls) (w1 : (Jvm.Cond.classLink own index C).before a0 Z = true) (w2 : (Jvm.Cond.arrayOver (.object C)).before a0 Z = true) (eT : T.heap = h) (hg : g.method = m) (hd : decode c.code g.pc = .ok (.anewarray index, 3)) {n : Nat} (hs : g.stack = .int j :: rest) (hj : j = Int32.ofNat n)
    (cap : Nat) (hcap : n ≤ cap) (hbg : cap * 8 ≤ 536870912) (hc : cells + 1 ≤ R.cells) (hl : slots + cap ≤ R.slots) {ad : String} (had : "[" ++ (FieldType.object C).toString = ad)
    (k : ∀ (T' : State) (h' : Heap) (b : Addr), Stand p l e R s m args below meth c T' locs (cells + 1) (slots + cap) → T'.heap = h' → Ext h h' → b = h.size → AO Z h' b (.object C) C (List.replicate n .null) → Exa Z h' b ad → Go p e below W T' { g with pc := g.pc + 3, stack := .ref b :: rest }) : Go p e below W T g := by
  have q : n < 2 ^ 31 := by omega
  have n1 := own_nat q
  subst hj
  obtain ⟨T', h', cA, X', e', E', A', D', O', st⟩ := newRE X hx hZ hown w1 w2 eT hg hd hs n1.2.1 (cap := cap) (by rw [n1.1]; exact hcap) hbg hc hl had
  refine (k T' h' _ X' e' E' rfl ⟨by simpa using q, cA, .null, ?_, fun h2 c2 y2 B1 B2 B3 => Sto.ofV B1 B2 O' B3⟩ D').st st
  have F := (Arv.new A' n1.2.1).pad (pad_rep [] (defaultValue (.object C)) n)
  simpa [defaultValue] using F
theorem Go.newRA (X : Stand p l e R s m args below meth c T locs cells slots) (hx : p.tables.exec = Jvm.exec) (hZ : Z.Warmed39 s.vm) {own : String} {index : Nat} {t0 : FieldType} (hown : s.vm.findClass own = some m.cls) (hC : (FieldType.array t0).toString = C) (w1 : (Jvm.Cond.classLink own index C).before a0 Z = true) (w2 : (Jvm.Cond.arrayOver (.array t0)).before a0 Z = true) (eT : T.heap = h) (hg : g.method = m) (hd : decode c.code g.pc = .ok (.anewarray index, 3)) {n : Nat} (hs : g.stack = .int j :: rest) (hj : j = Int32.ofNat n)
    (cap : Nat) (hcap : n ≤ cap) (hbg : cap * 8 ≤ 536870912) (hc : cells + 1 ≤ R.cells) (hl : slots + cap ≤ R.slots)
    (k : ∀ (T' : State) (h' : Heap) (b : Addr), Stand p l e R s m args below meth c T' locs (cells + 1) (slots + cap) → T'.heap = h' → Ext h h' → b = h.size → AO Z h' b (.array t0) C (List.replicate n .null) → Go p e below W T' { g with pc := g.pc + 3, stack := .ref b :: rest }) : Go p e below W T g := by
  have q : n < 2 ^ 31 := by omega
  have n1 := own_nat q
  subst hj
  obtain ⟨T', h', cA, X', e', E', A', D', O', st⟩ := RoadKit.newRA X hx hZ hown hC w1 w2 eT hg hd hs n1.2.1 (cap := cap) (by rw [n1.1]; exact hcap) hbg hc hl rfl
  refine (k T' h' _ X' e' E' rfl ⟨by simpa using q, cA, .null, ?_, fun h2 c2 y2 B1 B2 B3 => Sto.ofVA B1 B2 O' B3⟩).st st
  have F := (Arv.new A' n1.2.1).pad (pad_rep [] (defaultValue (.array t0)) n)
  simpa [defaultValue] using F
end OwnR
/-! own: the heap behind an Entries object, by labels -/
abbrev ENT : String := "com/example/rhadamanthus/rhadamanthus/analysis/Entries"
abbrev ROW : String := "com/example/rhadamanthus/rhadamanthus/analysis/Entries$Row"
abbrev RWA : String := "[Lcom/example/rhadamanthus/rhadamanthus/analysis/Entries$Row;"
abbrev RWB : String := "[[Lcom/example/rhadamanthus/rhadamanthus/analysis/Entries$Row;"
abbrev RT : FieldType := .object ROW
/-- labels of addresses -/
abbrev Lb : Type := Nat × Nat × Nat
abbrev Lb.no : Lb := (0, 0, 0)
abbrev Lb.e : Lb := (1, 0, 0)
abbrev Lb.bS : Lb := (2, 0, 0)
abbrev Lb.bO : Lb := (3, 0, 0)
abbrev Lb.hd : Lb := (4, 0, 0)
abbrev Lb.ct : Lb := (5, 0, 0)
abbrev Lb.aS (r : Nat) : Lb := (6, r, 0)
abbrev Lb.aO (r : Nat) : Lb := (7, r, 0)
abbrev Lb.hr (r : Nat) : Lb := (8, r, 0)
abbrev Lb.rS (r s : Nat) : Lb := (9, r, s)
abbrev Lb.rO (r s : Nat) : Lb := (10, r, s)
theorem lbn {l l' : Lb} (h : (l.1 == l'.1) = false) : l ≠ l' := fun z => by rw [z] at h; simp at h
def RowP (Z : State) (h : Heap) (rg : Addr → Lb) (lb : Lb) (x : Addr) (n : Nat) (f : Nat → Int32) : Prop :=
  ∃ ids, rg x = lb ∧ rg ids = lb ∧ Exa Z h x ROW ∧ Fld Z h x ROW "ids" "[I" (.ref ids) ∧ Fld Z h x ROW "size" "I" (.int (Int32.ofNat n)) ∧ Ary Z h ids .int (IL 4 f) ∧
    (Fld Z h x ROW "runs" "[I" .null ∨ ∃ ru g, rg ru = lb ∧ ids ≠ ru ∧ Fld Z h x ROW "runs" "[I" (.ref ru) ∧ Ary Z h ru .int (IL 4 g))
def RowL (Z : State) (h : Heap) (rg : Addr → Lb) (lb : Lb) (x : Addr) (L : List Nat) : Prop := ∃ f, RowP Z h rg lb x L.length f ∧ ∀ i y, L[i]? = some y → f i = Int32.ofNat y
def DD : Type := (Addr) × (Addr) × (Addr) × (Addr) × (Addr) × (Nat → Option Addr) × (Nat → Option Addr) × (Nat → Option Addr) × (Nat → Nat → Option Addr) × (Nat → Nat → Option Addr) × (Nat → List Nat) × (Nat → Nat → List Nat) × (Nat → Nat) × (Nat)
abbrev mkD (eA : Addr) (bS : Addr) (bO : Addr) (hd : Addr) (ct : Addr) (aS : Nat → Option Addr) (aO : Nat → Option Addr) (hr : Nat → Option Addr) (rS : Nat → Nat → Option Addr) (rO : Nat → Nat → Option Addr) (H : Nat → List Nat) (R : Nat → Nat → List Nat) (cn : Nat → Nat) (k : Nat) : DD := (eA, bS, bO, hd, ct, aS, aO, hr, rS, rO, H, R, cn, k)
abbrev DD.eA (D : DD) : Addr := D.1
abbrev DD.bS (D : DD) : Addr := D.2.1
abbrev DD.bO (D : DD) : Addr := D.2.2.1
abbrev DD.hd (D : DD) : Addr := D.2.2.2.1
abbrev DD.ct (D : DD) : Addr := D.2.2.2.2.1
abbrev DD.aS (D : DD) : Nat → Option Addr := D.2.2.2.2.2.1
abbrev DD.aO (D : DD) : Nat → Option Addr := D.2.2.2.2.2.2.1
abbrev DD.hr (D : DD) : Nat → Option Addr := D.2.2.2.2.2.2.2.1
abbrev DD.rS (D : DD) : Nat → Nat → Option Addr := D.2.2.2.2.2.2.2.2.1
abbrev DD.rO (D : DD) : Nat → Nat → Option Addr := D.2.2.2.2.2.2.2.2.2.1
abbrev DD.H (D : DD) : Nat → List Nat := D.2.2.2.2.2.2.2.2.2.2.1
abbrev DD.R (D : DD) : Nat → Nat → List Nat := D.2.2.2.2.2.2.2.2.2.2.2.1
abbrev DD.cn (D : DD) : Nat → Nat := D.2.2.2.2.2.2.2.2.2.2.2.2.1
abbrev DD.k (D : DD) : Nat := D.2.2.2.2.2.2.2.2.2.2.2.2.2
abbrev DD.w_aS (D : DD) (v_ : Nat → Option Addr) : DD := mkD D.eA D.bS D.bO D.hd D.ct v_ D.aO D.hr D.rS D.rO D.H D.R D.cn D.k
abbrev DD.w_aO (D : DD) (v_ : Nat → Option Addr) : DD := mkD D.eA D.bS D.bO D.hd D.ct D.aS v_ D.hr D.rS D.rO D.H D.R D.cn D.k
abbrev DD.w_hr (D : DD) (v_ : Nat → Option Addr) : DD := mkD D.eA D.bS D.bO D.hd D.ct D.aS D.aO v_ D.rS D.rO D.H D.R D.cn D.k
abbrev DD.w_rS (D : DD) (v_ : Nat → Nat → Option Addr) : DD := mkD D.eA D.bS D.bO D.hd D.ct D.aS D.aO D.hr v_ D.rO D.H D.R D.cn D.k
abbrev DD.w_rO (D : DD) (v_ : Nat → Nat → Option Addr) : DD := mkD D.eA D.bS D.bO D.hd D.ct D.aS D.aO D.hr D.rS v_ D.H D.R D.cn D.k
abbrev DD.w_H (D : DD) (v_ : Nat → List Nat) : DD := mkD D.eA D.bS D.bO D.hd D.ct D.aS D.aO D.hr D.rS D.rO v_ D.R D.cn D.k
abbrev DD.w_R (D : DD) (v_ : Nat → Nat → List Nat) : DD := mkD D.eA D.bS D.bO D.hd D.ct D.aS D.aO D.hr D.rS D.rO D.H v_ D.cn D.k
abbrev DD.w_cn (D : DD) (v_ : Nat → Nat) : DD := mkD D.eA D.bS D.bO D.hd D.ct D.aS D.aO D.hr D.rS D.rO D.H D.R v_ D.k
abbrev DD.w_k (D : DD) (v_ : Nat) : DD := mkD D.eA D.bS D.bO D.hd D.ct D.aS D.aO D.hr D.rS D.rO D.H D.R D.cn v_
def ov : Option Addr → Value
  | none => .null
  | some a => .ref a
def PE (Z : State) (h : Heap) (rg : Addr → Lb) (D : DD) : Prop := rg D.eA = Lb.e ∧ Exa Z h D.eA ENT ∧ Fld Z h D.eA ENT "entities" "I" (.int (8 : Int32)) ∧ Fld Z h D.eA ENT "bySubject" RWB (.ref D.bS) ∧ Fld Z h D.eA ENT "byObject" RWB (.ref D.bO) ∧ Fld Z h D.eA ENT "holders" RWA (.ref D.hd) ∧ Fld Z h D.eA ENT "counts" "[I" (.ref D.ct)
def PbS (Z : State) (h : Heap) (rg : Addr → Lb) (D : DD) : Prop := rg D.bS = Lb.bS ∧ AO Z h D.bS (.array RT) RWA [ov (D.aS 0), ov (D.aS 1)]
def PbO (Z : State) (h : Heap) (rg : Addr → Lb) (D : DD) : Prop := rg D.bO = Lb.bO ∧ AO Z h D.bO (.array RT) RWA [ov (D.aO 0), ov (D.aO 1)]
def Phd (Z : State) (h : Heap) (rg : Addr → Lb) (D : DD) : Prop := rg D.hd = Lb.hd ∧ AO Z h D.hd RT ROW [ov (D.hr 0), ov (D.hr 1)]
def Pct (Z : State) (h : Heap) (rg : Addr → Lb) (D : DD) : Prop := rg D.ct = Lb.ct ∧ Ary Z h D.ct .int [.int (Int32.ofNat (D.cn 0)), .int (Int32.ofNat (D.cn 1))]
def PaS (Z : State) (h : Heap) (rg : Addr → Lb) (D : DD) (r : Nat) : Prop := ∀ a, D.aS r = some a → rg a = Lb.aS r ∧ Exa Z h a RWA ∧ AO Z h a RT ROW ((List.range 8).map fun q => ov (D.rS r q))
def PaO (Z : State) (h : Heap) (rg : Addr → Lb) (D : DD) (r : Nat) : Prop := ∀ a, D.aO r = some a → rg a = Lb.aO r ∧ Exa Z h a RWA ∧ AO Z h a RT ROW ((List.range 8).map fun q => ov (D.rO r q))
def Phr (Z : State) (h : Heap) (rg : Addr → Lb) (D : DD) (r : Nat) : Prop := ∀ x, D.hr r = some x → RowL Z h rg (Lb.hr r) x (D.H r)
def PrS (Z : State) (h : Heap) (rg : Addr → Lb) (D : DD) (r s : Nat) : Prop := ∀ x, D.rS r s = some x → RowL Z h rg (Lb.rS r s) x (D.R r s)
def PrO (Z : State) (h : Heap) (rg : Addr → Lb) (D : DD) (r s : Nat) : Prop := ∀ x, D.rO r s = some x → ∃ n f, n ≤ D.k ∧ RowP Z h rg (Lb.rO r s) x n f
def Inv (Z : State) (h : Heap) (rg : Addr → Lb) (n0 : Nat) (D : DD) : Prop := (∀ a, rg a ≠ Lb.no → n0 ≤ a ∧ a < h.size) ∧ PE Z h rg D ∧ PbS Z h rg D ∧ PbO Z h rg D ∧ Phd Z h rg D ∧ Pct Z h rg D ∧ (∀ r, PaS Z h rg D r) ∧ (∀ r, PaO Z h rg D r) ∧ (∀ r, Phr Z h rg D r) ∧ (∀ r s, PrS Z h rg D r s) ∧ ∀ r s, PrO Z h rg D r s
section OwnI
variable {Z : State} {h h' : Heap} {rg rg' : Addr → Lb} {lb l : Lb} {x a b : Addr} {n n0 : Nat} {f : Nat → Int32} {ws : List Addr} {D D' : DD} {L : List Nat}
theorem RowP.keep (P : RowP Z h rg lb x n f) (K : Keep h h' ws) (q : ∀ a ∈ ws, rg a ≠ lb) : RowP Z h' rg lb x n f := by
  obtain ⟨ids, r1, r2, E, F1, F2, A, S⟩ := P
  have n1 : x ∉ ws := fun z => q _ z r1
  have n2 : ids ∉ ws := fun z => q _ z r2
  refine ⟨ids, r1, r2, E.keep K, F1.keep K n1, F2.keep K n1, A.keep K n2, ?_⟩
  rcases S with S | ⟨ru, g, r3, ne, F3, B⟩
  · exact Or.inl (S.keep K n1)
  · exact Or.inr ⟨ru, g, r3, ne, F3.keep K n1, B.keep K (fun z => q _ z r3)⟩
theorem RowP.toLab (P : RowP Z h rg lb x n f) (q : ∀ a, rg a = lb → rg' a = lb) : RowP Z h rg' lb x n f := by
  obtain ⟨ids, r1, r2, E, F1, F2, A, S⟩ := P
  refine ⟨ids, q _ r1, q _ r2, E, F1, F2, A, ?_⟩
  rcases S with S | ⟨ru, g, r3, ne, F3, B⟩
  · exact Or.inl S
  · exact Or.inr ⟨ru, g, q _ r3, ne, F3, B⟩
theorem RowL.keep (P : RowL Z h rg lb x L) (K : Keep h h' ws) (q : ∀ a ∈ ws, rg a ≠ lb) : RowL Z h' rg lb x L := by obtain ⟨f, P, F⟩ := P; exact ⟨f, P.keep K q, F⟩
theorem RowL.toLab (P : RowL Z h rg lb x L) (q : ∀ a, rg a = lb → rg' a = lb) : RowL Z h rg' lb x L := by obtain ⟨f, P, F⟩ := P; exact ⟨f, P.toLab q, F⟩
theorem Inv.lo (I : Inv Z h rg n0 D) : ∀ a, rg a ≠ Lb.no → n0 ≤ a ∧ a < h.size := I.1
theorem Inv.ce (I : Inv Z h rg n0 D) : PE Z h rg D := I.2.1
theorem Inv.cbS (I : Inv Z h rg n0 D) : rg D.bS = Lb.bS ∧ AO Z h D.bS (.array RT) RWA [ov (D.aS 0), ov (D.aS 1)] := I.2.2.1
theorem Inv.cbO (I : Inv Z h rg n0 D) : rg D.bO = Lb.bO ∧ AO Z h D.bO (.array RT) RWA [ov (D.aO 0), ov (D.aO 1)] := I.2.2.2.1
theorem Inv.chd (I : Inv Z h rg n0 D) : rg D.hd = Lb.hd ∧ AO Z h D.hd RT ROW [ov (D.hr 0), ov (D.hr 1)] := I.2.2.2.2.1
theorem Inv.cct (I : Inv Z h rg n0 D) : rg D.ct = Lb.ct ∧ Ary Z h D.ct .int [.int (Int32.ofNat (D.cn 0)), .int (Int32.ofNat (D.cn 1))] := I.2.2.2.2.2.1
theorem Inv.caS (I : Inv Z h rg n0 D) (r : Nat) : ∀ a, D.aS r = some a → rg a = Lb.aS r ∧ Exa Z h a RWA ∧ AO Z h a RT ROW ((List.range 8).map fun q => ov (D.rS r q)) := I.2.2.2.2.2.2.1 r
theorem Inv.caO (I : Inv Z h rg n0 D) (r : Nat) : ∀ a, D.aO r = some a → rg a = Lb.aO r ∧ Exa Z h a RWA ∧ AO Z h a RT ROW ((List.range 8).map fun q => ov (D.rO r q)) := I.2.2.2.2.2.2.2.1 r
theorem Inv.chr (I : Inv Z h rg n0 D) (r : Nat) : ∀ x, D.hr r = some x → RowL Z h rg (Lb.hr r) x (D.H r) := I.2.2.2.2.2.2.2.2.1 r
theorem Inv.crS (I : Inv Z h rg n0 D) (r s : Nat) : ∀ x, D.rS r s = some x → RowL Z h rg (Lb.rS r s) x (D.R r s) := I.2.2.2.2.2.2.2.2.2.1 r s
theorem Inv.crO (I : Inv Z h rg n0 D) (r s : Nat) : ∀ x, D.rO r s = some x → ∃ n f, n ≤ D.k ∧ RowP Z h rg (Lb.rO r s) x n f := I.2.2.2.2.2.2.2.2.2.2 r s
/-- every part but the one of the label l stands behind the step -/
theorem Inv.mv (I : Inv Z h rg n0 D) (K : Keep h h' ws) (q : ∀ a ∈ ws, rg a = l) : (∀ a, rg a ≠ Lb.no → n0 ≤ a ∧ a < h'.size) ∧ (Lb.e ≠ l → PE Z h' rg D) ∧ (Lb.bS ≠ l → PbS Z h' rg D) ∧ (Lb.bO ≠ l → PbO Z h' rg D) ∧ (Lb.hd ≠ l → Phd Z h' rg D) ∧ (Lb.ct ≠ l → Pct Z h' rg D) ∧ (∀ r, Lb.aS r ≠ l → PaS Z h' rg D r) ∧ (∀ r, Lb.aO r ≠ l → PaO Z h' rg D r) ∧ (∀ r, Lb.hr r ≠ l → Phr Z h' rg D r) ∧ (∀ r s, Lb.rS r s ≠ l → PrS Z h' rg D r s) ∧ ∀ r s, Lb.rO r s ≠ l → PrO Z h' rg D r s := by
  have N : ∀ {a : Addr} {l1 : Lb}, rg a = l1 → l1 ≠ l → a ∉ ws := fun r ne z => ne (r.symm.trans (q _ z))
  have Q : ∀ {l1 : Lb}, l1 ≠ l → ∀ a ∈ ws, rg a ≠ l1 := fun ne a z y => ne (y.symm.trans (q a z))
  refine ⟨fun a z => ⟨(I.lo a z).1, Nat.lt_of_lt_of_le (I.lo a z).2 K.1⟩, fun ne => ?_, fun ne => ⟨I.cbS.1, I.cbS.2.keep K (N I.cbS.1 ne)⟩, fun ne => ⟨I.cbO.1, I.cbO.2.keep K (N I.cbO.1 ne)⟩, fun ne => ⟨I.chd.1, I.chd.2.keep K (N I.chd.1 ne)⟩, fun ne => ⟨I.cct.1, I.cct.2.keep K (N I.cct.1 ne)⟩, fun r ne a ha => ?_, fun r ne a ha => ?_, fun r ne a ha => (I.chr r a ha).keep K (Q ne), fun r s ne a ha => (I.crS r s a ha).keep K (Q ne), fun r s ne a ha => ?_⟩
  · obtain ⟨r, E, F1, F2, F3, F4, F5⟩ := I.ce
    have n1 := N r ne
    exact ⟨r, E.keep K, F1.keep K n1, F2.keep K n1, F3.keep K n1, F4.keep K n1, F5.keep K n1⟩
  · obtain ⟨p1, p2, p3⟩ := I.caS r a ha; exact ⟨p1, p2.keep K, p3.keep K (N p1 ne)⟩
  · obtain ⟨p1, p2, p3⟩ := I.caO r a ha; exact ⟨p1, p2.keep K, p3.keep K (N p1 ne)⟩
  · obtain ⟨n, f, p1, p2⟩ := I.crO r s a ha; exact ⟨n, f, p1, p2.keep K (Q ne)⟩
theorem Inv.keepNew (I : Inv Z h rg n0 D) (K : Keep h h' []) : Inv Z h' rg n0 D := by
  obtain ⟨m0, m1, m2, m3, m4, m5, m6, m7, m8, m9, m10⟩ := I.mv (l := (11, 0, 0)) K (fun _ z => nomatch z)
  exact ⟨m0, m1 (lbn rfl), m2 (lbn rfl), m3 (lbn rfl), m4 (lbn rfl), m5 (lbn rfl), fun r => m6 r (lbn rfl), fun r => m7 r (lbn rfl), fun r => m8 r (lbn rfl), fun r s => m9 r s (lbn rfl), fun r s => m10 r s (lbn rfl)⟩
theorem Inv.ext (I : Inv Z h rg n0 D) (E : Ext h h') : Inv Z h' rg n0 D := I.keepNew ((Keep.refl h []).ext E)
def frL (lo hi : Nat) (lb : Lb) (rg : Addr → Lb) : Addr → Lb := fun a => if lo ≤ a ∧ a < hi then lb else rg a
theorem frL_new {lo hi : Nat} {lb : Lb} {rg : Addr → Lb} {a : Addr} (h1 : lo ≤ a) (h2 : a < hi) : frL lo hi lb rg a = lb := if_pos ⟨h1, h2⟩
theorem frL_old {lo hi : Nat} {lb : Lb} {rg : Addr → Lb} {a : Addr} (h1 : a < lo) : frL lo hi lb rg a = rg a := if_neg fun z => Nat.not_lt.mpr z.1 h1
theorem Inv.grow (I : Inv Z h rg n0 D) (hz : n0 ≤ h.size) (K : Keep h h' []) (lb : Lb) : Inv Z h' (frL h.size h'.size lb rg) n0 D := by
  have O : ∀ {a : Addr} {l1 : Lb}, rg a = l1 → l1 ≠ Lb.no → frL h.size h'.size lb rg a = l1 := fun {a l1} r ne => (frL_old (I.lo a (fun y => ne (r.symm.trans y))).2).trans r
  have J := I.keepNew K
  refine ⟨fun a q => ?_, ?_, ⟨O J.cbS.1 (lbn rfl), J.cbS.2⟩, ⟨O J.cbO.1 (lbn rfl), J.cbO.2⟩, ⟨O J.chd.1 (lbn rfl), J.chd.2⟩, ⟨O J.cct.1 (lbn rfl), J.cct.2⟩, fun r a ha => ⟨O (J.caS r a ha).1 (lbn rfl), (J.caS r a ha).2⟩, fun r a ha => ⟨O (J.caO r a ha).1 (lbn rfl), (J.caO r a ha).2⟩, fun r a ha => (J.chr r a ha).toLab fun b q => O q (lbn rfl), fun r s a ha => (J.crS r s a ha).toLab fun b q => O q (lbn rfl), fun r s a ha => ?_⟩
  · by_cases z : h.size ≤ a ∧ a < h'.size
    · exact ⟨Nat.le_trans hz z.1, z.2⟩
    · have q' : rg a ≠ Lb.no := fun y => q ((if_neg z).trans y)
      exact ⟨(I.lo a q').1, Nat.lt_of_lt_of_le (I.lo a q').2 K.1⟩
  · exact ⟨O J.ce.1 (lbn rfl), J.ce.2⟩
  · obtain ⟨n, f, p1, p2⟩ := J.crO r s a ha; exact ⟨n, f, p1, p2.toLab fun b q => O q (lbn rfl)⟩
theorem Inv.ge (I : Inv Z h rg n0 D) (q : rg a = l) (hl : l ≠ Lb.no) : n0 ≤ a := (I.lo a (fun z => hl (q.symm.trans z))).1
theorem own_lne {rg : Addr → Lb} {a b : Addr} {l l' : Lb} (h1 : rg a = l) (h2 : rg b = l') (h : l ≠ l') : a ≠ b := fun z => h (by rw [← h1, z, h2])
def up1 {α : Type} (g : Nat → α) (r : Nat) (v : α) : Nat → α := fun q => if q = r then v else g q
def up2 {α : Type} (g : Nat → Nat → α) (r s : Nat) (v : α) : Nat → Nat → α := fun q t => if q = r ∧ t = s then v else g q t
theorem up1_same {α : Type} (g : Nat → α) (r : Nat) (v : α) : up1 g r v r = v := if_pos rfl
theorem up1_ne {α : Type} {g : Nat → α} {r q : Nat} {v : α} (h : q ≠ r) : up1 g r v q = g q := if_neg h
theorem up2_same {α : Type} (g : Nat → Nat → α) (r s : Nat) (v : α) : up2 g r s v r s = v := if_pos ⟨rfl, rfl⟩
theorem up2_ne {α : Type} {g : Nat → Nat → α} {r s q t : Nat} {v : α} (h : ¬ (q = r ∧ t = s)) : up2 g r s v q t = g q t := if_neg h
theorem up2_id {α : Type} (g : Nat → Nat → α) (r s : Nat) : up2 g r s (g r s) = g := funext fun q => funext fun t => by
  unfold up2
  by_cases z : q = r ∧ t = s
  · rw [if_pos z, z.1, z.2]
  · rw [if_neg z]
theorem own_two {α : Type} (g : Nat → α) {r : Nat} (h : r < 2) (F : α → Value) : [F (g 0), F (g 1)][r]? = some (F (g r)) := by
  rcases (show r = 0 ∨ r = 1 by omega) with rfl | rfl <;> rfl
theorem own_two_set {α : Type} (g : Nat → α) {r : Nat} (h : r < 2) (F : α → Value) (v : α) : [F (g 0), F (g 1)].set r (F v) = [F (up1 g r v 0), F (up1 g r v 1)] := by
  rcases (show r = 0 ∨ r = 1 by omega) with rfl | rfl <;> simp [up1]
theorem own_eight {g : Nat → Option Addr} {s : Nat} (h : s < 8) : ((List.range 8).map fun q => ov (g q))[s]? = some (ov (g s)) := by simp [h]
theorem own_eight_set {g : Nat → Nat → Option Addr} {r s : Nat} (h : s < 8) (x : Addr) : ((List.range 8).map fun q => ov (g r q)).set s (.ref x) = (List.range 8).map fun q => ov (up2 g r s (some x) r q) := by
  apply List.ext_getElem?
  intro q
  by_cases hq : q < 8
  · by_cases z : s = q
    · subst z; simp [h, up2, ov]
    · rw [List.getElem?_set_ne z]; simp [hq, up2, Ne.symm z]
  · rw [List.getElem?_eq_none (by simp; omega), List.getElem?_eq_none (by simp; omega)]
theorem own_eight_new {g : Nat → Option Addr} (h : ∀ q, g q = none) : List.replicate 8 Value.null = (List.range 8).map fun q => ov (g q) := by
  simp only [h]; rfl
/-- what is known of the numbers -/
def PD (D : DD) (kH kR : Nat) (Ks : Nat → Nat → Prop) : Prop := (∀ r, Up (D.H r)) ∧ (∀ r, ∀ s ∈ D.H r, s < 8) ∧ (∀ r, (D.H r).length ≤ kH) ∧ (∀ r s, Up (D.R r s)) ∧ (∀ r s, ∀ o ∈ D.R r s, o < 8) ∧ (∀ r s, (D.R r s).length ≤ kR) ∧ (∀ r s, D.R r s ≠ [] → s ∈ D.H r) ∧ (∀ r s, s < 8 → (D.rS r s ≠ none ↔ s ∈ D.H r)) ∧ (∀ r, (D.aS r = none ∧ D.aO r = none ∧ D.hr r = none) ∨ ((∃ a, D.aS r = some a) ∧ (∃ a, D.aO r = some a) ∧ ∃ a, D.hr r = some a)) ∧ (∀ r, D.aS r = none → (∀ s, D.rS r s = none) ∧ (∀ s, D.rO r s = none) ∧ D.H r = []) ∧ (∀ r, D.cn r = cntR (D.R r) (D.H r)) ∧ (∀ r, D.cn r ≤ kR) ∧ (∀ r x, x ∈ keysOf (D.H r) (D.R r) ↔ Ks r x)
theorem PD.H1 {D : DD} {kH kR : Nat} {Ks : Nat → Nat → Prop} (P : PD D kH kR Ks) : ∀ r, Up (D.H r) := P.1
theorem PD.H2 {D : DD} {kH kR : Nat} {Ks : Nat → Nat → Prop} (P : PD D kH kR Ks) : ∀ r, ∀ s ∈ D.H r, s < 8 := P.2.1
theorem PD.H3 {D : DD} {kH kR : Nat} {Ks : Nat → Nat → Prop} (P : PD D kH kR Ks) : ∀ r, (D.H r).length ≤ kH := P.2.2.1
theorem PD.R1 {D : DD} {kH kR : Nat} {Ks : Nat → Nat → Prop} (P : PD D kH kR Ks) : ∀ r s, Up (D.R r s) := P.2.2.2.1
theorem PD.R2 {D : DD} {kH kR : Nat} {Ks : Nat → Nat → Prop} (P : PD D kH kR Ks) : ∀ r s, ∀ o ∈ D.R r s, o < 8 := P.2.2.2.2.1
theorem PD.R3 {D : DD} {kH kR : Nat} {Ks : Nat → Nat → Prop} (P : PD D kH kR Ks) : ∀ r s, (D.R r s).length ≤ kR := P.2.2.2.2.2.1
theorem PD.hs {D : DD} {kH kR : Nat} {Ks : Nat → Nat → Prop} (P : PD D kH kR Ks) : ∀ r s, D.R r s ≠ [] → s ∈ D.H r := P.2.2.2.2.2.2.1
theorem PD.hx {D : DD} {kH kR : Nat} {Ks : Nat → Nat → Prop} (P : PD D kH kR Ks) : ∀ r s, s < 8 → (D.rS r s ≠ none ↔ s ∈ D.H r) := P.2.2.2.2.2.2.2.1
theorem PD.ha {D : DD} {kH kR : Nat} {Ks : Nat → Nat → Prop} (P : PD D kH kR Ks) : ∀ r, (D.aS r = none ∧ D.aO r = none ∧ D.hr r = none) ∨ ((∃ a, D.aS r = some a) ∧ (∃ a, D.aO r = some a) ∧ ∃ a, D.hr r = some a) := P.2.2.2.2.2.2.2.2.1
theorem PD.hn {D : DD} {kH kR : Nat} {Ks : Nat → Nat → Prop} (P : PD D kH kR Ks) : ∀ r, D.aS r = none → (∀ s, D.rS r s = none) ∧ (∀ s, D.rO r s = none) ∧ D.H r = [] := P.2.2.2.2.2.2.2.2.2.1
theorem PD.hc {D : DD} {kH kR : Nat} {Ks : Nat → Nat → Prop} (P : PD D kH kR Ks) : ∀ r, D.cn r = cntR (D.R r) (D.H r) := P.2.2.2.2.2.2.2.2.2.2.1
theorem PD.cb {D : DD} {kH kR : Nat} {Ks : Nat → Nat → Prop} (P : PD D kH kR Ks) : ∀ r, D.cn r ≤ kR := P.2.2.2.2.2.2.2.2.2.2.2.1
theorem PD.ks {D : DD} {kH kR : Nat} {Ks : Nat → Nat → Prop} (P : PD D kH kR Ks) : ∀ r x, x ∈ keysOf (D.H r) (D.R r) ↔ Ks r x := P.2.2.2.2.2.2.2.2.2.2.2.2
theorem Inv.ent {eA : Addr} (I : Inv Z h rg n0 D) (hE : D.eA = eA) : Exa Z h eA ENT ∧ Fld Z h eA ENT "entities" "I" (.int (8 : Int32)) ∧ Fld Z h eA ENT "bySubject" RWB (.ref D.bS) ∧ Fld Z h eA ENT "byObject" RWB (.ref D.bO) ∧ Fld Z h eA ENT "holders" RWA (.ref D.hd) ∧ Fld Z h eA ENT "counts" "[I" (.ref D.ct) := by
  subst hE; exact I.ce.2
/-! the steps of add, as steps of Inv -/
theorem Inv.setS (I : Inv Z h rg n0 D) {r : Nat} (hr : r < 2) (hb1 : rg b = Lb.aS r) (E : Exa Z h' b RWA) (A : AO Z h' b RT ROW (List.replicate 8 .null)) (K : Keep h h' [D.bS]) (hN : ∀ s, D.rS r s = none) (A2 : AO Z h' D.bS (.array RT) RWA ([ov (D.aS 0), ov (D.aS 1)].set r (.ref b))) : Inv Z h' rg n0 (D.w_aS (up1 D.aS r (some b))) := by
  obtain ⟨m0, m1, m2, m3, m4, m5, m6, m7, m8, m9, m10⟩ := I.mv (l := Lb.bS) K (fun a ha => by rw [List.mem_singleton.mp ha]; exact I.cbS.1)
  refine ⟨m0, m1 (lbn rfl), ⟨I.cbS.1, ?_⟩, m3 (lbn rfl), m4 (lbn rfl), m5 (lbn rfl), (fun r_ a ha => ?_), (fun r_ => m7 r_ (lbn rfl)), (fun r_ => m8 r_ (lbn rfl)), (fun r_ s_ => m9 r_ s_ (lbn rfl)), (fun r_ s_ => m10 r_ s_ (lbn rfl))⟩
  · rw [← own_two_set D.aS hr ov (some b)]; exact A2
  · by_cases z : r_ = r
    · subst z
      obtain rfl : b = a := Option.some.inj ((up1_same D.aS r_ (some b)).symm.trans ha)
      exact ⟨hb1, E, own_eight_new hN ▸ A⟩
    · exact m6 r_ (lbn rfl) a ((up1_ne z).symm.trans ha)
theorem Inv.setO (I : Inv Z h rg n0 D) {r : Nat} (hr : r < 2) (hb1 : rg b = Lb.aO r) (E : Exa Z h' b RWA) (A : AO Z h' b RT ROW (List.replicate 8 .null)) (K : Keep h h' [D.bO]) (hN : ∀ s, D.rO r s = none) (A2 : AO Z h' D.bO (.array RT) RWA ([ov (D.aO 0), ov (D.aO 1)].set r (.ref b))) : Inv Z h' rg n0 (D.w_aO (up1 D.aO r (some b))) := by
  obtain ⟨m0, m1, m2, m3, m4, m5, m6, m7, m8, m9, m10⟩ := I.mv (l := Lb.bO) K (fun a ha => by rw [List.mem_singleton.mp ha]; exact I.cbO.1)
  refine ⟨m0, m1 (lbn rfl), m2 (lbn rfl), ⟨I.cbO.1, ?_⟩, m4 (lbn rfl), m5 (lbn rfl), (fun r_ => m6 r_ (lbn rfl)), (fun r_ a ha => ?_), (fun r_ => m8 r_ (lbn rfl)), (fun r_ s_ => m9 r_ s_ (lbn rfl)), (fun r_ s_ => m10 r_ s_ (lbn rfl))⟩
  · rw [← own_two_set D.aO hr ov (some b)]; exact A2
  · by_cases z : r_ = r
    · subst z
      obtain rfl : b = a := Option.some.inj ((up1_same D.aO r_ (some b)).symm.trans ha)
      exact ⟨hb1, E, own_eight_new hN ▸ A⟩
    · exact m7 r_ (lbn rfl) a ((up1_ne z).symm.trans ha)
theorem Inv.setH (I : Inv Z h rg n0 D) {r : Nat} (hr : r < 2) (P : RowP Z h' rg (Lb.hr r) b 0 f) (hH : D.H r = []) (K : Keep h h' [D.hd]) (A2 : AO Z h' D.hd RT ROW ([ov (D.hr 0), ov (D.hr 1)].set r (.ref b))) : Inv Z h' rg n0 (D.w_hr (up1 D.hr r (some b))) := by
  obtain ⟨m0, m1, m2, m3, m4, m5, m6, m7, m8, m9, m10⟩ := I.mv (l := Lb.hd) K (fun a ha => by rw [List.mem_singleton.mp ha]; exact I.chd.1)
  refine ⟨m0, m1 (lbn rfl), m2 (lbn rfl), m3 (lbn rfl), ⟨I.chd.1, ?_⟩, m5 (lbn rfl), (fun r_ => m6 r_ (lbn rfl)), (fun r_ => m7 r_ (lbn rfl)), (fun r_ a ha => ?_), (fun r_ s_ => m9 r_ s_ (lbn rfl)), (fun r_ s_ => m10 r_ s_ (lbn rfl))⟩
  · rw [← own_two_set D.hr hr ov (some b)]; exact A2
  · by_cases z : r_ = r
    · subst z
      obtain rfl : b = a := Option.some.inj ((up1_same D.hr r_ (some b)).symm.trans ha)
      show RowL Z h' rg (Lb.hr r_) b (D.H r_)
      rw [hH]; exact ⟨f, P, fun i y q => by simp at q⟩
    · exact m8 r_ (lbn rfl) a ((up1_ne z).symm.trans ha)
theorem Inv.rowS (I : Inv Z h rg n0 D) {r s : Nat} (hs : s < 8) {a1 : Addr} (ha1 : D.aS r = some a1) (P : RowP Z h' rg (Lb.rS r s) b 0 f) (hR : D.R r s = []) (K : Keep h h' [a1]) (A2 : AO Z h' a1 RT ROW (((List.range 8).map fun q => ov (D.rS r q)).set s (.ref b))) : Inv Z h' rg n0 (D.w_rS (up2 D.rS r s (some b))) := by
  have c0 := I.caS r a1 ha1
  obtain ⟨m0, m1, m2, m3, m4, m5, m6, m7, m8, m9, m10⟩ := I.mv (l := Lb.aS r) K (fun a ha => by rw [List.mem_singleton.mp ha]; exact c0.1)
  refine ⟨m0, m1 (lbn rfl), m2 (lbn rfl), m3 (lbn rfl), m4 (lbn rfl), m5 (lbn rfl), (fun r_ a ha => ?_), (fun r_ => m7 r_ (lbn rfl)), (fun r_ => m8 r_ (lbn rfl)), (fun r_ s_ a ha => ?_), (fun r_ s_ => m10 r_ s_ (lbn rfl))⟩
  · by_cases z : r_ = r
    · subst z
      obtain rfl : a1 = a := Option.some.inj (ha1.symm.trans ha)
      refine ⟨c0.1, c0.2.1.keep K, ?_⟩
      show AO Z h' a1 RT ROW ((List.range 8).map fun q => ov (up2 D.rS r_ s (some b) r_ q))
      rw [← own_eight_set hs b]; exact A2
    · obtain ⟨q1, q2, q3⟩ := m6 r_ (fun y => z (congrArg (fun l : Lb => l.2.1) y)) a ha
      refine ⟨q1, q2, ?_⟩
      have : (fun q => ov (up2 D.rS r s (some b) r_ q)) = fun q => ov (D.rS r_ q) := funext fun q => by rw [up2_ne (fun y => z y.1)]
      show AO Z h' a RT ROW ((List.range 8).map fun q => ov (up2 D.rS r s (some b) r_ q))
      rw [this]; exact q3
  · by_cases z : r_ = r ∧ s_ = s
    · obtain ⟨rfl, rfl⟩ := z
      obtain rfl : b = a := Option.some.inj ((up2_same D.rS r_ s_ (some b)).symm.trans ha)
      show RowL Z h' rg (Lb.rS r_ s_) b (D.R r_ s_)
      rw [hR]; exact ⟨f, P, fun i y q => by simp at q⟩
    · exact m9 r_ s_ (lbn rfl) a ((up2_ne z).symm.trans ha)
theorem Inv.rowO (I : Inv Z h rg n0 D) {r s : Nat} (hs : s < 8) {a1 : Addr} (ha1 : D.aO r = some a1) (P : RowP Z h' rg (Lb.rO r s) b 0 f) (K : Keep h h' [a1]) (A2 : AO Z h' a1 RT ROW (((List.range 8).map fun q => ov (D.rO r q)).set s (.ref b))) : Inv Z h' rg n0 (D.w_rO (up2 D.rO r s (some b))) := by
  have c0 := I.caO r a1 ha1
  obtain ⟨m0, m1, m2, m3, m4, m5, m6, m7, m8, m9, m10⟩ := I.mv (l := Lb.aO r) K (fun a ha => by rw [List.mem_singleton.mp ha]; exact c0.1)
  refine ⟨m0, m1 (lbn rfl), m2 (lbn rfl), m3 (lbn rfl), m4 (lbn rfl), m5 (lbn rfl), (fun r_ => m6 r_ (lbn rfl)), (fun r_ a ha => ?_), (fun r_ => m8 r_ (lbn rfl)), (fun r_ s_ => m9 r_ s_ (lbn rfl)), (fun r_ s_ a ha => ?_)⟩
  · by_cases z : r_ = r
    · subst z
      obtain rfl : a1 = a := Option.some.inj (ha1.symm.trans ha)
      refine ⟨c0.1, c0.2.1.keep K, ?_⟩
      show AO Z h' a1 RT ROW ((List.range 8).map fun q => ov (up2 D.rO r_ s (some b) r_ q))
      rw [← own_eight_set hs b]; exact A2
    · obtain ⟨q1, q2, q3⟩ := m7 r_ (fun y => z (congrArg (fun l : Lb => l.2.1) y)) a ha
      refine ⟨q1, q2, ?_⟩
      have : (fun q => ov (up2 D.rO r s (some b) r_ q)) = fun q => ov (D.rO r_ q) := funext fun q => by rw [up2_ne (fun y => z y.1)]
      show AO Z h' a RT ROW ((List.range 8).map fun q => ov (up2 D.rO r s (some b) r_ q))
      rw [this]; exact q3
  · by_cases z : r_ = r ∧ s_ = s
    · obtain ⟨rfl, rfl⟩ := z
      obtain rfl : b = a := Option.some.inj ((up2_same D.rO r_ s_ (some b)).symm.trans ha)
      exact ⟨0, f, Nat.zero_le _, P⟩
    · exact m10 r_ s_ (lbn rfl) a ((up2_ne z).symm.trans ha)
theorem Inv.insH (I : Inv Z h rg n0 D) {r : Nat} (hx : D.hr r = some x) (K : Keep h h' ws) (hw : ∀ a ∈ ws, rg a = Lb.hr r) (P : RowL Z h' rg (Lb.hr r) x L) : Inv Z h' rg n0 (D.w_H (up1 D.H r L)) := by
  obtain ⟨m0, m1, m2, m3, m4, m5, m6, m7, m8, m9, m10⟩ := I.mv (l := Lb.hr r) K hw
  refine ⟨m0, m1 (lbn rfl), m2 (lbn rfl), m3 (lbn rfl), m4 (lbn rfl), m5 (lbn rfl), (fun r_ => m6 r_ (lbn rfl)), (fun r_ => m7 r_ (lbn rfl)), (fun r_ a ha => ?_), (fun r_ s_ => m9 r_ s_ (lbn rfl)), (fun r_ s_ => m10 r_ s_ (lbn rfl))⟩
  by_cases z : r_ = r
  · subst z
    obtain rfl : x = a := Option.some.inj (hx.symm.trans ha)
    show RowL Z h' rg (Lb.hr r_) x (up1 D.H r_ L r_)
    rw [up1_same]; exact P
  · show RowL Z h' rg (Lb.hr r_) a (up1 D.H r L r_)
    rw [up1_ne z]; exact m8 r_ (fun y => z (congrArg (fun l : Lb => l.2.1) y)) a ha
theorem Inv.insS (I : Inv Z h rg n0 D) {r s : Nat} (hx : D.rS r s = some x) (K : Keep h h' ws) (hw : ∀ a ∈ ws, rg a = Lb.rS r s) (P : RowL Z h' rg (Lb.rS r s) x L) : Inv Z h' rg n0 (D.w_R (up2 D.R r s L)) := by
  obtain ⟨m0, m1, m2, m3, m4, m5, m6, m7, m8, m9, m10⟩ := I.mv (l := Lb.rS r s) K hw
  refine ⟨m0, m1 (lbn rfl), m2 (lbn rfl), m3 (lbn rfl), m4 (lbn rfl), m5 (lbn rfl), (fun r_ => m6 r_ (lbn rfl)), (fun r_ => m7 r_ (lbn rfl)), (fun r_ => m8 r_ (lbn rfl)), (fun r_ s_ a ha => ?_), (fun r_ s_ => m10 r_ s_ (lbn rfl))⟩
  by_cases z : r_ = r ∧ s_ = s
  · obtain ⟨rfl, rfl⟩ := z
    obtain rfl : x = a := Option.some.inj (hx.symm.trans ha)
    show RowL Z h' rg (Lb.rS r_ s_) x (up2 D.R r_ s_ L r_ s_)
    rw [up2_same]; exact P
  · show RowL Z h' rg (Lb.rS r_ s_) a (up2 D.R r s L r_ s_)
    rw [up2_ne z]; exact m9 r_ s_ (fun y => z ⟨congrArg (fun l : Lb => l.2.1) y, congrArg (fun l : Lb => l.2.2) y⟩) a ha
theorem Inv.more (I : Inv Z h rg n0 D) : Inv Z h rg n0 (D.w_k (D.k + 1)) :=
  ⟨I.lo, I.ce, I.cbS, I.cbO, I.chd, I.cct, I.caS, I.caO, I.chr, I.crS, fun r s a ha => by obtain ⟨n, f, h1, h2⟩ := I.crO r s a ha; exact ⟨n, f, Nat.le_succ_of_le h1, h2⟩⟩
theorem Inv.insO (I : Inv Z h rg n0 D) {r s : Nat} (hx : D.rO r s = some x) (K : Keep h h' ws) (hw : ∀ a ∈ ws, rg a = Lb.rO r s) (hn : n ≤ D.k + 1) (P : RowP Z h' rg (Lb.rO r s) x n f) : Inv Z h' rg n0 (D.w_k (D.k + 1)) := by
  obtain ⟨m0, m1, m2, m3, m4, m5, m6, m7, m8, m9, m10⟩ := I.more.mv (l := Lb.rO r s) K hw
  refine ⟨m0, m1 (lbn rfl), m2 (lbn rfl), m3 (lbn rfl), m4 (lbn rfl), m5 (lbn rfl), (fun r_ => m6 r_ (lbn rfl)), (fun r_ => m7 r_ (lbn rfl)), (fun r_ => m8 r_ (lbn rfl)), (fun r_ s_ => m9 r_ s_ (lbn rfl)), (fun r_ s_ a ha => ?_)⟩
  by_cases z : r_ = r ∧ s_ = s
  · obtain ⟨rfl, rfl⟩ := z
    obtain rfl : x = a := Option.some.inj (hx.symm.trans ha)
    exact ⟨n, f, hn, P⟩
  · exact m10 r_ s_ (fun y => z ⟨congrArg (fun l : Lb => l.2.1) y, congrArg (fun l : Lb => l.2.2) y⟩) a ha
theorem Inv.inc (I : Inv Z h rg n0 D) {r c : Nat} (hr : r < 2) (K : Keep h h' [D.ct]) (A : Ary Z h' D.ct .int ([.int (Int32.ofNat (D.cn 0)), .int (Int32.ofNat (D.cn 1))].set r (.int (Int32.ofNat c)))) : Inv Z h' rg n0 (D.w_cn (up1 D.cn r c)) := by
  obtain ⟨m0, m1, m2, m3, m4, m5, m6, m7, m8, m9, m10⟩ := I.mv (l := Lb.ct) K (fun a ha => by rw [List.mem_singleton.mp ha]; exact I.cct.1)
  refine ⟨m0, m1 (lbn rfl), m2 (lbn rfl), m3 (lbn rfl), m4 (lbn rfl), ⟨I.cct.1, ?_⟩, (fun r_ => m6 r_ (lbn rfl)), (fun r_ => m7 r_ (lbn rfl)), (fun r_ => m8 r_ (lbn rfl)), (fun r_ s_ => m9 r_ s_ (lbn rfl)), (fun r_ s_ => m10 r_ s_ (lbn rfl))⟩
  rw [← own_two_set D.cn hr (fun z => .int (Int32.ofNat z)) c]; exact A
/-! Row.insert, on lists -/
def Mono (n : Nat) (f : Nat → Int32) : Prop := ∀ i j, i < j → j < n → f i < f j
def insF (n j : Nat) (key : Int32) (f : Nat → Int32) : Nat → Int32 := fun q => if q = j then key else if q ≤ j then f q else if q ≤ n then f (q - 1) else f q
theorem own_mono {f : Nat → Int32} (U : Up L) (h8 : ∀ y ∈ L, y < 8) (F : ∀ i y, L[i]? = some y → f i = Int32.ofNat y) : Mono L.length f := fun i j hij hj => by
  have e1 := List.getElem?_eq_getElem (l := L) (show i < L.length by omega)
  have e2 := List.getElem?_eq_getElem (l := L) hj
  rw [F _ _ e1, F _ _ e2]
  have b1 := h8 _ (List.getElem_mem (show i < L.length by omega)); have b2 := h8 _ (List.getElem_mem hj)
  exact (own_lt (by omega) (by omega)).mpr (U.lt_at hij e1 e2)
theorem own_found {f : Nat → Int32} {i key : Nat} (h8 : ∀ y ∈ L, y < 8) (hk : key < 8) (F : ∀ i y, L[i]? = some y → f i = Int32.ofNat y) (hi : i < L.length) (he : f i = Int32.ofNat key) : key ∈ L := by
  have e1 := List.getElem?_eq_getElem (l := L) hi
  have b1 := h8 _ (List.getElem_mem hi)
  rw [F _ _ e1] at he
  have := (own_eq (by omega) (by omega)).mp he
  rw [← this]; exact List.getElem_mem hi
theorem own_place {f : Nat → Int32} {j key : Nat} (U : Up L) (h8 : ∀ y ∈ L, y < 8) (hk : key < 8) (F : ∀ i y, L[i]? = some y → f i = Int32.ofNat y) (hj : j ≤ L.length) (h : Mono L.length f → (∀ i, i < j → f i < Int32.ofNat key) ∧ ∀ i, j ≤ i → i < L.length → Int32.ofNat key < f i) :
    Up (putIn j key L) ∧ key ∉ L ∧ ∀ i y, (putIn j key L)[i]? = some y → insF L.length j (Int32.ofNat key) f i = Int32.ofNat y := by
  obtain ⟨h1, h2⟩ := h (own_mono U h8 F)
  have a1 : ∀ i y, i < j → L[i]? = some y → y < key := fun i y hi e => by
    have := h1 i hi; rw [F _ _ e] at this
    have b1 := h8 y (List.mem_of_getElem? e)
    exact (own_lt (by omega) (by omega)).mp this
  have a2 : ∀ i y, j ≤ i → L[i]? = some y → key < y := fun i y hi e => by
    have := h2 i hi (List.getElem?_eq_some_iff.mp e).1; rw [F _ _ e] at this
    have b1 := h8 y (List.mem_of_getElem? e)
    exact (own_lt (by omega) (by omega)).mp this
  refine ⟨putIn_up U hj a1 a2, fun z => ?_, fun i y e => ?_⟩
  · obtain ⟨i, e⟩ := List.mem_iff_getElem?.mp z
    rcases Nat.lt_or_ge i j with q | q
    · exact Nat.lt_irrefl _ (a1 i key q e)
    · exact Nat.lt_irrefl _ (a2 i key q e)
  · rw [putIn_at hj] at e
    unfold insF
    by_cases q : i < j
    · rw [if_pos q] at e; rw [if_neg (by omega), if_pos (by omega)]; exact F _ _ e
    · rw [if_neg q] at e
      by_cases q2 : i = j
      · rw [if_pos q2] at e; rw [if_pos q2, Option.some.inj e]
      · rw [if_neg q2] at e
        have := (List.getElem?_eq_some_iff.mp e).1
        rw [if_neg q2, if_neg (by omega), if_pos (by omega)]; exact F _ _ e
theorem own_len1 {l l' : List Nat} {k : Nat} (U : Up l) (U' : Up l') (hk : k ∉ l) (hm : ∀ x, x ∈ l' ↔ x = k ∨ x ∈ l) : l'.length = l.length + 1 := by
  have e : l' = l.filter (fun x => decide (x < k)) ++ k :: l.filter (fun x => decide (k < x)) := by
    refine U'.ext (List.pairwise_append.mpr ⟨U.filter _, List.pairwise_cons.mpr ⟨fun x hx => by simp at hx; exact hx.2, U.filter _⟩, fun x hx y hy => ?_⟩) fun x => ?_
    · simp at hx
      rcases List.mem_cons.mp hy with rfl | hy
      · exact hx.2
      · simp at hy; omega
    · rw [hm]; simp only [List.mem_append, List.mem_cons, List.mem_filter, decide_eq_true_eq]
      constructor
      · rintro (rfl | h)
        · exact Or.inr (Or.inl rfl)
        · rcases Nat.lt_trichotomy x k with z | z | z
          · exact Or.inl ⟨h, z⟩
          · exact Or.inr (Or.inl z)
          · exact Or.inr (Or.inr ⟨h, z⟩)
      · rintro (⟨h, -⟩ | h | ⟨h, -⟩)
        · exact Or.inr h
        · exact Or.inl h
        · exact Or.inr h
  have q : ∀ l : List Nat, k ∉ l → (l.filter (fun x => decide (x < k))).length + (l.filter (fun x => decide (k < x))).length = l.length := by
    intro l
    induction l with
    | nil => intro _; rfl
    | cons a r ih =>
      intro h
      have := ih (fun z => h (List.mem_cons_of_mem _ z))
      have hne : k ≠ a := fun z => h (by simp [z])
      rcases Nat.lt_or_gt_of_ne hne with z | z
      · rw [List.filter_cons_of_neg (by simp; omega), List.filter_cons_of_pos (by simpa using z)]; simp; omega
      · rw [List.filter_cons_of_pos (by simpa using z), List.filter_cons_of_neg (by simp; omega)]; simp; omega
  rw [e]; have := q l hk; simp; omega
end OwnI
/-! own: what add does to the numbers -/
section OwnP
variable {D : DD} {kH kR : Nat} {Ks : Nat → Nat → Prop} {r : Nat}
theorem pd_pres (P : PD D kH kR Ks) (h0 : D.aS r = none) (a1 a2 x : Addr) : PD (((D.w_aS (up1 D.aS r (some a1))).w_aO (up1 D.aO r (some a2))).w_hr (up1 D.hr r (some x))) kH kR Ks := by
  refine ⟨P.H1, P.H2, P.H3, P.R1, P.R2, P.R3, P.hs, P.hx, fun q => ?_, fun q hq => ?_, P.hc, P.cb, P.ks⟩
  · by_cases z : q = r
    · subst z; exact Or.inr ⟨⟨a1, up1_same _ _ _⟩, ⟨a2, up1_same _ _ _⟩, ⟨x, up1_same _ _ _⟩⟩
    · show (up1 D.aS r _ q = none ∧ up1 D.aO r _ q = none ∧ up1 D.hr r _ q = none) ∨ ((∃ a, up1 D.aS r _ q = some a) ∧ (∃ a, up1 D.aO r _ q = some a) ∧ ∃ a, up1 D.hr r _ q = some a)
      rw [up1_ne z, up1_ne z, up1_ne z]; exact P.ha q
  · by_cases z : q = r
    · subst z; exact P.hn q h0
    · exact P.hn q ((up1_ne z).symm.trans hq)
theorem cnt_put {R : Nat → List Nat} {s j : Nat} {l : List Nat} (h : R s = []) : cntR R (putIn j s l) = cntR R l := by
  have e : cntR R l = cntR R (l.take j ++ l.drop j) := by rw [List.take_append_drop]
  rw [e]; simp only [cntR, putIn, List.flatMap_append, List.flatMap_cons, h, List.nil_append]
theorem pd_row (P : PD D kH kR Ks) {s j : Nat} {x a1 : Addr} (hs : s < 8) (h1 : D.rS r s = none) (ha : D.aS r = some a1) (hj : j ≤ (D.H r).length) (U : Up (putIn j s (D.H r))) : PD ((D.w_rS (up2 D.rS r s (some x))).w_H (up1 D.H r (putIn j s (D.H r)))) (kH + 1) kR Ks := by
  have hn : s ∉ D.H r := fun z => ((P.hx r s hs).mpr z) h1
  have hR : D.R r s = [] := Classical.byContradiction fun z => hn (P.hs r s z)
  have hH : ∀ q t, t ∈ up1 D.H r (putIn j s (D.H r)) q ↔ t ∈ D.H q ∨ (q = r ∧ t = s) := fun q t => by
    by_cases z : q = r
    · subst z; rw [up1_same, putIn_mem]; constructor
      · rintro (h | h) <;> simp [h]
      · rintro (h | h) <;> simp [h]
    · rw [up1_ne z]; simp [z]
  refine ⟨fun q => ?_, fun q t ht => ?_, fun q => ?_, P.R1, P.R2, P.R3, fun q t ht => ?_, fun q t ht => ?_, P.ha, fun q hq => ?_, fun q => ?_, P.cb, fun q y => ?_⟩
  · show Up (up1 D.H r _ q)
    by_cases z : q = r
    · subst z; rw [up1_same]; exact U
    · rw [up1_ne z]; exact P.H1 q
  · rcases (hH q t).mp ht with h | ⟨-, rfl⟩
    · exact P.H2 q t h
    · exact hs
  · show (up1 D.H r _ q).length ≤ _
    by_cases z : q = r
    · subst z; rw [up1_same, putIn_len hj]; exact Nat.succ_le_succ (P.H3 q)
    · rw [up1_ne z]; exact Nat.le_succ_of_le (P.H3 q)
  · exact (hH q t).mpr (Or.inl (P.hs q t ht))
  · show up2 D.rS r s (some x) q t ≠ none ↔ t ∈ up1 D.H r _ q
    rw [hH]
    by_cases z : q = r ∧ t = s
    · obtain ⟨rfl, rfl⟩ := z; rw [up2_same]; simp
    · rw [up2_ne z, P.hx q t ht]; simp [z]
  · have z : q ≠ r := fun z => by subst z; rw [ha] at hq; cases hq
    obtain ⟨g1, g2, g3⟩ := P.hn q hq
    refine ⟨fun t => ?_, g2, ?_⟩
    · show up2 D.rS r s (some x) q t = none
      rw [up2_ne (fun y => z y.1)]; exact g1 t
    · show up1 D.H r _ q = []
      rw [up1_ne z]; exact g3
  · show D.cn q = cntR (D.R q) (up1 D.H r _ q)
    by_cases z : q = r
    · subst z; rw [up1_same, cnt_put hR]; exact P.hc q
    · rw [up1_ne z]; exact P.hc q
  · rw [← P.ks q y, keysOf_mem, keysOf_mem]
    show (∃ t ∈ up1 D.H r _ q, _) ↔ _
    constructor
    · rintro ⟨t, ht, o, ho, he⟩
      rcases (hH q t).mp ht with h | ⟨rfl, rfl⟩
      · exact ⟨t, h, o, ho, he⟩
      · rw [show ((D.w_rS (up2 D.rS q t (some x))).w_H (up1 D.H q (putIn j t (D.H q)))).R q t = [] from hR] at ho; cases ho
    · rintro ⟨t, ht, o, ho, he⟩
      exact ⟨t, (hH q t).mpr (Or.inl ht), o, ho, he⟩
theorem pd_ins (P : PD D kH kR Ks) {s o j : Nat} (hs : s ∈ D.H r) (ho : o < 8) (hj : j ≤ (D.R r s).length) (U : Up (putIn j o (D.R r s))) (hn : o ∉ D.R r s) :
    PD ((D.w_R (up2 D.R r s (putIn j o (D.R r s)))).w_cn (up1 D.cn r (D.cn r + 1))) kH (kR + 1) (fun q y => Ks q y ∨ (q = r ∧ y = 8 * s + o)) := by
  have hR : ∀ q t y, y ∈ up2 D.R r s (putIn j o (D.R r s)) q t ↔ y ∈ D.R q t ∨ (q = r ∧ t = s ∧ y = o) := fun q t y => by
    by_cases z : q = r ∧ t = s
    · obtain ⟨rfl, rfl⟩ := z; rw [up2_same, putIn_mem]; constructor
      · rintro (h | h) <;> simp [h]
      · rintro (h | h) <;> simp [h]
    · rw [up2_ne z]; constructor
      · exact Or.inl
      · rintro (h | ⟨h1, h2, -⟩)
        · exact h
        · exact absurd ⟨h1, h2⟩ z
  have k1 : ∀ q y, y ∈ keysOf (D.H q) (up2 D.R r s (putIn j o (D.R r s)) q) ↔ Ks q y ∨ (q = r ∧ y = 8 * s + o) := fun q y => by
    rw [← P.ks q y, keysOf_mem, keysOf_mem]
    constructor
    · rintro ⟨t, ht, p, hp, rfl⟩
      rcases (hR q t p).mp hp with h | ⟨h1, rfl, rfl⟩
      · exact Or.inl ⟨t, ht, p, h, rfl⟩
      · exact Or.inr ⟨h1, rfl⟩
    · rintro (⟨t, ht, p, hp, rfl⟩ | ⟨rfl, rfl⟩)
      · exact ⟨t, ht, p, (hR q t p).mpr (Or.inl hp), rfl⟩
      · exact ⟨s, hs, o, (hR q s o).mpr (Or.inr ⟨rfl, rfl, rfl⟩), rfl⟩
  have u1 : ∀ q t, Up (up2 D.R r s (putIn j o (D.R r s)) q t) := fun q t => by
    by_cases z : q = r ∧ t = s
    · obtain ⟨rfl, rfl⟩ := z; rw [up2_same]; exact U
    · rw [up2_ne z]; exact P.R1 q t
  have b1 : ∀ q t, ∀ y ∈ up2 D.R r s (putIn j o (D.R r s)) q t, y < 8 := fun q t y hy => by
    rcases (hR q t y).mp hy with h | ⟨-, -, rfl⟩
    · exact P.R2 q t y h
    · exact ho
  refine ⟨P.H1, P.H2, P.H3, u1, b1, fun q t => ?_, fun q t ht => ?_, P.hx, P.ha, P.hn, fun q => ?_, fun q => ?_, k1⟩
  · show (up2 D.R r s _ q t).length ≤ _
    by_cases z : q = r ∧ t = s
    · obtain ⟨rfl, rfl⟩ := z; rw [up2_same, putIn_len hj]; exact Nat.succ_le_succ (P.R3 q t)
    · rw [up2_ne z]; exact Nat.le_succ_of_le (P.R3 q t)
  · by_cases z : q = r ∧ t = s
    · obtain ⟨rfl, rfl⟩ := z; exact hs
    · exact P.hs q t (fun y => ht ((up2_ne z).trans y))
  · show up1 D.cn r _ q = cntR (up2 D.R r s _ q) (D.H q)
    by_cases z : q = r
    · subst z
      rw [up1_same, P.hc q, ← keysOf_len, ← keysOf_len]
      refine (own_len1 (keysOf_up (P.H1 q) (P.R1 q) (P.R2 q)) (keysOf_up (P.H1 q) (u1 q) (b1 q)) (k := 8 * s + o) (fun y => ?_) (fun y => ?_)).symm
      · obtain ⟨t, ht, p, hp, e⟩ := (keysOf_mem _).mp y
        have := P.R2 q t p hp
        obtain rfl : t = s := by omega
        obtain rfl : p = o := by omega
        exact hn hp
      · rw [k1, ← P.ks q y]; constructor
        · rintro (h | h) <;> simp [h]
        · rintro (h | h) <;> simp [h]
    · rw [up1_ne z, P.hc q]
      have : up2 D.R r s (putIn j o (D.R r s)) q = D.R q := funext fun t => up2_ne fun y => z y.1
      rw [this]
  · show up1 D.cn r _ q ≤ _
    by_cases z : q = r
    · subst z; rw [up1_same]; exact Nat.succ_le_succ (P.cb q)
    · rw [up1_ne z]; exact Nat.le_succ_of_le (P.cb q)
theorem pd_o {s : Nat} {x a1 : Addr} (P : PD D kH kR Ks) (ha : D.aS r = some a1) : PD (D.w_rO (up2 D.rO r s (some x))) kH kR Ks := by
  refine ⟨P.H1, P.H2, P.H3, P.R1, P.R2, P.R3, P.hs, P.hx, P.ha, fun q hq => ?_, P.hc, P.cb, P.ks⟩
  have z : q ≠ r := fun z => by subst z; rw [ha] at hq; cases hq
  obtain ⟨g1, g2, g3⟩ := P.hn q hq
  exact ⟨g1, fun t => (up2_ne (fun y => z y.1)).trans (g2 t), g3⟩
theorem pd_k (P : PD D kH kR Ks) (k : Nat) : PD (D.w_k k) kH kR Ks := ⟨P.H1, P.H2, P.H3, P.R1, P.R2, P.R3, P.hs, P.hx, P.ha, P.hn, P.hc, P.cb, P.ks⟩
theorem pd_le (P : PD D kH kR Ks) {kH' kR' : Nat} (h1 : kH ≤ kH') (h2 : kR ≤ kR') : PD D kH' kR' Ks := ⟨P.H1, P.H2, fun q => Nat.le_trans (P.H3 q) h1, P.R1, P.R2, fun q t => Nat.le_trans (P.R3 q t) h2, P.hs, P.hx, P.ha, P.hn, P.hc, fun q => Nat.le_trans (P.cb q) h2, P.ks⟩
theorem pd_old (P : PD D kH kR Ks) {s o : Nat} (hs : s ∈ D.H r) (ho : o ∈ D.R r s) : PD D kH kR (fun q y => Ks q y ∨ (q = r ∧ y = 8 * s + o)) :=
  ⟨P.H1, P.H2, P.H3, P.R1, P.R2, P.R3, P.hs, P.hx, P.ha, P.hn, P.hc, P.cb, fun q y => by
    show _ ↔ (Ks q y ∨ _)
    rw [← P.ks q y]; refine ⟨Or.inl, ?_⟩
    rintro (h | ⟨rfl, rfl⟩)
    · exact h
    · exact (keysOf_mem _).mpr ⟨s, hs, o, ho, rfl⟩⟩
end OwnP

theorem own_i32 {x y : Int32} (h1 : ¬ x < y) (h2 : ¬ y < x) : x = y := by
  rw [Int32.lt_iff_toInt_lt] at h1 h2
  exact Int32.toInt_inj.mp (by omega)
theorem own_i32t {x y z : Int32} (h1 : x < y) (h2 : y < z) : x < z := by
  rw [Int32.lt_iff_toInt_lt] at h1 h2 ⊢; omega
def shF (n j : Nat) (f : Nat → Int32) : Nat → Int32 := fun q => if q ≤ j then f q else if q ≤ n then f (q - 1) else f q
theorem own_shift {n j : Nat} (f : Nat → Int32) (hj : j ≤ n) (hn : n ≤ 3) : (IL 4 f).take (j + 1) ++ (List.range (n - j)).map (fun i => (IL 4 f).getD (j + i) (.int 0)) ++ (IL 4 f).drop (j + 1 + (n - j)) = IL 4 (shF n j f) := by
  apply List.ext_getElem?
  intro q
  have e1 : ((IL 4 f).take (j + 1)).length = j + 1 := by simp [IL_len]; omega
  by_cases c1 : q < j + 1
  · rw [List.append_assoc, List.getElem?_append_left (by rw [e1]; exact c1), List.getElem?_take, if_pos c1, IL_at (show q < 4 by omega), IL_at (show q < 4 by omega)]
    unfold shF; rw [if_pos (by omega)]
  · rw [List.append_assoc, List.getElem?_append_right (by rw [e1]; omega), e1]
    by_cases c2 : q ≤ n
    · rw [List.getElem?_append_left (by simp; omega), List.getElem?_map, List.getElem?_range (by omega), IL_at (show q < 4 by omega)]
      simp only [Option.map_some, List.getD_eq_getElem?_getD]
      rw [IL_at (show j + (q - (j + 1)) < 4 by omega)]
      unfold shF; rw [if_neg (by omega), if_pos c2]; simp only [Option.getD_some]; congr 2
      congr 1; omega
    · rw [List.getElem?_append_right (by simp; omega), List.getElem?_drop]
      simp only [List.length_map, List.length_range]
      rw [show j + 1 + (n - j) + (q - (j + 1) - (n - j)) = q by omega]
      by_cases c3 : q < 4
      · rw [IL_at c3, IL_at c3]; unfold shF; rw [if_neg (by omega), if_neg c2]
      · rw [List.getElem?_eq_none (by rw [IL_len]; omega), List.getElem?_eq_none (by rw [IL_len]; omega)]
theorem own_exaNe {Z : State} {h : Heap} {x b : Addr} {ty : FieldType} {vs : List Value} {C : String} {n : Nat} {a0 : Array Value} (E : Exa Z h x C) (A : Ary Z h b ty vs) (w : (Jvm.Cond.instantiable C n).before a0 Z = true) : x ≠ b := Exa.neArv E A.2.choose_spec.choose_spec w

theorem own_z3 {z : Nat} (h : z < 64) : Int32.ofNat z >>> ((3 : Int32) &&& 31) = Int32.ofNat (z / 8) := (by decide +kernel : ∀ z : Fin 64, Int32.ofNat z.val >>> ((3 : Int32) &&& 31) = Int32.ofNat (z.val / 8)) ⟨z, h⟩
theorem own_z7 {z : Nat} (h : z < 64) : Int32.ofNat z &&& (7 : Int32) = Int32.ofNat (z % 8) := (by decide +kernel : ∀ z : Fin 64, Int32.ofNat z.val &&& (7 : Int32) = Int32.ofNat (z.val % 8)) ⟨z, h⟩
theorem own_low (x m : Int32) (k : Nat) (hm : m.toInt = k) (hk : k < 2 ^ 31) : ∃ d, d ≤ k ∧ x &&& m = Int32.ofNat d := by
  have h := c_and x m (by omega)
  refine ⟨(x &&& m).toInt.toNat, by omega, ?_⟩
  apply Int32.toInt_inj.mp
  rw [(own_nat (by omega)).2.2]; omega
theorem own_key_le {ρ r s o : Nat} (hs : s < 8) (ho : o < 8) : (if ρ = r then 8 * s + o else 1000) ≤ 1000 := by split <;> omega
theorem own_final {D : DD} {kH kR r : Nat} {ρ0 ρ1 ρ2 ρ3 s0 s1 s2 s3 o0 o1 o2 o3 : Nat} {Ks : Nat → Nat → Prop} (P : PD D kH kR Ks) (h0 : s0 < 8 ∧ o0 < 8) (h1 : s1 < 8 ∧ o1 < 8) (h2 : s2 < 8 ∧ o2 < 8) (h3 : s3 < 8 ∧ o3 < 8)
    (hK : ∀ x, Ks r x ↔ ((r = ρ0 ∧ x = 8 * s0 + o0) ∨ (r = ρ1 ∧ x = 8 * s1 + o1) ∨ (r = ρ2 ∧ x = 8 * s2 + o2) ∨ (r = ρ3 ∧ x = 8 * s3 + o3))) {t0 t1 t2 t3 : Nat} (l0 : t0 ≤ t1) (l1 : t1 ≤ t2) (l2 : t2 ≤ t3)
    (hm : ∀ x, (x = t0 ∨ x = t1 ∨ x = t2 ∨ x = t3) ↔ (x = (if ρ0 = r then 8 * s0 + o0 else 1000) ∨ x = (if ρ1 = r then 8 * s1 + o1 else 1000) ∨ x = (if ρ2 = r then 8 * s2 + o2 else 1000) ∨ x = (if ρ3 = r then 8 * s3 + o3 else 1000))) : keysOf (D.H r) (D.R r) = exOf t0 t1 t2 t3 := by
  refine Up.ext (keysOf_up (P.H1 r) (P.R1 r) (P.R2 r)) (exOf_up l0 l1 l2) fun x => ?_
  rw [P.ks r x, hK x, exOf_mem l0 l1 l2, hm x]
  have q : ∀ (ρ v : Nat), v < 1000 → ((x < 1000 ∧ x = (if ρ = r then v else 1000)) ↔ (r = ρ ∧ x = v)) := fun ρ v hv => by
    by_cases z : ρ = r
    · rw [if_pos z]; constructor
      · rintro ⟨-, h⟩; exact ⟨z.symm, h⟩
      · rintro ⟨-, h⟩; exact ⟨by omega, h⟩
    · rw [if_neg z]; constructor
      · rintro ⟨a, h⟩; omega
      · rintro ⟨h, -⟩; exact absurd h.symm z
  rw [← q ρ0 (8 * s0 + o0) (by omega), ← q ρ1 (8 * s1 + o1) (by omega), ← q ρ2 (8 * s2 + o2) (by omega), ← q ρ3 (8 * s3 + o3) (by omega)]
  constructor
  · rintro (⟨a, h⟩ | ⟨a, h⟩ | ⟨a, h⟩ | ⟨a, h⟩)
    · exact ⟨a, Or.inl h⟩
    · exact ⟨a, Or.inr (Or.inl h)⟩
    · exact ⟨a, Or.inr (Or.inr (Or.inl h))⟩
    · exact ⟨a, Or.inr (Or.inr (Or.inr h))⟩
  · rintro ⟨a, h | h | h | h⟩
    · exact Or.inl ⟨a, h⟩
    · exact Or.inr (Or.inl ⟨a, h⟩)
    · exact Or.inr (Or.inr (Or.inl ⟨a, h⟩))
    · exact Or.inr (Or.inr (Or.inr ⟨a, h⟩))

theorem own_exs {l : List Nat} {y : Nat → Int32} {v : Nat} (hy : ∀ p_ x_, l[p_]? = some x_ → y p_ = Int32.ofNat x_) : ∀ p_ x_, (l ++ [v])[p_]? = some x_ → (fun q => if q = l.length then Int32.ofNat v else y q) p_ = Int32.ofNat x_ := fun p_ x_ h => by
  show (if p_ = l.length then Int32.ofNat v else y p_) = _
  by_cases z : p_ < l.length
  · rw [List.getElem?_append_left z] at h; rw [if_neg (by omega)]; exact hy _ _ h
  · rw [List.getElem?_append_right (by omega)] at h
    have z2 : p_ - l.length = 0 := by
      have := (List.getElem?_eq_some_iff.mp h).1; simp at this; omega
    rw [z2] at h; rw [if_pos (by omega)]; simp at h; rw [h]
theorem own_zero {Z : State} {args : Array Value} {t : Term} {a : Addr} {cl : Cell} {ty : FieldType} (A : Arr Z Z.heap a cl ty) (et : t.eval args Z none [] Z = some (.ref a)) (h : (Term.length t).eval args Z none [] Z = some (.int 0)) : cl.slots.size = 0 := by
  simp only [Term.eval, Option.bind_eq_bind, et, Option.bind_some] at h
  obtain ⟨cell, hc, h⟩ := Option.bind_eq_some_iff.mp h
  have e1 : cell = cl := by
    simp only [State.arrayAt?, Option.bind_eq_bind] at hc
    obtain ⟨c1, g1, hc⟩ := Option.bind_eq_some_iff.mp hc
    obtain ⟨k1, g2, hc⟩ := Option.bind_eq_some_iff.mp hc
    split at hc
    · cases hc
    · split at hc
      · cases hc; exact Option.some.inj (g1.symm.trans A.1)
      · cases hc
  subst e1
  by_cases hn : cell.slots.size < 2 ^ 31
  · have h2 : Value.int cell.slots.size.toInt32 = .int 0 := by
      have h3 := h; simp only [hn, if_true, Option.pure_def, Option.some.injEq] at h3; exact h3
    have h4 : Int32.ofNat cell.slots.size = Int32.ofNat 0 := Value.int.inj h2
    exact (own_eq hn (by decide)).mp h4
  · simp only [hn, if_false] at h; cases h
theorem own_empty {Z : State} {a : Addr} {cl : Cell} {ty : FieldType} (A : Arr Z Z.heap a cl ty) (hz : cl.slots.size = 0) (d : Value) : Ary Z Z.heap a ty [] :=
  ⟨by decide, cl.cls, d, cl, A, rfl, hz, by decide, fun i hi => by rw [hz] at hi; exact absurd hi (Nat.not_lt_zero i), fun i hi => by rw [hz] at hi; exact absurd hi (Nat.not_lt_zero i)⟩

theorem pd__28III_29V : parseMethodDescriptor "(III)V" = some ⟨[.int, .int, .int], none⟩ := by decide +kernel
theorem pd__28_5bIIII_29I : parseMethodDescriptor "([IIII)I" = some ⟨[(.array .int), .int, .int, .int], some .int⟩ := by decide +kernel
theorem pd__28I_29I : parseMethodDescriptor "(I)I" = some ⟨[.int], some .int⟩ := by decide +kernel
theorem pd__28II_29Z : parseMethodDescriptor "(II)Z" = some ⟨[.int, .int], some .boolean⟩ := by decide +kernel
theorem pd__28Z_29V : parseMethodDescriptor "(Z)V" = some ⟨[.boolean], none⟩ := by decide +kernel
theorem pd__28II_29V : parseMethodDescriptor "(II)V" = some ⟨[.int, .int], none⟩ := by decide +kernel
theorem pd__28IIII_29V : parseMethodDescriptor "(IIII)V" = some ⟨[.int, .int, .int, .int], none⟩ := by decide +kernel
theorem pd__28I_29_5bI : parseMethodDescriptor "(I)[I" = some ⟨[.int], some (.array .int)⟩ := by decide +kernel
theorem pd__28II_29I : parseMethodDescriptor "(II)I" = some ⟨[.int, .int], some .int⟩ := by decide +kernel
theorem pd__28_5bII_5bII_29Z : parseMethodDescriptor "([II[II)Z" = some ⟨[(.array .int), .int, (.array .int), .int], some .boolean⟩ := by decide +kernel
theorem drck_0 : decode jdk_65_method_30_code 0 = .ok (.iload_n 1, 1) := by decide +kernel
theorem drck_1 : decode jdk_65_method_30_code 1 = .ok (.iload_n 2, 1) := by decide +kernel
theorem drck_2 : decode jdk_65_method_30_code 2 = .ok (.if_icmp .le 44, 3) := by decide +kernel
theorem drck_46 : decode jdk_65_method_30_code 46 = .ok (.iload_n 1, 1) := by decide +kernel
theorem drck_47 : decode jdk_65_method_30_code 47 = .ok (.ifCond .ge 12, 3) := by decide +kernel
theorem drck_59 : decode jdk_65_method_30_code 59 = .ok (.iload_n 2, 1) := by decide +kernel
theorem drck_60 : decode jdk_65_method_30_code 60 = .ok (.iload_n 0, 1) := by decide +kernel
theorem drck_61 : decode jdk_65_method_30_code 61 = .ok (.if_icmp .le 12, 3) := by decide +kernel
theorem drck_73 : decode jdk_65_method_30_code 73 = .ok (.return_, 1) := by decide +kernel
theorem pn_rck : plainFor (⟨"java/util/Arrays", "rangeCheck", "(III)V"⟩ : MethodName) = true := by first | exact plainFor_of_name (by first | (simp [plainName, overriddenIn]; done) | decide +kernel) | decide +kernel
theorem ef_rck (m : MethodId) (x0 : Int32) (x1 : Int32) (x2 : Int32) : entryFrame m #[(.int x0), (.int x1), (.int x2)] 3 = mkF m 0 #[iv x0, iv x1, iv x2] [] := by first | (simp [entryFrame, mkF, argsToLocals, Value.category]; done) | rfl
set_option maxRecDepth 65536 in
set_option maxHeartbeats 40000000 in
theorem rm_rck (l : Launch) (Z : State) (a0 : Array Value) (hw : ∀ d ∈ tables_1, d.before a0 Z = true) (ws : List Jvm.Cond) (n : Nat) (h0 : Heap) (hn : n ≤ 4) :
    Mt l Z (⟨"java/util/Arrays", "rangeCheck", "(III)V"⟩ : MethodName) jdk_65_method_30_code 3 none ws ({ frames := 0, cells := 0, slots := 0, locals := 0 } : Room) #[(.int (Int32.ofNat 4)), (.int (0 : Int32)), (.int (Int32.ofNat n))] h0 (fun v h L => v = none ∧ h = h0 ∧ L = []) := by
  refine Mt.body pn_rck ?_
  intro p e s m below meth c s₁ hx hby hml hown hnm hret hlk hZ X0 e0
  refine Go.cast (g' := (mkF m 0 #[iv (Int32.ofNat 4), iv (0 : Int32), iv (Int32.ofNat n)] [])) (ef_rck m (Int32.ofNat 4) (0 : Int32) (Int32.ofNat n)) ?_
  have N0 := Fr.nil 0
  refine Go.st (T' := s₁) (g' := (mkF m 73 #[iv (Int32.ofNat 4), iv (0 : Int32), iv (Int32.ofNat n)] [])) ?_ (fun _ kk_ => XS.iloadN X0.here hx rfl (hb hby drck_0) rfl  (XS.iloadN X0.here hx rfl (hb hby drck_1) rfl  (XS.icmpYes X0.here hx rfl (pc0 := 2) (pc' := 46) rfl (hb hby drck_2) rfl (flt ((fun z => by have := (own_lt (i := n) (n := 0) (by omega) (by decide)).mp z; omega) : ¬ ((Int32.ofNat n) < (0 : Int32)))).2.2.2 (by decide) (by decide) (XS.iloadN X0.here hx rfl (hb hby drck_46) rfl  (XS.ifYes X0.here hx rfl (pc0 := 47) (pc' := 59) rfl (hb hby drck_47) rfl ((if0 _ _).trans (flt ((by decide) : ¬ ((0 : Int32) < (0 : Int32)))).2.1) (by decide) (by decide) (XS.iloadN X0.here hx rfl (hb hby drck_59) rfl  (XS.iloadN X0.here hx rfl (hb hby drck_60) rfl  (XS.icmpYes X0.here hx rfl (pc0 := 61) (pc' := 73) rfl (hb hby drck_61) rfl (flt ((fun z => by have := (own_lt (i := 4) (n := n) (by decide) (by omega)).mp z; omega) : ¬ ((Int32.ofNat 4) < (Int32.ofNat n)))).2.2.2 (by decide) (by decide) kk_))))))))
  refine Go.retV X0 hx hlk hret (hb hby drck_73) (by decide) (by decide) ?_
  try rw [e0]
  exact ⟨rfl, rfl, rfl⟩
theorem dbs0_0 : decode jdk_65_method_59_code 0 = .ok (.iload_n 1, 1) := by decide +kernel
theorem dbs0_1 : decode jdk_65_method_59_code 1 = .ok (.istore 4, 2) := by decide +kernel
theorem dbs0_3 : decode jdk_65_method_59_code 3 = .ok (.iload_n 2, 1) := by decide +kernel
theorem dbs0_4 : decode jdk_65_method_59_code 4 = .ok (.iconst 1, 1) := by decide +kernel
theorem dbs0_5 : decode jdk_65_method_59_code 5 = .ok (.isub, 1) := by decide +kernel
theorem dbs0_6 : decode jdk_65_method_59_code 6 = .ok (.istore 5, 2) := by decide +kernel
theorem dbs0_8 : decode jdk_65_method_59_code 8 = .ok (.iload 4, 2) := by decide +kernel
theorem dbs0_10 : decode jdk_65_method_59_code 10 = .ok (.iload 5, 2) := by decide +kernel
theorem dbs0_12 : decode jdk_65_method_59_code 12 = .ok (.if_icmp .gt 54, 3) := by decide +kernel
theorem dbs0_15 : decode jdk_65_method_59_code 15 = .ok (.iload 4, 2) := by decide +kernel
theorem dbs0_17 : decode jdk_65_method_59_code 17 = .ok (.iload 5, 2) := by decide +kernel
theorem dbs0_19 : decode jdk_65_method_59_code 19 = .ok (.iadd, 1) := by decide +kernel
theorem dbs0_20 : decode jdk_65_method_59_code 20 = .ok (.iconst 1, 1) := by decide +kernel
theorem dbs0_21 : decode jdk_65_method_59_code 21 = .ok (.iushr, 1) := by decide +kernel
theorem dbs0_22 : decode jdk_65_method_59_code 22 = .ok (.istore 6, 2) := by decide +kernel
theorem dbs0_24 : decode jdk_65_method_59_code 24 = .ok (.aload_n 0, 1) := by decide +kernel
theorem dbs0_25 : decode jdk_65_method_59_code 25 = .ok (.iload 6, 2) := by decide +kernel
theorem dbs0_27 : decode jdk_65_method_59_code 27 = .ok (.iaload, 1) := by decide +kernel
theorem dbs0_28 : decode jdk_65_method_59_code 28 = .ok (.istore 7, 2) := by decide +kernel
theorem dbs0_30 : decode jdk_65_method_59_code 30 = .ok (.iload 7, 2) := by decide +kernel
theorem dbs0_32 : decode jdk_65_method_59_code 32 = .ok (.iload_n 3, 1) := by decide +kernel
theorem dbs0_33 : decode jdk_65_method_59_code 33 = .ok (.if_icmp .ge 12, 3) := by decide +kernel
theorem dbs0_36 : decode jdk_65_method_59_code 36 = .ok (.iload 6, 2) := by decide +kernel
theorem dbs0_38 : decode jdk_65_method_59_code 38 = .ok (.iconst 1, 1) := by decide +kernel
theorem dbs0_39 : decode jdk_65_method_59_code 39 = .ok (.iadd, 1) := by decide +kernel
theorem dbs0_40 : decode jdk_65_method_59_code 40 = .ok (.istore 4, 2) := by decide +kernel
theorem dbs0_42 : decode jdk_65_method_59_code 42 = .ok (.goto 21, 3) := by decide +kernel
theorem dbs0_45 : decode jdk_65_method_59_code 45 = .ok (.iload 7, 2) := by decide +kernel
theorem dbs0_47 : decode jdk_65_method_59_code 47 = .ok (.iload_n 3, 1) := by decide +kernel
theorem dbs0_48 : decode jdk_65_method_59_code 48 = .ok (.if_icmp .le 12, 3) := by decide +kernel
theorem dbs0_51 : decode jdk_65_method_59_code 51 = .ok (.iload 6, 2) := by decide +kernel
theorem dbs0_53 : decode jdk_65_method_59_code 53 = .ok (.iconst 1, 1) := by decide +kernel
theorem dbs0_54 : decode jdk_65_method_59_code 54 = .ok (.isub, 1) := by decide +kernel
theorem dbs0_55 : decode jdk_65_method_59_code 55 = .ok (.istore 5, 2) := by decide +kernel
theorem dbs0_57 : decode jdk_65_method_59_code 57 = .ok (.goto 6, 3) := by decide +kernel
theorem dbs0_60 : decode jdk_65_method_59_code 60 = .ok (.iload 6, 2) := by decide +kernel
theorem dbs0_62 : decode jdk_65_method_59_code 62 = .ok (.ireturn, 1) := by decide +kernel
theorem dbs0_63 : decode jdk_65_method_59_code 63 = .ok (.goto (-55), 3) := by decide +kernel
theorem dbs0_66 : decode jdk_65_method_59_code 66 = .ok (.iload 4, 2) := by decide +kernel
theorem dbs0_68 : decode jdk_65_method_59_code 68 = .ok (.iconst 1, 1) := by decide +kernel
theorem dbs0_69 : decode jdk_65_method_59_code 69 = .ok (.iadd, 1) := by decide +kernel
theorem dbs0_70 : decode jdk_65_method_59_code 70 = .ok (.ineg, 1) := by decide +kernel
theorem dbs0_71 : decode jdk_65_method_59_code 71 = .ok (.ireturn, 1) := by decide +kernel
theorem pn_bs0 : plainFor (⟨"java/util/Arrays", "binarySearch0", "([IIII)I"⟩ : MethodName) = true := by first | exact plainFor_of_name (by first | (simp [plainName, overriddenIn]; done) | decide +kernel) | decide +kernel
theorem ef_bs0 (m : MethodId) (x0 : Addr) (x1 : Int32) (x2 : Int32) (x3 : Int32) : entryFrame m #[(.ref x0), (.int x1), (.int x2), (.int x3)] 8 = mkF m 0 #[rv x0, iv x1, iv x2, iv x3, .unset, .unset, .unset, .unset] [] := by first | (simp [entryFrame, mkF, argsToLocals, Value.category]; done) | rfl
set_option maxRecDepth 65536 in
set_option maxHeartbeats 40000000 in
theorem rm_bs0 (l : Launch) (Z : State) (a0 : Array Value) (hw : ∀ d ∈ tables_1, d.before a0 Z = true) (ws : List Jvm.Cond) (ids : Addr) (n : Nat) (f : Nat → Int32) (key : Int32) (h0 : Heap) (hn : n ≤ 4) (V_i : Ary Z h0 ids .int (IL 4 f)) :
    Mt l Z (⟨"java/util/Arrays", "binarySearch0", "([IIII)I"⟩ : MethodName) jdk_65_method_59_code 8 (some .int) ws ({ frames := 0, cells := 0, slots := 0, locals := 0 } : Room) #[(.ref ids), (.int (0 : Int32)), (.int (Int32.ofNat n)), (.int key)] h0 (fun v h L => ∃ x, v = some (.int x) ∧ h = h0 ∧ L = [] ∧ ((∃ i, i < n ∧ x = Int32.ofNat i ∧ f i = key) ∨ ∃ j, j ≤ n ∧ x = -(Int32.ofNat j + 1) ∧ (Mono n f → (∀ i, i < j → f i < key) ∧ ∀ i, j ≤ i → i < n → key < f i))) := by
  refine Mt.body pn_bs0 ?_
  intro p e s m below meth c s₁ hx hby hml hown hnm hret hlk hZ X0 e0
  refine Go.cast (g' := (mkF m 0 #[rv ids, iv (0 : Int32), iv (Int32.ofNat n), iv key, .unset, .unset, .unset, .unset] [])) (ef_bs0 m ids (0 : Int32) (Int32.ofNat n) key) ?_
  have N0 := Fr.nil 0
  refine Go.st (T' := s₁) (g' := (mkF m 8 #[rv ids, iv (0 : Int32), iv (Int32.ofNat n), iv key, iv (0 : Int32), iv ((Int32.ofNat n) - (1 : Int32)), .unset, .unset] [])) ?_ (fun _ kk_ => XS.iloadN X0.here hx rfl (hb hby dbs0_0) rfl  (XS.istore X0.here hx rfl (hb hby dbs0_1) rfl (l' := #[rv ids, iv (0 : Int32), iv (Int32.ofNat n), iv key, iv (0 : Int32), .unset, .unset, .unset]) rfl (XS.iloadN X0.here hx rfl (hb hby dbs0_3) rfl  (XS.iconst X0.here hx rfl (hb hby dbs0_4) (XS.isub X0.here hx rfl (hb hby dbs0_5) rfl (XS.istore X0.here hx rfl (hb hby dbs0_6) rfl (l' := #[rv ids, iv (0 : Int32), iv (Int32.ofNat n), iv key, iv (0 : Int32), iv ((Int32.ofNat n) - (1 : Int32)), .unset, .unset]) rfl kk_))))))
  have loop : ∀ (r lo hi : Nat) (s6 s7 : Slot), hi - lo ≤ r → lo ≤ hi → hi ≤ n → (Mono n f → (∀ i, i < lo → f i < key) ∧ ∀ i, hi ≤ i → i < n → key < f i) → One s6 → One s7 → Go p e below (Wf s 0 0 (fun v h L => ∃ x, v = some (.int x) ∧ h = h0 ∧ L = [] ∧ ((∃ i, i < n ∧ x = Int32.ofNat i ∧ f i = key) ∨ ∃ j, j ≤ n ∧ x = -(Int32.ofNat j + 1) ∧ (Mono n f → (∀ i, i < j → f i < key) ∧ ∀ i, j ≤ i → i < n → key < f i)))) s₁ (mkF m 8 #[rv ids, iv (0 : Int32), iv (Int32.ofNat n), iv key, iv (Int32.ofNat lo), iv (Int32.ofNat hi - (1 : Int32)), s6, s7] []) := by
    intro r
    induction r with
    | zero =>
      intro lo hi s6 s7 hr h1 h2 hm hs6 hs7
      refine Go.st (T' := s₁) (g' := (mkF m 71 #[rv ids, iv (0 : Int32), iv (Int32.ofNat n), iv key, iv (Int32.ofNat lo), iv (Int32.ofNat hi - (1 : Int32)), s6, s7] [(.int (-((Int32.ofNat lo) + (1 : Int32))))])) ?_ (fun _ kk_ => XS.iload X0.here hx rfl (hb hby dbs0_8) rfl  (XS.iload X0.here hx rfl (hb hby dbs0_10) rfl  (XS.icmpYes X0.here hx rfl (pc0 := 12) (pc' := 66) rfl (hb hby dbs0_12) rfl (tlt (((own_bsgt (by omega) (by omega)).mpr (by omega)) : (Int32.ofNat hi - (1 : Int32)) < (Int32.ofNat lo))).2.2.1 (by decide) (by decide) (XS.iload X0.here hx rfl (hb hby dbs0_66) rfl  (XS.iconst X0.here hx rfl (hb hby dbs0_68) (XS.iadd X0.here hx rfl (hb hby dbs0_69) rfl (XS.ineg X0.here hx rfl (hb hby dbs0_70) rfl kk_)))))))
      refine Go.retI X0 hx hlk hret (hb hby dbs0_71) (by decide) (by decide) ?_
      try rw [e0]
      exact ⟨_, rfl, rfl, rfl, Or.inr ⟨lo, by omega, rfl, fun M => ⟨(hm M).1, fun i hi1 hi2 => (hm M).2 i (by omega) hi2⟩⟩⟩
    | succ r ih =>
      intro lo hi s6 s7 hr h1 h2 hm hs6 hs7
      refine Go.st (T' := s₁) (g' := (mkF m 12 #[rv ids, iv (0 : Int32), iv (Int32.ofNat n), iv key, iv (Int32.ofNat lo), iv (Int32.ofNat hi - (1 : Int32)), s6, s7] [(.int (Int32.ofNat hi - (1 : Int32))), (.int (Int32.ofNat lo))])) ?_ (fun _ kk_ => XS.iload X0.here hx rfl (hb hby dbs0_8) rfl  (XS.iload X0.here hx rfl (hb hby dbs0_10) rfl  kk_))
      by_cases hlt : lo < hi
      ·
        refine Go.st (T' := s₁) (g' := (mkF m 22 #[rv ids, iv (0 : Int32), iv (Int32.ofNat n), iv key, iv (Int32.ofNat lo), iv (Int32.ofNat hi - (1 : Int32)), s6, s7] [(.int ((((Int32.ofNat lo) + (Int32.ofNat hi - (1 : Int32))).toUInt32 >>> ((1 : Int32) &&& 31).toUInt32).toInt32))])) ?_ (fun _ kk_ => XS.icmpNo X0.here hx rfl (hb hby dbs0_12) rfl (flt ((fun z => by have := (own_bsgt (by omega) (by omega)).mp z; omega) : ¬ ((Int32.ofNat hi - (1 : Int32)) < (Int32.ofNat lo)))).2.2.1 (XS.iload X0.here hx rfl (hb hby dbs0_15) rfl  (XS.iload X0.here hx rfl (hb hby dbs0_17) rfl  (XS.iadd X0.here hx rfl (hb hby dbs0_19) rfl (XS.iconst X0.here hx rfl (hb hby dbs0_20) (XS.iushr X0.here hx rfl (hb hby dbs0_21) rfl kk_))))))
        obtain ⟨mid, hmid⟩ : ∃ mid, mid = (lo + hi - 1) / 2 := ⟨_, rfl⟩
        rw [own_bsmid hlt (by omega), ← hmid]
        show Go p e below _ s₁ (mkF m 22 #[rv ids, iv (0 : Int32), iv (Int32.ofNat n), iv key, iv (Int32.ofNat lo), iv (Int32.ofNat hi - (1 : Int32)), s6, s7] [(.int (Int32.ofNat mid))])
        refine Go.st (T' := s₁) (g' := (mkF m 33 #[rv ids, iv (0 : Int32), iv (Int32.ofNat n), iv key, iv (Int32.ofNat lo), iv (Int32.ofNat hi - (1 : Int32)), iv (Int32.ofNat mid), iv (f mid)] [(.int key), (.int (f mid))])) ?_ (fun _ kk_ => XS.istore X0.here hx rfl (hb hby dbs0_22) rfl (l' := #[rv ids, iv (0 : Int32), iv (Int32.ofNat n), iv key, iv (Int32.ofNat lo), iv (Int32.ofNat hi - (1 : Int32)), iv (Int32.ofNat mid), s7]) (by rcases hs6 with rfl | ⟨w, rfl, hw_⟩ <;> first | rfl | (cases w <;> first | rfl | (simp [Value.category] at hw_))) (XS.aloadN X0.here hx rfl (hb hby dbs0_24) rfl rfl  (XS.iload X0.here hx rfl (hb hby dbs0_25) rfl  (own_iaload X0 hx hZ e0 V_i (i := mid) (v := (.int (f mid))) (IL_at (by omega)) rfl rfl rfl (hb hby dbs0_27) (XS.istore X0.here hx rfl (hb hby dbs0_28) rfl (l' := #[rv ids, iv (0 : Int32), iv (Int32.ofNat n), iv key, iv (Int32.ofNat lo), iv (Int32.ofNat hi - (1 : Int32)), iv (Int32.ofNat mid), iv (f mid)]) (by rcases hs7 with rfl | ⟨w, rfl, hw_⟩ <;> first | rfl | (cases w <;> first | rfl | (simp [Value.category] at hw_))) (XS.iload X0.here hx rfl (hb hby dbs0_30) rfl  (XS.iloadN X0.here hx rfl (hb hby dbs0_32) rfl  kk_)))))))
        by_cases hc1 : (f mid) < key
        ·
          refine Go.st (T' := s₁) (g' := (mkF m 63 #[rv ids, iv (0 : Int32), iv (Int32.ofNat n), iv key, iv ((Int32.ofNat mid) + (1 : Int32)), iv (Int32.ofNat hi - (1 : Int32)), iv (Int32.ofNat mid), iv (f mid)] [])) ?_ (fun _ kk_ => XS.icmpNo X0.here hx rfl (hb hby dbs0_33) rfl (tlt (hc1 : (f mid) < key)).2.1 (XS.iload X0.here hx rfl (hb hby dbs0_36) rfl  (XS.iconst X0.here hx rfl (hb hby dbs0_38) (XS.iadd X0.here hx rfl (hb hby dbs0_39) rfl (XS.istore X0.here hx rfl (hb hby dbs0_40) rfl (l' := #[rv ids, iv (0 : Int32), iv (Int32.ofNat n), iv key, iv ((Int32.ofNat mid) + (1 : Int32)), iv (Int32.ofNat hi - (1 : Int32)), iv (Int32.ofNat mid), iv (f mid)]) rfl (XS.goto X0.here hx rfl (pc0 := 42) (pc' := 63) rfl (hb hby dbs0_42) (by decide) (by decide) kk_))))))
          rw [show Int32.ofNat mid + (1 : Int32) = Int32.ofNat (mid + 1) from own_add mid 1]
          show Go p e below _ s₁ (mkF m 63 #[rv ids, iv (0 : Int32), iv (Int32.ofNat n), iv key, iv (Int32.ofNat (mid + 1)), iv (Int32.ofNat hi - (1 : Int32)), iv (Int32.ofNat mid), iv (f mid)] [])
          refine Go.st (T' := s₁) (g' := (mkF m 8 #[rv ids, iv (0 : Int32), iv (Int32.ofNat n), iv key, iv (Int32.ofNat (mid + 1)), iv (Int32.ofNat hi - (1 : Int32)), iv (Int32.ofNat mid), iv (f mid)] [])) ?_ (fun _ kk_ => XS.goto X0.here hx rfl (pc0 := 63) (pc' := 8) rfl (hb hby dbs0_63) (by decide) (by decide) kk_)
          exact ih (mid + 1) hi _ _ (by omega) (by omega) h2 (fun M => ⟨fun i hi1 => by
            rcases Nat.lt_or_ge i mid with z | z
            · exact own_i32t (M i mid z (by omega)) hc1
            · obtain rfl : i = mid := by omega
              exact hc1, (hm M).2⟩) (One.val rfl) (One.val rfl)
        ·
          refine Go.st (T' := s₁) (g' := (mkF m 48 #[rv ids, iv (0 : Int32), iv (Int32.ofNat n), iv key, iv (Int32.ofNat lo), iv (Int32.ofNat hi - (1 : Int32)), iv (Int32.ofNat mid), iv (f mid)] [(.int key), (.int (f mid))])) ?_ (fun _ kk_ => XS.icmpYes X0.here hx rfl (pc0 := 33) (pc' := 45) rfl (hb hby dbs0_33) rfl (flt (hc1 : ¬ ((f mid) < key))).2.1 (by decide) (by decide) (XS.iload X0.here hx rfl (hb hby dbs0_45) rfl  (XS.iloadN X0.here hx rfl (hb hby dbs0_47) rfl  kk_)))
          by_cases hc2 : key < (f mid)
          ·
            refine Go.st (T' := s₁) (g' := (mkF m 8 #[rv ids, iv (0 : Int32), iv (Int32.ofNat n), iv key, iv (Int32.ofNat lo), iv ((Int32.ofNat mid) - (1 : Int32)), iv (Int32.ofNat mid), iv (f mid)] [])) ?_ (fun _ kk_ => XS.icmpNo X0.here hx rfl (hb hby dbs0_48) rfl (tlt (hc2 : key < (f mid))).2.2.2 (XS.iload X0.here hx rfl (hb hby dbs0_51) rfl  (XS.iconst X0.here hx rfl (hb hby dbs0_53) (XS.isub X0.here hx rfl (hb hby dbs0_54) rfl (XS.istore X0.here hx rfl (hb hby dbs0_55) rfl (l' := #[rv ids, iv (0 : Int32), iv (Int32.ofNat n), iv key, iv (Int32.ofNat lo), iv ((Int32.ofNat mid) - (1 : Int32)), iv (Int32.ofNat mid), iv (f mid)]) rfl (XS.goto X0.here hx rfl (pc0 := 57) (pc' := 63) rfl (hb hby dbs0_57) (by decide) (by decide) (XS.goto X0.here hx rfl (pc0 := 63) (pc' := 8) rfl (hb hby dbs0_63) (by decide) (by decide) kk_)))))))
            exact ih lo mid _ _ (by omega) (by omega) (by omega) (fun M => ⟨(hm M).1, fun i hi1 hi2 => by
              rcases Nat.lt_or_ge mid i with z | z
              · exact own_i32t hc2 (M mid i z hi2)
              · obtain rfl : i = mid := by omega
                exact hc2⟩) (One.val rfl) (One.val rfl)
          ·
            refine Go.st (T' := s₁) (g' := (mkF m 62 #[rv ids, iv (0 : Int32), iv (Int32.ofNat n), iv key, iv (Int32.ofNat lo), iv (Int32.ofNat hi - (1 : Int32)), iv (Int32.ofNat mid), iv (f mid)] [(.int (Int32.ofNat mid))])) ?_ (fun _ kk_ => XS.icmpYes X0.here hx rfl (pc0 := 48) (pc' := 60) rfl (hb hby dbs0_48) rfl (flt (hc2 : ¬ (key < (f mid)))).2.2.2 (by decide) (by decide) (XS.iload X0.here hx rfl (hb hby dbs0_60) rfl  kk_))
            refine Go.retI X0 hx hlk hret (hb hby dbs0_62) (by decide) (by decide) ?_
            try rw [e0]
            exact ⟨_, rfl, rfl, rfl, Or.inl ⟨mid, by omega, rfl, own_i32 hc1 hc2⟩⟩
      ·
        refine Go.st (T' := s₁) (g' := (mkF m 71 #[rv ids, iv (0 : Int32), iv (Int32.ofNat n), iv key, iv (Int32.ofNat lo), iv (Int32.ofNat hi - (1 : Int32)), s6, s7] [(.int (-((Int32.ofNat lo) + (1 : Int32))))])) ?_ (fun _ kk_ => XS.icmpYes X0.here hx rfl (pc0 := 12) (pc' := 66) rfl (hb hby dbs0_12) rfl (tlt (((own_bsgt (by omega) (by omega)).mpr (by omega)) : (Int32.ofNat hi - (1 : Int32)) < (Int32.ofNat lo))).2.2.1 (by decide) (by decide) (XS.iload X0.here hx rfl (hb hby dbs0_66) rfl  (XS.iconst X0.here hx rfl (hb hby dbs0_68) (XS.iadd X0.here hx rfl (hb hby dbs0_69) rfl (XS.ineg X0.here hx rfl (hb hby dbs0_70) rfl kk_)))))
        refine Go.retI X0 hx hlk hret (hb hby dbs0_71) (by decide) (by decide) ?_
        try rw [e0]
        exact ⟨_, rfl, rfl, rfl, Or.inr ⟨lo, by omega, rfl, fun M => ⟨(hm M).1, fun i hi1 hi2 => (hm M).2 i (by omega) hi2⟩⟩⟩
  exact loop n 0 n _ _ (by omega) (Nat.zero_le _) (Nat.le_refl _) (fun M => ⟨fun i z => absurd z (Nat.not_lt_zero i), fun i z1 z2 => by omega⟩) One.u One.u
theorem dbs_0 : decode jdk_65_method_58_code 0 = .ok (.aload_n 0, 1) := by decide +kernel
theorem dbs_1 : decode jdk_65_method_58_code 1 = .ok (.arraylength, 1) := by decide +kernel
theorem dbs_2 : decode jdk_65_method_58_code 2 = .ok (.iload_n 1, 1) := by decide +kernel
theorem dbs_3 : decode jdk_65_method_58_code 3 = .ok (.iload_n 2, 1) := by decide +kernel
theorem dbs_4 : decode jdk_65_method_58_code 4 = .ok (.invokestatic 13, 3) := by decide +kernel
theorem dbs_7 : decode jdk_65_method_58_code 7 = .ok (.aload_n 0, 1) := by decide +kernel
theorem dbs_8 : decode jdk_65_method_58_code 8 = .ok (.iload_n 1, 1) := by decide +kernel
theorem dbs_9 : decode jdk_65_method_58_code 9 = .ok (.iload_n 2, 1) := by decide +kernel
theorem dbs_10 : decode jdk_65_method_58_code 10 = .ok (.iload_n 3, 1) := by decide +kernel
theorem dbs_11 : decode jdk_65_method_58_code 11 = .ok (.invokestatic 209, 3) := by decide +kernel
theorem dbs_14 : decode jdk_65_method_58_code 14 = .ok (.ireturn, 1) := by decide +kernel
theorem pn_bs : plainFor (⟨"java/util/Arrays", "binarySearch", "([IIII)I"⟩ : MethodName) = true := by first | exact plainFor_of_name (by first | (simp [plainName, overriddenIn]; done) | decide +kernel) | decide +kernel
theorem ef_bs (m : MethodId) (x0 : Addr) (x1 : Int32) (x2 : Int32) (x3 : Int32) : entryFrame m #[(.ref x0), (.int x1), (.int x2), (.int x3)] 4 = mkF m 0 #[rv x0, iv x1, iv x2, iv x3] [] := by first | (simp [entryFrame, mkF, argsToLocals, Value.category]; done) | rfl
set_option maxRecDepth 65536 in
set_option maxHeartbeats 40000000 in
theorem rm_bs (l : Launch) (Z : State) (a0 : Array Value) (hw : ∀ d ∈ tables_1, d.before a0 Z = true) (ws : List Jvm.Cond) (ids : Addr) (n : Nat) (f : Nat → Int32) (key : Int32) (h0 : Heap) (hn : n ≤ 4) (V_i : Ary Z h0 ids .int (IL 4 f)) :
    Mt l Z (⟨"java/util/Arrays", "binarySearch", "([IIII)I"⟩ : MethodName) jdk_65_method_58_code 4 (some .int) ws ({ frames := 1, cells := 0, slots := 0, locals := 19 } : Room) #[(.ref ids), (.int (0 : Int32)), (.int (Int32.ofNat n)), (.int key)] h0 (fun v h L => ∃ x, v = some (.int x) ∧ h = h0 ∧ L = [] ∧ ((∃ i, i < n ∧ x = Int32.ofNat i ∧ f i = key) ∨ ∃ j, j ≤ n ∧ x = -(Int32.ofNat j + 1) ∧ (Mono n f → (∀ i, i < j → f i < key) ∧ ∀ i, j ≤ i → i < n → key < f i))) := by
  refine Mt.body pn_bs ?_
  intro p e s m below meth c s₁ hx hby hml hown hnm hret hlk hZ X0 e0
  refine Go.cast (g' := (mkF m 0 #[rv ids, iv (0 : Int32), iv (Int32.ofNat n), iv key] [])) (ef_bs m ids (0 : Int32) (Int32.ofNat n) key) ?_
  have N0 := Fr.nil 0
  refine Go.st (T' := s₁) (g' := (mkF m 4 #[rv ids, iv (0 : Int32), iv (Int32.ofNat n), iv key] [(.int (Int32.ofNat n)), (.int (0 : Int32)), (.int (Int32.ofNat 4))])) ?_ (fun _ kk_ => XS.aloadN X0.here hx rfl (hb hby dbs_0) rfl rfl  (own_alen X0 hx hZ e0 V_i (IL_len _ _) rfl rfl (hb hby dbs_1) (XS.iloadN X0.here hx rfl (hb hby dbs_2) rfl  (XS.iloadN X0.here hx rfl (hb hby dbs_3) rfl  kk_))))
  refine Go.callS (y := (⟨"java/util/Arrays", "rangeCheck", "(III)V"⟩ : MethodName)) X0 hx hZ hown (hw _ (List.mem_of_getElem? (i := 57) rfl)) (hw _ (List.mem_of_getElem? (i := 58) rfl)) (hw _ (List.mem_of_getElem? (i := 55) rfl)) (hw _ (List.mem_of_getElem? (i := 59) rfl)) (by decide) 0 (rm_rck l Z a0 hw [] n h0 hn) e0 (by decide) (by decide) (by decide) (by decide) (argsL := [(.int (Int32.ofNat 4)), (.int (0 : Int32)), (.int (Int32.ofNat n))]) (rest := []) rfl (by rw [hml]; rfl) (lenOf pd__28III_29V rfl) rfl rfl (by show 2 * 0 + _ ≤ _; exact Nat.le_of_eq rfl) (hb hby dbs_4) ?_
  rintro _ T1 L1 X1 ⟨rfl, e1, rfl⟩
  have N2 := Fr.app N0 (Fr.nil _)
  show Go p e below _ T1 (mkF m 7 #[rv ids, iv (0 : Int32), iv (Int32.ofNat n), iv key] [])
  refine Go.st (T' := T1) (g' := (mkF m 11 #[rv ids, iv (0 : Int32), iv (Int32.ofNat n), iv key] [(.int key), (.int (Int32.ofNat n)), (.int (0 : Int32)), (.ref ids)])) ?_ (fun _ kk_ => XS.aloadN X1.here hx rfl (hb hby dbs_7) rfl rfl  (XS.iloadN X1.here hx rfl (hb hby dbs_8) rfl  (XS.iloadN X1.here hx rfl (hb hby dbs_9) rfl  (XS.iloadN X1.here hx rfl (hb hby dbs_10) rfl  kk_))))
  refine Go.callS (y := (⟨"java/util/Arrays", "binarySearch0", "([IIII)I"⟩ : MethodName)) X1 hx hZ hown (hw _ (List.mem_of_getElem? (i := 60) rfl)) (hw _ (List.mem_of_getElem? (i := 61) rfl)) (hw _ (List.mem_of_getElem? (i := 55) rfl)) (hw _ (List.mem_of_getElem? (i := 62) rfl)) (by decide) 0 (rm_bs0 l Z a0 hw [] ids n f key h0 hn V_i) e1 (by decide) (by decide) (by decide) (by decide) (argsL := [(.ref ids), (.int (0 : Int32)), (.int (Int32.ofNat n)), (.int key)]) (rest := []) rfl (by rw [hml]; rfl) (lenOf pd__28_5bIIII_29I rfl) rfl rfl (by show 2 * 0 + _ ≤ _; exact Nat.le_of_eq rfl) (hb hby dbs_11) ?_
  rintro _ T3 L3 X3 ⟨x, rfl, e3, rfl, hx_⟩
  have N4 := Fr.app N2 (Fr.nil _)
  show Go p e below _ T3 (mkF m 14 #[rv ids, iv (0 : Int32), iv (Int32.ofNat n), iv key] [(.int x)])
  refine Go.retI X3 hx hlk hret (hb hby dbs_14) (by decide) (by decide) ?_
  try rw [e3]
  exact ⟨x, rfl, rfl, rfl, hx_⟩
theorem diof_0 : decode prog_2_method_3_code 0 = .ok (.aload_n 0, 1) := by decide +kernel
theorem diof_1 : decode prog_2_method_3_code 1 = .ok (.getfield 9, 3) := by decide +kernel
theorem diof_4 : decode prog_2_method_3_code 4 = .ok (.iconst 0, 1) := by decide +kernel
theorem diof_5 : decode prog_2_method_3_code 5 = .ok (.aload_n 0, 1) := by decide +kernel
theorem diof_6 : decode prog_2_method_3_code 6 = .ok (.getfield 20, 3) := by decide +kernel
theorem diof_9 : decode prog_2_method_3_code 9 = .ok (.iload_n 1, 1) := by decide +kernel
theorem diof_10 : decode prog_2_method_3_code 10 = .ok (.invokestatic 36, 3) := by decide +kernel
theorem diof_13 : decode prog_2_method_3_code 13 = .ok (.ireturn, 1) := by decide +kernel
theorem pn_iof : plainFor (⟨"com/example/rhadamanthus/rhadamanthus/analysis/Entries$Row", "indexOf", "(I)I"⟩ : MethodName) = true := by first | exact plainFor_of_name (by first | (simp [plainName, overriddenIn]; done) | decide +kernel) | decide +kernel
theorem ef_iof (m : MethodId) (x0 : Addr) (x1 : Int32) : entryFrame m #[(.ref x0), (.int x1)] 2 = mkF m 0 #[rv x0, iv x1] [] := by first | (simp [entryFrame, mkF, argsToLocals, Value.category]; done) | rfl
set_option maxRecDepth 65536 in
set_option maxHeartbeats 40000000 in
theorem rm_iof (l : Launch) (Z : State) (a0 : Array Value) (hw : ∀ d ∈ tables_1, d.before a0 Z = true) (ws : List Jvm.Cond) (a ids : Addr) (n : Nat) (f : Nat → Int32) (key : Int32) (h0 : Heap) (hn : n ≤ 4) (F_i : Fld Z h0 a "com/example/rhadamanthus/rhadamanthus/analysis/Entries$Row" "ids" "[I" (.ref ids)) (F_s : Fld Z h0 a "com/example/rhadamanthus/rhadamanthus/analysis/Entries$Row" "size" "I" (.int (Int32.ofNat n))) (V_i : Ary Z h0 ids .int (IL 4 f)) :
    Mt l Z (⟨"com/example/rhadamanthus/rhadamanthus/analysis/Entries$Row", "indexOf", "(I)I"⟩ : MethodName) prog_2_method_3_code 2 (some .int) ws ({ frames := 2, cells := 0, slots := 0, locals := 34 } : Room) #[(.ref a), (.int key)] h0 (fun v h L => ∃ x, v = some (.int x) ∧ h = h0 ∧ L = [] ∧ ((∃ i, i < n ∧ x = Int32.ofNat i ∧ f i = key) ∨ ∃ j, j ≤ n ∧ x = -(Int32.ofNat j + 1) ∧ (Mono n f → (∀ i, i < j → f i < key) ∧ ∀ i, j ≤ i → i < n → key < f i))) := by
  refine Mt.body pn_iof ?_
  intro p e s m below meth c s₁ hx hby hml hown hnm hret hlk hZ X0 e0
  refine Go.cast (g' := (mkF m 0 #[rv a, iv key] [])) (ef_iof m a key) ?_
  have N0 := Fr.nil 0
  refine Go.st (T' := s₁) (g' := (mkF m 1 #[rv a, iv key] [(.ref a)])) ?_ (fun _ kk_ => XS.aloadN X0.here hx rfl (hb hby diof_0) rfl rfl  kk_)
  obtain ⟨T1, X1, e1, st1⟩ := getF X0 hx hZ hown (host := "") (Or.inl (hw _ (List.mem_of_getElem? (i := 36) rfl))) Via.refl e0 F_i (g := (mkF m 1 #[rv a, iv key] [(.ref a)])) rfl rfl (hb hby diof_1)
  refine Go.st (T' := T1) (g' := (mkF m 4 #[rv a, iv key] [(.ref ids)])) ?_ st1
  refine Go.st (T' := T1) (g' := (mkF m 6 #[rv a, iv key] [(.ref a), (.int (0 : Int32)), (.ref ids)])) ?_ (fun _ kk_ => XS.iconst X1.here hx rfl (hb hby diof_4) (XS.aloadN X1.here hx rfl (hb hby diof_5) rfl rfl  kk_))
  obtain ⟨T2, X2, e2, st2⟩ := getF X1 hx hZ hown (host := "") (Or.inl (hw _ (List.mem_of_getElem? (i := 51) rfl))) Via.refl e1 F_s (g := (mkF m 6 #[rv a, iv key] [(.ref a), (.int (0 : Int32)), (.ref ids)])) rfl rfl (hb hby diof_6)
  refine Go.st (T' := T2) (g' := (mkF m 9 #[rv a, iv key] [(.int (Int32.ofNat n)), (.int (0 : Int32)), (.ref ids)])) ?_ st2
  refine Go.st (T' := T2) (g' := (mkF m 10 #[rv a, iv key] [(.int key), (.int (Int32.ofNat n)), (.int (0 : Int32)), (.ref ids)])) ?_ (fun _ kk_ => XS.iloadN X2.here hx rfl (hb hby diof_9) rfl  kk_)
  refine Go.callS (y := (⟨"java/util/Arrays", "binarySearch", "([IIII)I"⟩ : MethodName)) X2 hx hZ hown (hw _ (List.mem_of_getElem? (i := 53) rfl)) (hw _ (List.mem_of_getElem? (i := 54) rfl)) (hw _ (List.mem_of_getElem? (i := 55) rfl)) (hw _ (List.mem_of_getElem? (i := 56) rfl)) (by decide) 0 (rm_bs l Z a0 hw [] ids n f key h0 hn V_i) e2 (by decide) (by decide) (by decide) (by decide) (argsL := [(.ref ids), (.int (0 : Int32)), (.int (Int32.ofNat n)), (.int key)]) (rest := []) rfl (by rw [hml]; rfl) (lenOf pd__28_5bIIII_29I rfl) rfl rfl (by show 2 * 0 + _ ≤ _; exact Nat.le_of_eq rfl) (hb hby diof_10) ?_
  rintro _ T3 L3 X3 ⟨x, rfl, e3, rfl, hx_⟩
  have N4 := Fr.app N0 (Fr.nil _)
  show Go p e below _ T3 (mkF m 13 #[rv a, iv key] [(.int x)])
  refine Go.retI X3 hx hlk hret (hb hby diof_13) (by decide) (by decide) ?_
  try rw [e3]
  exact ⟨x, rfl, rfl, rfl, hx_⟩
theorem dins_0 : decode prog_2_method_2_code 0 = .ok (.aload_n 0, 1) := by decide +kernel
theorem dins_1 : decode prog_2_method_2_code 1 = .ok (.iload_n 1, 1) := by decide +kernel
theorem dins_2 : decode prog_2_method_2_code 2 = .ok (.invokevirtual 16, 3) := by decide +kernel
theorem dins_5 : decode prog_2_method_2_code 5 = .ok (.istore_n 3, 1) := by decide +kernel
theorem dins_6 : decode prog_2_method_2_code 6 = .ok (.iload_n 3, 1) := by decide +kernel
theorem dins_7 : decode prog_2_method_2_code 7 = .ok (.ifCond .lt 5, 3) := by decide +kernel
theorem dins_10 : decode prog_2_method_2_code 10 = .ok (.iconst 0, 1) := by decide +kernel
theorem dins_11 : decode prog_2_method_2_code 11 = .ok (.ireturn, 1) := by decide +kernel
theorem dins_12 : decode prog_2_method_2_code 12 = .ok (.iload_n 3, 1) := by decide +kernel
theorem dins_13 : decode prog_2_method_2_code 13 = .ok (.ineg, 1) := by decide +kernel
theorem dins_14 : decode prog_2_method_2_code 14 = .ok (.iconst 1, 1) := by decide +kernel
theorem dins_15 : decode prog_2_method_2_code 15 = .ok (.isub, 1) := by decide +kernel
theorem dins_16 : decode prog_2_method_2_code 16 = .ok (.istore_n 3, 1) := by decide +kernel
theorem dins_17 : decode prog_2_method_2_code 17 = .ok (.aload_n 0, 1) := by decide +kernel
theorem dins_18 : decode prog_2_method_2_code 18 = .ok (.getfield 20, 3) := by decide +kernel
theorem dins_21 : decode prog_2_method_2_code 21 = .ok (.aload_n 0, 1) := by decide +kernel
theorem dins_22 : decode prog_2_method_2_code 22 = .ok (.getfield 9, 3) := by decide +kernel
theorem dins_25 : decode prog_2_method_2_code 25 = .ok (.arraylength, 1) := by decide +kernel
theorem dins_26 : decode prog_2_method_2_code 26 = .ok (.if_icmp .ne 53, 3) := by decide +kernel
theorem dins_79 : decode prog_2_method_2_code 79 = .ok (.aload_n 0, 1) := by decide +kernel
theorem dins_80 : decode prog_2_method_2_code 80 = .ok (.getfield 9, 3) := by decide +kernel
theorem dins_83 : decode prog_2_method_2_code 83 = .ok (.iload_n 3, 1) := by decide +kernel
theorem dins_84 : decode prog_2_method_2_code 84 = .ok (.aload_n 0, 1) := by decide +kernel
theorem dins_85 : decode prog_2_method_2_code 85 = .ok (.getfield 9, 3) := by decide +kernel
theorem dins_88 : decode prog_2_method_2_code 88 = .ok (.iload_n 3, 1) := by decide +kernel
theorem dins_89 : decode prog_2_method_2_code 89 = .ok (.iconst 1, 1) := by decide +kernel
theorem dins_90 : decode prog_2_method_2_code 90 = .ok (.iadd, 1) := by decide +kernel
theorem dins_91 : decode prog_2_method_2_code 91 = .ok (.aload_n 0, 1) := by decide +kernel
theorem dins_92 : decode prog_2_method_2_code 92 = .ok (.getfield 20, 3) := by decide +kernel
theorem dins_95 : decode prog_2_method_2_code 95 = .ok (.iload_n 3, 1) := by decide +kernel
theorem dins_96 : decode prog_2_method_2_code 96 = .ok (.isub, 1) := by decide +kernel
theorem dins_97 : decode prog_2_method_2_code 97 = .ok (.invokestatic 30, 3) := by decide +kernel
theorem dins_100 : decode prog_2_method_2_code 100 = .ok (.aload_n 0, 1) := by decide +kernel
theorem dins_101 : decode prog_2_method_2_code 101 = .ok (.getfield 9, 3) := by decide +kernel
theorem dins_104 : decode prog_2_method_2_code 104 = .ok (.iload_n 3, 1) := by decide +kernel
theorem dins_105 : decode prog_2_method_2_code 105 = .ok (.iload_n 1, 1) := by decide +kernel
theorem dins_106 : decode prog_2_method_2_code 106 = .ok (.iastore, 1) := by decide +kernel
theorem dins_107 : decode prog_2_method_2_code 107 = .ok (.aload_n 0, 1) := by decide +kernel
theorem dins_108 : decode prog_2_method_2_code 108 = .ok (.getfield 13, 3) := by decide +kernel
theorem dins_111 : decode prog_2_method_2_code 111 = .ok (.ifnull 31, 3) := by decide +kernel
theorem dins_114 : decode prog_2_method_2_code 114 = .ok (.aload_n 0, 1) := by decide +kernel
theorem dins_115 : decode prog_2_method_2_code 115 = .ok (.getfield 13, 3) := by decide +kernel
theorem dins_118 : decode prog_2_method_2_code 118 = .ok (.iload_n 3, 1) := by decide +kernel
theorem dins_119 : decode prog_2_method_2_code 119 = .ok (.aload_n 0, 1) := by decide +kernel
theorem dins_120 : decode prog_2_method_2_code 120 = .ok (.getfield 13, 3) := by decide +kernel
theorem dins_123 : decode prog_2_method_2_code 123 = .ok (.iload_n 3, 1) := by decide +kernel
theorem dins_124 : decode prog_2_method_2_code 124 = .ok (.iconst 1, 1) := by decide +kernel
theorem dins_125 : decode prog_2_method_2_code 125 = .ok (.iadd, 1) := by decide +kernel
theorem dins_126 : decode prog_2_method_2_code 126 = .ok (.aload_n 0, 1) := by decide +kernel
theorem dins_127 : decode prog_2_method_2_code 127 = .ok (.getfield 20, 3) := by decide +kernel
theorem dins_130 : decode prog_2_method_2_code 130 = .ok (.iload_n 3, 1) := by decide +kernel
theorem dins_131 : decode prog_2_method_2_code 131 = .ok (.isub, 1) := by decide +kernel
theorem dins_132 : decode prog_2_method_2_code 132 = .ok (.invokestatic 30, 3) := by decide +kernel
theorem dins_135 : decode prog_2_method_2_code 135 = .ok (.aload_n 0, 1) := by decide +kernel
theorem dins_136 : decode prog_2_method_2_code 136 = .ok (.getfield 13, 3) := by decide +kernel
theorem dins_139 : decode prog_2_method_2_code 139 = .ok (.iload_n 3, 1) := by decide +kernel
theorem dins_140 : decode prog_2_method_2_code 140 = .ok (.iload_n 2, 1) := by decide +kernel
theorem dins_141 : decode prog_2_method_2_code 141 = .ok (.iastore, 1) := by decide +kernel
theorem dins_142 : decode prog_2_method_2_code 142 = .ok (.aload_n 0, 1) := by decide +kernel
theorem dins_143 : decode prog_2_method_2_code 143 = .ok (.dup, 1) := by decide +kernel
theorem dins_144 : decode prog_2_method_2_code 144 = .ok (.getfield 20, 3) := by decide +kernel
theorem dins_147 : decode prog_2_method_2_code 147 = .ok (.iconst 1, 1) := by decide +kernel
theorem dins_148 : decode prog_2_method_2_code 148 = .ok (.iadd, 1) := by decide +kernel
theorem dins_149 : decode prog_2_method_2_code 149 = .ok (.putfield 20, 3) := by decide +kernel
theorem dins_152 : decode prog_2_method_2_code 152 = .ok (.iconst 1, 1) := by decide +kernel
theorem dins_153 : decode prog_2_method_2_code 153 = .ok (.ireturn, 1) := by decide +kernel
theorem pn_ins : plainFor (⟨"com/example/rhadamanthus/rhadamanthus/analysis/Entries$Row", "insert", "(II)Z"⟩ : MethodName) = true := by first | exact plainFor_of_name (by first | (simp [plainName, overriddenIn]; done) | decide +kernel) | decide +kernel
theorem ef_ins (m : MethodId) (x0 : Addr) (x1 : Int32) (x2 : Int32) : entryFrame m #[(.ref x0), (.int x1), (.int x2)] 5 = mkF m 0 #[rv x0, iv x1, iv x2, .unset, .unset] [] := by first | (simp [entryFrame, mkF, argsToLocals, Value.category]; done) | rfl
set_option maxRecDepth 65536 in
set_option maxHeartbeats 40000000 in
theorem rm_ins (l : Launch) (Z : State) (a0 : Array Value) (hw : ∀ d ∈ tables_1, d.before a0 Z = true) (ws : List Jvm.Cond) (x : Addr) (n : Nat) (f : Nat → Int32) (key run : Int32) (rg : Addr → Lb) (lb : Lb) (n0 : Nat) (h0 : Heap) (Z0 : n0 ≤ h0.size) (hn : n ≤ 3) (RP : RowP Z h0 rg lb x n f) (hrg : ∀ z, rg z = lb → n0 ≤ z) :
    Mt l Z (⟨"com/example/rhadamanthus/rhadamanthus/analysis/Entries$Row", "insert", "(II)Z"⟩ : MethodName) prog_2_method_2_code 5 (some .boolean) ws ({ frames := 3, cells := 0, slots := 0, locals := 47 } : Room) #[(.ref x), (.int key), (.int run)] h0 (fun v h L => ∃ b0 : Int32, v = some (.int b0) ∧ Fr n0 L ∧ ∃ ws, Keep h0 h ws ∧ (∀ z ∈ ws, rg z = lb) ∧ ((b0 = 0 ∧ RowP Z h rg lb x n f ∧ ∃ i, i < n ∧ f i = key) ∨ (b0 = 1 ∧ ∃ j, j ≤ n ∧ RowP Z h rg lb x (n + 1) (insF n j key f) ∧ (Mono n f → (∀ i, i < j → f i < key) ∧ ∀ i, j ≤ i → i < n → key < f i)))) := by
  refine Mt.body pn_ins ?_
  intro p e s m below meth c s₁ hx hby hml hown hnm hret hlk hZ X0 e0
  refine Go.cast (g' := (mkF m 0 #[rv x, iv key, iv run, .unset, .unset] [])) (ef_ins m x key run) ?_
  have N0 := Fr.nil n0
  have RP0 := RP
  obtain ⟨ids, r1, r2, E_x, F_i, F_s, V_i, hru⟩ := RP
  have ne_x_ids : x ≠ ids := own_exaNe E_x V_i (hw _ (List.mem_of_getElem? (i := 30) rfl))
  refine Go.st (T' := s₁) (g' := (mkF m 2 #[rv x, iv key, iv run, .unset, .unset] [(.int key), (.ref x)])) ?_ (fun _ kk_ => XS.aloadN X0.here hx rfl (hb hby dins_0) rfl rfl  (XS.iloadN X0.here hx rfl (hb hby dins_1) rfl  kk_))
  refine Go.callV (y := (⟨"com/example/rhadamanthus/rhadamanthus/analysis/Entries$Row", "indexOf", "(I)I"⟩ : MethodName)) (z := (⟨"com/example/rhadamanthus/rhadamanthus/analysis/Entries$Row", "indexOf", "(I)I"⟩ : MethodName)) X0 hx hZ hown (hw _ (List.mem_of_getElem? (i := 46) rfl)) (hw _ (List.mem_of_getElem? (i := 47) rfl)) (notFace_of_selects (args := #[]) (mvT hZ (hw _ (List.mem_of_getElem? (i := 49) rfl)))) (hw _ (List.mem_of_getElem? (i := 49) rfl)) (hw _ (List.mem_of_getElem? (i := 48) rfl)) (hw _ (List.mem_of_getElem? (i := 31) rfl)) (hw _ (List.mem_of_getElem? (i := 50) rfl)) (by decide) 0 (rm_iof l Z a0 hw [] x ids n f key h0 (by omega) F_i F_s V_i) e0 (by decide) (by decide) (by decide) (by decide) E_x (argsL := [(.int key)]) (rest := []) rfl (by rw [hml]; rfl) (lenOf pd__28I_29I rfl) rfl rfl (by show 2 * 0 + _ ≤ _; exact Nat.le_of_eq rfl) (hb hby dins_2) ?_
  rintro _ T1 L1 X1 ⟨ix, rfl, e1, rfl, hix⟩
  have N2 := Fr.app N0 (Fr.nil _)
  show Go p e below _ T1 (mkF m 5 #[rv x, iv key, iv run, .unset, .unset] [(.int ix)])
  refine Go.st (T' := T1) (g' := (mkF m 7 #[rv x, iv key, iv run, iv ix, .unset] [(.int ix)])) ?_ (fun _ kk_ => XS.istoreN X1.here hx rfl (hb hby dins_5) rfl (l' := #[rv x, iv key, iv run, iv ix, .unset]) rfl (XS.iloadN X1.here hx rfl (hb hby dins_6) rfl  kk_))
  obtain ⟨i, hi, rfl, hfi⟩ | ⟨j, hj, rfl, hpl⟩ := hix
  ·
    show Go p e below _ T1 (mkF m 7 #[rv x, iv key, iv run, iv (Int32.ofNat i), .unset] [(.int (Int32.ofNat i))])
    refine Go.st (T' := T1) (g' := (mkF m 11 #[rv x, iv key, iv run, iv (Int32.ofNat i), .unset] [(.int (0 : Int32))])) ?_ (fun _ kk_ => XS.ifNo X1.here hx rfl (hb hby dins_7) rfl ((if0 _ _).trans (flt ((fun z => by have := (own_lt (i := i) (n := 0) (by omega) (by decide)).mp z; omega) : ¬ ((Int32.ofNat i) < (0 : Int32)))).1) (XS.iconst X1.here hx rfl (hb hby dins_10) kk_))
    refine Go.retN X1 hx hlk (t := .boolean) hret (by simp) (z' := (0 : Int32)) rfl (hb hby dins_11) (by decide) (by decide) ?_
    try rw [e1]
    exact ⟨_, rfl, N2, [], Keep.refl _ _, (fun _ z => nomatch z), Or.inl ⟨rfl, RP0, i, hi, hfi⟩⟩
  ·
    show Go p e below _ T1 (mkF m 7 #[rv x, iv key, iv run, iv (-((Int32.ofNat j) + (1 : Int32))), .unset] [(.int (-((Int32.ofNat j) + (1 : Int32))))])
    have hbs := own_bsneg (j := j) (by omega)
    refine Go.st (T' := T1) (g' := (mkF m 16 #[rv x, iv key, iv run, iv (-((Int32.ofNat j) + (1 : Int32))), .unset] [(.int ((-(-((Int32.ofNat j) + (1 : Int32)))) - (1 : Int32)))])) ?_ (fun _ kk_ => XS.ifYes X1.here hx rfl (pc0 := 7) (pc' := 12) rfl (hb hby dins_7) rfl ((if0 _ _).trans (tlt (hbs.1 : (-((Int32.ofNat j) + (1 : Int32))) < (0 : Int32))).1) (by decide) (by decide) (XS.iloadN X1.here hx rfl (hb hby dins_12) rfl  (XS.ineg X1.here hx rfl (hb hby dins_13) rfl (XS.iconst X1.here hx rfl (hb hby dins_14) (XS.isub X1.here hx rfl (hb hby dins_15) rfl kk_)))))
    rw [hbs.2]
    show Go p e below _ T1 (mkF m 16 #[rv x, iv key, iv run, iv (-((Int32.ofNat j) + (1 : Int32))), .unset] [(.int (Int32.ofNat j))])
    refine Go.st (T' := T1) (g' := (mkF m 18 #[rv x, iv key, iv run, iv (Int32.ofNat j), .unset] [(.ref x)])) ?_ (fun _ kk_ => XS.istoreN X1.here hx rfl (hb hby dins_16) rfl (l' := #[rv x, iv key, iv run, iv (Int32.ofNat j), .unset]) rfl (XS.aloadN X1.here hx rfl (hb hby dins_17) rfl rfl  kk_))
    obtain ⟨T3, X3, e3, st3⟩ := getF X1 hx hZ hown (host := "") (Or.inl (hw _ (List.mem_of_getElem? (i := 51) rfl))) Via.refl e1 F_s (g := (mkF m 18 #[rv x, iv key, iv run, iv (Int32.ofNat j), .unset] [(.ref x)])) rfl rfl (hb hby dins_18)
    refine Go.st (T' := T3) (g' := (mkF m 21 #[rv x, iv key, iv run, iv (Int32.ofNat j), .unset] [(.int (Int32.ofNat n))])) ?_ st3
    refine Go.st (T' := T3) (g' := (mkF m 22 #[rv x, iv key, iv run, iv (Int32.ofNat j), .unset] [(.ref x), (.int (Int32.ofNat n))])) ?_ (fun _ kk_ => XS.aloadN X3.here hx rfl (hb hby dins_21) rfl rfl  kk_)
    obtain ⟨T4, X4, e4, st4⟩ := getF X3 hx hZ hown (host := "") (Or.inl (hw _ (List.mem_of_getElem? (i := 36) rfl))) Via.refl e3 F_i (g := (mkF m 22 #[rv x, iv key, iv run, iv (Int32.ofNat j), .unset] [(.ref x), (.int (Int32.ofNat n))])) rfl rfl (hb hby dins_22)
    refine Go.st (T' := T4) (g' := (mkF m 25 #[rv x, iv key, iv run, iv (Int32.ofNat j), .unset] [(.ref ids), (.int (Int32.ofNat n))])) ?_ st4
    refine Go.st (T' := T4) (g' := (mkF m 80 #[rv x, iv key, iv run, iv (Int32.ofNat j), .unset] [(.ref x)])) ?_ (fun _ kk_ => own_alen X4 hx hZ e4 V_i (IL_len _ _) rfl rfl (hb hby dins_25) (XS.icmpYes X4.here hx rfl (pc0 := 26) (pc' := 79) rfl (hb hby dins_26) rfl (feq ((fun z => by have := (own_eq (by omega) (by omega)).mp z; omega) : ¬ ((Int32.ofNat n) = (Int32.ofNat 4)))).2 (by decide) (by decide) (XS.aloadN X4.here hx rfl (hb hby dins_79) rfl rfl  kk_)))
    obtain F_u | ⟨ru, g, r3, ne_ids_ru, F_u, V_u⟩ := hru
    ·
      have K0 := Keep.refl h0 [x, ids]
      obtain ⟨T5, X5, e5, st5⟩ := getF X4 hx hZ hown (host := "") (Or.inl (hw _ (List.mem_of_getElem? (i := 36) rfl))) Via.refl e4 F_i (g := (mkF m 80 #[rv x, iv key, iv run, iv (Int32.ofNat j), .unset] [(.ref x)])) rfl rfl (hb hby dins_80)
      refine Go.st (T' := T5) (g' := (mkF m 83 #[rv x, iv key, iv run, iv (Int32.ofNat j), .unset] [(.ref ids)])) ?_ st5
      refine Go.st (T' := T5) (g' := (mkF m 85 #[rv x, iv key, iv run, iv (Int32.ofNat j), .unset] [(.ref x), (.int (Int32.ofNat j)), (.ref ids)])) ?_ (fun _ kk_ => XS.iloadN X5.here hx rfl (hb hby dins_83) rfl  (XS.aloadN X5.here hx rfl (hb hby dins_84) rfl rfl  kk_))
      obtain ⟨T6, X6, e6, st6⟩ := getF X5 hx hZ hown (host := "") (Or.inl (hw _ (List.mem_of_getElem? (i := 36) rfl))) Via.refl e5 F_i (g := (mkF m 85 #[rv x, iv key, iv run, iv (Int32.ofNat j), .unset] [(.ref x), (.int (Int32.ofNat j)), (.ref ids)])) rfl rfl (hb hby dins_85)
      refine Go.st (T' := T6) (g' := (mkF m 88 #[rv x, iv key, iv run, iv (Int32.ofNat j), .unset] [(.ref ids), (.int (Int32.ofNat j)), (.ref ids)])) ?_ st6
      refine Go.st (T' := T6) (g' := (mkF m 91 #[rv x, iv key, iv run, iv (Int32.ofNat j), .unset] [(.int ((Int32.ofNat j) + (1 : Int32))), (.ref ids), (.int (Int32.ofNat j)), (.ref ids)])) ?_ (fun _ kk_ => XS.iloadN X6.here hx rfl (hb hby dins_88) rfl  (XS.iconst X6.here hx rfl (hb hby dins_89) (XS.iadd X6.here hx rfl (hb hby dins_90) rfl kk_)))
      rw [show Int32.ofNat j + (1 : Int32) = Int32.ofNat (j + 1) from own_add j 1]
      show Go p e below _ T6 (mkF m 91 #[rv x, iv key, iv run, iv (Int32.ofNat j), .unset] [(.int (Int32.ofNat (j + 1))), (.ref ids), (.int (Int32.ofNat j)), (.ref ids)])
      refine Go.st (T' := T6) (g' := (mkF m 92 #[rv x, iv key, iv run, iv (Int32.ofNat j), .unset] [(.ref x), (.int (Int32.ofNat (j + 1))), (.ref ids), (.int (Int32.ofNat j)), (.ref ids)])) ?_ (fun _ kk_ => XS.aloadN X6.here hx rfl (hb hby dins_91) rfl rfl  kk_)
      obtain ⟨T7, X7, e7, st7⟩ := getF X6 hx hZ hown (host := "") (Or.inl (hw _ (List.mem_of_getElem? (i := 51) rfl))) Via.refl e6 F_s (g := (mkF m 92 #[rv x, iv key, iv run, iv (Int32.ofNat j), .unset] [(.ref x), (.int (Int32.ofNat (j + 1))), (.ref ids), (.int (Int32.ofNat j)), (.ref ids)])) rfl rfl (hb hby dins_92)
      refine Go.st (T' := T7) (g' := (mkF m 95 #[rv x, iv key, iv run, iv (Int32.ofNat j), .unset] [(.int (Int32.ofNat n)), (.int (Int32.ofNat (j + 1))), (.ref ids), (.int (Int32.ofNat j)), (.ref ids)])) ?_ st7
      refine Go.st (T' := T7) (g' := (mkF m 97 #[rv x, iv key, iv run, iv (Int32.ofNat j), .unset] [(.int ((Int32.ofNat n) - (Int32.ofNat j))), (.int (Int32.ofNat (j + 1))), (.ref ids), (.int (Int32.ofNat j)), (.ref ids)])) ?_ (fun _ kk_ => XS.iloadN X7.here hx rfl (hb hby dins_95) rfl  (XS.isub X7.here hx rfl (hb hby dins_96) rfl kk_))
      rw [show Int32.ofNat n - Int32.ofNat j = Int32.ofNat (n - j) from own_sub hj]
      show Go p e below _ T7 (mkF m 97 #[rv x, iv key, iv run, iv (Int32.ofNat j), .unset] [(.int (Int32.ofNat (n - j))), (.int (Int32.ofNat (j + 1))), (.ref ids), (.int (Int32.ofNat j)), (.ref ids)])
      refine Go.acopy X7 hx hZ hown (hw _ (List.mem_of_getElem? (i := 63) rfl)) (hw _ (List.mem_of_getElem? (i := 66) rfl)) (hw _ (List.mem_of_getElem? (i := 64) rfl)) (hw _ (List.mem_of_getElem? (i := 65) rfl)) e7 V_i V_i (us := (IL 4 (shF n j f))) rfl (sp := j) (dp := (j + 1)) (nn := (n - j)) rfl rfl rfl (by rw [IL_len]; omega) (by rw [IL_len]; omega) (own_shift f hj hn) (by rw [IL_len, IL_len]) N2 (hrg _ r2) rfl (by rw [hml]; rfl) rfl (hb hby dins_97) (by decide) 0 (by show 2 * 0 + _ ≤ _; exact Nat.le_of_eq rfl) (by decide) ?_
      intro T8 h8 L8 X8 e8 N8 K8 V8
      have Z9 : n0 ≤ h8.size := Nat.le_trans Z0 K8.1
      have K10 : Keep h0 h8 [x, ids] := K0.trans K8 (allS (P := fun z_ => z_ ∈ [x, ids] ∨ h0.size ≤ z_) (Or.inl (List.mem_of_getElem? (i := 1) rfl)) all0)
      show Go p e below _ T8 (mkF m 100 #[rv x, iv key, iv run, iv (Int32.ofNat j), .unset] [])
      refine Go.st (T' := T8) (g' := (mkF m 101 #[rv x, iv key, iv run, iv (Int32.ofNat j), .unset] [(.ref x)])) ?_ (fun _ kk_ => XS.aloadN X8.here hx rfl (hb hby dins_100) rfl rfl  kk_)
      have f11 := (F_i.keep K8 (ninS ne_x_ids nin0))
      obtain ⟨T12, X12, e12, st12⟩ := getF X8 hx hZ hown (host := "") (Or.inl (hw _ (List.mem_of_getElem? (i := 36) rfl))) Via.refl e8 f11 (g := (mkF m 101 #[rv x, iv key, iv run, iv (Int32.ofNat j), .unset] [(.ref x)])) rfl rfl (hb hby dins_101)
      refine Go.st (T' := T12) (g' := (mkF m 104 #[rv x, iv key, iv run, iv (Int32.ofNat j), .unset] [(.ref ids)])) ?_ st12
      refine Go.st (T' := T12) (g' := (mkF m 106 #[rv x, iv key, iv run, iv (Int32.ofNat j), .unset] [(.int key), (.int (Int32.ofNat j)), (.ref ids)])) ?_ (fun _ kk_ => XS.iloadN X12.here hx rfl (hb hby dins_104) rfl  (XS.iloadN X12.here hx rfl (hb hby dins_105) rfl  kk_))
      refine Go.iastore X12 hx hZ e12 V8 (i := j) (by rw [IL_len]; omega) rfl rfl rfl (hb hby dins_106) ?_
      intro T13 h13 X13 e13 W13 V13
      have N14 := Fr.snoc X13 N8 (hrg _ r2)
      have K15 : Keep h0 h13 [x, ids] := K10.wr W13 (Or.inl (List.mem_of_getElem? (i := 1) rfl))
      have Z16 : n0 ≤ h13.size := by rw [W13.size]; exact Z9
      show Go p e below _ T13 (mkF m 107 #[rv x, iv key, iv run, iv (Int32.ofNat j), .unset] [])
      rw [IL_set (show j < 4 by omega)] at V13
      change Ary Z h13 ids .int (IL 4 (insF n j key f)) at V13
      refine Go.st (T' := T13) (g' := (mkF m 108 #[rv x, iv key, iv run, iv (Int32.ofNat j), .unset] [(.ref x)])) ?_ (fun _ kk_ => XS.aloadN X13.here hx rfl (hb hby dins_107) rfl rfl  kk_)
      have f17 := ((F_u.keep K8 (ninS ne_x_ids nin0)).other W13 (Or.inl ne_x_ids))
      obtain ⟨T18, X18, e18, st18⟩ := getF X13 hx hZ hown (host := "") (Or.inl (hw _ (List.mem_of_getElem? (i := 38) rfl))) Via.refl e13 f17 (g := (mkF m 108 #[rv x, iv key, iv run, iv (Int32.ofNat j), .unset] [(.ref x)])) rfl rfl (hb hby dins_108)
      refine Go.st (T' := T18) (g' := (mkF m 111 #[rv x, iv key, iv run, iv (Int32.ofNat j), .unset] [.null])) ?_ st18
      refine Go.st (T' := T18) (g' := (mkF m 144 #[rv x, iv key, iv run, iv (Int32.ofNat j), .unset] [(.ref x), (.ref x)])) ?_ (fun _ kk_ => XS.ifnullYes X18.here hx rfl (pc0 := 111) (pc' := 142) rfl (hb hby dins_111) rfl (by decide) (by decide) (XS.aloadN X18.here hx rfl (hb hby dins_142) rfl rfl  (XS.dup X18.here hx rfl (hb hby dins_143) rfl rfl kk_)))
      have f19 := ((F_s.keep K8 (ninS ne_x_ids nin0)).other W13 (Or.inl ne_x_ids))
      obtain ⟨T20, X20, e20, st20⟩ := getF X18 hx hZ hown (host := "") (Or.inl (hw _ (List.mem_of_getElem? (i := 51) rfl))) Via.refl e18 f19 (g := (mkF m 144 #[rv x, iv key, iv run, iv (Int32.ofNat j), .unset] [(.ref x), (.ref x)])) rfl rfl (hb hby dins_144)
      refine Go.st (T' := T20) (g' := (mkF m 147 #[rv x, iv key, iv run, iv (Int32.ofNat j), .unset] [(.int (Int32.ofNat n)), (.ref x)])) ?_ st20
      refine Go.st (T' := T20) (g' := (mkF m 149 #[rv x, iv key, iv run, iv (Int32.ofNat j), .unset] [(.int ((Int32.ofNat n) + (1 : Int32))), (.ref x)])) ?_ (fun _ kk_ => XS.iconst X20.here hx rfl (hb hby dins_147) (XS.iadd X20.here hx rfl (hb hby dins_148) rfl kk_))
      rw [show Int32.ofNat n + (1 : Int32) = Int32.ofNat (n + 1) from own_add n 1]
      show Go p e below _ T20 (mkF m 149 #[rv x, iv key, iv run, iv (Int32.ofNat j), .unset] [(.int (Int32.ofNat (n + 1))), (.ref x)])
      have f21 := ((E_x.keep K8).wr W13)
      obtain ⟨T22, h22, X22, e22, W22, st22⟩ := putF X20 hx hZ hown (host := "") (Or.inl (hw _ (List.mem_of_getElem? (i := 51) rfl))) Via.refl e20 f19 f21 (Or.inl (hw _ (List.mem_of_getElem? (i := 52) rfl))) (hw _ (List.mem_of_getElem? (i := 30) rfl)) (ty := .int) (by decide) rfl rfl (g := (mkF m 149 #[rv x, iv key, iv run, iv (Int32.ofNat j), .unset] [(.int (Int32.ofNat (n + 1))), (.ref x)])) rfl rfl (hb hby dins_149)
      have N23 := Fr.snoc X22 N14 (hrg _ r1)
      have f24 := f19.same W22
      have K25 : Keep h0 h22 [x, ids] := K15.wr W22 (Or.inl (List.mem_of_getElem? (i := 0) rfl))
      have Z26 : n0 ≤ h22.size := by rw [W22.size]; exact Z16
      refine Go.st (T' := T22) (g' := (mkF m 152 #[rv x, iv key, iv run, iv (Int32.ofNat j), .unset] [])) ?_ st22
      refine Go.st (T' := T22) (g' := (mkF m 153 #[rv x, iv key, iv run, iv (Int32.ofNat j), .unset] [(.int (1 : Int32))])) ?_ (fun _ kk_ => XS.iconst X22.here hx rfl (hb hby dins_152) kk_)
      have f27 := (f21.wr W22)
      have f28 := ((f11.other W13 (Or.inl ne_x_ids)).other W22 (Or.inr (slot_ne (C := "com/example/rhadamanthus/rhadamanthus/analysis/Entries$Row") (Or.inl (hw _ (List.mem_of_getElem? (i := 37) rfl))) (Or.inl (hw _ (List.mem_of_getElem? (i := 52) rfl))) (by decide) (t := (.array .int)) (t' := .int) (by decide) (by decide))))
      have f29 := (V13.other W22 (Ne.symm ne_x_ids))
      have f30 := (f17.other W22 (Or.inr (slot_ne (C := "com/example/rhadamanthus/rhadamanthus/analysis/Entries$Row") (Or.inl (hw _ (List.mem_of_getElem? (i := 39) rfl))) (Or.inl (hw _ (List.mem_of_getElem? (i := 52) rfl))) (by decide) (t := (.array .int)) (t' := .int) (by decide) (by decide))))
      refine Go.retN X22 hx hlk (t := .boolean) hret (by simp) (z' := (1 : Int32)) rfl (hb hby dins_153) (by decide) (by decide) ?_
      try rw [e22]
      exact ⟨_, rfl, N23, _, K25, (allS (P := fun z_ => rg z_ = lb) r1 (allS (P := fun z_ => rg z_ = lb) r2 all0)), Or.inr ⟨rfl, j, hj, ⟨ids, r1, r2, f27, f28, f24, f29, Or.inl f30⟩, hpl⟩⟩
    ·
      have ne_x_ru : x ≠ ru := own_exaNe E_x V_u (hw _ (List.mem_of_getElem? (i := 30) rfl))
      have K0 := Keep.refl h0 [x, ids, ru]
      obtain ⟨T31, X31, e31, st31⟩ := getF X4 hx hZ hown (host := "") (Or.inl (hw _ (List.mem_of_getElem? (i := 36) rfl))) Via.refl e4 F_i (g := (mkF m 80 #[rv x, iv key, iv run, iv (Int32.ofNat j), .unset] [(.ref x)])) rfl rfl (hb hby dins_80)
      refine Go.st (T' := T31) (g' := (mkF m 83 #[rv x, iv key, iv run, iv (Int32.ofNat j), .unset] [(.ref ids)])) ?_ st31
      refine Go.st (T' := T31) (g' := (mkF m 85 #[rv x, iv key, iv run, iv (Int32.ofNat j), .unset] [(.ref x), (.int (Int32.ofNat j)), (.ref ids)])) ?_ (fun _ kk_ => XS.iloadN X31.here hx rfl (hb hby dins_83) rfl  (XS.aloadN X31.here hx rfl (hb hby dins_84) rfl rfl  kk_))
      obtain ⟨T32, X32, e32, st32⟩ := getF X31 hx hZ hown (host := "") (Or.inl (hw _ (List.mem_of_getElem? (i := 36) rfl))) Via.refl e31 F_i (g := (mkF m 85 #[rv x, iv key, iv run, iv (Int32.ofNat j), .unset] [(.ref x), (.int (Int32.ofNat j)), (.ref ids)])) rfl rfl (hb hby dins_85)
      refine Go.st (T' := T32) (g' := (mkF m 88 #[rv x, iv key, iv run, iv (Int32.ofNat j), .unset] [(.ref ids), (.int (Int32.ofNat j)), (.ref ids)])) ?_ st32
      refine Go.st (T' := T32) (g' := (mkF m 91 #[rv x, iv key, iv run, iv (Int32.ofNat j), .unset] [(.int ((Int32.ofNat j) + (1 : Int32))), (.ref ids), (.int (Int32.ofNat j)), (.ref ids)])) ?_ (fun _ kk_ => XS.iloadN X32.here hx rfl (hb hby dins_88) rfl  (XS.iconst X32.here hx rfl (hb hby dins_89) (XS.iadd X32.here hx rfl (hb hby dins_90) rfl kk_)))
      rw [show Int32.ofNat j + (1 : Int32) = Int32.ofNat (j + 1) from own_add j 1]
      show Go p e below _ T32 (mkF m 91 #[rv x, iv key, iv run, iv (Int32.ofNat j), .unset] [(.int (Int32.ofNat (j + 1))), (.ref ids), (.int (Int32.ofNat j)), (.ref ids)])
      refine Go.st (T' := T32) (g' := (mkF m 92 #[rv x, iv key, iv run, iv (Int32.ofNat j), .unset] [(.ref x), (.int (Int32.ofNat (j + 1))), (.ref ids), (.int (Int32.ofNat j)), (.ref ids)])) ?_ (fun _ kk_ => XS.aloadN X32.here hx rfl (hb hby dins_91) rfl rfl  kk_)
      obtain ⟨T33, X33, e33, st33⟩ := getF X32 hx hZ hown (host := "") (Or.inl (hw _ (List.mem_of_getElem? (i := 51) rfl))) Via.refl e32 F_s (g := (mkF m 92 #[rv x, iv key, iv run, iv (Int32.ofNat j), .unset] [(.ref x), (.int (Int32.ofNat (j + 1))), (.ref ids), (.int (Int32.ofNat j)), (.ref ids)])) rfl rfl (hb hby dins_92)
      refine Go.st (T' := T33) (g' := (mkF m 95 #[rv x, iv key, iv run, iv (Int32.ofNat j), .unset] [(.int (Int32.ofNat n)), (.int (Int32.ofNat (j + 1))), (.ref ids), (.int (Int32.ofNat j)), (.ref ids)])) ?_ st33
      refine Go.st (T' := T33) (g' := (mkF m 97 #[rv x, iv key, iv run, iv (Int32.ofNat j), .unset] [(.int ((Int32.ofNat n) - (Int32.ofNat j))), (.int (Int32.ofNat (j + 1))), (.ref ids), (.int (Int32.ofNat j)), (.ref ids)])) ?_ (fun _ kk_ => XS.iloadN X33.here hx rfl (hb hby dins_95) rfl  (XS.isub X33.here hx rfl (hb hby dins_96) rfl kk_))
      rw [show Int32.ofNat n - Int32.ofNat j = Int32.ofNat (n - j) from own_sub hj]
      show Go p e below _ T33 (mkF m 97 #[rv x, iv key, iv run, iv (Int32.ofNat j), .unset] [(.int (Int32.ofNat (n - j))), (.int (Int32.ofNat (j + 1))), (.ref ids), (.int (Int32.ofNat j)), (.ref ids)])
      refine Go.acopy X33 hx hZ hown (hw _ (List.mem_of_getElem? (i := 63) rfl)) (hw _ (List.mem_of_getElem? (i := 66) rfl)) (hw _ (List.mem_of_getElem? (i := 64) rfl)) (hw _ (List.mem_of_getElem? (i := 65) rfl)) e33 V_i V_i (us := (IL 4 (shF n j f))) rfl (sp := j) (dp := (j + 1)) (nn := (n - j)) rfl rfl rfl (by rw [IL_len]; omega) (by rw [IL_len]; omega) (own_shift f hj hn) (by rw [IL_len, IL_len]) N2 (hrg _ r2) rfl (by rw [hml]; rfl) rfl (hb hby dins_97) (by decide) 0 (by show 2 * 0 + _ ≤ _; exact Nat.le_of_eq rfl) (by decide) ?_
      intro T34 h34 L34 X34 e34 N34 K34 V34
      have Z35 : n0 ≤ h34.size := Nat.le_trans Z0 K34.1
      have K36 : Keep h0 h34 [x, ids, ru] := K0.trans K34 (allS (P := fun z_ => z_ ∈ [x, ids, ru] ∨ h0.size ≤ z_) (Or.inl (List.mem_of_getElem? (i := 1) rfl)) all0)
      show Go p e below _ T34 (mkF m 100 #[rv x, iv key, iv run, iv (Int32.ofNat j), .unset] [])
      refine Go.st (T' := T34) (g' := (mkF m 101 #[rv x, iv key, iv run, iv (Int32.ofNat j), .unset] [(.ref x)])) ?_ (fun _ kk_ => XS.aloadN X34.here hx rfl (hb hby dins_100) rfl rfl  kk_)
      have f37 := (F_i.keep K34 (ninS ne_x_ids nin0))
      obtain ⟨T38, X38, e38, st38⟩ := getF X34 hx hZ hown (host := "") (Or.inl (hw _ (List.mem_of_getElem? (i := 36) rfl))) Via.refl e34 f37 (g := (mkF m 101 #[rv x, iv key, iv run, iv (Int32.ofNat j), .unset] [(.ref x)])) rfl rfl (hb hby dins_101)
      refine Go.st (T' := T38) (g' := (mkF m 104 #[rv x, iv key, iv run, iv (Int32.ofNat j), .unset] [(.ref ids)])) ?_ st38
      refine Go.st (T' := T38) (g' := (mkF m 106 #[rv x, iv key, iv run, iv (Int32.ofNat j), .unset] [(.int key), (.int (Int32.ofNat j)), (.ref ids)])) ?_ (fun _ kk_ => XS.iloadN X38.here hx rfl (hb hby dins_104) rfl  (XS.iloadN X38.here hx rfl (hb hby dins_105) rfl  kk_))
      refine Go.iastore X38 hx hZ e38 V34 (i := j) (by rw [IL_len]; omega) rfl rfl rfl (hb hby dins_106) ?_
      intro T39 h39 X39 e39 W39 V39
      have N40 := Fr.snoc X39 N34 (hrg _ r2)
      have K41 : Keep h0 h39 [x, ids, ru] := K36.wr W39 (Or.inl (List.mem_of_getElem? (i := 1) rfl))
      have Z42 : n0 ≤ h39.size := by rw [W39.size]; exact Z35
      show Go p e below _ T39 (mkF m 107 #[rv x, iv key, iv run, iv (Int32.ofNat j), .unset] [])
      rw [IL_set (show j < 4 by omega)] at V39
      change Ary Z h39 ids .int (IL 4 (insF n j key f)) at V39
      refine Go.st (T' := T39) (g' := (mkF m 108 #[rv x, iv key, iv run, iv (Int32.ofNat j), .unset] [(.ref x)])) ?_ (fun _ kk_ => XS.aloadN X39.here hx rfl (hb hby dins_107) rfl rfl  kk_)
      have f43 := ((F_u.keep K34 (ninS ne_x_ids nin0)).other W39 (Or.inl ne_x_ids))
      obtain ⟨T44, X44, e44, st44⟩ := getF X39 hx hZ hown (host := "") (Or.inl (hw _ (List.mem_of_getElem? (i := 38) rfl))) Via.refl e39 f43 (g := (mkF m 108 #[rv x, iv key, iv run, iv (Int32.ofNat j), .unset] [(.ref x)])) rfl rfl (hb hby dins_108)
      refine Go.st (T' := T44) (g' := (mkF m 111 #[rv x, iv key, iv run, iv (Int32.ofNat j), .unset] [(.ref ru)])) ?_ st44
      refine Go.st (T' := T44) (g' := (mkF m 115 #[rv x, iv key, iv run, iv (Int32.ofNat j), .unset] [(.ref x)])) ?_ (fun _ kk_ => XS.ifnullNo X44.here hx rfl (hb hby dins_111) rfl (XS.aloadN X44.here hx rfl (hb hby dins_114) rfl rfl  kk_))
      obtain ⟨T45, X45, e45, st45⟩ := getF X44 hx hZ hown (host := "") (Or.inl (hw _ (List.mem_of_getElem? (i := 38) rfl))) Via.refl e44 f43 (g := (mkF m 115 #[rv x, iv key, iv run, iv (Int32.ofNat j), .unset] [(.ref x)])) rfl rfl (hb hby dins_115)
      refine Go.st (T' := T45) (g' := (mkF m 118 #[rv x, iv key, iv run, iv (Int32.ofNat j), .unset] [(.ref ru)])) ?_ st45
      refine Go.st (T' := T45) (g' := (mkF m 120 #[rv x, iv key, iv run, iv (Int32.ofNat j), .unset] [(.ref x), (.int (Int32.ofNat j)), (.ref ru)])) ?_ (fun _ kk_ => XS.iloadN X45.here hx rfl (hb hby dins_118) rfl  (XS.aloadN X45.here hx rfl (hb hby dins_119) rfl rfl  kk_))
      obtain ⟨T46, X46, e46, st46⟩ := getF X45 hx hZ hown (host := "") (Or.inl (hw _ (List.mem_of_getElem? (i := 38) rfl))) Via.refl e45 f43 (g := (mkF m 120 #[rv x, iv key, iv run, iv (Int32.ofNat j), .unset] [(.ref x), (.int (Int32.ofNat j)), (.ref ru)])) rfl rfl (hb hby dins_120)
      refine Go.st (T' := T46) (g' := (mkF m 123 #[rv x, iv key, iv run, iv (Int32.ofNat j), .unset] [(.ref ru), (.int (Int32.ofNat j)), (.ref ru)])) ?_ st46
      refine Go.st (T' := T46) (g' := (mkF m 126 #[rv x, iv key, iv run, iv (Int32.ofNat j), .unset] [(.int ((Int32.ofNat j) + (1 : Int32))), (.ref ru), (.int (Int32.ofNat j)), (.ref ru)])) ?_ (fun _ kk_ => XS.iloadN X46.here hx rfl (hb hby dins_123) rfl  (XS.iconst X46.here hx rfl (hb hby dins_124) (XS.iadd X46.here hx rfl (hb hby dins_125) rfl kk_)))
      rw [show Int32.ofNat j + (1 : Int32) = Int32.ofNat (j + 1) from own_add j 1]
      show Go p e below _ T46 (mkF m 126 #[rv x, iv key, iv run, iv (Int32.ofNat j), .unset] [(.int (Int32.ofNat (j + 1))), (.ref ru), (.int (Int32.ofNat j)), (.ref ru)])
      refine Go.st (T' := T46) (g' := (mkF m 127 #[rv x, iv key, iv run, iv (Int32.ofNat j), .unset] [(.ref x), (.int (Int32.ofNat (j + 1))), (.ref ru), (.int (Int32.ofNat j)), (.ref ru)])) ?_ (fun _ kk_ => XS.aloadN X46.here hx rfl (hb hby dins_126) rfl rfl  kk_)
      have f47 := ((F_s.keep K34 (ninS ne_x_ids nin0)).other W39 (Or.inl ne_x_ids))
      obtain ⟨T48, X48, e48, st48⟩ := getF X46 hx hZ hown (host := "") (Or.inl (hw _ (List.mem_of_getElem? (i := 51) rfl))) Via.refl e46 f47 (g := (mkF m 127 #[rv x, iv key, iv run, iv (Int32.ofNat j), .unset] [(.ref x), (.int (Int32.ofNat (j + 1))), (.ref ru), (.int (Int32.ofNat j)), (.ref ru)])) rfl rfl (hb hby dins_127)
      refine Go.st (T' := T48) (g' := (mkF m 130 #[rv x, iv key, iv run, iv (Int32.ofNat j), .unset] [(.int (Int32.ofNat n)), (.int (Int32.ofNat (j + 1))), (.ref ru), (.int (Int32.ofNat j)), (.ref ru)])) ?_ st48
      refine Go.st (T' := T48) (g' := (mkF m 132 #[rv x, iv key, iv run, iv (Int32.ofNat j), .unset] [(.int ((Int32.ofNat n) - (Int32.ofNat j))), (.int (Int32.ofNat (j + 1))), (.ref ru), (.int (Int32.ofNat j)), (.ref ru)])) ?_ (fun _ kk_ => XS.iloadN X48.here hx rfl (hb hby dins_130) rfl  (XS.isub X48.here hx rfl (hb hby dins_131) rfl kk_))
      rw [show Int32.ofNat n - Int32.ofNat j = Int32.ofNat (n - j) from own_sub hj]
      show Go p e below _ T48 (mkF m 132 #[rv x, iv key, iv run, iv (Int32.ofNat j), .unset] [(.int (Int32.ofNat (n - j))), (.int (Int32.ofNat (j + 1))), (.ref ru), (.int (Int32.ofNat j)), (.ref ru)])
      have f49 := ((V_u.keep K34 (ninS (Ne.symm ne_ids_ru) nin0)).other W39 (Ne.symm ne_ids_ru))
      refine Go.acopy X48 hx hZ hown (hw _ (List.mem_of_getElem? (i := 63) rfl)) (hw _ (List.mem_of_getElem? (i := 66) rfl)) (hw _ (List.mem_of_getElem? (i := 64) rfl)) (hw _ (List.mem_of_getElem? (i := 65) rfl)) e48 f49 f49 (us := (IL 4 (shF n j g))) rfl (sp := j) (dp := (j + 1)) (nn := (n - j)) rfl rfl rfl (by rw [IL_len]; omega) (by rw [IL_len]; omega) (own_shift g hj hn) (by rw [IL_len, IL_len]) N40 (hrg _ r3) rfl (by rw [hml]; rfl) rfl (hb hby dins_132) (by decide) 0 (by show 2 * 0 + _ ≤ _; exact Nat.le_of_eq rfl) (by decide) ?_
      intro T50 h50 L50 X50 e50 N50 K50 V50
      have Z51 : n0 ≤ h50.size := Nat.le_trans Z42 K50.1
      have K52 : Keep h0 h50 [x, ids, ru] := K41.trans K50 (allS (P := fun z_ => z_ ∈ [x, ids, ru] ∨ h0.size ≤ z_) (Or.inl (List.mem_of_getElem? (i := 2) rfl)) all0)
      show Go p e below _ T50 (mkF m 135 #[rv x, iv key, iv run, iv (Int32.ofNat j), .unset] [])
      refine Go.st (T' := T50) (g' := (mkF m 136 #[rv x, iv key, iv run, iv (Int32.ofNat j), .unset] [(.ref x)])) ?_ (fun _ kk_ => XS.aloadN X50.here hx rfl (hb hby dins_135) rfl rfl  kk_)
      have f53 := (f43.keep K50 (ninS ne_x_ru nin0))
      obtain ⟨T54, X54, e54, st54⟩ := getF X50 hx hZ hown (host := "") (Or.inl (hw _ (List.mem_of_getElem? (i := 38) rfl))) Via.refl e50 f53 (g := (mkF m 136 #[rv x, iv key, iv run, iv (Int32.ofNat j), .unset] [(.ref x)])) rfl rfl (hb hby dins_136)
      refine Go.st (T' := T54) (g' := (mkF m 139 #[rv x, iv key, iv run, iv (Int32.ofNat j), .unset] [(.ref ru)])) ?_ st54
      refine Go.st (T' := T54) (g' := (mkF m 141 #[rv x, iv key, iv run, iv (Int32.ofNat j), .unset] [(.int run), (.int (Int32.ofNat j)), (.ref ru)])) ?_ (fun _ kk_ => XS.iloadN X54.here hx rfl (hb hby dins_139) rfl  (XS.iloadN X54.here hx rfl (hb hby dins_140) rfl  kk_))
      refine Go.iastore X54 hx hZ e54 V50 (i := j) (by rw [IL_len]; omega) rfl rfl rfl (hb hby dins_141) ?_
      intro T55 h55 X55 e55 W55 V55
      have N56 := Fr.snoc X55 N50 (hrg _ r3)
      have K57 : Keep h0 h55 [x, ids, ru] := K52.wr W55 (Or.inl (List.mem_of_getElem? (i := 2) rfl))
      have Z58 : n0 ≤ h55.size := by rw [W55.size]; exact Z51
      show Go p e below _ T55 (mkF m 142 #[rv x, iv key, iv run, iv (Int32.ofNat j), .unset] [])
      rw [IL_set (show j < 4 by omega)] at V55
      change Ary Z h55 ru .int (IL 4 (insF n j run g)) at V55
      refine Go.st (T' := T55) (g' := (mkF m 144 #[rv x, iv key, iv run, iv (Int32.ofNat j), .unset] [(.ref x), (.ref x)])) ?_ (fun _ kk_ => XS.aloadN X55.here hx rfl (hb hby dins_142) rfl rfl  (XS.dup X55.here hx rfl (hb hby dins_143) rfl rfl kk_))
      have f59 := ((f47.keep K50 (ninS ne_x_ru nin0)).other W55 (Or.inl ne_x_ru))
      obtain ⟨T60, X60, e60, st60⟩ := getF X55 hx hZ hown (host := "") (Or.inl (hw _ (List.mem_of_getElem? (i := 51) rfl))) Via.refl e55 f59 (g := (mkF m 144 #[rv x, iv key, iv run, iv (Int32.ofNat j), .unset] [(.ref x), (.ref x)])) rfl rfl (hb hby dins_144)
      refine Go.st (T' := T60) (g' := (mkF m 147 #[rv x, iv key, iv run, iv (Int32.ofNat j), .unset] [(.int (Int32.ofNat n)), (.ref x)])) ?_ st60
      refine Go.st (T' := T60) (g' := (mkF m 149 #[rv x, iv key, iv run, iv (Int32.ofNat j), .unset] [(.int ((Int32.ofNat n) + (1 : Int32))), (.ref x)])) ?_ (fun _ kk_ => XS.iconst X60.here hx rfl (hb hby dins_147) (XS.iadd X60.here hx rfl (hb hby dins_148) rfl kk_))
      rw [show Int32.ofNat n + (1 : Int32) = Int32.ofNat (n + 1) from own_add n 1]
      show Go p e below _ T60 (mkF m 149 #[rv x, iv key, iv run, iv (Int32.ofNat j), .unset] [(.int (Int32.ofNat (n + 1))), (.ref x)])
      have f61 := ((((E_x.keep K34).wr W39).keep K50).wr W55)
      obtain ⟨T62, h62, X62, e62, W62, st62⟩ := putF X60 hx hZ hown (host := "") (Or.inl (hw _ (List.mem_of_getElem? (i := 51) rfl))) Via.refl e60 f59 f61 (Or.inl (hw _ (List.mem_of_getElem? (i := 52) rfl))) (hw _ (List.mem_of_getElem? (i := 30) rfl)) (ty := .int) (by decide) rfl rfl (g := (mkF m 149 #[rv x, iv key, iv run, iv (Int32.ofNat j), .unset] [(.int (Int32.ofNat (n + 1))), (.ref x)])) rfl rfl (hb hby dins_149)
      have N63 := Fr.snoc X62 N56 (hrg _ r1)
      have f64 := f59.same W62
      have K65 : Keep h0 h62 [x, ids, ru] := K57.wr W62 (Or.inl (List.mem_of_getElem? (i := 0) rfl))
      have Z66 : n0 ≤ h62.size := by rw [W62.size]; exact Z58
      refine Go.st (T' := T62) (g' := (mkF m 152 #[rv x, iv key, iv run, iv (Int32.ofNat j), .unset] [])) ?_ st62
      refine Go.st (T' := T62) (g' := (mkF m 153 #[rv x, iv key, iv run, iv (Int32.ofNat j), .unset] [(.int (1 : Int32))])) ?_ (fun _ kk_ => XS.iconst X62.here hx rfl (hb hby dins_152) kk_)
      have f67 := (f61.wr W62)
      have f68 := ((((f37.other W39 (Or.inl ne_x_ids)).keep K50 (ninS ne_x_ru nin0)).other W55 (Or.inl ne_x_ru)).other W62 (Or.inr (slot_ne (C := "com/example/rhadamanthus/rhadamanthus/analysis/Entries$Row") (Or.inl (hw _ (List.mem_of_getElem? (i := 37) rfl))) (Or.inl (hw _ (List.mem_of_getElem? (i := 52) rfl))) (by decide) (t := (.array .int)) (t' := .int) (by decide) (by decide))))
      have f69 := (((V39.keep K50 (ninS ne_ids_ru nin0)).other W55 ne_ids_ru).other W62 (Ne.symm ne_x_ids))
      have f70 := ((f53.other W55 (Or.inl ne_x_ru)).other W62 (Or.inr (slot_ne (C := "com/example/rhadamanthus/rhadamanthus/analysis/Entries$Row") (Or.inl (hw _ (List.mem_of_getElem? (i := 39) rfl))) (Or.inl (hw _ (List.mem_of_getElem? (i := 52) rfl))) (by decide) (t := (.array .int)) (t' := .int) (by decide) (by decide))))
      have f71 := (V55.other W62 (Ne.symm ne_x_ru))
      refine Go.retN X62 hx hlk (t := .boolean) hret (by simp) (z' := (1 : Int32)) rfl (hb hby dins_153) (by decide) (by decide) ?_
      try rw [e62]
      exact ⟨_, rfl, N63, _, K65, (allS (P := fun z_ => rg z_ = lb) r1 (allS (P := fun z_ => rg z_ = lb) r2 (allS (P := fun z_ => rg z_ = lb) r3 all0))), Or.inr ⟨rfl, j, hj, ⟨ids, r1, r2, f67, f68, f64, f69, Or.inr ⟨ru, _, r3, ne_ids_ru, f70, f71⟩⟩, hpl⟩⟩
theorem drw0_0 : decode prog_2_method_1_code 0 = .ok (.aload_n 0, 1) := by decide +kernel
theorem drw0_1 : decode prog_2_method_1_code 1 = .ok (.invokespecial 1, 3) := by decide +kernel
theorem drw0_4 : decode prog_2_method_1_code 4 = .ok (.aload_n 0, 1) := by decide +kernel
theorem drw0_5 : decode prog_2_method_1_code 5 = .ok (.iconst 4, 1) := by decide +kernel
theorem drw0_6 : decode prog_2_method_1_code 6 = .ok (.newarray .int, 2) := by decide +kernel
theorem drw0_8 : decode prog_2_method_1_code 8 = .ok (.putfield 9, 3) := by decide +kernel
theorem drw0_11 : decode prog_2_method_1_code 11 = .ok (.aload_n 0, 1) := by decide +kernel
theorem drw0_12 : decode prog_2_method_1_code 12 = .ok (.iload_n 1, 1) := by decide +kernel
theorem drw0_13 : decode prog_2_method_1_code 13 = .ok (.ifCond .eq 9, 3) := by decide +kernel
theorem drw0_22 : decode prog_2_method_1_code 22 = .ok (.aconst_null, 1) := by decide +kernel
theorem drw0_23 : decode prog_2_method_1_code 23 = .ok (.putfield 13, 3) := by decide +kernel
theorem drw0_26 : decode prog_2_method_1_code 26 = .ok (.return_, 1) := by decide +kernel
theorem pn_rw0 : plainFor (⟨"com/example/rhadamanthus/rhadamanthus/analysis/Entries$Row", "<init>", "(Z)V"⟩ : MethodName) = true := by first | exact plainFor_of_name (by first | (simp [plainName, overriddenIn]; done) | decide +kernel) | decide +kernel
theorem ef_rw0 (m : MethodId) (x0 : Addr) (x1 : Int32) : entryFrame m #[(.ref x0), (.int x1)] 2 = mkF m 0 #[rv x0, iv x1] [] := by first | (simp [entryFrame, mkF, argsToLocals, Value.category]; done) | rfl
set_option maxRecDepth 65536 in
set_option maxHeartbeats 40000000 in
theorem rm_rw0 (l : Launch) (Z : State) (a0 : Array Value) (hw : ∀ d ∈ tables_1, d.before a0 Z = true) (ws : List Jvm.Cond) (x : Addr) (n0 : Nat) (h0 : Heap) (Z0 : n0 ≤ h0.size) (E_x : Exa Z h0 x "com/example/rhadamanthus/rhadamanthus/analysis/Entries$Row") (Fi : Fld Z h0 x "com/example/rhadamanthus/rhadamanthus/analysis/Entries$Row" "ids" "[I" .null) (Fr_ : Fld Z h0 x "com/example/rhadamanthus/rhadamanthus/analysis/Entries$Row" "runs" "[I" .null) (Fs : Fld Z h0 x "com/example/rhadamanthus/rhadamanthus/analysis/Entries$Row" "size" "I" (.int (0 : Int32))) (g_x : n0 ≤ x) :
    Mt l Z (⟨"com/example/rhadamanthus/rhadamanthus/analysis/Entries$Row", "<init>", "(Z)V"⟩ : MethodName) prog_2_method_1_code 2 none ws ({ frames := 1, cells := 1, slots := 4, locals := 12 } : Room) #[(.ref x), (.int (0 : Int32))] h0 (fun v h L => v = none ∧ Fr n0 L ∧ Keep h0 h [x] ∧ ∃ ids, h0.size ≤ ids ∧ Fld Z h x "com/example/rhadamanthus/rhadamanthus/analysis/Entries$Row" "ids" "[I" (.ref ids) ∧ Fld Z h x "com/example/rhadamanthus/rhadamanthus/analysis/Entries$Row" "size" "I" (.int (0 : Int32)) ∧ Ary Z h ids .int (IL 4 (fun _ => 0)) ∧ Fld Z h x "com/example/rhadamanthus/rhadamanthus/analysis/Entries$Row" "runs" "[I" .null) := by
  refine Mt.body pn_rw0 ?_
  intro p e s m below meth c s₁ hx hby hml hown hnm hret hlk hZ X0 e0
  refine Go.cast (g' := (mkF m 0 #[rv x, iv (0 : Int32)] [])) (ef_rw0 m x (0 : Int32)) ?_
  have N0 := Fr.nil n0
  have K0 := Keep.refl h0 [x]
  refine Go.st (T' := s₁) (g' := (mkF m 1 #[rv x, iv (0 : Int32)] [(.ref x)])) ?_ (fun _ kk_ => XS.aloadN X0.here hx rfl (hb hby drw0_0) rfl rfl  kk_)
  obtain ⟨T1, X1, e1, st1⟩ := initO X0 hx hZ hown (hw _ (List.mem_of_getElem? (i := 35) rfl)) (hw _ (List.mem_of_getElem? (i := 7) rfl)) (hw _ (List.mem_of_getElem? (i := 8) rfl)) e0 (g := (mkF m 1 #[rv x, iv (0 : Int32)] [(.ref x)])) rfl (by rw [hml]; rfl) rfl (hb hby drw0_1) (by decide) (W := 0) (by show 2 * 0 + _ ≤ _; exact Nat.le_of_eq rfl) (by decide)
  refine Go.st (T' := T1) (g' := (mkF m 4 #[rv x, iv (0 : Int32)] [])) ?_ st1
  refine Go.st (T' := T1) (g' := (mkF m 6 #[rv x, iv (0 : Int32)] [(.int (4 : Int32)), (.ref x)])) ?_ (fun _ kk_ => XS.aloadN X1.here hx rfl (hb hby drw0_4) rfl rfl  (XS.iconst X1.here hx rfl (hb hby drw0_5) kk_))
  refine Go.newP X1 hx hZ (aty := .int) (hw _ (List.mem_of_getElem? (i := 21) rfl)) e1 rfl (hb hby drw0_6) (n := 4) rfl rfl 4 (by decide) (by decide) (by decide) (by decide) ?_
  intro T2 h2 b2 X2 e2 E2 g2 V2
  have ne_x_b2 : x ≠ b2 := Nat.ne_of_lt (Nat.lt_of_lt_of_eq (E_x).lt g2.symm)
  have g_b2 : n0 ≤ b2 := Nat.le_trans Z0 (Nat.le_of_eq g2.symm)
  have sz_b2 : h0.size ≤ b2 := Nat.le_trans K0.1 (Nat.le_of_eq g2.symm)
  have Z3 : n0 ≤ h2.size := Nat.le_trans Z0 E2.1
  have K4 : Keep h0 h2 [x] := K0.ext E2
  change Ary Z h2 b2 .int (IL 4 (fun _ => 0)) at V2
  show Go p e below _ T2 (mkF m 8 #[rv x, iv (0 : Int32)] [(.ref b2), (.ref x)])
  have f5 := (Fi.ext E2)
  have f6 := (E_x.ext E2)
  obtain ⟨T7, h7, X7, e7, W7, st7⟩ := putF X2 hx hZ hown (host := "") (Or.inl (hw _ (List.mem_of_getElem? (i := 36) rfl))) Via.refl e2 f5 f6 (Or.inl (hw _ (List.mem_of_getElem? (i := 37) rfl))) (hw _ (List.mem_of_getElem? (i := 30) rfl)) (ty := (.array .int)) (by decide) rfl rfl (g := (mkF m 8 #[rv x, iv (0 : Int32)] [(.ref b2), (.ref x)])) rfl rfl (hb hby drw0_8)
  have N8 := Fr.snoc X7 N0 g_x
  have f9 := f5.same W7
  have K10 : Keep h0 h7 [x] := K4.wr W7 (Or.inl (List.mem_of_getElem? (i := 0) rfl))
  have Z11 : n0 ≤ h7.size := by rw [W7.size]; exact Z3
  refine Go.st (T' := T7) (g' := (mkF m 11 #[rv x, iv (0 : Int32)] [])) ?_ st7
  refine Go.st (T' := T7) (g' := (mkF m 23 #[rv x, iv (0 : Int32)] [.null, (.ref x)])) ?_ (fun _ kk_ => XS.aloadN X7.here hx rfl (hb hby drw0_11) rfl rfl  (XS.iloadN X7.here hx rfl (hb hby drw0_12) rfl  (XS.ifYes X7.here hx rfl (pc0 := 13) (pc' := 22) rfl (hb hby drw0_13) rfl ((if0 _ _).trans (teq ((by decide) : (0 : Int32) = (0 : Int32))).1) (by decide) (by decide) (XS.aconstNull X7.here hx rfl (hb hby drw0_22) kk_))))
  have f12 := ((Fr_.ext E2).other W7 (Or.inr (slot_ne (C := "com/example/rhadamanthus/rhadamanthus/analysis/Entries$Row") (Or.inl (hw _ (List.mem_of_getElem? (i := 39) rfl))) (Or.inl (hw _ (List.mem_of_getElem? (i := 37) rfl))) (by decide) (t := (.array .int)) (t' := (.array .int)) (by decide) (by decide))))
  have f13 := (f6.wr W7)
  obtain ⟨T14, h14, X14, e14, W14, st14⟩ := putF X7 hx hZ hown (host := "") (Or.inl (hw _ (List.mem_of_getElem? (i := 38) rfl))) Via.refl e7 f12 f13 (Or.inl (hw _ (List.mem_of_getElem? (i := 39) rfl))) (hw _ (List.mem_of_getElem? (i := 30) rfl)) (ty := (.array .int)) (by decide) rfl rfl (g := (mkF m 23 #[rv x, iv (0 : Int32)] [.null, (.ref x)])) rfl rfl (hb hby drw0_23)
  have N15 := Fr.snoc X14 N8 g_x
  have f16 := f12.same W14
  have K17 : Keep h0 h14 [x] := K10.wr W14 (Or.inl (List.mem_of_getElem? (i := 0) rfl))
  have Z18 : n0 ≤ h14.size := by rw [W14.size]; exact Z11
  refine Go.st (T' := T14) (g' := (mkF m 26 #[rv x, iv (0 : Int32)] [])) ?_ st14
  have f19 := (f9.other W14 (Or.inr (slot_ne (C := "com/example/rhadamanthus/rhadamanthus/analysis/Entries$Row") (Or.inl (hw _ (List.mem_of_getElem? (i := 37) rfl))) (Or.inl (hw _ (List.mem_of_getElem? (i := 39) rfl))) (by decide) (t := (.array .int)) (t' := (.array .int)) (by decide) (by decide))))
  have f20 := (((Fs.ext E2).other W7 (Or.inr (slot_ne (C := "com/example/rhadamanthus/rhadamanthus/analysis/Entries$Row") (Or.inl (hw _ (List.mem_of_getElem? (i := 52) rfl))) (Or.inl (hw _ (List.mem_of_getElem? (i := 37) rfl))) (by decide) (t := .int) (t' := (.array .int)) (by decide) (by decide)))).other W14 (Or.inr (slot_ne (C := "com/example/rhadamanthus/rhadamanthus/analysis/Entries$Row") (Or.inl (hw _ (List.mem_of_getElem? (i := 52) rfl))) (Or.inl (hw _ (List.mem_of_getElem? (i := 39) rfl))) (by decide) (t := .int) (t' := (.array .int)) (by decide) (by decide))))
  have f21 := ((V2.other W7 (Ne.symm ne_x_b2)).other W14 (Ne.symm ne_x_b2))
  refine Go.retV X14 hx hlk hret (hb hby drw0_26) (by decide) (by decide) ?_
  try rw [e14]
  exact ⟨rfl, N15, K17, b2, sz_b2, f19, f20, f21, f16⟩
theorem drw1_0 : decode prog_2_method_1_code 0 = .ok (.aload_n 0, 1) := by decide +kernel
theorem drw1_1 : decode prog_2_method_1_code 1 = .ok (.invokespecial 1, 3) := by decide +kernel
theorem drw1_4 : decode prog_2_method_1_code 4 = .ok (.aload_n 0, 1) := by decide +kernel
theorem drw1_5 : decode prog_2_method_1_code 5 = .ok (.iconst 4, 1) := by decide +kernel
theorem drw1_6 : decode prog_2_method_1_code 6 = .ok (.newarray .int, 2) := by decide +kernel
theorem drw1_8 : decode prog_2_method_1_code 8 = .ok (.putfield 9, 3) := by decide +kernel
theorem drw1_11 : decode prog_2_method_1_code 11 = .ok (.aload_n 0, 1) := by decide +kernel
theorem drw1_12 : decode prog_2_method_1_code 12 = .ok (.iload_n 1, 1) := by decide +kernel
theorem drw1_13 : decode prog_2_method_1_code 13 = .ok (.ifCond .eq 9, 3) := by decide +kernel
theorem drw1_16 : decode prog_2_method_1_code 16 = .ok (.iconst 4, 1) := by decide +kernel
theorem drw1_17 : decode prog_2_method_1_code 17 = .ok (.newarray .int, 2) := by decide +kernel
theorem drw1_19 : decode prog_2_method_1_code 19 = .ok (.goto 4, 3) := by decide +kernel
theorem drw1_23 : decode prog_2_method_1_code 23 = .ok (.putfield 13, 3) := by decide +kernel
theorem drw1_26 : decode prog_2_method_1_code 26 = .ok (.return_, 1) := by decide +kernel
theorem pn_rw1 : plainFor (⟨"com/example/rhadamanthus/rhadamanthus/analysis/Entries$Row", "<init>", "(Z)V"⟩ : MethodName) = true := by first | exact plainFor_of_name (by first | (simp [plainName, overriddenIn]; done) | decide +kernel) | decide +kernel
theorem ef_rw1 (m : MethodId) (x0 : Addr) (x1 : Int32) : entryFrame m #[(.ref x0), (.int x1)] 2 = mkF m 0 #[rv x0, iv x1] [] := by first | (simp [entryFrame, mkF, argsToLocals, Value.category]; done) | rfl
set_option maxRecDepth 65536 in
set_option maxHeartbeats 40000000 in
theorem rm_rw1 (l : Launch) (Z : State) (a0 : Array Value) (hw : ∀ d ∈ tables_1, d.before a0 Z = true) (ws : List Jvm.Cond) (x : Addr) (n0 : Nat) (h0 : Heap) (Z0 : n0 ≤ h0.size) (E_x : Exa Z h0 x "com/example/rhadamanthus/rhadamanthus/analysis/Entries$Row") (Fi : Fld Z h0 x "com/example/rhadamanthus/rhadamanthus/analysis/Entries$Row" "ids" "[I" .null) (Fr_ : Fld Z h0 x "com/example/rhadamanthus/rhadamanthus/analysis/Entries$Row" "runs" "[I" .null) (Fs : Fld Z h0 x "com/example/rhadamanthus/rhadamanthus/analysis/Entries$Row" "size" "I" (.int (0 : Int32))) (g_x : n0 ≤ x) :
    Mt l Z (⟨"com/example/rhadamanthus/rhadamanthus/analysis/Entries$Row", "<init>", "(Z)V"⟩ : MethodName) prog_2_method_1_code 2 none ws ({ frames := 1, cells := 2, slots := 8, locals := 12 } : Room) #[(.ref x), (.int (1 : Int32))] h0 (fun v h L => v = none ∧ Fr n0 L ∧ Keep h0 h [x] ∧ ∃ ids, h0.size ≤ ids ∧ Fld Z h x "com/example/rhadamanthus/rhadamanthus/analysis/Entries$Row" "ids" "[I" (.ref ids) ∧ Fld Z h x "com/example/rhadamanthus/rhadamanthus/analysis/Entries$Row" "size" "I" (.int (0 : Int32)) ∧ Ary Z h ids .int (IL 4 (fun _ => 0)) ∧ ∃ ru, h0.size ≤ ru ∧ ids ≠ ru ∧ Fld Z h x "com/example/rhadamanthus/rhadamanthus/analysis/Entries$Row" "runs" "[I" (.ref ru) ∧ Ary Z h ru .int (IL 4 (fun _ => 0))) := by
  refine Mt.body pn_rw1 ?_
  intro p e s m below meth c s₁ hx hby hml hown hnm hret hlk hZ X0 e0
  refine Go.cast (g' := (mkF m 0 #[rv x, iv (1 : Int32)] [])) (ef_rw1 m x (1 : Int32)) ?_
  have N0 := Fr.nil n0
  have K0 := Keep.refl h0 [x]
  refine Go.st (T' := s₁) (g' := (mkF m 1 #[rv x, iv (1 : Int32)] [(.ref x)])) ?_ (fun _ kk_ => XS.aloadN X0.here hx rfl (hb hby drw1_0) rfl rfl  kk_)
  obtain ⟨T1, X1, e1, st1⟩ := initO X0 hx hZ hown (hw _ (List.mem_of_getElem? (i := 35) rfl)) (hw _ (List.mem_of_getElem? (i := 7) rfl)) (hw _ (List.mem_of_getElem? (i := 8) rfl)) e0 (g := (mkF m 1 #[rv x, iv (1 : Int32)] [(.ref x)])) rfl (by rw [hml]; rfl) rfl (hb hby drw1_1) (by decide) (W := 0) (by show 2 * 0 + _ ≤ _; exact Nat.le_of_eq rfl) (by decide)
  refine Go.st (T' := T1) (g' := (mkF m 4 #[rv x, iv (1 : Int32)] [])) ?_ st1
  refine Go.st (T' := T1) (g' := (mkF m 6 #[rv x, iv (1 : Int32)] [(.int (4 : Int32)), (.ref x)])) ?_ (fun _ kk_ => XS.aloadN X1.here hx rfl (hb hby drw1_4) rfl rfl  (XS.iconst X1.here hx rfl (hb hby drw1_5) kk_))
  refine Go.newP X1 hx hZ (aty := .int) (hw _ (List.mem_of_getElem? (i := 21) rfl)) e1 rfl (hb hby drw1_6) (n := 4) rfl rfl 4 (by decide) (by decide) (by decide) (by decide) ?_
  intro T2 h2 b2 X2 e2 E2 g2 V2
  have ne_x_b2 : x ≠ b2 := Nat.ne_of_lt (Nat.lt_of_lt_of_eq (E_x).lt g2.symm)
  have g_b2 : n0 ≤ b2 := Nat.le_trans Z0 (Nat.le_of_eq g2.symm)
  have sz_b2 : h0.size ≤ b2 := Nat.le_trans K0.1 (Nat.le_of_eq g2.symm)
  have Z3 : n0 ≤ h2.size := Nat.le_trans Z0 E2.1
  have K4 : Keep h0 h2 [x] := K0.ext E2
  change Ary Z h2 b2 .int (IL 4 (fun _ => 0)) at V2
  show Go p e below _ T2 (mkF m 8 #[rv x, iv (1 : Int32)] [(.ref b2), (.ref x)])
  have f5 := (Fi.ext E2)
  have f6 := (E_x.ext E2)
  obtain ⟨T7, h7, X7, e7, W7, st7⟩ := putF X2 hx hZ hown (host := "") (Or.inl (hw _ (List.mem_of_getElem? (i := 36) rfl))) Via.refl e2 f5 f6 (Or.inl (hw _ (List.mem_of_getElem? (i := 37) rfl))) (hw _ (List.mem_of_getElem? (i := 30) rfl)) (ty := (.array .int)) (by decide) rfl rfl (g := (mkF m 8 #[rv x, iv (1 : Int32)] [(.ref b2), (.ref x)])) rfl rfl (hb hby drw1_8)
  have N8 := Fr.snoc X7 N0 g_x
  have f9 := f5.same W7
  have K10 : Keep h0 h7 [x] := K4.wr W7 (Or.inl (List.mem_of_getElem? (i := 0) rfl))
  have Z11 : n0 ≤ h7.size := by rw [W7.size]; exact Z3
  refine Go.st (T' := T7) (g' := (mkF m 11 #[rv x, iv (1 : Int32)] [])) ?_ st7
  refine Go.st (T' := T7) (g' := (mkF m 17 #[rv x, iv (1 : Int32)] [(.int (4 : Int32)), (.ref x)])) ?_ (fun _ kk_ => XS.aloadN X7.here hx rfl (hb hby drw1_11) rfl rfl  (XS.iloadN X7.here hx rfl (hb hby drw1_12) rfl  (XS.ifNo X7.here hx rfl (hb hby drw1_13) rfl ((if0 _ _).trans (feq ((by decide) : ¬ ((1 : Int32) = (0 : Int32)))).1) (XS.iconst X7.here hx rfl (hb hby drw1_16) kk_))))
  refine Go.newP X7 hx hZ (aty := .int) (hw _ (List.mem_of_getElem? (i := 21) rfl)) e7 rfl (hb hby drw1_17) (n := 4) rfl rfl 4 (by decide) (by decide) (by decide) (by decide) ?_
  intro T12 h12 b12 X12 e12 E12 g12 V12
  have f13 := (f6.wr W7)
  have ne_x_b12 : x ≠ b12 := Nat.ne_of_lt (Nat.lt_of_lt_of_eq (f13).lt g12.symm)
  have f14 := (V2.other W7 (Ne.symm ne_x_b2))
  have ne_b2_b12 : b2 ≠ b12 := Nat.ne_of_lt (Nat.lt_of_lt_of_eq (f14).lt g12.symm)
  have g_b12 : n0 ≤ b12 := Nat.le_trans Z11 (Nat.le_of_eq g12.symm)
  have sz_b12 : h0.size ≤ b12 := Nat.le_trans K10.1 (Nat.le_of_eq g12.symm)
  have Z15 : n0 ≤ h12.size := Nat.le_trans Z11 E12.1
  have K16 : Keep h0 h12 [x] := K10.ext E12
  change Ary Z h12 b12 .int (IL 4 (fun _ => 0)) at V12
  show Go p e below _ T12 (mkF m 19 #[rv x, iv (1 : Int32)] [(.ref b12), (.ref x)])
  refine Go.st (T' := T12) (g' := (mkF m 23 #[rv x, iv (1 : Int32)] [(.ref b12), (.ref x)])) ?_ (fun _ kk_ => XS.goto X12.here hx rfl (pc0 := 19) (pc' := 23) rfl (hb hby drw1_19) (by decide) (by decide) kk_)
  have f17 := (((Fr_.ext E2).other W7 (Or.inr (slot_ne (C := "com/example/rhadamanthus/rhadamanthus/analysis/Entries$Row") (Or.inl (hw _ (List.mem_of_getElem? (i := 39) rfl))) (Or.inl (hw _ (List.mem_of_getElem? (i := 37) rfl))) (by decide) (t := (.array .int)) (t' := (.array .int)) (by decide) (by decide)))).ext E12)
  have f18 := (f13.ext E12)
  obtain ⟨T19, h19, X19, e19, W19, st19⟩ := putF X12 hx hZ hown (host := "") (Or.inl (hw _ (List.mem_of_getElem? (i := 38) rfl))) Via.refl e12 f17 f18 (Or.inl (hw _ (List.mem_of_getElem? (i := 39) rfl))) (hw _ (List.mem_of_getElem? (i := 30) rfl)) (ty := (.array .int)) (by decide) rfl rfl (g := (mkF m 23 #[rv x, iv (1 : Int32)] [(.ref b12), (.ref x)])) rfl rfl (hb hby drw1_23)
  have N20 := Fr.snoc X19 N8 g_x
  have f21 := f17.same W19
  have K22 : Keep h0 h19 [x] := K16.wr W19 (Or.inl (List.mem_of_getElem? (i := 0) rfl))
  have Z23 : n0 ≤ h19.size := by rw [W19.size]; exact Z15
  refine Go.st (T' := T19) (g' := (mkF m 26 #[rv x, iv (1 : Int32)] [])) ?_ st19
  have f24 := (V12.other W19 (Ne.symm ne_x_b12))
  have f25 := ((f9.ext E12).other W19 (Or.inr (slot_ne (C := "com/example/rhadamanthus/rhadamanthus/analysis/Entries$Row") (Or.inl (hw _ (List.mem_of_getElem? (i := 37) rfl))) (Or.inl (hw _ (List.mem_of_getElem? (i := 39) rfl))) (by decide) (t := (.array .int)) (t' := (.array .int)) (by decide) (by decide))))
  have f26 := ((((Fs.ext E2).other W7 (Or.inr (slot_ne (C := "com/example/rhadamanthus/rhadamanthus/analysis/Entries$Row") (Or.inl (hw _ (List.mem_of_getElem? (i := 52) rfl))) (Or.inl (hw _ (List.mem_of_getElem? (i := 37) rfl))) (by decide) (t := .int) (t' := (.array .int)) (by decide) (by decide)))).ext E12).other W19 (Or.inr (slot_ne (C := "com/example/rhadamanthus/rhadamanthus/analysis/Entries$Row") (Or.inl (hw _ (List.mem_of_getElem? (i := 52) rfl))) (Or.inl (hw _ (List.mem_of_getElem? (i := 39) rfl))) (by decide) (t := .int) (t' := (.array .int)) (by decide) (by decide))))
  have f27 := ((f14.ext E12).other W19 (Ne.symm ne_x_b2))
  refine Go.retV X19 hx hlk hret (hb hby drw1_26) (by decide) (by decide) ?_
  try rw [e19]
  exact ⟨rfl, N20, K22, b2, sz_b2, f25, f26, f27, b12, sz_b12, ne_b2_b12, f21, f24⟩
theorem dent_0 : decode prog_1_method_1_code 0 = .ok (.aload_n 0, 1) := by decide +kernel
theorem dent_1 : decode prog_1_method_1_code 1 = .ok (.invokespecial 1, 3) := by decide +kernel
theorem dent_4 : decode prog_1_method_1_code 4 = .ok (.aload_n 0, 1) := by decide +kernel
theorem dent_5 : decode prog_1_method_1_code 5 = .ok (.iload_n 2, 1) := by decide +kernel
theorem dent_6 : decode prog_1_method_1_code 6 = .ok (.putfield 7, 3) := by decide +kernel
theorem dent_9 : decode prog_1_method_1_code 9 = .ok (.aload_n 0, 1) := by decide +kernel
theorem dent_10 : decode prog_1_method_1_code 10 = .ok (.iload_n 1, 1) := by decide +kernel
theorem dent_11 : decode prog_1_method_1_code 11 = .ok (.anewarray 13, 3) := by decide +kernel
theorem dent_14 : decode prog_1_method_1_code 14 = .ok (.putfield 15, 3) := by decide +kernel
theorem dent_17 : decode prog_1_method_1_code 17 = .ok (.aload_n 0, 1) := by decide +kernel
theorem dent_18 : decode prog_1_method_1_code 18 = .ok (.iload_n 1, 1) := by decide +kernel
theorem dent_19 : decode prog_1_method_1_code 19 = .ok (.anewarray 13, 3) := by decide +kernel
theorem dent_22 : decode prog_1_method_1_code 22 = .ok (.putfield 19, 3) := by decide +kernel
theorem dent_25 : decode prog_1_method_1_code 25 = .ok (.aload_n 0, 1) := by decide +kernel
theorem dent_26 : decode prog_1_method_1_code 26 = .ok (.iload_n 1, 1) := by decide +kernel
theorem dent_27 : decode prog_1_method_1_code 27 = .ok (.anewarray 22, 3) := by decide +kernel
theorem dent_30 : decode prog_1_method_1_code 30 = .ok (.putfield 24, 3) := by decide +kernel
theorem dent_33 : decode prog_1_method_1_code 33 = .ok (.aload_n 0, 1) := by decide +kernel
theorem dent_34 : decode prog_1_method_1_code 34 = .ok (.iload_n 1, 1) := by decide +kernel
theorem dent_35 : decode prog_1_method_1_code 35 = .ok (.newarray .int, 2) := by decide +kernel
theorem dent_37 : decode prog_1_method_1_code 37 = .ok (.putfield 27, 3) := by decide +kernel
theorem dent_40 : decode prog_1_method_1_code 40 = .ok (.return_, 1) := by decide +kernel
theorem pn_ent : plainFor (⟨"com/example/rhadamanthus/rhadamanthus/analysis/Entries", "<init>", "(II)V"⟩ : MethodName) = true := by first | exact plainFor_of_name (by first | (simp [plainName, overriddenIn]; done) | decide +kernel) | decide +kernel
theorem ef_ent (m : MethodId) (x0 : Addr) (x1 : Int32) (x2 : Int32) : entryFrame m #[(.ref x0), (.int x1), (.int x2)] 3 = mkF m 0 #[rv x0, iv x1, iv x2] [] := by first | (simp [entryFrame, mkF, argsToLocals, Value.category]; done) | rfl
set_option maxRecDepth 65536 in
set_option maxHeartbeats 40000000 in
theorem rm_ent (l : Launch) (Z : State) (a0 : Array Value) (hw : ∀ d ∈ tables_1, d.before a0 Z = true) (ws : List Jvm.Cond) (x : Addr) (n0 : Nat) (h0 : Heap) (Z0 : n0 ≤ h0.size) (O0 : Old Z n0 h0) (g_x : n0 ≤ x) (E_x : Exa Z h0 x "com/example/rhadamanthus/rhadamanthus/analysis/Entries") (F_entities : Fld Z h0 x "com/example/rhadamanthus/rhadamanthus/analysis/Entries" "entities" "I" (.int (0 : Int32))) (F_bySubject : Fld Z h0 x "com/example/rhadamanthus/rhadamanthus/analysis/Entries" "bySubject" "[[Lcom/example/rhadamanthus/rhadamanthus/analysis/Entries$Row;" .null) (F_byObject : Fld Z h0 x "com/example/rhadamanthus/rhadamanthus/analysis/Entries" "byObject" "[[Lcom/example/rhadamanthus/rhadamanthus/analysis/Entries$Row;" .null) (F_holders : Fld Z h0 x "com/example/rhadamanthus/rhadamanthus/analysis/Entries" "holders" "[Lcom/example/rhadamanthus/rhadamanthus/analysis/Entries$Row;" .null) (F_counts : Fld Z h0 x "com/example/rhadamanthus/rhadamanthus/analysis/Entries" "counts" "[I" .null) :
    Mt l Z (⟨"com/example/rhadamanthus/rhadamanthus/analysis/Entries", "<init>", "(II)V"⟩ : MethodName) prog_1_method_1_code 3 none ws ({ frames := 1, cells := 4, slots := 8, locals := 12 } : Room) #[(.ref x), (.int (2 : Int32)), (.int (8 : Int32))] h0 (fun v h L => v = none ∧ Fr n0 L ∧ Old Z n0 h ∧ n0 ≤ h.size ∧ ∃ rg D, Inv Z h rg n0 D ∧ PD D D.k D.k (fun _ _ => False) ∧ D.eA = x ∧ D.k = 0) := by
  refine Mt.body pn_ent ?_
  intro p e s m below meth c s₁ hx hby hml hown hnm hret hlk hZ X0 e0
  refine Go.cast (g' := (mkF m 0 #[rv x, iv (2 : Int32), iv (8 : Int32)] [])) (ef_ent m x (2 : Int32) (8 : Int32)) ?_
  have N0 := Fr.nil n0
  refine Go.st (T' := s₁) (g' := (mkF m 1 #[rv x, iv (2 : Int32), iv (8 : Int32)] [(.ref x)])) ?_ (fun _ kk_ => XS.aloadN X0.here hx rfl (hb hby dent_0) rfl rfl  kk_)
  obtain ⟨T1, X1, e1, st1⟩ := initO X0 hx hZ hown (hw _ (List.mem_of_getElem? (i := 6) rfl)) (hw _ (List.mem_of_getElem? (i := 7) rfl)) (hw _ (List.mem_of_getElem? (i := 8) rfl)) e0 (g := (mkF m 1 #[rv x, iv (2 : Int32), iv (8 : Int32)] [(.ref x)])) rfl (by rw [hml]; rfl) rfl (hb hby dent_1) (by decide) (W := 0) (by show 2 * 0 + _ ≤ _; exact Nat.le_of_eq rfl) (by decide)
  refine Go.st (T' := T1) (g' := (mkF m 4 #[rv x, iv (2 : Int32), iv (8 : Int32)] [])) ?_ st1
  refine Go.st (T' := T1) (g' := (mkF m 6 #[rv x, iv (2 : Int32), iv (8 : Int32)] [(.int (8 : Int32)), (.ref x)])) ?_ (fun _ kk_ => XS.aloadN X1.here hx rfl (hb hby dent_4) rfl rfl  (XS.iloadN X1.here hx rfl (hb hby dent_5) rfl  kk_))
  obtain ⟨T2, h2, X2, e2, W2, st2⟩ := putF X1 hx hZ hown (host := "") (Or.inl (hw _ (List.mem_of_getElem? (i := 9) rfl))) Via.refl e1 F_entities E_x (Or.inr ⟨(hw _ (List.mem_of_getElem? (i := 10) rfl)), rfl, hnm⟩) (hw _ (List.mem_of_getElem? (i := 1) rfl)) (ty := .int) (by decide) rfl rfl (g := (mkF m 6 #[rv x, iv (2 : Int32), iv (8 : Int32)] [(.int (8 : Int32)), (.ref x)])) rfl rfl (hb hby dent_6)
  have N3 := Fr.snoc X2 N0 g_x
  have O4 := O0.wr W2 g_x
  have f5 := F_entities.same W2
  have Z6 : n0 ≤ h2.size := by rw [W2.size]; exact Z0
  refine Go.st (T' := T2) (g' := (mkF m 9 #[rv x, iv (2 : Int32), iv (8 : Int32)] [])) ?_ st2
  refine Go.st (T' := T2) (g' := (mkF m 11 #[rv x, iv (2 : Int32), iv (8 : Int32)] [(.int (2 : Int32)), (.ref x)])) ?_ (fun _ kk_ => XS.aloadN X2.here hx rfl (hb hby dent_9) rfl rfl  (XS.iloadN X2.here hx rfl (hb hby dent_10) rfl  kk_))
  refine Go.newRA X2 hx hZ hown (by decide +kernel) (hw _ (List.mem_of_getElem? (i := 11) rfl)) (hw _ (List.mem_of_getElem? (i := 12) rfl)) e2 rfl (hb hby dent_11) (n := 2) rfl rfl 2 (by decide) (by decide) (by decide) (by decide) ?_
  intro T7 h7 b7 X7 e7 E7 g7 A7
  have f8 := (E_x.wr W2)
  have ne_x_b7 : x ≠ b7 := Nat.ne_of_lt (Nat.lt_of_lt_of_eq (f8).lt g7.symm)
  have g_b7 : n0 ≤ b7 := Nat.le_trans Z6 (Nat.le_of_eq g7.symm)
  have O9 := O4.ext E7
  have Z10 : n0 ≤ h7.size := Nat.le_trans Z6 E7.1
  show Go p e below _ T7 (mkF m 14 #[rv x, iv (2 : Int32), iv (8 : Int32)] [(.ref b7), (.ref x)])
  have f11 := ((F_bySubject.other W2 (Or.inr (slot_ne (C := "com/example/rhadamanthus/rhadamanthus/analysis/Entries") (Or.inr (hw _ (List.mem_of_getElem? (i := 14) rfl))) (Or.inr (hw _ (List.mem_of_getElem? (i := 10) rfl))) (by decide) (t := (.array (.array (.object "com/example/rhadamanthus/rhadamanthus/analysis/Entries$Row")))) (t' := .int) (by decide) (by decide)))).ext E7)
  have f12 := (f8.ext E7)
  obtain ⟨T13, h13, X13, e13, W13, st13⟩ := putF X7 hx hZ hown (host := "") (Or.inl (hw _ (List.mem_of_getElem? (i := 13) rfl))) Via.refl e7 f11 f12 (Or.inr ⟨(hw _ (List.mem_of_getElem? (i := 14) rfl)), rfl, hnm⟩) (hw _ (List.mem_of_getElem? (i := 1) rfl)) (ty := (.array (.array (.object "com/example/rhadamanthus/rhadamanthus/analysis/Entries$Row")))) (by decide) rfl rfl (g := (mkF m 14 #[rv x, iv (2 : Int32), iv (8 : Int32)] [(.ref b7), (.ref x)])) rfl rfl (hb hby dent_14)
  have N14 := Fr.snoc X13 N3 g_x
  have O15 := O9.wr W13 g_x
  have f16 := f11.same W13
  have Z17 : n0 ≤ h13.size := by rw [W13.size]; exact Z10
  refine Go.st (T' := T13) (g' := (mkF m 17 #[rv x, iv (2 : Int32), iv (8 : Int32)] [])) ?_ st13
  refine Go.st (T' := T13) (g' := (mkF m 19 #[rv x, iv (2 : Int32), iv (8 : Int32)] [(.int (2 : Int32)), (.ref x)])) ?_ (fun _ kk_ => XS.aloadN X13.here hx rfl (hb hby dent_17) rfl rfl  (XS.iloadN X13.here hx rfl (hb hby dent_18) rfl  kk_))
  refine Go.newRA X13 hx hZ hown (by decide +kernel) (hw _ (List.mem_of_getElem? (i := 11) rfl)) (hw _ (List.mem_of_getElem? (i := 12) rfl)) e13 rfl (hb hby dent_19) (n := 2) rfl rfl 2 (by decide) (by decide) (by decide) (by decide) ?_
  intro T18 h18 b18 X18 e18 E18 g18 A18
  have f19 := (f12.wr W13)
  have ne_x_b18 : x ≠ b18 := Nat.ne_of_lt (Nat.lt_of_lt_of_eq (f19).lt g18.symm)
  have f20 := (AO.keep A7 (Keep.of_wr W13) (ninS (Ne.symm ne_x_b7) nin0))
  have ne_b7_b18 : b7 ≠ b18 := Nat.ne_of_lt (Nat.lt_of_lt_of_eq (f20).lt g18.symm)
  have g_b18 : n0 ≤ b18 := Nat.le_trans Z17 (Nat.le_of_eq g18.symm)
  have O21 := O15.ext E18
  have Z22 : n0 ≤ h18.size := Nat.le_trans Z17 E18.1
  show Go p e below _ T18 (mkF m 22 #[rv x, iv (2 : Int32), iv (8 : Int32)] [(.ref b18), (.ref x)])
  have f23 := ((((F_byObject.other W2 (Or.inr (slot_ne (C := "com/example/rhadamanthus/rhadamanthus/analysis/Entries") (Or.inr (hw _ (List.mem_of_getElem? (i := 16) rfl))) (Or.inr (hw _ (List.mem_of_getElem? (i := 10) rfl))) (by decide) (t := (.array (.array (.object "com/example/rhadamanthus/rhadamanthus/analysis/Entries$Row")))) (t' := .int) (by decide) (by decide)))).ext E7).other W13 (Or.inr (slot_ne (C := "com/example/rhadamanthus/rhadamanthus/analysis/Entries") (Or.inr (hw _ (List.mem_of_getElem? (i := 16) rfl))) (Or.inr (hw _ (List.mem_of_getElem? (i := 14) rfl))) (by decide) (t := (.array (.array (.object "com/example/rhadamanthus/rhadamanthus/analysis/Entries$Row")))) (t' := (.array (.array (.object "com/example/rhadamanthus/rhadamanthus/analysis/Entries$Row")))) (by decide) (by decide)))).ext E18)
  have f24 := (f19.ext E18)
  obtain ⟨T25, h25, X25, e25, W25, st25⟩ := putF X18 hx hZ hown (host := "") (Or.inl (hw _ (List.mem_of_getElem? (i := 15) rfl))) Via.refl e18 f23 f24 (Or.inr ⟨(hw _ (List.mem_of_getElem? (i := 16) rfl)), rfl, hnm⟩) (hw _ (List.mem_of_getElem? (i := 1) rfl)) (ty := (.array (.array (.object "com/example/rhadamanthus/rhadamanthus/analysis/Entries$Row")))) (by decide) rfl rfl (g := (mkF m 22 #[rv x, iv (2 : Int32), iv (8 : Int32)] [(.ref b18), (.ref x)])) rfl rfl (hb hby dent_22)
  have N26 := Fr.snoc X25 N14 g_x
  have O27 := O21.wr W25 g_x
  have f28 := f23.same W25
  have Z29 : n0 ≤ h25.size := by rw [W25.size]; exact Z22
  refine Go.st (T' := T25) (g' := (mkF m 25 #[rv x, iv (2 : Int32), iv (8 : Int32)] [])) ?_ st25
  refine Go.st (T' := T25) (g' := (mkF m 27 #[rv x, iv (2 : Int32), iv (8 : Int32)] [(.int (2 : Int32)), (.ref x)])) ?_ (fun _ kk_ => XS.aloadN X25.here hx rfl (hb hby dent_25) rfl rfl  (XS.iloadN X25.here hx rfl (hb hby dent_26) rfl  kk_))
  refine Go.newRO X25 hx hZ hown (hw _ (List.mem_of_getElem? (i := 17) rfl)) (hw _ (List.mem_of_getElem? (i := 18) rfl)) e25 rfl (hb hby dent_27) (n := 2) rfl rfl 2 (by decide) (by decide) (by decide) (by decide) (ad := RWA) (by decide +kernel) ?_
  intro T30 h30 b30 X30 e30 E30 g30 A30 D30
  have f31 := (f24.wr W25)
  have ne_x_b30 : x ≠ b30 := Nat.ne_of_lt (Nat.lt_of_lt_of_eq (f31).lt g30.symm)
  have f32 := (AO.keep (f20.ext E18) (Keep.of_wr W25) (ninS (Ne.symm ne_x_b7) nin0))
  have ne_b7_b30 : b7 ≠ b30 := Nat.ne_of_lt (Nat.lt_of_lt_of_eq (f32).lt g30.symm)
  have f33 := (AO.keep A18 (Keep.of_wr W25) (ninS (Ne.symm ne_x_b18) nin0))
  have ne_b18_b30 : b18 ≠ b30 := Nat.ne_of_lt (Nat.lt_of_lt_of_eq (f33).lt g30.symm)
  have g_b30 : n0 ≤ b30 := Nat.le_trans Z29 (Nat.le_of_eq g30.symm)
  have O34 := O27.ext E30
  have Z35 : n0 ≤ h30.size := Nat.le_trans Z29 E30.1
  show Go p e below _ T30 (mkF m 30 #[rv x, iv (2 : Int32), iv (8 : Int32)] [(.ref b30), (.ref x)])
  have f36 := ((((((F_holders.other W2 (Or.inr (slot_ne (C := "com/example/rhadamanthus/rhadamanthus/analysis/Entries") (Or.inr (hw _ (List.mem_of_getElem? (i := 20) rfl))) (Or.inr (hw _ (List.mem_of_getElem? (i := 10) rfl))) (by decide) (t := (.array (.object "com/example/rhadamanthus/rhadamanthus/analysis/Entries$Row"))) (t' := .int) (by decide) (by decide)))).ext E7).other W13 (Or.inr (slot_ne (C := "com/example/rhadamanthus/rhadamanthus/analysis/Entries") (Or.inr (hw _ (List.mem_of_getElem? (i := 20) rfl))) (Or.inr (hw _ (List.mem_of_getElem? (i := 14) rfl))) (by decide) (t := (.array (.object "com/example/rhadamanthus/rhadamanthus/analysis/Entries$Row"))) (t' := (.array (.array (.object "com/example/rhadamanthus/rhadamanthus/analysis/Entries$Row")))) (by decide) (by decide)))).ext E18).other W25 (Or.inr (slot_ne (C := "com/example/rhadamanthus/rhadamanthus/analysis/Entries") (Or.inr (hw _ (List.mem_of_getElem? (i := 20) rfl))) (Or.inr (hw _ (List.mem_of_getElem? (i := 16) rfl))) (by decide) (t := (.array (.object "com/example/rhadamanthus/rhadamanthus/analysis/Entries$Row"))) (t' := (.array (.array (.object "com/example/rhadamanthus/rhadamanthus/analysis/Entries$Row")))) (by decide) (by decide)))).ext E30)
  have f37 := (f31.ext E30)
  obtain ⟨T38, h38, X38, e38, W38, st38⟩ := putF X30 hx hZ hown (host := "") (Or.inl (hw _ (List.mem_of_getElem? (i := 19) rfl))) Via.refl e30 f36 f37 (Or.inr ⟨(hw _ (List.mem_of_getElem? (i := 20) rfl)), rfl, hnm⟩) (hw _ (List.mem_of_getElem? (i := 1) rfl)) (ty := (.array (.object "com/example/rhadamanthus/rhadamanthus/analysis/Entries$Row"))) (by decide) rfl rfl (g := (mkF m 30 #[rv x, iv (2 : Int32), iv (8 : Int32)] [(.ref b30), (.ref x)])) rfl rfl (hb hby dent_30)
  have N39 := Fr.snoc X38 N26 g_x
  have O40 := O34.wr W38 g_x
  have f41 := f36.same W38
  have Z42 : n0 ≤ h38.size := by rw [W38.size]; exact Z35
  refine Go.st (T' := T38) (g' := (mkF m 33 #[rv x, iv (2 : Int32), iv (8 : Int32)] [])) ?_ st38
  refine Go.st (T' := T38) (g' := (mkF m 35 #[rv x, iv (2 : Int32), iv (8 : Int32)] [(.int (2 : Int32)), (.ref x)])) ?_ (fun _ kk_ => XS.aloadN X38.here hx rfl (hb hby dent_33) rfl rfl  (XS.iloadN X38.here hx rfl (hb hby dent_34) rfl  kk_))
  refine Go.newP X38 hx hZ (aty := .int) (hw _ (List.mem_of_getElem? (i := 21) rfl)) e38 rfl (hb hby dent_35) (n := 2) rfl rfl 2 (by decide) (by decide) (by decide) (by decide) ?_
  intro T43 h43 b43 X43 e43 E43 g43 V43
  have f44 := (f37.wr W38)
  have ne_x_b43 : x ≠ b43 := Nat.ne_of_lt (Nat.lt_of_lt_of_eq (f44).lt g43.symm)
  have f45 := (AO.keep (f32.ext E30) (Keep.of_wr W38) (ninS (Ne.symm ne_x_b7) nin0))
  have ne_b7_b43 : b7 ≠ b43 := Nat.ne_of_lt (Nat.lt_of_lt_of_eq (f45).lt g43.symm)
  have f46 := (AO.keep (f33.ext E30) (Keep.of_wr W38) (ninS (Ne.symm ne_x_b18) nin0))
  have ne_b18_b43 : b18 ≠ b43 := Nat.ne_of_lt (Nat.lt_of_lt_of_eq (f46).lt g43.symm)
  have f47 := (AO.keep A30 (Keep.of_wr W38) (ninS (Ne.symm ne_x_b30) nin0))
  have ne_b30_b43 : b30 ≠ b43 := Nat.ne_of_lt (Nat.lt_of_lt_of_eq (f47).lt g43.symm)
  have g_b43 : n0 ≤ b43 := Nat.le_trans Z42 (Nat.le_of_eq g43.symm)
  have O48 := O40.ext E43
  have Z49 : n0 ≤ h43.size := Nat.le_trans Z42 E43.1
  change Ary Z h43 b43 .int [.int 0, .int 0] at V43
  show Go p e below _ T43 (mkF m 37 #[rv x, iv (2 : Int32), iv (8 : Int32)] [(.ref b43), (.ref x)])
  have f50 := ((((((((F_counts.other W2 (Or.inr (slot_ne (C := "com/example/rhadamanthus/rhadamanthus/analysis/Entries") (Or.inr (hw _ (List.mem_of_getElem? (i := 23) rfl))) (Or.inr (hw _ (List.mem_of_getElem? (i := 10) rfl))) (by decide) (t := (.array .int)) (t' := .int) (by decide) (by decide)))).ext E7).other W13 (Or.inr (slot_ne (C := "com/example/rhadamanthus/rhadamanthus/analysis/Entries") (Or.inr (hw _ (List.mem_of_getElem? (i := 23) rfl))) (Or.inr (hw _ (List.mem_of_getElem? (i := 14) rfl))) (by decide) (t := (.array .int)) (t' := (.array (.array (.object "com/example/rhadamanthus/rhadamanthus/analysis/Entries$Row")))) (by decide) (by decide)))).ext E18).other W25 (Or.inr (slot_ne (C := "com/example/rhadamanthus/rhadamanthus/analysis/Entries") (Or.inr (hw _ (List.mem_of_getElem? (i := 23) rfl))) (Or.inr (hw _ (List.mem_of_getElem? (i := 16) rfl))) (by decide) (t := (.array .int)) (t' := (.array (.array (.object "com/example/rhadamanthus/rhadamanthus/analysis/Entries$Row")))) (by decide) (by decide)))).ext E30).other W38 (Or.inr (slot_ne (C := "com/example/rhadamanthus/rhadamanthus/analysis/Entries") (Or.inr (hw _ (List.mem_of_getElem? (i := 23) rfl))) (Or.inr (hw _ (List.mem_of_getElem? (i := 20) rfl))) (by decide) (t := (.array .int)) (t' := (.array (.object "com/example/rhadamanthus/rhadamanthus/analysis/Entries$Row"))) (by decide) (by decide)))).ext E43)
  have f51 := (f44.ext E43)
  obtain ⟨T52, h52, X52, e52, W52, st52⟩ := putF X43 hx hZ hown (host := "") (Or.inl (hw _ (List.mem_of_getElem? (i := 22) rfl))) Via.refl e43 f50 f51 (Or.inr ⟨(hw _ (List.mem_of_getElem? (i := 23) rfl)), rfl, hnm⟩) (hw _ (List.mem_of_getElem? (i := 1) rfl)) (ty := (.array .int)) (by decide) rfl rfl (g := (mkF m 37 #[rv x, iv (2 : Int32), iv (8 : Int32)] [(.ref b43), (.ref x)])) rfl rfl (hb hby dent_37)
  have N53 := Fr.snoc X52 N39 g_x
  have O54 := O48.wr W52 g_x
  have f55 := f50.same W52
  have Z56 : n0 ≤ h52.size := by rw [W52.size]; exact Z49
  refine Go.st (T' := T52) (g' := (mkF m 40 #[rv x, iv (2 : Int32), iv (8 : Int32)] [])) ?_ st52
  have f57 := (f51.wr W52)
  have f58 := ((((((((f5.ext E7).other W13 (Or.inr (slot_ne (C := "com/example/rhadamanthus/rhadamanthus/analysis/Entries") (Or.inr (hw _ (List.mem_of_getElem? (i := 10) rfl))) (Or.inr (hw _ (List.mem_of_getElem? (i := 14) rfl))) (by decide) (t := .int) (t' := (.array (.array (.object "com/example/rhadamanthus/rhadamanthus/analysis/Entries$Row")))) (by decide) (by decide)))).ext E18).other W25 (Or.inr (slot_ne (C := "com/example/rhadamanthus/rhadamanthus/analysis/Entries") (Or.inr (hw _ (List.mem_of_getElem? (i := 10) rfl))) (Or.inr (hw _ (List.mem_of_getElem? (i := 16) rfl))) (by decide) (t := .int) (t' := (.array (.array (.object "com/example/rhadamanthus/rhadamanthus/analysis/Entries$Row")))) (by decide) (by decide)))).ext E30).other W38 (Or.inr (slot_ne (C := "com/example/rhadamanthus/rhadamanthus/analysis/Entries") (Or.inr (hw _ (List.mem_of_getElem? (i := 10) rfl))) (Or.inr (hw _ (List.mem_of_getElem? (i := 20) rfl))) (by decide) (t := .int) (t' := (.array (.object "com/example/rhadamanthus/rhadamanthus/analysis/Entries$Row"))) (by decide) (by decide)))).ext E43).other W52 (Or.inr (slot_ne (C := "com/example/rhadamanthus/rhadamanthus/analysis/Entries") (Or.inr (hw _ (List.mem_of_getElem? (i := 10) rfl))) (Or.inr (hw _ (List.mem_of_getElem? (i := 23) rfl))) (by decide) (t := .int) (t' := (.array .int)) (by decide) (by decide))))
  have f59 := ((((((f16.ext E18).other W25 (Or.inr (slot_ne (C := "com/example/rhadamanthus/rhadamanthus/analysis/Entries") (Or.inr (hw _ (List.mem_of_getElem? (i := 14) rfl))) (Or.inr (hw _ (List.mem_of_getElem? (i := 16) rfl))) (by decide) (t := (.array (.array (.object "com/example/rhadamanthus/rhadamanthus/analysis/Entries$Row")))) (t' := (.array (.array (.object "com/example/rhadamanthus/rhadamanthus/analysis/Entries$Row")))) (by decide) (by decide)))).ext E30).other W38 (Or.inr (slot_ne (C := "com/example/rhadamanthus/rhadamanthus/analysis/Entries") (Or.inr (hw _ (List.mem_of_getElem? (i := 14) rfl))) (Or.inr (hw _ (List.mem_of_getElem? (i := 20) rfl))) (by decide) (t := (.array (.array (.object "com/example/rhadamanthus/rhadamanthus/analysis/Entries$Row")))) (t' := (.array (.object "com/example/rhadamanthus/rhadamanthus/analysis/Entries$Row"))) (by decide) (by decide)))).ext E43).other W52 (Or.inr (slot_ne (C := "com/example/rhadamanthus/rhadamanthus/analysis/Entries") (Or.inr (hw _ (List.mem_of_getElem? (i := 14) rfl))) (Or.inr (hw _ (List.mem_of_getElem? (i := 23) rfl))) (by decide) (t := (.array (.array (.object "com/example/rhadamanthus/rhadamanthus/analysis/Entries$Row")))) (t' := (.array .int)) (by decide) (by decide))))
  have f60 := ((((f28.ext E30).other W38 (Or.inr (slot_ne (C := "com/example/rhadamanthus/rhadamanthus/analysis/Entries") (Or.inr (hw _ (List.mem_of_getElem? (i := 16) rfl))) (Or.inr (hw _ (List.mem_of_getElem? (i := 20) rfl))) (by decide) (t := (.array (.array (.object "com/example/rhadamanthus/rhadamanthus/analysis/Entries$Row")))) (t' := (.array (.object "com/example/rhadamanthus/rhadamanthus/analysis/Entries$Row"))) (by decide) (by decide)))).ext E43).other W52 (Or.inr (slot_ne (C := "com/example/rhadamanthus/rhadamanthus/analysis/Entries") (Or.inr (hw _ (List.mem_of_getElem? (i := 16) rfl))) (Or.inr (hw _ (List.mem_of_getElem? (i := 23) rfl))) (by decide) (t := (.array (.array (.object "com/example/rhadamanthus/rhadamanthus/analysis/Entries$Row")))) (t' := (.array .int)) (by decide) (by decide))))
  have f61 := ((f41.ext E43).other W52 (Or.inr (slot_ne (C := "com/example/rhadamanthus/rhadamanthus/analysis/Entries") (Or.inr (hw _ (List.mem_of_getElem? (i := 20) rfl))) (Or.inr (hw _ (List.mem_of_getElem? (i := 23) rfl))) (by decide) (t := (.array (.object "com/example/rhadamanthus/rhadamanthus/analysis/Entries$Row"))) (t' := (.array .int)) (by decide) (by decide))))
  have f62 := (AO.keep (f45.ext E43) (Keep.of_wr W52) (ninS (Ne.symm ne_x_b7) nin0))
  have f63 := (AO.keep (f46.ext E43) (Keep.of_wr W52) (ninS (Ne.symm ne_x_b18) nin0))
  have f64 := (AO.keep (f47.ext E43) (Keep.of_wr W52) (ninS (Ne.symm ne_x_b30) nin0))
  have f65 := (V43.other W52 (Ne.symm ne_x_b43))
  obtain ⟨rg, hrg⟩ : ∃ rg : Addr → Lb, rg = fun z => if z = x then Lb.e else if z = b7 then Lb.bS else if z = b18 then Lb.bO else if z = b30 then Lb.hd else if z = b43 then Lb.ct else Lb.no := ⟨_, rfl⟩
  have rg0 : rg x = Lb.e := by rw [hrg]; simp only [if_true]
  have rg1 : rg b7 = Lb.bS := by rw [hrg]; simp only [if_neg (Ne.symm ne_x_b7), if_true]
  have rg2 : rg b18 = Lb.bO := by rw [hrg]; simp only [if_neg (Ne.symm ne_x_b18), if_neg (Ne.symm ne_b7_b18), if_true]
  have rg3 : rg b30 = Lb.hd := by rw [hrg]; simp only [if_neg (Ne.symm ne_x_b30), if_neg (Ne.symm ne_b7_b30), if_neg (Ne.symm ne_b18_b30), if_true]
  have rg4 : rg b43 = Lb.ct := by rw [hrg]; simp only [if_neg (Ne.symm ne_x_b43), if_neg (Ne.symm ne_b7_b43), if_neg (Ne.symm ne_b18_b43), if_neg (Ne.symm ne_b30_b43), if_true]
  have rgl : ∀ z, rg z ≠ Lb.no → z = x ∨ z = b7 ∨ z = b18 ∨ z = b30 ∨ z = b43 := fun z hz => by
      rw [hrg] at hz
      by_cases c1 : z = x
      · exact Or.inl c1
      · by_cases c2 : z = b7
        · exact Or.inr (Or.inl c2)
        · by_cases c3 : z = b18
          · exact Or.inr (Or.inr (Or.inl c3))
          · by_cases c4 : z = b30
            · exact Or.inr (Or.inr (Or.inr (Or.inl c4)))
            · by_cases c5 : z = b43
              · exact Or.inr (Or.inr (Or.inr (Or.inr c5)))
              · exact absurd (by simp only [if_neg c1, if_neg c2, if_neg c3, if_neg c4, if_neg c5]) hz
  have II : Inv Z h52 rg n0 (mkD x b7 b18 b30 b43 (fun _ => none) (fun _ => none) (fun _ => none) (fun _ _ => none) (fun _ _ => none) (fun _ => []) (fun _ _ => []) (fun _ => 0) 0) := by
    refine ⟨fun z hz => ?_, ⟨rg0, f57, f58, f59, f60, f61, f55⟩, ⟨rg1, f62⟩, ⟨rg2, f63⟩, ⟨rg3, f64⟩, ⟨rg4, f65⟩, (fun r a ha => nomatch ha), (fun r a ha => nomatch ha), (fun r a ha => nomatch ha), (fun r s a ha => nomatch ha), (fun r s a ha => nomatch ha)⟩
    rcases rgl z hz with rfl | rfl | rfl | rfl | rfl
    · exact ⟨g_x, f57.lt⟩
    · exact ⟨g_b7, f62.ary.lt⟩
    · exact ⟨g_b18, f63.ary.lt⟩
    · exact ⟨g_b30, f64.ary.lt⟩
    · exact ⟨g_b43, f65.lt⟩
  refine Go.retV X52 hx hlk hret (hb hby dent_40) (by decide) (by decide) ?_
  try rw [e52]
  exact ⟨rfl, N53, O54, Z56, rg, _, II, ⟨(fun _ => List.Pairwise.nil), (fun _ _ z => nomatch z), (fun _ => Nat.le_refl _), (fun _ _ => List.Pairwise.nil), (fun _ _ _ z => nomatch z), (fun _ _ => Nat.le_refl _), (fun _ _ z => absurd rfl z), (fun _ _ _ => ⟨(fun z => absurd rfl z), (fun z => nomatch z)⟩), (fun _ => Or.inl ⟨rfl, rfl, rfl⟩), (fun _ _ => ⟨fun _ => rfl, fun _ => rfl, rfl⟩), (fun _ => rfl), (fun _ => Nat.le_refl _), (fun _ _ => ⟨(fun z => nomatch z), (fun z => nomatch z)⟩)⟩, rfl, rfl⟩
theorem dadd_0 : decode prog_1_method_2_code 0 = .ok (.aload_n 0, 1) := by decide +kernel
theorem dadd_1 : decode prog_1_method_2_code 1 = .ok (.getfield 15, 3) := by decide +kernel
theorem dadd_4 : decode prog_1_method_2_code 4 = .ok (.iload_n 1, 1) := by decide +kernel
theorem dadd_5 : decode prog_1_method_2_code 5 = .ok (.aaload, 1) := by decide +kernel
theorem dadd_6 : decode prog_1_method_2_code 6 = .ok (.ifnonnull 43, 3) := by decide +kernel
theorem dadd_9 : decode prog_1_method_2_code 9 = .ok (.aload_n 0, 1) := by decide +kernel
theorem dadd_10 : decode prog_1_method_2_code 10 = .ok (.getfield 15, 3) := by decide +kernel
theorem dadd_13 : decode prog_1_method_2_code 13 = .ok (.iload_n 1, 1) := by decide +kernel
theorem dadd_14 : decode prog_1_method_2_code 14 = .ok (.aload_n 0, 1) := by decide +kernel
theorem dadd_15 : decode prog_1_method_2_code 15 = .ok (.getfield 7, 3) := by decide +kernel
theorem dadd_18 : decode prog_1_method_2_code 18 = .ok (.anewarray 22, 3) := by decide +kernel
theorem dadd_21 : decode prog_1_method_2_code 21 = .ok (.aastore, 1) := by decide +kernel
theorem dadd_22 : decode prog_1_method_2_code 22 = .ok (.aload_n 0, 1) := by decide +kernel
theorem dadd_23 : decode prog_1_method_2_code 23 = .ok (.getfield 19, 3) := by decide +kernel
theorem dadd_26 : decode prog_1_method_2_code 26 = .ok (.iload_n 1, 1) := by decide +kernel
theorem dadd_27 : decode prog_1_method_2_code 27 = .ok (.aload_n 0, 1) := by decide +kernel
theorem dadd_28 : decode prog_1_method_2_code 28 = .ok (.getfield 7, 3) := by decide +kernel
theorem dadd_31 : decode prog_1_method_2_code 31 = .ok (.anewarray 22, 3) := by decide +kernel
theorem dadd_34 : decode prog_1_method_2_code 34 = .ok (.aastore, 1) := by decide +kernel
theorem dadd_35 : decode prog_1_method_2_code 35 = .ok (.aload_n 0, 1) := by decide +kernel
theorem dadd_36 : decode prog_1_method_2_code 36 = .ok (.getfield 24, 3) := by decide +kernel
theorem dadd_39 : decode prog_1_method_2_code 39 = .ok (.iload_n 1, 1) := by decide +kernel
theorem dadd_40 : decode prog_1_method_2_code 40 = .ok (.new 22, 3) := by decide +kernel
theorem dadd_43 : decode prog_1_method_2_code 43 = .ok (.dup, 1) := by decide +kernel
theorem dadd_44 : decode prog_1_method_2_code 44 = .ok (.iconst 0, 1) := by decide +kernel
theorem dadd_45 : decode prog_1_method_2_code 45 = .ok (.invokespecial 31, 3) := by decide +kernel
theorem dadd_48 : decode prog_1_method_2_code 48 = .ok (.aastore, 1) := by decide +kernel
theorem dadd_49 : decode prog_1_method_2_code 49 = .ok (.aload_n 0, 1) := by decide +kernel
theorem dadd_50 : decode prog_1_method_2_code 50 = .ok (.getfield 15, 3) := by decide +kernel
theorem dadd_53 : decode prog_1_method_2_code 53 = .ok (.iload_n 1, 1) := by decide +kernel
theorem dadd_54 : decode prog_1_method_2_code 54 = .ok (.aaload, 1) := by decide +kernel
theorem dadd_55 : decode prog_1_method_2_code 55 = .ok (.iload_n 2, 1) := by decide +kernel
theorem dadd_56 : decode prog_1_method_2_code 56 = .ok (.aaload, 1) := by decide +kernel
theorem dadd_57 : decode prog_1_method_2_code 57 = .ok (.astore 5, 2) := by decide +kernel
theorem dadd_59 : decode prog_1_method_2_code 59 = .ok (.aload 5, 2) := by decide +kernel
theorem dadd_61 : decode prog_1_method_2_code 61 = .ok (.ifnonnull 35, 3) := by decide +kernel
theorem dadd_64 : decode prog_1_method_2_code 64 = .ok (.new 22, 3) := by decide +kernel
theorem dadd_67 : decode prog_1_method_2_code 67 = .ok (.dup, 1) := by decide +kernel
theorem dadd_68 : decode prog_1_method_2_code 68 = .ok (.iconst 1, 1) := by decide +kernel
theorem dadd_69 : decode prog_1_method_2_code 69 = .ok (.invokespecial 31, 3) := by decide +kernel
theorem dadd_72 : decode prog_1_method_2_code 72 = .ok (.astore 5, 2) := by decide +kernel
theorem dadd_74 : decode prog_1_method_2_code 74 = .ok (.aload_n 0, 1) := by decide +kernel
theorem dadd_75 : decode prog_1_method_2_code 75 = .ok (.getfield 15, 3) := by decide +kernel
theorem dadd_78 : decode prog_1_method_2_code 78 = .ok (.iload_n 1, 1) := by decide +kernel
theorem dadd_79 : decode prog_1_method_2_code 79 = .ok (.aaload, 1) := by decide +kernel
theorem dadd_80 : decode prog_1_method_2_code 80 = .ok (.iload_n 2, 1) := by decide +kernel
theorem dadd_81 : decode prog_1_method_2_code 81 = .ok (.aload 5, 2) := by decide +kernel
theorem dadd_83 : decode prog_1_method_2_code 83 = .ok (.aastore, 1) := by decide +kernel
theorem dadd_84 : decode prog_1_method_2_code 84 = .ok (.aload_n 0, 1) := by decide +kernel
theorem dadd_85 : decode prog_1_method_2_code 85 = .ok (.getfield 24, 3) := by decide +kernel
theorem dadd_88 : decode prog_1_method_2_code 88 = .ok (.iload_n 1, 1) := by decide +kernel
theorem dadd_89 : decode prog_1_method_2_code 89 = .ok (.aaload, 1) := by decide +kernel
theorem dadd_90 : decode prog_1_method_2_code 90 = .ok (.iload_n 2, 1) := by decide +kernel
theorem dadd_91 : decode prog_1_method_2_code 91 = .ok (.iconst (-1), 1) := by decide +kernel
theorem dadd_92 : decode prog_1_method_2_code 92 = .ok (.invokevirtual 34, 3) := by decide +kernel
theorem dadd_95 : decode prog_1_method_2_code 95 = .ok (.pop, 1) := by decide +kernel
theorem dadd_96 : decode prog_1_method_2_code 96 = .ok (.aload 5, 2) := by decide +kernel
theorem dadd_98 : decode prog_1_method_2_code 98 = .ok (.iload_n 3, 1) := by decide +kernel
theorem dadd_99 : decode prog_1_method_2_code 99 = .ok (.iload 4, 2) := by decide +kernel
theorem dadd_101 : decode prog_1_method_2_code 101 = .ok (.invokevirtual 34, 3) := by decide +kernel
theorem dadd_104 : decode prog_1_method_2_code 104 = .ok (.ifCond .eq 56, 3) := by decide +kernel
theorem dadd_107 : decode prog_1_method_2_code 107 = .ok (.aload_n 0, 1) := by decide +kernel
theorem dadd_108 : decode prog_1_method_2_code 108 = .ok (.getfield 19, 3) := by decide +kernel
theorem dadd_111 : decode prog_1_method_2_code 111 = .ok (.iload_n 1, 1) := by decide +kernel
theorem dadd_112 : decode prog_1_method_2_code 112 = .ok (.aaload, 1) := by decide +kernel
theorem dadd_113 : decode prog_1_method_2_code 113 = .ok (.iload_n 3, 1) := by decide +kernel
theorem dadd_114 : decode prog_1_method_2_code 114 = .ok (.aaload, 1) := by decide +kernel
theorem dadd_115 : decode prog_1_method_2_code 115 = .ok (.astore 6, 2) := by decide +kernel
theorem dadd_117 : decode prog_1_method_2_code 117 = .ok (.aload 6, 2) := by decide +kernel
theorem dadd_119 : decode prog_1_method_2_code 119 = .ok (.ifnonnull 23, 3) := by decide +kernel
theorem dadd_122 : decode prog_1_method_2_code 122 = .ok (.new 22, 3) := by decide +kernel
theorem dadd_125 : decode prog_1_method_2_code 125 = .ok (.dup, 1) := by decide +kernel
theorem dadd_126 : decode prog_1_method_2_code 126 = .ok (.iconst 0, 1) := by decide +kernel
theorem dadd_127 : decode prog_1_method_2_code 127 = .ok (.invokespecial 31, 3) := by decide +kernel
theorem dadd_130 : decode prog_1_method_2_code 130 = .ok (.astore 6, 2) := by decide +kernel
theorem dadd_132 : decode prog_1_method_2_code 132 = .ok (.aload_n 0, 1) := by decide +kernel
theorem dadd_133 : decode prog_1_method_2_code 133 = .ok (.getfield 19, 3) := by decide +kernel
theorem dadd_136 : decode prog_1_method_2_code 136 = .ok (.iload_n 1, 1) := by decide +kernel
theorem dadd_137 : decode prog_1_method_2_code 137 = .ok (.aaload, 1) := by decide +kernel
theorem dadd_138 : decode prog_1_method_2_code 138 = .ok (.iload_n 3, 1) := by decide +kernel
theorem dadd_139 : decode prog_1_method_2_code 139 = .ok (.aload 6, 2) := by decide +kernel
theorem dadd_141 : decode prog_1_method_2_code 141 = .ok (.aastore, 1) := by decide +kernel
theorem dadd_142 : decode prog_1_method_2_code 142 = .ok (.aload 6, 2) := by decide +kernel
theorem dadd_144 : decode prog_1_method_2_code 144 = .ok (.iload_n 2, 1) := by decide +kernel
theorem dadd_145 : decode prog_1_method_2_code 145 = .ok (.iconst (-1), 1) := by decide +kernel
theorem dadd_146 : decode prog_1_method_2_code 146 = .ok (.invokevirtual 34, 3) := by decide +kernel
theorem dadd_149 : decode prog_1_method_2_code 149 = .ok (.pop, 1) := by decide +kernel
theorem dadd_150 : decode prog_1_method_2_code 150 = .ok (.aload_n 0, 1) := by decide +kernel
theorem dadd_151 : decode prog_1_method_2_code 151 = .ok (.getfield 27, 3) := by decide +kernel
theorem dadd_154 : decode prog_1_method_2_code 154 = .ok (.iload_n 1, 1) := by decide +kernel
theorem dadd_155 : decode prog_1_method_2_code 155 = .ok (.dup2, 1) := by decide +kernel
theorem dadd_156 : decode prog_1_method_2_code 156 = .ok (.iaload, 1) := by decide +kernel
theorem dadd_157 : decode prog_1_method_2_code 157 = .ok (.iconst 1, 1) := by decide +kernel
theorem dadd_158 : decode prog_1_method_2_code 158 = .ok (.iadd, 1) := by decide +kernel
theorem dadd_159 : decode prog_1_method_2_code 159 = .ok (.iastore, 1) := by decide +kernel
theorem dadd_160 : decode prog_1_method_2_code 160 = .ok (.return_, 1) := by decide +kernel
theorem pn_add : plainFor (⟨"com/example/rhadamanthus/rhadamanthus/analysis/Entries", "add", "(IIII)V"⟩ : MethodName) = true := by first | exact plainFor_of_name (by first | (simp [plainName, overriddenIn]; done) | decide +kernel) | decide +kernel
theorem ef_add (m : MethodId) (x0 : Addr) (x1 : Int32) (x2 : Int32) (x3 : Int32) (x4 : Int32) : entryFrame m #[(.ref x0), (.int x1), (.int x2), (.int x3), (.int x4)] 7 = mkF m 0 #[rv x0, iv x1, iv x2, iv x3, iv x4, .unset, .unset] [] := by first | (simp [entryFrame, mkF, argsToLocals, Value.category]; done) | rfl
set_option maxRecDepth 65536 in
set_option maxHeartbeats 40000000 in
theorem rm_add (l : Launch) (Z : State) (a0 : Array Value) (hw : ∀ d ∈ tables_1, d.before a0 Z = true) (ws : List Jvm.Cond) (eA : Addr) (rg : Addr → Lb) (D : DD) (ρ sj oj : Nat) (run : Int32) (n0 : Nat) (Ks : Nat → Nat → Prop) (h0 : Heap) (Z0 : n0 ≤ h0.size) (hρ : ρ < 2) (hs : sj < 8) (ho : oj < 8) (hk : D.k ≤ 3) (O0 : Old Z n0 h0) (I0 : Inv Z h0 rg n0 D) (P0 : PD D D.k D.k Ks) (hE : D.eA = eA) :
    Mt l Z (⟨"com/example/rhadamanthus/rhadamanthus/analysis/Entries", "add", "(IIII)V"⟩ : MethodName) prog_1_method_2_code 7 none ws ({ frames := 4, cells := 9, slots := 41, locals := 63 } : Room) #[(.ref eA), (.int (Int32.ofNat ρ)), (.int (Int32.ofNat sj)), (.int (Int32.ofNat oj)), (.int run)] h0 (fun v h L => v = none ∧ Fr n0 L ∧ Old Z n0 h ∧ n0 ≤ h.size ∧ ∃ rg1 D1, Inv Z h rg1 n0 D1 ∧ PD D1 D1.k D1.k (fun q y => Ks q y ∨ (q = ρ ∧ y = 8 * sj + oj)) ∧ D1.eA = eA ∧ D1.k = D.k + 1) := by
  refine Mt.body pn_add ?_
  intro p e s m below meth c s₁ hx hby hml hown hnm hret hlk hZ X0 e0
  refine Go.cast (g' := (mkF m 0 #[rv eA, iv (Int32.ofNat ρ), iv (Int32.ofNat sj), iv (Int32.ofNat oj), iv run, .unset, .unset] [])) (ef_add m eA (Int32.ofNat ρ) (Int32.ofNat sj) (Int32.ofNat oj) run) ?_
  have N0 := Fr.nil n0
  have cC : ∀ (T_cC : State) (h_cC : Heap) (lo_cC : List Loc) (rC : Addr → Lb) (DC : DD) (x5 : Addr) (x6 : Addr), Stand p l e ({ frames := 4, cells := 9, slots := 41, locals := 63 } : Room) s m #[(.ref eA), (.int (Int32.ofNat ρ)), (.int (Int32.ofNat sj)), (.int (Int32.ofNat oj)), (.int run)] below meth c T_cC lo_cC 9 41 → T_cC.heap = h_cC → Fr n0 lo_cC → Old Z n0 h_cC → n0 ≤ h_cC.size → (Inv Z h_cC rC n0 DC) → (PD (DC.w_cn (up1 DC.cn ρ (DC.cn ρ + 1))) (D.k + 1) (D.k + 1) (fun q y => Ks q y ∨ (q = ρ ∧ y = 8 * sj + oj))) → (DC.eA = eA) → (DC.k = D.k) → (DC.rO ρ oj = some x6) → Go p e below (Wf s 9 41 (fun v h L => v = none ∧ Fr n0 L ∧ Old Z n0 h ∧ n0 ≤ h.size ∧ ∃ rg1 D1, Inv Z h rg1 n0 D1 ∧ PD D1 D1.k D1.k (fun q y => Ks q y ∨ (q = ρ ∧ y = 8 * sj + oj)) ∧ D1.eA = eA ∧ D1.k = D.k + 1)) T_cC (mkF m 142 #[rv eA, iv (Int32.ofNat ρ), iv (Int32.ofNat sj), iv (Int32.ofNat oj), iv run, rv x5, rv x6] []) := by
    intro T_cC h_cC lo_cC rC  DC  x5  x6  X_cC e_cC N_cC O_cC Z_cC IC PC hEC hkC q6
    obtain ⟨n, f, hn6, RP6⟩ := IC.crO ρ oj x6 q6
    refine Go.st (T' := T_cC) (g' := (mkF m 146 #[rv eA, iv (Int32.ofNat ρ), iv (Int32.ofNat sj), iv (Int32.ofNat oj), iv run, rv x5, rv x6] [(.int ((-1) : Int32)), (.int (Int32.ofNat sj)), (.ref x6)])) ?_ (fun _ kk_ => XS.aload X_cC.here hx rfl (hb hby dadd_142) rfl rfl  (XS.iloadN X_cC.here hx rfl (hb hby dadd_144) rfl  (XS.iconst X_cC.here hx rfl (hb hby dadd_145) kk_)))
    refine Go.callV (y := (⟨"com/example/rhadamanthus/rhadamanthus/analysis/Entries$Row", "insert", "(II)Z"⟩ : MethodName)) (z := (⟨"com/example/rhadamanthus/rhadamanthus/analysis/Entries$Row", "insert", "(II)Z"⟩ : MethodName)) X_cC hx hZ hown (hw _ (List.mem_of_getElem? (i := 41) rfl)) (hw _ (List.mem_of_getElem? (i := 42) rfl)) (notFace_of_selects (args := #[]) (mvT hZ (hw _ (List.mem_of_getElem? (i := 44) rfl)))) (hw _ (List.mem_of_getElem? (i := 44) rfl)) (hw _ (List.mem_of_getElem? (i := 43) rfl)) (hw _ (List.mem_of_getElem? (i := 31) rfl)) (hw _ (List.mem_of_getElem? (i := 45) rfl)) (by decide) 0 (rm_ins l Z a0 hw [] x6 n f (Int32.ofNat sj) ((-1) : Int32) rC (Lb.rO ρ oj) n0 h_cC Z_cC (by omega) RP6 (fun z q => IC.ge q (lbn rfl))) e_cC (by decide) (by decide) (by decide) (by decide) RP6.choose_spec.2.2.1 (argsL := [(.int (Int32.ofNat sj)), (.int ((-1) : Int32))]) (rest := []) rfl (by rw [hml]; rfl) (lenOf pd__28II_29Z rfl) rfl rfl (by show 2 * 0 + _ ≤ _; exact Nat.le_of_eq rfl) (hb hby dadd_146) ?_
    rintro _ T1 L1 X1 ⟨bb, rfl, N1, ws, K1, hws, hi6⟩
    have N2 := Fr.app N_cC N1
    have O3 := O_cC.keep K1 (fun z hz => IC.ge (hws z hz) (lbn rfl))
    have Z4 : n0 ≤ T1.heap.size := Nat.le_trans Z_cC K1.1
    show Go p e below _ T1 (mkF m 149 #[rv eA, iv (Int32.ofNat ρ), iv (Int32.ofNat sj), iv (Int32.ofNat oj), iv run, rv x5, rv x6] [(.int bb)])
    have ID : Inv Z T1.heap rC n0 (DC.w_k (DC.k + 1)) := by
      rcases hi6 with ⟨-, R, -⟩ | ⟨-, j, -, R, -⟩
      · exact IC.insO q6 K1 hws (by omega) R
      · exact IC.insO q6 K1 hws (by omega) R
    refine Go.st (T' := T1) (g' := (mkF m 151 #[rv eA, iv (Int32.ofNat ρ), iv (Int32.ofNat sj), iv (Int32.ofNat oj), iv run, rv x5, rv x6] [(.ref eA)])) ?_ (fun _ kk_ => XS.pop X1.here hx rfl (hb hby dadd_149) rfl rfl (XS.aloadN X1.here hx rfl (hb hby dadd_150) rfl rfl  kk_))
    obtain ⟨E5, Fn5, Fs5, Fo5, Fh5, Fc5⟩ := ID.ent (eA := eA) hEC
    obtain ⟨T6, X6, e6, st6⟩ := getF X1 hx hZ hown (host := "") (Or.inl (hw _ (List.mem_of_getElem? (i := 22) rfl))) Via.refl rfl Fc5 (g := (mkF m 151 #[rv eA, iv (Int32.ofNat ρ), iv (Int32.ofNat sj), iv (Int32.ofNat oj), iv run, rv x5, rv x6] [(.ref eA)])) rfl rfl (hb hby dadd_151)
    refine Go.st (T' := T6) (g' := (mkF m 154 #[rv eA, iv (Int32.ofNat ρ), iv (Int32.ofNat sj), iv (Int32.ofNat oj), iv run, rv x5, rv x6] [(.ref DC.ct)])) ?_ st6
    refine Go.st (T' := T6) (g' := (mkF m 159 #[rv eA, iv (Int32.ofNat ρ), iv (Int32.ofNat sj), iv (Int32.ofNat oj), iv run, rv x5, rv x6] [(.int ((Int32.ofNat (DC.cn ρ)) + (1 : Int32))), (.int (Int32.ofNat ρ)), (.ref DC.ct)])) ?_ (fun _ kk_ => XS.iloadN X6.here hx rfl (hb hby dadd_154) rfl  (Jvm.Free.XT.dup2 X6.here hx rfl (hb hby dadd_155) rfl rfl rfl (own_iaload X6 hx hZ e6 (ID.cct).2 (i := ρ) (v := (.int (Int32.ofNat (DC.cn ρ)))) (own_two DC.cn hρ (fun z => .int (Int32.ofNat z))) rfl rfl rfl (hb hby dadd_156) (XS.iconst X6.here hx rfl (hb hby dadd_157) (XS.iadd X6.here hx rfl (hb hby dadd_158) rfl kk_)))))
    rw [show (Int32.ofNat (DC.cn ρ)) + (1 : Int32) = Int32.ofNat (DC.cn ρ + 1) from own_add _ 1]
    show Go p e below _ T6 (mkF m 159 #[rv eA, iv (Int32.ofNat ρ), iv (Int32.ofNat sj), iv (Int32.ofNat oj), iv run, rv x5, rv x6] [(.int (Int32.ofNat (DC.cn ρ + 1))), (.int (Int32.ofNat ρ)), (.ref DC.ct)])
    refine Go.iastore X6 hx hZ e6 (ID.cct).2 (i := ρ) (by simpa using hρ) rfl rfl rfl (hb hby dadd_159) ?_
    intro T7 h7 X7 e7 W7 V7
    have N8 := Fr.snoc X7 N2 (ID.ge (ID.cct).1 (lbn rfl))
    have O9 := O3.wr W7 (ID.ge (ID.cct).1 (lbn rfl))
    change Ary Z h7 DC.ct .int ([.int (Int32.ofNat (DC.cn 0)), .int (Int32.ofNat (DC.cn 1))].set ρ (.int (Int32.ofNat (DC.cn ρ + 1)))) at V7
    have Z10 : n0 ≤ h7.size := by rw [W7.size]; exact Z4
    show Go p e below _ T7 (mkF m 160 #[rv eA, iv (Int32.ofNat ρ), iv (Int32.ofNat sj), iv (Int32.ofNat oj), iv run, rv x5, rv x6] [])
    have IE := ID.inc (c := DC.cn ρ + 1) hρ (Keep.of_wr W7) V7
    refine Go.retV X7 hx hlk hret (hb hby dadd_160) (by decide) (by decide) ?_
    try rw [e7]
    exact ⟨rfl, N8, O9, Z10, rC, _, IE, pd_le (pd_k PC (DC.k + 1)) (Nat.le_of_eq (by show D.k + 1 = DC.k + 1; rw [hkC])) (Nat.le_of_eq (by show D.k + 1 = DC.k + 1; rw [hkC])), hEC, by show DC.k + 1 = _; rw [hkC]⟩
  have cB : ∀ (T_cB : State) (h_cB : Heap) (lo_cB : List Loc) (rB : Addr → Lb) (DB : DD) (x5 : Addr) (a1 : Addr) (a2 : Addr), Stand p l e ({ frames := 4, cells := 9, slots := 41, locals := 63 } : Room) s m #[(.ref eA), (.int (Int32.ofNat ρ)), (.int (Int32.ofNat sj)), (.int (Int32.ofNat oj)), (.int run)] below meth c T_cB lo_cB 7 34 → T_cB.heap = h_cB → Fr n0 lo_cB → Old Z n0 h_cB → n0 ≤ h_cB.size → (Inv Z h_cB rB n0 DB) → (PD DB (D.k + 1) D.k Ks) → (DB.eA = eA) → (DB.k = D.k) → (DB.rS ρ sj = some x5) → (sj ∈ DB.H ρ) → (DB.aS ρ = some a1) → (DB.aO ρ = some a2) → Go p e below (Wf s 9 41 (fun v h L => v = none ∧ Fr n0 L ∧ Old Z n0 h ∧ n0 ≤ h.size ∧ ∃ rg1 D1, Inv Z h rg1 n0 D1 ∧ PD D1 D1.k D1.k (fun q y => Ks q y ∨ (q = ρ ∧ y = 8 * sj + oj)) ∧ D1.eA = eA ∧ D1.k = D.k + 1)) T_cB (mkF m 96 #[rv eA, iv (Int32.ofNat ρ), iv (Int32.ofNat sj), iv (Int32.ofNat oj), iv run, rv x5, .unset] []) := by
    intro T_cB h_cB lo_cB rB  DB  x5  a1  a2  X_cB e_cB N_cB O_cB Z_cB IB PB hEB hkB q5 hsB qa1 qa2
    obtain ⟨f, RP5, hf5⟩ := IB.crS ρ sj x5 q5
    have hl5 := PB.R3 ρ sj
    refine Go.st (T' := T_cB) (g' := (mkF m 101 #[rv eA, iv (Int32.ofNat ρ), iv (Int32.ofNat sj), iv (Int32.ofNat oj), iv run, rv x5, .unset] [(.int run), (.int (Int32.ofNat oj)), (.ref x5)])) ?_ (fun _ kk_ => XS.aload X_cB.here hx rfl (hb hby dadd_96) rfl rfl  (XS.iloadN X_cB.here hx rfl (hb hby dadd_98) rfl  (XS.iload X_cB.here hx rfl (hb hby dadd_99) rfl  kk_)))
    refine Go.callV (y := (⟨"com/example/rhadamanthus/rhadamanthus/analysis/Entries$Row", "insert", "(II)Z"⟩ : MethodName)) (z := (⟨"com/example/rhadamanthus/rhadamanthus/analysis/Entries$Row", "insert", "(II)Z"⟩ : MethodName)) X_cB hx hZ hown (hw _ (List.mem_of_getElem? (i := 41) rfl)) (hw _ (List.mem_of_getElem? (i := 42) rfl)) (notFace_of_selects (args := #[]) (mvT hZ (hw _ (List.mem_of_getElem? (i := 44) rfl)))) (hw _ (List.mem_of_getElem? (i := 44) rfl)) (hw _ (List.mem_of_getElem? (i := 43) rfl)) (hw _ (List.mem_of_getElem? (i := 31) rfl)) (hw _ (List.mem_of_getElem? (i := 45) rfl)) (by decide) 0 (rm_ins l Z a0 hw [] x5 (DB.R ρ sj).length f (Int32.ofNat oj) run rB (Lb.rS ρ sj) n0 h_cB Z_cB (by omega) RP5 (fun z q => IB.ge q (lbn rfl))) e_cB (by decide) (by decide) (by decide) (by decide) RP5.choose_spec.2.2.1 (argsL := [(.int (Int32.ofNat oj)), (.int run)]) (rest := []) rfl (by rw [hml]; rfl) (lenOf pd__28II_29Z rfl) rfl rfl (by show 2 * 0 + _ ≤ _; exact Nat.le_of_eq rfl) (hb hby dadd_101) ?_
    rintro _ T11 L11 X11 ⟨bb, rfl, N11, ws, K11, hws, hi5⟩
    have N12 := Fr.app N_cB N11
    have O13 := O_cB.keep K11 (fun z hz => IB.ge (hws z hz) (lbn rfl))
    have Z14 : n0 ≤ T11.heap.size := Nat.le_trans Z_cB K11.1
    show Go p e below _ T11 (mkF m 104 #[rv eA, iv (Int32.ofNat ρ), iv (Int32.ofNat sj), iv (Int32.ofNat oj), iv run, rv x5, .unset] [(.int bb)])
    obtain ⟨rfl, R5, i5, hi5, hfi5⟩ | ⟨rfl, j, hj5, R5, hpl5⟩ := hi5
    ·
      show Go p e below _ T11 (mkF m 104 #[rv eA, iv (Int32.ofNat ρ), iv (Int32.ofNat sj), iv (Int32.ofNat oj), iv run, rv x5, .unset] [(.int (0 : Int32))])
      have IF := IB.insS q5 K11 hws ⟨f, R5, hf5⟩
      rw [up2_id] at IF
      have ho5 := own_found (PB.R2 ρ sj) ho hf5 hi5 hfi5
      refine Go.st (T' := T11) (g' := (mkF m 160 #[rv eA, iv (Int32.ofNat ρ), iv (Int32.ofNat sj), iv (Int32.ofNat oj), iv run, rv x5, .unset] [])) ?_ (fun _ kk_ => XS.ifYes X11.here hx rfl (pc0 := 104) (pc' := 160) rfl (hb hby dadd_104) rfl ((if0 _ _).trans (teq ((by decide) : (0 : Int32) = (0 : Int32))).1) (by decide) (by decide) kk_)
      refine Go.retV X11 hx hlk hret (hb hby dadd_160) (by decide) (by decide) ?_
      exact ⟨rfl, N12, O13, Z14, rB, (DB.w_k (DB.k + 1)), IF.more, pd_le (pd_k (pd_old (pd_le PB (Nat.le_refl _) (Nat.le_succ _)) hsB ho5) (DB.k + 1)) (Nat.le_of_eq (by show D.k + 1 = DB.k + 1; rw [hkB])) (Nat.le_of_eq (by show D.k + 1 = DB.k + 1; rw [hkB])), hEB, by show DB.k + 1 = _; rw [hkB]⟩
    ·
      show Go p e below _ T11 (mkF m 104 #[rv eA, iv (Int32.ofNat ρ), iv (Int32.ofNat sj), iv (Int32.ofNat oj), iv run, rv x5, .unset] [(.int (1 : Int32))])
      obtain ⟨up5, hno5, hf6⟩ := own_place (PB.R1 ρ sj) (PB.R2 ρ sj) ho hf5 hj5 hpl5
      have IG := IB.insS (L := putIn j oj (DB.R ρ sj)) q5 K11 hws ⟨_, by rw [putIn_len hj5]; exact R5, hf6⟩
      have PG := pd_ins PB hsB ho hj5 up5 hno5
      refine Go.st (T' := T11) (g' := (mkF m 108 #[rv eA, iv (Int32.ofNat ρ), iv (Int32.ofNat sj), iv (Int32.ofNat oj), iv run, rv x5, .unset] [(.ref eA)])) ?_ (fun _ kk_ => XS.ifNo X11.here hx rfl (hb hby dadd_104) rfl ((if0 _ _).trans (feq ((by decide) : ¬ ((1 : Int32) = (0 : Int32)))).1) (XS.aloadN X11.here hx rfl (hb hby dadd_107) rfl rfl  kk_))
      obtain ⟨E15, Fn15, Fs15, Fo15, Fh15, Fc15⟩ := IG.ent (eA := eA) hEB
      obtain ⟨T16, X16, e16, st16⟩ := getF X11 hx hZ hown (host := "") (Or.inl (hw _ (List.mem_of_getElem? (i := 15) rfl))) Via.refl rfl Fo15 (g := (mkF m 108 #[rv eA, iv (Int32.ofNat ρ), iv (Int32.ofNat sj), iv (Int32.ofNat oj), iv run, rv x5, .unset] [(.ref eA)])) rfl rfl (hb hby dadd_108)
      refine Go.st (T' := T16) (g' := (mkF m 111 #[rv eA, iv (Int32.ofNat ρ), iv (Int32.ofNat sj), iv (Int32.ofNat oj), iv run, rv x5, .unset] [(.ref DB.bO)])) ?_ st16
      refine Go.st (T' := T16) (g' := (mkF m 113 #[rv eA, iv (Int32.ofNat ρ), iv (Int32.ofNat sj), iv (Int32.ofNat oj), iv run, rv x5, .unset] [(.ref a2)])) ?_ (fun _ kk_ => XS.iloadN X16.here hx rfl (hb hby dadd_111) rfl  (own_aaload X16 hx hZ e16 IG.cbO.2.ary rfl (i := ρ) (v := (.ref a2)) ((own_two DB.aO hρ ov).trans (congrArg (fun z => some (ov z)) qa2)) rfl rfl rfl (hb hby dadd_112) kk_))
      have AO2 := IG.caO ρ a2 qa2
      refine Go.st (T' := T16) (g' := (mkF m 114 #[rv eA, iv (Int32.ofNat ρ), iv (Int32.ofNat sj), iv (Int32.ofNat oj), iv run, rv x5, .unset] [(.int (Int32.ofNat oj)), (.ref a2)])) ?_ (fun _ kk_ => XS.iloadN X16.here hx rfl (hb hby dadd_113) rfl  kk_)
      cases q6 : DB.rO ρ oj with
      | some x6 =>
        refine Go.st (T' := T16) (g' := (mkF m 142 #[rv eA, iv (Int32.ofNat ρ), iv (Int32.ofNat sj), iv (Int32.ofNat oj), iv run, rv x5, rv x6] [])) ?_ (fun _ kk_ => own_aaload X16 hx hZ e16 AO2.2.2.ary rfl (i := oj) (v := (.ref x6)) ((own_eight ho).trans (congrArg (fun z => some (ov z)) q6)) rfl rfl rfl (hb hby dadd_114) (XS.astore X16.here hx rfl (hb hby dadd_115) rfl rfl (l' := #[rv eA, iv (Int32.ofNat ρ), iv (Int32.ofNat sj), iv (Int32.ofNat oj), iv run, rv x5, rv x6]) rfl (XS.aload X16.here hx rfl (hb hby dadd_117) rfl rfl  (XS.ifnonnullYes X16.here hx rfl (pc0 := 119) (pc' := 142) rfl (hb hby dadd_119) rfl (by decide) (by decide) kk_))))
        exact cC _ _ _ rB (DB.w_R (up2 DB.R ρ sj (putIn j oj (DB.R ρ sj)))) x5 x6 (X16.more (by decide) (by decide)) e16 N12 O13 Z14 IG PG hEB hkB q6
      | none =>
        refine Go.st (T' := T16) (g' := (mkF m 122 #[rv eA, iv (Int32.ofNat ρ), iv (Int32.ofNat sj), iv (Int32.ofNat oj), iv run, rv x5, .val .null] [])) ?_ (fun _ kk_ => own_aaload X16 hx hZ e16 AO2.2.2.ary rfl (i := oj) (v := .null) ((own_eight ho).trans (congrArg (fun z => some (ov z)) q6)) rfl rfl rfl (hb hby dadd_114) (XS.astore X16.here hx rfl (hb hby dadd_115) rfl rfl (l' := #[rv eA, iv (Int32.ofNat ρ), iv (Int32.ofNat sj), iv (Int32.ofNat oj), iv run, rv x5, .val .null]) rfl (XS.aload X16.here hx rfl (hb hby dadd_117) rfl rfl  (XS.ifnonnullNo X16.here hx rfl (hb hby dadd_119) rfl kk_))))
        obtain ⟨T17, h17, X17, e17, E17, A17, D17, U17, st17⟩ := newO X16 hx hZ hown (hw _ (List.mem_of_getElem? (i := 17) rfl)) (hw _ (List.mem_of_getElem? (i := 30) rfl)) (hw _ (List.mem_of_getElem? (i := 31) rfl)) e16 (g := (mkF m 122 #[rv eA, iv (Int32.ofNat ρ), iv (Int32.ofNat sj), iv (Int32.ofNat oj), iv run, rv x5, .val .null] [])) rfl (hb hby dadd_122) (by decide) (by decide)
        obtain ⟨b17, g17⟩ : ∃ z, z = T11.heap.size := ⟨_, rfl⟩
        rw [← g17] at A17 D17 st17
        have g_b17 : n0 ≤ b17 := Nat.le_trans Z14 (Nat.le_of_eq g17.symm)
        have O18 := O13.ext E17
        have Z19 : n0 ≤ h17.size := Nat.le_trans Z14 E17.1
        have f20 : Fld Z h17 b17 "com/example/rhadamanthus/rhadamanthus/analysis/Entries$Row" "ids" "[I" .null := D17 (Or.inl (hw _ (List.mem_of_getElem? (i := 37) rfl))) (ty := (.array .int)) (by decide)
        have f21 : Fld Z h17 b17 "com/example/rhadamanthus/rhadamanthus/analysis/Entries$Row" "runs" "[I" .null := D17 (Or.inl (hw _ (List.mem_of_getElem? (i := 39) rfl))) (ty := (.array .int)) (by decide)
        have f22 : Fld Z h17 b17 "com/example/rhadamanthus/rhadamanthus/analysis/Entries$Row" "size" "I" (.int (0 : Int32)) := D17 (Or.inl (hw _ (List.mem_of_getElem? (i := 52) rfl))) (ty := .int) (by decide)
        refine Go.st (T' := T17) (g' := (mkF m 125 #[rv eA, iv (Int32.ofNat ρ), iv (Int32.ofNat sj), iv (Int32.ofNat oj), iv run, rv x5, .val .null] [(.ref b17)])) ?_ st17
        refine Go.st (T' := T17) (g' := (mkF m 127 #[rv eA, iv (Int32.ofNat ρ), iv (Int32.ofNat sj), iv (Int32.ofNat oj), iv run, rv x5, .val .null] [(.int (0 : Int32)), (.ref b17), (.ref b17)])) ?_ (fun _ kk_ => XS.dup X17.here hx rfl (hb hby dadd_125) rfl rfl (XS.iconst X17.here hx rfl (hb hby dadd_126) kk_))
        refine Go.callN (y := (⟨"com/example/rhadamanthus/rhadamanthus/analysis/Entries$Row", "<init>", "(Z)V"⟩ : MethodName)) X17 hx hZ rfl hown (hw _ (List.mem_of_getElem? (i := 32) rfl)) (hw _ (List.mem_of_getElem? (i := 33) rfl)) (hw _ (List.mem_of_getElem? (i := 31) rfl)) (hw _ (List.mem_of_getElem? (i := 34) rfl)) (by decide) 1 (rm_rw0 l Z a0 hw [] b17 n0 h17 Z19 A17 f20 f21 f22 g_b17) e17 (by decide) (by decide) (by decide) (by decide) (a := b17) (argsL := [(.int (0 : Int32))]) (rest := [(.ref b17)]) rfl (by rw [hml]; rfl) (lenOf pd__28Z_29V rfl) rfl rfl (by show 2 * 0 + _ ≤ _; exact Nat.le_of_eq rfl) (hb hby dadd_127) ?_
        rintro _ T23 L23 X23 ⟨rfl, N23, K23, ids23, iz23, Fi23, Fz23, Vi23, Fu23⟩
        have N24 := Fr.app N12 N23
        have O25 := O18.keep K23 (allS (P := fun z_ => n0 ≤ z_) g_b17 all0)
        have Z26 : n0 ≤ T23.heap.size := Nat.le_trans Z19 K23.1
        show Go p e below _ T23 (mkF m 130 #[rv eA, iv (Int32.ofNat ρ), iv (Int32.ofNat sj), iv (Int32.ofNat oj), iv run, rv x5, .val .null] [(.ref b17)])
        have f27 := (A17.keep K23)
        have KN23 : Keep T11.heap T23.heap [] := ((Keep.refl T11.heap []).ext E17).trans K23 (allS (P := fun z_ => z_ ∈ ([] : List Addr) ∨ T11.heap.size ≤ z_) (Or.inr (Nat.le_of_eq g17.symm)) all0)
        have I23 := IG.grow Z14 KN23 (Lb.rO ρ oj)
        have sx23 : T11.heap.size ≤ b17 := Nat.le_of_eq g17.symm
        have si23 : T11.heap.size ≤ ids23 := Nat.le_trans E17.1 iz23
        have RP23 : RowP Z T23.heap (frL T11.heap.size T23.heap.size (Lb.rO ρ oj) rB) (Lb.rO ρ oj) b17 0 (fun _ => 0) := ⟨ids23, frL_new sx23 f27.lt, frL_new si23 Vi23.lt, f27, Fi23, Fz23, Vi23, Or.inl Fu23⟩
        refine Go.st (T' := T23) (g' := (mkF m 133 #[rv eA, iv (Int32.ofNat ρ), iv (Int32.ofNat sj), iv (Int32.ofNat oj), iv run, rv x5, rv b17] [(.ref eA)])) ?_ (fun _ kk_ => XS.astore X23.here hx rfl (hb hby dadd_130) rfl rfl (l' := #[rv eA, iv (Int32.ofNat ρ), iv (Int32.ofNat sj), iv (Int32.ofNat oj), iv run, rv x5, rv b17]) rfl (XS.aloadN X23.here hx rfl (hb hby dadd_132) rfl rfl  kk_))
        obtain ⟨E28, Fn28, Fs28, Fo28, Fh28, Fc28⟩ := I23.ent (eA := eA) hEB
        obtain ⟨T29, X29, e29, st29⟩ := getF X23 hx hZ hown (host := "") (Or.inl (hw _ (List.mem_of_getElem? (i := 15) rfl))) Via.refl rfl Fo28 (g := (mkF m 133 #[rv eA, iv (Int32.ofNat ρ), iv (Int32.ofNat sj), iv (Int32.ofNat oj), iv run, rv x5, rv b17] [(.ref eA)])) rfl rfl (hb hby dadd_133)
        refine Go.st (T' := T29) (g' := (mkF m 136 #[rv eA, iv (Int32.ofNat ρ), iv (Int32.ofNat sj), iv (Int32.ofNat oj), iv run, rv x5, rv b17] [(.ref DB.bO)])) ?_ st29
        refine Go.st (T' := T29) (g' := (mkF m 141 #[rv eA, iv (Int32.ofNat ρ), iv (Int32.ofNat sj), iv (Int32.ofNat oj), iv run, rv x5, rv b17] [(.ref b17), (.int (Int32.ofNat oj)), (.ref a2)])) ?_ (fun _ kk_ => XS.iloadN X29.here hx rfl (hb hby dadd_136) rfl  (own_aaload X29 hx hZ e29 I23.cbO.2.ary rfl (i := ρ) (v := (.ref a2)) ((own_two DB.aO hρ ov).trans (congrArg (fun z => some (ov z)) qa2)) rfl rfl rfl (hb hby dadd_137) (XS.iloadN X29.here hx rfl (hb hby dadd_138) rfl  (XS.aload X29.here hx rfl (hb hby dadd_139) rfl rfl  kk_))))
        have AO3 := I23.caO ρ a2 qa2
        refine Go.aastore X29 hx hZ e29 (AO3.2.2) rfl (i := oj) (by simpa using ho) rfl (Ins.self f27) rfl rfl (hb hby dadd_141) ?_
        intro T30 h30 X30 e30 W30 A30
        have N31 := Fr.snoc X30 N24 (I23.ge AO3.1 (lbn rfl))
        have O32 := O25.wr W30 (I23.ge AO3.1 (lbn rfl))
        have Z33 : n0 ≤ h30.size := by rw [W30.size]; exact Z26
        show Go p e below _ T30 (mkF m 142 #[rv eA, iv (Int32.ofNat ρ), iv (Int32.ofNat sj), iv (Int32.ofNat oj), iv run, rv x5, rv b17] [])
        have RQ := RP23.keep (Keep.of_wr W30) (allS (P := fun z_ => (frL T11.heap.size T23.heap.size (Lb.rO ρ oj) rB) z_ ≠ Lb.rO ρ oj) (by rw [AO3.1]; exact lbn rfl) all0)
        have IH := I23.rowO ho qa2 RQ (Keep.of_wr W30) A30
        exact cC _ _ _ (frL T11.heap.size T23.heap.size (Lb.rO ρ oj) rB) ((DB.w_R (up2 DB.R ρ sj (putIn j oj (DB.R ρ sj)))).w_rO (up2 DB.rO ρ oj (some b17))) x5 b17 (X30.more (by decide) (by decide)) e30 N31 O32 Z33 IH (pd_o PG qa1) hEB hkB (up2_same _ _ _ _)
  have cA : ∀ (T_cA : State) (h_cA : Heap) (lo_cA : List Loc) (rA : Addr → Lb) (DA : DD) (a1 : Addr) (a2 : Addr) (x3 : Addr), Stand p l e ({ frames := 4, cells := 9, slots := 41, locals := 63 } : Room) s m #[(.ref eA), (.int (Int32.ofNat ρ)), (.int (Int32.ofNat sj)), (.int (Int32.ofNat oj)), (.int run)] below meth c T_cA lo_cA 4 23 → T_cA.heap = h_cA → Fr n0 lo_cA → Old Z n0 h_cA → n0 ≤ h_cA.size → (Inv Z h_cA rA n0 DA) → (PD DA D.k D.k Ks) → (DA.eA = eA) → (DA.k = D.k) → (DA.aS ρ = some a1) → (DA.aO ρ = some a2) → (DA.hr ρ = some x3) → Go p e below (Wf s 9 41 (fun v h L => v = none ∧ Fr n0 L ∧ Old Z n0 h ∧ n0 ≤ h.size ∧ ∃ rg1 D1, Inv Z h rg1 n0 D1 ∧ PD D1 D1.k D1.k (fun q y => Ks q y ∨ (q = ρ ∧ y = 8 * sj + oj)) ∧ D1.eA = eA ∧ D1.k = D.k + 1)) T_cA (mkF m 49 #[rv eA, iv (Int32.ofNat ρ), iv (Int32.ofNat sj), iv (Int32.ofNat oj), iv run, .unset, .unset] []) := by
    intro T_cA h_cA lo_cA rA  DA  a1  a2  x3  X_cA e_cA N_cA O_cA Z_cA IA PA hEA hkA qa1 qa2 q3
    obtain ⟨E34, Fn34, Fs34, Fo34, Fh34, Fc34⟩ := IA.ent (eA := eA) hEA
    refine Go.st (T' := T_cA) (g' := (mkF m 50 #[rv eA, iv (Int32.ofNat ρ), iv (Int32.ofNat sj), iv (Int32.ofNat oj), iv run, .unset, .unset] [(.ref eA)])) ?_ (fun _ kk_ => XS.aloadN X_cA.here hx rfl (hb hby dadd_49) rfl rfl  kk_)
    obtain ⟨T35, X35, e35, st35⟩ := getF X_cA hx hZ hown (host := "") (Or.inl (hw _ (List.mem_of_getElem? (i := 13) rfl))) Via.refl e_cA Fs34 (g := (mkF m 50 #[rv eA, iv (Int32.ofNat ρ), iv (Int32.ofNat sj), iv (Int32.ofNat oj), iv run, .unset, .unset] [(.ref eA)])) rfl rfl (hb hby dadd_50)
    refine Go.st (T' := T35) (g' := (mkF m 53 #[rv eA, iv (Int32.ofNat ρ), iv (Int32.ofNat sj), iv (Int32.ofNat oj), iv run, .unset, .unset] [(.ref DA.bS)])) ?_ st35
    refine Go.st (T' := T35) (g' := (mkF m 55 #[rv eA, iv (Int32.ofNat ρ), iv (Int32.ofNat sj), iv (Int32.ofNat oj), iv run, .unset, .unset] [(.ref a1)])) ?_ (fun _ kk_ => XS.iloadN X35.here hx rfl (hb hby dadd_53) rfl  (own_aaload X35 hx hZ e35 IA.cbS.2.ary rfl (i := ρ) (v := (.ref a1)) ((own_two DA.aS hρ ov).trans (congrArg (fun z => some (ov z)) qa1)) rfl rfl rfl (hb hby dadd_54) kk_))
    have AS1 := IA.caS ρ a1 qa1
    refine Go.st (T' := T35) (g' := (mkF m 56 #[rv eA, iv (Int32.ofNat ρ), iv (Int32.ofNat sj), iv (Int32.ofNat oj), iv run, .unset, .unset] [(.int (Int32.ofNat sj)), (.ref a1)])) ?_ (fun _ kk_ => XS.iloadN X35.here hx rfl (hb hby dadd_55) rfl  kk_)
    cases q5 : DA.rS ρ sj with
    | some x5 =>
      refine Go.st (T' := T35) (g' := (mkF m 96 #[rv eA, iv (Int32.ofNat ρ), iv (Int32.ofNat sj), iv (Int32.ofNat oj), iv run, rv x5, .unset] [])) ?_ (fun _ kk_ => own_aaload X35 hx hZ e35 AS1.2.2.ary rfl (i := sj) (v := (.ref x5)) ((own_eight hs).trans (congrArg (fun z => some (ov z)) q5)) rfl rfl rfl (hb hby dadd_56) (XS.astore X35.here hx rfl (hb hby dadd_57) rfl rfl (l' := #[rv eA, iv (Int32.ofNat ρ), iv (Int32.ofNat sj), iv (Int32.ofNat oj), iv run, rv x5, .unset]) rfl (XS.aload X35.here hx rfl (hb hby dadd_59) rfl rfl  (XS.ifnonnullYes X35.here hx rfl (pc0 := 61) (pc' := 96) rfl (hb hby dadd_61) rfl (by decide) (by decide) kk_))))
      exact cB _ _ _ rA DA x5 a1 a2 (X35.more (by decide) (by decide)) e35 N_cA O_cA Z_cA IA (pd_le PA (Nat.le_succ _) (Nat.le_refl _)) hEA hkA q5 ((PA.hx ρ sj hs).mp (by rw [q5]; nofun)) qa1 qa2
    | none =>
      refine Go.st (T' := T35) (g' := (mkF m 64 #[rv eA, iv (Int32.ofNat ρ), iv (Int32.ofNat sj), iv (Int32.ofNat oj), iv run, .val .null, .unset] [])) ?_ (fun _ kk_ => own_aaload X35 hx hZ e35 AS1.2.2.ary rfl (i := sj) (v := .null) ((own_eight hs).trans (congrArg (fun z => some (ov z)) q5)) rfl rfl rfl (hb hby dadd_56) (XS.astore X35.here hx rfl (hb hby dadd_57) rfl rfl (l' := #[rv eA, iv (Int32.ofNat ρ), iv (Int32.ofNat sj), iv (Int32.ofNat oj), iv run, .val .null, .unset]) rfl (XS.aload X35.here hx rfl (hb hby dadd_59) rfl rfl  (XS.ifnonnullNo X35.here hx rfl (hb hby dadd_61) rfl kk_))))
      have hnH : sj ∉ DA.H ρ := fun z => ((PA.hx ρ sj hs).mpr z) q5
      have hR0 : DA.R ρ sj = [] := Classical.byContradiction fun z => hnH (PA.hs ρ sj z)
      obtain ⟨T36, h36, X36, e36, E36, A36, D36, U36, st36⟩ := newO X35 hx hZ hown (hw _ (List.mem_of_getElem? (i := 17) rfl)) (hw _ (List.mem_of_getElem? (i := 30) rfl)) (hw _ (List.mem_of_getElem? (i := 31) rfl)) e35 (g := (mkF m 64 #[rv eA, iv (Int32.ofNat ρ), iv (Int32.ofNat sj), iv (Int32.ofNat oj), iv run, .val .null, .unset] [])) rfl (hb hby dadd_64) (by decide) (by decide)
      obtain ⟨b36, g36⟩ : ∃ z, z = h_cA.size := ⟨_, rfl⟩
      rw [← g36] at A36 D36 st36
      have g_b36 : n0 ≤ b36 := Nat.le_trans Z_cA (Nat.le_of_eq g36.symm)
      have O37 := O_cA.ext E36
      have Z38 : n0 ≤ h36.size := Nat.le_trans Z_cA E36.1
      have f39 : Fld Z h36 b36 "com/example/rhadamanthus/rhadamanthus/analysis/Entries$Row" "ids" "[I" .null := D36 (Or.inl (hw _ (List.mem_of_getElem? (i := 37) rfl))) (ty := (.array .int)) (by decide)
      have f40 : Fld Z h36 b36 "com/example/rhadamanthus/rhadamanthus/analysis/Entries$Row" "runs" "[I" .null := D36 (Or.inl (hw _ (List.mem_of_getElem? (i := 39) rfl))) (ty := (.array .int)) (by decide)
      have f41 : Fld Z h36 b36 "com/example/rhadamanthus/rhadamanthus/analysis/Entries$Row" "size" "I" (.int (0 : Int32)) := D36 (Or.inl (hw _ (List.mem_of_getElem? (i := 52) rfl))) (ty := .int) (by decide)
      refine Go.st (T' := T36) (g' := (mkF m 67 #[rv eA, iv (Int32.ofNat ρ), iv (Int32.ofNat sj), iv (Int32.ofNat oj), iv run, .val .null, .unset] [(.ref b36)])) ?_ st36
      refine Go.st (T' := T36) (g' := (mkF m 69 #[rv eA, iv (Int32.ofNat ρ), iv (Int32.ofNat sj), iv (Int32.ofNat oj), iv run, .val .null, .unset] [(.int (1 : Int32)), (.ref b36), (.ref b36)])) ?_ (fun _ kk_ => XS.dup X36.here hx rfl (hb hby dadd_67) rfl rfl (XS.iconst X36.here hx rfl (hb hby dadd_68) kk_))
      refine Go.callN (y := (⟨"com/example/rhadamanthus/rhadamanthus/analysis/Entries$Row", "<init>", "(Z)V"⟩ : MethodName)) X36 hx hZ rfl hown (hw _ (List.mem_of_getElem? (i := 32) rfl)) (hw _ (List.mem_of_getElem? (i := 33) rfl)) (hw _ (List.mem_of_getElem? (i := 31) rfl)) (hw _ (List.mem_of_getElem? (i := 34) rfl)) (by decide) 1 (rm_rw1 l Z a0 hw [] b36 n0 h36 Z38 A36 f39 f40 f41 g_b36) e36 (by decide) (by decide) (by decide) (by decide) (a := b36) (argsL := [(.int (1 : Int32))]) (rest := [(.ref b36)]) rfl (by rw [hml]; rfl) (lenOf pd__28Z_29V rfl) rfl rfl (by show 2 * 0 + _ ≤ _; exact Nat.le_of_eq rfl) (hb hby dadd_69) ?_
      rintro _ T42 L42 X42 ⟨rfl, N42, K42, ids42, iz42, Fi42, Fz42, Vi42, ru42, rz42, ne42, Fu42, Vu42⟩
      have N43 := Fr.app N_cA N42
      have O44 := O37.keep K42 (allS (P := fun z_ => n0 ≤ z_) g_b36 all0)
      have Z45 : n0 ≤ T42.heap.size := Nat.le_trans Z38 K42.1
      show Go p e below _ T42 (mkF m 72 #[rv eA, iv (Int32.ofNat ρ), iv (Int32.ofNat sj), iv (Int32.ofNat oj), iv run, .val .null, .unset] [(.ref b36)])
      have f46 := (A36.keep K42)
      have KN42 : Keep h_cA T42.heap [] := ((Keep.refl h_cA []).ext E36).trans K42 (allS (P := fun z_ => z_ ∈ ([] : List Addr) ∨ h_cA.size ≤ z_) (Or.inr (Nat.le_of_eq g36.symm)) all0)
      have I42 := IA.grow Z_cA KN42 (Lb.rS ρ sj)
      have sx42 : h_cA.size ≤ b36 := Nat.le_of_eq g36.symm
      have si42 : h_cA.size ≤ ids42 := Nat.le_trans E36.1 iz42
      have RP42 : RowP Z T42.heap (frL h_cA.size T42.heap.size (Lb.rS ρ sj) rA) (Lb.rS ρ sj) b36 0 (fun _ => 0) := ⟨ids42, frL_new sx42 f46.lt, frL_new si42 Vi42.lt, f46, Fi42, Fz42, Vi42, Or.inr ⟨ru42, _, frL_new (Nat.le_trans E36.1 rz42) Vu42.lt, ne42, Fu42, Vu42⟩⟩
      refine Go.st (T' := T42) (g' := (mkF m 75 #[rv eA, iv (Int32.ofNat ρ), iv (Int32.ofNat sj), iv (Int32.ofNat oj), iv run, rv b36, .unset] [(.ref eA)])) ?_ (fun _ kk_ => XS.astore X42.here hx rfl (hb hby dadd_72) rfl rfl (l' := #[rv eA, iv (Int32.ofNat ρ), iv (Int32.ofNat sj), iv (Int32.ofNat oj), iv run, rv b36, .unset]) rfl (XS.aloadN X42.here hx rfl (hb hby dadd_74) rfl rfl  kk_))
      obtain ⟨E47, Fn47, Fs47, Fo47, Fh47, Fc47⟩ := I42.ent (eA := eA) hEA
      obtain ⟨T48, X48, e48, st48⟩ := getF X42 hx hZ hown (host := "") (Or.inl (hw _ (List.mem_of_getElem? (i := 13) rfl))) Via.refl rfl Fs47 (g := (mkF m 75 #[rv eA, iv (Int32.ofNat ρ), iv (Int32.ofNat sj), iv (Int32.ofNat oj), iv run, rv b36, .unset] [(.ref eA)])) rfl rfl (hb hby dadd_75)
      refine Go.st (T' := T48) (g' := (mkF m 78 #[rv eA, iv (Int32.ofNat ρ), iv (Int32.ofNat sj), iv (Int32.ofNat oj), iv run, rv b36, .unset] [(.ref DA.bS)])) ?_ st48
      refine Go.st (T' := T48) (g' := (mkF m 83 #[rv eA, iv (Int32.ofNat ρ), iv (Int32.ofNat sj), iv (Int32.ofNat oj), iv run, rv b36, .unset] [(.ref b36), (.int (Int32.ofNat sj)), (.ref a1)])) ?_ (fun _ kk_ => XS.iloadN X48.here hx rfl (hb hby dadd_78) rfl  (own_aaload X48 hx hZ e48 I42.cbS.2.ary rfl (i := ρ) (v := (.ref a1)) ((own_two DA.aS hρ ov).trans (congrArg (fun z => some (ov z)) qa1)) rfl rfl rfl (hb hby dadd_79) (XS.iloadN X48.here hx rfl (hb hby dadd_80) rfl  (XS.aload X48.here hx rfl (hb hby dadd_81) rfl rfl  kk_))))
      have AS3 := I42.caS ρ a1 qa1
      refine Go.aastore X48 hx hZ e48 (AS3.2.2) rfl (i := sj) (by simpa using hs) rfl (Ins.self f46) rfl rfl (hb hby dadd_83) ?_
      intro T49 h49 X49 e49 W49 A49
      have N50 := Fr.snoc X49 N43 (I42.ge AS3.1 (lbn rfl))
      have O51 := O44.wr W49 (I42.ge AS3.1 (lbn rfl))
      have Z52 : n0 ≤ h49.size := by rw [W49.size]; exact Z45
      show Go p e below _ T49 (mkF m 84 #[rv eA, iv (Int32.ofNat ρ), iv (Int32.ofNat sj), iv (Int32.ofNat oj), iv run, rv b36, .unset] [])
      have RQ := RP42.keep (Keep.of_wr W49) (allS (P := fun z_ => (frL h_cA.size T42.heap.size (Lb.rS ρ sj) rA) z_ ≠ Lb.rS ρ sj) (by rw [AS3.1]; exact lbn rfl) all0)
      have IH := I42.rowS hs qa1 RQ hR0 (Keep.of_wr W49) A49
      refine Go.st (T' := T49) (g' := (mkF m 85 #[rv eA, iv (Int32.ofNat ρ), iv (Int32.ofNat sj), iv (Int32.ofNat oj), iv run, rv b36, .unset] [(.ref eA)])) ?_ (fun _ kk_ => XS.aloadN X49.here hx rfl (hb hby dadd_84) rfl rfl  kk_)
      obtain ⟨E53, Fn53, Fs53, Fo53, Fh53, Fc53⟩ := IH.ent (eA := eA) hEA
      obtain ⟨T54, X54, e54, st54⟩ := getF X49 hx hZ hown (host := "") (Or.inl (hw _ (List.mem_of_getElem? (i := 19) rfl))) Via.refl e49 Fh53 (g := (mkF m 85 #[rv eA, iv (Int32.ofNat ρ), iv (Int32.ofNat sj), iv (Int32.ofNat oj), iv run, rv b36, .unset] [(.ref eA)])) rfl rfl (hb hby dadd_85)
      refine Go.st (T' := T54) (g' := (mkF m 88 #[rv eA, iv (Int32.ofNat ρ), iv (Int32.ofNat sj), iv (Int32.ofNat oj), iv run, rv b36, .unset] [(.ref DA.hd)])) ?_ st54
      refine Go.st (T' := T54) (g' := (mkF m 92 #[rv eA, iv (Int32.ofNat ρ), iv (Int32.ofNat sj), iv (Int32.ofNat oj), iv run, rv b36, .unset] [(.int ((-1) : Int32)), (.int (Int32.ofNat sj)), (.ref x3)])) ?_ (fun _ kk_ => XS.iloadN X54.here hx rfl (hb hby dadd_88) rfl  (own_aaload X54 hx hZ e54 IH.chd.2.ary rfl (i := ρ) (v := (.ref x3)) ((own_two DA.hr hρ ov).trans (congrArg (fun z => some (ov z)) q3)) rfl rfl rfl (hb hby dadd_89) (XS.iloadN X54.here hx rfl (hb hby dadd_90) rfl  (XS.iconst X54.here hx rfl (hb hby dadd_91) kk_))))
      obtain ⟨f, RP3, hf3⟩ := IH.chr ρ x3 q3
      have hl3 := PA.H3 ρ
      refine Go.callV (y := (⟨"com/example/rhadamanthus/rhadamanthus/analysis/Entries$Row", "insert", "(II)Z"⟩ : MethodName)) (z := (⟨"com/example/rhadamanthus/rhadamanthus/analysis/Entries$Row", "insert", "(II)Z"⟩ : MethodName)) X54 hx hZ hown (hw _ (List.mem_of_getElem? (i := 41) rfl)) (hw _ (List.mem_of_getElem? (i := 42) rfl)) (notFace_of_selects (args := #[]) (mvT hZ (hw _ (List.mem_of_getElem? (i := 44) rfl)))) (hw _ (List.mem_of_getElem? (i := 44) rfl)) (hw _ (List.mem_of_getElem? (i := 43) rfl)) (hw _ (List.mem_of_getElem? (i := 31) rfl)) (hw _ (List.mem_of_getElem? (i := 45) rfl)) (by decide) 0 (rm_ins l Z a0 hw [] x3 (DA.H ρ).length f (Int32.ofNat sj) ((-1) : Int32) (frL h_cA.size T42.heap.size (Lb.rS ρ sj) rA) (Lb.hr ρ) n0 h49 Z52 (by omega) RP3 (fun z q => IH.ge q (lbn rfl))) e54 (by decide) (by decide) (by decide) (by decide) RP3.choose_spec.2.2.1 (argsL := [(.int (Int32.ofNat sj)), (.int ((-1) : Int32))]) (rest := []) rfl (by rw [hml]; rfl) (lenOf pd__28II_29Z rfl) rfl rfl (by show 2 * 0 + _ ≤ _; exact Nat.le_of_eq rfl) (hb hby dadd_92) ?_
      rintro _ T55 L55 X55 ⟨bb, rfl, N55, ws, K55, hws, hi3⟩
      have N56 := Fr.app N50 N55
      have O57 := O51.keep K55 (fun z hz => IH.ge (hws z hz) (lbn rfl))
      have Z58 : n0 ≤ T55.heap.size := Nat.le_trans Z52 K55.1
      show Go p e below _ T55 (mkF m 95 #[rv eA, iv (Int32.ofNat ρ), iv (Int32.ofNat sj), iv (Int32.ofNat oj), iv run, rv b36, .unset] [(.int bb)])
      obtain ⟨rfl, -, i3, hi3, hfi3⟩ | ⟨rfl, j, hj3, R3, hpl3⟩ := hi3
      · exact absurd (own_found (PA.H2 ρ) hs hf3 hi3 hfi3) hnH
      ·
        show Go p e below _ T55 (mkF m 95 #[rv eA, iv (Int32.ofNat ρ), iv (Int32.ofNat sj), iv (Int32.ofNat oj), iv run, rv b36, .unset] [(.int (1 : Int32))])
        obtain ⟨up3, -, hf4⟩ := own_place (PA.H1 ρ) (PA.H2 ρ) hs hf3 hj3 hpl3
        have IJ := IH.insH (L := putIn j sj (DA.H ρ)) q3 K55 hws ⟨_, by rw [putIn_len hj3]; exact R3, hf4⟩
        refine Go.st (T' := T55) (g' := (mkF m 96 #[rv eA, iv (Int32.ofNat ρ), iv (Int32.ofNat sj), iv (Int32.ofNat oj), iv run, rv b36, .unset] [])) ?_ (fun _ kk_ => XS.pop X55.here hx rfl (hb hby dadd_95) rfl rfl kk_)
        exact cB _ _ _ (frL h_cA.size T42.heap.size (Lb.rS ρ sj) rA) ((DA.w_rS (up2 DA.rS ρ sj (some b36))).w_H (up1 DA.H ρ (putIn j sj (DA.H ρ)))) b36 a1 a2 (X55.more (by decide) (by decide)) rfl N56 O57 Z58 IJ (pd_row PA hs q5 qa1 hj3 up3) hEA hkA (up2_same _ _ _ _) (by show sj ∈ up1 DA.H ρ _ ρ; rw [up1_same, putIn_mem]; exact Or.inl rfl) qa1 qa2
  rcases P0.ha ρ with ⟨qa1, qa2, q3⟩ | ⟨⟨a1, qa1⟩, ⟨a2, qa2⟩, ⟨x3, q3⟩⟩
  ·
    obtain ⟨hN1, hN2, hN3⟩ := P0.hn ρ qa1
    obtain ⟨E59, Fn59, Fs59, Fo59, Fh59, Fc59⟩ := I0.ent (eA := eA) hE
    refine Go.st (T' := s₁) (g' := (mkF m 1 #[rv eA, iv (Int32.ofNat ρ), iv (Int32.ofNat sj), iv (Int32.ofNat oj), iv run, .unset, .unset] [(.ref eA)])) ?_ (fun _ kk_ => XS.aloadN X0.here hx rfl (hb hby dadd_0) rfl rfl  kk_)
    obtain ⟨T60, X60, e60, st60⟩ := getF X0 hx hZ hown (host := "") (Or.inl (hw _ (List.mem_of_getElem? (i := 13) rfl))) Via.refl e0 Fs59 (g := (mkF m 1 #[rv eA, iv (Int32.ofNat ρ), iv (Int32.ofNat sj), iv (Int32.ofNat oj), iv run, .unset, .unset] [(.ref eA)])) rfl rfl (hb hby dadd_1)
    refine Go.st (T' := T60) (g' := (mkF m 4 #[rv eA, iv (Int32.ofNat ρ), iv (Int32.ofNat sj), iv (Int32.ofNat oj), iv run, .unset, .unset] [(.ref D.bS)])) ?_ st60
    refine Go.st (T' := T60) (g' := (mkF m 10 #[rv eA, iv (Int32.ofNat ρ), iv (Int32.ofNat sj), iv (Int32.ofNat oj), iv run, .unset, .unset] [(.ref eA)])) ?_ (fun _ kk_ => XS.iloadN X60.here hx rfl (hb hby dadd_4) rfl  (own_aaload X60 hx hZ e60 I0.cbS.2.ary rfl (i := ρ) (v := .null) ((own_two D.aS hρ ov).trans (congrArg (fun z => some (ov z)) qa1)) rfl rfl rfl (hb hby dadd_5) (XS.ifnonnullNo X60.here hx rfl (hb hby dadd_6) rfl (XS.aloadN X60.here hx rfl (hb hby dadd_9) rfl rfl  kk_))))
    obtain ⟨T61, X61, e61, st61⟩ := getF X60 hx hZ hown (host := "") (Or.inl (hw _ (List.mem_of_getElem? (i := 13) rfl))) Via.refl e60 Fs59 (g := (mkF m 10 #[rv eA, iv (Int32.ofNat ρ), iv (Int32.ofNat sj), iv (Int32.ofNat oj), iv run, .unset, .unset] [(.ref eA)])) rfl rfl (hb hby dadd_10)
    refine Go.st (T' := T61) (g' := (mkF m 13 #[rv eA, iv (Int32.ofNat ρ), iv (Int32.ofNat sj), iv (Int32.ofNat oj), iv run, .unset, .unset] [(.ref D.bS)])) ?_ st61
    refine Go.st (T' := T61) (g' := (mkF m 15 #[rv eA, iv (Int32.ofNat ρ), iv (Int32.ofNat sj), iv (Int32.ofNat oj), iv run, .unset, .unset] [(.ref eA), (.int (Int32.ofNat ρ)), (.ref D.bS)])) ?_ (fun _ kk_ => XS.iloadN X61.here hx rfl (hb hby dadd_13) rfl  (XS.aloadN X61.here hx rfl (hb hby dadd_14) rfl rfl  kk_))
    obtain ⟨T62, X62, e62, st62⟩ := getF X61 hx hZ hown (host := "") (Or.inl (hw _ (List.mem_of_getElem? (i := 9) rfl))) Via.refl e61 Fn59 (g := (mkF m 15 #[rv eA, iv (Int32.ofNat ρ), iv (Int32.ofNat sj), iv (Int32.ofNat oj), iv run, .unset, .unset] [(.ref eA), (.int (Int32.ofNat ρ)), (.ref D.bS)])) rfl rfl (hb hby dadd_15)
    refine Go.st (T' := T62) (g' := (mkF m 18 #[rv eA, iv (Int32.ofNat ρ), iv (Int32.ofNat sj), iv (Int32.ofNat oj), iv run, .unset, .unset] [(.int (8 : Int32)), (.int (Int32.ofNat ρ)), (.ref D.bS)])) ?_ st62
    refine Go.newRO X62 hx hZ hown (hw _ (List.mem_of_getElem? (i := 17) rfl)) (hw _ (List.mem_of_getElem? (i := 18) rfl)) e62 rfl (hb hby dadd_18) (n := 8) rfl rfl 8 (by decide) (by decide) (by decide) (by decide) (ad := RWA) (by decide +kernel) ?_
    intro T63 h63 b63 X63 e63 E63 g63 A63 D63
    have g_b63 : n0 ≤ b63 := Nat.le_trans Z0 (Nat.le_of_eq g63.symm)
    have O64 := O0.ext E63
    have Z65 : n0 ≤ h63.size := Nat.le_trans Z0 E63.1
    show Go p e below _ T63 (mkF m 21 #[rv eA, iv (Int32.ofNat ρ), iv (Int32.ofNat sj), iv (Int32.ofNat oj), iv run, .unset, .unset] [(.ref b63), (.int (Int32.ofNat ρ)), (.ref D.bS)])
    have I63 := I0.grow Z0 ((Keep.refl h0 []).ext E63) (Lb.aS ρ)
    have rb63 : (frL h0.size h63.size (Lb.aS ρ) rg) b63 = Lb.aS ρ := frL_new (Nat.le_of_eq g63.symm) A63.ary.lt
    refine Go.aastore X63 hx hZ e63 (I63.cbS.2) rfl (i := ρ) (by simpa using hρ) rfl (Ins.self D63) rfl rfl (hb hby dadd_21) ?_
    intro T66 h66 X66 e66 W66 A66
    have N67 := Fr.snoc X66 N0 (I63.ge I63.cbS.1 (lbn rfl))
    have O68 := O64.wr W66 (I63.ge I63.cbS.1 (lbn rfl))
    have Z69 : n0 ≤ h66.size := by rw [W66.size]; exact Z65
    show Go p e below _ T66 (mkF m 22 #[rv eA, iv (Int32.ofNat ρ), iv (Int32.ofNat sj), iv (Int32.ofNat oj), iv run, .unset, .unset] [])
    have IN66 := I63.setS hρ rb63 (D63.wr W66) (A63.keep (Keep.of_wr W66) (ninS (own_lne rb63 I63.cbS.1 (lbn rfl)) nin0)) (Keep.of_wr W66) hN1 A66
    refine Go.st (T' := T66) (g' := (mkF m 23 #[rv eA, iv (Int32.ofNat ρ), iv (Int32.ofNat sj), iv (Int32.ofNat oj), iv run, .unset, .unset] [(.ref eA)])) ?_ (fun _ kk_ => XS.aloadN X66.here hx rfl (hb hby dadd_22) rfl rfl  kk_)
    obtain ⟨E70, Fn70, Fs70, Fo70, Fh70, Fc70⟩ := IN66.ent (eA := eA) hE
    obtain ⟨T71, X71, e71, st71⟩ := getF X66 hx hZ hown (host := "") (Or.inl (hw _ (List.mem_of_getElem? (i := 15) rfl))) Via.refl e66 Fo70 (g := (mkF m 23 #[rv eA, iv (Int32.ofNat ρ), iv (Int32.ofNat sj), iv (Int32.ofNat oj), iv run, .unset, .unset] [(.ref eA)])) rfl rfl (hb hby dadd_23)
    refine Go.st (T' := T71) (g' := (mkF m 26 #[rv eA, iv (Int32.ofNat ρ), iv (Int32.ofNat sj), iv (Int32.ofNat oj), iv run, .unset, .unset] [(.ref D.bO)])) ?_ st71
    refine Go.st (T' := T71) (g' := (mkF m 28 #[rv eA, iv (Int32.ofNat ρ), iv (Int32.ofNat sj), iv (Int32.ofNat oj), iv run, .unset, .unset] [(.ref eA), (.int (Int32.ofNat ρ)), (.ref D.bO)])) ?_ (fun _ kk_ => XS.iloadN X71.here hx rfl (hb hby dadd_26) rfl  (XS.aloadN X71.here hx rfl (hb hby dadd_27) rfl rfl  kk_))
    obtain ⟨T72, X72, e72, st72⟩ := getF X71 hx hZ hown (host := "") (Or.inl (hw _ (List.mem_of_getElem? (i := 9) rfl))) Via.refl e71 Fn70 (g := (mkF m 28 #[rv eA, iv (Int32.ofNat ρ), iv (Int32.ofNat sj), iv (Int32.ofNat oj), iv run, .unset, .unset] [(.ref eA), (.int (Int32.ofNat ρ)), (.ref D.bO)])) rfl rfl (hb hby dadd_28)
    refine Go.st (T' := T72) (g' := (mkF m 31 #[rv eA, iv (Int32.ofNat ρ), iv (Int32.ofNat sj), iv (Int32.ofNat oj), iv run, .unset, .unset] [(.int (8 : Int32)), (.int (Int32.ofNat ρ)), (.ref D.bO)])) ?_ st72
    refine Go.newRO X72 hx hZ hown (hw _ (List.mem_of_getElem? (i := 17) rfl)) (hw _ (List.mem_of_getElem? (i := 18) rfl)) e72 rfl (hb hby dadd_31) (n := 8) rfl rfl 8 (by decide) (by decide) (by decide) (by decide) (ad := RWA) (by decide +kernel) ?_
    intro T73 h73 b73 X73 e73 E73 g73 A73 D73
    have g_b73 : n0 ≤ b73 := Nat.le_trans Z69 (Nat.le_of_eq g73.symm)
    have O74 := O68.ext E73
    have Z75 : n0 ≤ h73.size := Nat.le_trans Z69 E73.1
    show Go p e below _ T73 (mkF m 34 #[rv eA, iv (Int32.ofNat ρ), iv (Int32.ofNat sj), iv (Int32.ofNat oj), iv run, .unset, .unset] [(.ref b73), (.int (Int32.ofNat ρ)), (.ref D.bO)])
    have I73 := IN66.grow Z69 ((Keep.refl h66 []).ext E73) (Lb.aO ρ)
    have rb73 : (frL h66.size h73.size (Lb.aO ρ) (frL h0.size h63.size (Lb.aS ρ) rg)) b73 = Lb.aO ρ := frL_new (Nat.le_of_eq g73.symm) A73.ary.lt
    refine Go.aastore X73 hx hZ e73 (I73.cbO.2) rfl (i := ρ) (by simpa using hρ) rfl (Ins.self D73) rfl rfl (hb hby dadd_34) ?_
    intro T76 h76 X76 e76 W76 A76
    have N77 := Fr.snoc X76 N67 (I73.ge I73.cbO.1 (lbn rfl))
    have O78 := O74.wr W76 (I73.ge I73.cbO.1 (lbn rfl))
    have Z79 : n0 ≤ h76.size := by rw [W76.size]; exact Z75
    show Go p e below _ T76 (mkF m 35 #[rv eA, iv (Int32.ofNat ρ), iv (Int32.ofNat sj), iv (Int32.ofNat oj), iv run, .unset, .unset] [])
    have IN76 := I73.setO hρ rb73 (D73.wr W76) (A73.keep (Keep.of_wr W76) (ninS (own_lne rb73 I73.cbO.1 (lbn rfl)) nin0)) (Keep.of_wr W76) hN2 A76
    refine Go.st (T' := T76) (g' := (mkF m 36 #[rv eA, iv (Int32.ofNat ρ), iv (Int32.ofNat sj), iv (Int32.ofNat oj), iv run, .unset, .unset] [(.ref eA)])) ?_ (fun _ kk_ => XS.aloadN X76.here hx rfl (hb hby dadd_35) rfl rfl  kk_)
    obtain ⟨E80, Fn80, Fs80, Fo80, Fh80, Fc80⟩ := IN76.ent (eA := eA) hE
    obtain ⟨T81, X81, e81, st81⟩ := getF X76 hx hZ hown (host := "") (Or.inl (hw _ (List.mem_of_getElem? (i := 19) rfl))) Via.refl e76 Fh80 (g := (mkF m 36 #[rv eA, iv (Int32.ofNat ρ), iv (Int32.ofNat sj), iv (Int32.ofNat oj), iv run, .unset, .unset] [(.ref eA)])) rfl rfl (hb hby dadd_36)
    refine Go.st (T' := T81) (g' := (mkF m 39 #[rv eA, iv (Int32.ofNat ρ), iv (Int32.ofNat sj), iv (Int32.ofNat oj), iv run, .unset, .unset] [(.ref D.hd)])) ?_ st81
    refine Go.st (T' := T81) (g' := (mkF m 40 #[rv eA, iv (Int32.ofNat ρ), iv (Int32.ofNat sj), iv (Int32.ofNat oj), iv run, .unset, .unset] [(.int (Int32.ofNat ρ)), (.ref D.hd)])) ?_ (fun _ kk_ => XS.iloadN X81.here hx rfl (hb hby dadd_39) rfl  kk_)
    obtain ⟨T82, h82, X82, e82, E82, A82, D82, U82, st82⟩ := newO X81 hx hZ hown (hw _ (List.mem_of_getElem? (i := 17) rfl)) (hw _ (List.mem_of_getElem? (i := 30) rfl)) (hw _ (List.mem_of_getElem? (i := 31) rfl)) e81 (g := (mkF m 40 #[rv eA, iv (Int32.ofNat ρ), iv (Int32.ofNat sj), iv (Int32.ofNat oj), iv run, .unset, .unset] [(.int (Int32.ofNat ρ)), (.ref D.hd)])) rfl (hb hby dadd_40) (by decide) (by decide)
    obtain ⟨b82, g82⟩ : ∃ z, z = h76.size := ⟨_, rfl⟩
    rw [← g82] at A82 D82 st82
    have g_b82 : n0 ≤ b82 := Nat.le_trans Z79 (Nat.le_of_eq g82.symm)
    have O83 := O78.ext E82
    have Z84 : n0 ≤ h82.size := Nat.le_trans Z79 E82.1
    have f85 : Fld Z h82 b82 "com/example/rhadamanthus/rhadamanthus/analysis/Entries$Row" "ids" "[I" .null := D82 (Or.inl (hw _ (List.mem_of_getElem? (i := 37) rfl))) (ty := (.array .int)) (by decide)
    have f86 : Fld Z h82 b82 "com/example/rhadamanthus/rhadamanthus/analysis/Entries$Row" "runs" "[I" .null := D82 (Or.inl (hw _ (List.mem_of_getElem? (i := 39) rfl))) (ty := (.array .int)) (by decide)
    have f87 : Fld Z h82 b82 "com/example/rhadamanthus/rhadamanthus/analysis/Entries$Row" "size" "I" (.int (0 : Int32)) := D82 (Or.inl (hw _ (List.mem_of_getElem? (i := 52) rfl))) (ty := .int) (by decide)
    refine Go.st (T' := T82) (g' := (mkF m 43 #[rv eA, iv (Int32.ofNat ρ), iv (Int32.ofNat sj), iv (Int32.ofNat oj), iv run, .unset, .unset] [(.ref b82), (.int (Int32.ofNat ρ)), (.ref D.hd)])) ?_ st82
    refine Go.st (T' := T82) (g' := (mkF m 45 #[rv eA, iv (Int32.ofNat ρ), iv (Int32.ofNat sj), iv (Int32.ofNat oj), iv run, .unset, .unset] [(.int (0 : Int32)), (.ref b82), (.ref b82), (.int (Int32.ofNat ρ)), (.ref D.hd)])) ?_ (fun _ kk_ => XS.dup X82.here hx rfl (hb hby dadd_43) rfl rfl (XS.iconst X82.here hx rfl (hb hby dadd_44) kk_))
    refine Go.callN (y := (⟨"com/example/rhadamanthus/rhadamanthus/analysis/Entries$Row", "<init>", "(Z)V"⟩ : MethodName)) X82 hx hZ rfl hown (hw _ (List.mem_of_getElem? (i := 32) rfl)) (hw _ (List.mem_of_getElem? (i := 33) rfl)) (hw _ (List.mem_of_getElem? (i := 31) rfl)) (hw _ (List.mem_of_getElem? (i := 34) rfl)) (by decide) 3 (rm_rw0 l Z a0 hw [] b82 n0 h82 Z84 A82 f85 f86 f87 g_b82) e82 (by decide) (by decide) (by decide) (by decide) (a := b82) (argsL := [(.int (0 : Int32))]) (rest := [(.ref b82), (.int (Int32.ofNat ρ)), (.ref D.hd)]) rfl (by rw [hml]; rfl) (lenOf pd__28Z_29V rfl) rfl rfl (by show 2 * 0 + _ ≤ _; exact Nat.le_of_eq rfl) (hb hby dadd_45) ?_
    rintro _ T88 L88 X88 ⟨rfl, N88, K88, ids88, iz88, Fi88, Fz88, Vi88, Fu88⟩
    have N89 := Fr.app N77 N88
    have O90 := O83.keep K88 (allS (P := fun z_ => n0 ≤ z_) g_b82 all0)
    have Z91 : n0 ≤ T88.heap.size := Nat.le_trans Z84 K88.1
    show Go p e below _ T88 (mkF m 48 #[rv eA, iv (Int32.ofNat ρ), iv (Int32.ofNat sj), iv (Int32.ofNat oj), iv run, .unset, .unset] [(.ref b82), (.int (Int32.ofNat ρ)), (.ref D.hd)])
    have f92 := (A82.keep K88)
    have KN88 : Keep h76 T88.heap [] := ((Keep.refl h76 []).ext E82).trans K88 (allS (P := fun z_ => z_ ∈ ([] : List Addr) ∨ h76.size ≤ z_) (Or.inr (Nat.le_of_eq g82.symm)) all0)
    have I88 := IN76.grow Z79 KN88 (Lb.hr ρ)
    have sx88 : h76.size ≤ b82 := Nat.le_of_eq g82.symm
    have si88 : h76.size ≤ ids88 := Nat.le_trans E82.1 iz88
    have RP88 : RowP Z T88.heap (frL h76.size T88.heap.size (Lb.hr ρ) (frL h66.size h73.size (Lb.aO ρ) (frL h0.size h63.size (Lb.aS ρ) rg))) (Lb.hr ρ) b82 0 (fun _ => 0) := ⟨ids88, frL_new sx88 f92.lt, frL_new si88 Vi88.lt, f92, Fi88, Fz88, Vi88, Or.inl Fu88⟩
    refine Go.aastore X88 hx hZ rfl ((I88.chd).2) rfl (i := ρ) (by simpa using hρ) rfl (Ins.self f92) rfl rfl (hb hby dadd_48) ?_
    intro T93 h93 X93 e93 W93 A93
    have N94 := Fr.snoc X93 N89 (I88.ge (I88.chd).1 (lbn rfl))
    have O95 := O90.wr W93 (I88.ge (I88.chd).1 (lbn rfl))
    have Z96 : n0 ≤ h93.size := by rw [W93.size]; exact Z91
    show Go p e below _ T93 (mkF m 49 #[rv eA, iv (Int32.ofNat ρ), iv (Int32.ofNat sj), iv (Int32.ofNat oj), iv run, .unset, .unset] [])
    have RQ := RP88.keep (Keep.of_wr W93) (allS (P := fun z_ => (frL h76.size T88.heap.size (Lb.hr ρ) (frL h66.size h73.size (Lb.aO ρ) (frL h0.size h63.size (Lb.aS ρ) rg))) z_ ≠ Lb.hr ρ) (by rw [(I88.chd).1]; exact lbn rfl) all0)
    have IH := I88.setH hρ RQ hN3 (Keep.of_wr W93) A93
    exact cA _ _ _ (frL h76.size T88.heap.size (Lb.hr ρ) (frL h66.size h73.size (Lb.aO ρ) (frL h0.size h63.size (Lb.aS ρ) rg))) (((D.w_aS (up1 D.aS ρ (some b63))).w_aO (up1 D.aO ρ (some b73))).w_hr (up1 D.hr ρ (some b82))) b63 b73 b82 (X93.more (by decide) (by decide)) e93 N94 O95 Z96 IH (pd_pres P0 qa1 b63 b73 b82) hE rfl (up1_same _ _ _) (up1_same _ _ _) (up1_same _ _ _)
  ·
    obtain ⟨E97, Fn97, Fs97, Fo97, Fh97, Fc97⟩ := I0.ent (eA := eA) hE
    refine Go.st (T' := s₁) (g' := (mkF m 1 #[rv eA, iv (Int32.ofNat ρ), iv (Int32.ofNat sj), iv (Int32.ofNat oj), iv run, .unset, .unset] [(.ref eA)])) ?_ (fun _ kk_ => XS.aloadN X0.here hx rfl (hb hby dadd_0) rfl rfl  kk_)
    obtain ⟨T98, X98, e98, st98⟩ := getF X0 hx hZ hown (host := "") (Or.inl (hw _ (List.mem_of_getElem? (i := 13) rfl))) Via.refl e0 Fs97 (g := (mkF m 1 #[rv eA, iv (Int32.ofNat ρ), iv (Int32.ofNat sj), iv (Int32.ofNat oj), iv run, .unset, .unset] [(.ref eA)])) rfl rfl (hb hby dadd_1)
    refine Go.st (T' := T98) (g' := (mkF m 4 #[rv eA, iv (Int32.ofNat ρ), iv (Int32.ofNat sj), iv (Int32.ofNat oj), iv run, .unset, .unset] [(.ref D.bS)])) ?_ st98
    refine Go.st (T' := T98) (g' := (mkF m 49 #[rv eA, iv (Int32.ofNat ρ), iv (Int32.ofNat sj), iv (Int32.ofNat oj), iv run, .unset, .unset] [])) ?_ (fun _ kk_ => XS.iloadN X98.here hx rfl (hb hby dadd_4) rfl  (own_aaload X98 hx hZ e98 I0.cbS.2.ary rfl (i := ρ) (v := (.ref a1)) ((own_two D.aS hρ ov).trans (congrArg (fun z => some (ov z)) qa1)) rfl rfl rfl (hb hby dadd_5) (XS.ifnonnullYes X98.here hx rfl (pc0 := 6) (pc' := 49) rfl (hb hby dadd_6) rfl (by decide) (by decide) kk_)))
    exact cA _ _ _ rg D a1 a2 x3 (X98.more (by decide) (by decide)) e98 N0 O0 Z0 I0 P0 hE rfl qa1 qa2 q3
theorem dall_0 : decode prog_1_method_6_code 0 = .ok (.aload_n 0, 1) := by decide +kernel
theorem dall_1 : decode prog_1_method_6_code 1 = .ok (.getfield 24, 3) := by decide +kernel
theorem dall_4 : decode prog_1_method_6_code 4 = .ok (.iload_n 1, 1) := by decide +kernel
theorem dall_5 : decode prog_1_method_6_code 5 = .ok (.aaload, 1) := by decide +kernel
theorem dall_6 : decode prog_1_method_6_code 6 = .ok (.ifnonnull 7, 3) := by decide +kernel
theorem dall_9 : decode prog_1_method_6_code 9 = .ok (.getstatic 45, 3) := by decide +kernel
theorem dall_12 : decode prog_1_method_6_code 12 = .ok (.areturn, 1) := by decide +kernel
theorem dall_13 : decode prog_1_method_6_code 13 = .ok (.iconst 2, 1) := by decide +kernel
theorem dall_14 : decode prog_1_method_6_code 14 = .ok (.aload_n 0, 1) := by decide +kernel
theorem dall_15 : decode prog_1_method_6_code 15 = .ok (.getfield 27, 3) := by decide +kernel
theorem dall_18 : decode prog_1_method_6_code 18 = .ok (.iload_n 1, 1) := by decide +kernel
theorem dall_19 : decode prog_1_method_6_code 19 = .ok (.iaload, 1) := by decide +kernel
theorem dall_20 : decode prog_1_method_6_code 20 = .ok (.imul, 1) := by decide +kernel
theorem dall_21 : decode prog_1_method_6_code 21 = .ok (.newarray .int, 2) := by decide +kernel
theorem dall_23 : decode prog_1_method_6_code 23 = .ok (.astore_n 2, 1) := by decide +kernel
theorem dall_24 : decode prog_1_method_6_code 24 = .ok (.iconst 0, 1) := by decide +kernel
theorem dall_25 : decode prog_1_method_6_code 25 = .ok (.istore_n 3, 1) := by decide +kernel
theorem dall_26 : decode prog_1_method_6_code 26 = .ok (.aload_n 0, 1) := by decide +kernel
theorem dall_27 : decode prog_1_method_6_code 27 = .ok (.getfield 24, 3) := by decide +kernel
theorem dall_30 : decode prog_1_method_6_code 30 = .ok (.iload_n 1, 1) := by decide +kernel
theorem dall_31 : decode prog_1_method_6_code 31 = .ok (.aaload, 1) := by decide +kernel
theorem dall_32 : decode prog_1_method_6_code 32 = .ok (.astore 4, 2) := by decide +kernel
theorem dall_34 : decode prog_1_method_6_code 34 = .ok (.iconst 0, 1) := by decide +kernel
theorem dall_35 : decode prog_1_method_6_code 35 = .ok (.istore 5, 2) := by decide +kernel
theorem dall_37 : decode prog_1_method_6_code 37 = .ok (.iload 5, 2) := by decide +kernel
theorem dall_39 : decode prog_1_method_6_code 39 = .ok (.aload 4, 2) := by decide +kernel
theorem dall_41 : decode prog_1_method_6_code 41 = .ok (.getfield 52, 3) := by decide +kernel
theorem dall_44 : decode prog_1_method_6_code 44 = .ok (.if_icmp .ge 71, 3) := by decide +kernel
theorem dall_47 : decode prog_1_method_6_code 47 = .ok (.aload 4, 2) := by decide +kernel
theorem dall_49 : decode prog_1_method_6_code 49 = .ok (.getfield 55, 3) := by decide +kernel
theorem dall_52 : decode prog_1_method_6_code 52 = .ok (.iload 5, 2) := by decide +kernel
theorem dall_54 : decode prog_1_method_6_code 54 = .ok (.iaload, 1) := by decide +kernel
theorem dall_55 : decode prog_1_method_6_code 55 = .ok (.istore 6, 2) := by decide +kernel
theorem dall_57 : decode prog_1_method_6_code 57 = .ok (.aload_n 0, 1) := by decide +kernel
theorem dall_58 : decode prog_1_method_6_code 58 = .ok (.getfield 15, 3) := by decide +kernel
theorem dall_61 : decode prog_1_method_6_code 61 = .ok (.iload_n 1, 1) := by decide +kernel
theorem dall_62 : decode prog_1_method_6_code 62 = .ok (.aaload, 1) := by decide +kernel
theorem dall_63 : decode prog_1_method_6_code 63 = .ok (.iload 6, 2) := by decide +kernel
theorem dall_65 : decode prog_1_method_6_code 65 = .ok (.aaload, 1) := by decide +kernel
theorem dall_66 : decode prog_1_method_6_code 66 = .ok (.astore 7, 2) := by decide +kernel
theorem dall_68 : decode prog_1_method_6_code 68 = .ok (.iconst 0, 1) := by decide +kernel
theorem dall_69 : decode prog_1_method_6_code 69 = .ok (.istore 8, 2) := by decide +kernel
theorem dall_71 : decode prog_1_method_6_code 71 = .ok (.iload 8, 2) := by decide +kernel
theorem dall_73 : decode prog_1_method_6_code 73 = .ok (.aload 7, 2) := by decide +kernel
theorem dall_75 : decode prog_1_method_6_code 75 = .ok (.getfield 52, 3) := by decide +kernel
theorem dall_78 : decode prog_1_method_6_code 78 = .ok (.if_icmp .ge 31, 3) := by decide +kernel
theorem dall_81 : decode prog_1_method_6_code 81 = .ok (.aload_n 2, 1) := by decide +kernel
theorem dall_82 : decode prog_1_method_6_code 82 = .ok (.iload_n 3, 1) := by decide +kernel
theorem dall_83 : decode prog_1_method_6_code 83 = .ok (.iinc 3 1, 3) := by decide +kernel
theorem dall_86 : decode prog_1_method_6_code 86 = .ok (.iload 6, 2) := by decide +kernel
theorem dall_88 : decode prog_1_method_6_code 88 = .ok (.iastore, 1) := by decide +kernel
theorem dall_89 : decode prog_1_method_6_code 89 = .ok (.aload_n 2, 1) := by decide +kernel
theorem dall_90 : decode prog_1_method_6_code 90 = .ok (.iload_n 3, 1) := by decide +kernel
theorem dall_91 : decode prog_1_method_6_code 91 = .ok (.iinc 3 1, 3) := by decide +kernel
theorem dall_94 : decode prog_1_method_6_code 94 = .ok (.aload 7, 2) := by decide +kernel
theorem dall_96 : decode prog_1_method_6_code 96 = .ok (.getfield 55, 3) := by decide +kernel
theorem dall_99 : decode prog_1_method_6_code 99 = .ok (.iload 8, 2) := by decide +kernel
theorem dall_101 : decode prog_1_method_6_code 101 = .ok (.iaload, 1) := by decide +kernel
theorem dall_102 : decode prog_1_method_6_code 102 = .ok (.iastore, 1) := by decide +kernel
theorem dall_103 : decode prog_1_method_6_code 103 = .ok (.iinc 8 1, 3) := by decide +kernel
theorem dall_106 : decode prog_1_method_6_code 106 = .ok (.goto (-35), 3) := by decide +kernel
theorem dall_109 : decode prog_1_method_6_code 109 = .ok (.iinc 5 1, 3) := by decide +kernel
theorem dall_112 : decode prog_1_method_6_code 112 = .ok (.goto (-75), 3) := by decide +kernel
theorem dall_115 : decode prog_1_method_6_code 115 = .ok (.aload_n 2, 1) := by decide +kernel
theorem dall_116 : decode prog_1_method_6_code 116 = .ok (.areturn, 1) := by decide +kernel
theorem pn_all : plainFor (⟨"com/example/rhadamanthus/rhadamanthus/analysis/Entries", "all", "(I)[I"⟩ : MethodName) = true := by first | exact plainFor_of_name (by first | (simp [plainName, overriddenIn]; done) | decide +kernel) | decide +kernel
theorem ef_all (m : MethodId) (x0 : Addr) (x1 : Int32) : entryFrame m #[(.ref x0), (.int x1)] 9 = mkF m 0 #[rv x0, iv x1, .unset, .unset, .unset, .unset, .unset, .unset, .unset] [] := by first | (simp [entryFrame, mkF, argsToLocals, Value.category]; done) | rfl
set_option maxRecDepth 65536 in
set_option maxHeartbeats 40000000 in
theorem rm_all (l : Launch) (Z : State) (a0 : Array Value) (hw : ∀ d ∈ tables_1, d.before a0 Z = true) (ws : List Jvm.Cond) (eA nA : Addr) (rg : Addr → Lb) (D : DD) (r kH kR : Nat) (n0 : Nat) (Ks : Nat → Nat → Prop) (h0 : Heap) (Z0 : n0 ≤ h0.size) (hr : r < 2) (hkH : kH ≤ 4) (hkR : kR ≤ 4) (O0 : Old Z n0 h0) (I0 : Inv Z h0 rg n0 D) (PP : PD D kH kR Ks) (hE : D.eA = eA) (Sn : Sta Z Z.heap "com/example/rhadamanthus/rhadamanthus/analysis/Entries" "NO_IDS" "[I" (.ref nA)) (Vn : Ary Z Z.heap nA .int []) :
    Mt l Z (⟨"com/example/rhadamanthus/rhadamanthus/analysis/Entries", "all", "(I)[I"⟩ : MethodName) prog_1_method_6_code 9 (some (.array .int)) ws ({ frames := 0, cells := 1, slots := 8, locals := 0 } : Room) #[(.ref eA), (.int (Int32.ofNat r))] h0 (fun v h L => ∃ a g, v = some (.ref a) ∧ Fr n0 L ∧ Keep h0 h [] ∧ Ary Z h a .int (IL (2 * (keysOf (D.H r) (D.R r)).length) g) ∧ ∀ p_ x_, p_ < (keysOf (D.H r) (D.R r)).length → (keysOf (D.H r) (D.R r))[p_]? = some x_ → g (2 * p_) = Int32.ofNat (x_ / 8) ∧ g (2 * p_ + 1) = Int32.ofNat (x_ % 8)) := by
  refine Mt.body pn_all ?_
  intro p e s m below meth c s₁ hx hby hml hown hnm hret hlk hZ X0 e0
  refine Go.cast (g' := (mkF m 0 #[rv eA, iv (Int32.ofNat r), .unset, .unset, .unset, .unset, .unset, .unset, .unset] [])) (ef_all m eA (Int32.ofNat r)) ?_
  have N0 := Fr.nil n0
  have K0 := Keep.refl h0 ([] : List Addr)
  have hcl : (D.cn r) = (keysOf (D.H r) (D.R r)).length := by rw [PP.hc r, keysOf_len]
  have hc4 := PP.cb r
  rcases PP.ha r with ⟨qa1, qa2, q3⟩ | ⟨⟨a1, qa1⟩, ⟨a2, qa2⟩, ⟨x3, q3⟩⟩
  ·
    obtain ⟨E1, Fn1, Fs1, Fo1, Fh1, Fc1⟩ := I0.ent (eA := eA) hE
    refine Go.st (T' := s₁) (g' := (mkF m 1 #[rv eA, iv (Int32.ofNat r), .unset, .unset, .unset, .unset, .unset, .unset, .unset] [(.ref eA)])) ?_ (fun _ kk_ => XS.aloadN X0.here hx rfl (hb hby dall_0) rfl rfl  kk_)
    obtain ⟨T2, X2, e2, st2⟩ := getF X0 hx hZ hown (host := "") (Or.inl (hw _ (List.mem_of_getElem? (i := 19) rfl))) Via.refl e0 Fh1 (g := (mkF m 1 #[rv eA, iv (Int32.ofNat r), .unset, .unset, .unset, .unset, .unset, .unset, .unset] [(.ref eA)])) rfl rfl (hb hby dall_1)
    refine Go.st (T' := T2) (g' := (mkF m 4 #[rv eA, iv (Int32.ofNat r), .unset, .unset, .unset, .unset, .unset, .unset, .unset] [(.ref D.hd)])) ?_ st2
    refine Go.st (T' := T2) (g' := (mkF m 9 #[rv eA, iv (Int32.ofNat r), .unset, .unset, .unset, .unset, .unset, .unset, .unset] [])) ?_ (fun _ kk_ => XS.iloadN X2.here hx rfl (hb hby dall_4) rfl  (own_aaload X2 hx hZ e2 I0.chd.2.ary rfl (i := r) (v := .null) ((own_two D.hr hr ov).trans (congrArg (fun z => some (ov z)) q3)) rfl rfl rfl (hb hby dall_5) (XS.ifnonnullNo X2.here hx rfl (hb hby dall_6) rfl kk_)))
    obtain ⟨T3, X3, e3, st3⟩ := getS2 X2 hx hZ hown (host := "") (Or.inl (hw _ (List.mem_of_getElem? (i := 88) rfl))) Via.refl e2 (Sn.ext O0.2) (g := (mkF m 9 #[rv eA, iv (Int32.ofNat r), .unset, .unset, .unset, .unset, .unset, .unset, .unset] [])) rfl (hb hby dall_9)
    refine Go.st (T' := T3) (g' := (mkF m 12 #[rv eA, iv (Int32.ofNat r), .unset, .unset, .unset, .unset, .unset, .unset, .unset] [(.ref nA)])) ?_ st3
    have hk0 : (keysOf (D.H r) (D.R r)) = [] := by rw [(PP.hn r qa1).2.2]; rfl
    refine Go.retA X3 hx hlk hret rfl rfl (hb hby dall_12) (by decide) (by decide) ?_
    try rw [e3]
    exact ⟨nA, fun _ => 0, rfl, N0, K0, by rw [hk0]; exact Vn.ext O0.2, fun p_ x_ z => by rw [hk0] at z; exact absurd z (Nat.not_lt_zero _)⟩
  ·
    obtain ⟨E4, Fn4, Fs4, Fo4, Fh4, Fc4⟩ := I0.ent (eA := eA) hE
    refine Go.st (T' := s₁) (g' := (mkF m 1 #[rv eA, iv (Int32.ofNat r), .unset, .unset, .unset, .unset, .unset, .unset, .unset] [(.ref eA)])) ?_ (fun _ kk_ => XS.aloadN X0.here hx rfl (hb hby dall_0) rfl rfl  kk_)
    obtain ⟨T5, X5, e5, st5⟩ := getF X0 hx hZ hown (host := "") (Or.inl (hw _ (List.mem_of_getElem? (i := 19) rfl))) Via.refl e0 Fh4 (g := (mkF m 1 #[rv eA, iv (Int32.ofNat r), .unset, .unset, .unset, .unset, .unset, .unset, .unset] [(.ref eA)])) rfl rfl (hb hby dall_1)
    refine Go.st (T' := T5) (g' := (mkF m 4 #[rv eA, iv (Int32.ofNat r), .unset, .unset, .unset, .unset, .unset, .unset, .unset] [(.ref D.hd)])) ?_ st5
    refine Go.st (T' := T5) (g' := (mkF m 15 #[rv eA, iv (Int32.ofNat r), .unset, .unset, .unset, .unset, .unset, .unset, .unset] [(.ref eA), (.int (2 : Int32))])) ?_ (fun _ kk_ => XS.iloadN X5.here hx rfl (hb hby dall_4) rfl  (own_aaload X5 hx hZ e5 I0.chd.2.ary rfl (i := r) (v := (.ref x3)) ((own_two D.hr hr ov).trans (congrArg (fun z => some (ov z)) q3)) rfl rfl rfl (hb hby dall_5) (XS.ifnonnullYes X5.here hx rfl (pc0 := 6) (pc' := 13) rfl (hb hby dall_6) rfl (by decide) (by decide) (XS.iconst X5.here hx rfl (hb hby dall_13) (XS.aloadN X5.here hx rfl (hb hby dall_14) rfl rfl  kk_)))))
    obtain ⟨T6, X6, e6, st6⟩ := getF X5 hx hZ hown (host := "") (Or.inl (hw _ (List.mem_of_getElem? (i := 22) rfl))) Via.refl e5 Fc4 (g := (mkF m 15 #[rv eA, iv (Int32.ofNat r), .unset, .unset, .unset, .unset, .unset, .unset, .unset] [(.ref eA), (.int (2 : Int32))])) rfl rfl (hb hby dall_15)
    refine Go.st (T' := T6) (g' := (mkF m 18 #[rv eA, iv (Int32.ofNat r), .unset, .unset, .unset, .unset, .unset, .unset, .unset] [(.ref D.ct), (.int (2 : Int32))])) ?_ st6
    refine Go.st (T' := T6) (g' := (mkF m 21 #[rv eA, iv (Int32.ofNat r), .unset, .unset, .unset, .unset, .unset, .unset, .unset] [(.int ((2 : Int32) * (Int32.ofNat (D.cn r))))])) ?_ (fun _ kk_ => XS.iloadN X6.here hx rfl (hb hby dall_18) rfl  (own_iaload X6 hx hZ e6 (I0.cct).2 (i := r) (v := (.int (Int32.ofNat (D.cn r)))) (own_two D.cn hr (fun z => .int (Int32.ofNat z))) rfl rfl rfl (hb hby dall_19) (XS.imul X6.here hx rfl (hb hby dall_20) rfl kk_)))
    rw [show (2 : Int32) * Int32.ofNat (D.cn r) = Int32.ofNat (2 * (D.cn r)) from (Int32.ofNat_mul 2 (D.cn r)).symm]
    show Go p e below _ T6 (mkF m 21 #[rv eA, iv (Int32.ofNat r), .unset, .unset, .unset, .unset, .unset, .unset, .unset] [(.int (Int32.ofNat (2 * (D.cn r))))])
    refine Go.newP X6 hx hZ (aty := .int) (hw _ (List.mem_of_getElem? (i := 21) rfl)) e6 rfl (hb hby dall_21) (n := (2 * (D.cn r))) rfl rfl 8 (by omega) (by decide) (by decide) (by decide) ?_
    intro T7 h7 b7 X7 e7 E7 g7 V7
    have ne_eA_b7 : eA ≠ b7 := Nat.ne_of_lt (Nat.lt_of_lt_of_eq (E4).lt g7.symm)
    have ne_D_bS_b7 : D.bS ≠ b7 := Nat.ne_of_lt (Nat.lt_of_lt_of_eq (I0.cbS.2.ary).lt g7.symm)
    have ne_D_bO_b7 : D.bO ≠ b7 := Nat.ne_of_lt (Nat.lt_of_lt_of_eq (I0.cbO.2.ary).lt g7.symm)
    have ne_D_hd_b7 : D.hd ≠ b7 := Nat.ne_of_lt (Nat.lt_of_lt_of_eq (I0.chd.2.ary).lt g7.symm)
    have ne_D_ct_b7 : D.ct ≠ b7 := Nat.ne_of_lt (Nat.lt_of_lt_of_eq ((I0.cct).2).lt g7.symm)
    have g_b7 : n0 ≤ b7 := Nat.le_trans Z0 (Nat.le_of_eq g7.symm)
    have sz_b7 : h0.size ≤ b7 := Nat.le_trans K0.1 (Nat.le_of_eq g7.symm)
    have O8 := O0.ext E7
    have Z9 : n0 ≤ h7.size := Nat.le_trans Z0 E7.1
    have K10 : Keep h0 h7 ([] : List Addr) := K0.ext E7
    change Ary Z h7 b7 .int (List.replicate (2 * (D.cn r)) (.int 0)) at V7
    show Go p e below _ T7 (mkF m 23 #[rv eA, iv (Int32.ofNat r), .unset, .unset, .unset, .unset, .unset, .unset, .unset] [(.ref b7)])
    rw [IL_rep] at V7
    refine Go.st (T' := T7) (g' := (mkF m 27 #[rv eA, iv (Int32.ofNat r), rv b7, iv (0 : Int32), .unset, .unset, .unset, .unset, .unset] [(.ref eA)])) ?_ (fun _ kk_ => XS.astoreN X7.here hx rfl (hb hby dall_23) rfl rfl (l' := #[rv eA, iv (Int32.ofNat r), rv b7, .unset, .unset, .unset, .unset, .unset, .unset]) rfl (XS.iconst X7.here hx rfl (hb hby dall_24) (XS.istoreN X7.here hx rfl (hb hby dall_25) rfl (l' := #[rv eA, iv (Int32.ofNat r), rv b7, iv (0 : Int32), .unset, .unset, .unset, .unset, .unset]) rfl (XS.aloadN X7.here hx rfl (hb hby dall_26) rfl rfl  kk_))))
    have f11 := (Fh4.ext E7)
    obtain ⟨T12, X12, e12, st12⟩ := getF X7 hx hZ hown (host := "") (Or.inl (hw _ (List.mem_of_getElem? (i := 19) rfl))) Via.refl e7 f11 (g := (mkF m 27 #[rv eA, iv (Int32.ofNat r), rv b7, iv (0 : Int32), .unset, .unset, .unset, .unset, .unset] [(.ref eA)])) rfl rfl (hb hby dall_27)
    refine Go.st (T' := T12) (g' := (mkF m 30 #[rv eA, iv (Int32.ofNat r), rv b7, iv (0 : Int32), .unset, .unset, .unset, .unset, .unset] [(.ref D.hd)])) ?_ st12
    refine Go.st (T' := T12) (g' := (mkF m 37 #[rv eA, iv (Int32.ofNat r), rv b7, iv (0 : Int32), rv x3, iv (0 : Int32), .unset, .unset, .unset] [])) ?_ (fun _ kk_ => XS.iloadN X12.here hx rfl (hb hby dall_30) rfl  (own_aaload X12 hx hZ e12 (I0.keepNew K10).chd.2.ary rfl (i := r) (v := (.ref x3)) ((own_two D.hr hr ov).trans (congrArg (fun z => some (ov z)) q3)) rfl rfl rfl (hb hby dall_31) (XS.astore X12.here hx rfl (hb hby dall_32) rfl rfl (l' := #[rv eA, iv (Int32.ofNat r), rv b7, iv (0 : Int32), rv x3, .unset, .unset, .unset, .unset]) rfl (XS.iconst X12.here hx rfl (hb hby dall_34) (XS.istore X12.here hx rfl (hb hby dall_35) rfl (l' := #[rv eA, iv (Int32.ofNat r), rv b7, iv (0 : Int32), rv x3, iv (0 : Int32), .unset, .unset, .unset]) rfl kk_)))))
    obtain ⟨hl, hhl⟩ : ∃ hl, hl = D.H r := ⟨_, rfl⟩
    have outer : ∀ (rr i : Nat) (T : State) (h : Heap) (locs : List Loc) (g : Nat → Int32) (s6 s7 s8 : Slot), i + rr = (D.H r).length → Stand p l e ({ frames := 0, cells := 1, slots := 8, locals := 0 } : Room) s m #[(.ref eA), (.int (Int32.ofNat r))] below meth c T locs 1 8 → T.heap = h → Fr n0 locs → Keep h0 h [] → n0 ≤ h.size → Ary Z h b7 .int (IL (2 * (D.cn r)) g) → (∀ p_ x_, p_ < (cntR (D.R r) ((D.H r).take i)) → (keysOf (D.H r) (D.R r))[p_]? = some x_ → g (2 * p_) = Int32.ofNat (x_ / 8) ∧ g (2 * p_ + 1) = Int32.ofNat (x_ % 8)) → One s6 → One s7 → One s8 → Go p e below (Wf s 1 8 (fun v h L => ∃ a g, v = some (.ref a) ∧ Fr n0 L ∧ Keep h0 h [] ∧ Ary Z h a .int (IL (2 * (keysOf (D.H r) (D.R r)).length) g) ∧ ∀ p_ x_, p_ < (keysOf (D.H r) (D.R r)).length → (keysOf (D.H r) (D.R r))[p_]? = some x_ → g (2 * p_) = Int32.ofNat (x_ / 8) ∧ g (2 * p_ + 1) = Int32.ofNat (x_ % 8))) T (mkF m 37 #[rv eA, iv (Int32.ofNat r), rv b7, iv (Int32.ofNat (2 * (cntR (D.R r) ((D.H r).take i)))), rv x3, iv (Int32.ofNat i), s6, s7, s8] []) := by
      intro rr
      induction rr with
      | zero =>
        intro i T h locs g s6 s7 s8 hi X e1 NA KA ZA VB hg hs6 hs7 hs8
        have IA := I0.keepNew KA
        obtain ⟨f, ⟨ids, r1, r2, E3, Fi, Fs, Vi, hru⟩, hf⟩ := IA.chr r x3 q3
        have hH4 := PP.H3 r
        refine Go.st (T' := T) (g' := (mkF m 116 #[rv eA, iv (Int32.ofNat r), rv b7, iv (Int32.ofNat (2 * (cntR (D.R r) ((D.H r).take i)))), rv x3, iv (Int32.ofNat i), s6, s7, s8] [(.ref b7)])) ?_ (fun _ kk_ => XS.iload X.here hx rfl (hb hby dall_37) rfl  (XS.aload X.here hx rfl (hb hby dall_39) rfl rfl  (own_getRef X hx hZ hown (hw _ (List.mem_of_getElem? (i := 72) rfl)) e1 Fs rfl rfl (hb hby dall_41) (XS.icmpYes X.here hx rfl (pc0 := 44) (pc' := 115) rfl (hb hby dall_44) rfl (flt ((fun z => by have := (own_lt (by omega) (by omega)).mp z; omega) : ¬ ((Int32.ofNat i) < (Int32.ofNat (D.H r).length)))).2.1 (by decide) (by decide) (XS.aloadN X.here hx rfl (hb hby dall_115) rfl rfl  kk_)))))
        have hall : (cntR (D.R r) ((D.H r).take i)) = (keysOf (D.H r) (D.R r)).length := by rw [keysOf_len, List.take_of_length_le (by omega)]
        refine Go.retA X hx hlk hret rfl rfl (hb hby dall_116) (by decide) (by decide) ?_
        try rw [e1]
        exact ⟨b7, g, rfl, NA, KA, by rw [← hcl]; exact VB, by rw [← hall]; exact hg⟩
      | succ rr ih =>
        intro i T h locs g s6 s7 s8 hi X e1 NA KA ZA VB hg hs6 hs7 hs8
        have IA := I0.keepNew KA
        obtain ⟨f, ⟨ids, r1, r2, E3, Fi, Fs, Vi, hru⟩, hf⟩ := IA.chr r x3 q3
        have hH4 := PP.H3 r
        refine Go.st (T' := T) (g' := (mkF m 44 #[rv eA, iv (Int32.ofNat r), rv b7, iv (Int32.ofNat (2 * (cntR (D.R r) ((D.H r).take i)))), rv x3, iv (Int32.ofNat i), s6, s7, s8] [(.int (Int32.ofNat (D.H r).length)), (.int (Int32.ofNat i))])) ?_ (fun _ kk_ => XS.iload X.here hx rfl (hb hby dall_37) rfl  (XS.aload X.here hx rfl (hb hby dall_39) rfl rfl  (own_getRef X hx hZ hown (hw _ (List.mem_of_getElem? (i := 72) rfl)) e1 Fs rfl rfl (hb hby dall_41) kk_)))
        have hin : i < (D.H r).length := by omega
        refine Go.st (T' := T) (g' := (mkF m 54 #[rv eA, iv (Int32.ofNat r), rv b7, iv (Int32.ofNat (2 * (cntR (D.R r) ((D.H r).take i)))), rv x3, iv (Int32.ofNat i), s6, s7, s8] [(.int (Int32.ofNat i)), (.ref ids)])) ?_ (fun _ kk_ => XS.icmpNo X.here hx rfl (hb hby dall_44) rfl (tlt (((own_lt (by omega) (by omega)).mpr hin) : (Int32.ofNat i) < (Int32.ofNat (D.H r).length))).2.1 (XS.aload X.here hx rfl (hb hby dall_47) rfl rfl  (own_getRef X hx hZ hown (hw _ (List.mem_of_getElem? (i := 73) rfl)) e1 Fi rfl rfl (hb hby dall_49) (XS.iload X.here hx rfl (hb hby dall_52) rfl  kk_))))
        have hsi := List.getElem?_eq_getElem hin
        obtain ⟨sj, hs⟩ : ∃ sj, sj = (D.H r)[i] := ⟨_, rfl⟩
        rw [← hs] at hsi
        have hsm : sj ∈ D.H r := List.mem_of_getElem? hsi
        have hs8_ := PP.H2 r sj hsm
        refine Go.st (T' := T) (g' := (mkF m 57 #[rv eA, iv (Int32.ofNat r), rv b7, iv (Int32.ofNat (2 * (cntR (D.R r) ((D.H r).take i)))), rv x3, iv (Int32.ofNat i), iv (Int32.ofNat sj), s7, s8] [])) ?_ (fun _ kk_ => own_iaload X hx hZ e1 Vi (i := i) (v := (.int (Int32.ofNat sj))) ((IL_at (by omega)).trans (congrArg (fun z => some (Value.int z)) (hf i sj hsi))) rfl rfl rfl (hb hby dall_54) (XS.istore X.here hx rfl (hb hby dall_55) rfl (l' := #[rv eA, iv (Int32.ofNat r), rv b7, iv (Int32.ofNat (2 * (cntR (D.R r) ((D.H r).take i)))), rv x3, iv (Int32.ofNat i), iv (Int32.ofNat sj), s7, s8]) (by rcases hs6 with rfl | ⟨w, rfl, hw_⟩ <;> first | rfl | (cases w <;> first | rfl | (simp [Value.category] at hw_))) kk_))
        cases q7 : D.rS r sj with
        | none => exact absurd q7 ((PP.hx r sj hs8_).mpr hsm)
        | some x7 =>
          obtain ⟨E13, Fn13, Fs13, Fo13, Fh13, Fc13⟩ := IA.ent (eA := eA) hE
          refine Go.st (T' := T) (g' := (mkF m 58 #[rv eA, iv (Int32.ofNat r), rv b7, iv (Int32.ofNat (2 * (cntR (D.R r) ((D.H r).take i)))), rv x3, iv (Int32.ofNat i), iv (Int32.ofNat sj), s7, s8] [(.ref eA)])) ?_ (fun _ kk_ => XS.aloadN X.here hx rfl (hb hby dall_57) rfl rfl  kk_)
          obtain ⟨T14, X14, e14, st14⟩ := getF X hx hZ hown (host := "") (Or.inl (hw _ (List.mem_of_getElem? (i := 13) rfl))) Via.refl e1 Fs13 (g := (mkF m 58 #[rv eA, iv (Int32.ofNat r), rv b7, iv (Int32.ofNat (2 * (cntR (D.R r) ((D.H r).take i)))), rv x3, iv (Int32.ofNat i), iv (Int32.ofNat sj), s7, s8] [(.ref eA)])) rfl rfl (hb hby dall_58)
          refine Go.st (T' := T14) (g' := (mkF m 61 #[rv eA, iv (Int32.ofNat r), rv b7, iv (Int32.ofNat (2 * (cntR (D.R r) ((D.H r).take i)))), rv x3, iv (Int32.ofNat i), iv (Int32.ofNat sj), s7, s8] [(.ref D.bS)])) ?_ st14
          refine Go.st (T' := T14) (g' := (mkF m 71 #[rv eA, iv (Int32.ofNat r), rv b7, iv (Int32.ofNat (2 * (cntR (D.R r) ((D.H r).take i)))), rv x3, iv (Int32.ofNat i), iv (Int32.ofNat sj), rv x7, iv (0 : Int32)] [])) ?_ (fun _ kk_ => XS.iloadN X14.here hx rfl (hb hby dall_61) rfl  (own_aaload X14 hx hZ e14 IA.cbS.2.ary rfl (i := r) (v := (.ref a1)) ((own_two D.aS hr ov).trans (congrArg (fun z => some (ov z)) qa1)) rfl rfl rfl (hb hby dall_62) (XS.iload X14.here hx rfl (hb hby dall_63) rfl  (own_aaload X14 hx hZ e14 (IA.caS r a1 qa1).2.2.ary rfl (i := sj) (v := (.ref x7)) ((own_eight hs8_).trans (congrArg (fun z => some (ov z)) q7)) rfl rfl rfl (hb hby dall_65) (XS.astore X14.here hx rfl (hb hby dall_66) rfl rfl (l' := #[rv eA, iv (Int32.ofNat r), rv b7, iv (Int32.ofNat (2 * (cntR (D.R r) ((D.H r).take i)))), rv x3, iv (Int32.ofNat i), iv (Int32.ofNat sj), rv x7, s8]) (by rcases hs7 with rfl | ⟨w, rfl, hw_⟩ <;> first | rfl | (cases w <;> first | rfl | (simp [Value.category] at hw_))) (XS.iconst X14.here hx rfl (hb hby dall_68) (XS.istore X14.here hx rfl (hb hby dall_69) rfl (l' := #[rv eA, iv (Int32.ofNat r), rv b7, iv (Int32.ofNat (2 * (cntR (D.R r) ((D.H r).take i)))), rv x3, iv (Int32.ofNat i), iv (Int32.ofNat sj), rv x7, iv (0 : Int32)]) (by rcases hs8 with rfl | ⟨w, rfl, hw_⟩ <;> first | rfl | (cases w <;> first | rfl | (simp [Value.category] at hw_))) kk_)))))))
          have hR4 := PP.R3 r sj
          have inner : ∀ (rr j : Nat) (T : State) (h : Heap) (locs : List Loc) (g : Nat → Int32), j + rr = (D.R r sj).length → Stand p l e ({ frames := 0, cells := 1, slots := 8, locals := 0 } : Room) s m #[(.ref eA), (.int (Int32.ofNat r))] below meth c T locs 1 8 → T.heap = h → Fr n0 locs → Keep h0 h [] → n0 ≤ h.size → Ary Z h b7 .int (IL (2 * (D.cn r)) g) → (∀ p_ x_, p_ < ((cntR (D.R r) ((D.H r).take i)) + j) → (keysOf (D.H r) (D.R r))[p_]? = some x_ → g (2 * p_) = Int32.ofNat (x_ / 8) ∧ g (2 * p_ + 1) = Int32.ofNat (x_ % 8)) → Go p e below (Wf s 1 8 (fun v h L => ∃ a g, v = some (.ref a) ∧ Fr n0 L ∧ Keep h0 h [] ∧ Ary Z h a .int (IL (2 * (keysOf (D.H r) (D.R r)).length) g) ∧ ∀ p_ x_, p_ < (keysOf (D.H r) (D.R r)).length → (keysOf (D.H r) (D.R r))[p_]? = some x_ → g (2 * p_) = Int32.ofNat (x_ / 8) ∧ g (2 * p_ + 1) = Int32.ofNat (x_ % 8))) T (mkF m 71 #[rv eA, iv (Int32.ofNat r), rv b7, iv (Int32.ofNat (2 * ((cntR (D.R r) ((D.H r).take i)) + j))), rv x3, iv (Int32.ofNat i), iv (Int32.ofNat sj), rv x7, iv (Int32.ofNat j)] []) := by
            intro rr
            induction rr with
            | zero =>
              intro j T h locs g hj X e1 NA KA ZA VB hg
              have IA := I0.keepNew KA
              obtain ⟨f, ⟨ids, r1, r2, E7, Fi, Fs, Vi, hru⟩, hf⟩ := IA.crS r sj x7 q7
              have hbF : h0.size ≤ b7 := sz_b7
              have ne_x7_b : x7 ≠ b7 := Nat.ne_of_lt (Nat.lt_of_lt_of_le (I0.lo x7 (fun z => absurd (r1.symm.trans z) (lbn rfl))).2 hbF)
              have ne_ids_b : ids ≠ b7 := Nat.ne_of_lt (Nat.lt_of_lt_of_le (I0.lo ids (fun z => absurd (r2.symm.trans z) (lbn rfl))).2 hbF)
              refine Go.st (T' := T) (g' := (mkF m 112 #[rv eA, iv (Int32.ofNat r), rv b7, iv (Int32.ofNat (2 * ((cntR (D.R r) ((D.H r).take i)) + j))), rv x3, iv ((Int32.ofNat i) + (1 : Int32)), iv (Int32.ofNat sj), rv x7, iv (Int32.ofNat j)] [])) ?_ (fun _ kk_ => XS.iload X.here hx rfl (hb hby dall_71) rfl  (XS.aload X.here hx rfl (hb hby dall_73) rfl rfl  (own_getRef X hx hZ hown (hw _ (List.mem_of_getElem? (i := 72) rfl)) e1 Fs rfl rfl (hb hby dall_75) (XS.icmpYes X.here hx rfl (pc0 := 78) (pc' := 109) rfl (hb hby dall_78) rfl (flt ((fun z => by have := (own_lt (by omega) (by omega)).mp z; omega) : ¬ ((Int32.ofNat j) < (Int32.ofNat (D.R r sj).length)))).2.1 (by decide) (by decide) (XS.iinc X.here hx rfl (hb hby dall_109) rfl (l' := #[rv eA, iv (Int32.ofNat r), rv b7, iv (Int32.ofNat (2 * ((cntR (D.R r) ((D.H r).take i)) + j))), rv x3, iv ((Int32.ofNat i) + (1 : Int32)), iv (Int32.ofNat sj), rv x7, iv (Int32.ofNat j)]) rfl kk_)))))
              rw [show Int32.ofNat i + (1 : Int32) = Int32.ofNat (i + 1) from own_add i 1]
              show Go p e below _ T (mkF m 112 #[rv eA, iv (Int32.ofNat r), rv b7, iv (Int32.ofNat (2 * ((cntR (D.R r) ((D.H r).take i)) + j))), rv x3, iv (Int32.ofNat (i + 1)), iv (Int32.ofNat sj), rv x7, iv (Int32.ofNat j)] [])
              refine Go.st (T' := T) (g' := (mkF m 37 #[rv eA, iv (Int32.ofNat r), rv b7, iv (Int32.ofNat (2 * ((cntR (D.R r) ((D.H r).take i)) + j))), rv x3, iv (Int32.ofNat (i + 1)), iv (Int32.ofNat sj), rv x7, iv (Int32.ofNat j)] [])) ?_ (fun _ kk_ => XS.goto X.here hx rfl (pc0 := 112) (pc' := 37) rfl (hb hby dall_112) (by decide) (by decide) kk_)
              have ecn : (cntR (D.R r) ((D.H r).take (i + 1))) = ((cntR (D.R r) ((D.H r).take i)) + j) := by rw [cntR_succ _ hsi]; omega
              have o1 := ih (i + 1) T h _ g (iv (Int32.ofNat sj)) (rv x7) (iv (Int32.ofNat j)) (by omega) X e1 NA KA ZA VB (by rw [ecn]; exact hg) (One.val rfl) (One.val rfl) (One.val rfl)
              rw [ecn] at o1
              exact o1
            | succ rr ih2 =>
              intro j T h locs g hj X e1 NA KA ZA VB hg
              have IA := I0.keepNew KA
              obtain ⟨f, ⟨ids, r1, r2, E7, Fi, Fs, Vi, hru⟩, hf⟩ := IA.crS r sj x7 q7
              have hbF : h0.size ≤ b7 := sz_b7
              have ne_x7_b : x7 ≠ b7 := Nat.ne_of_lt (Nat.lt_of_lt_of_le (I0.lo x7 (fun z => absurd (r1.symm.trans z) (lbn rfl))).2 hbF)
              have ne_ids_b : ids ≠ b7 := Nat.ne_of_lt (Nat.lt_of_lt_of_le (I0.lo ids (fun z => absurd (r2.symm.trans z) (lbn rfl))).2 hbF)
              refine Go.st (T' := T) (g' := (mkF m 78 #[rv eA, iv (Int32.ofNat r), rv b7, iv (Int32.ofNat (2 * ((cntR (D.R r) ((D.H r).take i)) + j))), rv x3, iv (Int32.ofNat i), iv (Int32.ofNat sj), rv x7, iv (Int32.ofNat j)] [(.int (Int32.ofNat (D.R r sj).length)), (.int (Int32.ofNat j))])) ?_ (fun _ kk_ => XS.iload X.here hx rfl (hb hby dall_71) rfl  (XS.aload X.here hx rfl (hb hby dall_73) rfl rfl  (own_getRef X hx hZ hown (hw _ (List.mem_of_getElem? (i := 72) rfl)) e1 Fs rfl rfl (hb hby dall_75) kk_)))
              have hjn : j < (D.R r sj).length := by omega
              refine Go.st (T' := T) (g' := (mkF m 81 #[rv eA, iv (Int32.ofNat r), rv b7, iv (Int32.ofNat (2 * ((cntR (D.R r) ((D.H r).take i)) + j))), rv x3, iv (Int32.ofNat i), iv (Int32.ofNat sj), rv x7, iv (Int32.ofNat j)] [])) ?_ (fun _ kk_ => XS.icmpNo X.here hx rfl (hb hby dall_78) rfl (tlt (((own_lt (by omega) (by omega)).mpr hjn) : (Int32.ofNat j) < (Int32.ofNat (D.R r sj).length))).2.1 kk_)
              have hoj := List.getElem?_eq_getElem hjn
              obtain ⟨o, ho⟩ : ∃ o, o = (D.R r sj)[j] := ⟨_, rfl⟩
              rw [← ho] at hoj
              have ho8 := PP.R2 r sj o (List.mem_of_getElem? hoj)
              have hpos := flat_lt (R := D.R r) hsi hjn
              have hkey := flat_at (D.R r) (fun s o => 8 * s + o) (D.H r) i j sj o hsi hoj
              have hcR := PP.hc r
              refine Go.st (T' := T) (g' := (mkF m 86 #[rv eA, iv (Int32.ofNat r), rv b7, iv ((Int32.ofNat (2 * ((cntR (D.R r) ((D.H r).take i)) + j))) + (1 : Int32)), rv x3, iv (Int32.ofNat i), iv (Int32.ofNat sj), rv x7, iv (Int32.ofNat j)] [(.int (Int32.ofNat (2 * ((cntR (D.R r) ((D.H r).take i)) + j)))), (.ref b7)])) ?_ (fun _ kk_ => XS.aloadN X.here hx rfl (hb hby dall_81) rfl rfl  (XS.iloadN X.here hx rfl (hb hby dall_82) rfl  (XS.iinc X.here hx rfl (hb hby dall_83) rfl (l' := #[rv eA, iv (Int32.ofNat r), rv b7, iv ((Int32.ofNat (2 * ((cntR (D.R r) ((D.H r).take i)) + j))) + (1 : Int32)), rv x3, iv (Int32.ofNat i), iv (Int32.ofNat sj), rv x7, iv (Int32.ofNat j)]) rfl kk_)))
              rw [show (Int32.ofNat (2 * ((cntR (D.R r) ((D.H r).take i)) + j))) + (1 : Int32) = Int32.ofNat (2 * ((cntR (D.R r) ((D.H r).take i)) + j) + 1) from own_add _ 1]
              show Go p e below _ T (mkF m 86 #[rv eA, iv (Int32.ofNat r), rv b7, iv (Int32.ofNat (2 * ((cntR (D.R r) ((D.H r).take i)) + j) + 1)), rv x3, iv (Int32.ofNat i), iv (Int32.ofNat sj), rv x7, iv (Int32.ofNat j)] [(.int (Int32.ofNat (2 * ((cntR (D.R r) ((D.H r).take i)) + j)))), (.ref b7)])
              refine Go.st (T' := T) (g' := (mkF m 88 #[rv eA, iv (Int32.ofNat r), rv b7, iv (Int32.ofNat (2 * ((cntR (D.R r) ((D.H r).take i)) + j) + 1)), rv x3, iv (Int32.ofNat i), iv (Int32.ofNat sj), rv x7, iv (Int32.ofNat j)] [(.int (Int32.ofNat sj)), (.int (Int32.ofNat (2 * ((cntR (D.R r) ((D.H r).take i)) + j)))), (.ref b7)])) ?_ (fun _ kk_ => XS.iload X.here hx rfl (hb hby dall_86) rfl  kk_)
              refine Go.iastore X hx hZ e1 VB (i := (2 * ((cntR (D.R r) ((D.H r).take i)) + j))) (by rw [IL_len]; omega) rfl rfl rfl (hb hby dall_88) ?_
              intro T15 h15 X15 e15 W15 V15
              have N16 := Fr.snoc X15 NA g_b7
              have K17 : Keep h0 h15 ([] : List Addr) := KA.wr W15 (Or.inr sz_b7)
              have Z18 : n0 ≤ h15.size := by rw [W15.size]; exact ZA
              show Go p e below _ T15 (mkF m 89 #[rv eA, iv (Int32.ofNat r), rv b7, iv (Int32.ofNat (2 * ((cntR (D.R r) ((D.H r).take i)) + j) + 1)), rv x3, iv (Int32.ofNat i), iv (Int32.ofNat sj), rv x7, iv (Int32.ofNat j)] [])
              rw [IL_set (by omega)] at V15
              refine Go.st (T' := T15) (g' := (mkF m 94 #[rv eA, iv (Int32.ofNat r), rv b7, iv ((Int32.ofNat (2 * ((cntR (D.R r) ((D.H r).take i)) + j) + 1)) + (1 : Int32)), rv x3, iv (Int32.ofNat i), iv (Int32.ofNat sj), rv x7, iv (Int32.ofNat j)] [(.int (Int32.ofNat (2 * ((cntR (D.R r) ((D.H r).take i)) + j) + 1))), (.ref b7)])) ?_ (fun _ kk_ => XS.aloadN X15.here hx rfl (hb hby dall_89) rfl rfl  (XS.iloadN X15.here hx rfl (hb hby dall_90) rfl  (XS.iinc X15.here hx rfl (hb hby dall_91) rfl (l' := #[rv eA, iv (Int32.ofNat r), rv b7, iv ((Int32.ofNat (2 * ((cntR (D.R r) ((D.H r).take i)) + j) + 1)) + (1 : Int32)), rv x3, iv (Int32.ofNat i), iv (Int32.ofNat sj), rv x7, iv (Int32.ofNat j)]) rfl kk_)))
              rw [show (Int32.ofNat (2 * ((cntR (D.R r) ((D.H r).take i)) + j) + 1)) + (1 : Int32) = Int32.ofNat (2 * ((cntR (D.R r) ((D.H r).take i)) + j) + 2) from own_add _ 1]
              show Go p e below _ T15 (mkF m 94 #[rv eA, iv (Int32.ofNat r), rv b7, iv (Int32.ofNat (2 * ((cntR (D.R r) ((D.H r).take i)) + j) + 2)), rv x3, iv (Int32.ofNat i), iv (Int32.ofNat sj), rv x7, iv (Int32.ofNat j)] [(.int (Int32.ofNat (2 * ((cntR (D.R r) ((D.H r).take i)) + j) + 1))), (.ref b7)])
              refine Go.st (T' := T15) (g' := (mkF m 96 #[rv eA, iv (Int32.ofNat r), rv b7, iv (Int32.ofNat (2 * ((cntR (D.R r) ((D.H r).take i)) + j) + 2)), rv x3, iv (Int32.ofNat i), iv (Int32.ofNat sj), rv x7, iv (Int32.ofNat j)] [(.ref x7), (.int (Int32.ofNat (2 * ((cntR (D.R r) ((D.H r).take i)) + j) + 1))), (.ref b7)])) ?_ (fun _ kk_ => XS.aload X15.here hx rfl (hb hby dall_94) rfl rfl  kk_)
              have f19 := (Fi.other W15 (Or.inl ne_x7_b))
              refine Go.st (T' := T15) (g' := (mkF m 101 #[rv eA, iv (Int32.ofNat r), rv b7, iv (Int32.ofNat (2 * ((cntR (D.R r) ((D.H r).take i)) + j) + 2)), rv x3, iv (Int32.ofNat i), iv (Int32.ofNat sj), rv x7, iv (Int32.ofNat j)] [(.int (Int32.ofNat j)), (.ref ids), (.int (Int32.ofNat (2 * ((cntR (D.R r) ((D.H r).take i)) + j) + 1))), (.ref b7)])) ?_ (fun _ kk_ => own_getRef X15 hx hZ hown (hw _ (List.mem_of_getElem? (i := 73) rfl)) e15 f19 rfl rfl (hb hby dall_96) (XS.iload X15.here hx rfl (hb hby dall_99) rfl  kk_))
              have f20 := (Vi.other W15 ne_ids_b)
              refine Go.st (T' := T15) (g' := (mkF m 102 #[rv eA, iv (Int32.ofNat r), rv b7, iv (Int32.ofNat (2 * ((cntR (D.R r) ((D.H r).take i)) + j) + 2)), rv x3, iv (Int32.ofNat i), iv (Int32.ofNat sj), rv x7, iv (Int32.ofNat j)] [(.int (Int32.ofNat o)), (.int (Int32.ofNat (2 * ((cntR (D.R r) ((D.H r).take i)) + j) + 1))), (.ref b7)])) ?_ (fun _ kk_ => own_iaload X15 hx hZ e15 f20 (i := j) (v := (.int (Int32.ofNat o))) ((IL_at (by omega)).trans (congrArg (fun z => some (Value.int z)) (hf j o hoj))) rfl rfl rfl (hb hby dall_101) kk_)
              refine Go.iastore X15 hx hZ e15 V15 (i := (2 * ((cntR (D.R r) ((D.H r).take i)) + j) + 1)) (by rw [IL_len]; omega) rfl rfl rfl (hb hby dall_102) ?_
              intro T21 h21 X21 e21 W21 V21
              have N22 := Fr.snoc X21 N16 g_b7
              have K23 : Keep h0 h21 ([] : List Addr) := K17.wr W21 (Or.inr sz_b7)
              have Z24 : n0 ≤ h21.size := by rw [W21.size]; exact Z18
              show Go p e below _ T21 (mkF m 103 #[rv eA, iv (Int32.ofNat r), rv b7, iv (Int32.ofNat (2 * ((cntR (D.R r) ((D.H r).take i)) + j) + 2)), rv x3, iv (Int32.ofNat i), iv (Int32.ofNat sj), rv x7, iv (Int32.ofNat j)] [])
              rw [IL_set (by omega)] at V21
              refine Go.st (T' := T21) (g' := (mkF m 106 #[rv eA, iv (Int32.ofNat r), rv b7, iv (Int32.ofNat (2 * ((cntR (D.R r) ((D.H r).take i)) + j) + 2)), rv x3, iv (Int32.ofNat i), iv (Int32.ofNat sj), rv x7, iv ((Int32.ofNat j) + (1 : Int32))] [])) ?_ (fun _ kk_ => XS.iinc X21.here hx rfl (hb hby dall_103) rfl (l' := #[rv eA, iv (Int32.ofNat r), rv b7, iv (Int32.ofNat (2 * ((cntR (D.R r) ((D.H r).take i)) + j) + 2)), rv x3, iv (Int32.ofNat i), iv (Int32.ofNat sj), rv x7, iv ((Int32.ofNat j) + (1 : Int32))]) rfl kk_)
              rw [show Int32.ofNat j + (1 : Int32) = Int32.ofNat (j + 1) from own_add j 1]
              show Go p e below _ T21 (mkF m 106 #[rv eA, iv (Int32.ofNat r), rv b7, iv (Int32.ofNat (2 * ((cntR (D.R r) ((D.H r).take i)) + j) + 2)), rv x3, iv (Int32.ofNat i), iv (Int32.ofNat sj), rv x7, iv (Int32.ofNat (j + 1))] [])
              refine Go.st (T' := T21) (g' := (mkF m 71 #[rv eA, iv (Int32.ofNat r), rv b7, iv (Int32.ofNat (2 * ((cntR (D.R r) ((D.H r).take i)) + j) + 2)), rv x3, iv (Int32.ofNat i), iv (Int32.ofNat sj), rv x7, iv (Int32.ofNat (j + 1))] [])) ?_ (fun _ kk_ => XS.goto X21.here hx rfl (pc0 := 106) (pc' := 71) rfl (hb hby dall_106) (by decide) (by decide) kk_)
              have hg2 : ∀ p_ x_, p_ < ((cntR (D.R r) ((D.H r).take i)) + (j + 1)) → (keysOf (D.H r) (D.R r))[p_]? = some x_ → (fun q => if q = 2 * ((cntR (D.R r) ((D.H r).take i)) + j) + 1 then Int32.ofNat o else if q = 2 * ((cntR (D.R r) ((D.H r).take i)) + j) then Int32.ofNat sj else g q) (2 * p_) = Int32.ofNat (x_ / 8) ∧ (fun q => if q = 2 * ((cntR (D.R r) ((D.H r).take i)) + j) + 1 then Int32.ofNat o else if q = 2 * ((cntR (D.R r) ((D.H r).take i)) + j) then Int32.ofNat sj else g q) (2 * p_ + 1) = Int32.ofNat (x_ % 8) := fun p_ x_ hp hx_ => by
                by_cases z : p_ = ((cntR (D.R r) ((D.H r).take i)) + j)
                · subst z
                  obtain rfl : 8 * sj + o = x_ := Option.some.inj (hkey.symm.trans hx_)
                  refine ⟨?_, ?_⟩
                  · show (if _ then _ else _) = _
                    rw [if_neg (by omega), if_pos rfl, show (8 * sj + o) / 8 = sj by omega]
                  · show (if _ then _ else _) = _
                    rw [if_pos rfl, show (8 * sj + o) % 8 = o by omega]
                · obtain ⟨z1, z2⟩ := hg p_ x_ (by omega) hx_
                  refine ⟨?_, ?_⟩
                  · show (if _ then _ else _) = _
                    rw [if_neg (by omega), if_neg (by omega)]; exact z1
                  · show (if _ then _ else _) = _
                    rw [if_neg (by omega), if_neg (by omega)]; exact z2
              exact ih2 (j + 1) T21 h21 _ (fun q => if q = 2 * ((cntR (D.R r) ((D.H r).take i)) + j) + 1 then Int32.ofNat o else if q = 2 * ((cntR (D.R r) ((D.H r).take i)) + j) then Int32.ofNat sj else g q) (by omega) X21 e21 N22 K23 Z24 V21 hg2
          have i0 := inner (D.R r sj).length 0 T14 h _ g (by omega) X14 e14 NA KA ZA VB (by rw [Nat.add_zero]; exact hg)
          rw [Nat.add_zero] at i0
          exact i0
    have o0 := outer (D.H r).length 0 T12 h7 _ (fun _ => 0) _ _ _ (by omega) X12 e12 N0 K10 Z9 V7 (fun p_ x_ z => absurd z (Nat.not_lt_zero p_)) One.u One.u One.u
    exact o0
theorem dmin_0 : decode jdk_29_method_69_code 0 = .ok (.iload_n 0, 1) := by decide +kernel
theorem dmin_1 : decode jdk_29_method_69_code 1 = .ok (.iload_n 1, 1) := by decide +kernel
theorem dmin_2 : decode jdk_29_method_69_code 2 = .ok (.if_icmp .gt 7, 3) := by decide +kernel
theorem dmin_5 : decode jdk_29_method_69_code 5 = .ok (.iload_n 0, 1) := by decide +kernel
theorem dmin_6 : decode jdk_29_method_69_code 6 = .ok (.goto 4, 3) := by decide +kernel
theorem dmin_9 : decode jdk_29_method_69_code 9 = .ok (.iload_n 1, 1) := by decide +kernel
theorem dmin_10 : decode jdk_29_method_69_code 10 = .ok (.ireturn, 1) := by decide +kernel
theorem pn_min : plainFor (⟨"java/lang/Math", "min", "(II)I"⟩ : MethodName) = true := by first | exact plainFor_of_name (by first | (simp [plainName, overriddenIn]; done) | decide +kernel) | decide +kernel
theorem ef_min (m : MethodId) (x0 : Int32) (x1 : Int32) : entryFrame m #[(.int x0), (.int x1)] 2 = mkF m 0 #[iv x0, iv x1] [] := by first | (simp [entryFrame, mkF, argsToLocals, Value.category]; done) | rfl
set_option maxRecDepth 65536 in
set_option maxHeartbeats 40000000 in
theorem rm_min (l : Launch) (Z : State) (a0 : Array Value) (hw : ∀ d ∈ tables_1, d.before a0 Z = true) (ws : List Jvm.Cond) (x y : Nat) (h0 : Heap) (hx_ : x ≤ 1000) (hy_ : y ≤ 1000) :
    Mt l Z (⟨"java/lang/Math", "min", "(II)I"⟩ : MethodName) jdk_29_method_69_code 2 (some .int) ws ({ frames := 0, cells := 0, slots := 0, locals := 0 } : Room) #[(.int (Int32.ofNat x)), (.int (Int32.ofNat y))] h0 (fun v h L => v = some (.int (Int32.ofNat (min x y))) ∧ h = h0 ∧ L = []) := by
  refine Mt.body pn_min ?_
  intro p e s m below meth c s₁ hx hby hml hown hnm hret hlk hZ X0 e0
  refine Go.cast (g' := (mkF m 0 #[iv (Int32.ofNat x), iv (Int32.ofNat y)] [])) (ef_min m (Int32.ofNat x) (Int32.ofNat y)) ?_
  have N0 := Fr.nil 0
  refine Go.st (T' := s₁) (g' := (mkF m 2 #[iv (Int32.ofNat x), iv (Int32.ofNat y)] [(.int (Int32.ofNat y)), (.int (Int32.ofNat x))])) ?_ (fun _ kk_ => XS.iloadN X0.here hx rfl (hb hby dmin_0) rfl  (XS.iloadN X0.here hx rfl (hb hby dmin_1) rfl  kk_))
  by_cases hc : (Int32.ofNat y) < (Int32.ofNat x)
  ·
    refine Go.st (T' := s₁) (g' := (mkF m 9 #[iv (Int32.ofNat x), iv (Int32.ofNat y)] [])) ?_ (fun _ kk_ => XS.icmpYes X0.here hx rfl (pc0 := 2) (pc' := 9) rfl (hb hby dmin_2) rfl (tlt (hc : (Int32.ofNat y) < (Int32.ofNat x))).2.2.1 (by decide) (by decide) kk_)
    have g1 : y < x := (own_lt (by omega) (by omega)).mp hc
    refine Go.st (T' := s₁) (g' := (mkF m 10 #[iv (Int32.ofNat x), iv (Int32.ofNat y)] [(.int (Int32.ofNat y))])) ?_ (fun _ kk_ => XS.iloadN X0.here hx rfl (hb hby dmin_9) rfl  kk_)
    refine Go.retI X0 hx hlk hret (hb hby dmin_10) (by decide) (by decide) ?_
    try rw [e0]
    exact ⟨by congr 3; omega, rfl, rfl⟩
  ·
    refine Go.st (T' := s₁) (g' := (mkF m 5 #[iv (Int32.ofNat x), iv (Int32.ofNat y)] [])) ?_ (fun _ kk_ => XS.icmpNo X0.here hx rfl (hb hby dmin_2) rfl (flt (hc : ¬ ((Int32.ofNat y) < (Int32.ofNat x)))).2.2.1 kk_)
    have g1 : ¬ y < x := fun z => hc ((own_lt (by omega) (by omega)).mpr z)
    refine Go.st (T' := s₁) (g' := (mkF m 10 #[iv (Int32.ofNat x), iv (Int32.ofNat y)] [(.int (Int32.ofNat x))])) ?_ (fun _ kk_ => XS.iloadN X0.here hx rfl (hb hby dmin_5) rfl  (XS.goto X0.here hx rfl (pc0 := 6) (pc' := 10) rfl (hb hby dmin_6) (by decide) (by decide) kk_))
    refine Go.retI X0 hx hlk hret (hb hby dmin_10) (by decide) (by decide) ?_
    try rw [e0]
    exact ⟨by congr 3; omega, rfl, rfl⟩
theorem dmax_0 : decode jdk_29_method_65_code 0 = .ok (.iload_n 0, 1) := by decide +kernel
theorem dmax_1 : decode jdk_29_method_65_code 1 = .ok (.iload_n 1, 1) := by decide +kernel
theorem dmax_2 : decode jdk_29_method_65_code 2 = .ok (.if_icmp .lt 7, 3) := by decide +kernel
theorem dmax_5 : decode jdk_29_method_65_code 5 = .ok (.iload_n 0, 1) := by decide +kernel
theorem dmax_6 : decode jdk_29_method_65_code 6 = .ok (.goto 4, 3) := by decide +kernel
theorem dmax_9 : decode jdk_29_method_65_code 9 = .ok (.iload_n 1, 1) := by decide +kernel
theorem dmax_10 : decode jdk_29_method_65_code 10 = .ok (.ireturn, 1) := by decide +kernel
theorem pn_max : plainFor (⟨"java/lang/Math", "max", "(II)I"⟩ : MethodName) = true := by first | exact plainFor_of_name (by first | (simp [plainName, overriddenIn]; done) | decide +kernel) | decide +kernel
theorem ef_max (m : MethodId) (x0 : Int32) (x1 : Int32) : entryFrame m #[(.int x0), (.int x1)] 2 = mkF m 0 #[iv x0, iv x1] [] := by first | (simp [entryFrame, mkF, argsToLocals, Value.category]; done) | rfl
set_option maxRecDepth 65536 in
set_option maxHeartbeats 40000000 in
theorem rm_max (l : Launch) (Z : State) (a0 : Array Value) (hw : ∀ d ∈ tables_1, d.before a0 Z = true) (ws : List Jvm.Cond) (x y : Nat) (h0 : Heap) (hx_ : x ≤ 1000) (hy_ : y ≤ 1000) :
    Mt l Z (⟨"java/lang/Math", "max", "(II)I"⟩ : MethodName) jdk_29_method_65_code 2 (some .int) ws ({ frames := 0, cells := 0, slots := 0, locals := 0 } : Room) #[(.int (Int32.ofNat x)), (.int (Int32.ofNat y))] h0 (fun v h L => v = some (.int (Int32.ofNat (max x y))) ∧ h = h0 ∧ L = []) := by
  refine Mt.body pn_max ?_
  intro p e s m below meth c s₁ hx hby hml hown hnm hret hlk hZ X0 e0
  refine Go.cast (g' := (mkF m 0 #[iv (Int32.ofNat x), iv (Int32.ofNat y)] [])) (ef_max m (Int32.ofNat x) (Int32.ofNat y)) ?_
  have N0 := Fr.nil 0
  refine Go.st (T' := s₁) (g' := (mkF m 2 #[iv (Int32.ofNat x), iv (Int32.ofNat y)] [(.int (Int32.ofNat y)), (.int (Int32.ofNat x))])) ?_ (fun _ kk_ => XS.iloadN X0.here hx rfl (hb hby dmax_0) rfl  (XS.iloadN X0.here hx rfl (hb hby dmax_1) rfl  kk_))
  by_cases hc : (Int32.ofNat x) < (Int32.ofNat y)
  ·
    refine Go.st (T' := s₁) (g' := (mkF m 9 #[iv (Int32.ofNat x), iv (Int32.ofNat y)] [])) ?_ (fun _ kk_ => XS.icmpYes X0.here hx rfl (pc0 := 2) (pc' := 9) rfl (hb hby dmax_2) rfl (tlt (hc : (Int32.ofNat x) < (Int32.ofNat y))).1 (by decide) (by decide) kk_)
    have g1 : x < y := (own_lt (by omega) (by omega)).mp hc
    refine Go.st (T' := s₁) (g' := (mkF m 10 #[iv (Int32.ofNat x), iv (Int32.ofNat y)] [(.int (Int32.ofNat y))])) ?_ (fun _ kk_ => XS.iloadN X0.here hx rfl (hb hby dmax_9) rfl  kk_)
    refine Go.retI X0 hx hlk hret (hb hby dmax_10) (by decide) (by decide) ?_
    try rw [e0]
    exact ⟨by congr 3; omega, rfl, rfl⟩
  ·
    refine Go.st (T' := s₁) (g' := (mkF m 5 #[iv (Int32.ofNat x), iv (Int32.ofNat y)] [])) ?_ (fun _ kk_ => XS.icmpNo X0.here hx rfl (hb hby dmax_2) rfl (flt (hc : ¬ ((Int32.ofNat x) < (Int32.ofNat y)))).1 kk_)
    have g1 : ¬ x < y := fun z => hc ((own_lt (by omega) (by omega)).mpr z)
    refine Go.st (T' := s₁) (g' := (mkF m 10 #[iv (Int32.ofNat x), iv (Int32.ofNat y)] [(.int (Int32.ofNat x))])) ?_ (fun _ kk_ => XS.iloadN X0.here hx rfl (hb hby dmax_5) rfl  (XS.goto X0.here hx rfl (pc0 := 6) (pc' := 10) rfl (hb hby dmax_6) (by decide) (by decide) kk_))
    refine Go.retI X0 hx hlk hret (hb hby dmax_10) (by decide) (by decide) ?_
    try rw [e0]
    exact ⟨by congr 3; omega, rfl, rfl⟩
theorem dkey_0 : decode method_3_code 0 = .ok (.iload_n 0, 1) := by decide +kernel
theorem dkey_1 : decode method_3_code 1 = .ok (.iconst 1, 1) := by decide +kernel
theorem dkey_2 : decode method_3_code 2 = .ok (.iand, 1) := by decide +kernel
theorem dkey_3 : decode method_3_code 3 = .ok (.iload_n 1, 1) := by decide +kernel
theorem dkey_4 : decode method_3_code 4 = .ok (.if_icmp .ne 20, 3) := by decide +kernel
theorem dkey_7 : decode method_3_code 7 = .ok (.iload_n 0, 1) := by decide +kernel
theorem dkey_8 : decode method_3_code 8 = .ok (.iconst 1, 1) := by decide +kernel
theorem dkey_9 : decode method_3_code 9 = .ok (.ishr, 1) := by decide +kernel
theorem dkey_10 : decode method_3_code 10 = .ok (.bipush 7, 2) := by decide +kernel
theorem dkey_12 : decode method_3_code 12 = .ok (.iand, 1) := by decide +kernel
theorem dkey_13 : decode method_3_code 13 = .ok (.bipush 8, 2) := by decide +kernel
theorem dkey_15 : decode method_3_code 15 = .ok (.imul, 1) := by decide +kernel
theorem dkey_16 : decode method_3_code 16 = .ok (.iload_n 0, 1) := by decide +kernel
theorem dkey_17 : decode method_3_code 17 = .ok (.iconst 4, 1) := by decide +kernel
theorem dkey_18 : decode method_3_code 18 = .ok (.ishr, 1) := by decide +kernel
theorem dkey_19 : decode method_3_code 19 = .ok (.bipush 7, 2) := by decide +kernel
theorem dkey_21 : decode method_3_code 21 = .ok (.iand, 1) := by decide +kernel
theorem dkey_22 : decode method_3_code 22 = .ok (.iadd, 1) := by decide +kernel
theorem dkey_23 : decode method_3_code 23 = .ok (.ireturn, 1) := by decide +kernel
theorem dkey_24 : decode method_3_code 24 = .ok (.sipush 1000, 3) := by decide +kernel
theorem dkey_27 : decode method_3_code 27 = .ok (.ireturn, 1) := by decide +kernel
theorem pn_key : plainFor (⟨"com/example/rhadamanthus/rhadamanthus/analysis/EntriesAllPinLaw", "key", "(II)I"⟩ : MethodName) = true := by first | exact plainFor_of_name (by first | (simp [plainName, overriddenIn]; done) | decide +kernel) | decide +kernel
theorem ef_key (m : MethodId) (x0 : Int32) (x1 : Int32) : entryFrame m #[(.int x0), (.int x1)] 2 = mkF m 0 #[iv x0, iv x1] [] := by first | (simp [entryFrame, mkF, argsToLocals, Value.category]; done) | rfl
set_option maxRecDepth 65536 in
set_option maxHeartbeats 40000000 in
theorem rm_key (l : Launch) (Z : State) (a0 : Array Value) (hw : ∀ d ∈ tables_1, d.before a0 Z = true) (ws : List Jvm.Cond) (p_ : Int32) (ρ sj oj r : Nat) (h0 : Heap) (hρ : ρ < 2) (hr : r < 2) (hs : sj < 8) (ho : oj < 8) (e1 : p_ &&& (1 : Int32) = Int32.ofNat ρ) (e2 : (p_ >>> ((1 : Int32) &&& 31)) &&& (7 : Int32) = Int32.ofNat sj) (e3 : (p_ >>> ((4 : Int32) &&& 31)) &&& (7 : Int32) = Int32.ofNat oj) :
    Mt l Z (⟨"com/example/rhadamanthus/rhadamanthus/analysis/EntriesAllPinLaw", "key", "(II)I"⟩ : MethodName) method_3_code 2 (some .int) ws ({ frames := 0, cells := 0, slots := 0, locals := 0 } : Room) #[(.int p_), (.int (Int32.ofNat r))] h0 (fun v h L => v = some (.int (Int32.ofNat (if ρ = r then 8 * sj + oj else 1000))) ∧ h = h0 ∧ L = []) := by
  refine Mt.body pn_key ?_
  intro p e s m below meth c s₁ hx hby hml hown hnm hret hlk hZ X0 e0
  refine Go.cast (g' := (mkF m 0 #[iv p_, iv (Int32.ofNat r)] [])) (ef_key m p_ (Int32.ofNat r)) ?_
  have N0 := Fr.nil 0
  refine Go.st (T' := s₁) (g' := (mkF m 3 #[iv p_, iv (Int32.ofNat r)] [(.int (p_ &&& (1 : Int32)))])) ?_ (fun _ kk_ => XS.iloadN X0.here hx rfl (hb hby dkey_0) rfl  (XS.iconst X0.here hx rfl (hb hby dkey_1) (XS.iand X0.here hx rfl (hb hby dkey_2) rfl kk_)))
  rw [e1]
  show Go p e below _ s₁ (mkF m 3 #[iv p_, iv (Int32.ofNat r)] [(.int (Int32.ofNat ρ))])
  refine Go.st (T' := s₁) (g' := (mkF m 4 #[iv p_, iv (Int32.ofNat r)] [(.int (Int32.ofNat r)), (.int (Int32.ofNat ρ))])) ?_ (fun _ kk_ => XS.iloadN X0.here hx rfl (hb hby dkey_3) rfl  kk_)
  by_cases hc : (Int32.ofNat ρ) = (Int32.ofNat r)
  ·
    refine Go.st (T' := s₁) (g' := (mkF m 7 #[iv p_, iv (Int32.ofNat r)] [])) ?_ (fun _ kk_ => XS.icmpNo X0.here hx rfl (hb hby dkey_4) rfl (teq (hc : (Int32.ofNat ρ) = (Int32.ofNat r))).2 kk_)
    have g1 : ρ = r := (own_eq (by omega) (by omega)).mp hc
    refine Go.st (T' := s₁) (g' := (mkF m 13 #[iv p_, iv (Int32.ofNat r)] [(.int ((p_ >>> ((1 : Int32) &&& 31)) &&& (7 : Int32)))])) ?_ (fun _ kk_ => XS.iloadN X0.here hx rfl (hb hby dkey_7) rfl  (XS.iconst X0.here hx rfl (hb hby dkey_8) (XS.ishr X0.here hx rfl (hb hby dkey_9) rfl (XS.bipush X0.here hx rfl (hb hby dkey_10) (XS.iand X0.here hx rfl (hb hby dkey_12) rfl kk_)))))
    rw [e2]
    show Go p e below _ s₁ (mkF m 13 #[iv p_, iv (Int32.ofNat r)] [(.int (Int32.ofNat sj))])
    refine Go.st (T' := s₁) (g' := (mkF m 16 #[iv p_, iv (Int32.ofNat r)] [(.int ((Int32.ofNat sj) * (8 : Int32)))])) ?_ (fun _ kk_ => XS.bipush X0.here hx rfl (hb hby dkey_13) (XS.imul X0.here hx rfl (hb hby dkey_15) rfl kk_))
    rw [show Int32.ofNat sj * (8 : Int32) = Int32.ofNat (sj * 8) from (Int32.ofNat_mul sj 8).symm]
    show Go p e below _ s₁ (mkF m 16 #[iv p_, iv (Int32.ofNat r)] [(.int (Int32.ofNat (sj * 8)))])
    refine Go.st (T' := s₁) (g' := (mkF m 22 #[iv p_, iv (Int32.ofNat r)] [(.int ((p_ >>> ((4 : Int32) &&& 31)) &&& (7 : Int32))), (.int (Int32.ofNat (sj * 8)))])) ?_ (fun _ kk_ => XS.iloadN X0.here hx rfl (hb hby dkey_16) rfl  (XS.iconst X0.here hx rfl (hb hby dkey_17) (XS.ishr X0.here hx rfl (hb hby dkey_18) rfl (XS.bipush X0.here hx rfl (hb hby dkey_19) (XS.iand X0.here hx rfl (hb hby dkey_21) rfl kk_)))))
    rw [e3]
    show Go p e below _ s₁ (mkF m 22 #[iv p_, iv (Int32.ofNat r)] [(.int (Int32.ofNat oj)), (.int (Int32.ofNat (sj * 8)))])
    refine Go.st (T' := s₁) (g' := (mkF m 23 #[iv p_, iv (Int32.ofNat r)] [(.int ((Int32.ofNat (sj * 8)) + (Int32.ofNat oj)))])) ?_ (fun _ kk_ => XS.iadd X0.here hx rfl (hb hby dkey_22) rfl kk_)
    rw [own_add]
    show Go p e below _ s₁ (mkF m 23 #[iv p_, iv (Int32.ofNat r)] [(.int (Int32.ofNat (sj * 8 + oj)))])
    refine Go.retI X0 hx hlk hret (hb hby dkey_23) (by decide) (by decide) ?_
    try rw [e0]
    exact ⟨by rw [if_pos g1, Nat.mul_comm], rfl, rfl⟩
  ·
    refine Go.st (T' := s₁) (g' := (mkF m 24 #[iv p_, iv (Int32.ofNat r)] [])) ?_ (fun _ kk_ => XS.icmpYes X0.here hx rfl (pc0 := 4) (pc' := 24) rfl (hb hby dkey_4) rfl (feq (hc : ¬ ((Int32.ofNat ρ) = (Int32.ofNat r)))).2 (by decide) (by decide) kk_)
    have g1 : ¬ ρ = r := fun z => hc ((own_eq (by omega) (by omega)).mpr z)
    refine Go.st (T' := s₁) (g' := (mkF m 27 #[iv p_, iv (Int32.ofNat r)] [(.int (1000 : Int32))])) ?_ (fun _ kk_ => XS.sipush X0.here hx rfl (hb hby dkey_24) kk_)
    refine Go.retI X0 hx hlk hret (hb hby dkey_27) (by decide) (by decide) ?_
    try rw [e0]
    exact ⟨by rw [if_neg g1]; rfl, rfl, rfl⟩
theorem dat__0 : decode method_4_code 0 = .ok (.iload_n 3, 1) := by decide +kernel
theorem dat__1 : decode method_4_code 1 = .ok (.iload_n 1, 1) := by decide +kernel
theorem dat__2 : decode method_4_code 2 = .ok (.if_icmp .lt 5, 3) := by decide +kernel
theorem dat__5 : decode method_4_code 5 = .ok (.iconst 1, 1) := by decide +kernel
theorem dat__6 : decode method_4_code 6 = .ok (.ireturn, 1) := by decide +kernel
theorem dat__7 : decode method_4_code 7 = .ok (.aload_n 0, 1) := by decide +kernel
theorem dat__8 : decode method_4_code 8 = .ok (.iconst 2, 1) := by decide +kernel
theorem dat__9 : decode method_4_code 9 = .ok (.iload_n 3, 1) := by decide +kernel
theorem dat__10 : decode method_4_code 10 = .ok (.imul, 1) := by decide +kernel
theorem dat__11 : decode method_4_code 11 = .ok (.iaload, 1) := by decide +kernel
theorem dat__12 : decode method_4_code 12 = .ok (.aload_n 2, 1) := by decide +kernel
theorem dat__13 : decode method_4_code 13 = .ok (.iload_n 3, 1) := by decide +kernel
theorem dat__14 : decode method_4_code 14 = .ok (.iaload, 1) := by decide +kernel
theorem dat__15 : decode method_4_code 15 = .ok (.iconst 3, 1) := by decide +kernel
theorem dat__16 : decode method_4_code 16 = .ok (.ishr, 1) := by decide +kernel
theorem dat__17 : decode method_4_code 17 = .ok (.if_icmp .ne 23, 3) := by decide +kernel
theorem dat__20 : decode method_4_code 20 = .ok (.aload_n 0, 1) := by decide +kernel
theorem dat__21 : decode method_4_code 21 = .ok (.iconst 2, 1) := by decide +kernel
theorem dat__22 : decode method_4_code 22 = .ok (.iload_n 3, 1) := by decide +kernel
theorem dat__23 : decode method_4_code 23 = .ok (.imul, 1) := by decide +kernel
theorem dat__24 : decode method_4_code 24 = .ok (.iconst 1, 1) := by decide +kernel
theorem dat__25 : decode method_4_code 25 = .ok (.iadd, 1) := by decide +kernel
theorem dat__26 : decode method_4_code 26 = .ok (.iaload, 1) := by decide +kernel
theorem dat__27 : decode method_4_code 27 = .ok (.aload_n 2, 1) := by decide +kernel
theorem dat__28 : decode method_4_code 28 = .ok (.iload_n 3, 1) := by decide +kernel
theorem dat__29 : decode method_4_code 29 = .ok (.iaload, 1) := by decide +kernel
theorem dat__30 : decode method_4_code 30 = .ok (.bipush 7, 2) := by decide +kernel
theorem dat__32 : decode method_4_code 32 = .ok (.iand, 1) := by decide +kernel
theorem dat__33 : decode method_4_code 33 = .ok (.if_icmp .ne 7, 3) := by decide +kernel
theorem dat__36 : decode method_4_code 36 = .ok (.iconst 1, 1) := by decide +kernel
theorem dat__37 : decode method_4_code 37 = .ok (.goto 4, 3) := by decide +kernel
theorem dat__41 : decode method_4_code 41 = .ok (.ireturn, 1) := by decide +kernel
theorem pn_at_ : plainFor (⟨"com/example/rhadamanthus/rhadamanthus/analysis/EntriesAllPinLaw", "at", "([II[II)Z"⟩ : MethodName) = true := by first | exact plainFor_of_name (by first | (simp [plainName, overriddenIn]; done) | decide +kernel) | decide +kernel
theorem ef_at_ (m : MethodId) (x0 : Addr) (x1 : Int32) (x2 : Addr) (x3 : Int32) : entryFrame m #[(.ref x0), (.int x1), (.ref x2), (.int x3)] 4 = mkF m 0 #[rv x0, iv x1, rv x2, iv x3] [] := by first | (simp [entryFrame, mkF, argsToLocals, Value.category]; done) | rfl
set_option maxRecDepth 65536 in
set_option maxHeartbeats 40000000 in
theorem rm_at_ (l : Launch) (Z : State) (a0 : Array Value) (hw : ∀ d ∈ tables_1, d.before a0 Z = true) (ws : List Jvm.Cond) (a ex : Addr) (n i : Nat) (g y : Nat → Int32) (E : List Nat) (h0 : Heap) (hn : n ≤ 4) (hi : i ≤ 3) (hE : E.length = n) (h64 : ∀ x ∈ E, x < 64) (hg : ∀ p_ x_, E[p_]? = some x_ → g (2 * p_) = Int32.ofNat (x_ / 8) ∧ g (2 * p_ + 1) = Int32.ofNat (x_ % 8)) (hy : ∀ p_ x_, E[p_]? = some x_ → y p_ = Int32.ofNat x_) (V_a : Ary Z h0 a .int (IL (2 * n) g)) (V_e : Ary Z h0 ex .int (IL 4 y)) :
    Mt l Z (⟨"com/example/rhadamanthus/rhadamanthus/analysis/EntriesAllPinLaw", "at", "([II[II)Z"⟩ : MethodName) method_4_code 4 (some .boolean) ws ({ frames := 0, cells := 0, slots := 0, locals := 0 } : Room) #[(.ref a), (.int (Int32.ofNat n)), (.ref ex), (.int (Int32.ofNat i))] h0 (fun v h L => v = some (.int (1 : Int32)) ∧ h = h0 ∧ L = []) := by
  refine Mt.body pn_at_ ?_
  intro p e s m below meth c s₁ hx hby hml hown hnm hret hlk hZ X0 e0
  refine Go.cast (g' := (mkF m 0 #[rv a, iv (Int32.ofNat n), rv ex, iv (Int32.ofNat i)] [])) (ef_at_ m a (Int32.ofNat n) ex (Int32.ofNat i)) ?_
  have N0 := Fr.nil 0
  refine Go.st (T' := s₁) (g' := (mkF m 2 #[rv a, iv (Int32.ofNat n), rv ex, iv (Int32.ofNat i)] [(.int (Int32.ofNat n)), (.int (Int32.ofNat i))])) ?_ (fun _ kk_ => XS.iloadN X0.here hx rfl (hb hby dat__0) rfl  (XS.iloadN X0.here hx rfl (hb hby dat__1) rfl  kk_))
  by_cases hc : (Int32.ofNat i) < (Int32.ofNat n)
  ·
    refine Go.st (T' := s₁) (g' := (mkF m 7 #[rv a, iv (Int32.ofNat n), rv ex, iv (Int32.ofNat i)] [])) ?_ (fun _ kk_ => XS.icmpYes X0.here hx rfl (pc0 := 2) (pc' := 7) rfl (hb hby dat__2) rfl (tlt (hc : (Int32.ofNat i) < (Int32.ofNat n))).1 (by decide) (by decide) kk_)
    have g1 : i < n := (own_lt (by omega) (by omega)).mp hc
    have hx1 := List.getElem?_eq_getElem (l := E) (show i < E.length by omega)
    obtain ⟨z, hz⟩ : ∃ z, z = E[i]'(by omega) := ⟨_, rfl⟩
    rw [← hz] at hx1
    have hz64 := h64 z (List.mem_of_getElem? hx1)
    obtain ⟨k1, k2⟩ := hg i z hx1
    have k3 := hy i z hx1
    refine Go.st (T' := s₁) (g' := (mkF m 11 #[rv a, iv (Int32.ofNat n), rv ex, iv (Int32.ofNat i)] [(.int ((2 : Int32) * (Int32.ofNat i))), (.ref a)])) ?_ (fun _ kk_ => XS.aloadN X0.here hx rfl (hb hby dat__7) rfl rfl  (XS.iconst X0.here hx rfl (hb hby dat__8) (XS.iloadN X0.here hx rfl (hb hby dat__9) rfl  (XS.imul X0.here hx rfl (hb hby dat__10) rfl kk_))))
    rw [show (2 : Int32) * Int32.ofNat i = Int32.ofNat (2 * i) from (Int32.ofNat_mul 2 i).symm]
    show Go p e below _ s₁ (mkF m 11 #[rv a, iv (Int32.ofNat n), rv ex, iv (Int32.ofNat i)] [(.int (Int32.ofNat (2 * i))), (.ref a)])
    refine Go.st (T' := s₁) (g' := (mkF m 17 #[rv a, iv (Int32.ofNat n), rv ex, iv (Int32.ofNat i)] [(.int ((Int32.ofNat z) >>> ((3 : Int32) &&& 31))), (.int (Int32.ofNat (z / 8)))])) ?_ (fun _ kk_ => own_iaload X0 hx hZ e0 V_a (i := (2 * i)) (v := (.int (Int32.ofNat (z / 8)))) ((IL_at (by omega)).trans (congrArg (fun q => some (Value.int q)) k1)) rfl rfl rfl (hb hby dat__11) (XS.aloadN X0.here hx rfl (hb hby dat__12) rfl rfl  (XS.iloadN X0.here hx rfl (hb hby dat__13) rfl  (own_iaload X0 hx hZ e0 V_e (i := i) (v := (.int (Int32.ofNat z))) ((IL_at (by omega)).trans (congrArg (fun q => some (Value.int q)) k3)) rfl rfl rfl (hb hby dat__14) (XS.iconst X0.here hx rfl (hb hby dat__15) (XS.ishr X0.here hx rfl (hb hby dat__16) rfl kk_))))))
    rw [own_z3 hz64]
    show Go p e below _ s₁ (mkF m 17 #[rv a, iv (Int32.ofNat n), rv ex, iv (Int32.ofNat i)] [(.int (Int32.ofNat (z / 8))), (.int (Int32.ofNat (z / 8)))])
    refine Go.st (T' := s₁) (g' := (mkF m 24 #[rv a, iv (Int32.ofNat n), rv ex, iv (Int32.ofNat i)] [(.int ((2 : Int32) * (Int32.ofNat i))), (.ref a)])) ?_ (fun _ kk_ => XS.icmpNo X0.here hx rfl (hb hby dat__17) rfl (teq (rfl : (Int32.ofNat (z / 8)) = (Int32.ofNat (z / 8)))).2 (XS.aloadN X0.here hx rfl (hb hby dat__20) rfl rfl  (XS.iconst X0.here hx rfl (hb hby dat__21) (XS.iloadN X0.here hx rfl (hb hby dat__22) rfl  (XS.imul X0.here hx rfl (hb hby dat__23) rfl kk_)))))
    rw [show (2 : Int32) * Int32.ofNat i = Int32.ofNat (2 * i) from (Int32.ofNat_mul 2 i).symm]
    show Go p e below _ s₁ (mkF m 24 #[rv a, iv (Int32.ofNat n), rv ex, iv (Int32.ofNat i)] [(.int (Int32.ofNat (2 * i))), (.ref a)])
    refine Go.st (T' := s₁) (g' := (mkF m 26 #[rv a, iv (Int32.ofNat n), rv ex, iv (Int32.ofNat i)] [(.int ((Int32.ofNat (2 * i)) + (1 : Int32))), (.ref a)])) ?_ (fun _ kk_ => XS.iconst X0.here hx rfl (hb hby dat__24) (XS.iadd X0.here hx rfl (hb hby dat__25) rfl kk_))
    rw [show (Int32.ofNat (2 * i)) + (1 : Int32) = Int32.ofNat (2 * i + 1) from own_add _ 1]
    show Go p e below _ s₁ (mkF m 26 #[rv a, iv (Int32.ofNat n), rv ex, iv (Int32.ofNat i)] [(.int (Int32.ofNat (2 * i + 1))), (.ref a)])
    refine Go.st (T' := s₁) (g' := (mkF m 33 #[rv a, iv (Int32.ofNat n), rv ex, iv (Int32.ofNat i)] [(.int ((Int32.ofNat z) &&& (7 : Int32))), (.int (Int32.ofNat (z % 8)))])) ?_ (fun _ kk_ => own_iaload X0 hx hZ e0 V_a (i := (2 * i + 1)) (v := (.int (Int32.ofNat (z % 8)))) ((IL_at (by omega)).trans (congrArg (fun q => some (Value.int q)) k2)) rfl rfl rfl (hb hby dat__26) (XS.aloadN X0.here hx rfl (hb hby dat__27) rfl rfl  (XS.iloadN X0.here hx rfl (hb hby dat__28) rfl  (own_iaload X0 hx hZ e0 V_e (i := i) (v := (.int (Int32.ofNat z))) ((IL_at (by omega)).trans (congrArg (fun q => some (Value.int q)) k3)) rfl rfl rfl (hb hby dat__29) (XS.bipush X0.here hx rfl (hb hby dat__30) (XS.iand X0.here hx rfl (hb hby dat__32) rfl kk_))))))
    rw [own_z7 hz64]
    show Go p e below _ s₁ (mkF m 33 #[rv a, iv (Int32.ofNat n), rv ex, iv (Int32.ofNat i)] [(.int (Int32.ofNat (z % 8))), (.int (Int32.ofNat (z % 8)))])
    refine Go.st (T' := s₁) (g' := (mkF m 41 #[rv a, iv (Int32.ofNat n), rv ex, iv (Int32.ofNat i)] [(.int (1 : Int32))])) ?_ (fun _ kk_ => XS.icmpNo X0.here hx rfl (hb hby dat__33) rfl (teq (rfl : (Int32.ofNat (z % 8)) = (Int32.ofNat (z % 8)))).2 (XS.iconst X0.here hx rfl (hb hby dat__36) (XS.goto X0.here hx rfl (pc0 := 37) (pc' := 41) rfl (hb hby dat__37) (by decide) (by decide) kk_)))
    refine Go.retN X0 hx hlk (t := .boolean) hret (by simp) (z' := (1 : Int32)) rfl (hb hby dat__41) (by decide) (by decide) ?_
    try rw [e0]
    exact ⟨rfl, rfl, rfl⟩
  ·
    refine Go.st (T' := s₁) (g' := (mkF m 6 #[rv a, iv (Int32.ofNat n), rv ex, iv (Int32.ofNat i)] [(.int (1 : Int32))])) ?_ (fun _ kk_ => XS.icmpNo X0.here hx rfl (hb hby dat__2) rfl (flt (hc : ¬ ((Int32.ofNat i) < (Int32.ofNat n)))).1 (XS.iconst X0.here hx rfl (hb hby dat__5) kk_))
    refine Go.retN X0 hx hlk (t := .boolean) hret (by simp) (z' := (1 : Int32)) rfl (hb hby dat__6) (by decide) (by decide) ?_
    try rw [e0]
    exact ⟨rfl, rfl, rfl⟩
theorem pn_law : plainFor x = true := by first | exact plainFor_of_name (by first | (simp [plainName, overriddenIn]; done) | decide +kernel) | decide +kernel
theorem ef_law (m : MethodId) (x0 : Int32) (x1 : Int32) (x2 : Int32) (x3 : Int32) (x4 : Int32) : entryFrame m #[(.int x0), (.int x1), (.int x2), (.int x3), (.int x4)] maxLocals = mkF m 0 #[iv x0, iv x1, iv x2, iv x3, iv x4, .unset, .unset, .unset, .unset, .unset, .unset, .unset, .unset, .unset, .unset, .unset, .unset, .unset, .unset, .unset, .unset, .unset, .unset, .unset, .unset, .unset] [] := by first | (simp [entryFrame, mkF, argsToLocals, Value.category, maxLocals]; done) | rfl
set_option maxRecDepth 65536 in
set_option maxHeartbeats 40000000 in
theorem rm_law (l : Launch) (Z : State) (a0 : Array Value) (hw : ∀ d ∈ tables_1, d.before a0 Z = true) (ws : List Jvm.Cond) (p0 p1 p2 p3 p4 : Int32) (n0 : Nat) (nA : Addr) (h0 : Heap) (Z0 : n0 ≤ h0.size) (O0 : Old Z n0 h0) (Sn : Sta Z Z.heap "com/example/rhadamanthus/rhadamanthus/analysis/Entries" "NO_IDS" "[I" (.ref nA)) (Vn : Ary Z Z.heap nA .int []) :
    Mt l Z x code maxLocals ret ws room_1 #[(.int p0), (.int p1), (.int p2), (.int p3), (.int p4)] h0 (fun v h L => v = some (.int (1 : Int32)) ∧ Fr n0 L) := by
  refine Mt.body pn_law ?_
  intro p e s m below meth c s₁ hx hby hml hown hnm hret hlk hZ X0 e0
  refine Go.cast (g' := (mkF m 0 #[iv p0, iv p1, iv p2, iv p3, iv p4, .unset, .unset, .unset, .unset, .unset, .unset, .unset, .unset, .unset, .unset, .unset, .unset, .unset, .unset, .unset, .unset, .unset, .unset, .unset, .unset, .unset] [])) (ef_law m p0 p1 p2 p3 p4) ?_
  have N0 := Fr.nil n0
  refine Go.st (T' := s₁) (g' := (mkF m 4 #[iv p0, iv p1, iv p2, iv p3, iv p4, .unset, .unset, .unset, .unset, .unset, .unset, .unset, .unset, .unset, .unset, .unset, .unset, .unset, .unset, .unset, .unset, .unset, .unset, .unset, .unset, .unset] [(.int (p4 &&& (1 : Int32)))])) ?_ (fun _ kk_ => XS.iload X0.here hx rfl (hb hby at_0) rfl  (XS.iconst X0.here hx rfl (hb hby at_2) (XS.iand X0.here hx rfl (hb hby at_3) rfl kk_)))
  obtain ⟨r, hr0, e_r⟩ := own_low p4 1 1 rfl (by decide)
  have hr : r < 2 := by omega
  rw [e_r]
  show Go p e below _ s₁ (mkF m 4 #[iv p0, iv p1, iv p2, iv p3, iv p4, .unset, .unset, .unset, .unset, .unset, .unset, .unset, .unset, .unset, .unset, .unset, .unset, .unset, .unset, .unset, .unset, .unset, .unset, .unset, .unset, .unset] [(.int (Int32.ofNat r))])
  refine Go.st (T' := s₁) (g' := (mkF m 6 #[iv p0, iv p1, iv p2, iv p3, iv p4, iv (Int32.ofNat r), .unset, .unset, .unset, .unset, .unset, .unset, .unset, .unset, .unset, .unset, .unset, .unset, .unset, .unset, .unset, .unset, .unset, .unset, .unset, .unset] [])) ?_ (fun _ kk_ => XS.istore X0.here hx rfl (hb hby at_4) rfl (l' := #[iv p0, iv p1, iv p2, iv p3, iv p4, iv (Int32.ofNat r), .unset, .unset, .unset, .unset, .unset, .unset, .unset, .unset, .unset, .unset, .unset, .unset, .unset, .unset, .unset, .unset, .unset, .unset, .unset, .unset]) rfl kk_)
  obtain ⟨T1, h1, X1, e1, E1, A1, D1, U1, st1⟩ := newO X0 hx hZ hown (hw _ (List.mem_of_getElem? (i := 0) rfl)) (hw _ (List.mem_of_getElem? (i := 1) rfl)) (hw _ (List.mem_of_getElem? (i := 2) rfl)) e0 (g := (mkF m 6 #[iv p0, iv p1, iv p2, iv p3, iv p4, iv (Int32.ofNat r), .unset, .unset, .unset, .unset, .unset, .unset, .unset, .unset, .unset, .unset, .unset, .unset, .unset, .unset, .unset, .unset, .unset, .unset, .unset, .unset] [])) rfl (hb hby at_6) (by decide) (by decide)
  obtain ⟨b1, g1⟩ : ∃ z, z = h0.size := ⟨_, rfl⟩
  rw [← g1] at A1 D1 st1
  have g_b1 : n0 ≤ b1 := Nat.le_trans Z0 (Nat.le_of_eq g1.symm)
  have O2 := O0.ext E1
  have Z3 : n0 ≤ h1.size := Nat.le_trans Z0 E1.1
  have f4 : Fld Z h1 b1 "com/example/rhadamanthus/rhadamanthus/analysis/Entries" "entities" "I" (.int (0 : Int32)) := D1 (Or.inr (hw _ (List.mem_of_getElem? (i := 10) rfl))) (ty := .int) (by decide)
  have f5 : Fld Z h1 b1 "com/example/rhadamanthus/rhadamanthus/analysis/Entries" "bySubject" "[[Lcom/example/rhadamanthus/rhadamanthus/analysis/Entries$Row;" .null := D1 (Or.inr (hw _ (List.mem_of_getElem? (i := 14) rfl))) (ty := (.array (.array (.object "com/example/rhadamanthus/rhadamanthus/analysis/Entries$Row")))) (by decide)
  have f6 : Fld Z h1 b1 "com/example/rhadamanthus/rhadamanthus/analysis/Entries" "byObject" "[[Lcom/example/rhadamanthus/rhadamanthus/analysis/Entries$Row;" .null := D1 (Or.inr (hw _ (List.mem_of_getElem? (i := 16) rfl))) (ty := (.array (.array (.object "com/example/rhadamanthus/rhadamanthus/analysis/Entries$Row")))) (by decide)
  have f7 : Fld Z h1 b1 "com/example/rhadamanthus/rhadamanthus/analysis/Entries" "holders" "[Lcom/example/rhadamanthus/rhadamanthus/analysis/Entries$Row;" .null := D1 (Or.inr (hw _ (List.mem_of_getElem? (i := 20) rfl))) (ty := (.array (.object "com/example/rhadamanthus/rhadamanthus/analysis/Entries$Row"))) (by decide)
  have f8 : Fld Z h1 b1 "com/example/rhadamanthus/rhadamanthus/analysis/Entries" "counts" "[I" .null := D1 (Or.inr (hw _ (List.mem_of_getElem? (i := 23) rfl))) (ty := (.array .int)) (by decide)
  refine Go.st (T' := T1) (g' := (mkF m 9 #[iv p0, iv p1, iv p2, iv p3, iv p4, iv (Int32.ofNat r), .unset, .unset, .unset, .unset, .unset, .unset, .unset, .unset, .unset, .unset, .unset, .unset, .unset, .unset, .unset, .unset, .unset, .unset, .unset, .unset] [(.ref b1)])) ?_ st1
  refine Go.st (T' := T1) (g' := (mkF m 13 #[iv p0, iv p1, iv p2, iv p3, iv p4, iv (Int32.ofNat r), .unset, .unset, .unset, .unset, .unset, .unset, .unset, .unset, .unset, .unset, .unset, .unset, .unset, .unset, .unset, .unset, .unset, .unset, .unset, .unset] [(.int (8 : Int32)), (.int (2 : Int32)), (.ref b1), (.ref b1)])) ?_ (fun _ kk_ => XS.dup X1.here hx rfl (hb hby at_9) rfl rfl (XS.iconst X1.here hx rfl (hb hby at_10) (XS.bipush X1.here hx rfl (hb hby at_11) kk_)))
  refine Go.callN (y := (⟨"com/example/rhadamanthus/rhadamanthus/analysis/Entries", "<init>", "(II)V"⟩ : MethodName)) X1 hx hZ rfl hown (hw _ (List.mem_of_getElem? (i := 3) rfl)) (hw _ (List.mem_of_getElem? (i := 4) rfl)) (hw _ (List.mem_of_getElem? (i := 2) rfl)) (hw _ (List.mem_of_getElem? (i := 5) rfl)) (by decide) 1 (rm_ent l Z a0 hw [] b1 n0 h1 Z3 O2 g_b1 A1 f4 f5 f6 f7 f8) e1 (by decide) (by decide) (by decide) (by decide) (a := b1) (argsL := [(.int (2 : Int32)), (.int (8 : Int32))]) (rest := [(.ref b1)]) rfl (by rw [hml]; rfl) (lenOf pd__28II_29V rfl) rfl rfl (by show 2 * 0 + _ ≤ _; exact Nat.le_of_eq rfl) (hb hby at_13) ?_
  rintro _ T9 L9 X9 ⟨rfl, N9, OO9, ZZ9, rg0, D0, I0, P0, hE0, hk0⟩
  have N10 := Fr.app N0 N9
  show Go p e below _ T9 (mkF m 16 #[iv p0, iv p1, iv p2, iv p3, iv p4, iv (Int32.ofNat r), .unset, .unset, .unset, .unset, .unset, .unset, .unset, .unset, .unset, .unset, .unset, .unset, .unset, .unset, .unset, .unset, .unset, .unset, .unset, .unset] [(.ref b1)])
  have Ex0 : Exa Z T9.heap b1 "com/example/rhadamanthus/rhadamanthus/analysis/Entries" := (I0.ent hE0).1
  refine Go.st (T' := T9) (g' := (mkF m 23 #[iv p0, iv p1, iv p2, iv p3, iv p4, iv (Int32.ofNat r), rv b1, .unset, .unset, .unset, .unset, .unset, .unset, .unset, .unset, .unset, .unset, .unset, .unset, .unset, .unset, .unset, .unset, .unset, .unset, .unset] [(.int (p0 &&& (1 : Int32))), (.ref b1)])) ?_ (fun _ kk_ => XS.astore X9.here hx rfl (hb hby at_16) rfl rfl (l' := #[iv p0, iv p1, iv p2, iv p3, iv p4, iv (Int32.ofNat r), rv b1, .unset, .unset, .unset, .unset, .unset, .unset, .unset, .unset, .unset, .unset, .unset, .unset, .unset, .unset, .unset, .unset, .unset, .unset, .unset]) rfl (XS.aload X9.here hx rfl (hb hby at_18) rfl rfl  (XS.iloadN X9.here hx rfl (hb hby at_20) rfl  (XS.iconst X9.here hx rfl (hb hby at_21) (XS.iand X9.here hx rfl (hb hby at_22) rfl kk_)))))
  obtain ⟨ρ0, hρ0, e_ρ0⟩ := own_low p0 1 1 rfl (by decide)
  rw [e_ρ0]
  show Go p e below _ T9 (mkF m 23 #[iv p0, iv p1, iv p2, iv p3, iv p4, iv (Int32.ofNat r), rv b1, .unset, .unset, .unset, .unset, .unset, .unset, .unset, .unset, .unset, .unset, .unset, .unset, .unset, .unset, .unset, .unset, .unset, .unset, .unset] [(.int (Int32.ofNat ρ0)), (.ref b1)])
  refine Go.st (T' := T9) (g' := (mkF m 29 #[iv p0, iv p1, iv p2, iv p3, iv p4, iv (Int32.ofNat r), rv b1, .unset, .unset, .unset, .unset, .unset, .unset, .unset, .unset, .unset, .unset, .unset, .unset, .unset, .unset, .unset, .unset, .unset, .unset, .unset] [(.int ((p0 >>> ((1 : Int32) &&& 31)) &&& (7 : Int32))), (.int (Int32.ofNat ρ0)), (.ref b1)])) ?_ (fun _ kk_ => XS.iloadN X9.here hx rfl (hb hby at_23) rfl  (XS.iconst X9.here hx rfl (hb hby at_24) (XS.ishr X9.here hx rfl (hb hby at_25) rfl (XS.bipush X9.here hx rfl (hb hby at_26) (XS.iand X9.here hx rfl (hb hby at_28) rfl kk_)))))
  obtain ⟨s0, hs0, e_s0⟩ := own_low (p0 >>> ((1 : Int32) &&& 31)) 7 7 rfl (by decide)
  rw [e_s0]
  show Go p e below _ T9 (mkF m 29 #[iv p0, iv p1, iv p2, iv p3, iv p4, iv (Int32.ofNat r), rv b1, .unset, .unset, .unset, .unset, .unset, .unset, .unset, .unset, .unset, .unset, .unset, .unset, .unset, .unset, .unset, .unset, .unset, .unset, .unset] [(.int (Int32.ofNat s0)), (.int (Int32.ofNat ρ0)), (.ref b1)])
  refine Go.st (T' := T9) (g' := (mkF m 35 #[iv p0, iv p1, iv p2, iv p3, iv p4, iv (Int32.ofNat r), rv b1, .unset, .unset, .unset, .unset, .unset, .unset, .unset, .unset, .unset, .unset, .unset, .unset, .unset, .unset, .unset, .unset, .unset, .unset, .unset] [(.int ((p0 >>> ((4 : Int32) &&& 31)) &&& (7 : Int32))), (.int (Int32.ofNat s0)), (.int (Int32.ofNat ρ0)), (.ref b1)])) ?_ (fun _ kk_ => XS.iloadN X9.here hx rfl (hb hby at_29) rfl  (XS.iconst X9.here hx rfl (hb hby at_30) (XS.ishr X9.here hx rfl (hb hby at_31) rfl (XS.bipush X9.here hx rfl (hb hby at_32) (XS.iand X9.here hx rfl (hb hby at_34) rfl kk_)))))
  obtain ⟨o0, ho0, e_o0⟩ := own_low (p0 >>> ((4 : Int32) &&& 31)) 7 7 rfl (by decide)
  rw [e_o0]
  show Go p e below _ T9 (mkF m 35 #[iv p0, iv p1, iv p2, iv p3, iv p4, iv (Int32.ofNat r), rv b1, .unset, .unset, .unset, .unset, .unset, .unset, .unset, .unset, .unset, .unset, .unset, .unset, .unset, .unset, .unset, .unset, .unset, .unset, .unset] [(.int (Int32.ofNat o0)), (.int (Int32.ofNat s0)), (.int (Int32.ofNat ρ0)), (.ref b1)])
  have hρ0l : ρ0 < 2 := by omega
  have hs0l : s0 < 8 := by omega
  have ho0l : o0 < 8 := by omega
  refine Go.st (T' := T9) (g' := (mkF m 39 #[iv p0, iv p1, iv p2, iv p3, iv p4, iv (Int32.ofNat r), rv b1, .unset, .unset, .unset, .unset, .unset, .unset, .unset, .unset, .unset, .unset, .unset, .unset, .unset, .unset, .unset, .unset, .unset, .unset, .unset] [(.int (p0 >>> ((7 : Int32) &&& 31))), (.int (Int32.ofNat o0)), (.int (Int32.ofNat s0)), (.int (Int32.ofNat ρ0)), (.ref b1)])) ?_ (fun _ kk_ => XS.iloadN X9.here hx rfl (hb hby at_35) rfl  (XS.bipush X9.here hx rfl (hb hby at_36) (XS.ishr X9.here hx rfl (hb hby at_38) rfl kk_)))
  refine Go.callV (y := (⟨"com/example/rhadamanthus/rhadamanthus/analysis/Entries", "add", "(IIII)V"⟩ : MethodName)) (z := (⟨"com/example/rhadamanthus/rhadamanthus/analysis/Entries", "add", "(IIII)V"⟩ : MethodName)) X9 hx hZ hown (hw _ (List.mem_of_getElem? (i := 24) rfl)) (hw _ (List.mem_of_getElem? (i := 25) rfl)) (notFace_of_selects (args := #[]) (mvT hZ (hw _ (List.mem_of_getElem? (i := 27) rfl)))) (hw _ (List.mem_of_getElem? (i := 27) rfl)) (hw _ (List.mem_of_getElem? (i := 26) rfl)) (hw _ (List.mem_of_getElem? (i := 2) rfl)) (hw _ (List.mem_of_getElem? (i := 28) rfl)) (by decide) 0 (rm_add l Z a0 hw [] b1 rg0 D0 ρ0 s0 o0 _ n0 _ T9.heap ZZ9 hρ0l hs0l ho0l (by omega) OO9 I0 P0 hE0) rfl (by decide) (by decide) (by decide) (by decide) Ex0 (argsL := [(.int (Int32.ofNat ρ0)), (.int (Int32.ofNat s0)), (.int (Int32.ofNat o0)), (.int (p0 >>> ((7 : Int32) &&& 31)))]) (rest := []) rfl (by rw [hml]; rfl) (lenOf pd__28IIII_29V rfl) rfl rfl (by show 2 * 0 + _ ≤ _; exact Nat.le_of_eq rfl) (hb hby at_39) ?_
  rintro _ T11 L11 X11 ⟨rfl, N11, OO11, ZZ11, rg1, D1, I1, P1, hE1, hk1⟩
  have N12 := Fr.app N10 N11
  show Go p e below _ T11 (mkF m 42 #[iv p0, iv p1, iv p2, iv p3, iv p4, iv (Int32.ofNat r), rv b1, .unset, .unset, .unset, .unset, .unset, .unset, .unset, .unset, .unset, .unset, .unset, .unset, .unset, .unset, .unset, .unset, .unset, .unset, .unset] [])
  have Ex1 : Exa Z T11.heap b1 "com/example/rhadamanthus/rhadamanthus/analysis/Entries" := (I1.ent hE1).1
  refine Go.st (T' := T11) (g' := (mkF m 47 #[iv p0, iv p1, iv p2, iv p3, iv p4, iv (Int32.ofNat r), rv b1, .unset, .unset, .unset, .unset, .unset, .unset, .unset, .unset, .unset, .unset, .unset, .unset, .unset, .unset, .unset, .unset, .unset, .unset, .unset] [(.int (p1 &&& (1 : Int32))), (.ref b1)])) ?_ (fun _ kk_ => XS.aload X11.here hx rfl (hb hby at_42) rfl rfl  (XS.iloadN X11.here hx rfl (hb hby at_44) rfl  (XS.iconst X11.here hx rfl (hb hby at_45) (XS.iand X11.here hx rfl (hb hby at_46) rfl kk_))))
  obtain ⟨ρ1, hρ1, e_ρ1⟩ := own_low p1 1 1 rfl (by decide)
  rw [e_ρ1]
  show Go p e below _ T11 (mkF m 47 #[iv p0, iv p1, iv p2, iv p3, iv p4, iv (Int32.ofNat r), rv b1, .unset, .unset, .unset, .unset, .unset, .unset, .unset, .unset, .unset, .unset, .unset, .unset, .unset, .unset, .unset, .unset, .unset, .unset, .unset] [(.int (Int32.ofNat ρ1)), (.ref b1)])
  refine Go.st (T' := T11) (g' := (mkF m 53 #[iv p0, iv p1, iv p2, iv p3, iv p4, iv (Int32.ofNat r), rv b1, .unset, .unset, .unset, .unset, .unset, .unset, .unset, .unset, .unset, .unset, .unset, .unset, .unset, .unset, .unset, .unset, .unset, .unset, .unset] [(.int ((p1 >>> ((1 : Int32) &&& 31)) &&& (7 : Int32))), (.int (Int32.ofNat ρ1)), (.ref b1)])) ?_ (fun _ kk_ => XS.iloadN X11.here hx rfl (hb hby at_47) rfl  (XS.iconst X11.here hx rfl (hb hby at_48) (XS.ishr X11.here hx rfl (hb hby at_49) rfl (XS.bipush X11.here hx rfl (hb hby at_50) (XS.iand X11.here hx rfl (hb hby at_52) rfl kk_)))))
  obtain ⟨s1, hs1, e_s1⟩ := own_low (p1 >>> ((1 : Int32) &&& 31)) 7 7 rfl (by decide)
  rw [e_s1]
  show Go p e below _ T11 (mkF m 53 #[iv p0, iv p1, iv p2, iv p3, iv p4, iv (Int32.ofNat r), rv b1, .unset, .unset, .unset, .unset, .unset, .unset, .unset, .unset, .unset, .unset, .unset, .unset, .unset, .unset, .unset, .unset, .unset, .unset, .unset] [(.int (Int32.ofNat s1)), (.int (Int32.ofNat ρ1)), (.ref b1)])
  refine Go.st (T' := T11) (g' := (mkF m 59 #[iv p0, iv p1, iv p2, iv p3, iv p4, iv (Int32.ofNat r), rv b1, .unset, .unset, .unset, .unset, .unset, .unset, .unset, .unset, .unset, .unset, .unset, .unset, .unset, .unset, .unset, .unset, .unset, .unset, .unset] [(.int ((p1 >>> ((4 : Int32) &&& 31)) &&& (7 : Int32))), (.int (Int32.ofNat s1)), (.int (Int32.ofNat ρ1)), (.ref b1)])) ?_ (fun _ kk_ => XS.iloadN X11.here hx rfl (hb hby at_53) rfl  (XS.iconst X11.here hx rfl (hb hby at_54) (XS.ishr X11.here hx rfl (hb hby at_55) rfl (XS.bipush X11.here hx rfl (hb hby at_56) (XS.iand X11.here hx rfl (hb hby at_58) rfl kk_)))))
  obtain ⟨o1, ho1, e_o1⟩ := own_low (p1 >>> ((4 : Int32) &&& 31)) 7 7 rfl (by decide)
  rw [e_o1]
  show Go p e below _ T11 (mkF m 59 #[iv p0, iv p1, iv p2, iv p3, iv p4, iv (Int32.ofNat r), rv b1, .unset, .unset, .unset, .unset, .unset, .unset, .unset, .unset, .unset, .unset, .unset, .unset, .unset, .unset, .unset, .unset, .unset, .unset, .unset] [(.int (Int32.ofNat o1)), (.int (Int32.ofNat s1)), (.int (Int32.ofNat ρ1)), (.ref b1)])
  have hρ1l : ρ1 < 2 := by omega
  have hs1l : s1 < 8 := by omega
  have ho1l : o1 < 8 := by omega
  refine Go.st (T' := T11) (g' := (mkF m 63 #[iv p0, iv p1, iv p2, iv p3, iv p4, iv (Int32.ofNat r), rv b1, .unset, .unset, .unset, .unset, .unset, .unset, .unset, .unset, .unset, .unset, .unset, .unset, .unset, .unset, .unset, .unset, .unset, .unset, .unset] [(.int (p1 >>> ((7 : Int32) &&& 31))), (.int (Int32.ofNat o1)), (.int (Int32.ofNat s1)), (.int (Int32.ofNat ρ1)), (.ref b1)])) ?_ (fun _ kk_ => XS.iloadN X11.here hx rfl (hb hby at_59) rfl  (XS.bipush X11.here hx rfl (hb hby at_60) (XS.ishr X11.here hx rfl (hb hby at_62) rfl kk_)))
  refine Go.callV (y := (⟨"com/example/rhadamanthus/rhadamanthus/analysis/Entries", "add", "(IIII)V"⟩ : MethodName)) (z := (⟨"com/example/rhadamanthus/rhadamanthus/analysis/Entries", "add", "(IIII)V"⟩ : MethodName)) X11 hx hZ hown (hw _ (List.mem_of_getElem? (i := 24) rfl)) (hw _ (List.mem_of_getElem? (i := 25) rfl)) (notFace_of_selects (args := #[]) (mvT hZ (hw _ (List.mem_of_getElem? (i := 27) rfl)))) (hw _ (List.mem_of_getElem? (i := 27) rfl)) (hw _ (List.mem_of_getElem? (i := 26) rfl)) (hw _ (List.mem_of_getElem? (i := 2) rfl)) (hw _ (List.mem_of_getElem? (i := 28) rfl)) (by decide) 0 (rm_add l Z a0 hw [] b1 rg1 D1 ρ1 s1 o1 _ n0 _ T11.heap ZZ11 hρ1l hs1l ho1l (by omega) OO11 I1 P1 hE1) rfl (by decide) (by decide) (by decide) (by decide) Ex1 (argsL := [(.int (Int32.ofNat ρ1)), (.int (Int32.ofNat s1)), (.int (Int32.ofNat o1)), (.int (p1 >>> ((7 : Int32) &&& 31)))]) (rest := []) rfl (by rw [hml]; rfl) (lenOf pd__28IIII_29V rfl) rfl rfl (by show 2 * 0 + _ ≤ _; exact Nat.le_of_eq rfl) (hb hby at_63) ?_
  rintro _ T13 L13 X13 ⟨rfl, N13, OO13, ZZ13, rg2, D2, I2, P2, hE2, hk2⟩
  have N14 := Fr.app N12 N13
  show Go p e below _ T13 (mkF m 66 #[iv p0, iv p1, iv p2, iv p3, iv p4, iv (Int32.ofNat r), rv b1, .unset, .unset, .unset, .unset, .unset, .unset, .unset, .unset, .unset, .unset, .unset, .unset, .unset, .unset, .unset, .unset, .unset, .unset, .unset] [])
  have Ex2 : Exa Z T13.heap b1 "com/example/rhadamanthus/rhadamanthus/analysis/Entries" := (I2.ent hE2).1
  refine Go.st (T' := T13) (g' := (mkF m 71 #[iv p0, iv p1, iv p2, iv p3, iv p4, iv (Int32.ofNat r), rv b1, .unset, .unset, .unset, .unset, .unset, .unset, .unset, .unset, .unset, .unset, .unset, .unset, .unset, .unset, .unset, .unset, .unset, .unset, .unset] [(.int (p2 &&& (1 : Int32))), (.ref b1)])) ?_ (fun _ kk_ => XS.aload X13.here hx rfl (hb hby at_66) rfl rfl  (XS.iloadN X13.here hx rfl (hb hby at_68) rfl  (XS.iconst X13.here hx rfl (hb hby at_69) (XS.iand X13.here hx rfl (hb hby at_70) rfl kk_))))
  obtain ⟨ρ2, hρ2, e_ρ2⟩ := own_low p2 1 1 rfl (by decide)
  rw [e_ρ2]
  show Go p e below _ T13 (mkF m 71 #[iv p0, iv p1, iv p2, iv p3, iv p4, iv (Int32.ofNat r), rv b1, .unset, .unset, .unset, .unset, .unset, .unset, .unset, .unset, .unset, .unset, .unset, .unset, .unset, .unset, .unset, .unset, .unset, .unset, .unset] [(.int (Int32.ofNat ρ2)), (.ref b1)])
  refine Go.st (T' := T13) (g' := (mkF m 77 #[iv p0, iv p1, iv p2, iv p3, iv p4, iv (Int32.ofNat r), rv b1, .unset, .unset, .unset, .unset, .unset, .unset, .unset, .unset, .unset, .unset, .unset, .unset, .unset, .unset, .unset, .unset, .unset, .unset, .unset] [(.int ((p2 >>> ((1 : Int32) &&& 31)) &&& (7 : Int32))), (.int (Int32.ofNat ρ2)), (.ref b1)])) ?_ (fun _ kk_ => XS.iloadN X13.here hx rfl (hb hby at_71) rfl  (XS.iconst X13.here hx rfl (hb hby at_72) (XS.ishr X13.here hx rfl (hb hby at_73) rfl (XS.bipush X13.here hx rfl (hb hby at_74) (XS.iand X13.here hx rfl (hb hby at_76) rfl kk_)))))
  obtain ⟨s2, hs2, e_s2⟩ := own_low (p2 >>> ((1 : Int32) &&& 31)) 7 7 rfl (by decide)
  rw [e_s2]
  show Go p e below _ T13 (mkF m 77 #[iv p0, iv p1, iv p2, iv p3, iv p4, iv (Int32.ofNat r), rv b1, .unset, .unset, .unset, .unset, .unset, .unset, .unset, .unset, .unset, .unset, .unset, .unset, .unset, .unset, .unset, .unset, .unset, .unset, .unset] [(.int (Int32.ofNat s2)), (.int (Int32.ofNat ρ2)), (.ref b1)])
  refine Go.st (T' := T13) (g' := (mkF m 83 #[iv p0, iv p1, iv p2, iv p3, iv p4, iv (Int32.ofNat r), rv b1, .unset, .unset, .unset, .unset, .unset, .unset, .unset, .unset, .unset, .unset, .unset, .unset, .unset, .unset, .unset, .unset, .unset, .unset, .unset] [(.int ((p2 >>> ((4 : Int32) &&& 31)) &&& (7 : Int32))), (.int (Int32.ofNat s2)), (.int (Int32.ofNat ρ2)), (.ref b1)])) ?_ (fun _ kk_ => XS.iloadN X13.here hx rfl (hb hby at_77) rfl  (XS.iconst X13.here hx rfl (hb hby at_78) (XS.ishr X13.here hx rfl (hb hby at_79) rfl (XS.bipush X13.here hx rfl (hb hby at_80) (XS.iand X13.here hx rfl (hb hby at_82) rfl kk_)))))
  obtain ⟨o2, ho2, e_o2⟩ := own_low (p2 >>> ((4 : Int32) &&& 31)) 7 7 rfl (by decide)
  rw [e_o2]
  show Go p e below _ T13 (mkF m 83 #[iv p0, iv p1, iv p2, iv p3, iv p4, iv (Int32.ofNat r), rv b1, .unset, .unset, .unset, .unset, .unset, .unset, .unset, .unset, .unset, .unset, .unset, .unset, .unset, .unset, .unset, .unset, .unset, .unset, .unset] [(.int (Int32.ofNat o2)), (.int (Int32.ofNat s2)), (.int (Int32.ofNat ρ2)), (.ref b1)])
  have hρ2l : ρ2 < 2 := by omega
  have hs2l : s2 < 8 := by omega
  have ho2l : o2 < 8 := by omega
  refine Go.st (T' := T13) (g' := (mkF m 87 #[iv p0, iv p1, iv p2, iv p3, iv p4, iv (Int32.ofNat r), rv b1, .unset, .unset, .unset, .unset, .unset, .unset, .unset, .unset, .unset, .unset, .unset, .unset, .unset, .unset, .unset, .unset, .unset, .unset, .unset] [(.int (p2 >>> ((7 : Int32) &&& 31))), (.int (Int32.ofNat o2)), (.int (Int32.ofNat s2)), (.int (Int32.ofNat ρ2)), (.ref b1)])) ?_ (fun _ kk_ => XS.iloadN X13.here hx rfl (hb hby at_83) rfl  (XS.bipush X13.here hx rfl (hb hby at_84) (XS.ishr X13.here hx rfl (hb hby at_86) rfl kk_)))
  refine Go.callV (y := (⟨"com/example/rhadamanthus/rhadamanthus/analysis/Entries", "add", "(IIII)V"⟩ : MethodName)) (z := (⟨"com/example/rhadamanthus/rhadamanthus/analysis/Entries", "add", "(IIII)V"⟩ : MethodName)) X13 hx hZ hown (hw _ (List.mem_of_getElem? (i := 24) rfl)) (hw _ (List.mem_of_getElem? (i := 25) rfl)) (notFace_of_selects (args := #[]) (mvT hZ (hw _ (List.mem_of_getElem? (i := 27) rfl)))) (hw _ (List.mem_of_getElem? (i := 27) rfl)) (hw _ (List.mem_of_getElem? (i := 26) rfl)) (hw _ (List.mem_of_getElem? (i := 2) rfl)) (hw _ (List.mem_of_getElem? (i := 28) rfl)) (by decide) 0 (rm_add l Z a0 hw [] b1 rg2 D2 ρ2 s2 o2 _ n0 _ T13.heap ZZ13 hρ2l hs2l ho2l (by omega) OO13 I2 P2 hE2) rfl (by decide) (by decide) (by decide) (by decide) Ex2 (argsL := [(.int (Int32.ofNat ρ2)), (.int (Int32.ofNat s2)), (.int (Int32.ofNat o2)), (.int (p2 >>> ((7 : Int32) &&& 31)))]) (rest := []) rfl (by rw [hml]; rfl) (lenOf pd__28IIII_29V rfl) rfl rfl (by show 2 * 0 + _ ≤ _; exact Nat.le_of_eq rfl) (hb hby at_87) ?_
  rintro _ T15 L15 X15 ⟨rfl, N15, OO15, ZZ15, rg3, D3, I3, P3, hE3, hk3⟩
  have N16 := Fr.app N14 N15
  show Go p e below _ T15 (mkF m 90 #[iv p0, iv p1, iv p2, iv p3, iv p4, iv (Int32.ofNat r), rv b1, .unset, .unset, .unset, .unset, .unset, .unset, .unset, .unset, .unset, .unset, .unset, .unset, .unset, .unset, .unset, .unset, .unset, .unset, .unset] [])
  have Ex3 : Exa Z T15.heap b1 "com/example/rhadamanthus/rhadamanthus/analysis/Entries" := (I3.ent hE3).1
  refine Go.st (T' := T15) (g' := (mkF m 95 #[iv p0, iv p1, iv p2, iv p3, iv p4, iv (Int32.ofNat r), rv b1, .unset, .unset, .unset, .unset, .unset, .unset, .unset, .unset, .unset, .unset, .unset, .unset, .unset, .unset, .unset, .unset, .unset, .unset, .unset] [(.int (p3 &&& (1 : Int32))), (.ref b1)])) ?_ (fun _ kk_ => XS.aload X15.here hx rfl (hb hby at_90) rfl rfl  (XS.iloadN X15.here hx rfl (hb hby at_92) rfl  (XS.iconst X15.here hx rfl (hb hby at_93) (XS.iand X15.here hx rfl (hb hby at_94) rfl kk_))))
  obtain ⟨ρ3, hρ3, e_ρ3⟩ := own_low p3 1 1 rfl (by decide)
  rw [e_ρ3]
  show Go p e below _ T15 (mkF m 95 #[iv p0, iv p1, iv p2, iv p3, iv p4, iv (Int32.ofNat r), rv b1, .unset, .unset, .unset, .unset, .unset, .unset, .unset, .unset, .unset, .unset, .unset, .unset, .unset, .unset, .unset, .unset, .unset, .unset, .unset] [(.int (Int32.ofNat ρ3)), (.ref b1)])
  refine Go.st (T' := T15) (g' := (mkF m 101 #[iv p0, iv p1, iv p2, iv p3, iv p4, iv (Int32.ofNat r), rv b1, .unset, .unset, .unset, .unset, .unset, .unset, .unset, .unset, .unset, .unset, .unset, .unset, .unset, .unset, .unset, .unset, .unset, .unset, .unset] [(.int ((p3 >>> ((1 : Int32) &&& 31)) &&& (7 : Int32))), (.int (Int32.ofNat ρ3)), (.ref b1)])) ?_ (fun _ kk_ => XS.iloadN X15.here hx rfl (hb hby at_95) rfl  (XS.iconst X15.here hx rfl (hb hby at_96) (XS.ishr X15.here hx rfl (hb hby at_97) rfl (XS.bipush X15.here hx rfl (hb hby at_98) (XS.iand X15.here hx rfl (hb hby at_100) rfl kk_)))))
  obtain ⟨s3, hs3, e_s3⟩ := own_low (p3 >>> ((1 : Int32) &&& 31)) 7 7 rfl (by decide)
  rw [e_s3]
  show Go p e below _ T15 (mkF m 101 #[iv p0, iv p1, iv p2, iv p3, iv p4, iv (Int32.ofNat r), rv b1, .unset, .unset, .unset, .unset, .unset, .unset, .unset, .unset, .unset, .unset, .unset, .unset, .unset, .unset, .unset, .unset, .unset, .unset, .unset] [(.int (Int32.ofNat s3)), (.int (Int32.ofNat ρ3)), (.ref b1)])
  refine Go.st (T' := T15) (g' := (mkF m 107 #[iv p0, iv p1, iv p2, iv p3, iv p4, iv (Int32.ofNat r), rv b1, .unset, .unset, .unset, .unset, .unset, .unset, .unset, .unset, .unset, .unset, .unset, .unset, .unset, .unset, .unset, .unset, .unset, .unset, .unset] [(.int ((p3 >>> ((4 : Int32) &&& 31)) &&& (7 : Int32))), (.int (Int32.ofNat s3)), (.int (Int32.ofNat ρ3)), (.ref b1)])) ?_ (fun _ kk_ => XS.iloadN X15.here hx rfl (hb hby at_101) rfl  (XS.iconst X15.here hx rfl (hb hby at_102) (XS.ishr X15.here hx rfl (hb hby at_103) rfl (XS.bipush X15.here hx rfl (hb hby at_104) (XS.iand X15.here hx rfl (hb hby at_106) rfl kk_)))))
  obtain ⟨o3, ho3, e_o3⟩ := own_low (p3 >>> ((4 : Int32) &&& 31)) 7 7 rfl (by decide)
  rw [e_o3]
  show Go p e below _ T15 (mkF m 107 #[iv p0, iv p1, iv p2, iv p3, iv p4, iv (Int32.ofNat r), rv b1, .unset, .unset, .unset, .unset, .unset, .unset, .unset, .unset, .unset, .unset, .unset, .unset, .unset, .unset, .unset, .unset, .unset, .unset, .unset] [(.int (Int32.ofNat o3)), (.int (Int32.ofNat s3)), (.int (Int32.ofNat ρ3)), (.ref b1)])
  have hρ3l : ρ3 < 2 := by omega
  have hs3l : s3 < 8 := by omega
  have ho3l : o3 < 8 := by omega
  refine Go.st (T' := T15) (g' := (mkF m 111 #[iv p0, iv p1, iv p2, iv p3, iv p4, iv (Int32.ofNat r), rv b1, .unset, .unset, .unset, .unset, .unset, .unset, .unset, .unset, .unset, .unset, .unset, .unset, .unset, .unset, .unset, .unset, .unset, .unset, .unset] [(.int (p3 >>> ((7 : Int32) &&& 31))), (.int (Int32.ofNat o3)), (.int (Int32.ofNat s3)), (.int (Int32.ofNat ρ3)), (.ref b1)])) ?_ (fun _ kk_ => XS.iloadN X15.here hx rfl (hb hby at_107) rfl  (XS.bipush X15.here hx rfl (hb hby at_108) (XS.ishr X15.here hx rfl (hb hby at_110) rfl kk_)))
  refine Go.callV (y := (⟨"com/example/rhadamanthus/rhadamanthus/analysis/Entries", "add", "(IIII)V"⟩ : MethodName)) (z := (⟨"com/example/rhadamanthus/rhadamanthus/analysis/Entries", "add", "(IIII)V"⟩ : MethodName)) X15 hx hZ hown (hw _ (List.mem_of_getElem? (i := 24) rfl)) (hw _ (List.mem_of_getElem? (i := 25) rfl)) (notFace_of_selects (args := #[]) (mvT hZ (hw _ (List.mem_of_getElem? (i := 27) rfl)))) (hw _ (List.mem_of_getElem? (i := 27) rfl)) (hw _ (List.mem_of_getElem? (i := 26) rfl)) (hw _ (List.mem_of_getElem? (i := 2) rfl)) (hw _ (List.mem_of_getElem? (i := 28) rfl)) (by decide) 0 (rm_add l Z a0 hw [] b1 rg3 D3 ρ3 s3 o3 _ n0 _ T15.heap ZZ15 hρ3l hs3l ho3l (by omega) OO15 I3 P3 hE3) rfl (by decide) (by decide) (by decide) (by decide) Ex3 (argsL := [(.int (Int32.ofNat ρ3)), (.int (Int32.ofNat s3)), (.int (Int32.ofNat o3)), (.int (p3 >>> ((7 : Int32) &&& 31)))]) (rest := []) rfl (by rw [hml]; rfl) (lenOf pd__28IIII_29V rfl) rfl rfl (by show 2 * 0 + _ ≤ _; exact Nat.le_of_eq rfl) (hb hby at_111) ?_
  rintro _ T17 L17 X17 ⟨rfl, N17, OO17, ZZ17, rg4, D4, I4, P4, hE4, hk4⟩
  have N18 := Fr.app N16 N17
  show Go p e below _ T17 (mkF m 114 #[iv p0, iv p1, iv p2, iv p3, iv p4, iv (Int32.ofNat r), rv b1, .unset, .unset, .unset, .unset, .unset, .unset, .unset, .unset, .unset, .unset, .unset, .unset, .unset, .unset, .unset, .unset, .unset, .unset, .unset] [])
  have Ex4 : Exa Z T17.heap b1 "com/example/rhadamanthus/rhadamanthus/analysis/Entries" := (I4.ent hE4).1
  refine Go.st (T' := T17) (g' := (mkF m 118 #[iv p0, iv p1, iv p2, iv p3, iv p4, iv (Int32.ofNat r), rv b1, .unset, .unset, .unset, .unset, .unset, .unset, .unset, .unset, .unset, .unset, .unset, .unset, .unset, .unset, .unset, .unset, .unset, .unset, .unset] [(.int (Int32.ofNat r)), (.ref b1)])) ?_ (fun _ kk_ => XS.aload X17.here hx rfl (hb hby at_114) rfl rfl  (XS.iload X17.here hx rfl (hb hby at_116) rfl  kk_))
  refine Go.callV (y := (⟨"com/example/rhadamanthus/rhadamanthus/analysis/Entries", "all", "(I)[I"⟩ : MethodName)) (z := (⟨"com/example/rhadamanthus/rhadamanthus/analysis/Entries", "all", "(I)[I"⟩ : MethodName)) X17 hx hZ hown (hw _ (List.mem_of_getElem? (i := 67) rfl)) (hw _ (List.mem_of_getElem? (i := 68) rfl)) (notFace_of_selects (args := #[]) (mvT hZ (hw _ (List.mem_of_getElem? (i := 70) rfl)))) (hw _ (List.mem_of_getElem? (i := 70) rfl)) (hw _ (List.mem_of_getElem? (i := 69) rfl)) (hw _ (List.mem_of_getElem? (i := 2) rfl)) (hw _ (List.mem_of_getElem? (i := 71) rfl)) (by decide) 0 (rm_all l Z a0 hw [] b1 nA rg4 D4 r D4.k D4.k n0 _ T17.heap ZZ17 hr (by omega) (by omega) OO17 I4 P4 hE4 Sn Vn) rfl (by decide) (by decide) (by decide) (by decide) Ex4 (argsL := [(.int (Int32.ofNat r))]) (rest := []) rfl (by rw [hml]; rfl) (lenOf pd__28I_29_5bI rfl) rfl rfl (by show 2 * 0 + _ ≤ _; exact Nat.le_of_eq rfl) (hb hby at_118) ?_
  rintro _ T19 L19 X19 ⟨a, ga, rfl, N19, K19, Va, hga⟩
  have N20 := Fr.app N18 N19
  have O21 := OO17.keep K19 all0
  have Z22 : n0 ≤ T19.heap.size := Nat.le_trans ZZ17 K19.1
  show Go p e below _ T19 (mkF m 121 #[iv p0, iv p1, iv p2, iv p3, iv p4, iv (Int32.ofNat r), rv b1, .unset, .unset, .unset, .unset, .unset, .unset, .unset, .unset, .unset, .unset, .unset, .unset, .unset, .unset, .unset, .unset, .unset, .unset, .unset] [(.ref a)])
  refine Go.st (T' := T19) (g' := (mkF m 126 #[iv p0, iv p1, iv p2, iv p3, iv p4, iv (Int32.ofNat r), rv b1, rv a, .unset, .unset, .unset, .unset, .unset, .unset, .unset, .unset, .unset, .unset, .unset, .unset, .unset, .unset, .unset, .unset, .unset, .unset] [(.int (Int32.ofNat r)), (.int p0)])) ?_ (fun _ kk_ => XS.astore X19.here hx rfl (hb hby at_121) rfl rfl (l' := #[iv p0, iv p1, iv p2, iv p3, iv p4, iv (Int32.ofNat r), rv b1, rv a, .unset, .unset, .unset, .unset, .unset, .unset, .unset, .unset, .unset, .unset, .unset, .unset, .unset, .unset, .unset, .unset, .unset, .unset]) rfl (XS.iloadN X19.here hx rfl (hb hby at_123) rfl  (XS.iload X19.here hx rfl (hb hby at_124) rfl  kk_)))
  refine Go.callS (y := (⟨"com/example/rhadamanthus/rhadamanthus/analysis/EntriesAllPinLaw", "key", "(II)I"⟩ : MethodName)) X19 hx hZ hown (hw _ (List.mem_of_getElem? (i := 74) rfl)) (hw _ (List.mem_of_getElem? (i := 75) rfl)) (hw _ (List.mem_of_getElem? (i := 76) rfl)) (hw _ (List.mem_of_getElem? (i := 77) rfl)) (by decide) 0 (rm_key l Z a0 hw [] p0 ρ0 s0 o0 r T19.heap hρ0l hr hs0l ho0l e_ρ0 e_s0 e_o0) rfl (by decide) (by decide) (by decide) (by decide) (argsL := [(.int p0), (.int (Int32.ofNat r))]) (rest := []) rfl (by rw [hml]; rfl) (lenOf pd__28II_29I rfl) rfl rfl (by show 2 * 0 + _ ≤ _; exact Nat.le_of_eq rfl) (hb hby at_126) ?_
  rintro _ T23 L23 X23 ⟨rfl, e23, rfl⟩
  have N24 := Fr.app N20 (Fr.nil _)
  show Go p e below _ T23 (mkF m 129 #[iv p0, iv p1, iv p2, iv p3, iv p4, iv (Int32.ofNat r), rv b1, rv a, .unset, .unset, .unset, .unset, .unset, .unset, .unset, .unset, .unset, .unset, .unset, .unset, .unset, .unset, .unset, .unset, .unset, .unset] [(.int (Int32.ofNat (if ρ0 = r then 8 * s0 + o0 else 1000)))])
  obtain ⟨k0, ek0⟩ : ∃ k, k = (if ρ0 = r then 8 * s0 + o0 else 1000) := ⟨_, rfl⟩
  rw [← ek0]
  show Go p e below _ T23 (mkF m 129 #[iv p0, iv p1, iv p2, iv p3, iv p4, iv (Int32.ofNat r), rv b1, rv a, .unset, .unset, .unset, .unset, .unset, .unset, .unset, .unset, .unset, .unset, .unset, .unset, .unset, .unset, .unset, .unset, .unset, .unset] [(.int (Int32.ofNat k0))])
  have hbk0 : k0 ≤ 1000 := by rw [ek0]; exact own_key_le hs0l ho0l
  refine Go.st (T' := T23) (g' := (mkF m 134 #[iv p0, iv p1, iv p2, iv p3, iv p4, iv (Int32.ofNat r), rv b1, rv a, iv (Int32.ofNat k0), .unset, .unset, .unset, .unset, .unset, .unset, .unset, .unset, .unset, .unset, .unset, .unset, .unset, .unset, .unset, .unset, .unset] [(.int (Int32.ofNat r)), (.int p1)])) ?_ (fun _ kk_ => XS.istore X23.here hx rfl (hb hby at_129) rfl (l' := #[iv p0, iv p1, iv p2, iv p3, iv p4, iv (Int32.ofNat r), rv b1, rv a, iv (Int32.ofNat k0), .unset, .unset, .unset, .unset, .unset, .unset, .unset, .unset, .unset, .unset, .unset, .unset, .unset, .unset, .unset, .unset, .unset]) rfl (XS.iloadN X23.here hx rfl (hb hby at_131) rfl  (XS.iload X23.here hx rfl (hb hby at_132) rfl  kk_)))
  refine Go.callS (y := (⟨"com/example/rhadamanthus/rhadamanthus/analysis/EntriesAllPinLaw", "key", "(II)I"⟩ : MethodName)) X23 hx hZ hown (hw _ (List.mem_of_getElem? (i := 74) rfl)) (hw _ (List.mem_of_getElem? (i := 75) rfl)) (hw _ (List.mem_of_getElem? (i := 76) rfl)) (hw _ (List.mem_of_getElem? (i := 77) rfl)) (by decide) 0 (rm_key l Z a0 hw [] p1 ρ1 s1 o1 r T19.heap hρ1l hr hs1l ho1l e_ρ1 e_s1 e_o1) e23 (by decide) (by decide) (by decide) (by decide) (argsL := [(.int p1), (.int (Int32.ofNat r))]) (rest := []) rfl (by rw [hml]; rfl) (lenOf pd__28II_29I rfl) rfl rfl (by show 2 * 0 + _ ≤ _; exact Nat.le_of_eq rfl) (hb hby at_134) ?_
  rintro _ T25 L25 X25 ⟨rfl, e25, rfl⟩
  have N26 := Fr.app N24 (Fr.nil _)
  show Go p e below _ T25 (mkF m 137 #[iv p0, iv p1, iv p2, iv p3, iv p4, iv (Int32.ofNat r), rv b1, rv a, iv (Int32.ofNat k0), .unset, .unset, .unset, .unset, .unset, .unset, .unset, .unset, .unset, .unset, .unset, .unset, .unset, .unset, .unset, .unset, .unset] [(.int (Int32.ofNat (if ρ1 = r then 8 * s1 + o1 else 1000)))])
  obtain ⟨k1, ek1⟩ : ∃ k, k = (if ρ1 = r then 8 * s1 + o1 else 1000) := ⟨_, rfl⟩
  rw [← ek1]
  show Go p e below _ T25 (mkF m 137 #[iv p0, iv p1, iv p2, iv p3, iv p4, iv (Int32.ofNat r), rv b1, rv a, iv (Int32.ofNat k0), .unset, .unset, .unset, .unset, .unset, .unset, .unset, .unset, .unset, .unset, .unset, .unset, .unset, .unset, .unset, .unset, .unset] [(.int (Int32.ofNat k1))])
  have hbk1 : k1 ≤ 1000 := by rw [ek1]; exact own_key_le hs1l ho1l
  refine Go.st (T' := T25) (g' := (mkF m 142 #[iv p0, iv p1, iv p2, iv p3, iv p4, iv (Int32.ofNat r), rv b1, rv a, iv (Int32.ofNat k0), iv (Int32.ofNat k1), .unset, .unset, .unset, .unset, .unset, .unset, .unset, .unset, .unset, .unset, .unset, .unset, .unset, .unset, .unset, .unset] [(.int (Int32.ofNat r)), (.int p2)])) ?_ (fun _ kk_ => XS.istore X25.here hx rfl (hb hby at_137) rfl (l' := #[iv p0, iv p1, iv p2, iv p3, iv p4, iv (Int32.ofNat r), rv b1, rv a, iv (Int32.ofNat k0), iv (Int32.ofNat k1), .unset, .unset, .unset, .unset, .unset, .unset, .unset, .unset, .unset, .unset, .unset, .unset, .unset, .unset, .unset, .unset]) rfl (XS.iloadN X25.here hx rfl (hb hby at_139) rfl  (XS.iload X25.here hx rfl (hb hby at_140) rfl  kk_)))
  refine Go.callS (y := (⟨"com/example/rhadamanthus/rhadamanthus/analysis/EntriesAllPinLaw", "key", "(II)I"⟩ : MethodName)) X25 hx hZ hown (hw _ (List.mem_of_getElem? (i := 74) rfl)) (hw _ (List.mem_of_getElem? (i := 75) rfl)) (hw _ (List.mem_of_getElem? (i := 76) rfl)) (hw _ (List.mem_of_getElem? (i := 77) rfl)) (by decide) 0 (rm_key l Z a0 hw [] p2 ρ2 s2 o2 r T19.heap hρ2l hr hs2l ho2l e_ρ2 e_s2 e_o2) e25 (by decide) (by decide) (by decide) (by decide) (argsL := [(.int p2), (.int (Int32.ofNat r))]) (rest := []) rfl (by rw [hml]; rfl) (lenOf pd__28II_29I rfl) rfl rfl (by show 2 * 0 + _ ≤ _; exact Nat.le_of_eq rfl) (hb hby at_142) ?_
  rintro _ T27 L27 X27 ⟨rfl, e27, rfl⟩
  have N28 := Fr.app N26 (Fr.nil _)
  show Go p e below _ T27 (mkF m 145 #[iv p0, iv p1, iv p2, iv p3, iv p4, iv (Int32.ofNat r), rv b1, rv a, iv (Int32.ofNat k0), iv (Int32.ofNat k1), .unset, .unset, .unset, .unset, .unset, .unset, .unset, .unset, .unset, .unset, .unset, .unset, .unset, .unset, .unset, .unset] [(.int (Int32.ofNat (if ρ2 = r then 8 * s2 + o2 else 1000)))])
  obtain ⟨k2, ek2⟩ : ∃ k, k = (if ρ2 = r then 8 * s2 + o2 else 1000) := ⟨_, rfl⟩
  rw [← ek2]
  show Go p e below _ T27 (mkF m 145 #[iv p0, iv p1, iv p2, iv p3, iv p4, iv (Int32.ofNat r), rv b1, rv a, iv (Int32.ofNat k0), iv (Int32.ofNat k1), .unset, .unset, .unset, .unset, .unset, .unset, .unset, .unset, .unset, .unset, .unset, .unset, .unset, .unset, .unset, .unset] [(.int (Int32.ofNat k2))])
  have hbk2 : k2 ≤ 1000 := by rw [ek2]; exact own_key_le hs2l ho2l
  refine Go.st (T' := T27) (g' := (mkF m 150 #[iv p0, iv p1, iv p2, iv p3, iv p4, iv (Int32.ofNat r), rv b1, rv a, iv (Int32.ofNat k0), iv (Int32.ofNat k1), iv (Int32.ofNat k2), .unset, .unset, .unset, .unset, .unset, .unset, .unset, .unset, .unset, .unset, .unset, .unset, .unset, .unset, .unset] [(.int (Int32.ofNat r)), (.int p3)])) ?_ (fun _ kk_ => XS.istore X27.here hx rfl (hb hby at_145) rfl (l' := #[iv p0, iv p1, iv p2, iv p3, iv p4, iv (Int32.ofNat r), rv b1, rv a, iv (Int32.ofNat k0), iv (Int32.ofNat k1), iv (Int32.ofNat k2), .unset, .unset, .unset, .unset, .unset, .unset, .unset, .unset, .unset, .unset, .unset, .unset, .unset, .unset, .unset]) rfl (XS.iloadN X27.here hx rfl (hb hby at_147) rfl  (XS.iload X27.here hx rfl (hb hby at_148) rfl  kk_)))
  refine Go.callS (y := (⟨"com/example/rhadamanthus/rhadamanthus/analysis/EntriesAllPinLaw", "key", "(II)I"⟩ : MethodName)) X27 hx hZ hown (hw _ (List.mem_of_getElem? (i := 74) rfl)) (hw _ (List.mem_of_getElem? (i := 75) rfl)) (hw _ (List.mem_of_getElem? (i := 76) rfl)) (hw _ (List.mem_of_getElem? (i := 77) rfl)) (by decide) 0 (rm_key l Z a0 hw [] p3 ρ3 s3 o3 r T19.heap hρ3l hr hs3l ho3l e_ρ3 e_s3 e_o3) e27 (by decide) (by decide) (by decide) (by decide) (argsL := [(.int p3), (.int (Int32.ofNat r))]) (rest := []) rfl (by rw [hml]; rfl) (lenOf pd__28II_29I rfl) rfl rfl (by show 2 * 0 + _ ≤ _; exact Nat.le_of_eq rfl) (hb hby at_150) ?_
  rintro _ T29 L29 X29 ⟨rfl, e29, rfl⟩
  have N30 := Fr.app N28 (Fr.nil _)
  show Go p e below _ T29 (mkF m 153 #[iv p0, iv p1, iv p2, iv p3, iv p4, iv (Int32.ofNat r), rv b1, rv a, iv (Int32.ofNat k0), iv (Int32.ofNat k1), iv (Int32.ofNat k2), .unset, .unset, .unset, .unset, .unset, .unset, .unset, .unset, .unset, .unset, .unset, .unset, .unset, .unset, .unset] [(.int (Int32.ofNat (if ρ3 = r then 8 * s3 + o3 else 1000)))])
  obtain ⟨k3, ek3⟩ : ∃ k, k = (if ρ3 = r then 8 * s3 + o3 else 1000) := ⟨_, rfl⟩
  rw [← ek3]
  show Go p e below _ T29 (mkF m 153 #[iv p0, iv p1, iv p2, iv p3, iv p4, iv (Int32.ofNat r), rv b1, rv a, iv (Int32.ofNat k0), iv (Int32.ofNat k1), iv (Int32.ofNat k2), .unset, .unset, .unset, .unset, .unset, .unset, .unset, .unset, .unset, .unset, .unset, .unset, .unset, .unset, .unset] [(.int (Int32.ofNat k3))])
  have hbk3 : k3 ≤ 1000 := by rw [ek3]; exact own_key_le hs3l ho3l
  refine Go.st (T' := T29) (g' := (mkF m 159 #[iv p0, iv p1, iv p2, iv p3, iv p4, iv (Int32.ofNat r), rv b1, rv a, iv (Int32.ofNat k0), iv (Int32.ofNat k1), iv (Int32.ofNat k2), iv (Int32.ofNat k3), .unset, .unset, .unset, .unset, .unset, .unset, .unset, .unset, .unset, .unset, .unset, .unset, .unset, .unset] [(.int (Int32.ofNat k1)), (.int (Int32.ofNat k0))])) ?_ (fun _ kk_ => XS.istore X29.here hx rfl (hb hby at_153) rfl (l' := #[iv p0, iv p1, iv p2, iv p3, iv p4, iv (Int32.ofNat r), rv b1, rv a, iv (Int32.ofNat k0), iv (Int32.ofNat k1), iv (Int32.ofNat k2), iv (Int32.ofNat k3), .unset, .unset, .unset, .unset, .unset, .unset, .unset, .unset, .unset, .unset, .unset, .unset, .unset, .unset]) rfl (XS.iload X29.here hx rfl (hb hby at_155) rfl  (XS.iload X29.here hx rfl (hb hby at_157) rfl  kk_)))
  refine Go.callS (y := (⟨"java/lang/Math", "min", "(II)I"⟩ : MethodName)) X29 hx hZ hown (hw _ (List.mem_of_getElem? (i := 78) rfl)) (hw _ (List.mem_of_getElem? (i := 79) rfl)) (hw _ (List.mem_of_getElem? (i := 80) rfl)) (hw _ (List.mem_of_getElem? (i := 81) rfl)) (by decide) 0 (rm_min l Z a0 hw [] k0 k1 T19.heap hbk0 hbk1) e29 (by decide) (by decide) (by decide) (by decide) (argsL := [(.int (Int32.ofNat k0)), (.int (Int32.ofNat k1))]) (rest := []) rfl (by rw [hml]; rfl) (lenOf pd__28II_29I rfl) rfl rfl (by show 2 * 0 + _ ≤ _; exact Nat.le_of_eq rfl) (hb hby at_159) ?_
  rintro _ T31 L31 X31 ⟨rfl, e31, rfl⟩
  have N32 := Fr.app N30 (Fr.nil _)
  show Go p e below _ T31 (mkF m 162 #[iv p0, iv p1, iv p2, iv p3, iv p4, iv (Int32.ofNat r), rv b1, rv a, iv (Int32.ofNat k0), iv (Int32.ofNat k1), iv (Int32.ofNat k2), iv (Int32.ofNat k3), .unset, .unset, .unset, .unset, .unset, .unset, .unset, .unset, .unset, .unset, .unset, .unset, .unset, .unset] [(.int (Int32.ofNat (min k0 k1)))])
  obtain ⟨c0, ec0⟩ : ∃ k, k = min k0 k1 := ⟨_, rfl⟩
  rw [← ec0]
  show Go p e below _ T31 (mkF m 162 #[iv p0, iv p1, iv p2, iv p3, iv p4, iv (Int32.ofNat r), rv b1, rv a, iv (Int32.ofNat k0), iv (Int32.ofNat k1), iv (Int32.ofNat k2), iv (Int32.ofNat k3), .unset, .unset, .unset, .unset, .unset, .unset, .unset, .unset, .unset, .unset, .unset, .unset, .unset, .unset] [(.int (Int32.ofNat c0))])
  have hbc0 : c0 ≤ 1000 := by omega
  refine Go.st (T' := T31) (g' := (mkF m 168 #[iv p0, iv p1, iv p2, iv p3, iv p4, iv (Int32.ofNat r), rv b1, rv a, iv (Int32.ofNat k0), iv (Int32.ofNat k1), iv (Int32.ofNat k2), iv (Int32.ofNat k3), iv (Int32.ofNat c0), .unset, .unset, .unset, .unset, .unset, .unset, .unset, .unset, .unset, .unset, .unset, .unset, .unset] [(.int (Int32.ofNat k1)), (.int (Int32.ofNat k0))])) ?_ (fun _ kk_ => XS.istore X31.here hx rfl (hb hby at_162) rfl (l' := #[iv p0, iv p1, iv p2, iv p3, iv p4, iv (Int32.ofNat r), rv b1, rv a, iv (Int32.ofNat k0), iv (Int32.ofNat k1), iv (Int32.ofNat k2), iv (Int32.ofNat k3), iv (Int32.ofNat c0), .unset, .unset, .unset, .unset, .unset, .unset, .unset, .unset, .unset, .unset, .unset, .unset, .unset]) rfl (XS.iload X31.here hx rfl (hb hby at_164) rfl  (XS.iload X31.here hx rfl (hb hby at_166) rfl  kk_)))
  refine Go.callS (y := (⟨"java/lang/Math", "max", "(II)I"⟩ : MethodName)) X31 hx hZ hown (hw _ (List.mem_of_getElem? (i := 82) rfl)) (hw _ (List.mem_of_getElem? (i := 83) rfl)) (hw _ (List.mem_of_getElem? (i := 80) rfl)) (hw _ (List.mem_of_getElem? (i := 84) rfl)) (by decide) 0 (rm_max l Z a0 hw [] k0 k1 T19.heap hbk0 hbk1) e31 (by decide) (by decide) (by decide) (by decide) (argsL := [(.int (Int32.ofNat k0)), (.int (Int32.ofNat k1))]) (rest := []) rfl (by rw [hml]; rfl) (lenOf pd__28II_29I rfl) rfl rfl (by show 2 * 0 + _ ≤ _; exact Nat.le_of_eq rfl) (hb hby at_168) ?_
  rintro _ T33 L33 X33 ⟨rfl, e33, rfl⟩
  have N34 := Fr.app N32 (Fr.nil _)
  show Go p e below _ T33 (mkF m 171 #[iv p0, iv p1, iv p2, iv p3, iv p4, iv (Int32.ofNat r), rv b1, rv a, iv (Int32.ofNat k0), iv (Int32.ofNat k1), iv (Int32.ofNat k2), iv (Int32.ofNat k3), iv (Int32.ofNat c0), .unset, .unset, .unset, .unset, .unset, .unset, .unset, .unset, .unset, .unset, .unset, .unset, .unset] [(.int (Int32.ofNat (max k0 k1)))])
  obtain ⟨c1, ec1⟩ : ∃ k, k = max k0 k1 := ⟨_, rfl⟩
  rw [← ec1]
  show Go p e below _ T33 (mkF m 171 #[iv p0, iv p1, iv p2, iv p3, iv p4, iv (Int32.ofNat r), rv b1, rv a, iv (Int32.ofNat k0), iv (Int32.ofNat k1), iv (Int32.ofNat k2), iv (Int32.ofNat k3), iv (Int32.ofNat c0), .unset, .unset, .unset, .unset, .unset, .unset, .unset, .unset, .unset, .unset, .unset, .unset, .unset] [(.int (Int32.ofNat c1))])
  have hbc1 : c1 ≤ 1000 := by omega
  refine Go.st (T' := T33) (g' := (mkF m 177 #[iv p0, iv p1, iv p2, iv p3, iv p4, iv (Int32.ofNat r), rv b1, rv a, iv (Int32.ofNat k0), iv (Int32.ofNat k1), iv (Int32.ofNat k2), iv (Int32.ofNat k3), iv (Int32.ofNat c0), iv (Int32.ofNat c1), .unset, .unset, .unset, .unset, .unset, .unset, .unset, .unset, .unset, .unset, .unset, .unset] [(.int (Int32.ofNat k3)), (.int (Int32.ofNat k2))])) ?_ (fun _ kk_ => XS.istore X33.here hx rfl (hb hby at_171) rfl (l' := #[iv p0, iv p1, iv p2, iv p3, iv p4, iv (Int32.ofNat r), rv b1, rv a, iv (Int32.ofNat k0), iv (Int32.ofNat k1), iv (Int32.ofNat k2), iv (Int32.ofNat k3), iv (Int32.ofNat c0), iv (Int32.ofNat c1), .unset, .unset, .unset, .unset, .unset, .unset, .unset, .unset, .unset, .unset, .unset, .unset]) rfl (XS.iload X33.here hx rfl (hb hby at_173) rfl  (XS.iload X33.here hx rfl (hb hby at_175) rfl  kk_)))
  refine Go.callS (y := (⟨"java/lang/Math", "min", "(II)I"⟩ : MethodName)) X33 hx hZ hown (hw _ (List.mem_of_getElem? (i := 78) rfl)) (hw _ (List.mem_of_getElem? (i := 79) rfl)) (hw _ (List.mem_of_getElem? (i := 80) rfl)) (hw _ (List.mem_of_getElem? (i := 81) rfl)) (by decide) 0 (rm_min l Z a0 hw [] k2 k3 T19.heap hbk2 hbk3) e33 (by decide) (by decide) (by decide) (by decide) (argsL := [(.int (Int32.ofNat k2)), (.int (Int32.ofNat k3))]) (rest := []) rfl (by rw [hml]; rfl) (lenOf pd__28II_29I rfl) rfl rfl (by show 2 * 0 + _ ≤ _; exact Nat.le_of_eq rfl) (hb hby at_177) ?_
  rintro _ T35 L35 X35 ⟨rfl, e35, rfl⟩
  have N36 := Fr.app N34 (Fr.nil _)
  show Go p e below _ T35 (mkF m 180 #[iv p0, iv p1, iv p2, iv p3, iv p4, iv (Int32.ofNat r), rv b1, rv a, iv (Int32.ofNat k0), iv (Int32.ofNat k1), iv (Int32.ofNat k2), iv (Int32.ofNat k3), iv (Int32.ofNat c0), iv (Int32.ofNat c1), .unset, .unset, .unset, .unset, .unset, .unset, .unset, .unset, .unset, .unset, .unset, .unset] [(.int (Int32.ofNat (min k2 k3)))])
  obtain ⟨c2, ec2⟩ : ∃ k, k = min k2 k3 := ⟨_, rfl⟩
  rw [← ec2]
  show Go p e below _ T35 (mkF m 180 #[iv p0, iv p1, iv p2, iv p3, iv p4, iv (Int32.ofNat r), rv b1, rv a, iv (Int32.ofNat k0), iv (Int32.ofNat k1), iv (Int32.ofNat k2), iv (Int32.ofNat k3), iv (Int32.ofNat c0), iv (Int32.ofNat c1), .unset, .unset, .unset, .unset, .unset, .unset, .unset, .unset, .unset, .unset, .unset, .unset] [(.int (Int32.ofNat c2))])
  have hbc2 : c2 ≤ 1000 := by omega
  refine Go.st (T' := T35) (g' := (mkF m 186 #[iv p0, iv p1, iv p2, iv p3, iv p4, iv (Int32.ofNat r), rv b1, rv a, iv (Int32.ofNat k0), iv (Int32.ofNat k1), iv (Int32.ofNat k2), iv (Int32.ofNat k3), iv (Int32.ofNat c0), iv (Int32.ofNat c1), iv (Int32.ofNat c2), .unset, .unset, .unset, .unset, .unset, .unset, .unset, .unset, .unset, .unset, .unset] [(.int (Int32.ofNat k3)), (.int (Int32.ofNat k2))])) ?_ (fun _ kk_ => XS.istore X35.here hx rfl (hb hby at_180) rfl (l' := #[iv p0, iv p1, iv p2, iv p3, iv p4, iv (Int32.ofNat r), rv b1, rv a, iv (Int32.ofNat k0), iv (Int32.ofNat k1), iv (Int32.ofNat k2), iv (Int32.ofNat k3), iv (Int32.ofNat c0), iv (Int32.ofNat c1), iv (Int32.ofNat c2), .unset, .unset, .unset, .unset, .unset, .unset, .unset, .unset, .unset, .unset, .unset]) rfl (XS.iload X35.here hx rfl (hb hby at_182) rfl  (XS.iload X35.here hx rfl (hb hby at_184) rfl  kk_)))
  refine Go.callS (y := (⟨"java/lang/Math", "max", "(II)I"⟩ : MethodName)) X35 hx hZ hown (hw _ (List.mem_of_getElem? (i := 82) rfl)) (hw _ (List.mem_of_getElem? (i := 83) rfl)) (hw _ (List.mem_of_getElem? (i := 80) rfl)) (hw _ (List.mem_of_getElem? (i := 84) rfl)) (by decide) 0 (rm_max l Z a0 hw [] k2 k3 T19.heap hbk2 hbk3) e35 (by decide) (by decide) (by decide) (by decide) (argsL := [(.int (Int32.ofNat k2)), (.int (Int32.ofNat k3))]) (rest := []) rfl (by rw [hml]; rfl) (lenOf pd__28II_29I rfl) rfl rfl (by show 2 * 0 + _ ≤ _; exact Nat.le_of_eq rfl) (hb hby at_186) ?_
  rintro _ T37 L37 X37 ⟨rfl, e37, rfl⟩
  have N38 := Fr.app N36 (Fr.nil _)
  show Go p e below _ T37 (mkF m 189 #[iv p0, iv p1, iv p2, iv p3, iv p4, iv (Int32.ofNat r), rv b1, rv a, iv (Int32.ofNat k0), iv (Int32.ofNat k1), iv (Int32.ofNat k2), iv (Int32.ofNat k3), iv (Int32.ofNat c0), iv (Int32.ofNat c1), iv (Int32.ofNat c2), .unset, .unset, .unset, .unset, .unset, .unset, .unset, .unset, .unset, .unset, .unset] [(.int (Int32.ofNat (max k2 k3)))])
  obtain ⟨c3, ec3⟩ : ∃ k, k = max k2 k3 := ⟨_, rfl⟩
  rw [← ec3]
  show Go p e below _ T37 (mkF m 189 #[iv p0, iv p1, iv p2, iv p3, iv p4, iv (Int32.ofNat r), rv b1, rv a, iv (Int32.ofNat k0), iv (Int32.ofNat k1), iv (Int32.ofNat k2), iv (Int32.ofNat k3), iv (Int32.ofNat c0), iv (Int32.ofNat c1), iv (Int32.ofNat c2), .unset, .unset, .unset, .unset, .unset, .unset, .unset, .unset, .unset, .unset, .unset] [(.int (Int32.ofNat c3))])
  have hbc3 : c3 ≤ 1000 := by omega
  refine Go.st (T' := T37) (g' := (mkF m 195 #[iv p0, iv p1, iv p2, iv p3, iv p4, iv (Int32.ofNat r), rv b1, rv a, iv (Int32.ofNat k0), iv (Int32.ofNat k1), iv (Int32.ofNat k2), iv (Int32.ofNat k3), iv (Int32.ofNat c0), iv (Int32.ofNat c1), iv (Int32.ofNat c2), iv (Int32.ofNat c3), .unset, .unset, .unset, .unset, .unset, .unset, .unset, .unset, .unset, .unset] [(.int (Int32.ofNat c2)), (.int (Int32.ofNat c0))])) ?_ (fun _ kk_ => XS.istore X37.here hx rfl (hb hby at_189) rfl (l' := #[iv p0, iv p1, iv p2, iv p3, iv p4, iv (Int32.ofNat r), rv b1, rv a, iv (Int32.ofNat k0), iv (Int32.ofNat k1), iv (Int32.ofNat k2), iv (Int32.ofNat k3), iv (Int32.ofNat c0), iv (Int32.ofNat c1), iv (Int32.ofNat c2), iv (Int32.ofNat c3), .unset, .unset, .unset, .unset, .unset, .unset, .unset, .unset, .unset, .unset]) rfl (XS.iload X37.here hx rfl (hb hby at_191) rfl  (XS.iload X37.here hx rfl (hb hby at_193) rfl  kk_)))
  refine Go.callS (y := (⟨"java/lang/Math", "min", "(II)I"⟩ : MethodName)) X37 hx hZ hown (hw _ (List.mem_of_getElem? (i := 78) rfl)) (hw _ (List.mem_of_getElem? (i := 79) rfl)) (hw _ (List.mem_of_getElem? (i := 80) rfl)) (hw _ (List.mem_of_getElem? (i := 81) rfl)) (by decide) 0 (rm_min l Z a0 hw [] c0 c2 T19.heap hbc0 hbc2) e37 (by decide) (by decide) (by decide) (by decide) (argsL := [(.int (Int32.ofNat c0)), (.int (Int32.ofNat c2))]) (rest := []) rfl (by rw [hml]; rfl) (lenOf pd__28II_29I rfl) rfl rfl (by show 2 * 0 + _ ≤ _; exact Nat.le_of_eq rfl) (hb hby at_195) ?_
  rintro _ T39 L39 X39 ⟨rfl, e39, rfl⟩
  have N40 := Fr.app N38 (Fr.nil _)
  show Go p e below _ T39 (mkF m 198 #[iv p0, iv p1, iv p2, iv p3, iv p4, iv (Int32.ofNat r), rv b1, rv a, iv (Int32.ofNat k0), iv (Int32.ofNat k1), iv (Int32.ofNat k2), iv (Int32.ofNat k3), iv (Int32.ofNat c0), iv (Int32.ofNat c1), iv (Int32.ofNat c2), iv (Int32.ofNat c3), .unset, .unset, .unset, .unset, .unset, .unset, .unset, .unset, .unset, .unset] [(.int (Int32.ofNat (min c0 c2)))])
  obtain ⟨d0, ed0⟩ : ∃ k, k = min c0 c2 := ⟨_, rfl⟩
  rw [← ed0]
  show Go p e below _ T39 (mkF m 198 #[iv p0, iv p1, iv p2, iv p3, iv p4, iv (Int32.ofNat r), rv b1, rv a, iv (Int32.ofNat k0), iv (Int32.ofNat k1), iv (Int32.ofNat k2), iv (Int32.ofNat k3), iv (Int32.ofNat c0), iv (Int32.ofNat c1), iv (Int32.ofNat c2), iv (Int32.ofNat c3), .unset, .unset, .unset, .unset, .unset, .unset, .unset, .unset, .unset, .unset] [(.int (Int32.ofNat d0))])
  have hbd0 : d0 ≤ 1000 := by omega
  refine Go.st (T' := T39) (g' := (mkF m 204 #[iv p0, iv p1, iv p2, iv p3, iv p4, iv (Int32.ofNat r), rv b1, rv a, iv (Int32.ofNat k0), iv (Int32.ofNat k1), iv (Int32.ofNat k2), iv (Int32.ofNat k3), iv (Int32.ofNat c0), iv (Int32.ofNat c1), iv (Int32.ofNat c2), iv (Int32.ofNat c3), iv (Int32.ofNat d0), .unset, .unset, .unset, .unset, .unset, .unset, .unset, .unset, .unset] [(.int (Int32.ofNat c2)), (.int (Int32.ofNat c0))])) ?_ (fun _ kk_ => XS.istore X39.here hx rfl (hb hby at_198) rfl (l' := #[iv p0, iv p1, iv p2, iv p3, iv p4, iv (Int32.ofNat r), rv b1, rv a, iv (Int32.ofNat k0), iv (Int32.ofNat k1), iv (Int32.ofNat k2), iv (Int32.ofNat k3), iv (Int32.ofNat c0), iv (Int32.ofNat c1), iv (Int32.ofNat c2), iv (Int32.ofNat c3), iv (Int32.ofNat d0), .unset, .unset, .unset, .unset, .unset, .unset, .unset, .unset, .unset]) rfl (XS.iload X39.here hx rfl (hb hby at_200) rfl  (XS.iload X39.here hx rfl (hb hby at_202) rfl  kk_)))
  refine Go.callS (y := (⟨"java/lang/Math", "max", "(II)I"⟩ : MethodName)) X39 hx hZ hown (hw _ (List.mem_of_getElem? (i := 82) rfl)) (hw _ (List.mem_of_getElem? (i := 83) rfl)) (hw _ (List.mem_of_getElem? (i := 80) rfl)) (hw _ (List.mem_of_getElem? (i := 84) rfl)) (by decide) 0 (rm_max l Z a0 hw [] c0 c2 T19.heap hbc0 hbc2) e39 (by decide) (by decide) (by decide) (by decide) (argsL := [(.int (Int32.ofNat c0)), (.int (Int32.ofNat c2))]) (rest := []) rfl (by rw [hml]; rfl) (lenOf pd__28II_29I rfl) rfl rfl (by show 2 * 0 + _ ≤ _; exact Nat.le_of_eq rfl) (hb hby at_204) ?_
  rintro _ T41 L41 X41 ⟨rfl, e41, rfl⟩
  have N42 := Fr.app N40 (Fr.nil _)
  show Go p e below _ T41 (mkF m 207 #[iv p0, iv p1, iv p2, iv p3, iv p4, iv (Int32.ofNat r), rv b1, rv a, iv (Int32.ofNat k0), iv (Int32.ofNat k1), iv (Int32.ofNat k2), iv (Int32.ofNat k3), iv (Int32.ofNat c0), iv (Int32.ofNat c1), iv (Int32.ofNat c2), iv (Int32.ofNat c3), iv (Int32.ofNat d0), .unset, .unset, .unset, .unset, .unset, .unset, .unset, .unset, .unset] [(.int (Int32.ofNat (max c0 c2)))])
  obtain ⟨d2, ed2⟩ : ∃ k, k = max c0 c2 := ⟨_, rfl⟩
  rw [← ed2]
  show Go p e below _ T41 (mkF m 207 #[iv p0, iv p1, iv p2, iv p3, iv p4, iv (Int32.ofNat r), rv b1, rv a, iv (Int32.ofNat k0), iv (Int32.ofNat k1), iv (Int32.ofNat k2), iv (Int32.ofNat k3), iv (Int32.ofNat c0), iv (Int32.ofNat c1), iv (Int32.ofNat c2), iv (Int32.ofNat c3), iv (Int32.ofNat d0), .unset, .unset, .unset, .unset, .unset, .unset, .unset, .unset, .unset] [(.int (Int32.ofNat d2))])
  have hbd2 : d2 ≤ 1000 := by omega
  refine Go.st (T' := T41) (g' := (mkF m 213 #[iv p0, iv p1, iv p2, iv p3, iv p4, iv (Int32.ofNat r), rv b1, rv a, iv (Int32.ofNat k0), iv (Int32.ofNat k1), iv (Int32.ofNat k2), iv (Int32.ofNat k3), iv (Int32.ofNat c0), iv (Int32.ofNat c1), iv (Int32.ofNat c2), iv (Int32.ofNat c3), iv (Int32.ofNat d0), iv (Int32.ofNat d2), .unset, .unset, .unset, .unset, .unset, .unset, .unset, .unset] [(.int (Int32.ofNat c3)), (.int (Int32.ofNat c1))])) ?_ (fun _ kk_ => XS.istore X41.here hx rfl (hb hby at_207) rfl (l' := #[iv p0, iv p1, iv p2, iv p3, iv p4, iv (Int32.ofNat r), rv b1, rv a, iv (Int32.ofNat k0), iv (Int32.ofNat k1), iv (Int32.ofNat k2), iv (Int32.ofNat k3), iv (Int32.ofNat c0), iv (Int32.ofNat c1), iv (Int32.ofNat c2), iv (Int32.ofNat c3), iv (Int32.ofNat d0), iv (Int32.ofNat d2), .unset, .unset, .unset, .unset, .unset, .unset, .unset, .unset]) rfl (XS.iload X41.here hx rfl (hb hby at_209) rfl  (XS.iload X41.here hx rfl (hb hby at_211) rfl  kk_)))
  refine Go.callS (y := (⟨"java/lang/Math", "min", "(II)I"⟩ : MethodName)) X41 hx hZ hown (hw _ (List.mem_of_getElem? (i := 78) rfl)) (hw _ (List.mem_of_getElem? (i := 79) rfl)) (hw _ (List.mem_of_getElem? (i := 80) rfl)) (hw _ (List.mem_of_getElem? (i := 81) rfl)) (by decide) 0 (rm_min l Z a0 hw [] c1 c3 T19.heap hbc1 hbc3) e41 (by decide) (by decide) (by decide) (by decide) (argsL := [(.int (Int32.ofNat c1)), (.int (Int32.ofNat c3))]) (rest := []) rfl (by rw [hml]; rfl) (lenOf pd__28II_29I rfl) rfl rfl (by show 2 * 0 + _ ≤ _; exact Nat.le_of_eq rfl) (hb hby at_213) ?_
  rintro _ T43 L43 X43 ⟨rfl, e43, rfl⟩
  have N44 := Fr.app N42 (Fr.nil _)
  show Go p e below _ T43 (mkF m 216 #[iv p0, iv p1, iv p2, iv p3, iv p4, iv (Int32.ofNat r), rv b1, rv a, iv (Int32.ofNat k0), iv (Int32.ofNat k1), iv (Int32.ofNat k2), iv (Int32.ofNat k3), iv (Int32.ofNat c0), iv (Int32.ofNat c1), iv (Int32.ofNat c2), iv (Int32.ofNat c3), iv (Int32.ofNat d0), iv (Int32.ofNat d2), .unset, .unset, .unset, .unset, .unset, .unset, .unset, .unset] [(.int (Int32.ofNat (min c1 c3)))])
  obtain ⟨d1, ed1⟩ : ∃ k, k = min c1 c3 := ⟨_, rfl⟩
  rw [← ed1]
  show Go p e below _ T43 (mkF m 216 #[iv p0, iv p1, iv p2, iv p3, iv p4, iv (Int32.ofNat r), rv b1, rv a, iv (Int32.ofNat k0), iv (Int32.ofNat k1), iv (Int32.ofNat k2), iv (Int32.ofNat k3), iv (Int32.ofNat c0), iv (Int32.ofNat c1), iv (Int32.ofNat c2), iv (Int32.ofNat c3), iv (Int32.ofNat d0), iv (Int32.ofNat d2), .unset, .unset, .unset, .unset, .unset, .unset, .unset, .unset] [(.int (Int32.ofNat d1))])
  have hbd1 : d1 ≤ 1000 := by omega
  refine Go.st (T' := T43) (g' := (mkF m 222 #[iv p0, iv p1, iv p2, iv p3, iv p4, iv (Int32.ofNat r), rv b1, rv a, iv (Int32.ofNat k0), iv (Int32.ofNat k1), iv (Int32.ofNat k2), iv (Int32.ofNat k3), iv (Int32.ofNat c0), iv (Int32.ofNat c1), iv (Int32.ofNat c2), iv (Int32.ofNat c3), iv (Int32.ofNat d0), iv (Int32.ofNat d2), iv (Int32.ofNat d1), .unset, .unset, .unset, .unset, .unset, .unset, .unset] [(.int (Int32.ofNat c3)), (.int (Int32.ofNat c1))])) ?_ (fun _ kk_ => XS.istore X43.here hx rfl (hb hby at_216) rfl (l' := #[iv p0, iv p1, iv p2, iv p3, iv p4, iv (Int32.ofNat r), rv b1, rv a, iv (Int32.ofNat k0), iv (Int32.ofNat k1), iv (Int32.ofNat k2), iv (Int32.ofNat k3), iv (Int32.ofNat c0), iv (Int32.ofNat c1), iv (Int32.ofNat c2), iv (Int32.ofNat c3), iv (Int32.ofNat d0), iv (Int32.ofNat d2), iv (Int32.ofNat d1), .unset, .unset, .unset, .unset, .unset, .unset, .unset]) rfl (XS.iload X43.here hx rfl (hb hby at_218) rfl  (XS.iload X43.here hx rfl (hb hby at_220) rfl  kk_)))
  refine Go.callS (y := (⟨"java/lang/Math", "max", "(II)I"⟩ : MethodName)) X43 hx hZ hown (hw _ (List.mem_of_getElem? (i := 82) rfl)) (hw _ (List.mem_of_getElem? (i := 83) rfl)) (hw _ (List.mem_of_getElem? (i := 80) rfl)) (hw _ (List.mem_of_getElem? (i := 84) rfl)) (by decide) 0 (rm_max l Z a0 hw [] c1 c3 T19.heap hbc1 hbc3) e43 (by decide) (by decide) (by decide) (by decide) (argsL := [(.int (Int32.ofNat c1)), (.int (Int32.ofNat c3))]) (rest := []) rfl (by rw [hml]; rfl) (lenOf pd__28II_29I rfl) rfl rfl (by show 2 * 0 + _ ≤ _; exact Nat.le_of_eq rfl) (hb hby at_222) ?_
  rintro _ T45 L45 X45 ⟨rfl, e45, rfl⟩
  have N46 := Fr.app N44 (Fr.nil _)
  show Go p e below _ T45 (mkF m 225 #[iv p0, iv p1, iv p2, iv p3, iv p4, iv (Int32.ofNat r), rv b1, rv a, iv (Int32.ofNat k0), iv (Int32.ofNat k1), iv (Int32.ofNat k2), iv (Int32.ofNat k3), iv (Int32.ofNat c0), iv (Int32.ofNat c1), iv (Int32.ofNat c2), iv (Int32.ofNat c3), iv (Int32.ofNat d0), iv (Int32.ofNat d2), iv (Int32.ofNat d1), .unset, .unset, .unset, .unset, .unset, .unset, .unset] [(.int (Int32.ofNat (max c1 c3)))])
  obtain ⟨d3, ed3⟩ : ∃ k, k = max c1 c3 := ⟨_, rfl⟩
  rw [← ed3]
  show Go p e below _ T45 (mkF m 225 #[iv p0, iv p1, iv p2, iv p3, iv p4, iv (Int32.ofNat r), rv b1, rv a, iv (Int32.ofNat k0), iv (Int32.ofNat k1), iv (Int32.ofNat k2), iv (Int32.ofNat k3), iv (Int32.ofNat c0), iv (Int32.ofNat c1), iv (Int32.ofNat c2), iv (Int32.ofNat c3), iv (Int32.ofNat d0), iv (Int32.ofNat d2), iv (Int32.ofNat d1), .unset, .unset, .unset, .unset, .unset, .unset, .unset] [(.int (Int32.ofNat d3))])
  have hbd3 : d3 ≤ 1000 := by omega
  refine Go.st (T' := T45) (g' := (mkF m 235 #[iv p0, iv p1, iv p2, iv p3, iv p4, iv (Int32.ofNat r), rv b1, rv a, iv (Int32.ofNat k0), iv (Int32.ofNat k1), iv (Int32.ofNat k2), iv (Int32.ofNat k3), iv (Int32.ofNat c0), iv (Int32.ofNat c1), iv (Int32.ofNat c2), iv (Int32.ofNat c3), iv (Int32.ofNat d0), iv (Int32.ofNat d2), iv (Int32.ofNat d1), iv (Int32.ofNat d3), iv (Int32.ofNat d0), .unset, .unset, .unset, .unset, .unset] [(.int (Int32.ofNat d2)), (.int (Int32.ofNat d1))])) ?_ (fun _ kk_ => XS.istore X45.here hx rfl (hb hby at_225) rfl (l' := #[iv p0, iv p1, iv p2, iv p3, iv p4, iv (Int32.ofNat r), rv b1, rv a, iv (Int32.ofNat k0), iv (Int32.ofNat k1), iv (Int32.ofNat k2), iv (Int32.ofNat k3), iv (Int32.ofNat c0), iv (Int32.ofNat c1), iv (Int32.ofNat c2), iv (Int32.ofNat c3), iv (Int32.ofNat d0), iv (Int32.ofNat d2), iv (Int32.ofNat d1), iv (Int32.ofNat d3), .unset, .unset, .unset, .unset, .unset, .unset]) rfl (XS.iload X45.here hx rfl (hb hby at_227) rfl  (XS.istore X45.here hx rfl (hb hby at_229) rfl (l' := #[iv p0, iv p1, iv p2, iv p3, iv p4, iv (Int32.ofNat r), rv b1, rv a, iv (Int32.ofNat k0), iv (Int32.ofNat k1), iv (Int32.ofNat k2), iv (Int32.ofNat k3), iv (Int32.ofNat c0), iv (Int32.ofNat c1), iv (Int32.ofNat c2), iv (Int32.ofNat c3), iv (Int32.ofNat d0), iv (Int32.ofNat d2), iv (Int32.ofNat d1), iv (Int32.ofNat d3), iv (Int32.ofNat d0), .unset, .unset, .unset, .unset, .unset]) rfl (XS.iload X45.here hx rfl (hb hby at_231) rfl  (XS.iload X45.here hx rfl (hb hby at_233) rfl  kk_)))))
  refine Go.callS (y := (⟨"java/lang/Math", "min", "(II)I"⟩ : MethodName)) X45 hx hZ hown (hw _ (List.mem_of_getElem? (i := 78) rfl)) (hw _ (List.mem_of_getElem? (i := 79) rfl)) (hw _ (List.mem_of_getElem? (i := 80) rfl)) (hw _ (List.mem_of_getElem? (i := 81) rfl)) (by decide) 0 (rm_min l Z a0 hw [] d1 d2 T19.heap hbd1 hbd2) e45 (by decide) (by decide) (by decide) (by decide) (argsL := [(.int (Int32.ofNat d1)), (.int (Int32.ofNat d2))]) (rest := []) rfl (by rw [hml]; rfl) (lenOf pd__28II_29I rfl) rfl rfl (by show 2 * 0 + _ ≤ _; exact Nat.le_of_eq rfl) (hb hby at_235) ?_
  rintro _ T47 L47 X47 ⟨rfl, e47, rfl⟩
  have N48 := Fr.app N46 (Fr.nil _)
  show Go p e below _ T47 (mkF m 238 #[iv p0, iv p1, iv p2, iv p3, iv p4, iv (Int32.ofNat r), rv b1, rv a, iv (Int32.ofNat k0), iv (Int32.ofNat k1), iv (Int32.ofNat k2), iv (Int32.ofNat k3), iv (Int32.ofNat c0), iv (Int32.ofNat c1), iv (Int32.ofNat c2), iv (Int32.ofNat c3), iv (Int32.ofNat d0), iv (Int32.ofNat d2), iv (Int32.ofNat d1), iv (Int32.ofNat d3), iv (Int32.ofNat d0), .unset, .unset, .unset, .unset, .unset] [(.int (Int32.ofNat (min d1 d2)))])
  obtain ⟨t1, et1⟩ : ∃ k, k = min d1 d2 := ⟨_, rfl⟩
  rw [← et1]
  show Go p e below _ T47 (mkF m 238 #[iv p0, iv p1, iv p2, iv p3, iv p4, iv (Int32.ofNat r), rv b1, rv a, iv (Int32.ofNat k0), iv (Int32.ofNat k1), iv (Int32.ofNat k2), iv (Int32.ofNat k3), iv (Int32.ofNat c0), iv (Int32.ofNat c1), iv (Int32.ofNat c2), iv (Int32.ofNat c3), iv (Int32.ofNat d0), iv (Int32.ofNat d2), iv (Int32.ofNat d1), iv (Int32.ofNat d3), iv (Int32.ofNat d0), .unset, .unset, .unset, .unset, .unset] [(.int (Int32.ofNat t1))])
  have hbt1 : t1 ≤ 1000 := by omega
  refine Go.st (T' := T47) (g' := (mkF m 244 #[iv p0, iv p1, iv p2, iv p3, iv p4, iv (Int32.ofNat r), rv b1, rv a, iv (Int32.ofNat k0), iv (Int32.ofNat k1), iv (Int32.ofNat k2), iv (Int32.ofNat k3), iv (Int32.ofNat c0), iv (Int32.ofNat c1), iv (Int32.ofNat c2), iv (Int32.ofNat c3), iv (Int32.ofNat d0), iv (Int32.ofNat d2), iv (Int32.ofNat d1), iv (Int32.ofNat d3), iv (Int32.ofNat d0), iv (Int32.ofNat t1), .unset, .unset, .unset, .unset] [(.int (Int32.ofNat d2)), (.int (Int32.ofNat d1))])) ?_ (fun _ kk_ => XS.istore X47.here hx rfl (hb hby at_238) rfl (l' := #[iv p0, iv p1, iv p2, iv p3, iv p4, iv (Int32.ofNat r), rv b1, rv a, iv (Int32.ofNat k0), iv (Int32.ofNat k1), iv (Int32.ofNat k2), iv (Int32.ofNat k3), iv (Int32.ofNat c0), iv (Int32.ofNat c1), iv (Int32.ofNat c2), iv (Int32.ofNat c3), iv (Int32.ofNat d0), iv (Int32.ofNat d2), iv (Int32.ofNat d1), iv (Int32.ofNat d3), iv (Int32.ofNat d0), iv (Int32.ofNat t1), .unset, .unset, .unset, .unset]) rfl (XS.iload X47.here hx rfl (hb hby at_240) rfl  (XS.iload X47.here hx rfl (hb hby at_242) rfl  kk_)))
  refine Go.callS (y := (⟨"java/lang/Math", "max", "(II)I"⟩ : MethodName)) X47 hx hZ hown (hw _ (List.mem_of_getElem? (i := 82) rfl)) (hw _ (List.mem_of_getElem? (i := 83) rfl)) (hw _ (List.mem_of_getElem? (i := 80) rfl)) (hw _ (List.mem_of_getElem? (i := 84) rfl)) (by decide) 0 (rm_max l Z a0 hw [] d1 d2 T19.heap hbd1 hbd2) e47 (by decide) (by decide) (by decide) (by decide) (argsL := [(.int (Int32.ofNat d1)), (.int (Int32.ofNat d2))]) (rest := []) rfl (by rw [hml]; rfl) (lenOf pd__28II_29I rfl) rfl rfl (by show 2 * 0 + _ ≤ _; exact Nat.le_of_eq rfl) (hb hby at_244) ?_
  rintro _ T49 L49 X49 ⟨rfl, e49, rfl⟩
  have N50 := Fr.app N48 (Fr.nil _)
  show Go p e below _ T49 (mkF m 247 #[iv p0, iv p1, iv p2, iv p3, iv p4, iv (Int32.ofNat r), rv b1, rv a, iv (Int32.ofNat k0), iv (Int32.ofNat k1), iv (Int32.ofNat k2), iv (Int32.ofNat k3), iv (Int32.ofNat c0), iv (Int32.ofNat c1), iv (Int32.ofNat c2), iv (Int32.ofNat c3), iv (Int32.ofNat d0), iv (Int32.ofNat d2), iv (Int32.ofNat d1), iv (Int32.ofNat d3), iv (Int32.ofNat d0), iv (Int32.ofNat t1), .unset, .unset, .unset, .unset] [(.int (Int32.ofNat (max d1 d2)))])
  obtain ⟨t2, et2⟩ : ∃ k, k = max d1 d2 := ⟨_, rfl⟩
  rw [← et2]
  show Go p e below _ T49 (mkF m 247 #[iv p0, iv p1, iv p2, iv p3, iv p4, iv (Int32.ofNat r), rv b1, rv a, iv (Int32.ofNat k0), iv (Int32.ofNat k1), iv (Int32.ofNat k2), iv (Int32.ofNat k3), iv (Int32.ofNat c0), iv (Int32.ofNat c1), iv (Int32.ofNat c2), iv (Int32.ofNat c3), iv (Int32.ofNat d0), iv (Int32.ofNat d2), iv (Int32.ofNat d1), iv (Int32.ofNat d3), iv (Int32.ofNat d0), iv (Int32.ofNat t1), .unset, .unset, .unset, .unset] [(.int (Int32.ofNat t2))])
  have hbt2 : t2 ≤ 1000 := by omega
  refine Go.st (T' := T49) (g' := (mkF m 254 #[iv p0, iv p1, iv p2, iv p3, iv p4, iv (Int32.ofNat r), rv b1, rv a, iv (Int32.ofNat k0), iv (Int32.ofNat k1), iv (Int32.ofNat k2), iv (Int32.ofNat k3), iv (Int32.ofNat c0), iv (Int32.ofNat c1), iv (Int32.ofNat c2), iv (Int32.ofNat c3), iv (Int32.ofNat d0), iv (Int32.ofNat d2), iv (Int32.ofNat d1), iv (Int32.ofNat d3), iv (Int32.ofNat d0), iv (Int32.ofNat t1), iv (Int32.ofNat t2), iv (Int32.ofNat d3), .unset, .unset] [(.int (4 : Int32))])) ?_ (fun _ kk_ => XS.istore X49.here hx rfl (hb hby at_247) rfl (l' := #[iv p0, iv p1, iv p2, iv p3, iv p4, iv (Int32.ofNat r), rv b1, rv a, iv (Int32.ofNat k0), iv (Int32.ofNat k1), iv (Int32.ofNat k2), iv (Int32.ofNat k3), iv (Int32.ofNat c0), iv (Int32.ofNat c1), iv (Int32.ofNat c2), iv (Int32.ofNat c3), iv (Int32.ofNat d0), iv (Int32.ofNat d2), iv (Int32.ofNat d1), iv (Int32.ofNat d3), iv (Int32.ofNat d0), iv (Int32.ofNat t1), iv (Int32.ofNat t2), .unset, .unset, .unset]) rfl (XS.iload X49.here hx rfl (hb hby at_249) rfl  (XS.istore X49.here hx rfl (hb hby at_251) rfl (l' := #[iv p0, iv p1, iv p2, iv p3, iv p4, iv (Int32.ofNat r), rv b1, rv a, iv (Int32.ofNat k0), iv (Int32.ofNat k1), iv (Int32.ofNat k2), iv (Int32.ofNat k3), iv (Int32.ofNat c0), iv (Int32.ofNat c1), iv (Int32.ofNat c2), iv (Int32.ofNat c3), iv (Int32.ofNat d0), iv (Int32.ofNat d2), iv (Int32.ofNat d1), iv (Int32.ofNat d3), iv (Int32.ofNat d0), iv (Int32.ofNat t1), iv (Int32.ofNat t2), iv (Int32.ofNat d3), .unset, .unset]) rfl (XS.iconst X49.here hx rfl (hb hby at_253) kk_))))
  obtain ⟨q1, q2, q3, q4⟩ : d0 ≤ t1 ∧ t1 ≤ t2 ∧ t2 ≤ d3 ∧ ∀ x, (x = d0 ∨ x = t1 ∨ x = t2 ∨ x = d3) ↔ (x = k0 ∨ x = k1 ∨ x = k2 ∨ x = k3) := by rw [et1, et2, ed0, ed1, ed2, ed3, ec0, ec1, ec2, ec3]; exact srt4_ok k0 k1 k2 k3
  have hKL : keysOf (D4.H r) (D4.R r) = exOf d0 t1 t2 d3 := own_final (ρ0 := ρ0) (ρ1 := ρ1) (ρ2 := ρ2) (ρ3 := ρ3) (s0 := s0) (s1 := s1) (s2 := s2) (s3 := s3) (o0 := o0) (o1 := o1) (o2 := o2) (o3 := o3) P4 ⟨hs0l, ho0l⟩ ⟨hs1l, ho1l⟩ ⟨hs2l, ho2l⟩ ⟨hs3l, ho3l⟩ (fun x => by simp only [false_or, or_assoc]) q1 q2 q3 (by rw [← ek0, ← ek1, ← ek2, ← ek3]; exact q4)
  refine Go.newP X49 hx hZ (aty := .int) (hw _ (List.mem_of_getElem? (i := 21) rfl)) e49 rfl (hb hby at_254) (n := 4) rfl rfl 4 (by decide) (by decide) (by decide) (by decide) ?_
  intro T51 h51 b51 X51 e51 E51 g51 V51
  have ne_a_b51 : a ≠ b51 := Nat.ne_of_lt (Nat.lt_of_lt_of_eq (Va).lt g51.symm)
  have g_b51 : n0 ≤ b51 := Nat.le_trans Z22 (Nat.le_of_eq g51.symm)
  have O52 := O21.ext E51
  have Z53 : n0 ≤ h51.size := Nat.le_trans Z22 E51.1
  change Ary Z h51 b51 .int (IL 4 (fun _ => 0)) at V51
  show Go p e below _ T51 (mkF m 256 #[iv p0, iv p1, iv p2, iv p3, iv p4, iv (Int32.ofNat r), rv b1, rv a, iv (Int32.ofNat k0), iv (Int32.ofNat k1), iv (Int32.ofNat k2), iv (Int32.ofNat k3), iv (Int32.ofNat c0), iv (Int32.ofNat c1), iv (Int32.ofNat c2), iv (Int32.ofNat c3), iv (Int32.ofNat d0), iv (Int32.ofNat d2), iv (Int32.ofNat d1), iv (Int32.ofNat d3), iv (Int32.ofNat d0), iv (Int32.ofNat t1), iv (Int32.ofNat t2), iv (Int32.ofNat d3), .unset, .unset] [(.ref b51)])
  refine Go.st (T' := T51) (g' := (mkF m 261 #[iv p0, iv p1, iv p2, iv p3, iv p4, iv (Int32.ofNat r), rv b1, rv a, iv (Int32.ofNat k0), iv (Int32.ofNat k1), iv (Int32.ofNat k2), iv (Int32.ofNat k3), iv (Int32.ofNat c0), iv (Int32.ofNat c1), iv (Int32.ofNat c2), iv (Int32.ofNat c3), iv (Int32.ofNat d0), iv (Int32.ofNat d2), iv (Int32.ofNat d1), iv (Int32.ofNat d3), iv (Int32.ofNat d0), iv (Int32.ofNat t1), iv (Int32.ofNat t2), iv (Int32.ofNat d3), rv b51, iv (0 : Int32)] [])) ?_ (fun _ kk_ => XS.astore X51.here hx rfl (hb hby at_256) rfl rfl (l' := #[iv p0, iv p1, iv p2, iv p3, iv p4, iv (Int32.ofNat r), rv b1, rv a, iv (Int32.ofNat k0), iv (Int32.ofNat k1), iv (Int32.ofNat k2), iv (Int32.ofNat k3), iv (Int32.ofNat c0), iv (Int32.ofNat c1), iv (Int32.ofNat c2), iv (Int32.ofNat c3), iv (Int32.ofNat d0), iv (Int32.ofNat d2), iv (Int32.ofNat d1), iv (Int32.ofNat d3), iv (Int32.ofNat d0), iv (Int32.ofNat t1), iv (Int32.ofNat t2), iv (Int32.ofNat d3), rv b51, .unset]) rfl (XS.iconst X51.here hx rfl (hb hby at_258) (XS.istore X51.here hx rfl (hb hby at_259) rfl (l' := #[iv p0, iv p1, iv p2, iv p3, iv p4, iv (Int32.ofNat r), rv b1, rv a, iv (Int32.ofNat k0), iv (Int32.ofNat k1), iv (Int32.ofNat k2), iv (Int32.ofNat k3), iv (Int32.ofNat c0), iv (Int32.ofNat c1), iv (Int32.ofNat c2), iv (Int32.ofNat c3), iv (Int32.ofNat d0), iv (Int32.ofNat d2), iv (Int32.ofNat d1), iv (Int32.ofNat d3), iv (Int32.ofNat d0), iv (Int32.ofNat t1), iv (Int32.ofNat t2), iv (Int32.ofNat d3), rv b51, iv (0 : Int32)]) rfl kk_)))
  have c4x : ∀ (T_c4x : State) (h_c4x : Heap) (lo_c4x : List Loc) (n : Nat) (y : Nat → Int32), Stand p l e room_1 s m #[(.int p0), (.int p1), (.int p2), (.int p3), (.int p4)] below meth c T_c4x lo_c4x 43 189 → T_c4x.heap = h_c4x → Fr n0 lo_c4x → Old Z n0 h_c4x → n0 ≤ h_c4x.size → Ary Z h_c4x a .int (IL (2 * (keysOf (D4.H r) (D4.R r)).length) ga) → Ary Z h_c4x b51 .int (IL 4 y) → (n = ((((if d0 < 1000 then [d0] else []) ++ if t1 < 1000 ∧ t1 ≠ d0 then [t1] else []) ++ if t2 < 1000 ∧ t2 ≠ t1 then [t2] else []) ++ if d3 < 1000 ∧ d3 ≠ t2 then [d3] else []).length) → (n ≤ 4) → (∀ p_ x_, ((((if d0 < 1000 then [d0] else []) ++ if t1 < 1000 ∧ t1 ≠ d0 then [t1] else []) ++ if t2 < 1000 ∧ t2 ≠ t1 then [t2] else []) ++ if d3 < 1000 ∧ d3 ≠ t2 then [d3] else [])[p_]? = some x_ → y p_ = Int32.ofNat x_) → Go p e below (Wf s room_1.cells room_1.slots (fun v h L => v = some (.int (1 : Int32)) ∧ Fr n0 L)) T_c4x (mkF m 354 #[iv p0, iv p1, iv p2, iv p3, iv p4, iv (Int32.ofNat r), rv b1, rv a, iv (Int32.ofNat k0), iv (Int32.ofNat k1), iv (Int32.ofNat k2), iv (Int32.ofNat k3), iv (Int32.ofNat c0), iv (Int32.ofNat c1), iv (Int32.ofNat c2), iv (Int32.ofNat c3), iv (Int32.ofNat d0), iv (Int32.ofNat d2), iv (Int32.ofNat d1), iv (Int32.ofNat d3), iv (Int32.ofNat d0), iv (Int32.ofNat t1), iv (Int32.ofNat t2), iv (Int32.ofNat d3), rv b51, iv (Int32.ofNat n)] []) := by
    intro T_c4x h_c4x lo_c4x n  y  X_c4x e_c4x N_c4x O_c4x Z_c4x f_c4x_0 f_c4x_1 hn hni hy
    have hn2 : (keysOf (D4.H r) (D4.R r)).length = n := by rw [hKL, hn]; rfl
    have hy2 : ∀ p_ x_, (exOf d0 t1 t2 d3)[p_]? = some x_ → y p_ = Int32.ofNat x_ := hy
    have h64 : ∀ x ∈ (exOf d0 t1 t2 d3), x < 64 := fun x hx_ => by rw [← hKL] at hx_; obtain ⟨s_, hs_, o_, ho_, rfl⟩ := (keysOf_mem x).mp hx_; have := P4.H2 r s_ hs_; have := P4.R2 r s_ o_ ho_; omega
    rw [hn2] at f_c4x_0
    refine Go.st (T' := T_c4x) (g' := (mkF m 361 #[iv p0, iv p1, iv p2, iv p3, iv p4, iv (Int32.ofNat r), rv b1, rv a, iv (Int32.ofNat k0), iv (Int32.ofNat k1), iv (Int32.ofNat k2), iv (Int32.ofNat k3), iv (Int32.ofNat c0), iv (Int32.ofNat c1), iv (Int32.ofNat c2), iv (Int32.ofNat c3), iv (Int32.ofNat d0), iv (Int32.ofNat d2), iv (Int32.ofNat d1), iv (Int32.ofNat d3), iv (Int32.ofNat d0), iv (Int32.ofNat t1), iv (Int32.ofNat t2), iv (Int32.ofNat d3), rv b51, iv (Int32.ofNat n)] [(.int ((2 : Int32) * (Int32.ofNat n))), (.int (Int32.ofNat (2 * n)))])) ?_ (fun _ kk_ => XS.aload X_c4x.here hx rfl (hb hby at_354) rfl rfl  (own_alen X_c4x hx hZ e_c4x f_c4x_0 (IL_len _ _) rfl rfl (hb hby at_356) (XS.iconst X_c4x.here hx rfl (hb hby at_357) (XS.iload X_c4x.here hx rfl (hb hby at_358) rfl  (XS.imul X_c4x.here hx rfl (hb hby at_360) rfl kk_)))))
    rw [show (2 : Int32) * Int32.ofNat n = Int32.ofNat (2 * n) from (Int32.ofNat_mul 2 n).symm]
    show Go p e below _ T_c4x (mkF m 361 #[iv p0, iv p1, iv p2, iv p3, iv p4, iv (Int32.ofNat r), rv b1, rv a, iv (Int32.ofNat k0), iv (Int32.ofNat k1), iv (Int32.ofNat k2), iv (Int32.ofNat k3), iv (Int32.ofNat c0), iv (Int32.ofNat c1), iv (Int32.ofNat c2), iv (Int32.ofNat c3), iv (Int32.ofNat d0), iv (Int32.ofNat d2), iv (Int32.ofNat d1), iv (Int32.ofNat d3), iv (Int32.ofNat d0), iv (Int32.ofNat t1), iv (Int32.ofNat t2), iv (Int32.ofNat d3), rv b51, iv (Int32.ofNat n)] [(.int (Int32.ofNat (2 * n))), (.int (Int32.ofNat (2 * n)))])
    refine Go.st (T' := T_c4x) (g' := (mkF m 373 #[iv p0, iv p1, iv p2, iv p3, iv p4, iv (Int32.ofNat r), rv b1, rv a, iv (Int32.ofNat k0), iv (Int32.ofNat k1), iv (Int32.ofNat k2), iv (Int32.ofNat k3), iv (Int32.ofNat c0), iv (Int32.ofNat c1), iv (Int32.ofNat c2), iv (Int32.ofNat c3), iv (Int32.ofNat d0), iv (Int32.ofNat d2), iv (Int32.ofNat d1), iv (Int32.ofNat d3), iv (Int32.ofNat d0), iv (Int32.ofNat t1), iv (Int32.ofNat t2), iv (Int32.ofNat d3), rv b51, iv (Int32.ofNat n)] [(.int (0 : Int32)), (.ref b51), (.int (Int32.ofNat n)), (.ref a)])) ?_ (fun _ kk_ => XS.icmpYes X_c4x.here hx rfl (pc0 := 361) (pc' := 366) rfl (hb hby at_361) rfl (teq (rfl : (Int32.ofNat (2 * n)) = (Int32.ofNat (2 * n)))).1 (by decide) (by decide) (XS.aload X_c4x.here hx rfl (hb hby at_366) rfl rfl  (XS.iload X_c4x.here hx rfl (hb hby at_368) rfl  (XS.aload X_c4x.here hx rfl (hb hby at_370) rfl rfl  (XS.iconst X_c4x.here hx rfl (hb hby at_372) kk_)))))
    have hg2 : ∀ p_ x_, (exOf d0 t1 t2 d3)[p_]? = some x_ → ga (2 * p_) = Int32.ofNat (x_ / 8) ∧ ga (2 * p_ + 1) = Int32.ofNat (x_ % 8) := fun p_ x_ q => hga p_ x_ (by rw [hKL]; exact (List.getElem?_eq_some_iff.mp q).1) (by rw [hKL]; exact q)
    refine Go.callS (y := (⟨"com/example/rhadamanthus/rhadamanthus/analysis/EntriesAllPinLaw", "at", "([II[II)Z"⟩ : MethodName)) X_c4x hx hZ hown (hw _ (List.mem_of_getElem? (i := 85) rfl)) (hw _ (List.mem_of_getElem? (i := 86) rfl)) (hw _ (List.mem_of_getElem? (i := 76) rfl)) (hw _ (List.mem_of_getElem? (i := 87) rfl)) (by decide) 0 (rm_at_ l Z a0 hw [] a b51 n 0 ga y (exOf d0 t1 t2 d3) h_c4x hni (by decide) (by rw [← hKL]; exact hn2) h64 hg2 hy2 f_c4x_0 f_c4x_1) e_c4x (by decide) (by decide) (by decide) (by decide) (argsL := [(.ref a), (.int (Int32.ofNat n)), (.ref b51), (.int (0 : Int32))]) (rest := []) rfl (by rw [hml]; rfl) (lenOf pd__28_5bII_5bII_29Z rfl) rfl rfl (by show 2 * 0 + _ ≤ _; exact Nat.le_of_eq rfl) (hb hby at_373) ?_
    rintro _ T54 L54 X54 ⟨rfl, e54, rfl⟩
    have N55 := Fr.app N_c4x (Fr.nil _)
    show Go p e below _ T54 (mkF m 376 #[iv p0, iv p1, iv p2, iv p3, iv p4, iv (Int32.ofNat r), rv b1, rv a, iv (Int32.ofNat k0), iv (Int32.ofNat k1), iv (Int32.ofNat k2), iv (Int32.ofNat k3), iv (Int32.ofNat c0), iv (Int32.ofNat c1), iv (Int32.ofNat c2), iv (Int32.ofNat c3), iv (Int32.ofNat d0), iv (Int32.ofNat d2), iv (Int32.ofNat d1), iv (Int32.ofNat d3), iv (Int32.ofNat d0), iv (Int32.ofNat t1), iv (Int32.ofNat t2), iv (Int32.ofNat d3), rv b51, iv (Int32.ofNat n)] [(.int (1 : Int32))])
    refine Go.st (T' := T54) (g' := (mkF m 386 #[iv p0, iv p1, iv p2, iv p3, iv p4, iv (Int32.ofNat r), rv b1, rv a, iv (Int32.ofNat k0), iv (Int32.ofNat k1), iv (Int32.ofNat k2), iv (Int32.ofNat k3), iv (Int32.ofNat c0), iv (Int32.ofNat c1), iv (Int32.ofNat c2), iv (Int32.ofNat c3), iv (Int32.ofNat d0), iv (Int32.ofNat d2), iv (Int32.ofNat d1), iv (Int32.ofNat d3), iv (Int32.ofNat d0), iv (Int32.ofNat t1), iv (Int32.ofNat t2), iv (Int32.ofNat d3), rv b51, iv (Int32.ofNat n)] [(.int (1 : Int32)), (.ref b51), (.int (Int32.ofNat n)), (.ref a)])) ?_ (fun _ kk_ => XS.ifNo X54.here hx rfl (hb hby at_376) rfl ((if0 _ _).trans (feq ((by decide) : ¬ ((1 : Int32) = (0 : Int32)))).1) (XS.aload X54.here hx rfl (hb hby at_379) rfl rfl  (XS.iload X54.here hx rfl (hb hby at_381) rfl  (XS.aload X54.here hx rfl (hb hby at_383) rfl rfl  (XS.iconst X54.here hx rfl (hb hby at_385) kk_)))))
    refine Go.callS (y := (⟨"com/example/rhadamanthus/rhadamanthus/analysis/EntriesAllPinLaw", "at", "([II[II)Z"⟩ : MethodName)) X54 hx hZ hown (hw _ (List.mem_of_getElem? (i := 85) rfl)) (hw _ (List.mem_of_getElem? (i := 86) rfl)) (hw _ (List.mem_of_getElem? (i := 76) rfl)) (hw _ (List.mem_of_getElem? (i := 87) rfl)) (by decide) 0 (rm_at_ l Z a0 hw [] a b51 n 1 ga y (exOf d0 t1 t2 d3) h_c4x hni (by decide) (by rw [← hKL]; exact hn2) h64 hg2 hy2 f_c4x_0 f_c4x_1) e54 (by decide) (by decide) (by decide) (by decide) (argsL := [(.ref a), (.int (Int32.ofNat n)), (.ref b51), (.int (1 : Int32))]) (rest := []) rfl (by rw [hml]; rfl) (lenOf pd__28_5bII_5bII_29Z rfl) rfl rfl (by show 2 * 0 + _ ≤ _; exact Nat.le_of_eq rfl) (hb hby at_386) ?_
    rintro _ T56 L56 X56 ⟨rfl, e56, rfl⟩
    have N57 := Fr.app N55 (Fr.nil _)
    show Go p e below _ T56 (mkF m 389 #[iv p0, iv p1, iv p2, iv p3, iv p4, iv (Int32.ofNat r), rv b1, rv a, iv (Int32.ofNat k0), iv (Int32.ofNat k1), iv (Int32.ofNat k2), iv (Int32.ofNat k3), iv (Int32.ofNat c0), iv (Int32.ofNat c1), iv (Int32.ofNat c2), iv (Int32.ofNat c3), iv (Int32.ofNat d0), iv (Int32.ofNat d2), iv (Int32.ofNat d1), iv (Int32.ofNat d3), iv (Int32.ofNat d0), iv (Int32.ofNat t1), iv (Int32.ofNat t2), iv (Int32.ofNat d3), rv b51, iv (Int32.ofNat n)] [(.int (1 : Int32))])
    refine Go.st (T' := T56) (g' := (mkF m 399 #[iv p0, iv p1, iv p2, iv p3, iv p4, iv (Int32.ofNat r), rv b1, rv a, iv (Int32.ofNat k0), iv (Int32.ofNat k1), iv (Int32.ofNat k2), iv (Int32.ofNat k3), iv (Int32.ofNat c0), iv (Int32.ofNat c1), iv (Int32.ofNat c2), iv (Int32.ofNat c3), iv (Int32.ofNat d0), iv (Int32.ofNat d2), iv (Int32.ofNat d1), iv (Int32.ofNat d3), iv (Int32.ofNat d0), iv (Int32.ofNat t1), iv (Int32.ofNat t2), iv (Int32.ofNat d3), rv b51, iv (Int32.ofNat n)] [(.int (2 : Int32)), (.ref b51), (.int (Int32.ofNat n)), (.ref a)])) ?_ (fun _ kk_ => XS.ifNo X56.here hx rfl (hb hby at_389) rfl ((if0 _ _).trans (feq ((by decide) : ¬ ((1 : Int32) = (0 : Int32)))).1) (XS.aload X56.here hx rfl (hb hby at_392) rfl rfl  (XS.iload X56.here hx rfl (hb hby at_394) rfl  (XS.aload X56.here hx rfl (hb hby at_396) rfl rfl  (XS.iconst X56.here hx rfl (hb hby at_398) kk_)))))
    refine Go.callS (y := (⟨"com/example/rhadamanthus/rhadamanthus/analysis/EntriesAllPinLaw", "at", "([II[II)Z"⟩ : MethodName)) X56 hx hZ hown (hw _ (List.mem_of_getElem? (i := 85) rfl)) (hw _ (List.mem_of_getElem? (i := 86) rfl)) (hw _ (List.mem_of_getElem? (i := 76) rfl)) (hw _ (List.mem_of_getElem? (i := 87) rfl)) (by decide) 0 (rm_at_ l Z a0 hw [] a b51 n 2 ga y (exOf d0 t1 t2 d3) h_c4x hni (by decide) (by rw [← hKL]; exact hn2) h64 hg2 hy2 f_c4x_0 f_c4x_1) e56 (by decide) (by decide) (by decide) (by decide) (argsL := [(.ref a), (.int (Int32.ofNat n)), (.ref b51), (.int (2 : Int32))]) (rest := []) rfl (by rw [hml]; rfl) (lenOf pd__28_5bII_5bII_29Z rfl) rfl rfl (by show 2 * 0 + _ ≤ _; exact Nat.le_of_eq rfl) (hb hby at_399) ?_
    rintro _ T58 L58 X58 ⟨rfl, e58, rfl⟩
    have N59 := Fr.app N57 (Fr.nil _)
    show Go p e below _ T58 (mkF m 402 #[iv p0, iv p1, iv p2, iv p3, iv p4, iv (Int32.ofNat r), rv b1, rv a, iv (Int32.ofNat k0), iv (Int32.ofNat k1), iv (Int32.ofNat k2), iv (Int32.ofNat k3), iv (Int32.ofNat c0), iv (Int32.ofNat c1), iv (Int32.ofNat c2), iv (Int32.ofNat c3), iv (Int32.ofNat d0), iv (Int32.ofNat d2), iv (Int32.ofNat d1), iv (Int32.ofNat d3), iv (Int32.ofNat d0), iv (Int32.ofNat t1), iv (Int32.ofNat t2), iv (Int32.ofNat d3), rv b51, iv (Int32.ofNat n)] [(.int (1 : Int32))])
    refine Go.st (T' := T58) (g' := (mkF m 412 #[iv p0, iv p1, iv p2, iv p3, iv p4, iv (Int32.ofNat r), rv b1, rv a, iv (Int32.ofNat k0), iv (Int32.ofNat k1), iv (Int32.ofNat k2), iv (Int32.ofNat k3), iv (Int32.ofNat c0), iv (Int32.ofNat c1), iv (Int32.ofNat c2), iv (Int32.ofNat c3), iv (Int32.ofNat d0), iv (Int32.ofNat d2), iv (Int32.ofNat d1), iv (Int32.ofNat d3), iv (Int32.ofNat d0), iv (Int32.ofNat t1), iv (Int32.ofNat t2), iv (Int32.ofNat d3), rv b51, iv (Int32.ofNat n)] [(.int (3 : Int32)), (.ref b51), (.int (Int32.ofNat n)), (.ref a)])) ?_ (fun _ kk_ => XS.ifNo X58.here hx rfl (hb hby at_402) rfl ((if0 _ _).trans (feq ((by decide) : ¬ ((1 : Int32) = (0 : Int32)))).1) (XS.aload X58.here hx rfl (hb hby at_405) rfl rfl  (XS.iload X58.here hx rfl (hb hby at_407) rfl  (XS.aload X58.here hx rfl (hb hby at_409) rfl rfl  (XS.iconst X58.here hx rfl (hb hby at_411) kk_)))))
    refine Go.callS (y := (⟨"com/example/rhadamanthus/rhadamanthus/analysis/EntriesAllPinLaw", "at", "([II[II)Z"⟩ : MethodName)) X58 hx hZ hown (hw _ (List.mem_of_getElem? (i := 85) rfl)) (hw _ (List.mem_of_getElem? (i := 86) rfl)) (hw _ (List.mem_of_getElem? (i := 76) rfl)) (hw _ (List.mem_of_getElem? (i := 87) rfl)) (by decide) 0 (rm_at_ l Z a0 hw [] a b51 n 3 ga y (exOf d0 t1 t2 d3) h_c4x hni (by decide) (by rw [← hKL]; exact hn2) h64 hg2 hy2 f_c4x_0 f_c4x_1) e58 (by decide) (by decide) (by decide) (by decide) (argsL := [(.ref a), (.int (Int32.ofNat n)), (.ref b51), (.int (3 : Int32))]) (rest := []) rfl (by rw [hml]; rfl) (lenOf pd__28_5bII_5bII_29Z rfl) rfl rfl (by show 2 * 0 + _ ≤ _; exact Nat.le_of_eq rfl) (hb hby at_412) ?_
    rintro _ T60 L60 X60 ⟨rfl, e60, rfl⟩
    have N61 := Fr.app N59 (Fr.nil _)
    show Go p e below _ T60 (mkF m 415 #[iv p0, iv p1, iv p2, iv p3, iv p4, iv (Int32.ofNat r), rv b1, rv a, iv (Int32.ofNat k0), iv (Int32.ofNat k1), iv (Int32.ofNat k2), iv (Int32.ofNat k3), iv (Int32.ofNat c0), iv (Int32.ofNat c1), iv (Int32.ofNat c2), iv (Int32.ofNat c3), iv (Int32.ofNat d0), iv (Int32.ofNat d2), iv (Int32.ofNat d1), iv (Int32.ofNat d3), iv (Int32.ofNat d0), iv (Int32.ofNat t1), iv (Int32.ofNat t2), iv (Int32.ofNat d3), rv b51, iv (Int32.ofNat n)] [(.int (1 : Int32))])
    refine Go.st (T' := T60) (g' := (mkF m 423 #[iv p0, iv p1, iv p2, iv p3, iv p4, iv (Int32.ofNat r), rv b1, rv a, iv (Int32.ofNat k0), iv (Int32.ofNat k1), iv (Int32.ofNat k2), iv (Int32.ofNat k3), iv (Int32.ofNat c0), iv (Int32.ofNat c1), iv (Int32.ofNat c2), iv (Int32.ofNat c3), iv (Int32.ofNat d0), iv (Int32.ofNat d2), iv (Int32.ofNat d1), iv (Int32.ofNat d3), iv (Int32.ofNat d0), iv (Int32.ofNat t1), iv (Int32.ofNat t2), iv (Int32.ofNat d3), rv b51, iv (Int32.ofNat n)] [(.int (1 : Int32))])) ?_ (fun _ kk_ => XS.ifNo X60.here hx rfl (hb hby at_415) rfl ((if0 _ _).trans (feq ((by decide) : ¬ ((1 : Int32) = (0 : Int32)))).1) (XS.iconst X60.here hx rfl (hb hby at_418) (XS.goto X60.here hx rfl (pc0 := 419) (pc' := 423) rfl (hb hby at_419) (by decide) (by decide) kk_)))
    refine Go.retN X60 hx hlk (t := .boolean) hret (by simp) (z' := (1 : Int32)) rfl (hb hby at_423) (by decide) (by decide) ?_
    try rw [e60]
    exact ⟨rfl, N61⟩
  have c3x : ∀ (T_c3x : State) (h_c3x : Heap) (lo_c3x : List Loc) (n : Nat) (y : Nat → Int32), Stand p l e room_1 s m #[(.int p0), (.int p1), (.int p2), (.int p3), (.int p4)] below meth c T_c3x lo_c3x 43 189 → T_c3x.heap = h_c3x → Fr n0 lo_c3x → Old Z n0 h_c3x → n0 ≤ h_c3x.size → Ary Z h_c3x a .int (IL (2 * (keysOf (D4.H r) (D4.R r)).length) ga) → Ary Z h_c3x b51 .int (IL 4 y) → (n = (((if d0 < 1000 then [d0] else []) ++ if t1 < 1000 ∧ t1 ≠ d0 then [t1] else []) ++ if t2 < 1000 ∧ t2 ≠ t1 then [t2] else []).length) → (n ≤ 3) → (∀ p_ x_, (((if d0 < 1000 then [d0] else []) ++ if t1 < 1000 ∧ t1 ≠ d0 then [t1] else []) ++ if t2 < 1000 ∧ t2 ≠ t1 then [t2] else [])[p_]? = some x_ → y p_ = Int32.ofNat x_) → Go p e below (Wf s room_1.cells room_1.slots (fun v h L => v = some (.int (1 : Int32)) ∧ Fr n0 L)) T_c3x (mkF m 329 #[iv p0, iv p1, iv p2, iv p3, iv p4, iv (Int32.ofNat r), rv b1, rv a, iv (Int32.ofNat k0), iv (Int32.ofNat k1), iv (Int32.ofNat k2), iv (Int32.ofNat k3), iv (Int32.ofNat c0), iv (Int32.ofNat c1), iv (Int32.ofNat c2), iv (Int32.ofNat c3), iv (Int32.ofNat d0), iv (Int32.ofNat d2), iv (Int32.ofNat d1), iv (Int32.ofNat d3), iv (Int32.ofNat d0), iv (Int32.ofNat t1), iv (Int32.ofNat t2), iv (Int32.ofNat d3), rv b51, iv (Int32.ofNat n)] []) := by
    intro T_c3x h_c3x lo_c3x n  y  X_c3x e_c3x N_c3x O_c3x Z_c3x f_c3x_0 f_c3x_1 hn hni hy
    refine Go.st (T' := T_c3x) (g' := (mkF m 334 #[iv p0, iv p1, iv p2, iv p3, iv p4, iv (Int32.ofNat r), rv b1, rv a, iv (Int32.ofNat k0), iv (Int32.ofNat k1), iv (Int32.ofNat k2), iv (Int32.ofNat k3), iv (Int32.ofNat c0), iv (Int32.ofNat c1), iv (Int32.ofNat c2), iv (Int32.ofNat c3), iv (Int32.ofNat d0), iv (Int32.ofNat d2), iv (Int32.ofNat d1), iv (Int32.ofNat d3), iv (Int32.ofNat d0), iv (Int32.ofNat t1), iv (Int32.ofNat t2), iv (Int32.ofNat d3), rv b51, iv (Int32.ofNat n)] [(.int (1000 : Int32)), (.int (Int32.ofNat d3))])) ?_ (fun _ kk_ => XS.iload X_c3x.here hx rfl (hb hby at_329) rfl  (XS.sipush X_c3x.here hx rfl (hb hby at_331) kk_))
    by_cases h1 : (Int32.ofNat d3) < (1000 : Int32)
    ·
      refine Go.st (T' := T_c3x) (g' := (mkF m 337 #[iv p0, iv p1, iv p2, iv p3, iv p4, iv (Int32.ofNat r), rv b1, rv a, iv (Int32.ofNat k0), iv (Int32.ofNat k1), iv (Int32.ofNat k2), iv (Int32.ofNat k3), iv (Int32.ofNat c0), iv (Int32.ofNat c1), iv (Int32.ofNat c2), iv (Int32.ofNat c3), iv (Int32.ofNat d0), iv (Int32.ofNat d2), iv (Int32.ofNat d1), iv (Int32.ofNat d3), iv (Int32.ofNat d0), iv (Int32.ofNat t1), iv (Int32.ofNat t2), iv (Int32.ofNat d3), rv b51, iv (Int32.ofNat n)] [])) ?_ (fun _ kk_ => XS.icmpNo X_c3x.here hx rfl (hb hby at_334) rfl (tlt (h1 : (Int32.ofNat d3) < (1000 : Int32))).2.1 kk_)
      have g1 : d3 < 1000 := (own_lt (n := 1000) (by omega) (by decide)).mp h1
      refine Go.st (T' := T_c3x) (g' := (mkF m 341 #[iv p0, iv p1, iv p2, iv p3, iv p4, iv (Int32.ofNat r), rv b1, rv a, iv (Int32.ofNat k0), iv (Int32.ofNat k1), iv (Int32.ofNat k2), iv (Int32.ofNat k3), iv (Int32.ofNat c0), iv (Int32.ofNat c1), iv (Int32.ofNat c2), iv (Int32.ofNat c3), iv (Int32.ofNat d0), iv (Int32.ofNat d2), iv (Int32.ofNat d1), iv (Int32.ofNat d3), iv (Int32.ofNat d0), iv (Int32.ofNat t1), iv (Int32.ofNat t2), iv (Int32.ofNat d3), rv b51, iv (Int32.ofNat n)] [(.int (Int32.ofNat t2)), (.int (Int32.ofNat d3))])) ?_ (fun _ kk_ => XS.iload X_c3x.here hx rfl (hb hby at_337) rfl  (XS.iload X_c3x.here hx rfl (hb hby at_339) rfl  kk_))
      by_cases h2 : (Int32.ofNat d3) = (Int32.ofNat t2)
      ·
        refine Go.st (T' := T_c3x) (g' := (mkF m 354 #[iv p0, iv p1, iv p2, iv p3, iv p4, iv (Int32.ofNat r), rv b1, rv a, iv (Int32.ofNat k0), iv (Int32.ofNat k1), iv (Int32.ofNat k2), iv (Int32.ofNat k3), iv (Int32.ofNat c0), iv (Int32.ofNat c1), iv (Int32.ofNat c2), iv (Int32.ofNat c3), iv (Int32.ofNat d0), iv (Int32.ofNat d2), iv (Int32.ofNat d1), iv (Int32.ofNat d3), iv (Int32.ofNat d0), iv (Int32.ofNat t1), iv (Int32.ofNat t2), iv (Int32.ofNat d3), rv b51, iv (Int32.ofNat n)] [])) ?_ (fun _ kk_ => XS.icmpYes X_c3x.here hx rfl (pc0 := 341) (pc' := 354) rfl (hb hby at_341) rfl (teq (h2 : (Int32.ofNat d3) = (Int32.ofNat t2))).1 (by decide) (by decide) kk_)
        have g2 : d3 = t2 := (own_eq (by omega) (by omega)).mp h2
        have hcc : ¬ (d3 < 1000 ∧ d3 ≠ t2) := fun z => z.2 g2
        exact c4x T_c3x _ _ n _ X_c3x e_c3x N_c3x O_c3x Z_c3x f_c3x_0 f_c3x_1 (by rw [if_neg hcc, List.append_nil]; exact hn) (by omega) (by rw [if_neg hcc, List.append_nil]; exact hy)
      ·
        refine Go.st (T' := T_c3x) (g' := (mkF m 344 #[iv p0, iv p1, iv p2, iv p3, iv p4, iv (Int32.ofNat r), rv b1, rv a, iv (Int32.ofNat k0), iv (Int32.ofNat k1), iv (Int32.ofNat k2), iv (Int32.ofNat k3), iv (Int32.ofNat c0), iv (Int32.ofNat c1), iv (Int32.ofNat c2), iv (Int32.ofNat c3), iv (Int32.ofNat d0), iv (Int32.ofNat d2), iv (Int32.ofNat d1), iv (Int32.ofNat d3), iv (Int32.ofNat d0), iv (Int32.ofNat t1), iv (Int32.ofNat t2), iv (Int32.ofNat d3), rv b51, iv (Int32.ofNat n)] [])) ?_ (fun _ kk_ => XS.icmpNo X_c3x.here hx rfl (hb hby at_341) rfl (feq (h2 : ¬ ((Int32.ofNat d3) = (Int32.ofNat t2)))).1 kk_)
        have g2 : ¬ d3 = t2 := fun z => h2 ((own_eq (by omega) (by omega)).mpr z)
        have hcc : d3 < 1000 ∧ d3 ≠ t2 := ⟨g1, g2⟩
        refine Go.st (T' := T_c3x) (g' := (mkF m 350 #[iv p0, iv p1, iv p2, iv p3, iv p4, iv (Int32.ofNat r), rv b1, rv a, iv (Int32.ofNat k0), iv (Int32.ofNat k1), iv (Int32.ofNat k2), iv (Int32.ofNat k3), iv (Int32.ofNat c0), iv (Int32.ofNat c1), iv (Int32.ofNat c2), iv (Int32.ofNat c3), iv (Int32.ofNat d0), iv (Int32.ofNat d2), iv (Int32.ofNat d1), iv (Int32.ofNat d3), iv (Int32.ofNat d0), iv (Int32.ofNat t1), iv (Int32.ofNat t2), iv (Int32.ofNat d3), rv b51, iv (Int32.ofNat n)] [(.int (Int32.ofNat d3)), (.int (Int32.ofNat n)), (.ref b51)])) ?_ (fun _ kk_ => XS.aload X_c3x.here hx rfl (hb hby at_344) rfl rfl  (XS.iload X_c3x.here hx rfl (hb hby at_346) rfl  (XS.iload X_c3x.here hx rfl (hb hby at_348) rfl  kk_)))
        refine Go.iastore X_c3x hx hZ e_c3x f_c3x_1 (i := n) (by rw [IL_len]; omega) rfl rfl rfl (hb hby at_350) ?_
        intro T62 h62 X62 e62 W62 V62
        have N63 := Fr.snoc X62 N_c3x g_b51
        have O64 := O_c3x.wr W62 g_b51
        have Z65 : n0 ≤ h62.size := by rw [W62.size]; exact Z_c3x
        show Go p e below _ T62 (mkF m 351 #[iv p0, iv p1, iv p2, iv p3, iv p4, iv (Int32.ofNat r), rv b1, rv a, iv (Int32.ofNat k0), iv (Int32.ofNat k1), iv (Int32.ofNat k2), iv (Int32.ofNat k3), iv (Int32.ofNat c0), iv (Int32.ofNat c1), iv (Int32.ofNat c2), iv (Int32.ofNat c3), iv (Int32.ofNat d0), iv (Int32.ofNat d2), iv (Int32.ofNat d1), iv (Int32.ofNat d3), iv (Int32.ofNat d0), iv (Int32.ofNat t1), iv (Int32.ofNat t2), iv (Int32.ofNat d3), rv b51, iv (Int32.ofNat n)] [])
        rw [IL_set (by omega)] at V62
        refine Go.st (T' := T62) (g' := (mkF m 354 #[iv p0, iv p1, iv p2, iv p3, iv p4, iv (Int32.ofNat r), rv b1, rv a, iv (Int32.ofNat k0), iv (Int32.ofNat k1), iv (Int32.ofNat k2), iv (Int32.ofNat k3), iv (Int32.ofNat c0), iv (Int32.ofNat c1), iv (Int32.ofNat c2), iv (Int32.ofNat c3), iv (Int32.ofNat d0), iv (Int32.ofNat d2), iv (Int32.ofNat d1), iv (Int32.ofNat d3), iv (Int32.ofNat d0), iv (Int32.ofNat t1), iv (Int32.ofNat t2), iv (Int32.ofNat d3), rv b51, iv ((Int32.ofNat n) + (1 : Int32))] [])) ?_ (fun _ kk_ => XS.iinc X62.here hx rfl (hb hby at_351) rfl (l' := #[iv p0, iv p1, iv p2, iv p3, iv p4, iv (Int32.ofNat r), rv b1, rv a, iv (Int32.ofNat k0), iv (Int32.ofNat k1), iv (Int32.ofNat k2), iv (Int32.ofNat k3), iv (Int32.ofNat c0), iv (Int32.ofNat c1), iv (Int32.ofNat c2), iv (Int32.ofNat c3), iv (Int32.ofNat d0), iv (Int32.ofNat d2), iv (Int32.ofNat d1), iv (Int32.ofNat d3), iv (Int32.ofNat d0), iv (Int32.ofNat t1), iv (Int32.ofNat t2), iv (Int32.ofNat d3), rv b51, iv ((Int32.ofNat n) + (1 : Int32))]) rfl kk_)
        rw [show Int32.ofNat n + (1 : Int32) = Int32.ofNat (n + 1) from own_add n 1]
        show Go p e below _ T62 (mkF m 354 #[iv p0, iv p1, iv p2, iv p3, iv p4, iv (Int32.ofNat r), rv b1, rv a, iv (Int32.ofNat k0), iv (Int32.ofNat k1), iv (Int32.ofNat k2), iv (Int32.ofNat k3), iv (Int32.ofNat c0), iv (Int32.ofNat c1), iv (Int32.ofNat c2), iv (Int32.ofNat c3), iv (Int32.ofNat d0), iv (Int32.ofNat d2), iv (Int32.ofNat d1), iv (Int32.ofNat d3), iv (Int32.ofNat d0), iv (Int32.ofNat t1), iv (Int32.ofNat t2), iv (Int32.ofNat d3), rv b51, iv (Int32.ofNat (n + 1))] [])
        have f66 := (f_c3x_0.other W62 ne_a_b51)
        exact c4x T62 _ _ (n + 1) _ X62 e62 N63 O64 Z65 f66 V62 (by rw [if_pos hcc, List.length_append, ← hn]; rfl) (by omega) (by rw [if_pos hcc, hn]; exact own_exs hy)
    ·
      refine Go.st (T' := T_c3x) (g' := (mkF m 354 #[iv p0, iv p1, iv p2, iv p3, iv p4, iv (Int32.ofNat r), rv b1, rv a, iv (Int32.ofNat k0), iv (Int32.ofNat k1), iv (Int32.ofNat k2), iv (Int32.ofNat k3), iv (Int32.ofNat c0), iv (Int32.ofNat c1), iv (Int32.ofNat c2), iv (Int32.ofNat c3), iv (Int32.ofNat d0), iv (Int32.ofNat d2), iv (Int32.ofNat d1), iv (Int32.ofNat d3), iv (Int32.ofNat d0), iv (Int32.ofNat t1), iv (Int32.ofNat t2), iv (Int32.ofNat d3), rv b51, iv (Int32.ofNat n)] [])) ?_ (fun _ kk_ => XS.icmpYes X_c3x.here hx rfl (pc0 := 334) (pc' := 354) rfl (hb hby at_334) rfl (flt (h1 : ¬ ((Int32.ofNat d3) < (1000 : Int32)))).2.1 (by decide) (by decide) kk_)
      have hcc : ¬ (d3 < 1000 ∧ d3 ≠ t2) := fun z => h1 ((own_lt (n := 1000) (by omega) (by decide)).mpr z.1)
      exact c4x T_c3x _ _ n _ X_c3x e_c3x N_c3x O_c3x Z_c3x f_c3x_0 f_c3x_1 (by rw [if_neg hcc, List.append_nil]; exact hn) (by omega) (by rw [if_neg hcc, List.append_nil]; exact hy)
  have c2x : ∀ (T_c2x : State) (h_c2x : Heap) (lo_c2x : List Loc) (n : Nat) (y : Nat → Int32), Stand p l e room_1 s m #[(.int p0), (.int p1), (.int p2), (.int p3), (.int p4)] below meth c T_c2x lo_c2x 43 189 → T_c2x.heap = h_c2x → Fr n0 lo_c2x → Old Z n0 h_c2x → n0 ≤ h_c2x.size → Ary Z h_c2x a .int (IL (2 * (keysOf (D4.H r) (D4.R r)).length) ga) → Ary Z h_c2x b51 .int (IL 4 y) → (n = ((if d0 < 1000 then [d0] else []) ++ if t1 < 1000 ∧ t1 ≠ d0 then [t1] else []).length) → (n ≤ 2) → (∀ p_ x_, ((if d0 < 1000 then [d0] else []) ++ if t1 < 1000 ∧ t1 ≠ d0 then [t1] else [])[p_]? = some x_ → y p_ = Int32.ofNat x_) → Go p e below (Wf s room_1.cells room_1.slots (fun v h L => v = some (.int (1 : Int32)) ∧ Fr n0 L)) T_c2x (mkF m 304 #[iv p0, iv p1, iv p2, iv p3, iv p4, iv (Int32.ofNat r), rv b1, rv a, iv (Int32.ofNat k0), iv (Int32.ofNat k1), iv (Int32.ofNat k2), iv (Int32.ofNat k3), iv (Int32.ofNat c0), iv (Int32.ofNat c1), iv (Int32.ofNat c2), iv (Int32.ofNat c3), iv (Int32.ofNat d0), iv (Int32.ofNat d2), iv (Int32.ofNat d1), iv (Int32.ofNat d3), iv (Int32.ofNat d0), iv (Int32.ofNat t1), iv (Int32.ofNat t2), iv (Int32.ofNat d3), rv b51, iv (Int32.ofNat n)] []) := by
    intro T_c2x h_c2x lo_c2x n  y  X_c2x e_c2x N_c2x O_c2x Z_c2x f_c2x_0 f_c2x_1 hn hni hy
    refine Go.st (T' := T_c2x) (g' := (mkF m 309 #[iv p0, iv p1, iv p2, iv p3, iv p4, iv (Int32.ofNat r), rv b1, rv a, iv (Int32.ofNat k0), iv (Int32.ofNat k1), iv (Int32.ofNat k2), iv (Int32.ofNat k3), iv (Int32.ofNat c0), iv (Int32.ofNat c1), iv (Int32.ofNat c2), iv (Int32.ofNat c3), iv (Int32.ofNat d0), iv (Int32.ofNat d2), iv (Int32.ofNat d1), iv (Int32.ofNat d3), iv (Int32.ofNat d0), iv (Int32.ofNat t1), iv (Int32.ofNat t2), iv (Int32.ofNat d3), rv b51, iv (Int32.ofNat n)] [(.int (1000 : Int32)), (.int (Int32.ofNat t2))])) ?_ (fun _ kk_ => XS.iload X_c2x.here hx rfl (hb hby at_304) rfl  (XS.sipush X_c2x.here hx rfl (hb hby at_306) kk_))
    by_cases h1 : (Int32.ofNat t2) < (1000 : Int32)
    ·
      refine Go.st (T' := T_c2x) (g' := (mkF m 312 #[iv p0, iv p1, iv p2, iv p3, iv p4, iv (Int32.ofNat r), rv b1, rv a, iv (Int32.ofNat k0), iv (Int32.ofNat k1), iv (Int32.ofNat k2), iv (Int32.ofNat k3), iv (Int32.ofNat c0), iv (Int32.ofNat c1), iv (Int32.ofNat c2), iv (Int32.ofNat c3), iv (Int32.ofNat d0), iv (Int32.ofNat d2), iv (Int32.ofNat d1), iv (Int32.ofNat d3), iv (Int32.ofNat d0), iv (Int32.ofNat t1), iv (Int32.ofNat t2), iv (Int32.ofNat d3), rv b51, iv (Int32.ofNat n)] [])) ?_ (fun _ kk_ => XS.icmpNo X_c2x.here hx rfl (hb hby at_309) rfl (tlt (h1 : (Int32.ofNat t2) < (1000 : Int32))).2.1 kk_)
      have g1 : t2 < 1000 := (own_lt (n := 1000) (by omega) (by decide)).mp h1
      refine Go.st (T' := T_c2x) (g' := (mkF m 316 #[iv p0, iv p1, iv p2, iv p3, iv p4, iv (Int32.ofNat r), rv b1, rv a, iv (Int32.ofNat k0), iv (Int32.ofNat k1), iv (Int32.ofNat k2), iv (Int32.ofNat k3), iv (Int32.ofNat c0), iv (Int32.ofNat c1), iv (Int32.ofNat c2), iv (Int32.ofNat c3), iv (Int32.ofNat d0), iv (Int32.ofNat d2), iv (Int32.ofNat d1), iv (Int32.ofNat d3), iv (Int32.ofNat d0), iv (Int32.ofNat t1), iv (Int32.ofNat t2), iv (Int32.ofNat d3), rv b51, iv (Int32.ofNat n)] [(.int (Int32.ofNat t1)), (.int (Int32.ofNat t2))])) ?_ (fun _ kk_ => XS.iload X_c2x.here hx rfl (hb hby at_312) rfl  (XS.iload X_c2x.here hx rfl (hb hby at_314) rfl  kk_))
      by_cases h2 : (Int32.ofNat t2) = (Int32.ofNat t1)
      ·
        refine Go.st (T' := T_c2x) (g' := (mkF m 329 #[iv p0, iv p1, iv p2, iv p3, iv p4, iv (Int32.ofNat r), rv b1, rv a, iv (Int32.ofNat k0), iv (Int32.ofNat k1), iv (Int32.ofNat k2), iv (Int32.ofNat k3), iv (Int32.ofNat c0), iv (Int32.ofNat c1), iv (Int32.ofNat c2), iv (Int32.ofNat c3), iv (Int32.ofNat d0), iv (Int32.ofNat d2), iv (Int32.ofNat d1), iv (Int32.ofNat d3), iv (Int32.ofNat d0), iv (Int32.ofNat t1), iv (Int32.ofNat t2), iv (Int32.ofNat d3), rv b51, iv (Int32.ofNat n)] [])) ?_ (fun _ kk_ => XS.icmpYes X_c2x.here hx rfl (pc0 := 316) (pc' := 329) rfl (hb hby at_316) rfl (teq (h2 : (Int32.ofNat t2) = (Int32.ofNat t1))).1 (by decide) (by decide) kk_)
        have g2 : t2 = t1 := (own_eq (by omega) (by omega)).mp h2
        have hcc : ¬ (t2 < 1000 ∧ t2 ≠ t1) := fun z => z.2 g2
        exact c3x T_c2x _ _ n _ X_c2x e_c2x N_c2x O_c2x Z_c2x f_c2x_0 f_c2x_1 (by rw [if_neg hcc, List.append_nil]; exact hn) (by omega) (by rw [if_neg hcc, List.append_nil]; exact hy)
      ·
        refine Go.st (T' := T_c2x) (g' := (mkF m 319 #[iv p0, iv p1, iv p2, iv p3, iv p4, iv (Int32.ofNat r), rv b1, rv a, iv (Int32.ofNat k0), iv (Int32.ofNat k1), iv (Int32.ofNat k2), iv (Int32.ofNat k3), iv (Int32.ofNat c0), iv (Int32.ofNat c1), iv (Int32.ofNat c2), iv (Int32.ofNat c3), iv (Int32.ofNat d0), iv (Int32.ofNat d2), iv (Int32.ofNat d1), iv (Int32.ofNat d3), iv (Int32.ofNat d0), iv (Int32.ofNat t1), iv (Int32.ofNat t2), iv (Int32.ofNat d3), rv b51, iv (Int32.ofNat n)] [])) ?_ (fun _ kk_ => XS.icmpNo X_c2x.here hx rfl (hb hby at_316) rfl (feq (h2 : ¬ ((Int32.ofNat t2) = (Int32.ofNat t1)))).1 kk_)
        have g2 : ¬ t2 = t1 := fun z => h2 ((own_eq (by omega) (by omega)).mpr z)
        have hcc : t2 < 1000 ∧ t2 ≠ t1 := ⟨g1, g2⟩
        refine Go.st (T' := T_c2x) (g' := (mkF m 325 #[iv p0, iv p1, iv p2, iv p3, iv p4, iv (Int32.ofNat r), rv b1, rv a, iv (Int32.ofNat k0), iv (Int32.ofNat k1), iv (Int32.ofNat k2), iv (Int32.ofNat k3), iv (Int32.ofNat c0), iv (Int32.ofNat c1), iv (Int32.ofNat c2), iv (Int32.ofNat c3), iv (Int32.ofNat d0), iv (Int32.ofNat d2), iv (Int32.ofNat d1), iv (Int32.ofNat d3), iv (Int32.ofNat d0), iv (Int32.ofNat t1), iv (Int32.ofNat t2), iv (Int32.ofNat d3), rv b51, iv (Int32.ofNat n)] [(.int (Int32.ofNat t2)), (.int (Int32.ofNat n)), (.ref b51)])) ?_ (fun _ kk_ => XS.aload X_c2x.here hx rfl (hb hby at_319) rfl rfl  (XS.iload X_c2x.here hx rfl (hb hby at_321) rfl  (XS.iload X_c2x.here hx rfl (hb hby at_323) rfl  kk_)))
        refine Go.iastore X_c2x hx hZ e_c2x f_c2x_1 (i := n) (by rw [IL_len]; omega) rfl rfl rfl (hb hby at_325) ?_
        intro T67 h67 X67 e67 W67 V67
        have N68 := Fr.snoc X67 N_c2x g_b51
        have O69 := O_c2x.wr W67 g_b51
        have Z70 : n0 ≤ h67.size := by rw [W67.size]; exact Z_c2x
        show Go p e below _ T67 (mkF m 326 #[iv p0, iv p1, iv p2, iv p3, iv p4, iv (Int32.ofNat r), rv b1, rv a, iv (Int32.ofNat k0), iv (Int32.ofNat k1), iv (Int32.ofNat k2), iv (Int32.ofNat k3), iv (Int32.ofNat c0), iv (Int32.ofNat c1), iv (Int32.ofNat c2), iv (Int32.ofNat c3), iv (Int32.ofNat d0), iv (Int32.ofNat d2), iv (Int32.ofNat d1), iv (Int32.ofNat d3), iv (Int32.ofNat d0), iv (Int32.ofNat t1), iv (Int32.ofNat t2), iv (Int32.ofNat d3), rv b51, iv (Int32.ofNat n)] [])
        rw [IL_set (by omega)] at V67
        refine Go.st (T' := T67) (g' := (mkF m 329 #[iv p0, iv p1, iv p2, iv p3, iv p4, iv (Int32.ofNat r), rv b1, rv a, iv (Int32.ofNat k0), iv (Int32.ofNat k1), iv (Int32.ofNat k2), iv (Int32.ofNat k3), iv (Int32.ofNat c0), iv (Int32.ofNat c1), iv (Int32.ofNat c2), iv (Int32.ofNat c3), iv (Int32.ofNat d0), iv (Int32.ofNat d2), iv (Int32.ofNat d1), iv (Int32.ofNat d3), iv (Int32.ofNat d0), iv (Int32.ofNat t1), iv (Int32.ofNat t2), iv (Int32.ofNat d3), rv b51, iv ((Int32.ofNat n) + (1 : Int32))] [])) ?_ (fun _ kk_ => XS.iinc X67.here hx rfl (hb hby at_326) rfl (l' := #[iv p0, iv p1, iv p2, iv p3, iv p4, iv (Int32.ofNat r), rv b1, rv a, iv (Int32.ofNat k0), iv (Int32.ofNat k1), iv (Int32.ofNat k2), iv (Int32.ofNat k3), iv (Int32.ofNat c0), iv (Int32.ofNat c1), iv (Int32.ofNat c2), iv (Int32.ofNat c3), iv (Int32.ofNat d0), iv (Int32.ofNat d2), iv (Int32.ofNat d1), iv (Int32.ofNat d3), iv (Int32.ofNat d0), iv (Int32.ofNat t1), iv (Int32.ofNat t2), iv (Int32.ofNat d3), rv b51, iv ((Int32.ofNat n) + (1 : Int32))]) rfl kk_)
        rw [show Int32.ofNat n + (1 : Int32) = Int32.ofNat (n + 1) from own_add n 1]
        show Go p e below _ T67 (mkF m 329 #[iv p0, iv p1, iv p2, iv p3, iv p4, iv (Int32.ofNat r), rv b1, rv a, iv (Int32.ofNat k0), iv (Int32.ofNat k1), iv (Int32.ofNat k2), iv (Int32.ofNat k3), iv (Int32.ofNat c0), iv (Int32.ofNat c1), iv (Int32.ofNat c2), iv (Int32.ofNat c3), iv (Int32.ofNat d0), iv (Int32.ofNat d2), iv (Int32.ofNat d1), iv (Int32.ofNat d3), iv (Int32.ofNat d0), iv (Int32.ofNat t1), iv (Int32.ofNat t2), iv (Int32.ofNat d3), rv b51, iv (Int32.ofNat (n + 1))] [])
        have f71 := (f_c2x_0.other W67 ne_a_b51)
        exact c3x T67 _ _ (n + 1) _ X67 e67 N68 O69 Z70 f71 V67 (by rw [if_pos hcc, List.length_append, ← hn]; rfl) (by omega) (by rw [if_pos hcc, hn]; exact own_exs hy)
    ·
      refine Go.st (T' := T_c2x) (g' := (mkF m 329 #[iv p0, iv p1, iv p2, iv p3, iv p4, iv (Int32.ofNat r), rv b1, rv a, iv (Int32.ofNat k0), iv (Int32.ofNat k1), iv (Int32.ofNat k2), iv (Int32.ofNat k3), iv (Int32.ofNat c0), iv (Int32.ofNat c1), iv (Int32.ofNat c2), iv (Int32.ofNat c3), iv (Int32.ofNat d0), iv (Int32.ofNat d2), iv (Int32.ofNat d1), iv (Int32.ofNat d3), iv (Int32.ofNat d0), iv (Int32.ofNat t1), iv (Int32.ofNat t2), iv (Int32.ofNat d3), rv b51, iv (Int32.ofNat n)] [])) ?_ (fun _ kk_ => XS.icmpYes X_c2x.here hx rfl (pc0 := 309) (pc' := 329) rfl (hb hby at_309) rfl (flt (h1 : ¬ ((Int32.ofNat t2) < (1000 : Int32)))).2.1 (by decide) (by decide) kk_)
      have hcc : ¬ (t2 < 1000 ∧ t2 ≠ t1) := fun z => h1 ((own_lt (n := 1000) (by omega) (by decide)).mpr z.1)
      exact c3x T_c2x _ _ n _ X_c2x e_c2x N_c2x O_c2x Z_c2x f_c2x_0 f_c2x_1 (by rw [if_neg hcc, List.append_nil]; exact hn) (by omega) (by rw [if_neg hcc, List.append_nil]; exact hy)
  have c1x : ∀ (T_c1x : State) (h_c1x : Heap) (lo_c1x : List Loc) (n : Nat) (y : Nat → Int32), Stand p l e room_1 s m #[(.int p0), (.int p1), (.int p2), (.int p3), (.int p4)] below meth c T_c1x lo_c1x 43 189 → T_c1x.heap = h_c1x → Fr n0 lo_c1x → Old Z n0 h_c1x → n0 ≤ h_c1x.size → Ary Z h_c1x a .int (IL (2 * (keysOf (D4.H r) (D4.R r)).length) ga) → Ary Z h_c1x b51 .int (IL 4 y) → (n = (if d0 < 1000 then [d0] else []).length) → (n ≤ 1) → (∀ p_ x_, (if d0 < 1000 then [d0] else [])[p_]? = some x_ → y p_ = Int32.ofNat x_) → Go p e below (Wf s room_1.cells room_1.slots (fun v h L => v = some (.int (1 : Int32)) ∧ Fr n0 L)) T_c1x (mkF m 279 #[iv p0, iv p1, iv p2, iv p3, iv p4, iv (Int32.ofNat r), rv b1, rv a, iv (Int32.ofNat k0), iv (Int32.ofNat k1), iv (Int32.ofNat k2), iv (Int32.ofNat k3), iv (Int32.ofNat c0), iv (Int32.ofNat c1), iv (Int32.ofNat c2), iv (Int32.ofNat c3), iv (Int32.ofNat d0), iv (Int32.ofNat d2), iv (Int32.ofNat d1), iv (Int32.ofNat d3), iv (Int32.ofNat d0), iv (Int32.ofNat t1), iv (Int32.ofNat t2), iv (Int32.ofNat d3), rv b51, iv (Int32.ofNat n)] []) := by
    intro T_c1x h_c1x lo_c1x n  y  X_c1x e_c1x N_c1x O_c1x Z_c1x f_c1x_0 f_c1x_1 hn hni hy
    refine Go.st (T' := T_c1x) (g' := (mkF m 284 #[iv p0, iv p1, iv p2, iv p3, iv p4, iv (Int32.ofNat r), rv b1, rv a, iv (Int32.ofNat k0), iv (Int32.ofNat k1), iv (Int32.ofNat k2), iv (Int32.ofNat k3), iv (Int32.ofNat c0), iv (Int32.ofNat c1), iv (Int32.ofNat c2), iv (Int32.ofNat c3), iv (Int32.ofNat d0), iv (Int32.ofNat d2), iv (Int32.ofNat d1), iv (Int32.ofNat d3), iv (Int32.ofNat d0), iv (Int32.ofNat t1), iv (Int32.ofNat t2), iv (Int32.ofNat d3), rv b51, iv (Int32.ofNat n)] [(.int (1000 : Int32)), (.int (Int32.ofNat t1))])) ?_ (fun _ kk_ => XS.iload X_c1x.here hx rfl (hb hby at_279) rfl  (XS.sipush X_c1x.here hx rfl (hb hby at_281) kk_))
    by_cases h1 : (Int32.ofNat t1) < (1000 : Int32)
    ·
      refine Go.st (T' := T_c1x) (g' := (mkF m 287 #[iv p0, iv p1, iv p2, iv p3, iv p4, iv (Int32.ofNat r), rv b1, rv a, iv (Int32.ofNat k0), iv (Int32.ofNat k1), iv (Int32.ofNat k2), iv (Int32.ofNat k3), iv (Int32.ofNat c0), iv (Int32.ofNat c1), iv (Int32.ofNat c2), iv (Int32.ofNat c3), iv (Int32.ofNat d0), iv (Int32.ofNat d2), iv (Int32.ofNat d1), iv (Int32.ofNat d3), iv (Int32.ofNat d0), iv (Int32.ofNat t1), iv (Int32.ofNat t2), iv (Int32.ofNat d3), rv b51, iv (Int32.ofNat n)] [])) ?_ (fun _ kk_ => XS.icmpNo X_c1x.here hx rfl (hb hby at_284) rfl (tlt (h1 : (Int32.ofNat t1) < (1000 : Int32))).2.1 kk_)
      have g1 : t1 < 1000 := (own_lt (n := 1000) (by omega) (by decide)).mp h1
      refine Go.st (T' := T_c1x) (g' := (mkF m 291 #[iv p0, iv p1, iv p2, iv p3, iv p4, iv (Int32.ofNat r), rv b1, rv a, iv (Int32.ofNat k0), iv (Int32.ofNat k1), iv (Int32.ofNat k2), iv (Int32.ofNat k3), iv (Int32.ofNat c0), iv (Int32.ofNat c1), iv (Int32.ofNat c2), iv (Int32.ofNat c3), iv (Int32.ofNat d0), iv (Int32.ofNat d2), iv (Int32.ofNat d1), iv (Int32.ofNat d3), iv (Int32.ofNat d0), iv (Int32.ofNat t1), iv (Int32.ofNat t2), iv (Int32.ofNat d3), rv b51, iv (Int32.ofNat n)] [(.int (Int32.ofNat d0)), (.int (Int32.ofNat t1))])) ?_ (fun _ kk_ => XS.iload X_c1x.here hx rfl (hb hby at_287) rfl  (XS.iload X_c1x.here hx rfl (hb hby at_289) rfl  kk_))
      by_cases h2 : (Int32.ofNat t1) = (Int32.ofNat d0)
      ·
        refine Go.st (T' := T_c1x) (g' := (mkF m 304 #[iv p0, iv p1, iv p2, iv p3, iv p4, iv (Int32.ofNat r), rv b1, rv a, iv (Int32.ofNat k0), iv (Int32.ofNat k1), iv (Int32.ofNat k2), iv (Int32.ofNat k3), iv (Int32.ofNat c0), iv (Int32.ofNat c1), iv (Int32.ofNat c2), iv (Int32.ofNat c3), iv (Int32.ofNat d0), iv (Int32.ofNat d2), iv (Int32.ofNat d1), iv (Int32.ofNat d3), iv (Int32.ofNat d0), iv (Int32.ofNat t1), iv (Int32.ofNat t2), iv (Int32.ofNat d3), rv b51, iv (Int32.ofNat n)] [])) ?_ (fun _ kk_ => XS.icmpYes X_c1x.here hx rfl (pc0 := 291) (pc' := 304) rfl (hb hby at_291) rfl (teq (h2 : (Int32.ofNat t1) = (Int32.ofNat d0))).1 (by decide) (by decide) kk_)
        have g2 : t1 = d0 := (own_eq (by omega) (by omega)).mp h2
        have hcc : ¬ (t1 < 1000 ∧ t1 ≠ d0) := fun z => z.2 g2
        exact c2x T_c1x _ _ n _ X_c1x e_c1x N_c1x O_c1x Z_c1x f_c1x_0 f_c1x_1 (by rw [if_neg hcc, List.append_nil]; exact hn) (by omega) (by rw [if_neg hcc, List.append_nil]; exact hy)
      ·
        refine Go.st (T' := T_c1x) (g' := (mkF m 294 #[iv p0, iv p1, iv p2, iv p3, iv p4, iv (Int32.ofNat r), rv b1, rv a, iv (Int32.ofNat k0), iv (Int32.ofNat k1), iv (Int32.ofNat k2), iv (Int32.ofNat k3), iv (Int32.ofNat c0), iv (Int32.ofNat c1), iv (Int32.ofNat c2), iv (Int32.ofNat c3), iv (Int32.ofNat d0), iv (Int32.ofNat d2), iv (Int32.ofNat d1), iv (Int32.ofNat d3), iv (Int32.ofNat d0), iv (Int32.ofNat t1), iv (Int32.ofNat t2), iv (Int32.ofNat d3), rv b51, iv (Int32.ofNat n)] [])) ?_ (fun _ kk_ => XS.icmpNo X_c1x.here hx rfl (hb hby at_291) rfl (feq (h2 : ¬ ((Int32.ofNat t1) = (Int32.ofNat d0)))).1 kk_)
        have g2 : ¬ t1 = d0 := fun z => h2 ((own_eq (by omega) (by omega)).mpr z)
        have hcc : t1 < 1000 ∧ t1 ≠ d0 := ⟨g1, g2⟩
        refine Go.st (T' := T_c1x) (g' := (mkF m 300 #[iv p0, iv p1, iv p2, iv p3, iv p4, iv (Int32.ofNat r), rv b1, rv a, iv (Int32.ofNat k0), iv (Int32.ofNat k1), iv (Int32.ofNat k2), iv (Int32.ofNat k3), iv (Int32.ofNat c0), iv (Int32.ofNat c1), iv (Int32.ofNat c2), iv (Int32.ofNat c3), iv (Int32.ofNat d0), iv (Int32.ofNat d2), iv (Int32.ofNat d1), iv (Int32.ofNat d3), iv (Int32.ofNat d0), iv (Int32.ofNat t1), iv (Int32.ofNat t2), iv (Int32.ofNat d3), rv b51, iv (Int32.ofNat n)] [(.int (Int32.ofNat t1)), (.int (Int32.ofNat n)), (.ref b51)])) ?_ (fun _ kk_ => XS.aload X_c1x.here hx rfl (hb hby at_294) rfl rfl  (XS.iload X_c1x.here hx rfl (hb hby at_296) rfl  (XS.iload X_c1x.here hx rfl (hb hby at_298) rfl  kk_)))
        refine Go.iastore X_c1x hx hZ e_c1x f_c1x_1 (i := n) (by rw [IL_len]; omega) rfl rfl rfl (hb hby at_300) ?_
        intro T72 h72 X72 e72 W72 V72
        have N73 := Fr.snoc X72 N_c1x g_b51
        have O74 := O_c1x.wr W72 g_b51
        have Z75 : n0 ≤ h72.size := by rw [W72.size]; exact Z_c1x
        show Go p e below _ T72 (mkF m 301 #[iv p0, iv p1, iv p2, iv p3, iv p4, iv (Int32.ofNat r), rv b1, rv a, iv (Int32.ofNat k0), iv (Int32.ofNat k1), iv (Int32.ofNat k2), iv (Int32.ofNat k3), iv (Int32.ofNat c0), iv (Int32.ofNat c1), iv (Int32.ofNat c2), iv (Int32.ofNat c3), iv (Int32.ofNat d0), iv (Int32.ofNat d2), iv (Int32.ofNat d1), iv (Int32.ofNat d3), iv (Int32.ofNat d0), iv (Int32.ofNat t1), iv (Int32.ofNat t2), iv (Int32.ofNat d3), rv b51, iv (Int32.ofNat n)] [])
        rw [IL_set (by omega)] at V72
        refine Go.st (T' := T72) (g' := (mkF m 304 #[iv p0, iv p1, iv p2, iv p3, iv p4, iv (Int32.ofNat r), rv b1, rv a, iv (Int32.ofNat k0), iv (Int32.ofNat k1), iv (Int32.ofNat k2), iv (Int32.ofNat k3), iv (Int32.ofNat c0), iv (Int32.ofNat c1), iv (Int32.ofNat c2), iv (Int32.ofNat c3), iv (Int32.ofNat d0), iv (Int32.ofNat d2), iv (Int32.ofNat d1), iv (Int32.ofNat d3), iv (Int32.ofNat d0), iv (Int32.ofNat t1), iv (Int32.ofNat t2), iv (Int32.ofNat d3), rv b51, iv ((Int32.ofNat n) + (1 : Int32))] [])) ?_ (fun _ kk_ => XS.iinc X72.here hx rfl (hb hby at_301) rfl (l' := #[iv p0, iv p1, iv p2, iv p3, iv p4, iv (Int32.ofNat r), rv b1, rv a, iv (Int32.ofNat k0), iv (Int32.ofNat k1), iv (Int32.ofNat k2), iv (Int32.ofNat k3), iv (Int32.ofNat c0), iv (Int32.ofNat c1), iv (Int32.ofNat c2), iv (Int32.ofNat c3), iv (Int32.ofNat d0), iv (Int32.ofNat d2), iv (Int32.ofNat d1), iv (Int32.ofNat d3), iv (Int32.ofNat d0), iv (Int32.ofNat t1), iv (Int32.ofNat t2), iv (Int32.ofNat d3), rv b51, iv ((Int32.ofNat n) + (1 : Int32))]) rfl kk_)
        rw [show Int32.ofNat n + (1 : Int32) = Int32.ofNat (n + 1) from own_add n 1]
        show Go p e below _ T72 (mkF m 304 #[iv p0, iv p1, iv p2, iv p3, iv p4, iv (Int32.ofNat r), rv b1, rv a, iv (Int32.ofNat k0), iv (Int32.ofNat k1), iv (Int32.ofNat k2), iv (Int32.ofNat k3), iv (Int32.ofNat c0), iv (Int32.ofNat c1), iv (Int32.ofNat c2), iv (Int32.ofNat c3), iv (Int32.ofNat d0), iv (Int32.ofNat d2), iv (Int32.ofNat d1), iv (Int32.ofNat d3), iv (Int32.ofNat d0), iv (Int32.ofNat t1), iv (Int32.ofNat t2), iv (Int32.ofNat d3), rv b51, iv (Int32.ofNat (n + 1))] [])
        have f76 := (f_c1x_0.other W72 ne_a_b51)
        exact c2x T72 _ _ (n + 1) _ X72 e72 N73 O74 Z75 f76 V72 (by rw [if_pos hcc, List.length_append, ← hn]; rfl) (by omega) (by rw [if_pos hcc, hn]; exact own_exs hy)
    ·
      refine Go.st (T' := T_c1x) (g' := (mkF m 304 #[iv p0, iv p1, iv p2, iv p3, iv p4, iv (Int32.ofNat r), rv b1, rv a, iv (Int32.ofNat k0), iv (Int32.ofNat k1), iv (Int32.ofNat k2), iv (Int32.ofNat k3), iv (Int32.ofNat c0), iv (Int32.ofNat c1), iv (Int32.ofNat c2), iv (Int32.ofNat c3), iv (Int32.ofNat d0), iv (Int32.ofNat d2), iv (Int32.ofNat d1), iv (Int32.ofNat d3), iv (Int32.ofNat d0), iv (Int32.ofNat t1), iv (Int32.ofNat t2), iv (Int32.ofNat d3), rv b51, iv (Int32.ofNat n)] [])) ?_ (fun _ kk_ => XS.icmpYes X_c1x.here hx rfl (pc0 := 284) (pc' := 304) rfl (hb hby at_284) rfl (flt (h1 : ¬ ((Int32.ofNat t1) < (1000 : Int32)))).2.1 (by decide) (by decide) kk_)
      have hcc : ¬ (t1 < 1000 ∧ t1 ≠ d0) := fun z => h1 ((own_lt (n := 1000) (by omega) (by decide)).mpr z.1)
      exact c2x T_c1x _ _ n _ X_c1x e_c1x N_c1x O_c1x Z_c1x f_c1x_0 f_c1x_1 (by rw [if_neg hcc, List.append_nil]; exact hn) (by omega) (by rw [if_neg hcc, List.append_nil]; exact hy)
  refine Go.st (T' := T51) (g' := (mkF m 266 #[iv p0, iv p1, iv p2, iv p3, iv p4, iv (Int32.ofNat r), rv b1, rv a, iv (Int32.ofNat k0), iv (Int32.ofNat k1), iv (Int32.ofNat k2), iv (Int32.ofNat k3), iv (Int32.ofNat c0), iv (Int32.ofNat c1), iv (Int32.ofNat c2), iv (Int32.ofNat c3), iv (Int32.ofNat d0), iv (Int32.ofNat d2), iv (Int32.ofNat d1), iv (Int32.ofNat d3), iv (Int32.ofNat d0), iv (Int32.ofNat t1), iv (Int32.ofNat t2), iv (Int32.ofNat d3), rv b51, iv (0 : Int32)] [(.int (1000 : Int32)), (.int (Int32.ofNat d0))])) ?_ (fun _ kk_ => XS.iload X51.here hx rfl (hb hby at_261) rfl  (XS.sipush X51.here hx rfl (hb hby at_263) kk_))
  by_cases h1 : (Int32.ofNat d0) < (1000 : Int32)
  ·
    refine Go.st (T' := T51) (g' := (mkF m 269 #[iv p0, iv p1, iv p2, iv p3, iv p4, iv (Int32.ofNat r), rv b1, rv a, iv (Int32.ofNat k0), iv (Int32.ofNat k1), iv (Int32.ofNat k2), iv (Int32.ofNat k3), iv (Int32.ofNat c0), iv (Int32.ofNat c1), iv (Int32.ofNat c2), iv (Int32.ofNat c3), iv (Int32.ofNat d0), iv (Int32.ofNat d2), iv (Int32.ofNat d1), iv (Int32.ofNat d3), iv (Int32.ofNat d0), iv (Int32.ofNat t1), iv (Int32.ofNat t2), iv (Int32.ofNat d3), rv b51, iv (0 : Int32)] [])) ?_ (fun _ kk_ => XS.icmpNo X51.here hx rfl (hb hby at_266) rfl (tlt (h1 : (Int32.ofNat d0) < (1000 : Int32))).2.1 kk_)
    have g1 : d0 < 1000 := (own_lt (n := 1000) (by omega) (by decide)).mp h1
    have hcc : d0 < 1000 := g1
    refine Go.st (T' := T51) (g' := (mkF m 275 #[iv p0, iv p1, iv p2, iv p3, iv p4, iv (Int32.ofNat r), rv b1, rv a, iv (Int32.ofNat k0), iv (Int32.ofNat k1), iv (Int32.ofNat k2), iv (Int32.ofNat k3), iv (Int32.ofNat c0), iv (Int32.ofNat c1), iv (Int32.ofNat c2), iv (Int32.ofNat c3), iv (Int32.ofNat d0), iv (Int32.ofNat d2), iv (Int32.ofNat d1), iv (Int32.ofNat d3), iv (Int32.ofNat d0), iv (Int32.ofNat t1), iv (Int32.ofNat t2), iv (Int32.ofNat d3), rv b51, iv (0 : Int32)] [(.int (Int32.ofNat d0)), (.int (0 : Int32)), (.ref b51)])) ?_ (fun _ kk_ => XS.aload X51.here hx rfl (hb hby at_269) rfl rfl  (XS.iload X51.here hx rfl (hb hby at_271) rfl  (XS.iload X51.here hx rfl (hb hby at_273) rfl  kk_)))
    refine Go.iastore X51 hx hZ e51 V51 (i := 0) (by rw [IL_len]; omega) rfl rfl rfl (hb hby at_275) ?_
    intro T77 h77 X77 e77 W77 V77
    have N78 := Fr.snoc X77 N50 g_b51
    have O79 := O52.wr W77 g_b51
    have Z80 : n0 ≤ h77.size := by rw [W77.size]; exact Z53
    show Go p e below _ T77 (mkF m 276 #[iv p0, iv p1, iv p2, iv p3, iv p4, iv (Int32.ofNat r), rv b1, rv a, iv (Int32.ofNat k0), iv (Int32.ofNat k1), iv (Int32.ofNat k2), iv (Int32.ofNat k3), iv (Int32.ofNat c0), iv (Int32.ofNat c1), iv (Int32.ofNat c2), iv (Int32.ofNat c3), iv (Int32.ofNat d0), iv (Int32.ofNat d2), iv (Int32.ofNat d1), iv (Int32.ofNat d3), iv (Int32.ofNat d0), iv (Int32.ofNat t1), iv (Int32.ofNat t2), iv (Int32.ofNat d3), rv b51, iv (0 : Int32)] [])
    rw [IL_set (by omega)] at V77
    refine Go.st (T' := T77) (g' := (mkF m 279 #[iv p0, iv p1, iv p2, iv p3, iv p4, iv (Int32.ofNat r), rv b1, rv a, iv (Int32.ofNat k0), iv (Int32.ofNat k1), iv (Int32.ofNat k2), iv (Int32.ofNat k3), iv (Int32.ofNat c0), iv (Int32.ofNat c1), iv (Int32.ofNat c2), iv (Int32.ofNat c3), iv (Int32.ofNat d0), iv (Int32.ofNat d2), iv (Int32.ofNat d1), iv (Int32.ofNat d3), iv (Int32.ofNat d0), iv (Int32.ofNat t1), iv (Int32.ofNat t2), iv (Int32.ofNat d3), rv b51, iv (1 : Int32)] [])) ?_ (fun _ kk_ => XS.iinc X77.here hx rfl (hb hby at_276) rfl (l' := #[iv p0, iv p1, iv p2, iv p3, iv p4, iv (Int32.ofNat r), rv b1, rv a, iv (Int32.ofNat k0), iv (Int32.ofNat k1), iv (Int32.ofNat k2), iv (Int32.ofNat k3), iv (Int32.ofNat c0), iv (Int32.ofNat c1), iv (Int32.ofNat c2), iv (Int32.ofNat c3), iv (Int32.ofNat d0), iv (Int32.ofNat d2), iv (Int32.ofNat d1), iv (Int32.ofNat d3), iv (Int32.ofNat d0), iv (Int32.ofNat t1), iv (Int32.ofNat t2), iv (Int32.ofNat d3), rv b51, iv (1 : Int32)]) rfl kk_)
    have f81 := ((Va.ext E51).other W77 ne_a_b51)
    exact c1x T77 _ _ 1 _ X77 e77 N78 O79 Z80 f81 V77 (by rw [if_pos hcc]; rfl) (by decide) (by rw [if_pos hcc]; exact own_exs (l := []) (fun p_ x_ q => by simp at q))
  ·
    refine Go.st (T' := T51) (g' := (mkF m 279 #[iv p0, iv p1, iv p2, iv p3, iv p4, iv (Int32.ofNat r), rv b1, rv a, iv (Int32.ofNat k0), iv (Int32.ofNat k1), iv (Int32.ofNat k2), iv (Int32.ofNat k3), iv (Int32.ofNat c0), iv (Int32.ofNat c1), iv (Int32.ofNat c2), iv (Int32.ofNat c3), iv (Int32.ofNat d0), iv (Int32.ofNat d2), iv (Int32.ofNat d1), iv (Int32.ofNat d3), iv (Int32.ofNat d0), iv (Int32.ofNat t1), iv (Int32.ofNat t2), iv (Int32.ofNat d3), rv b51, iv (0 : Int32)] [])) ?_ (fun _ kk_ => XS.icmpYes X51.here hx rfl (pc0 := 266) (pc' := 279) rfl (hb hby at_266) rfl (flt (h1 : ¬ ((Int32.ofNat d0) < (1000 : Int32)))).2.1 (by decide) (by decide) kk_)
    have hcc : ¬ (d0 < 1000) := fun z => h1 ((own_lt (n := 1000) (by omega) (by decide)).mpr z)
    have f82 := (Va.ext E51)
    exact c1x T51 _ _ 0 _ X51 e51 N50 O52 Z53 f82 V51 (by rw [if_neg hcc]; rfl) (by decide) (by rw [if_neg hcc]; exact fun p_ x_ q => by simp at q)
set_option maxRecDepth 65536 in
set_option maxHeartbeats 40000000 in
theorem comes_1 {Post : Tables → Env → Array Value → State → Outcome → State → Prop} (hpost : ∀ tb e args s v u, (limb_1_1.after args s (.returned v) u = true ∧ limb_1_2.after args s (.returned v) u = true ∧ True) → FrameEnd s (.returned v) u (Jvm.fieldLocs frame_1_writes args s ++ Jvm.arrayLocs frame_1_arrays args s ++ Jvm.staticLocs frame_1_statics s) 80 384 → Post tb e args s (.returned v) u) :
    ArmFor flags0 classFile x code maxLocals ret World_1 tables_1 room_1 Calls_1 rest_1 Pre_1 Post := by
  intro l hfl _ _ p e ha hc hk s m args below hf hA hF happ hP
  obtain ⟨hcalls, hrest, hpre⟩ := hP
  obtain ⟨-, -, -, hnamed, -, -, -, hat⟩ := (Spec.applies_iff hf).mp happ
  obtain ⟨hg, hn⟩ := and_e (Cond.before_iff.mp (show (Jvm.Cond.and given_1 narrow_1).before args s = true from hpre))
  obtain ⟨h1, q0⟩ := and_e hg
  obtain ⟨w0, w1, w2, w3, w4, rfl⟩ : ∃ w0 w1 w2 w3 w4 : Value, args = #[w0, w1, w2, w3, w4] := by
    have hs : args.size = 5 := by simpa [Cond.value, given_1] using h1
    obtain ⟨L⟩ := args
    match L, hs with
    | [w0, w1, w2, w3, w4], _ => exact ⟨w0, w1, w2, w3, w4, rfl⟩
  obtain ⟨a0, q1⟩ := and_e q0
  obtain ⟨i0, e0⟩ := is_v a0
  obtain rfl : w0 = (.int i0) := Option.some.inj e0
  obtain ⟨a1, q2⟩ := and_e q1
  obtain ⟨i1, e1⟩ := is_v a1
  obtain rfl : w1 = (.int i1) := Option.some.inj e1
  obtain ⟨a2, q3⟩ := and_e q2
  obtain ⟨i2, e2⟩ := is_v a2
  obtain rfl : w2 = (.int i2) := Option.some.inj e2
  obtain ⟨a3, q4⟩ := and_e q3
  obtain ⟨i3, e3⟩ := is_v a3
  obtain rfl : w3 = (.int i3) := Option.some.inj e3
  obtain ⟨i4, e4⟩ := is_v q4
  obtain rfl : w4 = (.int i4) := Option.some.inj e4
  have hw := fun d (hd : d ∈ tables_1) => atoms_spec (ws := Jvm.Cond.code x code maxLocals ret :: tables_1) hat d (List.mem_cons_of_mem _ hd)
  have hfit : Fit s := fun {y c} hc i hi => by
    obtain ⟨ha, rfl⟩ := Array.getElem?_eq_some_iff.mp hc
    have q := List.all_eq_true.mp ((Array.all_eq_true_iff_forall_mem.mp hF) _ (Array.getElem_mem ha)) i (List.mem_range.mpr hi)
    simpa [Array.getElem?_eq_getElem hi] using q
  obtain ⟨hn1, hn2⟩ := and_e (show (Jvm.Cond.and _ _).value _ s none s [] = some true from hn)
  obtain ⟨nA, eN⟩ := arr_v hn1
  obtain ⟨cN, AN⟩ := Arr.start eN hn1
  have Sn : Sta s s.heap "com/example/rhadamanthus/rhadamanthus/analysis/Entries" "NO_IDS" "[I" (.ref nA) := Sta.start eN (Or.inr ⟨(hw _ (List.mem_of_getElem? (i := 2) rfl)), (hw _ (List.mem_of_getElem? (i := 89) rfl))⟩)
  have hz : cN.slots.size = 0 := own_zero AN eN (eqv_i (Term.int_eval (0)) hn2)
  have Vn := own_empty AN hz (.int 0)
  obtain ⟨n, o, h1, h2, h3, _, L, rfl, ⟨rfl, N⟩, hq⟩ := rm_law l s _ hw tables_1 i0 i1 i2 i3 i4 s.heap.size nA s.heap (Nat.le_refl _) (Old.start s) Sn Vn p e ha hc hk s m _ below hf ((Spec.applies_iff_loose hf).mp happ).1 ⟨rfl, State.Warmed39.refl s, rfl⟩ trivial
  refine ⟨n, _, h1, h2, h3, hpost _ _ _ _ _ _ ⟨Cond.after_iff.mpr rfl, Cond.after_iff.mpr (eq_i res_at (Term.int_eval (1)) rfl), trivial⟩ ⟨hq.1, hq.2.1, (hq.2.2.sift fun y hy => Or.inr (N y hy)).mono (by decide) (by decide)⟩⟩
theorem main_1_1 : Claimed_1_1 := comes_1 fun _ _ _ _ _ _ h hF => ⟨h.1, hF⟩
theorem main_1_2 : Claimed_1_2 := comes_1 fun _ _ _ _ _ _ h hF => ⟨h.2.1, hF⟩
end Jvm.Pilot.@@N@@
namespace Jvm.Pilot.@@N@@
open Jvm Jvm.ClassFile Sem Op Lib Jvm.Free Jvm.Stand Jvm.Pilot.@@N@@.Jvm.D
/-! MADE BY PROGRAM (witnessworld.py) out of the Statement's table words and the real class files: 14 classes; the members and pool entries that the words name. The judged class is class 1, her method 1. -/
namespace start1
open Jvm.ClassFile
def u (s : String) : CpInfo := .utf8 (stringToUtf16 s)
/-- a pool by its gaps: so many unusable entries, then the entry; so many at the end -/
def gap : Nat → List CpInfo → List CpInfo
  | 0, r => r
  | n + 1, r => .unusable :: gap n r
def poolList (es : List (Nat × CpInfo)) (last : Nat) : List CpInfo := es.foldr (fun e r => gap e.1 (e.2 :: r)) (gap last [])
def pool (es : List (Nat × CpInfo)) (last : Nat) : Array CpInfo := ⟨poolList es last⟩
def fileOf (pool : Array CpInfo) (this : Nat) (attrs : Array Attribute := #[]) (ms : Array MethodInfo := #[]) (fl : Nat := 33) (sup : Nat := 0) (ifs : Array Nat := #[]) (fds : Array FieldInfo := #[]) : ClassFile where
  minorVersion := 0
  majorVersion := 65
  constantPool := pool
  accessFlags := fl
  thisClass := this
  superClass := sup
  interfaces := ifs
  fields := fds
  methods := ms
  attributes := attrs
def plain (name : String) (sup : Option ClassId) : Class where
  name := name
  kind := .ordinary
  loader := none
  accessFlags := 33
  super := sup
  interfaces := #[]
  cf := none
  fields := #[]
  methods := #[]
  instanceTypes := #[]
  staticTypes := #[]
  resolved := #[]
  callSites := []
  init := .initialized
  statics := none
  mirror := none

def pool0 : Array CpInfo := pool [(5, u "<init>"), (0, u "()V"), (1, .class_ 10), (1, u "java/lang/Object")] 113

def k0c0 : Code := { maxStack := 0, maxLocals := 1, code := object_method_1_code, exceptionTable := #[], attributes := #[] }
def k0m0 : Method := { name := "<init>", desc := "()V", sig := { parameters := [], returnType := none }, accessFlags := 1, code := some k0c0 }
/-- java/lang/Object -/
def k0 : Class := { plain "java/lang/Object" none with
  accessFlags := 33
  interfaces := #[]
  cf := some (fileOf pool0 8 #[] #[{ accessFlags := 1, nameIndex := 5, descriptorIndex := 6, attributes := #[] }] 33 0 #[] #[])
  fields := #[]
  methods := #[k0m0]
  instanceTypes := #[]
  staticTypes := #[]
  resolved := Array.replicate 124 none
  statics := none }

def pool1 : Array CpInfo := pool [(2, .class_ 4), (1, u "java/lang/Object"), (0, u "<init>"), (0, u "()V"), (0, .class_ 8), (0, u "com/example/rhadamanthus/rhadamanthus/analysis/Entries"), (0, .methodref 7 10), (0, .nameAndType 5 11), (0, u "(II)V"), (0, .methodref 7 13), (0, .nameAndType 14 15), (0, u "add"), (0, u "(IIII)V"), (0, .methodref 7 17), (0, .nameAndType 18 19), (0, u "all"), (0, u "(I)[I"), (0, .methodref 21 22), (0, .class_ 23), (0, .nameAndType 24 25), (0, u "com/example/rhadamanthus/rhadamanthus/analysis/EntriesAllPinLaw"), (0, u "key"), (0, u "(II)I"), (0, .methodref 27 28), (0, .class_ 29), (0, .nameAndType 30 25), (0, u "java/lang/Math"), (0, u "min"), (0, .methodref 27 32), (0, .nameAndType 33 25), (0, u "max"), (0, .methodref 21 35), (0, .nameAndType 36 37), (0, u "at"), (0, u "([II[II)Z"), (2, u "law"), (0, u "(IIIII)Z")] 5

def k1m0 : Method := { name := "<init>", desc := "()V", sig := { parameters := [], returnType := none }, accessFlags := 1, code := none }
def k1c1 : Code := { maxStack := 6, maxLocals := 26, code := code, exceptionTable := #[], attributes := #[] }
def k1m1 : Method := { name := "law", desc := "(IIIII)Z", sig := { parameters := [.int, .int, .int, .int, .int], returnType := some .boolean }, accessFlags := 9, code := some k1c1 }
def k1c2 : Code := { maxStack := 3, maxLocals := 2, code := method_3_code, exceptionTable := #[], attributes := #[] }
def k1m2 : Method := { name := "key", desc := "(II)I", sig := { parameters := [.int, .int], returnType := some .int }, accessFlags := 10, code := some k1c2 }
def k1c3 : Code := { maxStack := 3, maxLocals := 4, code := method_4_code, exceptionTable := #[], attributes := #[] }
def k1m3 : Method := { name := "at", desc := "([II[II)Z", sig := { parameters := [(.array .int), .int, (.array .int), .int], returnType := some .boolean }, accessFlags := 10, code := some k1c3 }
/-- com/example/rhadamanthus/rhadamanthus/analysis/EntriesAllPinLaw -/
def k1 : Class := { plain "com/example/rhadamanthus/rhadamanthus/analysis/EntriesAllPinLaw" (some 0) with
  accessFlags := 49
  interfaces := #[]
  cf := some (fileOf pool1 21 #[] #[{ accessFlags := 1, nameIndex := 5, descriptorIndex := 6, attributes := #[] }, { accessFlags := 9, nameIndex := 40, descriptorIndex := 41, attributes := #[] }, { accessFlags := 10, nameIndex := 24, descriptorIndex := 25, attributes := #[] }, { accessFlags := 10, nameIndex := 36, descriptorIndex := 37, attributes := #[] }] 49 2 #[] #[])
  fields := #[]
  methods := #[k1m0, k1m1, k1m2, k1m3]
  instanceTypes := #[]
  staticTypes := #[]
  resolved := Array.replicate 47 none
  statics := none }

def pool2 : Array CpInfo := pool [(1, .methodref 2 3), (0, .class_ 4), (0, .nameAndType 5 6), (0, u "java/lang/Object"), (0, u "<init>"), (0, u "()V"), (0, .fieldref 8 9), (0, .class_ 10), (0, .nameAndType 11 12), (0, u "com/example/rhadamanthus/rhadamanthus/analysis/Entries"), (0, u "entities"), (0, u "I"), (0, .class_ 14), (0, u "[Lcom/example/rhadamanthus/rhadamanthus/analysis/Entries$Row;"), (0, .fieldref 8 16), (0, .nameAndType 17 18), (0, u "bySubject"), (0, u "[[Lcom/example/rhadamanthus/rhadamanthus/analysis/Entries$Row;"), (0, .fieldref 8 20), (0, .nameAndType 21 18), (0, u "byObject"), (0, .class_ 23), (0, u "com/example/rhadamanthus/rhadamanthus/analysis/Entries$Row"), (0, .fieldref 8 25), (0, .nameAndType 26 14), (0, u "holders"), (0, .fieldref 8 28), (0, .nameAndType 29 30), (0, u "counts"), (0, u "[I"), (0, .methodref 22 32), (0, .nameAndType 5 33), (0, u "(Z)V"), (0, .methodref 22 35), (0, .nameAndType 36 37), (0, u "insert"), (0, u "(II)Z"), (7, .fieldref 8 46), (0, .nameAndType 47 30), (0, u "NO_IDS"), (4, .fieldref 22 53), (0, .nameAndType 54 12), (0, u "size"), (0, .fieldref 22 56), (0, .nameAndType 57 30), (0, u "ids"), (0, u "INITIAL"), (2, u "(II)V"), (2, u "add"), (0, u "(IIII)V"), (7, u "all"), (0, u "(I)[I")] 6

def k2c0 : Code := { maxStack := 2, maxLocals := 3, code := prog_1_method_1_code, exceptionTable := #[], attributes := #[] }
def k2m0 : Method := { name := "<init>", desc := "(II)V", sig := { parameters := [.int, .int], returnType := none }, accessFlags := 0, code := some k2c0 }
def k2c1 : Code := { maxStack := 5, maxLocals := 7, code := prog_1_method_2_code, exceptionTable := #[], attributes := #[] }
def k2m1 : Method := { name := "add", desc := "(IIII)V", sig := { parameters := [.int, .int, .int, .int], returnType := none }, accessFlags := 0, code := some k2c1 }
def k2c2 : Code := { maxStack := 4, maxLocals := 9, code := prog_1_method_6_code, exceptionTable := #[], attributes := #[] }
def k2m2 : Method := { name := "all", desc := "(I)[I", sig := { parameters := [.int], returnType := some (.array .int) }, accessFlags := 0, code := some k2c2 }
/-- com/example/rhadamanthus/rhadamanthus/analysis/Entries -/
def k2 : Class := { plain "com/example/rhadamanthus/rhadamanthus/analysis/Entries" (some 0) with
  accessFlags := 48
  interfaces := #[]
  cf := some (fileOf pool2 8 #[.nestMembers #[22]] #[{ accessFlags := 0, nameIndex := 5, descriptorIndex := 61, attributes := #[] }, { accessFlags := 0, nameIndex := 64, descriptorIndex := 65, attributes := #[] }, { accessFlags := 0, nameIndex := 73, descriptorIndex := 74, attributes := #[] }] 48 2 #[] #[{ accessFlags := 24, nameIndex := 58, descriptorIndex := 12, attributes := #[] }, { accessFlags := 26, nameIndex := 47, descriptorIndex := 30, attributes := #[] }, { accessFlags := 18, nameIndex := 11, descriptorIndex := 12, attributes := #[] }, { accessFlags := 18, nameIndex := 17, descriptorIndex := 18, attributes := #[] }, { accessFlags := 18, nameIndex := 21, descriptorIndex := 18, attributes := #[] }, { accessFlags := 18, nameIndex := 26, descriptorIndex := 14, attributes := #[] }, { accessFlags := 18, nameIndex := 29, descriptorIndex := 30, attributes := #[] }])
  fields := #[{ name := "INITIAL", type := .int, accessFlags := 24, slot := 0, constantValue := 0 }, { name := "NO_IDS", type := (.array .int), accessFlags := 26, slot := 1, constantValue := 0 }, { name := "entities", type := .int, accessFlags := 18, slot := 0, constantValue := 0 }, { name := "bySubject", type := (.array (.array (.object "com/example/rhadamanthus/rhadamanthus/analysis/Entries$Row"))), accessFlags := 18, slot := 1, constantValue := 0 }, { name := "byObject", type := (.array (.array (.object "com/example/rhadamanthus/rhadamanthus/analysis/Entries$Row"))), accessFlags := 18, slot := 2, constantValue := 0 }, { name := "holders", type := (.array (.object "com/example/rhadamanthus/rhadamanthus/analysis/Entries$Row")), accessFlags := 18, slot := 3, constantValue := 0 }, { name := "counts", type := (.array .int), accessFlags := 18, slot := 4, constantValue := 0 }]
  methods := #[k2m0, k2m1, k2m2]
  instanceTypes := #[.int, (.array (.array (.object "com/example/rhadamanthus/rhadamanthus/analysis/Entries$Row"))), (.array (.array (.object "com/example/rhadamanthus/rhadamanthus/analysis/Entries$Row"))), (.array (.object "com/example/rhadamanthus/rhadamanthus/analysis/Entries$Row")), (.array .int)]
  staticTypes := #[.int, (.array .int)]
  resolved := ((Array.replicate 81 none).setIfInBounds 52 (some (.field 3 3))).setIfInBounds 55 (some (.field 3 1))
  statics := some 0 }

def pool3 : Array CpInfo := pool [(1, .methodref 2 3), (0, .class_ 4), (0, .nameAndType 5 6), (0, u "java/lang/Object"), (0, u "<init>"), (0, u "()V"), (0, .class_ 8), (0, u "com/example/rhadamanthus/rhadamanthus/analysis/Entries$Row"), (0, .fieldref 7 10), (0, .nameAndType 11 12), (0, u "ids"), (0, u "[I"), (0, .fieldref 7 14), (0, .nameAndType 15 12), (0, u "runs"), (0, .methodref 7 17), (0, .nameAndType 18 19), (0, u "indexOf"), (0, u "(I)I"), (0, .fieldref 7 21), (0, .nameAndType 22 23), (0, u "size"), (0, u "I"), (1, .class_ 27), (1, u "java/util/Arrays"), (2, .methodref 31 32), (0, .class_ 33), (0, .nameAndType 34 35), (0, u "java/lang/System"), (0, u "arraycopy"), (0, u "(Ljava/lang/Object;ILjava/lang/Object;II)V"), (0, .methodref 25 37), (0, .nameAndType 38 39), (0, u "binarySearch"), (0, u "([IIII)I"), (0, u "FIRST_CAPACITY"), (2, u "(Z)V"), (4, u "insert"), (0, u "(II)Z"), (5, .class_ 56), (0, u "com/example/rhadamanthus/rhadamanthus/analysis/Entries")] 2

def k3c0 : Code := { maxStack := 2, maxLocals := 2, code := prog_2_method_1_code, exceptionTable := #[], attributes := #[] }
def k3m0 : Method := { name := "<init>", desc := "(Z)V", sig := { parameters := [.boolean], returnType := none }, accessFlags := 0, code := some k3c0 }
def k3c1 : Code := { maxStack := 6, maxLocals := 5, code := prog_2_method_2_code, exceptionTable := #[], attributes := #[] }
def k3m1 : Method := { name := "insert", desc := "(II)Z", sig := { parameters := [.int, .int], returnType := some .boolean }, accessFlags := 0, code := some k3c1 }
def k3c2 : Code := { maxStack := 4, maxLocals := 2, code := prog_2_method_3_code, exceptionTable := #[], attributes := #[] }
def k3m2 : Method := { name := "indexOf", desc := "(I)I", sig := { parameters := [.int], returnType := some .int }, accessFlags := 0, code := some k3c2 }
/-- com/example/rhadamanthus/rhadamanthus/analysis/Entries$Row -/
def k3 : Class := { plain "com/example/rhadamanthus/rhadamanthus/analysis/Entries$Row" (some 0) with
  accessFlags := 48
  interfaces := #[]
  cf := some (fileOf pool3 7 #[.nestHost 55] #[{ accessFlags := 0, nameIndex := 5, descriptorIndex := 43, attributes := #[] }, { accessFlags := 0, nameIndex := 48, descriptorIndex := 49, attributes := #[] }, { accessFlags := 0, nameIndex := 18, descriptorIndex := 19, attributes := #[] }] 48 2 #[] #[{ accessFlags := 26, nameIndex := 40, descriptorIndex := 23, attributes := #[] }, { accessFlags := 2, nameIndex := 11, descriptorIndex := 12, attributes := #[] }, { accessFlags := 2, nameIndex := 15, descriptorIndex := 12, attributes := #[] }, { accessFlags := 2, nameIndex := 22, descriptorIndex := 23, attributes := #[] }])
  fields := #[{ name := "FIRST_CAPACITY", type := .int, accessFlags := 26, slot := 0, constantValue := 0 }, { name := "ids", type := (.array .int), accessFlags := 2, slot := 0, constantValue := 0 }, { name := "runs", type := (.array .int), accessFlags := 2, slot := 1, constantValue := 0 }, { name := "size", type := .int, accessFlags := 2, slot := 2, constantValue := 0 }]
  methods := #[k3m0, k3m1, k3m2]
  instanceTypes := #[(.array .int), (.array .int), .int]
  staticTypes := #[.int]
  resolved := Array.replicate 59 none
  statics := none }

def pool4 : Array CpInfo := pool [(2, .class_ 4), (1, u "java/lang/Object"), (0, u "<init>"), (0, u "()V"), (6, .methodref 14 15), (0, .class_ 16), (0, .nameAndType 17 18), (0, u "java/util/Arrays"), (0, u "rangeCheck"), (0, u "(III)V"), (55, .class_ 76), (1, u "java/util/Arrays$NaturalOrder"), (36, .class_ 115), (1, u "java/util/Arrays$LegacyMergeSort"), (1, u "Z"), (89, u "binarySearch0"), (1, .methodref 14 210), (0, .nameAndType 207 211), (0, u "([IIII)I"), (163, .class_ 376), (0, u "java/util/Arrays$ArrayList"), (68, u "$assertionsDisabled"), (269, u "MIN_ARRAY_SORT_GRAN"), (0, u "I"), (2, u "INSERTIONSORT_THRESHOLD"), (74, u "binarySearch"), (180, .class_ 976), (0, u "java/util/Arrays$ArrayItr")] 52

def k4m0 : Method := { name := "<init>", desc := "()V", sig := { parameters := [], returnType := none }, accessFlags := 2, code := none }
def k4c1 : Code := { maxStack := 4, maxLocals := 3, code := jdk_65_method_30_code, exceptionTable := #[], attributes := #[] }
def k4m1 : Method := { name := "rangeCheck", desc := "(III)V", sig := { parameters := [.int, .int, .int], returnType := none }, accessFlags := 8, code := some k4c1 }
def k4c2 : Code := { maxStack := 4, maxLocals := 4, code := jdk_65_method_58_code, exceptionTable := #[], attributes := #[] }
def k4m2 : Method := { name := "binarySearch", desc := "([IIII)I", sig := { parameters := [(.array .int), .int, .int, .int], returnType := some .int }, accessFlags := 9, code := some k4c2 }
def k4c3 : Code := { maxStack := 2, maxLocals := 8, code := jdk_65_method_59_code, exceptionTable := #[], attributes := #[] }
def k4m3 : Method := { name := "binarySearch0", desc := "([IIII)I", sig := { parameters := [(.array .int), .int, .int, .int], returnType := some .int }, accessFlags := 10, code := some k4c3 }
/-- java/util/Arrays -/
def k4 : Class := { plain "java/util/Arrays" (some 0) with
  accessFlags := 49
  interfaces := #[]
  cf := some (fileOf pool4 14 #[.nestMembers #[975, 375, 113, 74]] #[{ accessFlags := 2, nameIndex := 5, descriptorIndex := 6, attributes := #[] }, { accessFlags := 8, nameIndex := 17, descriptorIndex := 18, attributes := #[] }, { accessFlags := 9, nameIndex := 794, descriptorIndex := 211, attributes := #[] }, { accessFlags := 10, nameIndex := 207, descriptorIndex := 211, attributes := #[] }] 49 2 #[] #[{ accessFlags := 26, nameIndex := 715, descriptorIndex := 716, attributes := #[] }, { accessFlags := 26, nameIndex := 719, descriptorIndex := 716, attributes := #[] }, { accessFlags := 4120, nameIndex := 445, descriptorIndex := 117, attributes := #[] }])
  fields := #[{ name := "MIN_ARRAY_SORT_GRAN", type := .int, accessFlags := 26, slot := 0, constantValue := 0 }, { name := "INSERTIONSORT_THRESHOLD", type := .int, accessFlags := 26, slot := 1, constantValue := 0 }, { name := "$assertionsDisabled", type := .boolean, accessFlags := 4120, slot := 2, constantValue := 0 }]
  methods := #[k4m0, k4m1, k4m2, k4m3]
  instanceTypes := #[]
  staticTypes := #[.int, .int, .boolean]
  resolved := Array.replicate 1029 none
  statics := none }

def pool5 : Array CpInfo := pool [(2, .class_ 4), (1, u "java/lang/Object"), (0, u "<init>"), (0, u "()V"), (1, .class_ 10), (1, u "java/lang/System"), (0, u "allowSecurityManager"), (0, u "I"), (16, u "cons"), (0, u "Ljava/io/Console;"), (77, .class_ 110), (1, u "java/lang/System$CallersHolder"), (43, u "initialErrStream"), (0, u "Ljava/io/PrintStream;"), (19, u "security"), (0, u "Ljava/lang/SecurityManager;"), (31, .class_ 209), (0, u "java/lang/System$1"), (7, u "props"), (0, u "Ljava/util/Properties;"), (2, u "lineSeparator"), (0, u "Ljava/lang/String;"), (96, .class_ 321), (1, u "java/lang/System$LoggerFinder"), (5, .class_ 328), (0, u "java/lang/System$Logger"), (67, u "err"), (2, u "out"), (91, u "notSupportedJnuEncoding"), (15, u "in"), (17, u "initialIn"), (0, u "Ljava/io/InputStream;"), (35, u "bootLayer"), (0, u "Ljava/lang/ModuleLayer;"), (99, .class_ 664), (0, u "java/lang/System$2"), (9, u "NEVER"), (2, u "MAYBE"), (49, u "arraycopy"), (0, u "(Ljava/lang/Object;ILjava/lang/Object;II)V"), (72, .class_ 802), (0, u "java/lang/System$Logger$Level")] 31

def k5m0 : Method := { name := "<init>", desc := "()V", sig := { parameters := [], returnType := none }, accessFlags := 2, code := none }
def k5m1 : Method := { name := "arraycopy", desc := "(Ljava/lang/Object;ILjava/lang/Object;II)V", sig := { parameters := [(.object "java/lang/Object"), .int, (.object "java/lang/Object"), .int, .int], returnType := none }, accessFlags := 265, code := none }
/-- java/lang/System -/
def k5 : Class := { plain "java/lang/System" (some 0) with
  accessFlags := 49
  interfaces := #[]
  cf := some (fileOf pool5 8 #[.nestMembers #[319, 327, 801, 108, 663, 208]] #[{ accessFlags := 2, nameIndex := 5, descriptorIndex := 6, attributes := #[] }, { accessFlags := 265, nameIndex := 727, descriptorIndex := 728, attributes := #[] }] 49 2 #[] #[{ accessFlags := 25, nameIndex := 507, descriptorIndex := 526, attributes := #[] }, { accessFlags := 25, nameIndex := 399, descriptorIndex := 155, attributes := #[] }, { accessFlags := 25, nameIndex := 396, descriptorIndex := 155, attributes := #[] }, { accessFlags := 10, nameIndex := 525, descriptorIndex := 526, attributes := #[] }, { accessFlags := 26, nameIndex := 674, descriptorIndex := 12, attributes := #[] }, { accessFlags := 26, nameIndex := 677, descriptorIndex := 12, attributes := #[] }, { accessFlags := 10, nameIndex := 11, descriptorIndex := 12, attributes := #[] }, { accessFlags := 74, nameIndex := 175, descriptorIndex := 176, attributes := #[] }, { accessFlags := 10, nameIndex := 491, descriptorIndex := 222, attributes := #[] }, { accessFlags := 74, nameIndex := 29, descriptorIndex := 30, attributes := #[] }, { accessFlags := 74, nameIndex := 154, descriptorIndex := 155, attributes := #[] }, { accessFlags := 10, nameIndex := 217, descriptorIndex := 218, attributes := #[] }, { accessFlags := 10, nameIndex := 221, descriptorIndex := 222, attributes := #[] }, { accessFlags := 8, nameIndex := 562, descriptorIndex := 563, attributes := #[] }])
  fields := #[{ name := "in", type := (.object "java/io/InputStream"), accessFlags := 25, slot := 0, constantValue := 0 }, { name := "out", type := (.object "java/io/PrintStream"), accessFlags := 25, slot := 1, constantValue := 0 }, { name := "err", type := (.object "java/io/PrintStream"), accessFlags := 25, slot := 2, constantValue := 0 }, { name := "initialIn", type := (.object "java/io/InputStream"), accessFlags := 10, slot := 3, constantValue := 0 }, { name := "NEVER", type := .int, accessFlags := 26, slot := 4, constantValue := 0 }, { name := "MAYBE", type := .int, accessFlags := 26, slot := 5, constantValue := 0 }, { name := "allowSecurityManager", type := .int, accessFlags := 10, slot := 6, constantValue := 0 }, { name := "security", type := (.object "java/lang/SecurityManager"), accessFlags := 74, slot := 7, constantValue := 0 }, { name := "notSupportedJnuEncoding", type := (.object "java/lang/String"), accessFlags := 10, slot := 8, constantValue := 0 }, { name := "cons", type := (.object "java/io/Console"), accessFlags := 74, slot := 9, constantValue := 0 }, { name := "initialErrStream", type := (.object "java/io/PrintStream"), accessFlags := 74, slot := 10, constantValue := 0 }, { name := "props", type := (.object "java/util/Properties"), accessFlags := 10, slot := 11, constantValue := 0 }, { name := "lineSeparator", type := (.object "java/lang/String"), accessFlags := 10, slot := 12, constantValue := 0 }, { name := "bootLayer", type := (.object "java/lang/ModuleLayer"), accessFlags := 8, slot := 13, constantValue := 0 }]
  methods := #[k5m0, k5m1]
  instanceTypes := #[]
  staticTypes := #[(.object "java/io/InputStream"), (.object "java/io/PrintStream"), (.object "java/io/PrintStream"), (.object "java/io/InputStream"), .int, .int, .int, (.object "java/lang/SecurityManager"), (.object "java/lang/String"), (.object "java/io/Console"), (.object "java/io/PrintStream"), (.object "java/util/Properties"), (.object "java/lang/String"), (.object "java/lang/ModuleLayer")]
  resolved := Array.replicate 834 none
  statics := none }

def pool6 : Array CpInfo := pool [(1, .class_ 2), (0, u "java/lang/Math"), (1, .class_ 6), (1, u "java/lang/Object"), (0, u "<init>"), (0, u "()V"), (89, .class_ 100), (1, u "java/lang/Math$RandomNumberGeneratorHolder"), (71, u "negativeZeroFloatBits"), (0, u "J"), (2, u "negativeZeroDoubleBits"), (21, u "max"), (2, u "min"), (43, u "$assertionsDisabled"), (0, u "Z"), (88, u "(II)I"), (2, u "twoToTheDoubleScaleDown"), (0, u "D"), (4, u "twoToTheDoubleScaleUp"), (9, u "E"), (3, u "PI"), (2, u "TAU"), (2, u "DEGREES_TO_RADIANS"), (0, u "RADIANS_TO_DEGREES")] 94

def k6m0 : Method := { name := "<init>", desc := "()V", sig := { parameters := [], returnType := none }, accessFlags := 2, code := none }
def k6c1 : Code := { maxStack := 2, maxLocals := 2, code := jdk_29_method_65_code, exceptionTable := #[], attributes := #[] }
def k6m1 : Method := { name := "max", desc := "(II)I", sig := { parameters := [.int, .int], returnType := some .int }, accessFlags := 9, code := some k6c1 }
def k6c2 : Code := { maxStack := 2, maxLocals := 2, code := jdk_29_method_69_code, exceptionTable := #[], attributes := #[] }
def k6m2 : Method := { name := "min", desc := "(II)I", sig := { parameters := [.int, .int], returnType := some .int }, accessFlags := 9, code := some k6c2 }
/-- java/lang/Math -/
def k6 : Class := { plain "java/lang/Math" (some 0) with
  accessFlags := 49
  interfaces := #[]
  cf := some (fileOf pool6 1 #[.nestMembers #[98]] #[{ accessFlags := 2, nameIndex := 7, descriptorIndex := 8, attributes := #[] }, { accessFlags := 9, nameIndex := 198, descriptorIndex := 335, attributes := #[] }, { accessFlags := 9, nameIndex := 201, descriptorIndex := 335, attributes := #[] }] 49 4 #[] #[{ accessFlags := 25, nameIndex := 354, descriptorIndex := 339, attributes := #[] }, { accessFlags := 25, nameIndex := 358, descriptorIndex := 339, attributes := #[] }, { accessFlags := 25, nameIndex := 361, descriptorIndex := 339, attributes := #[] }, { accessFlags := 26, nameIndex := 364, descriptorIndex := 339, attributes := #[] }, { accessFlags := 26, nameIndex := 365, descriptorIndex := 339, attributes := #[] }, { accessFlags := 26, nameIndex := 172, descriptorIndex := 173, attributes := #[] }, { accessFlags := 26, nameIndex := 176, descriptorIndex := 173, attributes := #[] }, { accessFlags := 8, nameIndex := 344, descriptorIndex := 339, attributes := #[] }, { accessFlags := 8, nameIndex := 338, descriptorIndex := 339, attributes := #[] }, { accessFlags := 4120, nameIndex := 245, descriptorIndex := 246, attributes := #[] }])
  fields := #[{ name := "E", type := .double, accessFlags := 25, slot := 0, constantValue := 0 }, { name := "PI", type := .double, accessFlags := 25, slot := 1, constantValue := 0 }, { name := "TAU", type := .double, accessFlags := 25, slot := 2, constantValue := 0 }, { name := "DEGREES_TO_RADIANS", type := .double, accessFlags := 26, slot := 3, constantValue := 0 }, { name := "RADIANS_TO_DEGREES", type := .double, accessFlags := 26, slot := 4, constantValue := 0 }, { name := "negativeZeroFloatBits", type := .long, accessFlags := 26, slot := 5, constantValue := 0 }, { name := "negativeZeroDoubleBits", type := .long, accessFlags := 26, slot := 6, constantValue := 0 }, { name := "twoToTheDoubleScaleUp", type := .double, accessFlags := 8, slot := 7, constantValue := 0 }, { name := "twoToTheDoubleScaleDown", type := .double, accessFlags := 8, slot := 8, constantValue := 0 }, { name := "$assertionsDisabled", type := .boolean, accessFlags := 4120, slot := 9, constantValue := 0 }]
  methods := #[k6m0, k6m1, k6m2]
  instanceTypes := #[]
  staticTypes := #[.double, .double, .double, .double, .double, .long, .long, .double, .double, .boolean]
  resolved := Array.replicate 460 none
  statics := none }

def pool7 : Array CpInfo := pool [(1, u "java/lang/Cloneable"), (0, .class_ 1), (0, u "java/lang/Object"), (0, .class_ 3)] 3

/-- java/lang/Cloneable -/
def k7 : Class := { plain "java/lang/Cloneable" (some 0) with
  accessFlags := 1537
  interfaces := #[]
  cf := some (fileOf pool7 2 #[] #[] 1537 4 #[] #[])
  fields := #[]
  methods := #[]
  instanceTypes := #[]
  staticTypes := #[]
  resolved := Array.replicate 8 none
  statics := none }

def pool8 : Array CpInfo := pool [(1, u "java/io/Serializable"), (0, .class_ 1), (0, u "java/lang/Object"), (0, .class_ 3)] 3

/-- java/io/Serializable -/
def k8 : Class := { plain "java/io/Serializable" (some 0) with
  accessFlags := 1537
  interfaces := #[]
  cf := some (fileOf pool8 2 #[] #[] 1537 4 #[] #[])
  fields := #[]
  methods := #[]
  instanceTypes := #[]
  staticTypes := #[]
  resolved := Array.replicate 8 none
  statics := none }

/-- the primitive byte -/
def k9 : Class := { plain "byte" none with kind := .primitive 'B', accessFlags := 0x411 }
/-- [B -/
def k10 : Class := { plain "[B" (some 0) with kind := .array 9 .byte, interfaces := #[7, 8], accessFlags := 1041 }

/-- the primitive int -/
def k11 : Class := { plain "int" none with kind := .primitive 'I', accessFlags := 0x411 }
/-- [I -/
def k12 : Class := { plain "[I" (some 0) with kind := .array 11 .int, interfaces := #[7, 8], accessFlags := 1041 }

/-- [Lcom/example/rhadamanthus/rhadamanthus/analysis/Entries$Row; -/
def k13 : Class := { plain "[Lcom/example/rhadamanthus/rhadamanthus/analysis/Entries$Row;" (some 0) with kind := .array 3 (.object "com/example/rhadamanthus/rhadamanthus/analysis/Entries$Row"), interfaces := #[7, 8], accessFlags := 1041 }

/-- [[Lcom/example/rhadamanthus/rhadamanthus/analysis/Entries$Row; -/
def k14 : Class := { plain "[[Lcom/example/rhadamanthus/rhadamanthus/analysis/Entries$Row;" (some 0) with kind := .array 13 (.array (.object "com/example/rhadamanthus/rhadamanthus/analysis/Entries$Row")), interfaces := #[7, 8], accessFlags := 1041 }

def heap : Heap := #[{ cls := 2, slots := #[.int 0, .ref 1], vm := .statics 2 },
  { cls := 12, slots := #[], vm := .none }]
def classes : Array Class := #[k0, k1, k2, k3, k4, k5, k6, k7, k8, k9, k10, k11, k12, k13, k14]
def interned : List (Array UInt16 × Addr) := []
def slotsUsed : Nat := 2
def theMethod : MethodId := ⟨1, 1⟩
def args0 : Array Value := #[.int 5, .int 6, .int 7, .int 8, .int 1]
def aboutOver (below : List Frame) : State where
  vm := { classes := classes, interned := interned.toArray }
  heap := heap
  slotsUsed := slotsUsed
  threads := #[{ frames := .invoking theMethod args0 :: below }]
def below0 : List Frame := [.native { method := ⟨0, 0⟩, args := #[] }]
def about1 : State := aboutOver below0
def p0 : Program := .bare "" "" ""
def e0 : Env := launch0.env 0 0 0
theorem w_frames : about1.frames = Frame.invoking theMethod args0 :: below0 := rfl
set_option maxRecDepth 65536 in
theorem w_args : argsFit about1.vm theMethod args0 = true := by decide +kernel
set_option maxRecDepth 65536 in
theorem w_heap : heapFits about1 = true := by decide +kernel
set_option maxRecDepth 65536 in
theorem w_runnable : about1.curStatus? = some .runnable := by decide +kernel
set_option maxRecDepth 65536 in
theorem w_alone : about1.alone = true := by decide +kernel
set_option maxRecDepth 65536 in
theorem w_named : about1.methodNamed? x = some theMethod := by decide +kernel
set_option maxRecDepth 65536 in
theorem w_hears : about1.hears theMethod below0 = true := by decide +kernel
set_option maxRecDepth 65536 in
theorem w_ripe : about1.ripe theMethod args0 below0 = true := by decide +kernel
theorem w_running : about1.status = .running := rfl
set_option maxRecDepth 65536 in
theorem w_room : about1.hasRoom e0.platform room_1 = true :=
  launch0.hasRoom_least _ room_1 (by decide +kernel) (by decide +kernel) (by decide +kernel) (by decide +kernel) (by decide +kernel) (by decide +kernel)
theorem allAtoms_all (ts : List Jvm.Cond) (a : Array Jvm.Value) (st : Jvm.State) : (allAtoms ts).before a st = ts.all (fun c => c.before a st) := by
  induction ts with
  | nil => rfl
  | cons c t ih =>
    show (Jvm.Cond.and c (allAtoms t)).before a st = _
    rw [Jvm.Cond.before_and, ih, List.all_cons]
def words1 : List Jvm.Cond := Jvm.Cond.code x code maxLocals ret :: tables_1
/-- a 'code' word, met by the world's own term for the bytes: nothing is compared byte by byte -/
theorem code_word {y : MethodName} {bytes : ByteArray} {mx : Nat} {rt : Option FieldType} {a : Array Value} {s : State} {m : MethodId} {meth : Method} {c : Code} (h1 : s.methodNamed? y = some m) (h2 : s.vm.method? m = some meth) (h3 : meth.code = some c) (h4 : c.code = bytes)
    (h5 : (c.maxLocals == mx && c.exceptionTable.isEmpty && decide (c.maxStack ≤ mostOperands) && decide (meth.sig.returnType = rt) && !meth.locks && decide (parseMethodDescriptor y.desc = some meth.sig)) = true) : (Jvm.Cond.code y bytes mx rt).before a s = true := by
  simp only [Bool.and_eq_true, beq_iff_eq, Bool.not_eq_true', decide_eq_true_eq] at h5
  obtain ⟨⟨⟨⟨⟨g1, g2⟩, g3⟩, g4⟩, g5⟩, g6⟩ := h5
  simp [Cond.before, Cond.holds, Cond.value, h1, h2, h3, h4, g1, g2, g3, g4, g5, g6]
def isCode : Jvm.Cond → Bool
  | .code _ _ _ _ => true
  | _ => false
theorem all_split {L : List Jvm.Cond} {P : Jvm.Cond → Bool} (h1 : L.all (fun c => isCode c || P c) = true) (h2 : ∀ c ∈ L.filter isCode, P c = true) : L.all P = true := by
  refine List.all_eq_true.mpr fun c hc => ?_
  have h := List.all_eq_true.mp h1 c hc
  rcases Bool.eq_false_or_eq_true (isCode c) with hi | hi
  · exact h2 c (List.mem_filter.mpr ⟨hc, hi⟩)
  · simpa [hi] using h
set_option maxRecDepth 65536 in
theorem w_c0 : (Jvm.Cond.code x code maxLocals ret).before args0 about1 = true := code_word (m := ⟨1, 1⟩) (meth := k1m1) (c := k1c1) (by decide +kernel) rfl rfl rfl (by decide +kernel)
set_option maxRecDepth 65536 in
theorem w_c1 : (Jvm.Cond.code ({ cls := "com/example/rhadamanthus/rhadamanthus/analysis/Entries", name := "<init>", desc := "(II)V" } : Jvm.MethodName) prog_1_method_1_code (3 : Nat) (Option.none : Option Jvm.ClassFile.FieldType)).before args0 about1 = true := code_word (m := ⟨2, 0⟩) (meth := k2m0) (c := k2c0) (by decide +kernel) rfl rfl rfl (by decide +kernel)
set_option maxRecDepth 65536 in
theorem w_c2 : (Jvm.Cond.code ({ cls := "java/lang/Object", name := "<init>", desc := "()V" } : Jvm.MethodName) object_method_1_code (1 : Nat) (Option.none : Option Jvm.ClassFile.FieldType)).before args0 about1 = true := code_word (m := ⟨0, 0⟩) (meth := k0m0) (c := k0c0) (by decide +kernel) rfl rfl rfl (by decide +kernel)
set_option maxRecDepth 65536 in
theorem w_c3 : (Jvm.Cond.code ({ cls := "com/example/rhadamanthus/rhadamanthus/analysis/Entries", name := "add", desc := "(IIII)V" } : Jvm.MethodName) prog_1_method_2_code (7 : Nat) (Option.none : Option Jvm.ClassFile.FieldType)).before args0 about1 = true := code_word (m := ⟨2, 1⟩) (meth := k2m1) (c := k2c1) (by decide +kernel) rfl rfl rfl (by decide +kernel)
set_option maxRecDepth 65536 in
theorem w_c4 : (Jvm.Cond.code ({ cls := "com/example/rhadamanthus/rhadamanthus/analysis/Entries$Row", name := "<init>", desc := "(Z)V" } : Jvm.MethodName) prog_2_method_1_code (2 : Nat) (Option.none : Option Jvm.ClassFile.FieldType)).before args0 about1 = true := code_word (m := ⟨3, 0⟩) (meth := k3m0) (c := k3c0) (by decide +kernel) rfl rfl rfl (by decide +kernel)
set_option maxRecDepth 65536 in
theorem w_c5 : (Jvm.Cond.code ({ cls := "com/example/rhadamanthus/rhadamanthus/analysis/Entries$Row", name := "insert", desc := "(II)Z" } : Jvm.MethodName) prog_2_method_2_code (5 : Nat) (Option.some Jvm.ClassFile.FieldType.boolean)).before args0 about1 = true := code_word (m := ⟨3, 1⟩) (meth := k3m1) (c := k3c1) (by decide +kernel) rfl rfl rfl (by decide +kernel)
set_option maxRecDepth 65536 in
theorem w_c6 : (Jvm.Cond.code ({ cls := "com/example/rhadamanthus/rhadamanthus/analysis/Entries$Row", name := "indexOf", desc := "(I)I" } : Jvm.MethodName) prog_2_method_3_code (2 : Nat) (Option.some Jvm.ClassFile.FieldType.int)).before args0 about1 = true := code_word (m := ⟨3, 2⟩) (meth := k3m2) (c := k3c2) (by decide +kernel) rfl rfl rfl (by decide +kernel)
set_option maxRecDepth 65536 in
theorem w_c7 : (Jvm.Cond.code ({ cls := "java/util/Arrays", name := "binarySearch", desc := "([IIII)I" } : Jvm.MethodName) jdk_65_method_58_code (4 : Nat) (Option.some Jvm.ClassFile.FieldType.int)).before args0 about1 = true := code_word (m := ⟨4, 2⟩) (meth := k4m2) (c := k4c2) (by decide +kernel) rfl rfl rfl (by decide +kernel)
set_option maxRecDepth 65536 in
theorem w_c8 : (Jvm.Cond.code ({ cls := "java/util/Arrays", name := "rangeCheck", desc := "(III)V" } : Jvm.MethodName) jdk_65_method_30_code (3 : Nat) (Option.none : Option Jvm.ClassFile.FieldType)).before args0 about1 = true := code_word (m := ⟨4, 1⟩) (meth := k4m1) (c := k4c1) (by decide +kernel) rfl rfl rfl (by decide +kernel)
set_option maxRecDepth 65536 in
theorem w_c9 : (Jvm.Cond.code ({ cls := "java/util/Arrays", name := "binarySearch0", desc := "([IIII)I" } : Jvm.MethodName) jdk_65_method_59_code (8 : Nat) (Option.some Jvm.ClassFile.FieldType.int)).before args0 about1 = true := code_word (m := ⟨4, 3⟩) (meth := k4m3) (c := k4c3) (by decide +kernel) rfl rfl rfl (by decide +kernel)
set_option maxRecDepth 65536 in
theorem w_c10 : (Jvm.Cond.code ({ cls := "com/example/rhadamanthus/rhadamanthus/analysis/Entries", name := "all", desc := "(I)[I" } : Jvm.MethodName) prog_1_method_6_code (9 : Nat) (Option.some (Jvm.ClassFile.FieldType.array Jvm.ClassFile.FieldType.int))).before args0 about1 = true := code_word (m := ⟨2, 2⟩) (meth := k2m2) (c := k2c2) (by decide +kernel) rfl rfl rfl (by decide +kernel)
set_option maxRecDepth 65536 in
theorem w_c11 : (Jvm.Cond.code ({ cls := "com/example/rhadamanthus/rhadamanthus/analysis/EntriesAllPinLaw", name := "key", desc := "(II)I" } : Jvm.MethodName) method_3_code (2 : Nat) (Option.some Jvm.ClassFile.FieldType.int)).before args0 about1 = true := code_word (m := ⟨1, 2⟩) (meth := k1m2) (c := k1c2) (by decide +kernel) rfl rfl rfl (by decide +kernel)
set_option maxRecDepth 65536 in
theorem w_c12 : (Jvm.Cond.code ({ cls := "java/lang/Math", name := "min", desc := "(II)I" } : Jvm.MethodName) jdk_29_method_69_code (2 : Nat) (Option.some Jvm.ClassFile.FieldType.int)).before args0 about1 = true := code_word (m := ⟨6, 2⟩) (meth := k6m2) (c := k6c2) (by decide +kernel) rfl rfl rfl (by decide +kernel)
set_option maxRecDepth 65536 in
theorem w_c13 : (Jvm.Cond.code ({ cls := "java/lang/Math", name := "max", desc := "(II)I" } : Jvm.MethodName) jdk_29_method_65_code (2 : Nat) (Option.some Jvm.ClassFile.FieldType.int)).before args0 about1 = true := code_word (m := ⟨6, 1⟩) (meth := k6m1) (c := k6c1) (by decide +kernel) rfl rfl rfl (by decide +kernel)
set_option maxRecDepth 65536 in
theorem w_c14 : (Jvm.Cond.code ({ cls := "com/example/rhadamanthus/rhadamanthus/analysis/EntriesAllPinLaw", name := "at", desc := "([II[II)Z" } : Jvm.MethodName) method_4_code (4 : Nat) (Option.some Jvm.ClassFile.FieldType.boolean)).before args0 about1 = true := code_word (m := ⟨1, 3⟩) (meth := k1m3) (c := k1c3) (by decide +kernel) rfl rfl rfl (by decide +kernel)
def codes1 : List Jvm.Cond := [Jvm.Cond.code x code maxLocals ret, Jvm.Cond.code ({ cls := "com/example/rhadamanthus/rhadamanthus/analysis/Entries", name := "<init>", desc := "(II)V" } : Jvm.MethodName) prog_1_method_1_code (3 : Nat) (Option.none : Option Jvm.ClassFile.FieldType), Jvm.Cond.code ({ cls := "java/lang/Object", name := "<init>", desc := "()V" } : Jvm.MethodName) object_method_1_code (1 : Nat) (Option.none : Option Jvm.ClassFile.FieldType), Jvm.Cond.code ({ cls := "com/example/rhadamanthus/rhadamanthus/analysis/Entries", name := "add", desc := "(IIII)V" } : Jvm.MethodName) prog_1_method_2_code (7 : Nat) (Option.none : Option Jvm.ClassFile.FieldType), Jvm.Cond.code ({ cls := "com/example/rhadamanthus/rhadamanthus/analysis/Entries$Row", name := "<init>", desc := "(Z)V" } : Jvm.MethodName) prog_2_method_1_code (2 : Nat) (Option.none : Option Jvm.ClassFile.FieldType), Jvm.Cond.code ({ cls := "com/example/rhadamanthus/rhadamanthus/analysis/Entries$Row", name := "insert", desc := "(II)Z" } : Jvm.MethodName) prog_2_method_2_code (5 : Nat) (Option.some Jvm.ClassFile.FieldType.boolean), Jvm.Cond.code ({ cls := "com/example/rhadamanthus/rhadamanthus/analysis/Entries$Row", name := "indexOf", desc := "(I)I" } : Jvm.MethodName) prog_2_method_3_code (2 : Nat) (Option.some Jvm.ClassFile.FieldType.int), Jvm.Cond.code ({ cls := "java/util/Arrays", name := "binarySearch", desc := "([IIII)I" } : Jvm.MethodName) jdk_65_method_58_code (4 : Nat) (Option.some Jvm.ClassFile.FieldType.int), Jvm.Cond.code ({ cls := "java/util/Arrays", name := "rangeCheck", desc := "(III)V" } : Jvm.MethodName) jdk_65_method_30_code (3 : Nat) (Option.none : Option Jvm.ClassFile.FieldType), Jvm.Cond.code ({ cls := "java/util/Arrays", name := "binarySearch0", desc := "([IIII)I" } : Jvm.MethodName) jdk_65_method_59_code (8 : Nat) (Option.some Jvm.ClassFile.FieldType.int), Jvm.Cond.code ({ cls := "com/example/rhadamanthus/rhadamanthus/analysis/Entries", name := "all", desc := "(I)[I" } : Jvm.MethodName) prog_1_method_6_code (9 : Nat) (Option.some (Jvm.ClassFile.FieldType.array Jvm.ClassFile.FieldType.int)), Jvm.Cond.code ({ cls := "com/example/rhadamanthus/rhadamanthus/analysis/EntriesAllPinLaw", name := "key", desc := "(II)I" } : Jvm.MethodName) method_3_code (2 : Nat) (Option.some Jvm.ClassFile.FieldType.int), Jvm.Cond.code ({ cls := "java/lang/Math", name := "min", desc := "(II)I" } : Jvm.MethodName) jdk_29_method_69_code (2 : Nat) (Option.some Jvm.ClassFile.FieldType.int), Jvm.Cond.code ({ cls := "java/lang/Math", name := "max", desc := "(II)I" } : Jvm.MethodName) jdk_29_method_65_code (2 : Nat) (Option.some Jvm.ClassFile.FieldType.int), Jvm.Cond.code ({ cls := "com/example/rhadamanthus/rhadamanthus/analysis/EntriesAllPinLaw", name := "at", desc := "([II[II)Z" } : Jvm.MethodName) method_4_code (4 : Nat) (Option.some Jvm.ClassFile.FieldType.boolean)]
set_option maxRecDepth 65536 in
theorem codes_eq : words1.filter isCode = codes1 := rfl
theorem w_codes : ∀ c ∈ words1.filter isCode, c.before args0 about1 = true := by
  rw [codes_eq]
  intro c hc
  simp only [codes1, List.mem_cons, List.not_mem_nil, or_false] at hc
  rcases hc with rfl | rfl | rfl | rfl | rfl | rfl | rfl | rfl | rfl | rfl | rfl | rfl | rfl | rfl | rfl
  · exact w_c0
  · exact w_c1
  · exact w_c2
  · exact w_c3
  · exact w_c4
  · exact w_c5
  · exact w_c6
  · exact w_c7
  · exact w_c8
  · exact w_c9
  · exact w_c10
  · exact w_c11
  · exact w_c12
  · exact w_c13
  · exact w_c14
set_option maxRecDepth 65536 in
theorem w_t1 : (words1.take 24).all (fun c => isCode c || c.before args0 about1) = true := by decide +kernel
set_option maxRecDepth 65536 in
theorem w_t2 : ((words1.drop 24).take 24).all (fun c => isCode c || c.before args0 about1) = true := by decide +kernel
set_option maxRecDepth 65536 in
theorem w_t3 : (((words1.drop 24).drop 24).take 24).all (fun c => isCode c || c.before args0 about1) = true := by decide +kernel
set_option maxRecDepth 65536 in
theorem w_t4 : (((words1.drop 24).drop 24).drop 24).all (fun c => isCode c || c.before args0 about1) = true := by decide +kernel
theorem w_tables : (allAtoms (Jvm.Cond.code x code maxLocals ret :: tables_1)).before args0 about1 = true := by
  rw [allAtoms_all]
  show words1.all (fun c => c.before args0 about1) = true
  refine all_split ?_ w_codes
  rw [← List.take_append_drop 24 words1, List.all_append, w_t1, ← List.take_append_drop 24 (words1.drop 24), List.all_append, w_t2, ← List.take_append_drop 24 ((words1.drop 24).drop 24), List.all_append, w_t3, w_t4]
  rfl
set_option maxRecDepth 65536 in
theorem w_case : (Jvm.Cond.and given_1 narrow_1).before args0 about1 = true := by decide +kernel
theorem w_applies : (headSpec (Jvm.Cond.code x code maxLocals ret :: tables_1) room_1).applies x e0.platform about1 = true :=
  (Spec.applies_iff w_frames).mpr ⟨w_running, w_runnable, w_alone, w_named, w_hears, w_ripe, w_room, w_tables⟩
theorem atStart : AtStart classFile x code maxLocals ret World_1 tables_1 room_1 Calls_1 rest_1 Pre_1 launch0 p0 e0 about1 theMethod args0 below0 :=
  ⟨lists_1, trivial, launch0.admits_env _ _ _, launch0.least_env, fairChoices_fair.cas, fairChoices_fair.clock, w_frames, w_args, w_heap, w_applies, trivial, trivial, w_case⟩
end start1
theorem witness_1 : WitnessClaimed_1 := ⟨start1.p0, start1.e0, start1.about1, start1.theMethod, start1.args0, start1.below0, start1.atStart⟩
end Jvm.Pilot.@@N@@
