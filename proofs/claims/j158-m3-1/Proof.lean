import JvmDerived
import JvmDerived.Pilot.@@N@@Statement
import JvmDerived.Pilot.@@N@@Code
set_option linter.unusedVariables false
set_option linter.unusedSimpArgs false
@@BLOCK:LamKit.lean.txt@@
namespace Jvm.RoadKit
open Sem ClassFile Op Lib Jvm.Stand Jvm.Free Jvm.LawKit
section New
variable {p : Program} {l : Launch} {e : Env} {R : Room} {s : State} {m : MethodId} {args : Array Value} {below : List Frame} {meth : Method} {c : Code} {T : State} {locs : List Loc} {cells slots : Nat}
theorem retI (X : Stand p l e R s m args below meth c T locs cells slots) (hx : p.tables.exec = Jvm.exec) {pc : Nat} {Ls : Array Slot} {z : Int32} {rest : List Value} (hret : meth.sig.returnType = some .int) (hd : decode c.code pc = .ok (.ireturn, 1)) {fs : List Frame}
    (hl : ∀ (f : JFrame) (acts : List Action), f.method = m → f.locked = none → f.entered = [] → (doReturn e (T.setTop f) acts (some (.int z))).1 = T.setFrames fs) : Steps p.tables e below (T.setTop (mkF m pc Ls (.int z :: rest))) (T.setFrames fs) := by
  have hm' : T.vm.method? m = some meth := X.method'
  have hn : narrow .int (.int z) = .int z := rfl
  show Steps p.tables e below (T.setTop { method := m, pc := pc, locals := Ls, stack := _ :: rest, locked := none }) _
  jvm_step X.here [X.here.top, hx, hd, hm', hret, hn]
  first | (intro acts; rw [hl _ acts rfl rfl rfl]) | rw [hl _ _ rfl rfl rfl]
  exact Steps.refl _
end New
end Jvm.RoadKit
namespace Jvm.Pilot.@@N@@
open Jvm Jvm.ClassFile Sem Op Lib Jvm.Free Jvm.Stand Jvm.LawKit Jvm.RoadKit Bundle Jvm.Pilot.@@N@@.Jvm.D
/-- from A the run comes to its end, as the contract wants it -/
def Goes (p : Program) (e : Env) (below : List Frame) (En : Outcome → State → List Loc → Prop) (Q : Option Value → Heap → List Loc → Prop) (A : State) : Prop :=
  ∃ s₂ o, Steps p.tables e below A s₂ ∧ s₂.status = .running ∧ Ended s₂ below o ∧ ∃ v L, o = .returned v ∧ Q v s₂.heap L ∧ En o s₂ L
abbrev Met (l : Launch) (Z : State) (y : MethodName) (bytes : ByteArray) (maxL : Nat) (ret : Option FieldType) (rm : Room) (ws : List Jvm.Cond) (as : Array Value) (h0 : Heap) (Q : Option Value → Heap → List Loc → Prop) : Prop :=
  MetFree l y (head1 (Jvm.Cond.code y bytes maxL ret :: ws) rm) (fun aa U => aa = as ∧ Z.Warmed39 U.vm ∧ U.heap = h0) (fun _ _ _ _ _ => True) (fun _ U o U' => ∃ v L, o = .returned v ∧ Q v U'.heap L ∧ FrameEnd U o U' L rm.cells rm.slots)
abbrev MetW (l : Launch) (Z : State) (y : MethodName) (bytes : ByteArray) (maxL : Nat) (ret : Option FieldType) (rm : Room) (ws : List Jvm.Cond) (as : Array Value) (h0 : Heap) (Q : Option Value → Heap → List Loc → Prop) : Prop :=
  MetFree l y (head1 (Jvm.Cond.code y bytes maxL ret :: ws) rm) (fun aa U => aa = as ∧ Z.Warmed39 U.vm ∧ U.heap = h0) (fun _ _ _ _ _ => True) (fun _ U o U' => ∃ v L, o = .returned v ∧ Q v U'.heap L ∧ ReturnedEndW U o U' L rm.cells rm.slots)
abbrev MetH (l : Launch) (Z : State) (y : MethodName) (bytes : ByteArray) (maxL : Nat) (ret : Option FieldType) (rm : Room) (ws : List Jvm.Cond) (as : Array Value) (h0 : Heap) (Q : Option Value → Heap → List Loc → Prop) : Prop :=
  MetFree l y (head1 (Jvm.Cond.code y bytes maxL ret :: ws) rm) (fun aa U => aa = as ∧ Z.Warmed39 U.vm ∧ U.heap = h0 ∧ CHv Z consts_1 U.vm h0) (fun _ _ _ _ _ => True) (fun _ U o U' => ∃ v L, o = .returned v ∧ Q v U'.heap L ∧ CHr Z consts_1 U.vm U.heap U'.vm U'.heap ∧ ReturnedEndW U o U' L rm.cells rm.slots)
theorem gw {a0 : Array Value} {Z : State} (hw : ∀ d ∈ tables_1, d.before a0 Z = true) (i : Nat) {d : Jvm.Cond} (h : tables_1[i]? = some d) : d.before a0 Z = true := hw _ (List.mem_of_getElem? h)
theorem w0 {n W : Nat} (h : n ≤ W) : 2 * 0 + n ≤ W := by omega
def Ob (h : Heap) (x : Addr) : Prop := ∀ c : Cell, h[x]? = some c → c.vm.isStatics = false
theorem own_obE {Z : State} {h : Heap} {a : Addr} {C : String} (F : Exa Z h a C) : Ob h a := fun c hc => by obtain ⟨c', k, h1, -, -, h4, -⟩ := F; cases h1.symm.trans hc; exact h4
theorem own_staK {Z : State} {h h' : Heap} {C n d : String} {v : Value} {ws : List Addr} (F : Sta Z h C n d v) (K : Keep h h' ws) (q : ∀ x ∈ ws, Ob h x) : Sta Z h' C n d v := by
  obtain ⟨cf, i, k, f, st, cell, h1, h2, h3, h4, h5, h6, h7⟩ := F
  exact ⟨cf, i, k, f, st, cell, h1, h2, h3, h4, K.2.1 st cell h5 (fun hm => by have := q st hm cell h5; rw [this] at h6; cases h6), h6, h7⟩
def NFc (Z : State) (K : String) : Prop := ∃ t kt, Z.vm.findClass K = some t ∧ Z.vm.classes[t]? = some kt ∧ kt.isInterface = false
set_option maxRecDepth 65536 in
theorem own_nsNo {Z : State} {a0 : Array Value} {C S K : String} (w : (Cond.superclass C S).before a0 Z = true) (wk : NFc Z K) (n : NS Z C K) (hn : C ≠ K) : ∃ c t, Z.vm.findClass C = some c ∧ Z.vm.findClass K = some t ∧ Z.vm.assignable c t = false := by
  obtain ⟨c, t, h0, g0, n3⟩ := n
  obtain ⟨p, k, kp, h1, h2, h3, h4, h5, -⟩ := Cond.superclass_spec h0 w
  obtain ⟨t', kt, g1, g2, g3⟩ := wk
  cases g0.symm.trans g1
  have ne := ids_ne h0 g0 hn
  refine ⟨c, t, h0, g0, ?_⟩
  show Z.vm.assignableAux (255 + 1) c t = false
  cases hq : kt.kind <;> simp [Vm.assignableAux, ne, h2, g2, h5, hq, g3, Vm.isSubclass, n3]
section OwnSteps
variable {p : Program} {l : Launch} {e : Env} {R : Room} {s : State} {m : MethodId} {args : Array Value} {below : List Frame} {meth : Method} {c : Code} {T : State} {locs : List Loc} {cells slots : Nat}
theorem Goes.step {En : Outcome → State → List Loc → Prop} {Q : Option Value → Heap → List Loc → Prop} {A B : State} (st : ∀ t, Steps p.tables e below A t → Steps p.tables e below B t) (h : Goes p e below En Q A) : Goes p e below En Q B :=
  let ⟨s₂, o, h1, r⟩ := h; ⟨s₂, o, st _ h1, r⟩
theorem Gs {En : Outcome → State → List Loc → Prop} {Q : Option Value → Heap → List Loc → Prop} {A B : State} (st : ∀ t, Steps p.tables e below A t → Steps p.tables e below B t) (h : Goes p e below En Q A) : Goes p e below En Q B := Goes.step st h
theorem own_met {Z : State} {y : MethodName} {bytes : ByteArray} {maxL : Nat} {ret : Option FieldType} {rm : Room} {ws : List Jvm.Cond} {as : Array Value} {h0 : Heap} {Q : Option Value → Heap → List Loc → Prop} (hp : plainFor y = true)
    (body : ∀ p e s m below meth c s₁, meth.sig.returnType = ret → p.tables.exec = Jvm.exec → c.code = bytes → meth.locks = false → c.maxLocals = maxL → s.vm.findClass y.cls = some m.cls → meth.name = y.name → Stand p l e rm s m as below meth c s₁ [] 0 0 → s₁.heap = h0 → Z.Warmed39 s.vm → s.heap = h0 →
      Goes p e below (fun o u L => FrameEnd s o u L rm.cells rm.slots) Q (s₁.setTop (entryFrame m as maxL))) : Met l Z y bytes maxL ret rm ws as h0 Q := by
  refine MetFree.of_bodySF hp hisR ?_
  intro p e s m args below meth c s₁ Bd hml0 hP hK
  obtain ⟨rfl, hZ, hh⟩ := hP
  exact body p e s m below meth c s₁ Bd.returns Bd.exec Bd.bytes (BodyLoose.notSynchronized Bd) hml0 (findClass_of_methodNamed Bd.named) (name_of_methodNamed Bd.named Bd.method).1 (Stand.of_body Bd) (by rw [← hh, Bd.state]; rfl) hZ hh
theorem Goes.ret (X : Stand p l e R s m args below meth c T locs cells slots) {rc rs : Nat} {Q : Option Value → Heap → List Loc → Prop} {B : State} (v : Option Value) (hv : meth.sig.returnType = none → v = none) (hlk : meth.locks = false) (hc : cells ≤ rc) (hs : slots ≤ rs) (q : Q v T.heap locs)
    (k : ∀ fs, (∀ (f : JFrame) (acts : List Action), f.method = m → f.locked = none → f.entered = [] → (doReturn e (T.setTop f) acts v).1 = T.setFrames fs) → Steps p.tables e below B (T.setFrames fs)) : Goes p e below (fun o u L => FrameEnd s o u L rc rs) Q B := by
  obtain ⟨fs, hr, hrun, hended, hW, hsame⟩ := X.leave (v := v) hv hlk
  exact ⟨_, _, k fs hr, hrun, hended, _, _, rfl, q, ⟨_, rfl⟩, hW, hsame.mono hc hs⟩
theorem own_metH {Z : State} {y : MethodName} {bytes : ByteArray} {maxL : Nat} {ret : Option FieldType} {rm : Room} {ws : List Jvm.Cond} {as : Array Value} {h0 : Heap} {Q : Option Value → Heap → List Loc → Prop} (hp : plainFor y = true)
    (body : ∀ p e s m below meth c s₁, meth.sig.returnType = ret → p.tables.exec = Jvm.exec → c.code = bytes → meth.locks = false → c.maxLocals = maxL → (s.setVm s.vm).vm.findClass y.cls = some m.cls → meth.name = y.name → Stand p l e rm (s.setVm s.vm) m as below meth c s₁ [] 0 0 → s₁.heap = h0 → Z.Warmed39 s.vm → s.heap = h0 → CHv Z consts_1 s.vm h0 →
      Goes p e below (fun o u L => CHr Z consts_1 s.vm s.heap u.vm u.heap ∧ ReturnedEndW s o u L rm.cells rm.slots) Q (s₁.setTop (entryFrame m as maxL))) : MetH l Z y bytes maxL ret rm ws as h0 Q := by
  refine MetFree.of_bodySF hp hisR ?_
  intro p e s m args below meth c s₁ Bd hml0 hP hK
  obtain ⟨rfl, hZ, hh, hC⟩ := hP
  exact body p e s m below meth c s₁ Bd.returns Bd.exec Bd.bytes (BodyLoose.notSynchronized Bd) hml0 (findClass_of_methodNamed Bd.named) (name_of_methodNamed Bd.named Bd.method).1 (Stand.of_body Bd) (by rw [← hh, Bd.state]; rfl) hZ hh hC
theorem Goes.retH {Z : State} {a0 : Array Value} {h0 h : Heap} {vm₁ : Vm} (X : Stand p l e R (s.setVm vm₁) m args below meth c T locs cells slots) {n : Nat} (hS : s.Since vm₁ n) (eT : T.heap = h) (hn : n ≤ h.size) (hZ : Z.Warmed39 (s.setVm vm₁).vm) (hEL : EW Z a0 consts_1) (hh : s.heap = h0) (hR : CHr Z consts_1 s.vm h0 vm₁ h) {rc rs : Nat} {Q : Option Value → Heap → List Loc → Prop} {B : State} (v : Option Value) (hv : meth.sig.returnType = none → v = none) (hlk : meth.locks = false) (hc : cells ≤ rc) (hs : slots ≤ rs) (q : Q v T.heap locs)
    (k : ∀ fs, (∀ (f : JFrame) (acts : List Action), f.method = m → f.locked = none → f.entered = [] → (doReturn e (T.setTop f) acts v).1 = T.setFrames fs) → Steps p.tables e below B (T.setFrames fs)) : Goes p e below (fun o u L => CHr Z consts_1 s.vm s.heap u.vm u.heap ∧ ReturnedEndW s o u L rc rs) Q B := by
  subst eT hh
  obtain ⟨fs, hr, hrun, hended, h1, h2, h3, h4⟩ := X.leaveW hS hn (v := v) hv hlk
  have A := hR.trans (CHv.at X hZ hEL hR.1)
  exact ⟨_, _, k fs hr, hrun, hended, _, _, rfl, q, A, h1, h2, h3, h4.mono hc hs⟩
theorem own_retN (X : Stand p l e R s m args below meth c T locs cells slots) (hx : p.tables.exec = Jvm.exec) {pc : Nat} {Ls : Array Slot} {z : Int32} {t : FieldType} {rest : List Value} (hret : meth.sig.returnType = some t) (ht : t = .boolean ∨ t = .byte ∨ t = .char ∨ t = .short) (hn : nar t z = z) (hd : decode c.code pc = .ok (.ireturn, 1)) {fs : List Frame}
    (hl : ∀ (f : JFrame) (acts : List Action), f.method = m → f.locked = none → f.entered = [] → (doReturn e (T.setTop f) acts (some (.int z))).1 = T.setFrames fs) : Steps p.tables e below (T.setTop (mkF m pc Ls (.int z :: rest))) (T.setFrames fs) :=
  retN X hx hret ht hd (by rw [hn]; exact hl)
theorem own_retA (X : Stand p l e R s m args below meth c T locs cells slots) (hx : p.tables.exec = Jvm.exec) {pc : Nat} {Ls : Array Slot} {z : Value} {t : FieldType} {rest : List Value} (hret : meth.sig.returnType = some t) (ht : t.isReference = true) (hz : z.isRef = true) (hd : decode c.code pc = .ok (.areturn, 1)) {fs : List Frame}
    (hl : ∀ (f : JFrame) (acts : List Action), f.method = m → f.locked = none → f.entered = [] → (doReturn e (T.setTop f) acts (some z)).1 = T.setFrames fs) : Steps p.tables e below (T.setTop (mkF m pc Ls (z :: rest))) (T.setFrames fs) := by
  have hm' : T.vm.method? m = some meth := X.method'
  show Steps p.tables e below (T.setTop { method := m, pc := pc, locals := Ls, stack := _ :: rest, locked := none }) _
  jvm_step X.here [X.here.top, hx, hd, hm', hret, hz, ht]
  first | (intro acts; rw [hl _ acts rfl rfl rfl]) | rw [hl _ _ rfl rfl rfl]
  exact Steps.refl _
end OwnSteps
abbrev mN0 : MethodName := ⟨"java/lang/String", "<init>", "([CIILjava/lang/Void;)V"⟩
abbrev mN1 : MethodName := ⟨"java/lang/String", "<init>", "([C)V"⟩
abbrev mN2 : MethodName := ⟨"java/lang/StringUTF16", "compress", "([CI[BII)I"⟩
abbrev mN3 : MethodName := ⟨"java/lang/StringUTF16", "compress", "([CII)[B"⟩
abbrev mN4 : MethodName := ⟨"java/lang/StringUTF16", "coderFromArrayLen", "([BI)B"⟩
abbrev mN5 : MethodName := ⟨"java/lang/Record", "<init>", "()V"⟩
abbrev mN6 : MethodName := ⟨"java/util/Objects", "requireNonNull", "(Ljava/lang/Object;)Ljava/lang/Object;"⟩
abbrev mN7 : MethodName := ⟨"com/example/surfacemap/surfacemap/model/Finding", "<init>", "(Lcom/example/surfacemap/surfacemap/model/Finding$Rule;Ljava/lang/String;Ljava/lang/String;)V"⟩
abbrev mN8 : MethodName := ⟨"com/example/surfacemap/surfacemap/model/Finding", "rule", "()Lcom/example/surfacemap/surfacemap/model/Finding$Rule;"⟩
abbrev mN9 : MethodName := ⟨"com/example/surfacemap/surfacemap/model/Finding", "location", "()Ljava/lang/String;"⟩
abbrev mN10 : MethodName := ⟨"com/example/surfacemap/surfacemap/model/Finding", "message", "()Ljava/lang/String;"⟩
abbrev mN11 : MethodName := ⟨"com/example/surfacemap/surfacemap/model/DocumentException", "location", "()Ljava/lang/String;"⟩
abbrev mN12 : MethodName := ⟨"java/lang/Throwable", "getMessage", "()Ljava/lang/String;"⟩
abbrev mN13 : MethodName := ⟨"java/util/Optional", "<init>", "(Ljava/lang/Object;)V"⟩
abbrev mN14 : MethodName := ⟨"java/util/Optional", "ofNullable", "(Ljava/lang/Object;)Ljava/util/Optional;"⟩
abbrev mN15 : MethodName := ⟨"com/example/surfacemap/surfacemap/model/DocumentException", "rule", "()Ljava/util/Optional;"⟩
abbrev mN16 : MethodName := ⟨"java/util/Optional", "orElseThrow", "(Ljava/util/function/Supplier;)Ljava/lang/Object;"⟩
abbrev mN17 : MethodName := ⟨"java/lang/String", "equals", "(Ljava/lang/Object;)Z"⟩
abbrev mN18 : MethodName := ⟨"com/example/surfacemap/surfacemap/model/FindingOfPinLaw", "same", "(Ljava/lang/String;Ljava/lang/String;)Z"⟩
abbrev mN19 : MethodName := ⟨"java/lang/StringLatin1", "canEncode", "(C)Z"⟩
abbrev mN20 : MethodName := ⟨"java/lang/StringLatin1", "toBytes", "(C)[B"⟩
abbrev mN21 : MethodName := ⟨"java/lang/String", "<init>", "([BB)V"⟩
abbrev mN22 : MethodName := ⟨"java/lang/String", "valueOf", "(C)Ljava/lang/String;"⟩
abbrev mN23 : MethodName := ⟨"com/example/surfacemap/surfacemap/model/FindingOfPinLaw", "str", "(II)Ljava/lang/String;"⟩
abbrev mN24 : MethodName := ⟨"com/example/surfacemap/surfacemap/model/FindingOfPinLaw", "pick", "(I)Lcom/example/surfacemap/surfacemap/model/Finding$Rule;"⟩
abbrev mN25 : MethodName := ⟨"com/example/surfacemap/surfacemap/model/DocumentException", "getMessage", "()Ljava/lang/String;"⟩
abbrev mN26 : MethodName := ⟨"com/example/surfacemap/surfacemap/model/Finding", "of", "(Lcom/example/surfacemap/surfacemap/model/DocumentException;)Lcom/example/surfacemap/surfacemap/model/Finding;"⟩
abbrev mN27 : MethodName := ⟨"java/lang/Throwable", "<init>", "(Ljava/lang/String;)V"⟩
abbrev mN28 : MethodName := ⟨"java/lang/Exception", "<init>", "(Ljava/lang/String;)V"⟩
abbrev mN29 : MethodName := ⟨"com/example/surfacemap/surfacemap/model/DocumentException", "<init>", "(Lcom/example/surfacemap/surfacemap/model/Finding$Rule;Ljava/lang/String;Ljava/lang/String;)V"⟩
abbrev vi (x : Int32) : Slot := .val (.int x)
abbrev vr (x : Addr) : Slot := .val (.ref x)
abbrev vu : Slot := .unset
abbrev fT (T : State) (m : MethodId) (pc : Nat) (ls : Array Slot) (st : List Value) : State := T.setTop (mkF m pc ls st)
theorem Gz {p : Program} {e : Env} {below : List Frame} {En : Outcome → State → List Loc → Prop} {Q : Option Value → Heap → List Loc → Prop} {A B : State} (st : ∀ {t}, Steps p.tables e below A t → Steps p.tables e below B t) (h : Goes p e below En Q A) : Goes p e below En Q B := Goes.step (fun _ => st) h
abbrev HW (a0 : Array Value) (Z : State) : Prop := ∀ d ∈ tables_1, d.before a0 Z = true
theorem gz {Z s : State} {a0 args : Array Value} {d : Jvm.Cond} (hZ : Z.Warmed39 s.vm) (hw : HW a0 Z) (i : Nat) (h : tables_1[i]? = some d) (hd : (d.onTables && d.keepsFace) = true := by first | rfl | simp [Cond.onTables, Cond.keepsFace, Cond.keeps, Cond.steady]) : d.before args s = true := mvT hZ (gw hw i h) hd
theorem wz {n W : Nat} (h : n = W) : 2 * 0 + n ≤ W := w0 (Nat.le_of_eq h)
theorem gN {p : Program} {l : Launch} {e : Env} {R : Room} {s : State} {m : MethodId} {as : Array Value} {below : List Frame} {meth : Method} {c : Code} {T : State} {L : List Loc} {C S : Nat} {En : Outcome → State → List Loc → Prop} {Q : Option Value → Heap → List Loc → Prop} {code : ByteArray} {g : JFrame} {k : Fin 4} {v : Int32} (X : Stand p l e R s m as below meth c T L C S) (hx : p.tables.exec = Jvm.exec) (hby : c.code = code) (hd : decode code g.pc = .ok (.iload_n k, 1)) (hg : g.method = m) (hl : g.locals[k.val]? = some (.val (.int v))) (h : Goes p e below En Q (T.setTop { g with pc := g.pc + 1, stack := .int v :: g.stack })) : Goes p e below En Q (T.setTop g) := Gz (XS.iloadN X.here hx hg (hb hby hd) hl) h
theorem gI {p : Program} {l : Launch} {e : Env} {R : Room} {s : State} {m : MethodId} {as : Array Value} {below : List Frame} {meth : Method} {c : Code} {T : State} {L : List Loc} {C S : Nat} {En : Outcome → State → List Loc → Prop} {Q : Option Value → Heap → List Loc → Prop} {code : ByteArray} {g : JFrame} {k : Nat} {v : Int32} (X : Stand p l e R s m as below meth c T L C S) (hx : p.tables.exec = Jvm.exec) (hby : c.code = code) (hd : decode code g.pc = .ok (.iload k, 2)) (hg : g.method = m) (hl : g.locals[k]? = some (.val (.int v))) (h : Goes p e below En Q (T.setTop { g with pc := g.pc + 2, stack := .int v :: g.stack })) : Goes p e below En Q (T.setTop g) := Gz (XS.iload X.here hx hg (hb hby hd) hl) h
theorem gA {p : Program} {l : Launch} {e : Env} {R : Room} {s : State} {m : MethodId} {as : Array Value} {below : List Frame} {meth : Method} {c : Code} {T : State} {L : List Loc} {C S : Nat} {En : Outcome → State → List Loc → Prop} {Q : Option Value → Heap → List Loc → Prop} {code : ByteArray} {g : JFrame} {k : Fin 4} {v : Value} (X : Stand p l e R s m as below meth c T L C S) (hx : p.tables.exec = Jvm.exec) (hby : c.code = code) (hd : decode code g.pc = .ok (.aload_n k, 1)) (hg : g.method = m) (hl : g.locals[k.val]? = some (.val v)) (hv : v.isRef = true) (h : Goes p e below En Q (T.setTop { g with pc := g.pc + 1, stack := v :: g.stack })) : Goes p e below En Q (T.setTop g) := Gz (XS.aloadN X.here hx hg (hb hby hd) hl hv) h
abbrev DK (c : ByteArray) (pc : Nat) (i : Instr) (n : Nat) : Prop := decode c pc = .ok (i, n)
theorem gS {p : Program} {l : Launch} {e : Env} {R : Room} {s : State} {m : MethodId} {as : Array Value} {below : List Frame} {meth : Method} {c : Code} {T : State} {L : List Loc} {C S : Nat} {En : Outcome → State → List Loc → Prop} {Q : Option Value → Heap → List Loc → Prop} {code : ByteArray} {g : JFrame} {k : Nat} {x : Int32} {rest : List Value} (X : Stand p l e R s m as below meth c T L C S) (hx : p.tables.exec = Jvm.exec) (hby : c.code = code) (hd : decode code g.pc = .ok (.istore k, 2)) (l' : Array Slot) (h : Goes p e below En Q (T.setTop { g with pc := g.pc + 2, stack := rest, locals := l' })) (hg : g.method = m := by rfl) (hs : g.stack = .int x :: rest := by rfl) (hl : storeLocals g.locals k (.int x) = some l' := by rfl) : Goes p e below En Q (T.setTop g) := Gz (XS.istore X.here hx hg (hb hby hd) hs hl) h
theorem gs {p : Program} {l : Launch} {e : Env} {R : Room} {s : State} {m : MethodId} {as : Array Value} {below : List Frame} {meth : Method} {c : Code} {T : State} {L : List Loc} {C S : Nat} {En : Outcome → State → List Loc → Prop} {Q : Option Value → Heap → List Loc → Prop} {code : ByteArray} {g : JFrame} {k : Fin 4} {x : Int32} {rest : List Value} (X : Stand p l e R s m as below meth c T L C S) (hx : p.tables.exec = Jvm.exec) (hby : c.code = code) (hd : decode code g.pc = .ok (.istore_n k, 1)) (l' : Array Slot) (h : Goes p e below En Q (T.setTop { g with pc := g.pc + 1, stack := rest, locals := l' })) (hg : g.method = m := by rfl) (hs : g.stack = .int x :: rest := by rfl) (hl : storeLocals g.locals k.val (.int x) = some l' := by rfl) : Goes p e below En Q (T.setTop g) := Gz (XS.istoreN X.here hx hg (hb hby hd) hs hl) h
theorem gC {p : Program} {l : Launch} {e : Env} {R : Room} {s : State} {m : MethodId} {as : Array Value} {below : List Frame} {meth : Method} {c : Code} {T : State} {L : List Loc} {C S : Nat} {En : Outcome → State → List Loc → Prop} {Q : Option Value → Heap → List Loc → Prop} {code : ByteArray} {g : JFrame} {i : Int} (X : Stand p l e R s m as below meth c T L C S) (hx : p.tables.exec = Jvm.exec) (hby : c.code = code) (hd : decode code g.pc = .ok (.iconst i, 1)) (h : Goes p e below En Q (T.setTop { g with pc := g.pc + 1, stack := .int (Int32.ofInt i) :: g.stack })) (hg : g.method = m := by rfl) : Goes p e below En Q (T.setTop g) := Gz (XS.iconst X.here hx hg (hb hby hd)) h
theorem gB {p : Program} {l : Launch} {e : Env} {R : Room} {s : State} {m : MethodId} {as : Array Value} {below : List Frame} {meth : Method} {c : Code} {T : State} {L : List Loc} {C S : Nat} {En : Outcome → State → List Loc → Prop} {Q : Option Value → Heap → List Loc → Prop} {code : ByteArray} {g : JFrame} {i : Int} (X : Stand p l e R s m as below meth c T L C S) (hx : p.tables.exec = Jvm.exec) (hby : c.code = code) (hd : decode code g.pc = .ok (.bipush i, 2)) (h : Goes p e below En Q (T.setTop { g with pc := g.pc + 2, stack := .int (Int8.ofInt i).toInt32 :: g.stack })) (hg : g.method = m := by rfl) : Goes p e below En Q (T.setTop g) := Gz (XS.bipush X.here hx hg (hb hby hd)) h
theorem gG {p : Program} {l : Launch} {e : Env} {R : Room} {s : State} {m : MethodId} {as : Array Value} {below : List Frame} {meth : Method} {c : Code} {T : State} {L : List Loc} {C S : Nat} {En : Outcome → State → List Loc → Prop} {Q : Option Value → Heap → List Loc → Prop} {code : ByteArray} {g : JFrame} {o : Int} (X : Stand p l e R s m as below meth c T L C S) (hx : p.tables.exec = Jvm.exec) (hby : c.code = code) (hd : decode code g.pc = .ok (.goto o, 3)) (pc0 pc' : Nat) (h : Goes p e below En Q (T.setTop { g with pc := pc' })) (hg : g.method = m := by rfl) (hpc : g.pc = pc0 := by rfl) (ho : 0 ≤ (pc0 : Int) + o := by decide) (hp : ((pc0 : Int) + o).toNat = pc' := by decide) : Goes p e below En Q (T.setTop g) := Gz (XS.goto X.here hx hg hpc (hb hby hd) ho hp) h
theorem gY {p : Program} {l : Launch} {e : Env} {R : Room} {s : State} {m : MethodId} {as : Array Value} {below : List Frame} {meth : Method} {c : Code} {T : State} {L : List Loc} {C S : Nat} {En : Outcome → State → List Loc → Prop} {Q : Option Value → Heap → List Loc → Prop} {code : ByteArray} {g : JFrame} {cd : ClassFile.Cond} {o : Int} {x y : Int32} {rest : List Value} (X : Stand p l e R s m as below meth c T L C S) (hx : p.tables.exec = Jvm.exec) (hby : c.code = code) (hd : decode code g.pc = .ok (.if_icmp cd o, 3)) (pc0 pc' : Nat) (hc : if_icmp.holds cd x y = true) (h : Goes p e below En Q (T.setTop { g with pc := pc', stack := rest })) (hg : g.method = m := by rfl) (hpc : g.pc = pc0 := by rfl) (hs : g.stack = .int y :: .int x :: rest := by rfl) (ho : 0 ≤ (pc0 : Int) + o := by decide) (hp : ((pc0 : Int) + o).toNat = pc' := by decide) : Goes p e below En Q (T.setTop g) := Gz (XS.icmpYes X.here hx hg hpc (hb hby hd) hs hc ho hp) h
theorem gU {p : Program} {l : Launch} {e : Env} {R : Room} {s : State} {m : MethodId} {as : Array Value} {below : List Frame} {meth : Method} {c : Code} {T : State} {L : List Loc} {C S : Nat} {En : Outcome → State → List Loc → Prop} {Q : Option Value → Heap → List Loc → Prop} {code : ByteArray} {g : JFrame} {cd : ClassFile.Cond} {o : Int} {x y : Int32} {rest : List Value} (X : Stand p l e R s m as below meth c T L C S) (hx : p.tables.exec = Jvm.exec) (hby : c.code = code) (hd : decode code g.pc = .ok (.if_icmp cd o, 3)) (hc : if_icmp.holds cd x y = false) (h : Goes p e below En Q (T.setTop { g with pc := g.pc + 3, stack := rest })) (hg : g.method = m := by rfl) (hs : g.stack = .int y :: .int x :: rest := by rfl) : Goes p e below En Q (T.setTop g) := Gz (XS.icmpNo X.here hx hg (hb hby hd) hs hc) h
theorem gy {p : Program} {l : Launch} {e : Env} {R : Room} {s : State} {m : MethodId} {as : Array Value} {below : List Frame} {meth : Method} {c : Code} {T : State} {L : List Loc} {C S : Nat} {En : Outcome → State → List Loc → Prop} {Q : Option Value → Heap → List Loc → Prop} {code : ByteArray} {g : JFrame} {cd : ClassFile.Cond} {o : Int} {x : Int32} {rest : List Value} (X : Stand p l e R s m as below meth c T L C S) (hx : p.tables.exec = Jvm.exec) (hby : c.code = code) (hd : decode code g.pc = .ok (.ifCond cd o, 3)) (pc0 pc' : Nat) (hc : ifCond.holds cd x = true) (h : Goes p e below En Q (T.setTop { g with pc := pc', stack := rest })) (hg : g.method = m := by rfl) (hpc : g.pc = pc0 := by rfl) (hs : g.stack = .int x :: rest := by rfl) (ho : 0 ≤ (pc0 : Int) + o := by decide) (hp : ((pc0 : Int) + o).toNat = pc' := by decide) : Goes p e below En Q (T.setTop g) := Gz (XS.ifYes X.here hx hg hpc (hb hby hd) hs hc ho hp) h
theorem gu {p : Program} {l : Launch} {e : Env} {R : Room} {s : State} {m : MethodId} {as : Array Value} {below : List Frame} {meth : Method} {c : Code} {T : State} {L : List Loc} {C S : Nat} {En : Outcome → State → List Loc → Prop} {Q : Option Value → Heap → List Loc → Prop} {code : ByteArray} {g : JFrame} {cd : ClassFile.Cond} {o : Int} {x : Int32} {rest : List Value} (X : Stand p l e R s m as below meth c T L C S) (hx : p.tables.exec = Jvm.exec) (hby : c.code = code) (hd : decode code g.pc = .ok (.ifCond cd o, 3)) (hc : ifCond.holds cd x = false) (h : Goes p e below En Q (T.setTop { g with pc := g.pc + 3, stack := rest })) (hg : g.method = m := by rfl) (hs : g.stack = .int x :: rest := by rfl) : Goes p e below En Q (T.setTop g) := Gz (XS.ifNo X.here hx hg (hb hby hd) hs hc) h
theorem cVg {Z : State} {a0 : Array Value} {p : Program} {l : Launch} {e : Env} {R : Room} {s : State} {m : MethodId} {args : Array Value} {below : List Frame} {meth : Method} {c : Code} {T : State} {locs : List Loc} {cells slots : Nat} {En : Outcome → State → List Loc → Prop} {Q : Option Value → Heap → List Loc → Prop} {h : Heap} {ml : Nat} {code bytes : ByteArray} {maxL idx : Nat} {ret : Option FieldType} {rm : Room} {vs : Array Value} {Qc : Option Value → Heap → List Loc → Prop} {own C : String} {argsL rest st : List Value} {pc : Nat} {ls : Array Slot} {A : State} (X : Stand p l e R s m args below meth c T locs cells slots) (hx : p.tables.exec = Jvm.exec) (hZ : Z.Warmed39 s.vm) (hw : HW a0 Z) (hown : s.vm.findClass own = some m.cls) (hby : c.code = code) (hml : c.maxLocals = ml) (eT : T.heap = h) (y : MethodName) (i1 i2 i3 i4 i5 i6 W : Nat) (hM : Met l Z y bytes maxL ret rm [] vs h Qc) {b : Addr} (E : Exa Z h b C) (hd : decode code pc = .ok (.invokevirtual idx, 3)) (len : ∀ sig, parseMethodDescriptor y.desc = some sig → argsL.length = sig.parameters.length) (k : ∀ (v : Option Value) (T' : State) (L : List Loc), Stand p l e R s m args below meth c T' (locs ++ L) (cells + rm.cells) (slots + rm.slots) → Qc v T'.heap L → Goes p e below En Q (T'.setTop (mkF m (pc + 3) ls (v.toList ++ rest))))(hA : A = T.setTop (mkF m pc ls st) := by rfl) (w1 : tables_1[i1]? = some (.methodLink own idx y) := by rfl) (w2 : tables_1[i2]? = some (.declares y) := by rfl) (w3 : tables_1[i3]? = some (.selects C y y) := by rfl) (w4 : tables_1[i4]? = some (.instanceMethod y) := by rfl) (w5 : tables_1[i5]? = some (.code y bytes maxL ret) := by rfl) (w6 : tables_1[i6]? = some (.initialized y.cls) := by rfl) (hy : y.cls ≠ "java/lang/invoke/MethodHandle" ∧ y.cls ≠ "java/lang/invoke/VarHandle" := by decide) (hf : rm.frames + 1 ≤ R.frames := by decide) (hl : W + (maxL + 11) + rm.locals ≤ R.locals := by decide) (hc : cells + rm.cells ≤ R.cells := by decide) (hs : slots + rm.slots ≤ R.slots := by decide) (hls : ls.size = ml := by rfl) (hvs : vs = (.ref b :: argsL).toArray := by rfl) (hst : st = argsL.reverse ++ .ref b :: rest := by rfl) (hW : (rest.map fun v => v.category).sum = W := by rfl) : Goes p e below En Q A := by
  subst hA
  obtain ⟨cq, kq, qa, qb, qc⟩ := isOf hZ eT E
  subst hvs
  obtain ⟨v, _, ⟨T', L', k', n'⟩, -, X', ⟨Lc, hQ, l', y', z'⟩, st'⟩ := X.virtualBack hx (y := y) (z := y) hown (gz hZ hw i1 w1) (gz hZ hw i2 w2) (notFace_of_selects (args := #[]) (gz hZ hw i3 w3)) (gz hZ hw i3 w3) (gz hZ hw i4 w4) hy (backOf (W := W) hM hZ (gw hw i5 w5) (gw hw i6 w6) hf hl) qa qc (g := mkF m pc ls st) rfl (hls.trans hml.symm) (Steps.refl _) (argsL := argsL) (rest := rest) len hst (w0 (Nat.le_of_eq hW)) (hb hby hd) (fun _ _ => ⟨rfl, eT, hc, hs⟩)
  dsimp only [Pt.U, Pt.locs, Pt.cells, Pt.slots] at X' l' y' z' st' hQ
  subst l' y' z'
  exact Gs (fun _ tk => st'.trans tk) (k v T' Lc X' hQ)
theorem cV {n0 : Nat} {r : Option Value} {Z : State} {a0 : Array Value} {p : Program} {l : Launch} {e : Env} {R : Room} {s : State} {m : MethodId} {args : Array Value} {below : List Frame} {meth : Method} {c : Code} {T : State} {locs : List Loc} {cells slots : Nat} {En : Outcome → State → List Loc → Prop} {Q : Option Value → Heap → List Loc → Prop} {h : Heap} {ml : Nat} {code bytes : ByteArray} {maxL idx : Nat} {ret : Option FieldType} {rm : Room} {vs : Array Value} {Qc : Option Value → Heap → List Loc → Prop} {own C : String} {argsL rest st : List Value} {pc : Nat} {ls : Array Slot} {A : State} (X : Stand p l e R s m args below meth c T locs cells slots) (hx : p.tables.exec = Jvm.exec) (hZ : Z.Warmed39 s.vm) (hw : HW a0 Z) (hown : s.vm.findClass own = some m.cls) (hby : c.code = code) (hml : c.maxLocals = ml) (eT : T.heap = h) (y : MethodName) (i1 i2 i3 i4 i5 i6 W : Nat) (hM : Met l Z y bytes maxL ret rm [] vs h Qc) {b : Addr} (E : Exa Z h b C) (hd : decode code pc = .ok (.invokevirtual idx, 3)) (len : ∀ sig, parseMethodDescriptor y.desc = some sig → argsL.length = sig.parameters.length) (N : Fr n0 locs) (k : ∀ (T' : State) (L : List Loc), Stand p l e R s m args below meth c T' L cells slots → T'.heap = h → Fr n0 L → Goes p e below En Q (T'.setTop (mkF m (pc + 3) ls (r.toList ++ rest))))(hA : A = T.setTop (mkF m pc ls st) := by rfl) (w1 : tables_1[i1]? = some (.methodLink own idx y) := by rfl) (w2 : tables_1[i2]? = some (.declares y) := by rfl) (w3 : tables_1[i3]? = some (.selects C y y) := by rfl) (w4 : tables_1[i4]? = some (.instanceMethod y) := by rfl) (w5 : tables_1[i5]? = some (.code y bytes maxL ret) := by rfl) (w6 : tables_1[i6]? = some (.initialized y.cls) := by rfl) (hy : y.cls ≠ "java/lang/invoke/MethodHandle" ∧ y.cls ≠ "java/lang/invoke/VarHandle" := by decide) (hf : rm.frames + 1 ≤ R.frames := by decide) (hl : W + (maxL + 11) + rm.locals ≤ R.locals := by decide) (hc : cells + rm.cells ≤ R.cells := by decide) (hs : slots + rm.slots ≤ R.slots := by decide) (hls : ls.size = ml := by rfl) (hvs : vs = (.ref b :: argsL).toArray := by rfl) (hst : st = argsL.reverse ++ .ref b :: rest := by rfl) (hW : (rest.map fun v => v.category).sum = W := by rfl)(hQ : ∀ v h' L, Qc v h' L → v = r ∧ Fr n0 L ∧ h' = h := by exact fun _ _ _ q => q) (c0 : rm.cells = 0 := by rfl) (s0 : rm.slots = 0 := by rfl)  : Goes p e below En Q A := by
  subst hA
  refine cVg X hx hZ hw hown hby hml eT y i1 i2 i3 i4 i5 i6 W hM E hd len (fun v T' L X' q => ?_) rfl w1 w2 w3 w4 w5 w6 hy hf hl hc hs hls hvs hst hW
  obtain ⟨rfl, N', e'⟩ := hQ _ _ _ q
  rw [c0, s0] at X'
  exact k T' _ X' e' (N.app N')
theorem cSg {Z : State} {a0 : Array Value} {p : Program} {l : Launch} {e : Env} {R : Room} {s : State} {m : MethodId} {args : Array Value} {below : List Frame} {meth : Method} {c : Code} {T : State} {locs : List Loc} {cells slots : Nat} {En : Outcome → State → List Loc → Prop} {Q : Option Value → Heap → List Loc → Prop} {h : Heap} {ml : Nat} {code bytes : ByteArray} {maxL idx : Nat} {ret : Option FieldType} {rm : Room} {vs : Array Value} {Qc : Option Value → Heap → List Loc → Prop} {own : String} {argsL rest st : List Value} {pc : Nat} {ls : Array Slot} {A : State} (X : Stand p l e R s m args below meth c T locs cells slots) (hx : p.tables.exec = Jvm.exec) (hZ : Z.Warmed39 s.vm) (hw : HW a0 Z) (hown : s.vm.findClass own = some m.cls) (hby : c.code = code) (hml : c.maxLocals = ml) (eT : T.heap = h) (y : MethodName) (i1 i2 i5 i6 W : Nat) (hM : Met l Z y bytes maxL ret rm [] vs h Qc) (hd : decode code pc = .ok (.invokestatic idx, 3)) (len : ∀ sig, parseMethodDescriptor y.desc = some sig → argsL.length = sig.parameters.length) (k : ∀ (v : Option Value) (T' : State) (L : List Loc), Stand p l e R s m args below meth c T' (locs ++ L) (cells + rm.cells) (slots + rm.slots) → Qc v T'.heap L → Goes p e below En Q (T'.setTop (mkF m (pc + 3) ls (v.toList ++ rest))))(hA : A = T.setTop (mkF m pc ls st) := by rfl) (w1 : tables_1[i1]? = some (.methodLink own idx y) := by rfl) (w2 : tables_1[i2]? = some (.static y) := by rfl) (w5 : tables_1[i5]? = some (.code y bytes maxL ret) := by rfl) (w6 : tables_1[i6]? = some (.initialized y.cls) := by rfl) (hy : y.cls ≠ "java/lang/invoke/MethodHandle" ∧ y.cls ≠ "java/lang/invoke/VarHandle" := by decide) (hf : rm.frames + 1 ≤ R.frames := by decide) (hl : W + (maxL + 11) + rm.locals ≤ R.locals := by decide) (hc : cells + rm.cells ≤ R.cells := by decide) (hs : slots + rm.slots ≤ R.slots := by decide) (hls : ls.size = ml := by rfl) (hvs : vs = (argsL).toArray := by rfl) (hst : st = argsL.reverse ++ rest := by rfl) (hW : (rest.map fun v => v.category).sum = W := by rfl) : Goes p e below En Q A := by
  subst hA
  subst hvs
  obtain ⟨v, _, ⟨T', L', k', n'⟩, -, X', ⟨Lc, hQ, l', y', z'⟩, st'⟩ := Jvm.LawKit.callS X hx (y := y) hown (gz hZ hw i1 w1) (gz hZ hw i2 w2) (gz hZ hw i6 w6) (gz hZ hw i5 w5) hy (backOf (W := W) hM hZ (gw hw i5 w5) (gw hw i6 w6) hf hl) (g := mkF m pc ls st) rfl (hls.trans hml.symm) (argsL := argsL) (rest := rest) len hst (w0 (Nat.le_of_eq hW)) (hb hby hd) (fun _ _ => ⟨rfl, eT, hc, hs⟩)
  dsimp only [Pt.U, Pt.locs, Pt.cells, Pt.slots] at X' l' y' z' st' hQ
  subst l' y' z'
  exact Gs st' (k v T' Lc X' hQ)
theorem cS {n0 : Nat} {r : Option Value} {Z : State} {a0 : Array Value} {p : Program} {l : Launch} {e : Env} {R : Room} {s : State} {m : MethodId} {args : Array Value} {below : List Frame} {meth : Method} {c : Code} {T : State} {locs : List Loc} {cells slots : Nat} {En : Outcome → State → List Loc → Prop} {Q : Option Value → Heap → List Loc → Prop} {h : Heap} {ml : Nat} {code bytes : ByteArray} {maxL idx : Nat} {ret : Option FieldType} {rm : Room} {vs : Array Value} {Qc : Option Value → Heap → List Loc → Prop} {own : String} {argsL rest st : List Value} {pc : Nat} {ls : Array Slot} {A : State} (X : Stand p l e R s m args below meth c T locs cells slots) (hx : p.tables.exec = Jvm.exec) (hZ : Z.Warmed39 s.vm) (hw : HW a0 Z) (hown : s.vm.findClass own = some m.cls) (hby : c.code = code) (hml : c.maxLocals = ml) (eT : T.heap = h) (y : MethodName) (i1 i2 i5 i6 W : Nat) (hM : Met l Z y bytes maxL ret rm [] vs h Qc) (hd : decode code pc = .ok (.invokestatic idx, 3)) (len : ∀ sig, parseMethodDescriptor y.desc = some sig → argsL.length = sig.parameters.length) (N : Fr n0 locs) (k : ∀ (T' : State) (L : List Loc), Stand p l e R s m args below meth c T' L cells slots → T'.heap = h → Fr n0 L → Goes p e below En Q (T'.setTop (mkF m (pc + 3) ls (r.toList ++ rest))))(hA : A = T.setTop (mkF m pc ls st) := by rfl) (w1 : tables_1[i1]? = some (.methodLink own idx y) := by rfl) (w2 : tables_1[i2]? = some (.static y) := by rfl) (w5 : tables_1[i5]? = some (.code y bytes maxL ret) := by rfl) (w6 : tables_1[i6]? = some (.initialized y.cls) := by rfl) (hy : y.cls ≠ "java/lang/invoke/MethodHandle" ∧ y.cls ≠ "java/lang/invoke/VarHandle" := by decide) (hf : rm.frames + 1 ≤ R.frames := by decide) (hl : W + (maxL + 11) + rm.locals ≤ R.locals := by decide) (hc : cells + rm.cells ≤ R.cells := by decide) (hs : slots + rm.slots ≤ R.slots := by decide) (hls : ls.size = ml := by rfl) (hvs : vs = (argsL).toArray := by rfl) (hst : st = argsL.reverse ++ rest := by rfl) (hW : (rest.map fun v => v.category).sum = W := by rfl)(hQ : ∀ v h' L, Qc v h' L → v = r ∧ Fr n0 L ∧ h' = h := by exact fun _ _ _ q => q) (c0 : rm.cells = 0 := by rfl) (s0 : rm.slots = 0 := by rfl)  : Goes p e below En Q A := by
  subst hA
  refine cSg X hx hZ hw hown hby hml eT y i1 i2 i5 i6 W hM  hd len (fun v T' L X' q => ?_) rfl w1 w2 w5 w6 hy hf hl hc hs hls hvs hst hW
  obtain ⟨rfl, N', e'⟩ := hQ _ _ _ q
  rw [c0, s0] at X'
  exact k T' _ X' e' (N.app N')
theorem cIg {Z : State} {a0 : Array Value} {p : Program} {l : Launch} {e : Env} {R : Room} {s : State} {m : MethodId} {args : Array Value} {below : List Frame} {meth : Method} {c : Code} {T : State} {locs : List Loc} {cells slots : Nat} {En : Outcome → State → List Loc → Prop} {Q : Option Value → Heap → List Loc → Prop} {h : Heap} {ml : Nat} {code bytes : ByteArray} {maxL idx : Nat} {rm : Room} {vs : Array Value} {Qc : Option Value → Heap → List Loc → Prop} {own : String} {argsL rest st : List Value} {pc : Nat} {ls : Array Slot} {A : State} (X : Stand p l e R s m args below meth c T locs cells slots) (hx : p.tables.exec = Jvm.exec) (hZ : Z.Warmed39 s.vm) (hw : HW a0 Z) (hown : s.vm.findClass own = some m.cls) (hby : c.code = code) (hml : c.maxLocals = ml) (eT : T.heap = h) (y : MethodName) (i1 i4 i5 i6 W : Nat) (hM : Met l Z y bytes maxL none rm [] vs h Qc) {b : Addr} (hd : decode code pc = .ok (.invokespecial idx, 3)) (len : ∀ sig, parseMethodDescriptor y.desc = some sig → argsL.length = sig.parameters.length) (k : ∀ (v : Option Value) (T' : State) (L : List Loc), Stand p l e R s m args below meth c T' (locs ++ L) (cells + rm.cells) (slots + rm.slots) → Qc v T'.heap L → Goes p e below En Q (T'.setTop (mkF m (pc + 3) ls (v.toList ++ rest))))(hA : A = T.setTop (mkF m pc ls st) := by rfl) (w1 : tables_1[i1]? = some (.methodLink own idx y) := by rfl) (w4 : tables_1[i4]? = some (.instanceMethod y) := by rfl) (w5 : tables_1[i5]? = some (.code y bytes maxL none) := by rfl) (w6 : tables_1[i6]? = some (.initialized y.cls) := by rfl) (hi : y.name = "<init>" := by rfl) (hy : y.cls ≠ "java/lang/invoke/MethodHandle" ∧ y.cls ≠ "java/lang/invoke/VarHandle" := by decide) (hf : rm.frames + 1 ≤ R.frames := by decide) (hl : W + (maxL + 11) + rm.locals ≤ R.locals := by decide) (hc : cells + rm.cells ≤ R.cells := by decide) (hs : slots + rm.slots ≤ R.slots := by decide) (hls : ls.size = ml := by rfl) (hvs : vs = (.ref b :: argsL).toArray := by rfl) (hst : st = argsL.reverse ++ .ref b :: rest := by rfl) (hW : (rest.map fun v => v.category).sum = W := by rfl) : Goes p e below En Q A := by
  subst hA
  subst hvs
  obtain ⟨v, _, ⟨T', L', k', n'⟩, -, X', ⟨Lc, hQ, l', y', z'⟩, st'⟩ := X.specialBack hx (y := y) hi hown (gz hZ hw i1 w1) (gz hZ hw i4 w4) (gz hZ hw i5 w5) hy (backOf (W := W) hM hZ (gw hw i5 w5) (gw hw i6 w6) hf hl) (g := mkF m pc ls st) rfl (hls.trans hml.symm) (Steps.refl _) (a := b) (argsL := argsL) (rest := rest) len hst (w0 (Nat.le_of_eq hW)) (hb hby hd) (fun _ _ => ⟨rfl, eT, hc, hs⟩)
  dsimp only [Pt.U, Pt.locs, Pt.cells, Pt.slots] at X' l' y' z' st' hQ
  subst l' y' z'
  exact Gs (fun _ tk => st'.trans tk) (k v T' Lc X' hQ)
theorem cI {n0 : Nat} {r : Option Value} {Z : State} {a0 : Array Value} {p : Program} {l : Launch} {e : Env} {R : Room} {s : State} {m : MethodId} {args : Array Value} {below : List Frame} {meth : Method} {c : Code} {T : State} {locs : List Loc} {cells slots : Nat} {En : Outcome → State → List Loc → Prop} {Q : Option Value → Heap → List Loc → Prop} {h : Heap} {ml : Nat} {code bytes : ByteArray} {maxL idx : Nat} {rm : Room} {vs : Array Value} {Qc : Option Value → Heap → List Loc → Prop} {own : String} {argsL rest st : List Value} {pc : Nat} {ls : Array Slot} {A : State} (X : Stand p l e R s m args below meth c T locs cells slots) (hx : p.tables.exec = Jvm.exec) (hZ : Z.Warmed39 s.vm) (hw : HW a0 Z) (hown : s.vm.findClass own = some m.cls) (hby : c.code = code) (hml : c.maxLocals = ml) (eT : T.heap = h) (y : MethodName) (i1 i4 i5 i6 W : Nat) (hM : Met l Z y bytes maxL none rm [] vs h Qc) {b : Addr} (hd : decode code pc = .ok (.invokespecial idx, 3)) (len : ∀ sig, parseMethodDescriptor y.desc = some sig → argsL.length = sig.parameters.length) (N : Fr n0 locs) (k : ∀ (T' : State) (L : List Loc), Stand p l e R s m args below meth c T' L cells slots → T'.heap = h → Fr n0 L → Goes p e below En Q (T'.setTop (mkF m (pc + 3) ls (r.toList ++ rest))))(hA : A = T.setTop (mkF m pc ls st) := by rfl) (w1 : tables_1[i1]? = some (.methodLink own idx y) := by rfl) (w4 : tables_1[i4]? = some (.instanceMethod y) := by rfl) (w5 : tables_1[i5]? = some (.code y bytes maxL none) := by rfl) (w6 : tables_1[i6]? = some (.initialized y.cls) := by rfl) (hi : y.name = "<init>" := by rfl) (hy : y.cls ≠ "java/lang/invoke/MethodHandle" ∧ y.cls ≠ "java/lang/invoke/VarHandle" := by decide) (hf : rm.frames + 1 ≤ R.frames := by decide) (hl : W + (maxL + 11) + rm.locals ≤ R.locals := by decide) (hc : cells + rm.cells ≤ R.cells := by decide) (hs : slots + rm.slots ≤ R.slots := by decide) (hls : ls.size = ml := by rfl) (hvs : vs = (.ref b :: argsL).toArray := by rfl) (hst : st = argsL.reverse ++ .ref b :: rest := by rfl) (hW : (rest.map fun v => v.category).sum = W := by rfl)(hQ : ∀ v h' L, Qc v h' L → v = r ∧ Fr n0 L ∧ h' = h := by exact fun _ _ _ q => q) (c0 : rm.cells = 0 := by rfl) (s0 : rm.slots = 0 := by rfl)  : Goes p e below En Q A := by
  subst hA
  refine cIg X hx hZ hw hown hby hml eT y i1 i4 i5 i6 W hM hd len (fun v T' L X' q => ?_) rfl w1 w4 w5 w6 hi hy hf hl hc hs hls hvs hst hW
  obtain ⟨rfl, N', e'⟩ := hQ _ _ _ q
  rw [c0, s0] at X'
  exact k T' _ X' e' (N.app N')
def Lat (c : Int32) : Prop := 0 ≤ c.toInt ∧ c.toInt ≤ 255
def Chr (c : Int32) : Prop := 0 ≤ c.toInt ∧ c.toInt ≤ 65535
theorem Lat.chr {c : Int32} (h : Lat c) : Chr c := ⟨h.1, by have := h.2; omega⟩
def lo8 (c : Int32) : Int32 := c.toInt8.toInt32
def hi8 (c : Int32) : Int32 := (c >>> ((8 : Int32) &&& 31)).toInt8.toInt32
def latV (cs : List Int32) : List Value := cs.map fun c => .int (lo8 c)
def utfV (cs : List Int32) : List Value := cs.flatMap fun c => [.int (lo8 c), .int (hi8 c)]
theorem own_nc {c : Int32} (h : Chr c) : nar .char c = c := by
  have q := c_i2c c
  obtain ⟨h1, h2⟩ := h
  apply Int32.toInt_inj.mp
  show c.toUInt32.toUInt16.toUInt32.toInt32.toInt = c.toInt
  omega
theorem own_nb (c : Int32) : nar .byte (c.toInt8.toInt32) = lo8 c := by
  show (c.toInt8.toInt32).toInt8.toInt32 = c.toInt8.toInt32
  have a := c_i2b c
  have b := c_i2b (c.toInt8.toInt32)
  apply Int32.toInt_inj.mp
  omega
theorem own_nb2 (c : Int32) : c.toInt8.toInt32.toInt8.toInt32 = lo8 c := own_nb c
abbrev JS : String := "java/lang/String"
def StrOf (Z : State) (h : Heap) (a : Addr) (cs : List Int32) : Prop := ∃ (b : Addr) (kb : ClassId), Exa Z h a "java/lang/String" ∧ Fld Z h a "java/lang/String" "value" "[B" (.ref b) ∧
  ((Fld Z h a "java/lang/String" "coder" "B" (.int 0) ∧ (∀ c ∈ cs, Lat c) ∧ Arv Z h b kb .byte (Int32.ofNat cs.length) (latV cs) (.int 0)) ∨ False) ∧ cs.length ≤ 1000
section S
variable {Z : State} {h h' : Heap} {a b o : Addr} {kb : ClassId} {cs : List Int32} {z : Int32} {vs : List Value} {ws : List Addr} {a0 : Array Value}
theorem StrOf.latin (A : Exa Z h a "java/lang/String") (F : Fld Z h a "java/lang/String" "value" "[B" (.ref b)) (C : Fld Z h a "java/lang/String" "coder" "B" (.int 0)) (V : Arv Z h b kb .byte z vs (.int 0)) (hL : ∀ c ∈ cs, Lat c) (hz : z = Int32.ofNat cs.length) (hv : vs = latV cs) (hn : cs.length ≤ 1000) : StrOf Z h a cs := by
  subst hz hv; exact ⟨b, kb, A, F, Or.inl ⟨C, hL, V⟩, hn⟩
theorem StrOf.lt (S : StrOf Z h a cs) : a < h.size := by obtain ⟨b, kb, A, -⟩ := S; exact A.lt
theorem StrOf.ext (S : StrOf Z h a cs) (E : Ext h h') : StrOf Z h' a cs := by
  obtain ⟨b, kb, A, F, R, n⟩ := S
  exact ⟨b, kb, A.ext E, F.ext E, R.imp (fun ⟨C, L, V⟩ => ⟨C.ext E, L, V.ext E⟩) id, n⟩
def NB (Z : State) (h : Heap) (x : Addr) : Prop := ∀ (b : Addr) (kb : ClassId) (z : Int32) (vs : List Value) (d : Value), Arv Z h b kb .byte z vs d → x ≠ b
theorem StrOf.keep (S : StrOf Z h a cs) (K : Keep h h' ws) (q : ∀ x ∈ ws, x ≠ a ∧ NB Z h x) : StrOf Z h' a cs := by
  obtain ⟨b, kb, A, F, R, n⟩ := S
  have ha : a ∉ ws := fun m => (q a m).1 rfl
  refine ⟨b, kb, A.keep K, F.keep K ha, ?_, n⟩
  rcases R with ⟨C, L, V⟩ | V
  · exact Or.inl ⟨C.keep K ha, L, V.keep K fun m => (q b m).2 _ _ _ _ _ V rfl⟩
  · exact V.elim
theorem StrOf.wr {sl : Nat} {v : Value} (S : StrOf Z h a cs) (W : Wr h h' o sl v) (q : o ≠ a) (r : NB Z h o) : StrOf Z h' a cs := S.keep (Keep.of_wr W) (allS ⟨q, r⟩ all0)
end S
theorem own_latN {c : Int32} (h : Lat c) : ¬ ((255 : Int32) < c) := by
  obtain ⟨h1, h2⟩ := h
  rw [Int32.lt_iff_toInt_lt]
  have e0 : (255 : Int32).toInt = 255 := by decide
  omega
theorem StrOf.len {Z : State} {h : Heap} {a : Addr} {cs : List Int32} (S : StrOf Z h a cs) : cs.length ≤ 1000 := by obtain ⟨b, kb, -, -, -, n⟩ := S; exact n
theorem own_utfAt : ∀ (cs : List Int32) (i : Nat), i < cs.length → (utfV cs).getD (2 * i) (.int 0) = .int (lo8 (cs.getD i 0)) ∧ (utfV cs).getD (2 * i + 1) (.int 0) = .int (hi8 (cs.getD i 0))
  | [], i, h => by simp at h
  | c :: cs, 0, _ => ⟨rfl, rfl⟩
  | c :: cs, i + 1, h => by
    have q := own_utfAt cs i (by simpa using h)
    exact q
theorem own_safeNew {Z : State} {EL : List (String × Nat)} {vm : Vm} {h : Heap} {x : Addr} (hal : Z.vm.Alike vm) (E : Exa Z h x "java/lang/String") (V : Fld Z h x "java/lang/String" "value" "[B" .null) : Safe Z EL vm h x := fun B => by
  obtain ⟨cell, k, e1, e2, e3, -, -⟩ := E
  obtain ⟨cell', cf, kf, i, f, v1, v2, v3, v4, v5, v6, v7⟩ := V
  cases e1.symm.trans v1
  obtain ⟨p, -, u, a, -, q, -, F, rfl | rfl⟩ := B
  · cases (show h[q.sa]? = some q.sC from F.ha).symm.trans e1
    obtain ⟨cS, ⟨r, -, -⟩, -⟩ := F
    obtain ⟨k', w, -⟩ := State.fieldFound?_setVm (s := ({ Z with heap := h } : State)) (vm' := vm) hal v2
    obtain ⟨c2, k2, i2, w2, -⟩ := r.2.2.2.1
    have w3 := w.symm.trans w2
    simp only [Option.some.injEq, Prod.mk.injEq] at w3
    have r8 := r.2.2.2.2.2.2.2.1
    rw [← w3.2.2.2, v7] at r8
    cases r8
  · cases (show h[q.sd]? = some q.SA from F.hd).symm.trans e1
    obtain ⟨cS, -, -, f', -⟩ := F
    have f2 : vm.findClass "[B" = some q.SA.cls := f'
    rw [hal.findClass] at f2
    obtain ⟨k1, q1, q2⟩ := Vm.findClass_spec f2
    obtain ⟨k2, q3, q4⟩ := Vm.findClass_spec e2
    cases q1.symm.trans q3
    exact absurd (q2.symm.trans q4) (by decide)
def StrV (Z : State) (h : Heap) (v : Value) : Prop := v = .null ∨ ∃ u, v = .ref u ∧ Exa Z h u "java/lang/String"
section Sv
variable {Z : State} {h h' : Heap} {v w : Value} {a : Addr} {sl : Nat} {ws : List Addr}
theorem StrV.ext (F : StrV Z h v) (E : Ext h h') : StrV Z h' v := F.imp id fun ⟨u, e, A⟩ => ⟨u, e, A.ext E⟩
theorem StrV.wr (F : StrV Z h v) (W : Wr h h' a sl w) : StrV Z h' v := F.imp id fun ⟨u, e, A⟩ => ⟨u, e, A.wr W⟩
theorem StrV.keep (F : StrV Z h v) (K : Keep h h' ws) : StrV Z h' v := F.imp id fun ⟨u, e, A⟩ => ⟨u, e, A.keep K⟩
theorem StrV.isRef (F : StrV Z h v) : v.isRef = true := by rcases F with rfl | ⟨u, rfl, -⟩ <;> rfl
end Sv
theorem own_narV {v : Value} {C : String} (h : v.isRef = true) : narrow (.object C) v = v := by cases v <;> first | rfl | (simp [Value.isRef] at h)
theorem own_fitV {v : Value} {C : String} (h : v.isRef = true) : fits (.object C) v = true := by cases v <;> first | rfl | (simp [Value.isRef] at h)
theorem own_mvSM {Z s : State} {a0 args : Array Value} {ref owner name desc : String} (hZ : Z.Warmed39 s.vm) (w : (Cond.sameMethod ref owner name desc).before a0 Z = true) (hmh : ref ≠ "java/lang/invoke/MethodHandle" ∧ ref ≠ "java/lang/invoke/VarHandle") : (Cond.sameMethod ref owner name desc).before args s = true := (Cond.sameMethod_setVm hZ.alike hmh w :)
theorem own_latI (x : Int32) : Lat ((x &&& (255 : Int32)).toUInt32.toUInt16.toUInt32.toInt32) := by
  have h := c_and x 255 (by decide)
  have e : (255 : Int32).toInt = 255 := by decide
  rw [e] at h
  have c := c_i2c (x &&& 255)
  exact ⟨by omega, by omega⟩
theorem own_pick {Z : State} {h : Heap} {C : String} : ∀ {L : List Addr}, (∀ x ∈ L, Exa Z h x C) → ∀ {n : Nat}, n < L.length → ∃ r, (L.map Value.ref).getD n .null = .ref r ∧ Exa Z h r C := fun {L} hL {n} hn =>
  ⟨L[n], by simp [List.getD, hn], hL _ (List.getElem_mem hn)⟩
theorem own_ix26 (x : Int32) : ¬ ((x &&& (2147483647 : Int32)) % (26 : Int32)) < 0 ∧ ((x &&& (2147483647 : Int32)) % (26 : Int32)) < 26 ∧ ((x &&& (2147483647 : Int32)) % (26 : Int32)).toNatClampNeg < 26 := by
  have h := c_and x 2147483647 (by decide)
  have h2 := (c_irem (x &&& (2147483647 : Int32)) 26 26 (by decide)).1 h.1
  have e0 : (0 : Int32).toInt = 0 := by decide
  have e1 : (26 : Int32).toInt = 26 := by decide
  simp only [Int32.lt_iff_toInt_lt, e0, e1, Int32.toNatClampNeg]
  omega
section KnM
variable {p : Program} {l : Launch} {e : Env} {R : Room} {s : State} {m : MethodId} {args : Array Value} {below : List Frame} {meth : Method} {c : Code} {T : State} {locs : List Loc} {cells slots : Nat} {Z : State} {a0 : Array Value} {h : Heap}
abbrev MetK (l : Launch) (Z : State) (y : MethodName) (bytes : ByteArray) (maxL : Nat) (ret : Option FieldType) (rm : Room) (ws : List Jvm.Cond) (as : Array Value) (h0 : Heap) (Q : Option Value → Heap → List Loc → Prop) : Prop :=
  MetFree l y (head1 (Jvm.Cond.code y bytes maxL ret :: ws) rm) (fun aa U => aa = as ∧ Z.Warmed39 U.vm ∧ U.heap = h0) (fun _ _ bl s _ => s.vm.MethodsKnown ∧ s.vm.FramesKnown bl) (fun _ U o U' => ∃ v L, o = .returned v ∧ Q v U'.heap L ∧ FrameEnd U o U' L rm.cells rm.slots)
abbrev MetHK (l : Launch) (Z : State) (y : MethodName) (bytes : ByteArray) (maxL : Nat) (ret : Option FieldType) (rm : Room) (ws : List Jvm.Cond) (as : Array Value) (h0 : Heap) (Q : Option Value → Heap → List Loc → Prop) : Prop :=
  MetFree l y (head1 (Jvm.Cond.code y bytes maxL ret :: ws) rm) (fun aa U => aa = as ∧ Z.Warmed39 U.vm ∧ U.heap = h0 ∧ CHv Z consts_1 U.vm h0) (fun _ _ bl s _ => s.vm.MethodsKnown ∧ s.vm.FramesKnown bl) (fun _ U o U' => ∃ v L, o = .returned v ∧ Q v U'.heap L ∧ CHr Z consts_1 U.vm U.heap U'.vm U'.heap ∧ ReturnedEndW U o U' L rm.cells rm.slots)
theorem own_metK {y : MethodName} {bytes : ByteArray} {maxL : Nat} {ret : Option FieldType} {rm : Room} {ws : List Jvm.Cond} {as : Array Value} {h0 : Heap} {Q : Option Value → Heap → List Loc → Prop} (hp : plainFor y = true)
    (body : ∀ p e s m below meth c s₁, meth.sig.returnType = ret → p.tables.exec = Jvm.exec → c.code = bytes → meth.locks = false → c.maxLocals = maxL → s.vm.findClass y.cls = some m.cls → meth.name = y.name → Stand p l e rm s m as below meth c s₁ [] 0 0 → s₁.heap = h0 → Z.Warmed39 s.vm → s.heap = h0 → s.vm.MethodsKnown → s.vm.FramesKnown below →
      Goes p e below (fun o u L => FrameEnd s o u L rm.cells rm.slots) Q (s₁.setTop (entryFrame m as maxL))) : MetK l Z y bytes maxL ret rm ws as h0 Q := by
  refine MetFree.of_bodySF hp hisR ?_
  intro p e s m args below meth c s₁ Bd hml0 hP hK
  obtain ⟨rfl, hZ, hh⟩ := hP
  exact body p e s m below meth c s₁ Bd.returns Bd.exec Bd.bytes (BodyLoose.notSynchronized Bd) hml0 (findClass_of_methodNamed Bd.named) (name_of_methodNamed Bd.named Bd.method).1 (Stand.of_body Bd) (by rw [← hh, Bd.state]; rfl) hZ hh hK.1 hK.2
theorem own_metN {y : MethodName} {bytes : ByteArray} {maxL : Nat} {ret : Option FieldType} {rm : Room} {ws : List Jvm.Cond} {as : Array Value} {h0 : Heap} {Q : Option Value → Heap → List Loc → Prop} (hp : plainFor y = true)
    (body : ∀ p e s m below meth c s₁, meth.sig.returnType = ret → p.tables.exec = Jvm.exec → c.code = bytes → meth.locks = false → c.maxLocals = maxL → s.vm.findClass y.cls = some m.cls → meth.name = y.name → Stand p l e rm s m as below meth c s₁ [] 0 0 → s₁.heap = h0 → Z.Warmed39 s.vm → s.heap = h0 → s.methodNamed? y = some m →
      Goes p e below (fun o u L => FrameEnd s o u L rm.cells rm.slots) Q (s₁.setTop (entryFrame m as maxL))) : Met l Z y bytes maxL ret rm ws as h0 Q := by
  refine MetFree.of_bodySF hp hisR ?_
  intro p e s m args below meth c s₁ Bd hml0 hP hK
  obtain ⟨rfl, hZ, hh⟩ := hP
  exact body p e s m below meth c s₁ Bd.returns Bd.exec Bd.bytes (BodyLoose.notSynchronized Bd) hml0 (findClass_of_methodNamed Bd.named) (name_of_methodNamed Bd.named Bd.method).1 (Stand.of_body Bd) (by rw [← hh, Bd.state]; rfl) hZ hh Bd.named
theorem own_metHK {y : MethodName} {bytes : ByteArray} {maxL : Nat} {ret : Option FieldType} {rm : Room} {ws : List Jvm.Cond} {as : Array Value} {h0 : Heap} {Q : Option Value → Heap → List Loc → Prop} (hp : plainFor y = true)
    (body : ∀ p e s m below meth c s₁, meth.sig.returnType = ret → p.tables.exec = Jvm.exec → c.code = bytes → meth.locks = false → c.maxLocals = maxL → (s.setVm s.vm).vm.findClass y.cls = some m.cls → meth.name = y.name → Stand p l e rm (s.setVm s.vm) m as below meth c s₁ [] 0 0 → s₁.heap = h0 → Z.Warmed39 s.vm → s.heap = h0 → CHv Z consts_1 s.vm h0 → s.vm.MethodsKnown → s.vm.FramesKnown below →
      Goes p e below (fun o u L => CHr Z consts_1 s.vm s.heap u.vm u.heap ∧ ReturnedEndW s o u L rm.cells rm.slots) Q (s₁.setTop (entryFrame m as maxL))) : MetHK l Z y bytes maxL ret rm ws as h0 Q := by
  refine MetFree.of_bodySF hp hisR ?_
  intro p e s m args below meth c s₁ Bd hml0 hP hK
  obtain ⟨rfl, hZ, hh, hC⟩ := hP
  exact body p e s m below meth c s₁ Bd.returns Bd.exec Bd.bytes (BodyLoose.notSynchronized Bd) hml0 (findClass_of_methodNamed Bd.named) (name_of_methodNamed Bd.named Bd.method).1 (Stand.of_body Bd) (by rw [← hh, Bd.state]; rfl) hZ hh hC hK.1 hK.2
/-- invokedynamic of a lambda with one captured reference -/
theorem own_lam (X : Stand p l e R s m args below meth c T locs cells slots) (hx : p.tables.exec = Jvm.exec) (hZ : Z.Warmed39 s.vm) {x : MethodName} {pc index : Nat} {σ : Lambda.Shape} {C : String} (hnam : s.methodNamed? x = some m) (w : (Cond.lambdaSite x pc index σ).before a0 Z = true) (wo : (Cond.instantiable "java/lang/Object" 0).before a0 Z = true)
    (hcap : σ.captured = [.object C]) (lays : ((σ.file x.cls).bind (layoutFields · 0)).map (·.2.1) = some #[.object C]) (eT : T.heap = h) {g : JFrame} (hg : g.method = m) (hsize : g.locals.size = c.maxLocals) (hpc : g.pc = pc) (hd : decode c.code g.pc = .ok (.invokedynamic index, 5)) {b : Addr} {rest : List Value} (hs : g.stack = .ref b :: rest)
    (hwords : 2 * g.monitorRoom + (1 + (rest.map fun v => v.category).sum) + 3072 ≤ R.locals) (hc : cells + 1 ≤ R.cells) (hl : slots + 1 ≤ R.slots) :
    ∃ (T' : State) (h' : Heap), Stand p l e R s m args below meth c T' locs (cells + 1) (slots + 1) ∧ T'.heap = h' ∧ Ext h h' ∧ ∀ target, Steps p.tables e below (T'.setTop { g with pc := g.pc + 5, stack := .ref h.size :: rest }) target → Steps p.tables e below (T.setTop g) target := by
  obtain ⟨cK, one, hat⟩ := Cond.lambdaSite_spec w
  obtain ⟨m', kS, cfS, i0, p0, lk, hm', hkS, hcfS, hshape, -, hfind, hmade, hcan, hlk⟩ := State.lambdaAt?_spec hat
  have hm2 : s.methodNamed? x = some m' := by
    have q : (Z.setVm s.vm).methodNamed? x = some m' := by rw [State.methodNamed?_setVm hZ.alike]; exact hm'
    exact q
  cases hnam.symm.trans hm2
  obtain ⟨rfl, rfl, -⟩ : lk = .makes cK ∧ one = none ∧ σ.captured ≠ [] := by
    rcases hlk with ⟨a, cell, -, -, q, -⟩ | q
    · rw [hcap] at q; cases q
    · exact q
  obtain ⟨kS', hkS', hnameS⟩ := className_of_methodNamed hm'
  cases hkS.symm.trans hkS'
  obtain ⟨bsm, nt, desc, site, hcp, hnt, hsite, hpar⟩ := Lambda.shapeOf?_site hshape
  obtain ⟨kK, hkK, htyK, hkindK, hhid⟩ := Lambda.made_types hmade hkS wo (by rw [hnameS]; exact lays)
  obtain ⟨k2, hk2, he2⟩ := hZ.alike.2.2 _ _ hkS
  obtain ⟨k3, hk3, he3⟩ := hZ.alike.2.2 _ _ hkK
  have hty3 : k3.instanceTypes = #[.object C] := by rw [he3]; exact htyK
  have hkind3 : k3.kind = .ordinary := by rw [he3]; exact hkindK
  have hslotsE : ((k3.instanceTypes.toList.zip [(.ref b : Value)]).map fun (t, v) => narrow t v) = [.ref b] := by
    rw [hty3]; simp [narrow]
  obtain ⟨X₁, st1⟩ := X.lambdaMakes hx (g := g) hg hsize hd (vals := [.ref b]) (rest := rest)
    hk2 (by rw [he2, hpc]; exact hfind) (by rw [he2]; exact hcfS) hcp hnt (parseLong_of_parse hsite) (by rw [hpar, hcap]; rfl) hs hk3
    (by rw [X.admits.platform, hs]; simpa [Value.category] using hwords) hc (by rw [hslotsE]; exact hl)
    (fun i v hv => by
      rw [hslotsE] at hv
      match i, hv with
      | 0, hv => simp at hv; subst hv; simp [State.fitsSlot, State.slotType?, hk3, hkind3, hty3, fits]
      | k + 1, hv => simp at hv)
  rw [hslotsE] at X₁ st1
  subst eT
  refine ⟨_, _, X₁, rfl, ⟨?_, fun a cl q => ?_⟩, st1⟩
  · simp [State.pushCell]
  · have hlt := (Array.getElem?_eq_some_iff.mp q).1
    show (T.heap.push _)[a]? = some cl
    rw [Array.getElem?_push_lt hlt]; exact (Array.getElem?_eq_some_iff.mp q).2 ▸ rfl
theorem own_known {vm : Vm} {m : MethodId} (h : Jvm.D.methodKnown vm m = true) : vm.knowsMethod m := by
  unfold Jvm.D.methodKnown at h
  cases hk : vm.classes[m.cls]? with
  | none => rw [hk] at h; cases h
  | some k => exact ⟨k, hk, fun cf hcf => by simpa [hk, hcf] using h⟩
theorem own_TK {s : State} (h : Jvm.D.tablesKnown s = true) : s.vm.MethodsKnown := by
  intro m x hm
  unfold Vm.method? at hm
  cases hk : s.vm.classes[m.cls]? with
  | none => rw [hk] at hm; cases hm
  | some k =>
    rw [hk] at hm
    replace hm : k.methods[m.idx]? = some x := hm
    refine ⟨k, hk, fun cf hcf => ?_⟩
    have h1 := (Array.all_eq_true_iff_forall_mem.mp h) k (Array.mem_of_getElem? hk)
    simp only [hcf, beq_iff_eq] at h1
    have hlt : m.idx < k.methods.size := (Array.getElem?_eq_some_iff.mp hm).1
    rw [h1] at hlt
    simp [hlt]
theorem own_FK {s : State} {m : MethodId} {args : Array Value} {below : List Frame} (h : Jvm.D.framesKnown s = true) (hf : s.frames = .invoking m args :: below) : s.vm.FramesKnown below := by
  intro y hy m' hm'
  unfold Jvm.D.framesKnown at h
  rw [hf] at h
  have h1 := (List.all_eq_true.mp h) y (List.mem_cons_of_mem _ hy)
  cases y with
  | java g => cases hm'; exact own_known h1
  | native n => cases hm'; exact own_known h1
  | _ => cases hm'
end KnM
theorem own_allN {P : Jvm.Cond → Prop} : ∀ w ∈ ([] : List Jvm.Cond), P w := fun w hw => by cases hw
theorem own_allC {P : Jvm.Cond → Prop} {d : Jvm.Cond} {L : List Jvm.Cond} (h : P d) (r : ∀ w ∈ L, P w) : ∀ w ∈ d :: L, P w := fun w hw => (List.mem_cons.mp hw).elim (fun q => q ▸ h) (r w)
theorem own_cat {v : Value} (h : v.isRef = true) : v.category = 1 := by cases v <;> first | rfl | (simp [Value.isRef] at h)
theorem own_narA {v : Value} {t : FieldType} (h : v.isRef = true) : narrow (.array t) v = v := by cases v <;> first | rfl | (simp [Value.isRef] at h)
theorem own_fitA {v : Value} {t : FieldType} (h : v.isRef = true) : fits (.array t) v = true := by cases v <;> first | rfl | (simp [Value.isRef] at h)
abbrev thO : String := "Ljava/lang/Object;"
abbrev thM : String := "Ljava/lang/String;"
abbrev thC : String := "Ljava/lang/Throwable;"
/-- what this claim's sheet says of Throwable: its fields are laid in the class rc -/
def own_tw (rc : String) : List Jvm.Cond := [.native tFill0, .instanceMethod tFill0, .methodLink tN 202 tFill0, .instanceMethod tFill, .codeSync tFill LibCode.Throwable.Fill.code 1 (some (.object tN)), .methodLink tN 27 tFill, .declares tFill,
  .initialized tN, .superclass tN "java/lang/Object", .instanceMethod oInit, .code oInit ⟨#[0xb1]⟩ 1 none, .methodLink tN 1 oInit,
  .fieldLink tN 7 tN "cause" thC, .lays rc tN "cause" thC, .fieldLink tN 17 tN "stackTrace" steD, .lays rc tN "stackTrace" steD, .fieldLink tN 24 tN "suppressedExceptions" listD, .lays rc tN "suppressedExceptions" listD,
  .fieldLink tN 13 tN "UNASSIGNED_STACK" steD, .laysStatic tN "UNASSIGNED_STACK" steD, .fieldLink tN 20 tN "SUPPRESSED_SENTINEL" listD, .laysStatic tN "SUPPRESSED_SENTINEL" listD,
  .lays rc tN "detailMessage" thM, .fieldLink tN 198 tN "backtrace" thO, .lays rc tN "backtrace" thO, .lays rc tN "depth" "I", .soleField tN "backtrace", .soleField tN "depth",
  .arrayOver (.object "java/lang/Object"), .selects rc tFill0 tFill0, .selects rc tFill tFill]
theorem own_twOk {rc : String} : (own_tw rc).all xOk = true := rfl
theorem own_thr {args : Array Value} {s : State} {pl : Platform} (ho : pl.frameOwnsMonitors = true) (hfin : pl.finalization = false) (hpl : pl.magicAccessors = ({} : Platform).magicAccessors) {rc : String} {cR : ClassId} {kR : Class} (hcR : s.vm.findClass rc = some cR) (hkR : s.vm.classes[cR]? = some kR) (h : ∀ w ∈ own_tw rc, w.before args s = true) :
    ∃ T : ThrowableC, T.Links pl s ∧ s.vm.findClass tN = some T.cT ∧ s.methodNamed? tFill = some T.fill ∧ s.methodNamed? tFill0 = some T.fill0 ∧ s.fieldFound? tN "stackTrace" steD = some (T.cT, T.kT, T.i17, T.fStack) ∧ s.fieldFound? tN "UNASSIGNED_STACK" steD = some (T.cT, T.kT, T.i13, T.fUnassigned) ∧ T.fStack.name = "stackTrace" ∧ T.fStack.type = .array (.object "java/lang/StackTraceElement") := by
  have H : ∀ w, w ∈ own_tw rc → w.holds args s none s [] = true := fun w hm => h w hm
  obtain ⟨⟨cT, iN⟩, mN, nN, fN, natN, codN, lokN, sigN⟩ := Cond.native_spec (H (.native tFill0) (by simp [own_tw]))
  have hcT : s.vm.findClass tN = some cT := findClass_of_methodNamed nN
  obtain ⟨kT, hkT, nameT⟩ := Vm.findClass_spec hcT
  obtain ⟨_, k1, _, _, hk1, _, _, ord1, _, nif⟩ := Cond.superclass_spec hcT (H (.superclass tN "java/lang/Object") (by simp [own_tw]))
  cases Option.some.inj (hkT.symm.trans hk1)
  obtain ⟨iN', mN', nN', fN', atN, staN, absN, nmN, dsN⟩ := Cond.ownMethod (x := tFill0) hcT hkT (H (.instanceMethod tFill0) (by simp [own_tw]))
  obtain rfl : iN = iN' := by have q := Option.some.inj (nN.symm.trans nN'); simpa using q
  cases Option.some.inj (fN.symm.trans fN')
  obtain ⟨iF, mF, nF, fF, atF, staF, absF, -, -⟩ := Cond.ownMethod (x := tFill) hcT hkT (H (.instanceMethod tFill) (by simp [own_tw]))
  obtain ⟨mF', cF, fF', codF, bytF, locF, retF, lokF, -, sigF⟩ := Cond.codeSync_spec nF (H (.codeSync tFill LibCode.Throwable.Fill.code 1 (some (.object tN))) (by simp [own_tw]))
  cases Option.some.inj (fF.symm.trans fF')
  obtain ⟨mO, dO, nO, fO, staO, absO⟩ := Cond.instanceMethod_spec (H (.instanceMethod oInit) (by simp [own_tw]))
  obtain ⟨dO', cO, fO', codO, bytO, locO, -, lokO, -, sigO⟩ := Cond.code_spec nO (H (.code oInit ⟨#[0xb1]⟩ 1 none) (by simp [own_tw]))
  cases Option.some.inj (fO.symm.trans fO')
  obtain ⟨kO, hkO, nameO⟩ := Vm.findClass_spec (findClass_of_methodNamed nO)
  obtain ⟨nmO, dsO⟩ := name_of_methodNamed nO fO
  obtain ⟨ci1, n1, cf, li1, ri1, hcf, po1⟩ := Cond.linkedMethod hcT hkT nO (H (.methodLink tN 1 oInit) (by simp [own_tw])) pl hpl
  obtain ⟨ci27, n27, cf1, li27, ri27, hcf1, po27⟩ := Cond.linkedMethod hcT hkT nF (H (.methodLink tN 27 tFill) (by simp [own_tw])) pl hpl
  cases Option.some.inj (hcf.symm.trans hcf1)
  obtain ⟨ci202, n202, cf2, li202, ri202, hcf2, po202⟩ := Cond.linkedMethod hcT hkT nN (H (.methodLink tN 202 tFill0) (by simp [own_tw])) pl hpl
  cases Option.some.inj (hcf.symm.trans hcf2)
  obtain ⟨ci7, i7, f7, l7, r7, a7, s7, z7, -, -, -⟩ := Cond.ownField (t := .object tN) hcT hkT (by decide +kernel) (H (.fieldLink tN 7 tN "cause" thC) (by simp [own_tw])) (H (.lays rc tN "cause" thC) (by simp [own_tw])) pl hpl
  obtain ⟨ci17, i17, f17, l17, r17, a17, s17, z17, n17, t17, ff17⟩ := Cond.ownField (t := .array (.object "java/lang/StackTraceElement")) hcT hkT (by decide +kernel) (H (.fieldLink tN 17 tN "stackTrace" steD) (by simp [own_tw])) (H (.lays rc tN "stackTrace" steD) (by simp [own_tw])) pl hpl
  obtain ⟨ci24, i24, f24, l24, r24, a24, s24, z24, n24, t24, ff24⟩ := Cond.ownField (t := .object "java/util/List") hcT hkT (by decide +kernel) (H (.fieldLink tN 24 tN "suppressedExceptions" listD) (by simp [own_tw])) (H (.lays rc tN "suppressedExceptions" listD) (by simp [own_tw])) pl hpl
  obtain ⟨ci13, i13, f13, aS, cS, l13, r13, a13, s13, -, -, staT, hcS, isS, -, -, ff13⟩ := Cond.ownStatic (t := .array (.object "java/lang/StackTraceElement")) hcT hkT (by decide +kernel) (H (.fieldLink tN 13 tN "UNASSIGNED_STACK" steD) (by simp [own_tw])) (H (.laysStatic tN "UNASSIGNED_STACK" steD) (by simp [own_tw])) pl hpl
  obtain ⟨ci20, i20, f20, _, _, l20, r20, a20, s20, -, -, -, -, -, -, -, -⟩ := Cond.ownStatic (t := .object "java/util/List") hcT hkT (by decide +kernel) (H (.fieldLink tN 20 tN "SUPPRESSED_SENTINEL" listD) (by simp [own_tw])) (H (.laysStatic tN "SUPPRESSED_SENTINEL" listD) (by simp [own_tw])) pl hpl
  obtain ⟨_, _, _, _, _, fM, _, _, _, sM, zM, _⟩ := Cond.lays_spec (H (.lays rc tN "detailMessage" thM) (by simp [own_tw]))
  obtain ⟨-, d17, g17, e17⟩ := Cond.laysAt hcR hkR ff17 (H (.lays rc tN "stackTrace" steD) (by simp [own_tw]))
  obtain ⟨-, d24, g24, e24⟩ := Cond.laysAt hcR hkR ff24 (H (.lays rc tN "suppressedExceptions" listD) (by simp [own_tw]))
  have pF : mF.sig.parameters = [] := by
    have q : (parseMethodDescriptor tFill.desc).map (·.parameters) = some [] := by decide +kernel
    rw [sigF] at q; simpa using q
  have pN : mN.sig.parameters = [.int] := by
    have q : (parseMethodDescriptor tFill0.desc).map (·.parameters) = some [.int] := by decide +kernel
    rw [sigN] at q; simpa using q
  have pO : dO.sig.parameters = [] := by
    have q : (parseMethodDescriptor oInit.desc).map (·.parameters) = some [] := by decide +kernel
    rw [sigO] at q; simpa using q
  refine ⟨{ cT := cT, kT := kT, cO := cT, aS := aS, fillIdx := iF, fill0Idx := iN, initSIdx := 0, obj := mO, kObj := kO, methFill := mF, methFill0 := mN, methInitS := mF, methObj := dO, codeFill := cF, codeInitS := cF, codeObj := cO, fBack := f7, fDepth := f7, fStack := f17, fCause := f7, fSupp := f24, fMsg := fM, fUnassigned := f13, fSentinel := f20, cfT := cf, ci1 := ci1, n1 := n1, ci27 := ci27, n27 := n27, ci202 := ci202, n202 := n202, ci7 := ci7, i7 := i7, ci13 := ci13, i13 := i13, ci17 := ci17, i17 := i17, ci20 := ci20, i20 := i20, ci24 := ci24, i24 := i24 }, ?_, hcT, nF, nN, ff17, ff13, n17, t17⟩
  constructor <;> first | assumption | exact Vm.findClass_boot hcT hkT | exact Cond.initialized_spec hcT hkT (H (.initialized tN) (by simp [own_tw])) | (rw [dsO]; exact lookupSpecial_of_named nO fO staO) | (rw [pO]; rfl) | exact Cond.laysApart g17 g24 e17 e24 (by rw [n17, n24]; decide)
theorem own_untW {h h' : Heap} {a b : Addr} {sl : Nat} {v : Value} (W : Wr h h' b sl v) (N : Unt h a) : Unt h' a := by
  obtain ⟨c0, w1, -, -, rfl⟩ := W
  obtain ⟨cu, u1, u2, u3⟩ := N
  by_cases q : b = a
  · subst q
    cases w1.symm.trans u1
    have hlt := (Array.getElem?_eq_some_iff.mp w1).1
    exact ⟨c0.setSlot sl v, by simp [Array.getElem?_setIfInBounds, hlt], u2, u3⟩
  · exact ⟨cu, by rw [Array.getElem?_setIfInBounds_ne q]; exact u1, u2, u3⟩
theorem own_staT {Z : State} {a0 : Array Value} {h : Heap} {n d : String} (hT : ThS Z h) (wi : (Cond.initialized tN).before a0 Z = true) (wl : (Cond.laysStatic tN n d).before a0 Z = true) (wr : (Cond.isRef (.static tN n d)).before a0 Z = true) : ∃ v : Value, v.isRef = true ∧ Sta Z h tN n d v := by
  obtain ⟨u, cf, i, k, f, a, cell, h1, h2, h3, h4, h5, h6, h7⟩ := Jvm.Free.Exc.staticIs_of wi wl wr
  obtain ⟨c', k', i', f', a', cell', hc', hf, -, hsta, hcell, hiss, -, -, -⟩ := Cond.laysStatic_spec wl
  cases hf.symm.trans h1
  cases Option.some.inj (hsta.symm.trans h4)
  cases Option.some.inj (hcell.symm.trans h5)
  exact ⟨u.v, u.2, cf, i, k, f, a, cell, h1, h2, h3, h4, hT _ _ _ _ hc' (State.fieldFound?_class hf) h4 h5 hiss, hiss, h7⟩
theorem own_kpS {p : Program} {l : Launch} {e : Env} {R : Room} {s : State} {m : MethodId} {args : Array Value} {below : List Frame} {meth : Method} {c : Code} {T : State} {L : List Loc} {cells slots : Nat} {Z : State} {h0 : Heap} {a : Addr} (X : Stand p l e R s m args below meth c T L cells slots) (hh : s.heap = h0) (q : ∀ x ∈ L, x ∈ sixLocs Z a) : Kp Z h0 T.heap a := by
  subst hh
  have K : ∀ (y : Addr) (cy : Cell), s.heap[y]? = some cy → ∃ c' : Cell, T.heap[y]? = some c' ∧ c' = { cy with slots := c'.slots } ∧ c'.slots.size = cy.slots.size ∧ ∀ i, (⟨y, i⟩ : Loc) ∉ L → c'.slots[i]? = cy.slots[i]? := fun y cy hy => X.same.2.2.2.2.2 y cy hy
  refine ⟨?_, fun y cy hy => ?_⟩
  · rcases Nat.eq_zero_or_pos s.heap.size with z | z
    · omega
    · obtain ⟨c', q1, -⟩ := K (s.heap.size - 1) _ (Array.getElem?_eq_getElem (by omega))
      have := (Array.getElem?_eq_some_iff.mp q1).1
      omega
  · obtain ⟨c', q1, q2, q3, q4⟩ := K y cy hy
    refine ⟨c', q1, q2, q3, fun ne => ?_, fun i hi => q4 i fun hm => ?_⟩
    · have z : c'.slots = cy.slots := Array.ext_getElem? fun i => q4 i fun hm => ne (by obtain ⟨nd, -, w⟩ := List.mem_map.mp (q _ hm); exact (congrArg Loc.base w).symm)
      rw [q2, z]
    · obtain ⟨nd, hnd, w⟩ := List.mem_map.mp (q _ hm)
      exact hi nd hnd (congrArg Loc.slot w)
theorem own_six0 {Z : State} {a : Addr} : ∀ x ∈ ([] : List Loc), x ∈ sixLocs Z a := fun x hx => by cases hx
theorem own_six1 {p : Program} {l : Launch} {e : Env} {R : Room} {s : State} {m : MethodId} {args : Array Value} {below : List Frame} {meth : Method} {c : Code} {T : State} {locs : List Loc} {cells slots : Nat} {Z : State} {a : Addr} {n d : String} (X : Stand p l e R s m args below meth c T (locs ++ [⟨a, Jvm.RoadKit.slotOf Z tN n d⟩]) cells slots) (q : ∀ x ∈ locs, x ∈ sixLocs Z a) (h : (n, d) ∈ Jvm.Free.Exc.sixNames) : ∀ x ∈ locs ++ [(⟨a, Jvm.RoadKit.slotOf Z tN n d⟩ : Loc)], x ∈ sixLocs Z a := fun x hx => by
  rcases List.mem_append.mp hx with z | z
  · exact q x z
  · rw [List.mem_singleton.mp z]; exact List.mem_map.mpr ⟨(n, d), h, rfl⟩
theorem own_sixA {Z : State} {a : Addr} {L L' : List Loc} (q : ∀ x ∈ L, x ∈ sixLocs Z a) (q' : ∀ x ∈ L', x ∈ sixLocs Z a) : ∀ x ∈ L ++ L', x ∈ sixLocs Z a := fun x hx => (List.mem_append.mp hx).elim (q x) (q' x)
theorem own_sixF {Z : State} {n0 : Nat} {a : Addr} {L : List Loc} (q : ∀ x ∈ L, x ∈ sixLocs Z a) (h : n0 ≤ a) : Fr n0 L := fun x hx => by
  obtain ⟨nd, -, rfl⟩ := List.mem_map.mp (q x hx); exact h
theorem own_fillL {p : Program} {l : Launch} {e : Env} {R : Room} {s : State} {m : MethodId} {args : Array Value} {below : List Frame} {meth : Method} {c : Code} {T : State} {locs : List Loc} {cells slots : Nat} {Z : State} {a0 : Array Value} {h : Heap}
    (X : Stand p l e R s m args below meth c T locs cells slots) (hx : p.tables.exec = Jvm.exec) (hl : l.stackTraces = true) (hZ : Z.Warmed39 s.vm) {rc : String} {kk : Nat} (hown : s.vm.findClass tN = some m.cls) (hw : ∀ w ∈ own_tw rc, w.before a0 Z = true) (wi : (Cond.instantiable rc kk).before a0 Z = true) (hT0 : ThS Z s.heap) (hTK : s.vm.MethodsKnown) (hBelow : s.vm.FramesKnown below) (eT : T.heap = h) {a : Addr} {us : Value} (hus : us.isRef = true)
    (E : Exa Z h a rc) (N : Unt h a) (FS : Fld Z h a tN "stackTrace" steD us) (FB : Fld Z h a tN "backtrace" thO .null) (FM : Fld Z h a tN "detailMessage" thM .null) (SU : Sta Z h tN "UNASSIGNED_STACK" steD us)
    {g : JFrame} (hg : g.method = m) (hsize : g.locals.size = c.maxLocals) {rest : List Value} (hs : g.stack = .ref a :: rest) (hd : decode c.code g.pc = .ok (.invokevirtual 27, 3)) (hf : 3 ≤ R.frames) (hlo : 2 * g.monitorRoom + (rest.map fun v => v.category).sum + 42 ≤ R.locals) (hc : cells + 1 ≤ R.cells) (hsl : slots + 2752 ≤ R.slots) :
    ∃ (T' : State) (L : List Loc), Stand p l e R s m args below meth c T' (locs ++ L) (cells + 1) (slots + 2752) ∧ (∀ x ∈ L, x ∈ sixLocs Z a) ∧ Exa Z T'.heap a rc ∧ Fld Z T'.heap a tN "detailMessage" thM .null ∧ ∀ target, Steps p.tables e below (T'.setTop { g with pc := g.pc + 3, stack := .ref a :: rest }) target → Steps p.tables e below (T.setTop g) target := by
  have W : ∀ w ∈ own_tw rc, w.before args s = true := fun w hm => mvX hT0 hZ (List.all_eq_true.mp own_twOk w hm) (hw w hm)
  have H : ∀ w, w ∈ own_tw rc → w.holds args s none s [] = true := fun w hm => W w hm
  have htr : e.platform.stackTraces = true := by rw [X.admits.platform]; exact hl
  have howns : e.platform.frameOwnsMonitors = true := by rw [X.admits.platform]
  have hfin : e.platform.finalization = false := by rw [X.admits.platform]
  have hpl : e.platform.magicAccessors = ({} : Platform).magicAccessors := by rw [X.admits.platform]
  subst eT
  obtain ⟨cell, kc, h1, h2, h3, h4, h5⟩ := E
  obtain ⟨cu, u1, u2, u3⟩ := N
  cases h1.symm.trans u1
  obtain ⟨cI, kI, i1, i2, i3, -⟩ := Cond.instantiable_spec wi
  cases h2.symm.trans i1
  cases h3.symm.trans i2
  have hfound : s.vm.findClass rc = some cell.cls := by rw [hZ.alike.findClass]; exact h2
  obtain ⟨kX, hkX, hek⟩ := hZ.alike.2.2 _ _ h3
  have hord : kX.kind = .ordinary := by rw [hek]; exact i3
  have hsz : cell.slots.size = kX.instanceTypes.size := by rw [hek]; exact h5 i3
  obtain ⟨TT, L, Yc, Yf, Yf0, Yst, Yun, nS, tS⟩ := own_thr howns hfin hpl hfound hkX W
  have hsel0 : selectMethod e.platform s.vm cell.cls TT.fill0 = .method TT.fill0 := by
    obtain ⟨c2, r2, m2, q1, q2, q3, q4, -⟩ := Cond.selects_spec (H (.selects rc tFill0 tFill0) (by simp [own_tw]))
    cases Option.some.inj (q1.symm.trans hfound)
    cases Option.some.inj (q2.symm.trans (State.methodFound?_of_named Yf0 (by decide)))
    cases Option.some.inj (q3.symm.trans Yf0)
    rw [Launch.admits_selectMethod X.admits]; exact q4
  obtain ⟨cfU, iU, kU, fU, stU, cellS, g1, g2, g3, g4, g5, g6, g7⟩ := SU
  obtain ⟨kU', g1', gek⟩ := State.fieldFound?_setVm hZ.alike g1
  have g4' : kU'.statics = some stU := by rw [gek]; exact g4
  cases (show s.fieldFound? tN "UNASSIGNED_STACK" steD = _ from g1').symm.trans Yun
  cases Option.some.inj (g4'.symm.trans L.statics)
  have hneS : TT.aS ≠ a := fun q => by rw [q] at g5; cases g5.symm.trans h1; rw [u2] at g6; cases g6
  obtain ⟨ci198, i198, fB, hk198, hg198, ha198, hsB, -, hnB, htB, hffB⟩ := Cond.ownField (t := .object "java/lang/Object") Yc L.cls (by decide +kernel) (H (.fieldLink tN 198 tN "backtrace" thO) (by simp [own_tw])) (H (.lays rc tN "backtrace" thO) (by simp [own_tw])) e.platform hpl
  obtain ⟨_, _, cD, kD, iD, fD, -, -, hffD, hstD, -, -, -, -⟩ := Cond.lays_spec (H (.lays rc tN "depth" "I") (by simp [own_tw]))
  cases Option.some.inj ((Cond.lays_declared (H (.lays rc tN "depth" "I") (by simp [own_tw])) hffD).symm.trans Yc)
  obtain ⟨hkD, hatD⟩ := State.fieldFound?_spec hffD
  cases Option.some.inj (hkD.symm.trans L.cls)
  obtain ⟨hnD, htD⟩ := State.fieldFound?_type hffD (t := .int) (by decide +kernel)
  have hfb := Cond.soleField_find Yc L.cls (H (.soleField tN "backtrace") (by simp [own_tw])) ha198 hnB hsB
  have hfd := Cond.soleField_find Yc L.cls (H (.soleField tN "depth") (by simp [own_tw])) hatD hnD hstD
  obtain ⟨comp, cO, kO, -, -, hkO, hkindO, hO⟩ := Cond.arrayOver_spec (H (.arrayOver (.object "java/lang/Object")) (by simp [own_tw]))
  obtain ⟨tyS, dS, hdS, edS⟩ := Cond.laysAt hfound hkX Yst (H (.lays rc tN "stackTrace" steD) (by simp [own_tw]))
  obtain ⟨tyB, dB, hdB, edB⟩ := Cond.laysAt hfound hkX hffB (H (.lays rc tN "backtrace" thO) (by simp [own_tw]))
  obtain ⟨tyD, dD, hdD, edD⟩ := Cond.laysAt hfound hkX hffD (H (.lays rc tN "depth" "I") (by simp [own_tw]))
  obtain ⟨cm, cfM, kM, iM, fM, m1, m2, m3, m4, m5, m6, m7⟩ := FM
  cases h1.symm.trans m1
  obtain ⟨kM', m2', -⟩ := State.fieldFound?_setVm hZ.alike m2
  have hffM : s.fieldFound? tN "detailMessage" thM = some (cfM, kM', iM, fM) := m2'
  obtain ⟨tyM, dM, hdM, edM⟩ := Cond.laysAt hfound hkX hffM (H (.lays rc tN "detailMessage" thM) (by simp [own_tw]))
  have nM := (State.fieldFound?_type hffM (t := .object "java/lang/String") (by decide +kernel)).1
  have mS := Cond.laysApart hdM hdS edM edS (by rw [nM, nS]; decide)
  have mB := Cond.laysApart hdM hdB edM edB (by rw [nM, hnB]; decide)
  have mD := Cond.laysApart hdM hdD edM edD (by rw [nM, hnD]; decide)
  obtain ⟨cs, cfS, kS, iS, fS, s1, s2, -, -, -, -, s7⟩ := FS
  cases h1.symm.trans s1
  obtain ⟨kS', s2', -⟩ := State.fieldFound?_setVm hZ.alike s2
  cases (show s.fieldFound? tN "stackTrace" steD = _ from s2').symm.trans Yst
  obtain ⟨cb, cfB, kB, iB, fB', b1, b2, -, -, -, -, b7⟩ := FB
  cases h1.symm.trans b1
  obtain ⟨kB', b2', -⟩ := State.fieldFound?_setVm hZ.alike b2
  cases (show s.fieldFound? tN "backtrace" thO = _ from b2').symm.trans hffB
  obtain ⟨cZ, kZ, iZ, d2⟩ := Jvm.Free.BdW.found_ride (U := s) (U' := Z) hZ.alike.symm ⟨_, _, _, hffD⟩
  have tk : ∀ {f : Field} {v : Value}, kX.instanceTypes[f.slot]? = some f.type → fits f.type v = true → Jvm.Takes s cell f v := fun {f v} q1 q2 => by
    obtain ⟨t1, t2⟩ := Takes.of_laid (v := v) hkX hord q1 q2
    exact ⟨by rw [hsz]; simpa using t1, by rw [u2]; exact t2⟩
  have fS' : fits TT.fStack.type us = true := by rw [tS]; exact fits_refV_array _ ⟨us, hus⟩
  have hSE := W (.selects rc tFill tFill) (by simp [own_tw])
  obtain ⟨v6, vm6, ⟨T6, L6, c6, n6⟩, hW6, X6, ⟨hv6, C6, n, hn, hD6, q1, q2, q3, q4, hL6, hc6, hn6⟩, come⟩ := X.virtualBack hx (own := tN) (C := rc) (index := 27) (y := tFill) (z := tFill) hown (W (.methodLink tN 27 tFill) (by simp [own_tw])) (W (.declares tFill) (by simp [own_tw])) (notFace_of_selects hSE) hSE (W (.instanceMethod tFill) (by simp [own_tw])) (by decide)
    (Jvm.Free.Exc.fillPaysAny (l := l) (W := 2 * g.monitorRoom + (rest.map fun v => v.category).sum) hx htr TT L Yf (u0 := ⟨us, hus⟩) (self := a) (cell := cell) (cellS := cellS) (fun _ => by rw [u2]; simp) (by rw [u2]; simp) (by rw [u3]) (by rw [u3]) s7 hsel0 hneS (fun q => by rw [q] at g6; cases g6) g7 (tk tyS fS') ⟨{ ci198 := ci198, i198 := i198, fBack := fB }, ⟨hk198, hg198, ha198, hsB⟩, b7⟩ hTK hBelow Yc hO hkO hkindO hfb hfd (fun x => tk tyB (by rw [htB]; rfl)) (fun x => tk tyD (by rw [htD]; rfl)) (by omega) hlo)
    (b := a) (cB := cell.cls) hfound ⟨cell, h1, rfl, by rw [u2]; rfl⟩ hg hsize (Steps.refl _) (argsL := []) (rest := rest) (fun sig q => by rw [show parseMethodDescriptor tFill.desc = some ⟨[], some (.object tN)⟩ from by decide +kernel] at q; rw [← Option.some.inj q]; rfl) hs (Nat.le_refl _) hd (fun vmx hWx => ⟨rfl, hc, hsl, h1, g5⟩)
  dsimp only [Pt.U, Pt.locs, Pt.cells, Pt.slots] at X6 hD6 hL6 hc6 hn6 come
  subst hv6 hL6 hc6 hn6
  refine ⟨T6, _, X6.more (Nat.le_refl _) (Nat.add_le_add_left hn _), ?_, ⟨C6, kc, hD6, by rw [q1]; exact h2, by rw [q1]; exact h3, by rw [q2, u2]; rfl, fun k => by rw [q3]; exact h5 k⟩, ⟨C6, cfM, kM, iM, fM, hD6, m2, m3, by rw [q2]; exact m4, by rw [q2]; exact m5, by rw [q1]; exact m6, (q4 _ mB mD mS).trans m7⟩, fun target q => come.trans q⟩
  intro x hx'
  simp only [List.mem_cons, List.not_mem_nil, or_false] at hx'
  rcases hx' with rfl | rfl | rfl
  · exact List.mem_map.mpr ⟨("backtrace", thO), by simp [Jvm.Free.Exc.sixNames], by simp [Jvm.RoadKit.slotOf, b2]⟩
  · exact List.mem_map.mpr ⟨("depth", "I"), by simp [Jvm.Free.Exc.sixNames], by simp [Jvm.RoadKit.slotOf, d2]⟩
  · exact List.mem_map.mpr ⟨("stackTrace", steD), by simp [Jvm.Free.Exc.sixNames], by simp [Jvm.RoadKit.slotOf, s2]⟩
set_option maxRecDepth 65536
set_option maxHeartbeats 40000000
abbrev kc0 := jdk_30_method_1_code
abbrev kc1 := jdk_31_method_10_code
abbrev kc2 := jdk_32_method_18_code
abbrev kc3 := jdk_32_method_2_code
abbrev kc4 := jdk_32_method_4_code
abbrev kc5 := jdk_42_method_139_code
abbrev kc6 := jdk_42_method_149_code
abbrev kc7 := jdk_42_method_151_code
abbrev kc8 := jdk_42_method_3_code
abbrev kc9 := jdk_42_method_66_code
abbrev kc10 := jdk_43_method_3_code
abbrev kc11 := jdk_43_method_46_code
abbrev kc12 := jdk_52_method_15_code
abbrev kc13 := jdk_52_method_16_code
abbrev kc14 := jdk_52_method_21_code
abbrev kc15 := jdk_59_method_2_code
abbrev kc16 := jdk_78_method_2_code
abbrev kc17 := jdk_78_method_6_code
abbrev kc18 := prog_4_method_2_code
abbrev kc19 := prog_4_method_3_code
abbrev kc20 := prog_4_method_4_code
abbrev kc21 := prog_5_method_1_code
abbrev kc22 := prog_5_method_2_code
abbrev kc23 := prog_5_method_7_code
abbrev kc24 := prog_5_method_8_code
abbrev kc25 := prog_5_method_9_code
theorem d0_0 : DK kc6 0 (.aload_n 0) 1 := by decide +kernel
theorem d0_1 : DK kc6 1 (.invokespecial 1) 3 := by decide +kernel
theorem d0_4 : DK kc6 4 (.iload_n 3) 1 := by decide +kernel
theorem d0_5 : DK kc6 5 (.ifCond .ne 22) 3 := by decide +kernel
theorem d0_8 : DK kc6 8 (.aload_n 0) 1 := by decide +kernel
theorem d0_9 : DK kc6 9 (.ldc 7) 2 := by decide +kernel
theorem own_strW {a0 : Array Value} {Z : State} (hw : HW a0 Z) : ∀ a ∈ Bundle.stringAtoms, a.before a0 Z = true := by
 intro a ha
 simp only [Bundle.stringAtoms, List.mem_cons, List.not_mem_nil, or_false] at ha
 rcases ha with rfl | rfl | rfl | rfl | rfl | rfl | rfl
 ·exact (gw hw 66 rfl)
 ·exact (gw hw 65 rfl)
 ·exact (gw hw 79 rfl)
 ·exact (gw hw 80 rfl)
 ·exact (gw hw 81 rfl)
 ·exact (gw hw 82 rfl)
 ·exact (gw hw 83 rfl)
theorem own_EW {a0 : Array Value} {Z : State} (hw : HW a0 Z) : EW Z a0 consts_1 := (EW.cons (gw hw 78 rfl) (by decide) EW.nil)
theorem d0_11 : DK kc6 11 (.getfield 9) 3 := by decide +kernel
theorem d0_14 : DK kc6 14 (.putfield 9) 3 := by decide +kernel
theorem d0_17 : DK kc6 17 (.aload_n 0) 1 := by decide +kernel
theorem d0_18 : DK kc6 18 (.ldc 7) 2 := by decide +kernel
theorem d0_20 : DK kc6 20 (.getfield 15) 3 := by decide +kernel
theorem d0_23 : DK kc6 23 (.putfield 15) 3 := by decide +kernel
theorem d0_26 : DK kc6 26 .return_ 1 := by decide +kernel
theorem own_pn0 : plainName "java/lang/String" = true := by first | (simp [plainName, overriddenIn]; done) | decide +kernel
theorem own_ef_rs_i4_0 (m : MethodId) (x0 : Addr) (x1 : Addr) : entryFrame m #[(.ref x0), (.ref x1), (.int 0), (.int 0), .null] 6 = mkF m 0 #[vr x0, vr x1, vi 0, vi 0, .val .null, vu] [] := by first | (simp [entryFrame, mkF, argsToLocals, Value.category]; done) | rfl
def Q_rs_i4_0 (Z : State) (a : Addr) (x : Addr) (kx : ClassId) (h0 : Heap) (n0 : Nat) (v : Option Value) (h : Heap) (L : List Loc) : Prop := v = none ∧ Fr n0 L ∧ Keep h0 h [a] ∧ StrOf Z h a []
theorem rs_i4_0 (l : Launch) (Z : State) (a0 : Array Value) (hw : HW a0 Z) (ws : List Jvm.Cond) (a : Addr) (x : Addr) (kx : ClassId) (h0 : Heap) (n0 : Nat) (Z0 : n0 ≤ h0.size) (A_a : Exa Z h0 a "java/lang/String") (F_value_a : Fld Z h0 a "java/lang/String" "value" "[B" .null) (F_coder_a : Fld Z h0 a "java/lang/String" "coder" "B" (.int 0)) (V_x : Arv Z h0 x kx .char 0 [] (.int 0)) (g_a : n0 ≤ a) (ne_x_a : x ≠ a) :
  MetH l Z mN0 jdk_42_method_149_code 6 none ({ frames := 1, cells := 4, slots := 8, locals := 12 } : Room) ws #[(.ref a), (.ref x), (.int 0), (.int 0), .null] h0 (Q_rs_i4_0 Z a x kx h0 n0) := by
 refine own_metH (plainFor_of_name own_pn0) ?_
 intro p e s m below meth c s₁ hret hx hby hlk hml hown hnm X0 e0 hZ hh hC0
 have N0 := Fr.nil n0
 have hS : s.Since s.vm h0.size := (State.WarmedH.refl s).since _
 have hk : h0.size ≤ h0.size := Nat.le_refl _
 replace hZ : Z.Warmed39 (s.setVm s.vm).vm := hZ
 have hR : CHr Z consts_1 s.vm h0 s.vm h0 := CHr.refl hC0
 refine Gz (castTop (own_ef_rs_i4_0 m a x)) ?_
 have KP : Keep h0 h0 [a] := Keep.refl _ _
 show Goes _ _ _ _ _ (fT s₁ m 0 #[vr a, vr x, vi 0, vi 0, .val .null, vu] [])
 have Sf_a : Safe Z consts_1 s.vm h0 a := own_safeNew hZ.alike A_a F_value_a
 refine gA X0 hx hby d0_0 rfl rfl rfl ?_
 obtain ⟨T1, X1, e1, st1⟩ := initO X0 hx hZ hown (gw hw 75 rfl) (gw hw 76 rfl) (gw hw 77 rfl) e0 (g := (mkF m 1 #[vr a, vr x, vi 0, vi 0, .val .null, vu] [(.ref a)])) rfl hml.symm rfl (hb hby d0_1) (by decide) (W := 0) (wz rfl) (by decide)
 refine Gs st1 ?_
 show Goes _ _ _ _ _ (fT T1 m 4 #[vr a, vr x, vi 0, vi 0, .val .null, vu] [])
 refine gN X1 hx hby d0_4 rfl rfl ?_
 refine gu X1 hx hby d0_5 ((if0 _ _).trans (teq (by decide : ((0 : Int32) = (0 : Int32)))).2) ?_
 refine gA X1 hx hby d0_8 rfl rfl rfl ?_
 have lt_a : a < h0.size := A_a.lt
 obtain ⟨c2, T2, h2, kk2, cb2, kc2, X2, e2, E2, hS, hk2, hZ, hown, A_c2, F_coder_c2, F_value_c2, V_cb2, -, -, hC2, hL2, hsf2, st2⟩ := ldcCH X1 hx hZ hown (gw hw 78 rfl) (own_strW hw) e1 hS hk (own_EW hw) (List.mem_of_getElem? (i := 0) rfl) hR.1 (vs := []) (z := (0 : Int32)) ⟨by first | decide | rfl, by first | decide | rfl⟩ (by decide) (by decide) (g := (mkF m 9 #[vr a, vr x, vi 0, vi 0, .val .null, vu] [(.ref a)])) rfl (hb hby d0_9) (n := 0) (by decide) (by decide) (by decide) (by decide)
 replace A_a := A_a.ext E2
 replace F_value_a := F_value_a.ext E2
 replace F_coder_a := F_coder_a.ext E2
 replace KP := KP.ext E2
 replace Sf_a := hC2.safe lt_a Sf_a
 replace hR := hR.trans hC2
 replace Z0 : n0 ≤ h2.size := Nat.le_trans Z0 E2.1
 replace hk := hk2
 have ne_a_cb2 : a ≠ cb2 := (hsf2 _ Sf_a).2
 refine Gs st2 ?_
 show Goes _ _ _ _ _ (fT T2 m 11 #[vr a, vr x, vi 0, vi 0, .val .null, vu] [(.ref c2), (.ref a)])
 obtain ⟨T3, X3, e3, st3⟩ := getF X2 hx hZ hown (host := "") (Or.inl (gw hw 84 rfl)) Via.refl e2 F_value_c2 (g := (mkF m 11 #[vr a, vr x, vi 0, vi 0, .val .null, vu] [(.ref c2), (.ref a)])) rfl rfl (hb hby d0_11)
 refine Gs st3 ?_
 show Goes _ _ _ _ _ (fT T3 m 14 #[vr a, vr x, vi 0, vi 0, .val .null, vu] [(.ref cb2), (.ref a)])
 obtain ⟨T4, h4, X4, e4, W4, st4⟩ := putF X3 hx hZ hown (host := "") (Or.inl (gw hw 84 rfl)) Via.refl e3 F_value_a A_a (Or.inr ⟨(gw hw 80 rfl), rfl, hnm⟩) (gw hw 65 rfl) (ty := (.array .byte)) (by decide) rfl rfl (g := (mkF m 14 #[vr a, vr x, vi 0, vi 0, .val .null, vu] [(.ref cb2), (.ref a)])) rfl rfl (hb hby d0_14)
 have N4 := Fr.snoc X4 N0 g_a
 have Sf_a' := Safe.wr W4 Sf_a hR.1 Sf_a
 replace hR := hR.trans (CHr.wr W4 Sf_a hR.1)
 replace Sf_a := Sf_a'
 replace A_a := A_a.wr W4
 replace F_coder_a := F_coder_a.other W4 (Or.inr (slot_ne (Or.inr (gw hw 81 rfl)) (Or.inr (gw hw 80 rfl)) (by decide) (t := .byte) (t' := (.array .byte)) (by decide) (by decide)))
 replace V_cb2 := V_cb2.other W4 (Ne.symm ne_a_cb2)
 replace KP := KP.wr W4 (Or.inl (List.mem_of_getElem? (i := 0) rfl))
 replace F_value_a := F_value_a.same W4
 replace Z0 : n0 ≤ h4.size := by rw [W4.size]; exact Z0
 replace hk := Nat.le_trans hk (Nat.le_of_eq W4.size.symm)
 refine Gs st4 ?_
 show Goes _ _ _ _ _ (fT T4 m 17 #[vr a, vr x, vi 0, vi 0, .val .null, vu] [])
 refine gA X4 hx hby d0_17 rfl rfl rfl ?_
 have lt_a : a < h4.size := A_a.lt
 obtain ⟨c5, T5, h5, kk5, cb5, kc5, X5, e5, E5, hS, hk5, hZ, hown, A_c5, F_coder_c5, F_value_c5, V_cb5, -, -, hC5, hL5, hsf5, st5⟩ := ldcCH X4 hx hZ hown (gw hw 78 rfl) (own_strW hw) e4 hS hk (own_EW hw) (List.mem_of_getElem? (i := 0) rfl) hR.1 (vs := []) (z := (0 : Int32)) ⟨by first | decide | rfl, by first | decide | rfl⟩ (by decide) (by decide) (g := (mkF m 18 #[vr a, vr x, vi 0, vi 0, .val .null, vu] [(.ref a)])) rfl (hb hby d0_18) (n := 0) (by decide) (by decide) (by decide) (by decide)
 replace A_a := A_a.ext E5
 replace F_value_a := F_value_a.ext E5
 replace F_coder_a := F_coder_a.ext E5
 replace V_cb2 := V_cb2.ext E5
 replace KP := KP.ext E5
 replace Sf_a := hC5.safe lt_a Sf_a
 replace hR := hR.trans hC5
 replace Z0 : n0 ≤ h5.size := Nat.le_trans Z0 E5.1
 replace hk := hk5
 refine Gs st5 ?_
 show Goes _ _ _ _ _ (fT T5 m 20 #[vr a, vr x, vi 0, vi 0, .val .null, vu] [(.ref c5), (.ref a)])
 obtain ⟨T6, X6, e6, st6⟩ := getF X5 hx hZ hown (host := "") (Or.inl (gw hw 85 rfl)) Via.refl e5 F_coder_c5 (g := (mkF m 20 #[vr a, vr x, vi 0, vi 0, .val .null, vu] [(.ref c5), (.ref a)])) rfl rfl (hb hby d0_20)
 refine Gs st6 ?_
 show Goes _ _ _ _ _ (fT T6 m 23 #[vr a, vr x, vi 0, vi 0, .val .null, vu] [(.int 0), (.ref a)])
 obtain ⟨T7, h7, X7, e7, W7, st7⟩ := putFN X6 hx hZ hown (gw hw 85 rfl) Via.refl e6 F_coder_a A_a (Or.inr ⟨(gw hw 81 rfl), rfl, hnm⟩) (gw hw 65 rfl) (ty := .byte) (v' := .int 0) (by decide) rfl rfl (g := (mkF m 23 #[vr a, vr x, vi 0, vi 0, .val .null, vu] [(.int 0), (.ref a)])) rfl rfl (hb hby d0_23)
 have N7 := Fr.snoc X7 N4 g_a
 replace hR := hR.trans (CHr.wr W7 Sf_a hR.1)
 replace A_a := A_a.wr W7
 replace F_value_a := F_value_a.other W7 (Or.inr (slot_ne (Or.inr (gw hw 80 rfl)) (Or.inr (gw hw 81 rfl)) (by decide) (t := (.array .byte)) (t' := .byte) (by decide) (by decide)))
 replace V_cb2 := V_cb2.other W7 (Ne.symm ne_a_cb2)
 replace KP := KP.wr W7 (Or.inl (List.mem_of_getElem? (i := 0) rfl))
 replace F_coder_a := F_coder_a.same W7
 replace Z0 : n0 ≤ h7.size := by rw [W7.size]; exact Z0
 replace hk := Nat.le_trans hk (Nat.le_of_eq W7.size.symm)
 refine Gs st7 ?_
 show Goes _ _ _ _ _ (fT T7 m 26 #[vr a, vr x, vi 0, vi 0, .val .null, vu] [])
 have T_a : StrOf Z h7 a [] := StrOf.latin A_a F_value_a F_coder_a V_cb2 (by simp) rfl rfl (Nat.le_of_ble_eq_true rfl)
 refine Goes.retH X7 hS e7 hk hZ (own_EW hw) hh hR none (fun _ => rfl) hlk (by decide) (by decide) ?_ (fun fs hr => ?_)
 ·rw [e7]; exact ⟨rfl, N7, KP, T_a⟩
 ·exact X7.returnOut hx hret (hb hby d0_26) hr
theorem d1_0 : DK kc8 0 (.aload_n 0) 1 := by decide +kernel
theorem d1_1 : DK kc8 1 (.aload_n 1) 1 := by decide +kernel
theorem d1_2 : DK kc8 2 (.iconst 0) 1 := by decide +kernel
theorem d1_3 : DK kc8 3 (.aload_n 1) 1 := by decide +kernel
theorem d1_4 : DK kc8 4 .arraylength 1 := by decide +kernel
theorem d1_5 : DK kc8 5 .aconst_null 1 := by decide +kernel
theorem d1_6 : DK kc8 6 (.invokespecial 27) 3 := by decide +kernel
theorem own_pd0 : parseMethodDescriptor "([CIILjava/lang/Void;)V" = some ⟨[(.array .char), .int, .int, (.object "java/lang/Void")], none⟩ := by decide +kernel
theorem d1_9 : DK kc8 9 .return_ 1 := by decide +kernel
theorem own_ef_rs_i1_0 (m : MethodId) (x0 : Addr) (x1 : Addr) : entryFrame m #[(.ref x0), (.ref x1)] 2 = mkF m 0 #[vr x0, vr x1] [] := by first | (simp [entryFrame, mkF, argsToLocals, Value.category]; done) | rfl
def Q_rs_i1_0 (Z : State) (a : Addr) (x : Addr) (kx : ClassId) (h0 : Heap) (n0 : Nat) (v : Option Value) (h : Heap) (L : List Loc) : Prop := v = none ∧ Fr n0 L ∧ Keep h0 h [a] ∧ StrOf Z h a []
theorem rs_i1_0 (l : Launch) (Z : State) (a0 : Array Value) (hw : HW a0 Z) (ws : List Jvm.Cond) (a : Addr) (x : Addr) (kx : ClassId) (h0 : Heap) (n0 : Nat) (Z0 : n0 ≤ h0.size) (A_a : Exa Z h0 a "java/lang/String") (F_value_a : Fld Z h0 a "java/lang/String" "value" "[B" .null) (F_coder_a : Fld Z h0 a "java/lang/String" "coder" "B" (.int 0)) (V_x : Arv Z h0 x kx .char 0 [] (.int 0)) (g_a : n0 ≤ a) (ne_x_a : x ≠ a) :
  MetH l Z mN1 jdk_42_method_3_code 2 none ({ frames := 2, cells := 4, slots := 8, locals := 29 } : Room) ws #[(.ref a), (.ref x)] h0 (Q_rs_i1_0 Z a x kx h0 n0) := by
 refine own_metH (plainFor_of_name own_pn0) ?_
 intro p e s m below meth c s₁ hret hx hby hlk hml hown hnm X0 e0 hZ hh hC0
 have N0 := Fr.nil n0
 have hS : s.Since s.vm h0.size := (State.WarmedH.refl s).since _
 have hk : h0.size ≤ h0.size := Nat.le_refl _
 replace hZ : Z.Warmed39 (s.setVm s.vm).vm := hZ
 have hR : CHr Z consts_1 s.vm h0 s.vm h0 := CHr.refl hC0
 refine Gz (castTop (own_ef_rs_i1_0 m a x)) ?_
 have KP : Keep h0 h0 [a] := Keep.refl _ _
 show Goes _ _ _ _ _ (fT s₁ m 0 #[vr a, vr x] [])
 refine gA X0 hx hby d1_0 rfl rfl rfl ?_
 refine gA X0 hx hby d1_1 rfl rfl rfl ?_
 refine gC X0 hx hby d1_2 ?_
 refine gA X0 hx hby d1_3 rfl rfl rfl ?_
 obtain ⟨cl1, Ar1, -, S1, N1z, -, -⟩ := id V_x
 refine Gs (fun _ tk => X0.arraylength hx (by rw [e0]; exact Ar1.1) (State.isArrayOf_alike hZ.alike Ar1.2.1) (g := (mkF m 4 #[vr a, vr x] [(.ref x), (.int 0), (.ref x), (.ref a)])) rfl rfl (hb hby d1_4) _ tk) ?_
 rw [len_of S1 N1z]
 show Goes _ _ _ _ _ (fT s₁ m 5 #[vr a, vr x] [(.int 0), (.int 0), (.ref x), (.ref a)])
 refine Gz (XS.aconstNull X0.here hx rfl (hb hby d1_5)) ?_
 obtain ⟨_, _, ⟨T2, L2, k2, n2⟩, -, X2, hS2, gr2, ⟨Lc2, hQ2, l2, y2, z2, hC2⟩, st2⟩ := X0.specialBackS hx (y := mN0) rfl hown (gz hZ hw 71 rfl) (gz hZ hw 72 rfl) (gz hZ hw 74 rfl) (by decide) (backOfSH (W := 0) (rs_i4_0 l Z a0 hw [] a x kx h0 n0 Z0 A_a F_value_a F_coder_a V_x g_a ne_x_a) hZ (gw hw 74 rfl) (gw hw 66 rfl) (by decide) (by decide) (own_EW hw) hR.1) (g := (mkF m 6 #[vr a, vr x] [.null, (.int 0), (.int 0), (.ref x), (.ref a)])) rfl hml.symm (Steps.refl _) (a := a) (argsL := [(.ref x), (.int 0), (.int 0), .null]) (rest := []) (lenOf own_pd0 rfl) rfl (wz rfl) (hb hby d1_6) (fun _ _ => ⟨rfl, e0, (by decide : 0 + 4 ≤ _), (by decide : 0 + 8 ≤ _)⟩)
 dsimp only [Pt.U, Pt.locs, Pt.cells, Pt.slots] at X2 l2 y2 z2 st2 hQ2 hS2 gr2 hC2
 subst l2 y2 z2
 obtain ⟨X2, hS, hZ, hown⟩ := rebS hS hk X2 hS2 (by have q := gr2; rw [e0] at q; exact q) hZ hown
 replace hk : T2.heap.size ≤ T2.heap.size := Nat.le_refl _
 obtain ⟨rfl, N2q, K2, T_a_2'⟩ := hQ2
 have N2 := Fr.app N0 N2q
 replace hR := hR.trans hC2
 replace KP := KP.trans K2 (allS (Or.inl (List.mem_of_getElem? (i := 0) rfl)) all0)
 replace Z0 := Nat.le_trans Z0 K2.1
 have T_a := T_a_2'
 refine Gs (fun _ tk => st2.trans tk) ?_
 show Goes _ _ _ _ _ (fT T2 m 9 #[vr a, vr x] [])
 refine Goes.retH X2 hS rfl hk hZ (own_EW hw) hh hR none (fun _ => rfl) hlk (by decide) (by decide) ?_ (fun fs hr => ?_)
 ·exact ⟨rfl, N2, KP, T_a⟩
 ·exact X2.returnOut hx hret (hb hby d1_9) hr
theorem d2_0 : DK kc14 0 (.iconst 0) 1 := by decide +kernel
theorem d2_1 : DK kc14 1 (.istore 5) 2 := by decide +kernel
theorem d2_3 : DK kc14 3 (.iload 5) 2 := by decide +kernel
theorem d2_5 : DK kc14 5 (.iload 4) 2 := by decide +kernel
theorem d2_7 : DK kc14 7 (.if_icmp .ge 37) 3 := by decide +kernel
theorem d2_10 : DK kc14 10 (.aload_n 0) 1 := by decide +kernel
theorem d2_11 : DK kc14 11 (.iload_n 1) 1 := by decide +kernel
theorem d2_12 : DK kc14 12 .caload 1 := by decide +kernel
theorem d2_13 : DK kc14 13 (.istore 6) 2 := by decide +kernel
theorem d2_15 : DK kc14 15 (.iload 6) 2 := by decide +kernel
theorem d2_17 : DK kc14 17 (.sipush 255) 3 := by decide +kernel
theorem d2_20 : DK kc14 20 (.if_icmp .le 6) 3 := by decide +kernel
theorem d2_26 : DK kc14 26 (.aload_n 2) 1 := by decide +kernel
theorem d2_27 : DK kc14 27 (.iload_n 3) 1 := by decide +kernel
theorem d2_28 : DK kc14 28 (.iload 6) 2 := by decide +kernel
theorem d2_30 : DK kc14 30 .i2b 1 := by decide +kernel
theorem d2_31 : DK kc14 31 .bastore 1 := by decide +kernel
theorem d2_32 : DK kc14 32 (.iinc 1 1) 3 := by decide +kernel
theorem d2_35 : DK kc14 35 (.iinc 3 1) 3 := by decide +kernel
theorem d2_38 : DK kc14 38 (.iinc 5 1) 3 := by decide +kernel
theorem d2_41 : DK kc14 41 (.goto (-38)) 3 := by decide +kernel
theorem d2_44 : DK kc14 44 (.iload 4) 2 := by decide +kernel
theorem d2_46 : DK kc14 46 .ireturn 1 := by decide +kernel
theorem own_pn1 : plainName "java/lang/StringUTF16" = true := by first | (simp [plainName, overriddenIn]; done) | decide +kernel
theorem own_ef_rs_c5_2 (m : MethodId) (x0 : Addr) (x2 : Addr) : entryFrame m #[(.ref x0), (.int 0), (.ref x2), (.int 0), (.int 2)] 7 = mkF m 0 #[vr x0, vi 0, vr x2, vi 0, vi 2, vu, vu] [] := by first | (simp [entryFrame, mkF, argsToLocals, Value.category]; done) | rfl
def Q_rs_c5_2 (Z : State) (x : Addr) (kx : ClassId) (y : Addr) (ky : ClassId) (c0 : Int32) (c1 : Int32) (h0 : Heap) (n0 : Nat) (v : Option Value) (h : Heap) (L : List Loc) : Prop := v = some (.int 2) ∧ Fr n0 L ∧ Keep h0 h [y] ∧ Arv Z h y ky .byte 2 [(.int (lo8 c0)), (.int (lo8 c1))] (.int 0)
theorem rs_c5_2 (l : Launch) (Z : State) (a0 : Array Value) (hw : HW a0 Z) (ws : List Jvm.Cond) (x : Addr) (kx : ClassId) (y : Addr) (ky : ClassId) (c0 : Int32) (c1 : Int32) (h0 : Heap) (n0 : Nat) (Z0 : n0 ≤ h0.size) (V_x : Arv Z h0 x kx .char 2 [(.int c0), (.int c1)] (.int 0)) (V_y : Arv Z h0 y ky .byte 2 [(.int 0), (.int 0)] (.int 0)) (g_y : n0 ≤ y) (ne_x_y : x ≠ y) (hL_c0 : Lat c0) (hL_c1 : Lat c1) :
  Met l Z mN2 jdk_52_method_21_code 7 (some .int) ({ frames := 0, cells := 0, slots := 0, locals := 0 } : Room) ws #[(.ref x), (.int 0), (.ref y), (.int 0), (.int 2)] h0 (Q_rs_c5_2 Z x kx y ky c0 c1 h0 n0) := by
 refine own_met (plainFor_of_name own_pn1) ?_
 intro p e s m below meth c s₁ hret hx hby hlk hml hown hnm X0 e0 hZ hh
 have N0 := Fr.nil n0
 refine Gz (castTop (own_ef_rs_c5_2 m x y)) ?_
 have KP : Keep h0 h0 [y] := Keep.refl _ _
 show Goes _ _ _ _ _ (fT s₁ m 0 #[vr x, vi 0, vr y, vi 0, vi 2, vu, vu] [])
 have hn_c0 := own_latN hL_c0
 have hn_c1 := own_latN hL_c1
 refine gC X0 hx hby d2_0 ?_
 refine gS X0 hx hby d2_1 #[vr x, vi 0, vr y, vi 0, vi 2, vi 0, vu] ?_
 refine gI X0 hx hby d2_3 rfl rfl ?_
 refine gI X0 hx hby d2_5 rfl rfl ?_
 refine gU X0 hx hby d2_7 (tlt (by decide : ((0 : Int32) < (2 : Int32)))).2.1 ?_
 refine gA X0 hx hby d2_10 rfl rfl rfl ?_
 show Goes _ _ _ _ _ (fT s₁ m 11 #[vr x, vi 0, vr y, vi 0, vi 2, vi 0, vu] [(.ref x)])
 refine gN X0 hx hby d2_11 rfl rfl ?_
 obtain ⟨cl1, Ar1, -, S1, N1z, H1, -⟩ := id V_x
 have hin1 : ¬ ((0 : Int32) < 0 ∨ cl1.slots.size ≤ ((0 : Int32)).toNatClampNeg) := inb_of S1 ⟨by decide, by decide⟩
 have hat1 : cl1.slots[((0 : Int32)).toNatClampNeg]? = some (.int c0) := Has.at H1 hin1 rfl
 refine Gs (fun _ tk => X0.caload hx (j := (0 : Int32)) (v := (.int c0)) (by rw [e0]; exact Ar1.1) (State.isArrayOf_alike hZ.alike Ar1.2.1) Ar1.2.2 hin1 hat1 (g := (mkF m 12 #[vr x, vi 0, vr y, vi 0, vi 2, vi 0, vu] [(.int 0), (.ref x)])) rfl rfl (hb hby d2_12) _ tk) ?_
 show Goes _ _ _ _ _ (fT s₁ m 13 #[vr x, vi 0, vr y, vi 0, vi 2, vi 0, vu] [(.int c0)])
 refine gS X0 hx hby d2_13 #[vr x, vi 0, vr y, vi 0, vi 2, vi 0, vi c0] ?_
 refine gI X0 hx hby d2_15 rfl rfl ?_
 refine Gz (XS.sipush X0.here hx rfl (hb hby d2_17)) ?_
 refine gY X0 hx hby d2_20 20 26 (flt hn_c0).2.2.2 ?_
 refine gA X0 hx hby d2_26 rfl rfl rfl ?_
 refine gN X0 hx hby d2_27 rfl rfl ?_
 show Goes _ _ _ _ _ (fT s₁ m 28 #[vr x, vi 0, vr y, vi 0, vi 2, vi 0, vi c0] [(.int 0), (.ref y)])
 refine gI X0 hx hby d2_28 rfl rfl ?_
 show Goes _ _ _ _ _ (fT s₁ m 30 #[vr x, vi 0, vr y, vi 0, vi 2, vi 0, vi c0] [(.int c0), (.int 0), (.ref y)])
 refine Gz (XS.i2b X0.here hx rfl (hb hby d2_30) rfl) ?_
 show Goes _ _ _ _ _ (fT s₁ m 31 #[vr x, vi 0, vr y, vi 0, vi 2, vi 0, vi c0] [(.int (c0.toInt8.toInt32)), (.int 0), (.ref y)])
 obtain ⟨cl2, Ar2, q2, S2, N2z, H2, G2⟩ := V_y
 have hin2 : ¬ ((0 : Int32) < 0 ∨ cl2.slots.size ≤ ((0 : Int32)).toNatClampNeg) := inb_of S2 ⟨by decide, by decide⟩
 obtain ⟨T2, h2, X2, e2, W2, st2⟩ := stB X0 hx hZ e0 Ar2 (j := (0 : Int32)) hin2 (g := (mkF m 31 #[vr x, vi 0, vr y, vi 0, vi 2, vi 0, vi c0] [(.int (c0.toInt8.toInt32)), (.int 0), (.ref y)])) rfl rfl (hb hby d2_31)
 have Vn2 := Arv.set Ar2 q2 S2 N2z H2 G2 (fits_nar_byte _) W2 0 rfl (Nat.le_of_ble_eq_true rfl)
 have N2 := Fr.snoc X2 N0 g_y
 replace V_x := V_x.other W2 ne_x_y
 replace KP := KP.wr W2 (Or.inl (List.mem_of_getElem? (i := 0) rfl))
 have V_y : Arv Z h2 y ky .byte 2 [(.int (lo8 c0)), (.int 0)] (.int 0) := by have q := Vn2; rw [own_nb2] at q; exact q
 replace Z0 : n0 ≤ h2.size := by rw [W2.size]; exact Z0
 refine Gs st2 ?_
 show Goes _ _ _ _ _ (fT T2 m 32 #[vr x, vi 0, vr y, vi 0, vi 2, vi 0, vi c0] [])
 refine Gz (XS.iinc X2.here hx rfl (hb hby d2_32) rfl (l' := #[vr x, vi ((0 : Int32) + (1 : Int32)), vr y, vi 0, vi 2, vi 0, vi c0]) rfl) ?_
 show Goes _ _ _ _ _ (fT T2 m 35 #[vr x, vi 1, vr y, vi 0, vi 2, vi 0, vi c0] [])
 refine Gz (XS.iinc X2.here hx rfl (hb hby d2_35) rfl (l' := #[vr x, vi 1, vr y, vi ((0 : Int32) + (1 : Int32)), vi 2, vi 0, vi c0]) rfl) ?_
 show Goes _ _ _ _ _ (fT T2 m 38 #[vr x, vi 1, vr y, vi 1, vi 2, vi 0, vi c0] [])
 refine Gz (XS.iinc X2.here hx rfl (hb hby d2_38) rfl (l' := #[vr x, vi 1, vr y, vi 1, vi 2, vi ((0 : Int32) + (1 : Int32)), vi c0]) rfl) ?_
 show Goes _ _ _ _ _ (fT T2 m 41 #[vr x, vi 1, vr y, vi 1, vi 2, vi 1, vi c0] [])
 refine gG X2 hx hby d2_41 41 3 ?_
 refine gI X2 hx hby d2_3 rfl rfl ?_
 refine gI X2 hx hby d2_5 rfl rfl ?_
 refine gU X2 hx hby d2_7 (tlt (by decide : ((1 : Int32) < (2 : Int32)))).2.1 ?_
 refine gA X2 hx hby d2_10 rfl rfl rfl ?_
 refine gN X2 hx hby d2_11 rfl rfl ?_
 show Goes _ _ _ _ _ (fT T2 m 12 #[vr x, vi 1, vr y, vi 1, vi 2, vi 1, vi c0] [(.int 1), (.ref x)])
 obtain ⟨cl3, Ar3, -, S3, N3z, H3, -⟩ := id V_x
 have hin3 : ¬ ((1 : Int32) < 0 ∨ cl3.slots.size ≤ ((1 : Int32)).toNatClampNeg) := inb_of S3 ⟨by decide, by decide⟩
 have hat3 : cl3.slots[((1 : Int32)).toNatClampNeg]? = some (.int c1) := Has.at H3 hin3 rfl
 refine Gs (fun _ tk => X2.caload hx (j := (1 : Int32)) (v := (.int c1)) (by rw [e2]; exact Ar3.1) (State.isArrayOf_alike hZ.alike Ar3.2.1) Ar3.2.2 hin3 hat3 (g := (mkF m 12 #[vr x, vi 1, vr y, vi 1, vi 2, vi 1, vi c0] [(.int 1), (.ref x)])) rfl rfl (hb hby d2_12) _ tk) ?_
 show Goes _ _ _ _ _ (fT T2 m 13 #[vr x, vi 1, vr y, vi 1, vi 2, vi 1, vi c0] [(.int c1)])
 refine gS X2 hx hby d2_13 #[vr x, vi 1, vr y, vi 1, vi 2, vi 1, vi c1] ?_
 refine gI X2 hx hby d2_15 rfl rfl ?_
 refine Gz (XS.sipush X2.here hx rfl (hb hby d2_17)) ?_
 refine gY X2 hx hby d2_20 20 26 (flt hn_c1).2.2.2 ?_
 refine gA X2 hx hby d2_26 rfl rfl rfl ?_
 refine gN X2 hx hby d2_27 rfl rfl ?_
 show Goes _ _ _ _ _ (fT T2 m 28 #[vr x, vi 1, vr y, vi 1, vi 2, vi 1, vi c1] [(.int 1), (.ref y)])
 refine gI X2 hx hby d2_28 rfl rfl ?_
 show Goes _ _ _ _ _ (fT T2 m 30 #[vr x, vi 1, vr y, vi 1, vi 2, vi 1, vi c1] [(.int c1), (.int 1), (.ref y)])
 refine Gz (XS.i2b X2.here hx rfl (hb hby d2_30) rfl) ?_
 show Goes _ _ _ _ _ (fT T2 m 31 #[vr x, vi 1, vr y, vi 1, vi 2, vi 1, vi c1] [(.int (c1.toInt8.toInt32)), (.int 1), (.ref y)])
 obtain ⟨cl4, Ar4, q4, S4, N4z, H4, G4⟩ := V_y
 have hin4 : ¬ ((1 : Int32) < 0 ∨ cl4.slots.size ≤ ((1 : Int32)).toNatClampNeg) := inb_of S4 ⟨by decide, by decide⟩
 obtain ⟨T4, h4, X4, e4, W4, st4⟩ := stB X2 hx hZ e2 Ar4 (j := (1 : Int32)) hin4 (g := (mkF m 31 #[vr x, vi 1, vr y, vi 1, vi 2, vi 1, vi c1] [(.int (c1.toInt8.toInt32)), (.int 1), (.ref y)])) rfl rfl (hb hby d2_31)
 have Vn4 := Arv.set Ar4 q4 S4 N4z H4 G4 (fits_nar_byte _) W4 1 rfl (Nat.le_of_ble_eq_true rfl)
 have N4 := Fr.snoc X4 N2 g_y
 replace KP := KP.wr W4 (Or.inl (List.mem_of_getElem? (i := 0) rfl))
 have V_y : Arv Z h4 y ky .byte 2 [(.int (lo8 c0)), (.int (lo8 c1))] (.int 0) := by have q := Vn4; rw [own_nb2] at q; exact q
 replace Z0 : n0 ≤ h4.size := by rw [W4.size]; exact Z0
 refine Gs st4 ?_
 show Goes _ _ _ _ _ (fT T4 m 32 #[vr x, vi 1, vr y, vi 1, vi 2, vi 1, vi c1] [])
 refine Gz (XS.iinc X4.here hx rfl (hb hby d2_32) rfl (l' := #[vr x, vi ((1 : Int32) + (1 : Int32)), vr y, vi 1, vi 2, vi 1, vi c1]) rfl) ?_
 show Goes _ _ _ _ _ (fT T4 m 35 #[vr x, vi 2, vr y, vi 1, vi 2, vi 1, vi c1] [])
 refine Gz (XS.iinc X4.here hx rfl (hb hby d2_35) rfl (l' := #[vr x, vi 2, vr y, vi ((1 : Int32) + (1 : Int32)), vi 2, vi 1, vi c1]) rfl) ?_
 show Goes _ _ _ _ _ (fT T4 m 38 #[vr x, vi 2, vr y, vi 2, vi 2, vi 1, vi c1] [])
 refine Gz (XS.iinc X4.here hx rfl (hb hby d2_38) rfl (l' := #[vr x, vi 2, vr y, vi 2, vi 2, vi ((1 : Int32) + (1 : Int32)), vi c1]) rfl) ?_
 show Goes _ _ _ _ _ (fT T4 m 41 #[vr x, vi 2, vr y, vi 2, vi 2, vi 2, vi c1] [])
 refine gG X4 hx hby d2_41 41 3 ?_
 refine gI X4 hx hby d2_3 rfl rfl ?_
 refine gI X4 hx hby d2_5 rfl rfl ?_
 refine gY X4 hx hby d2_7 7 44 (flt (by decide : ¬ ((2 : Int32) < (2 : Int32)))).2.1 ?_
 refine gI X4 hx hby d2_44 rfl rfl ?_
 refine Goes.ret X4 (some (.int 2)) (fun h => by rw [hret] at h; cases h) hlk (by decide) (by decide) ?_ (fun fs hr => ?_)
 ·rw [e4]; exact ⟨rfl, N4, KP, V_y⟩
 ·exact retI X4 hx hret (hb hby d2_46) hr
theorem d3_0 : DK kc13 0 (.iload_n 2) 1 := by decide +kernel
theorem d3_1 : DK kc13 1 (.newarray .byte) 2 := by decide +kernel
theorem d3_3 : DK kc13 3 (.astore_n 3) 1 := by decide +kernel
theorem d3_4 : DK kc13 4 (.aload_n 0) 1 := by decide +kernel
theorem d3_5 : DK kc13 5 (.iload_n 1) 1 := by decide +kernel
theorem d3_6 : DK kc13 6 (.aload_n 3) 1 := by decide +kernel
theorem d3_7 : DK kc13 7 (.iconst 0) 1 := by decide +kernel
theorem d3_8 : DK kc13 8 (.iload_n 2) 1 := by decide +kernel
theorem d3_9 : DK kc13 9 (.invokestatic 115) 3 := by decide +kernel
theorem own_pd1 : parseMethodDescriptor "([CI[BII)I" = some ⟨[(.array .char), .int, (.array .byte), .int, .int], some .int⟩ := by decide +kernel
theorem d3_12 : DK kc13 12 (.istore 4) 2 := by decide +kernel
theorem d3_14 : DK kc13 14 (.iload 4) 2 := by decide +kernel
theorem d3_16 : DK kc13 16 (.iload_n 2) 1 := by decide +kernel
theorem d3_17 : DK kc13 17 (.if_icmp .eq 40) 3 := by decide +kernel
theorem d3_57 : DK kc13 57 (.aload_n 3) 1 := by decide +kernel
theorem d3_58 : DK kc13 58 .areturn 1 := by decide +kernel
theorem own_ef_rs_c3_2 (m : MethodId) (x0 : Addr) : entryFrame m #[(.ref x0), (.int 0), (.int 2)] 6 = mkF m 0 #[vr x0, vi 0, vi 2, vu, vu, vu] [] := by first | (simp [entryFrame, mkF, argsToLocals, Value.category]; done) | rfl
def Q_rs_c3_2 (Z : State) (x : Addr) (kx : ClassId) (c0 : Int32) (c1 : Int32) (h0 : Heap) (n0 : Nat) (v : Option Value) (h : Heap) (L : List Loc) : Prop := ∃ y : Addr, ∃ ky : ClassId, v = some (.ref y) ∧ Fr n0 L ∧ Keep h0 h [] ∧ Arv Z h y ky .byte 2 [(.int (lo8 c0)), (.int (lo8 c1))] (.int 0) ∧ n0 ≤ y ∧ h0.size ≤ y
theorem rs_c3_2 (l : Launch) (Z : State) (a0 : Array Value) (hw : HW a0 Z) (ws : List Jvm.Cond) (x : Addr) (kx : ClassId) (c0 : Int32) (c1 : Int32) (h0 : Heap) (n0 : Nat) (Z0 : n0 ≤ h0.size) (V_x : Arv Z h0 x kx .char 2 [(.int c0), (.int c1)] (.int 0)) (hL_c0 : Lat c0) (hL_c1 : Lat c1) :
  Met l Z mN3 jdk_52_method_16_code 6 (some (.array .byte)) ({ frames := 1, cells := 1, slots := 2, locals := 18 } : Room) ws #[(.ref x), (.int 0), (.int 2)] h0 (Q_rs_c3_2 Z x kx c0 c1 h0 n0) := by
 refine own_met (plainFor_of_name own_pn1) ?_
 intro p e s m below meth c s₁ hret hx hby hlk hml hown hnm X0 e0 hZ hh
 have N0 := Fr.nil n0
 refine Gz (castTop (own_ef_rs_c3_2 m x)) ?_
 have KP : Keep h0 h0 [] := Keep.refl _ _
 show Goes _ _ _ _ _ (fT s₁ m 0 #[vr x, vi 0, vi 2, vu, vu, vu] [])
 refine gN X0 hx hby d3_0 rfl rfl ?_
 obtain ⟨T1, h1, k1, X1, e1, E1, A1, st1⟩ := newP X0 hx hZ (gw hw 79 rfl) e0 (g := (mkF m 1 #[vr x, vi 0, vi 2, vu, vu, vu] [(.int 2)])) rfl (hb hby d3_1) rfl (by decide) (cap := 2) (by decide) (by decide) (by decide) (by decide)
 obtain ⟨b1, gq1⟩ : ∃ z, z = h0.size := ⟨_, rfl⟩
 rw [← gq1] at A1 st1
 have g_b1 : n0 ≤ b1 := by rw [gq1]; exact Z0
 have sz_b1 : h0.size ≤ b1 := by rw [gq1]; exact KP.1
 have ne_x_b1 : x ≠ b1 := by rw [gq1]; exact Nat.ne_of_lt V_x.lt
 replace V_x := V_x.ext E1
 replace KP := KP.ext E1
 replace Z0 : n0 ≤ h1.size := Nat.le_trans Z0 E1.1
 have V_b1 : Arv Z h1 b1 k1 .byte 2 [(.int 0), (.int 0)] (.int 0) := (Arv.new A1 (by decide)).pad (pad_rep [] (.int 0) 2)
 refine Gs st1 ?_
 show Goes _ _ _ _ _ (fT T1 m 3 #[vr x, vi 0, vi 2, vu, vu, vu] [(.ref b1)])
 refine Gz (XS.astoreN X1.here hx rfl (hb hby d3_3) rfl rfl (l' := #[vr x, vi 0, vi 2, vr b1, vu, vu]) rfl) ?_
 refine gA X1 hx hby d3_4 rfl rfl rfl ?_
 refine gN X1 hx hby d3_5 rfl rfl ?_
 refine gA X1 hx hby d3_6 rfl rfl rfl ?_
 refine gC X1 hx hby d3_7 ?_
 refine gN X1 hx hby d3_8 rfl rfl ?_
 show Goes _ _ _ _ _ (fT T1 m 9 #[vr x, vi 0, vi 2, vr b1, vu, vu] [(.int 2), (.int 0), (.ref b1), (.int 0), (.ref x)])
 refine cSg X1 hx hZ hw hown hby hml e1 mN2 251 252 253 249 0 (rs_c5_2 l Z a0 hw [] x kx b1 k1 c0 c1 h1 n0 Z0 V_x V_b1 g_b1 ne_x_b1 hL_c0 hL_c1) d3_9 (lenOf own_pd1 rfl) (fun _ T2 L2 X2 hQ2 => ?_)
 obtain ⟨rfl, N2q, K2, V_b1_2'⟩ := hQ2
 have N2 := Fr.app N0 N2q
 replace KP := KP.trans K2 (allS (Or.inr sz_b1) all0)
 replace Z0 := Nat.le_trans Z0 K2.1
 have V_b1 := V_b1_2'
 show Goes _ _ _ _ _ (fT T2 m 12 #[vr x, vi 0, vi 2, vr b1, vu, vu] [(.int 2)])
 refine gS X2 hx hby d3_12 #[vr x, vi 0, vi 2, vr b1, vi 2, vu] ?_
 refine gI X2 hx hby d3_14 rfl rfl ?_
 refine gN X2 hx hby d3_16 rfl rfl ?_
 refine gY X2 hx hby d3_17 17 57 (teq (by decide : ((2 : Int32) = (2 : Int32)))).1 ?_
 refine gA X2 hx hby d3_57 rfl rfl rfl ?_
 refine Goes.ret X2 (some (.ref b1)) (fun h => by rw [hret] at h; cases h) hlk (by decide) (by decide) ?_ (fun fs hr => ?_)
 ·exact ⟨b1, k1, rfl, N2, KP, V_b1, g_b1, sz_b1⟩
 ·exact own_retA X2 hx hret rfl rfl (hb hby d3_58) hr
theorem d4_0 : DK kc12 0 (.iload_n 1) 1 := by decide +kernel
theorem d4_1 : DK kc12 1 (.aload_n 0) 1 := by decide +kernel
theorem d4_2 : DK kc12 2 .arraylength 1 := by decide +kernel
theorem d4_3 : DK kc12 3 .isub 1 := by decide +kernel
theorem d4_4 : DK kc12 4 (.bipush 31) 2 := by decide +kernel
theorem d4_6 : DK kc12 6 .iushr 1 := by decide +kernel
theorem d4_7 : DK kc12 7 .i2b 1 := by decide +kernel
theorem d4_8 : DK kc12 8 .ireturn 1 := by decide +kernel
theorem own_ef_rs_cf_2 (m : MethodId) (x0 : Addr) : entryFrame m #[(.ref x0), (.int 2)] 2 = mkF m 0 #[vr x0, vi 2] [] := by first | (simp [entryFrame, mkF, argsToLocals, Value.category]; done) | rfl
def Q_rs_cf_2 (Z : State) (y : Addr) (ky : ClassId) (vs : List Value) (h0 : Heap) (n0 : Nat) (v : Option Value) (h : Heap) (L : List Loc) : Prop := v = some (.int 0) ∧ Fr n0 L ∧ h = h0
theorem rs_cf_2 (l : Launch) (Z : State) (a0 : Array Value) (hw : HW a0 Z) (ws : List Jvm.Cond) (y : Addr) (ky : ClassId) (vs : List Value) (h0 : Heap) (n0 : Nat) (Z0 : n0 ≤ h0.size) (V_y : Arv Z h0 y ky .byte 2 vs (.int 0)) :
  Met l Z mN4 jdk_52_method_15_code 2 (some .byte) ({ frames := 0, cells := 0, slots := 0, locals := 0 } : Room) ws #[(.ref y), (.int 2)] h0 (Q_rs_cf_2 Z y ky vs h0 n0) := by
 refine own_met (plainFor_of_name own_pn1) ?_
 intro p e s m below meth c s₁ hret hx hby hlk hml hown hnm X0 e0 hZ hh
 have N0 := Fr.nil n0
 refine Gz (castTop (own_ef_rs_cf_2 m y)) ?_
 show Goes _ _ _ _ _ (fT s₁ m 0 #[vr y, vi 2] [])
 refine gN X0 hx hby d4_0 rfl rfl ?_
 refine gA X0 hx hby d4_1 rfl rfl rfl ?_
 obtain ⟨cl1, Ar1, -, S1, N1z, -, -⟩ := id V_y
 refine Gs (fun _ tk => X0.arraylength hx (by rw [e0]; exact Ar1.1) (State.isArrayOf_alike hZ.alike Ar1.2.1) (g := (mkF m 2 #[vr y, vi 2] [(.ref y), (.int 2)])) rfl rfl (hb hby d4_2) _ tk) ?_
 rw [len_of S1 N1z]
 show Goes _ _ _ _ _ (fT s₁ m 3 #[vr y, vi 2] [(.int 2), (.int 2)])
 refine Gz (XS.isub X0.here hx rfl (hb hby d4_3) rfl) ?_
 show Goes _ _ _ _ _ (fT s₁ m 4 #[vr y, vi 2] [(.int 0)])
 refine gB X0 hx hby d4_4 ?_
 show Goes _ _ _ _ _ (fT s₁ m 6 #[vr y, vi 2] [(.int 31), (.int 0)])
 refine Gz (XS.iushr X0.here hx rfl (hb hby d4_6) rfl) ?_
 rw [show (((0 : Int32).toUInt32 >>> ((31 : Int32) &&& 31).toUInt32).toInt32) = (0 : Int32) from by decide]
 show Goes _ _ _ _ _ (fT s₁ m 7 #[vr y, vi 2] [(.int 0)])
 refine Gz (XS.i2b X0.here hx rfl (hb hby d4_7) rfl) ?_
 rw [show ((0 : Int32).toInt8.toInt32) = (0 : Int32) from by decide]
 show Goes _ _ _ _ _ (fT s₁ m 8 #[vr y, vi 2] [(.int 0)])
 refine Goes.ret X0 (some (.int 0)) (fun h => by rw [hret] at h; cases h) hlk (by decide) (by decide) ?_ (fun fs hr => ?_)
 ·exact ⟨rfl, N0, e0⟩
 ·exact own_retN X0 hx (t := .byte) hret (by simp) rfl (hb hby d4_8) hr
theorem d0_27 : DK kc6 27 (.getstatic 38) 3 := by decide +kernel
theorem d0_30 : DK kc6 30 (.ifCond .eq 28) 3 := by decide +kernel
theorem d0_33 : DK kc6 33 (.aload_n 1) 1 := by decide +kernel
theorem d0_34 : DK kc6 34 (.iload_n 2) 1 := by decide +kernel
theorem d0_35 : DK kc6 35 (.iload_n 3) 1 := by decide +kernel
theorem d0_36 : DK kc6 36 (.invokestatic 177) 3 := by decide +kernel
theorem own_pd2 : parseMethodDescriptor "([CII)[B" = some ⟨[(.array .char), .int, .int], some (.array .byte)⟩ := by decide +kernel
theorem d0_39 : DK kc6 39 (.astore 5) 2 := by decide +kernel
theorem d0_41 : DK kc6 41 (.aload_n 0) 1 := by decide +kernel
theorem d0_42 : DK kc6 42 (.aload 5) 2 := by decide +kernel
theorem d0_44 : DK kc6 44 (.iload_n 3) 1 := by decide +kernel
theorem d0_45 : DK kc6 45 (.invokestatic 47) 3 := by decide +kernel
theorem own_pd3 : parseMethodDescriptor "([BI)B" = some ⟨[(.array .byte), .int], some .byte⟩ := by decide +kernel
theorem d0_48 : DK kc6 48 (.putfield 15) 3 := by decide +kernel
theorem d0_51 : DK kc6 51 (.aload_n 0) 1 := by decide +kernel
theorem d0_52 : DK kc6 52 (.aload 5) 2 := by decide +kernel
theorem d0_54 : DK kc6 54 (.putfield 9) 3 := by decide +kernel
theorem d0_57 : DK kc6 57 .return_ 1 := by decide +kernel
theorem own_ef_rs_i4_2 (m : MethodId) (x0 : Addr) (x1 : Addr) : entryFrame m #[(.ref x0), (.ref x1), (.int 0), (.int 2), .null] 6 = mkF m 0 #[vr x0, vr x1, vi 0, vi 2, .val .null, vu] [] := by first | (simp [entryFrame, mkF, argsToLocals, Value.category]; done) | rfl
def Q_rs_i4_2 (Z : State) (a : Addr) (x : Addr) (kx : ClassId) (c0 : Int32) (c1 : Int32) (cz : Int32) (h0 : Heap) (n0 : Nat) (v : Option Value) (h : Heap) (L : List Loc) : Prop := v = none ∧ Fr n0 L ∧ Keep h0 h [a] ∧ StrOf Z h a [c0, c1]
theorem rs_i4_2 (l : Launch) (Z : State) (a0 : Array Value) (hw : HW a0 Z) (ws : List Jvm.Cond) (a : Addr) (x : Addr) (kx : ClassId) (c0 : Int32) (c1 : Int32) (cz : Int32) (h0 : Heap) (n0 : Nat) (Z0 : n0 ≤ h0.size) (A_a : Exa Z h0 a "java/lang/String") (F_value_a : Fld Z h0 a "java/lang/String" "value" "[B" .null) (F_coder_a : Fld Z h0 a "java/lang/String" "coder" "B" (.int 0)) (V_x : Arv Z h0 x kx .char 2 [(.int c0), (.int c1)] (.int 0)) (g_a : n0 ≤ a) (ne_x_a : x ≠ a) (sgC : Sta Z h0 "java/lang/String" "COMPACT_STRINGS" "Z" (.int cz)) (hcz : ¬ (cz = 0)) (hL_c0 : Lat c0) (hL_c1 : Lat c1) :
  Met l Z mN0 jdk_42_method_149_code 6 none ({ frames := 2, cells := 1, slots := 2, locals := 35 } : Room) ws #[(.ref a), (.ref x), (.int 0), (.int 2), .null] h0 (Q_rs_i4_2 Z a x kx c0 c1 cz h0 n0) := by
 refine own_met (plainFor_of_name own_pn0) ?_
 intro p e s m below meth c s₁ hret hx hby hlk hml hown hnm X0 e0 hZ hh
 have N0 := Fr.nil n0
 refine Gz (castTop (own_ef_rs_i4_2 m a x)) ?_
 have KP : Keep h0 h0 [a] := Keep.refl _ _
 show Goes _ _ _ _ _ (fT s₁ m 0 #[vr a, vr x, vi 0, vi 2, .val .null, vu] [])
 have hn_c0 := own_latN hL_c0
 have hn_c1 := own_latN hL_c1
 refine gA X0 hx hby d0_0 rfl rfl rfl ?_
 obtain ⟨T1, X1, e1, st1⟩ := initO X0 hx hZ hown (gw hw 75 rfl) (gw hw 76 rfl) (gw hw 77 rfl) e0 (g := (mkF m 1 #[vr a, vr x, vi 0, vi 2, .val .null, vu] [(.ref a)])) rfl hml.symm rfl (hb hby d0_1) (by decide) (W := 0) (wz rfl) (by decide)
 refine Gs st1 ?_
 show Goes _ _ _ _ _ (fT T1 m 4 #[vr a, vr x, vi 0, vi 2, .val .null, vu] [])
 refine gN X1 hx hby d0_4 rfl rfl ?_
 refine gy X1 hx hby d0_5 5 27 ((if0 _ _).trans (feq (by decide : ¬ ((2 : Int32) = (0 : Int32)))).2) ?_
 obtain ⟨T2, X2, e2, st2⟩ := getS2 X1 hx hZ hown (host := "") (Or.inl (gw hw 235 rfl)) Via.refl e1 sgC (g := (mkF m 27 #[vr a, vr x, vi 0, vi 2, .val .null, vu] [])) rfl (hb hby d0_27)
 refine Gs st2 ?_
 show Goes _ _ _ _ _ (fT T2 m 30 #[vr a, vr x, vi 0, vi 2, .val .null, vu] [(.int cz)])
 refine gu X2 hx hby d0_30 ((if0 _ _).trans (feq hcz).1) ?_
 refine gA X2 hx hby d0_33 rfl rfl rfl ?_
 refine gN X2 hx hby d0_34 rfl rfl ?_
 refine gN X2 hx hby d0_35 rfl rfl ?_
 have ltc3_a : a < h0.size := A_a.lt
 have ltc3_x : x < h0.size := V_x.lt
 refine cSg X2 hx hZ hw hown hby hml e2 mN3 247 248 250 249 0 (rs_c3_2 l Z a0 hw [] x kx c0 c1 h0 n0 Z0 V_x hL_c0 hL_c1) d0_36 (lenOf own_pd2 rfl) (fun _ T3 L3 X3 hQ3 => ?_)
 obtain ⟨y3, ky3, rfl, N3q, K3, V_y3_3', g_y3_3', sz_y3_3'⟩ := hQ3
 have N3 := Fr.app N0 N3q
 replace A_a := A_a.keep K3
 replace F_value_a := F_value_a.keep K3 nin0
 replace F_coder_a := F_coder_a.keep K3 nin0
 replace KP := KP.trans K3 all0
 replace Z0 := Nat.le_trans Z0 K3.1
 have V_y3 := V_y3_3'
 have g_y3 := g_y3_3'
 have szc_y3 := sz_y3_3'
 have ne_a_y3 : a ≠ y3 := Nat.ne_of_lt (Nat.lt_of_lt_of_le ltc3_a szc_y3)
 have ne_x_y3 : x ≠ y3 := Nat.ne_of_lt (Nat.lt_of_lt_of_le ltc3_x szc_y3)
 show Goes _ _ _ _ _ (fT T3 m 39 #[vr a, vr x, vi 0, vi 2, .val .null, vu] [(.ref y3)])
 refine Gz (XS.astore X3.here hx rfl (hb hby d0_39) rfl rfl (l' := #[vr a, vr x, vi 0, vi 2, .val .null, vr y3]) rfl) ?_
 refine gA X3 hx hby d0_41 rfl rfl rfl ?_
 refine Gz (XS.aload X3.here hx rfl (hb hby d0_42) rfl rfl) ?_
 refine gN X3 hx hby d0_44 rfl rfl ?_
 refine cS X3 hx hZ hw hown hby hml rfl mN4 254 255 256 249 1 (rs_cf_2 l Z a0 hw [] y3 ky3 [(.int (lo8 c0)), (.int (lo8 c1))] T3.heap n0 Z0 V_y3) d0_45 (lenOf own_pd3 rfl) N3 (fun T4 L4 X4 e4 N4 => ?_)
 show Goes _ _ _ _ _ (fT T4 m 48 #[vr a, vr x, vi 0, vi 2, .val .null, vr y3] [(.int 0), (.ref a)])
 obtain ⟨T5, h5, X5, e5, W5, st5⟩ := putFN X4 hx hZ hown (gw hw 85 rfl) Via.refl e4 F_coder_a A_a (Or.inr ⟨(gw hw 81 rfl), rfl, hnm⟩) (gw hw 65 rfl) (ty := .byte) (v' := .int 0) (by decide) rfl rfl (g := (mkF m 48 #[vr a, vr x, vi 0, vi 2, .val .null, vr y3] [(.int 0), (.ref a)])) rfl rfl (hb hby d0_48)
 have N5 := Fr.snoc X5 N4 g_a
 replace A_a := A_a.wr W5
 replace F_value_a := F_value_a.other W5 (Or.inr (slot_ne (Or.inr (gw hw 80 rfl)) (Or.inr (gw hw 81 rfl)) (by decide) (t := (.array .byte)) (t' := .byte) (by decide) (by decide)))
 replace V_y3 := V_y3.other W5 (Ne.symm ne_a_y3)
 replace KP := KP.wr W5 (Or.inl (List.mem_of_getElem? (i := 0) rfl))
 replace F_coder_a := F_coder_a.same W5
 replace Z0 : n0 ≤ h5.size := by rw [W5.size]; exact Z0
 refine Gs st5 ?_
 show Goes _ _ _ _ _ (fT T5 m 51 #[vr a, vr x, vi 0, vi 2, .val .null, vr y3] [])
 refine gA X5 hx hby d0_51 rfl rfl rfl ?_
 refine Gz (XS.aload X5.here hx rfl (hb hby d0_52) rfl rfl) ?_
 obtain ⟨T6, h6, X6, e6, W6, st6⟩ := putF X5 hx hZ hown (host := "") (Or.inl (gw hw 84 rfl)) Via.refl e5 F_value_a A_a (Or.inr ⟨(gw hw 80 rfl), rfl, hnm⟩) (gw hw 65 rfl) (ty := (.array .byte)) (by decide) rfl rfl (g := (mkF m 54 #[vr a, vr x, vi 0, vi 2, .val .null, vr y3] [(.ref y3), (.ref a)])) rfl rfl (hb hby d0_54)
 have N6 := Fr.snoc X6 N5 g_a
 replace A_a := A_a.wr W6
 replace F_coder_a := F_coder_a.other W6 (Or.inr (slot_ne (Or.inr (gw hw 81 rfl)) (Or.inr (gw hw 80 rfl)) (by decide) (t := .byte) (t' := (.array .byte)) (by decide) (by decide)))
 replace V_y3 := V_y3.other W6 (Ne.symm ne_a_y3)
 replace KP := KP.wr W6 (Or.inl (List.mem_of_getElem? (i := 0) rfl))
 replace F_value_a := F_value_a.same W6
 replace Z0 : n0 ≤ h6.size := by rw [W6.size]; exact Z0
 refine Gs st6 ?_
 show Goes _ _ _ _ _ (fT T6 m 57 #[vr a, vr x, vi 0, vi 2, .val .null, vr y3] [])
 have T_a : StrOf Z h6 a [c0, c1] := StrOf.latin A_a F_value_a F_coder_a V_y3 (by intro c hc; simp only [List.mem_cons, List.not_mem_nil, or_false] at hc; rcases hc with rfl | rfl <;> assumption) rfl rfl (Nat.le_of_ble_eq_true rfl)
 refine Goes.ret X6 none (fun _ => rfl) hlk (by decide) (by decide) ?_ (fun fs hr => ?_)
 ·rw [e6]; exact ⟨rfl, N6, KP, T_a⟩
 ·exact X6.returnOut hx hret (hb hby d0_57) hr
theorem own_ef_rs_i1_2 (m : MethodId) (x0 : Addr) (x1 : Addr) : entryFrame m #[(.ref x0), (.ref x1)] 2 = mkF m 0 #[vr x0, vr x1] [] := by first | (simp [entryFrame, mkF, argsToLocals, Value.category]; done) | rfl
def Q_rs_i1_2 (Z : State) (a : Addr) (x : Addr) (kx : ClassId) (c0 : Int32) (c1 : Int32) (cz : Int32) (h0 : Heap) (n0 : Nat) (v : Option Value) (h : Heap) (L : List Loc) : Prop := v = none ∧ Fr n0 L ∧ Keep h0 h [a] ∧ StrOf Z h a [c0, c1]
theorem rs_i1_2 (l : Launch) (Z : State) (a0 : Array Value) (hw : HW a0 Z) (ws : List Jvm.Cond) (a : Addr) (x : Addr) (kx : ClassId) (c0 : Int32) (c1 : Int32) (cz : Int32) (h0 : Heap) (n0 : Nat) (Z0 : n0 ≤ h0.size) (A_a : Exa Z h0 a "java/lang/String") (F_value_a : Fld Z h0 a "java/lang/String" "value" "[B" .null) (F_coder_a : Fld Z h0 a "java/lang/String" "coder" "B" (.int 0)) (V_x : Arv Z h0 x kx .char 2 [(.int c0), (.int c1)] (.int 0)) (g_a : n0 ≤ a) (ne_x_a : x ≠ a) (sgC : Sta Z h0 "java/lang/String" "COMPACT_STRINGS" "Z" (.int cz)) (hcz : ¬ (cz = 0)) (hL_c0 : Lat c0) (hL_c1 : Lat c1) :
  Met l Z mN1 jdk_42_method_3_code 2 none ({ frames := 3, cells := 1, slots := 2, locals := 52 } : Room) ws #[(.ref a), (.ref x)] h0 (Q_rs_i1_2 Z a x kx c0 c1 cz h0 n0) := by
 refine own_met (plainFor_of_name own_pn0) ?_
 intro p e s m below meth c s₁ hret hx hby hlk hml hown hnm X0 e0 hZ hh
 have N0 := Fr.nil n0
 refine Gz (castTop (own_ef_rs_i1_2 m a x)) ?_
 have KP : Keep h0 h0 [a] := Keep.refl _ _
 show Goes _ _ _ _ _ (fT s₁ m 0 #[vr a, vr x] [])
 refine gA X0 hx hby d1_0 rfl rfl rfl ?_
 refine gA X0 hx hby d1_1 rfl rfl rfl ?_
 refine gC X0 hx hby d1_2 ?_
 refine gA X0 hx hby d1_3 rfl rfl rfl ?_
 obtain ⟨cl1, Ar1, -, S1, N1z, -, -⟩ := id V_x
 refine Gs (fun _ tk => X0.arraylength hx (by rw [e0]; exact Ar1.1) (State.isArrayOf_alike hZ.alike Ar1.2.1) (g := (mkF m 4 #[vr a, vr x] [(.ref x), (.int 0), (.ref x), (.ref a)])) rfl rfl (hb hby d1_4) _ tk) ?_
 rw [len_of S1 N1z]
 show Goes _ _ _ _ _ (fT s₁ m 5 #[vr a, vr x] [(.int 2), (.int 0), (.ref x), (.ref a)])
 refine Gz (XS.aconstNull X0.here hx rfl (hb hby d1_5)) ?_
 refine cIg X0 hx hZ hw hown hby hml e0 mN0 71 72 74 66 0 (rs_i4_2 l Z a0 hw [] a x kx c0 c1 cz h0 n0 Z0 A_a F_value_a F_coder_a V_x g_a ne_x_a sgC hcz hL_c0 hL_c1) d1_6 (lenOf own_pd0 rfl) (fun _ T2 L2 X2 hQ2 => ?_)
 obtain ⟨rfl, N2q, K2, T_a_2'⟩ := hQ2
 have N2 := Fr.app N0 N2q
 replace KP := KP.trans K2 (allS (Or.inl (List.mem_of_getElem? (i := 0) rfl)) all0)
 replace Z0 := Nat.le_trans Z0 K2.1
 have T_a := T_a_2'
 show Goes _ _ _ _ _ (fT T2 m 9 #[vr a, vr x] [])
 refine Goes.ret X2 none (fun _ => rfl) hlk (by decide) (by decide) ?_ (fun fs hr => ?_)
 ·exact ⟨rfl, N2, KP, T_a⟩
 ·exact X2.returnOut hx hret (hb hby d1_9) hr
theorem d5_0 : DK kc0 0 (.aload_n 0) 1 := by decide +kernel
theorem d5_1 : DK kc0 1 (.invokespecial 1) 3 := by decide +kernel
theorem d5_4 : DK kc0 4 .return_ 1 := by decide +kernel
theorem own_pn2 : plainName "java/lang/Record" = true := by first | (simp [plainName, overriddenIn]; done) | decide +kernel
theorem own_ef_rm_rec (m : MethodId) (x0 : Addr) : entryFrame m #[(.ref x0)] 1 = mkF m 0 #[vr x0] [] := by first | (simp [entryFrame, mkF, argsToLocals, Value.category]; done) | rfl
def Q_rm_rec (Z : State) (a : Addr) (h0 : Heap) (n0 : Nat) (v : Option Value) (h : Heap) (L : List Loc) : Prop := v = none ∧ Fr n0 L ∧ h = h0
theorem rm_rec (l : Launch) (Z : State) (a0 : Array Value) (hw : HW a0 Z) (ws : List Jvm.Cond) (a : Addr) (h0 : Heap) (n0 : Nat) (Z0 : n0 ≤ h0.size) :
  Met l Z mN5 jdk_30_method_1_code 1 none ({ frames := 1, cells := 0, slots := 0, locals := 12 } : Room) ws #[(.ref a)] h0 (Q_rm_rec Z a h0 n0) := by
 refine own_met (plainFor_of_name own_pn2) ?_
 intro p e s m below meth c s₁ hret hx hby hlk hml hown hnm X0 e0 hZ hh
 have N0 := Fr.nil n0
 refine Gz (castTop (own_ef_rm_rec m a)) ?_
 show Goes _ _ _ _ _ (fT s₁ m 0 #[vr a] [])
 refine gA X0 hx hby d5_0 rfl rfl rfl ?_
 obtain ⟨T1, X1, e1, st1⟩ := initO X0 hx hZ hown (gw hw 202 rfl) (gw hw 76 rfl) (gw hw 77 rfl) e0 (g := (mkF m 1 #[vr a] [(.ref a)])) rfl hml.symm rfl (hb hby d5_1) (by decide) (W := 0) (wz rfl) (by decide)
 refine Gs st1 ?_
 show Goes _ _ _ _ _ (fT T1 m 4 #[vr a] [])
 refine Goes.ret X1 none (fun _ => rfl) hlk (by decide) (by decide) ?_ (fun fs hr => ?_)
 ·exact ⟨rfl, N0, e1⟩
 ·exact X1.returnOut hx hret (hb hby d5_4) hr
theorem d6_0 : DK kc1 0 (.aload_n 0) 1 := by decide +kernel
theorem d6_1 : DK kc1 1 (.ifnonnull 11) 3 := by decide +kernel
theorem d6_12 : DK kc1 12 (.aload_n 0) 1 := by decide +kernel
theorem d6_13 : DK kc1 13 .areturn 1 := by decide +kernel
theorem own_pn3 : plainName "java/util/Objects" = true := by first | (simp [plainName, overriddenIn]; done) | decide +kernel
theorem own_ef_rm_rq (m : MethodId) (x0 : Addr) : entryFrame m #[(.ref x0)] 1 = mkF m 0 #[vr x0] [] := by first | (simp [entryFrame, mkF, argsToLocals, Value.category]; done) | rfl
def Q_rm_rq (Z : State) (a : Addr) (h0 : Heap) (n0 : Nat) (v : Option Value) (h : Heap) (L : List Loc) : Prop := v = some (.ref a) ∧ Fr n0 L ∧ h = h0
theorem rm_rq (l : Launch) (Z : State) (a0 : Array Value) (hw : HW a0 Z) (ws : List Jvm.Cond) (a : Addr) (h0 : Heap) (n0 : Nat) (Z0 : n0 ≤ h0.size) :
  Met l Z mN6 jdk_31_method_10_code 1 (some (.object "java/lang/Object")) ({ frames := 0, cells := 0, slots := 0, locals := 0 } : Room) ws #[(.ref a)] h0 (Q_rm_rq Z a h0 n0) := by
 refine own_met (plainFor_of_name own_pn3) ?_
 intro p e s m below meth c s₁ hret hx hby hlk hml hown hnm X0 e0 hZ hh
 have N0 := Fr.nil n0
 refine Gz (castTop (own_ef_rm_rq m a)) ?_
 show Goes _ _ _ _ _ (fT s₁ m 0 #[vr a] [])
 refine gA X0 hx hby d6_0 rfl rfl rfl ?_
 refine Gz (XS.ifnonnullYes X0.here hx rfl (pc0 := 1) (pc' := 12) rfl (hb hby d6_1) rfl (by decide) (by decide)) ?_
 refine gA X0 hx hby d6_12 rfl rfl rfl ?_
 refine Goes.ret X0 (some (.ref a)) (fun h => by rw [hret] at h; cases h) hlk (by decide) (by decide) ?_ (fun fs hr => ?_)
 ·exact ⟨rfl, N0, e0⟩
 ·exact own_retA X0 hx hret rfl rfl (hb hby d6_13) hr
theorem d7_0 : DK kc21 0 (.aload_n 0) 1 := by decide +kernel
theorem d7_1 : DK kc21 1 (.invokespecial 1) 3 := by decide +kernel
theorem own_pd4 : parseMethodDescriptor "()V" = some ⟨[], none⟩ := by decide +kernel
theorem d7_4 : DK kc21 4 (.aload_n 0) 1 := by decide +kernel
theorem d7_5 : DK kc21 5 (.aload_n 1) 1 := by decide +kernel
theorem d7_6 : DK kc21 6 (.putfield 7) 3 := by decide +kernel
theorem d7_9 : DK kc21 9 (.aload_n 0) 1 := by decide +kernel
theorem d7_10 : DK kc21 10 (.aload_n 2) 1 := by decide +kernel
theorem d7_11 : DK kc21 11 (.putfield 13) 3 := by decide +kernel
theorem d7_14 : DK kc21 14 (.aload_n 0) 1 := by decide +kernel
theorem d7_15 : DK kc21 15 (.aload_n 3) 1 := by decide +kernel
theorem d7_16 : DK kc21 16 (.putfield 17) 3 := by decide +kernel
theorem d7_19 : DK kc21 19 .return_ 1 := by decide +kernel
theorem own_pn4 : plainName "com/example/surfacemap/surfacemap/model/Finding" = true := by first | (simp [plainName, overriddenIn]; done) | decide +kernel
theorem own_ef_rm_fin (m : MethodId) (x0 : Addr) (x1 : Addr) (x2 : Value) (hx2 : x2.isRef = true) (x3 : Value) (hx3 : x3.isRef = true) : entryFrame m #[(.ref x0), (.ref x1), x2, x3] 4 = mkF m 0 #[vr x0, vr x1, .val x2, .val x3] [] := by first | (simp [entryFrame, mkF, argsToLocals, Value.category]; done) | rfl | (rcases Jvm.Free.XT.refc hx2 with rfl | ⟨r, rfl⟩ <;> rfl) | (rcases Jvm.Free.XT.refc hx3 with rfl | ⟨r, rfl⟩ <;> rfl) | (rcases Jvm.Free.XT.refc hx2 with rfl | ⟨r2, rfl⟩ <;> rcases Jvm.Free.XT.refc hx3 with rfl | ⟨r3, rfl⟩ <;> rfl)
def Q_rm_fin (Z : State) (a : Addr) (rl : Addr) (lo : Value) (ms : Value) (h0 : Heap) (n0 : Nat) (v : Option Value) (h : Heap) (L : List Loc) : Prop := v = none ∧ Fr n0 L ∧ Keep h0 h [a] ∧ Fld Z h a "com/example/surfacemap/surfacemap/model/Finding" "rule" "Lcom/example/surfacemap/surfacemap/model/Finding$Rule;" (.ref rl) ∧ Fld Z h a "com/example/surfacemap/surfacemap/model/Finding" "location" "Ljava/lang/String;" lo ∧ Fld Z h a "com/example/surfacemap/surfacemap/model/Finding" "message" "Ljava/lang/String;" ms
theorem rm_fin (l : Launch) (Z : State) (a0 : Array Value) (hw : HW a0 Z) (ws : List Jvm.Cond) (a : Addr) (rl : Addr) (lo : Value) (ms : Value) (h0 : Heap) (n0 : Nat) (Z0 : n0 ≤ h0.size) (A_a : Exa Z h0 a "com/example/surfacemap/surfacemap/model/Finding") (F_rule_a : Fld Z h0 a "com/example/surfacemap/surfacemap/model/Finding" "rule" "Lcom/example/surfacemap/surfacemap/model/Finding$Rule;" .null) (F_location_a : Fld Z h0 a "com/example/surfacemap/surfacemap/model/Finding" "location" "Ljava/lang/String;" .null) (F_message_a : Fld Z h0 a "com/example/surfacemap/surfacemap/model/Finding" "message" "Ljava/lang/String;" .null) (g_a : n0 ≤ a) (r_lo : lo.isRef = true) (r_ms : ms.isRef = true) :
  Met l Z mN7 prog_5_method_1_code 4 none ({ frames := 2, cells := 0, slots := 0, locals := 24 } : Room) ws #[(.ref a), (.ref rl), lo, ms] h0 (Q_rm_fin Z a rl lo ms h0 n0) := by
 refine own_met (plainFor_of_name own_pn4) ?_
 intro p e s m below meth c s₁ hret hx hby hlk hml hown hnm X0 e0 hZ hh
 have N0 := Fr.nil n0
 refine Gz (castTop (own_ef_rm_fin m a rl lo r_lo ms r_ms)) ?_
 have KP : Keep h0 h0 [a] := Keep.refl _ _
 show Goes _ _ _ _ _ (fT s₁ m 0 #[vr a, vr rl, .val lo, .val ms] [])
 refine gA X0 hx hby d7_0 rfl rfl rfl ?_
 refine cI X0 hx hZ hw hown hby hml e0 mN5 197 198 201 200 0 (rm_rec l Z a0 hw [] a h0 n0 Z0) d7_1 (lenOf own_pd4 rfl) N0 (fun T1 L1 X1 e1 N1 => ?_)
 show Goes _ _ _ _ _ (fT T1 m 4 #[vr a, vr rl, .val lo, .val ms] [])
 refine gA X1 hx hby d7_4 rfl rfl rfl ?_
 refine gA X1 hx hby d7_5 rfl rfl rfl ?_
 obtain ⟨T2, h2, X2, e2, W2, st2⟩ := putF X1 hx hZ hown (host := "") (Or.inl (gw hw 203 rfl)) Via.refl e1 F_rule_a A_a (Or.inr ⟨(gw hw 204 rfl), rfl, hnm⟩) (gw hw 182 rfl) (ty := (.object "com/example/surfacemap/surfacemap/model/Finding$Rule")) (by decide) rfl rfl (g := (mkF m 6 #[vr a, vr rl, .val lo, .val ms] [(.ref rl), (.ref a)])) rfl rfl (hb hby d7_6)
 have N2 := Fr.snoc X2 N1 g_a
 replace A_a := A_a.wr W2
 replace F_location_a := F_location_a.other W2 (Or.inr (slot_ne (Or.inr (gw hw 206 rfl)) (Or.inr (gw hw 204 rfl)) (by decide) (t := (.object "java/lang/String")) (t' := (.object "com/example/surfacemap/surfacemap/model/Finding$Rule")) (by decide) (by decide)))
 replace F_message_a := F_message_a.other W2 (Or.inr (slot_ne (Or.inr (gw hw 208 rfl)) (Or.inr (gw hw 204 rfl)) (by decide) (t := (.object "java/lang/String")) (t' := (.object "com/example/surfacemap/surfacemap/model/Finding$Rule")) (by decide) (by decide)))
 replace KP := KP.wr W2 (Or.inl (List.mem_of_getElem? (i := 0) rfl))
 replace F_rule_a := F_rule_a.same W2
 replace Z0 : n0 ≤ h2.size := by rw [W2.size]; exact Z0
 refine Gs st2 ?_
 show Goes _ _ _ _ _ (fT T2 m 9 #[vr a, vr rl, .val lo, .val ms] [])
 refine gA X2 hx hby d7_9 rfl rfl rfl ?_
 refine Gz (XS.aloadN X2.here hx rfl (hb hby d7_10) rfl (by assumption)) ?_
 obtain ⟨T3, h3, X3, e3, W3, st3⟩ := putF X2 hx hZ hown (host := "") (Or.inl (gw hw 205 rfl)) Via.refl e2 F_location_a A_a (Or.inr ⟨(gw hw 206 rfl), rfl, hnm⟩) (gw hw 182 rfl) (ty := (.object "java/lang/String")) (by decide) (own_narV r_lo) (own_fitV r_lo) (g := (mkF m 11 #[vr a, vr rl, .val lo, .val ms] [lo, (.ref a)])) rfl rfl (hb hby d7_11)
 have N3 := Fr.snoc X3 N2 g_a
 replace A_a := A_a.wr W3
 replace F_rule_a := F_rule_a.other W3 (Or.inr (slot_ne (Or.inr (gw hw 204 rfl)) (Or.inr (gw hw 206 rfl)) (by decide) (t := (.object "com/example/surfacemap/surfacemap/model/Finding$Rule")) (t' := (.object "java/lang/String")) (by decide) (by decide)))
 replace F_message_a := F_message_a.other W3 (Or.inr (slot_ne (Or.inr (gw hw 208 rfl)) (Or.inr (gw hw 206 rfl)) (by decide) (t := (.object "java/lang/String")) (t' := (.object "java/lang/String")) (by decide) (by decide)))
 replace KP := KP.wr W3 (Or.inl (List.mem_of_getElem? (i := 0) rfl))
 replace F_location_a := F_location_a.same W3
 replace Z0 : n0 ≤ h3.size := by rw [W3.size]; exact Z0
 refine Gs st3 ?_
 show Goes _ _ _ _ _ (fT T3 m 14 #[vr a, vr rl, .val lo, .val ms] [])
 refine gA X3 hx hby d7_14 rfl rfl rfl ?_
 refine Gz (XS.aloadN X3.here hx rfl (hb hby d7_15) rfl (by assumption)) ?_
 obtain ⟨T4, h4, X4, e4, W4, st4⟩ := putF X3 hx hZ hown (host := "") (Or.inl (gw hw 207 rfl)) Via.refl e3 F_message_a A_a (Or.inr ⟨(gw hw 208 rfl), rfl, hnm⟩) (gw hw 182 rfl) (ty := (.object "java/lang/String")) (by decide) (own_narV r_ms) (own_fitV r_ms) (g := (mkF m 16 #[vr a, vr rl, .val lo, .val ms] [ms, (.ref a)])) rfl rfl (hb hby d7_16)
 have N4 := Fr.snoc X4 N3 g_a
 replace F_rule_a := F_rule_a.other W4 (Or.inr (slot_ne (Or.inr (gw hw 204 rfl)) (Or.inr (gw hw 208 rfl)) (by decide) (t := (.object "com/example/surfacemap/surfacemap/model/Finding$Rule")) (t' := (.object "java/lang/String")) (by decide) (by decide)))
 replace F_location_a := F_location_a.other W4 (Or.inr (slot_ne (Or.inr (gw hw 206 rfl)) (Or.inr (gw hw 208 rfl)) (by decide) (t := (.object "java/lang/String")) (t' := (.object "java/lang/String")) (by decide) (by decide)))
 replace KP := KP.wr W4 (Or.inl (List.mem_of_getElem? (i := 0) rfl))
 replace F_message_a := F_message_a.same W4
 replace Z0 : n0 ≤ h4.size := by rw [W4.size]; exact Z0
 refine Gs st4 ?_
 show Goes _ _ _ _ _ (fT T4 m 19 #[vr a, vr rl, .val lo, .val ms] [])
 refine Goes.ret X4 none (fun _ => rfl) hlk (by decide) (by decide) ?_ (fun fs hr => ?_)
 ·rw [e4]; exact ⟨rfl, N4, KP, F_rule_a, F_location_a, F_message_a⟩
 ·exact X4.returnOut hx hret (hb hby d7_19) hr
theorem d8_0 : DK kc23 0 (.aload_n 0) 1 := by decide +kernel
theorem d8_1 : DK kc23 1 (.getfield 7) 3 := by decide +kernel
theorem d8_4 : DK kc23 4 .areturn 1 := by decide +kernel
theorem own_ef_rm_grule (m : MethodId) (x0 : Addr) : entryFrame m #[(.ref x0)] 1 = mkF m 0 #[vr x0] [] := by first | (simp [entryFrame, mkF, argsToLocals, Value.category]; done) | rfl
def Q_rm_grule (Z : State) (a : Addr) (rl : Addr) (h0 : Heap) (n0 : Nat) (v : Option Value) (h : Heap) (L : List Loc) : Prop := v = some (.ref rl) ∧ Fr n0 L ∧ h = h0
theorem rm_grule (l : Launch) (Z : State) (a0 : Array Value) (hw : HW a0 Z) (ws : List Jvm.Cond) (a : Addr) (rl : Addr) (h0 : Heap) (n0 : Nat) (Z0 : n0 ≤ h0.size) (F_rule_a : Fld Z h0 a "com/example/surfacemap/surfacemap/model/Finding" "rule" "Lcom/example/surfacemap/surfacemap/model/Finding$Rule;" (.ref rl)) :
  Met l Z mN8 prog_5_method_7_code 1 (some (.object "com/example/surfacemap/surfacemap/model/Finding$Rule")) ({ frames := 0, cells := 0, slots := 0, locals := 0 } : Room) ws #[(.ref a)] h0 (Q_rm_grule Z a rl h0 n0) := by
 refine own_met (plainFor_of_name own_pn4) ?_
 intro p e s m below meth c s₁ hret hx hby hlk hml hown hnm X0 e0 hZ hh
 have N0 := Fr.nil n0
 refine Gz (castTop (own_ef_rm_grule m a)) ?_
 show Goes _ _ _ _ _ (fT s₁ m 0 #[vr a] [])
 refine gA X0 hx hby d8_0 rfl rfl rfl ?_
 obtain ⟨T1, X1, e1, st1⟩ := getF X0 hx hZ hown (host := "") (Or.inl (gw hw 203 rfl)) Via.refl e0 F_rule_a (g := (mkF m 1 #[vr a] [(.ref a)])) rfl rfl (hb hby d8_1)
 refine Gs st1 ?_
 show Goes _ _ _ _ _ (fT T1 m 4 #[vr a] [(.ref rl)])
 refine Goes.ret X1 (some (.ref rl)) (fun h => by rw [hret] at h; cases h) hlk (by decide) (by decide) ?_ (fun fs hr => ?_)
 ·exact ⟨rfl, N0, e1⟩
 ·exact own_retA X1 hx hret rfl rfl (hb hby d8_4) hr
theorem d9_0 : DK kc24 0 (.aload_n 0) 1 := by decide +kernel
theorem d9_1 : DK kc24 1 (.getfield 13) 3 := by decide +kernel
theorem d9_4 : DK kc24 4 .areturn 1 := by decide +kernel
theorem own_ef_rm_gloc (m : MethodId) (x0 : Addr) : entryFrame m #[(.ref x0)] 1 = mkF m 0 #[vr x0] [] := by first | (simp [entryFrame, mkF, argsToLocals, Value.category]; done) | rfl
def Q_rm_gloc (Z : State) (a : Addr) (lo : Value) (h0 : Heap) (n0 : Nat) (v : Option Value) (h : Heap) (L : List Loc) : Prop := v = some lo ∧ Fr n0 L ∧ h = h0
theorem rm_gloc (l : Launch) (Z : State) (a0 : Array Value) (hw : HW a0 Z) (ws : List Jvm.Cond) (a : Addr) (lo : Value) (h0 : Heap) (n0 : Nat) (Z0 : n0 ≤ h0.size) (F_location_a : Fld Z h0 a "com/example/surfacemap/surfacemap/model/Finding" "location" "Ljava/lang/String;" lo) (r_lo : lo.isRef = true) :
  Met l Z mN9 prog_5_method_8_code 1 (some (.object "java/lang/String")) ({ frames := 0, cells := 0, slots := 0, locals := 0 } : Room) ws #[(.ref a)] h0 (Q_rm_gloc Z a lo h0 n0) := by
 refine own_met (plainFor_of_name own_pn4) ?_
 intro p e s m below meth c s₁ hret hx hby hlk hml hown hnm X0 e0 hZ hh
 have N0 := Fr.nil n0
 refine Gz (castTop (own_ef_rm_gloc m a)) ?_
 show Goes _ _ _ _ _ (fT s₁ m 0 #[vr a] [])
 refine gA X0 hx hby d9_0 rfl rfl rfl ?_
 obtain ⟨T1, X1, e1, st1⟩ := getF X0 hx hZ hown (host := "") (Or.inl (gw hw 205 rfl)) Via.refl e0 F_location_a (g := (mkF m 1 #[vr a] [(.ref a)])) rfl rfl (hb hby d9_1)
 refine Gs st1 ?_
 show Goes _ _ _ _ _ (fT T1 m 4 #[vr a] [lo])
 refine Goes.ret X1 (some lo) (fun h => by rw [hret] at h; cases h) hlk (by decide) (by decide) ?_ (fun fs hr => ?_)
 ·exact ⟨rfl, N0, e1⟩
 ·exact own_retA X1 hx hret rfl (by assumption) (hb hby d9_4) hr
theorem d10_0 : DK kc25 0 (.aload_n 0) 1 := by decide +kernel
theorem d10_1 : DK kc25 1 (.getfield 17) 3 := by decide +kernel
theorem d10_4 : DK kc25 4 .areturn 1 := by decide +kernel
theorem own_ef_rm_gmsg (m : MethodId) (x0 : Addr) : entryFrame m #[(.ref x0)] 1 = mkF m 0 #[vr x0] [] := by first | (simp [entryFrame, mkF, argsToLocals, Value.category]; done) | rfl
def Q_rm_gmsg (Z : State) (a : Addr) (lo : Value) (h0 : Heap) (n0 : Nat) (v : Option Value) (h : Heap) (L : List Loc) : Prop := v = some lo ∧ Fr n0 L ∧ h = h0
theorem rm_gmsg (l : Launch) (Z : State) (a0 : Array Value) (hw : HW a0 Z) (ws : List Jvm.Cond) (a : Addr) (lo : Value) (h0 : Heap) (n0 : Nat) (Z0 : n0 ≤ h0.size) (F_message_a : Fld Z h0 a "com/example/surfacemap/surfacemap/model/Finding" "message" "Ljava/lang/String;" lo) (r_lo : lo.isRef = true) :
  Met l Z mN10 prog_5_method_9_code 1 (some (.object "java/lang/String")) ({ frames := 0, cells := 0, slots := 0, locals := 0 } : Room) ws #[(.ref a)] h0 (Q_rm_gmsg Z a lo h0 n0) := by
 refine own_met (plainFor_of_name own_pn4) ?_
 intro p e s m below meth c s₁ hret hx hby hlk hml hown hnm X0 e0 hZ hh
 have N0 := Fr.nil n0
 refine Gz (castTop (own_ef_rm_gmsg m a)) ?_
 show Goes _ _ _ _ _ (fT s₁ m 0 #[vr a] [])
 refine gA X0 hx hby d10_0 rfl rfl rfl ?_
 obtain ⟨T1, X1, e1, st1⟩ := getF X0 hx hZ hown (host := "") (Or.inl (gw hw 207 rfl)) Via.refl e0 F_message_a (g := (mkF m 1 #[vr a] [(.ref a)])) rfl rfl (hb hby d10_1)
 refine Gs st1 ?_
 show Goes _ _ _ _ _ (fT T1 m 4 #[vr a] [lo])
 refine Goes.ret X1 (some lo) (fun h => by rw [hret] at h; cases h) hlk (by decide) (by decide) ?_ (fun fs hr => ?_)
 ·exact ⟨rfl, N0, e1⟩
 ·exact own_retA X1 hx hret rfl (by assumption) (hb hby d10_4) hr
theorem d11_0 : DK kc20 0 (.aload_n 0) 1 := by decide +kernel
theorem d11_1 : DK kc20 1 (.getfield 13) 3 := by decide +kernel
theorem d11_4 : DK kc20 4 .areturn 1 := by decide +kernel
theorem own_pn5 : plainName "com/example/surfacemap/surfacemap/model/DocumentException" = true := by first | (simp [plainName, overriddenIn]; done) | decide +kernel
theorem own_ef_rm_xloc (m : MethodId) (x0 : Addr) : entryFrame m #[(.ref x0)] 1 = mkF m 0 #[vr x0] [] := by first | (simp [entryFrame, mkF, argsToLocals, Value.category]; done) | rfl
def Q_rm_xloc (Z : State) (a : Addr) (lo : Value) (h0 : Heap) (n0 : Nat) (v : Option Value) (h : Heap) (L : List Loc) : Prop := v = some lo ∧ Fr n0 L ∧ h = h0
theorem rm_xloc (l : Launch) (Z : State) (a0 : Array Value) (hw : HW a0 Z) (ws : List Jvm.Cond) (a : Addr) (lo : Value) (h0 : Heap) (n0 : Nat) (Z0 : n0 ≤ h0.size) (F_location_a : Fld Z h0 a "com/example/surfacemap/surfacemap/model/DocumentException" "location" "Ljava/lang/String;" lo) (r_lo : lo.isRef = true) :
  Met l Z mN11 prog_4_method_4_code 1 (some (.object "java/lang/String")) ({ frames := 0, cells := 0, slots := 0, locals := 0 } : Room) ws #[(.ref a)] h0 (Q_rm_xloc Z a lo h0 n0) := by
 refine own_met (plainFor_of_name own_pn5) ?_
 intro p e s m below meth c s₁ hret hx hby hlk hml hown hnm X0 e0 hZ hh
 have N0 := Fr.nil n0
 refine Gz (castTop (own_ef_rm_xloc m a)) ?_
 show Goes _ _ _ _ _ (fT s₁ m 0 #[vr a] [])
 refine gA X0 hx hby d11_0 rfl rfl rfl ?_
 obtain ⟨T1, X1, e1, st1⟩ := getF X0 hx hZ hown (host := "") (Or.inl (gw hw 147 rfl)) Via.refl e0 F_location_a (g := (mkF m 1 #[vr a] [(.ref a)])) rfl rfl (hb hby d11_1)
 refine Gs st1 ?_
 show Goes _ _ _ _ _ (fT T1 m 4 #[vr a] [lo])
 refine Goes.ret X1 (some lo) (fun h => by rw [hret] at h; cases h) hlk (by decide) (by decide) ?_ (fun fs hr => ?_)
 ·exact ⟨rfl, N0, e1⟩
 ·exact own_retA X1 hx hret rfl (by assumption) (hb hby d11_4) hr
theorem d12_0 : DK kc17 0 (.aload_n 0) 1 := by decide +kernel
theorem d12_1 : DK kc17 1 (.getfield 31) 3 := by decide +kernel
theorem d12_4 : DK kc17 4 .areturn 1 := by decide +kernel
theorem own_pn6 : plainName "java/lang/Throwable" = true := by first | (simp [plainName, overriddenIn]; done) | decide +kernel
theorem own_ef_rm_xmsg (m : MethodId) (x0 : Addr) : entryFrame m #[(.ref x0)] 1 = mkF m 0 #[vr x0] [] := by first | (simp [entryFrame, mkF, argsToLocals, Value.category]; done) | rfl
def Q_rm_xmsg (Z : State) (a : Addr) (lo : Value) (h0 : Heap) (n0 : Nat) (v : Option Value) (h : Heap) (L : List Loc) : Prop := v = some lo ∧ Fr n0 L ∧ h = h0
theorem rm_xmsg (l : Launch) (Z : State) (a0 : Array Value) (hw : HW a0 Z) (ws : List Jvm.Cond) (a : Addr) (lo : Value) (h0 : Heap) (n0 : Nat) (Z0 : n0 ≤ h0.size) (F_detailMessage_a : Fld Z h0 a "java/lang/Throwable" "detailMessage" "Ljava/lang/String;" lo) (r_lo : lo.isRef = true) :
  Met l Z mN12 jdk_78_method_6_code 1 (some (.object "java/lang/String")) ({ frames := 0, cells := 0, slots := 0, locals := 0 } : Room) ws #[(.ref a)] h0 (Q_rm_xmsg Z a lo h0 n0) := by
 refine own_met (plainFor_of_name own_pn6) ?_
 intro p e s m below meth c s₁ hret hx hby hlk hml hown hnm X0 e0 hZ hh
 have N0 := Fr.nil n0
 refine Gz (castTop (own_ef_rm_xmsg m a)) ?_
 show Goes _ _ _ _ _ (fT s₁ m 0 #[vr a] [])
 refine gA X0 hx hby d12_0 rfl rfl rfl ?_
 obtain ⟨T1, X1, e1, st1⟩ := getF X0 hx hZ hown (host := "") (Or.inl (gw hw 139 rfl)) Via.refl e0 F_detailMessage_a (g := (mkF m 1 #[vr a] [(.ref a)])) rfl rfl (hb hby d12_1)
 refine Gs st1 ?_
 show Goes _ _ _ _ _ (fT T1 m 4 #[vr a] [lo])
 refine Goes.ret X1 (some lo) (fun h => by rw [hret] at h; cases h) hlk (by decide) (by decide) ?_ (fun fs hr => ?_)
 ·exact ⟨rfl, N0, e1⟩
 ·exact own_retA X1 hx hret rfl (by assumption) (hb hby d12_4) hr
theorem d13_0 : DK kc3 0 (.aload_n 0) 1 := by decide +kernel
theorem d13_1 : DK kc3 1 (.invokespecial 7) 3 := by decide +kernel
theorem d13_4 : DK kc3 4 (.aload_n 0) 1 := by decide +kernel
theorem d13_5 : DK kc3 5 (.aload_n 1) 1 := by decide +kernel
theorem d13_6 : DK kc3 6 (.putfield 13) 3 := by decide +kernel
theorem d13_9 : DK kc3 9 .return_ 1 := by decide +kernel
theorem own_pn7 : plainName "java/util/Optional" = true := by first | (simp [plainName, overriddenIn]; done) | decide +kernel
theorem own_ef_rm_oi (m : MethodId) (x0 : Addr) (x1 : Addr) : entryFrame m #[(.ref x0), (.ref x1)] 2 = mkF m 0 #[vr x0, vr x1] [] := by first | (simp [entryFrame, mkF, argsToLocals, Value.category]; done) | rfl
def Q_rm_oi (Z : State) (a : Addr) (rl : Addr) (h0 : Heap) (n0 : Nat) (v : Option Value) (h : Heap) (L : List Loc) : Prop := v = none ∧ Fr n0 L ∧ Keep h0 h [a] ∧ Fld Z h a "java/util/Optional" "value" "Ljava/lang/Object;" (.ref rl)
theorem rm_oi (l : Launch) (Z : State) (a0 : Array Value) (hw : HW a0 Z) (ws : List Jvm.Cond) (a : Addr) (rl : Addr) (h0 : Heap) (n0 : Nat) (Z0 : n0 ≤ h0.size) (A_a : Exa Z h0 a "java/util/Optional") (F_value_a : Fld Z h0 a "java/util/Optional" "value" "Ljava/lang/Object;" .null) (g_a : n0 ≤ a) :
  Met l Z mN13 jdk_32_method_2_code 2 none ({ frames := 1, cells := 0, slots := 0, locals := 12 } : Room) ws #[(.ref a), (.ref rl)] h0 (Q_rm_oi Z a rl h0 n0) := by
 refine own_met (plainFor_of_name own_pn7) ?_
 intro p e s m below meth c s₁ hret hx hby hlk hml hown hnm X0 e0 hZ hh
 have N0 := Fr.nil n0
 refine Gz (castTop (own_ef_rm_oi m a rl)) ?_
 have KP : Keep h0 h0 [a] := Keep.refl _ _
 show Goes _ _ _ _ _ (fT s₁ m 0 #[vr a, vr rl] [])
 refine gA X0 hx hby d13_0 rfl rfl rfl ?_
 obtain ⟨T1, X1, e1, st1⟩ := initO X0 hx hZ hown (gw hw 168 rfl) (gw hw 76 rfl) (gw hw 77 rfl) e0 (g := (mkF m 1 #[vr a, vr rl] [(.ref a)])) rfl hml.symm rfl (hb hby d13_1) (by decide) (W := 0) (wz rfl) (by decide)
 refine Gs st1 ?_
 show Goes _ _ _ _ _ (fT T1 m 4 #[vr a, vr rl] [])
 refine gA X1 hx hby d13_4 rfl rfl rfl ?_
 refine gA X1 hx hby d13_5 rfl rfl rfl ?_
 obtain ⟨T2, h2, X2, e2, W2, st2⟩ := putF X1 hx hZ hown (host := "") (Or.inl (gw hw 169 rfl)) Via.refl e1 F_value_a A_a (Or.inr ⟨(gw hw 170 rfl), rfl, hnm⟩) (gw hw 163 rfl) (ty := (.object "java/lang/Object")) (by decide) rfl rfl (g := (mkF m 6 #[vr a, vr rl] [(.ref rl), (.ref a)])) rfl rfl (hb hby d13_6)
 have N2 := Fr.snoc X2 N0 g_a
 replace KP := KP.wr W2 (Or.inl (List.mem_of_getElem? (i := 0) rfl))
 replace F_value_a := F_value_a.same W2
 replace Z0 : n0 ≤ h2.size := by rw [W2.size]; exact Z0
 refine Gs st2 ?_
 show Goes _ _ _ _ _ (fT T2 m 9 #[vr a, vr rl] [])
 refine Goes.ret X2 none (fun _ => rfl) hlk (by decide) (by decide) ?_ (fun fs hr => ?_)
 ·rw [e2]; exact ⟨rfl, N2, KP, F_value_a⟩
 ·exact X2.returnOut hx hret (hb hby d13_9) hr
theorem d14_0 : DK kc4 0 (.aload_n 0) 1 := by decide +kernel
theorem d14_1 : DK kc4 1 (.ifnonnull 9) 3 := by decide +kernel
theorem d14_10 : DK kc4 10 (.new 2) 3 := by decide +kernel
theorem d14_13 : DK kc4 13 .dup 1 := by decide +kernel
theorem d14_14 : DK kc4 14 (.aload_n 0) 1 := by decide +kernel
theorem d14_15 : DK kc4 15 (.invokespecial 23) 3 := by decide +kernel
theorem own_pd5 : parseMethodDescriptor "(Ljava/lang/Object;)V" = some ⟨[(.object "java/lang/Object")], none⟩ := by decide +kernel
theorem d14_18 : DK kc4 18 .areturn 1 := by decide +kernel
theorem own_ef_rm_on (m : MethodId) (x0 : Addr) : entryFrame m #[(.ref x0)] 1 = mkF m 0 #[vr x0] [] := by first | (simp [entryFrame, mkF, argsToLocals, Value.category]; done) | rfl
def Q_rm_on (Z : State) (rl : Addr) (h0 : Heap) (n0 : Nat) (v : Option Value) (h : Heap) (L : List Loc) : Prop := ∃ o : Addr, v = some (.ref o) ∧ Fr n0 L ∧ Keep h0 h [] ∧ Exa Z h o "java/util/Optional" ∧ Fld Z h o "java/util/Optional" "value" "Ljava/lang/Object;" (.ref rl) ∧ n0 ≤ o ∧ h0.size ≤ o
theorem rm_on (l : Launch) (Z : State) (a0 : Array Value) (hw : HW a0 Z) (ws : List Jvm.Cond) (rl : Addr) (h0 : Heap) (n0 : Nat) (Z0 : n0 ≤ h0.size) :
  Met l Z mN14 jdk_32_method_4_code 1 (some (.object "java/util/Optional")) ({ frames := 2, cells := 1, slots := 1, locals := 26 } : Room) ws #[(.ref rl)] h0 (Q_rm_on Z rl h0 n0) := by
 refine own_met (plainFor_of_name own_pn7) ?_
 intro p e s m below meth c s₁ hret hx hby hlk hml hown hnm X0 e0 hZ hh
 have N0 := Fr.nil n0
 refine Gz (castTop (own_ef_rm_on m rl)) ?_
 have KP : Keep h0 h0 [] := Keep.refl _ _
 show Goes _ _ _ _ _ (fT s₁ m 0 #[vr rl] [])
 refine gA X0 hx hby d14_0 rfl rfl rfl ?_
 refine Gz (XS.ifnonnullYes X0.here hx rfl (pc0 := 1) (pc' := 10) rfl (hb hby d14_1) rfl (by decide) (by decide)) ?_
 obtain ⟨T1, h1, X1, e1, E1, A1, D1, U1, st1⟩ := newO X0 hx hZ hown (gw hw 162 rfl) (gw hw 163 rfl) (gw hw 160 rfl) e0 (g := (mkF m 10 #[vr rl] [])) rfl (hb hby d14_10) (by decide) (by decide)
 obtain ⟨b1, gq1⟩ : ∃ z, z = h0.size := ⟨_, rfl⟩
 rw [← gq1] at A1 st1 D1
 have g_b1 : n0 ≤ b1 := by rw [gq1]; exact Z0
 have sz_b1 : h0.size ≤ b1 := by rw [gq1]; exact KP.1
 replace KP := KP.ext E1
 replace Z0 : n0 ≤ h1.size := Nat.le_trans Z0 E1.1
 have A_b1 : Exa Z h1 b1 "java/util/Optional" := A1
 have F_value_b1 : Fld Z h1 b1 "java/util/Optional" "value" "Ljava/lang/Object;" .null := D1 (Or.inr (gw hw 170 rfl)) (ty := (.object "java/lang/Object")) (by decide)
 refine Gs st1 ?_
 show Goes _ _ _ _ _ (fT T1 m 13 #[vr rl] [(.ref b1)])
 refine Gz (XS.dup X1.here hx rfl (hb hby d14_13) rfl rfl) ?_
 refine gA X1 hx hby d14_14 rfl rfl rfl ?_
 refine cIg X1 hx hZ hw hown hby hml e1 mN13 164 165 167 160 1 (rm_oi l Z a0 hw [] b1 rl h1 n0 Z0 A_b1 F_value_b1 g_b1) d14_15 (lenOf own_pd5 rfl) (fun _ T2 L2 X2 hQ2 => ?_)
 obtain ⟨rfl, N2q, K2, F_value_b1_2'⟩ := hQ2
 have N2 := Fr.app N0 N2q
 replace A_b1 := A_b1.keep K2
 replace KP := KP.trans K2 (allS (Or.inr sz_b1) all0)
 replace Z0 := Nat.le_trans Z0 K2.1
 have F_value_b1 := F_value_b1_2'
 show Goes _ _ _ _ _ (fT T2 m 18 #[vr rl] [(.ref b1)])
 refine Goes.ret X2 (some (.ref b1)) (fun h => by rw [hret] at h; cases h) hlk (by decide) (by decide) ?_ (fun fs hr => ?_)
 ·exact ⟨b1, rfl, N2, KP, A_b1, F_value_b1, g_b1, sz_b1⟩
 ·exact own_retA X2 hx hret rfl rfl (hb hby d14_18) hr
theorem d15_0 : DK kc19 0 (.aload_n 0) 1 := by decide +kernel
theorem d15_1 : DK kc19 1 (.getfield 7) 3 := by decide +kernel
theorem d15_4 : DK kc19 4 (.invokestatic 25) 3 := by decide +kernel
theorem own_pd6 : parseMethodDescriptor "(Ljava/lang/Object;)Ljava/util/Optional;" = some ⟨[(.object "java/lang/Object")], some (.object "java/util/Optional")⟩ := by decide +kernel
theorem d15_7 : DK kc19 7 .areturn 1 := by decide +kernel
theorem own_ef_rm_xr (m : MethodId) (x0 : Addr) : entryFrame m #[(.ref x0)] 1 = mkF m 0 #[vr x0] [] := by first | (simp [entryFrame, mkF, argsToLocals, Value.category]; done) | rfl
def Q_rm_xr (Z : State) (a : Addr) (rl : Addr) (h0 : Heap) (n0 : Nat) (v : Option Value) (h : Heap) (L : List Loc) : Prop := ∃ o : Addr, v = some (.ref o) ∧ Fr n0 L ∧ Keep h0 h [] ∧ Exa Z h o "java/util/Optional" ∧ Fld Z h o "java/util/Optional" "value" "Ljava/lang/Object;" (.ref rl) ∧ n0 ≤ o ∧ h0.size ≤ o
theorem rm_xr (l : Launch) (Z : State) (a0 : Array Value) (hw : HW a0 Z) (ws : List Jvm.Cond) (a : Addr) (rl : Addr) (h0 : Heap) (n0 : Nat) (Z0 : n0 ≤ h0.size) (F_rule_a : Fld Z h0 a "com/example/surfacemap/surfacemap/model/DocumentException" "rule" "Lcom/example/surfacemap/surfacemap/model/Finding$Rule;" (.ref rl)) :
  Met l Z mN15 prog_4_method_3_code 1 (some (.object "java/util/Optional")) ({ frames := 3, cells := 1, slots := 1, locals := 38 } : Room) ws #[(.ref a)] h0 (Q_rm_xr Z a rl h0 n0) := by
 refine own_met (plainFor_of_name own_pn5) ?_
 intro p e s m below meth c s₁ hret hx hby hlk hml hown hnm X0 e0 hZ hh
 have N0 := Fr.nil n0
 refine Gz (castTop (own_ef_rm_xr m a)) ?_
 have KP : Keep h0 h0 [] := Keep.refl _ _
 show Goes _ _ _ _ _ (fT s₁ m 0 #[vr a] [])
 refine gA X0 hx hby d15_0 rfl rfl rfl ?_
 obtain ⟨T1, X1, e1, st1⟩ := getF X0 hx hZ hown (host := "") (Or.inl (gw hw 145 rfl)) Via.refl e0 F_rule_a (g := (mkF m 1 #[vr a] [(.ref a)])) rfl rfl (hb hby d15_1)
 refine Gs st1 ?_
 show Goes _ _ _ _ _ (fT T1 m 4 #[vr a] [(.ref rl)])
 have szs2 : h0.size ≤ h0.size := KP.1
 refine cSg X1 hx hZ hw hown hby hml e1 mN14 158 159 161 160 0 (rm_on l Z a0 hw [] rl h0 n0 Z0) d15_4 (lenOf own_pd6 rfl) (fun _ T2 L2 X2 hQ2 => ?_)
 obtain ⟨o2, rfl, N2q, K2, A_o2_2', F_value_o2_2', g_o2_2', sz_o2_2'⟩ := hQ2
 have N2 := Fr.app N0 N2q
 replace KP := KP.trans K2 all0
 replace Z0 := Nat.le_trans Z0 K2.1
 have A_o2 := A_o2_2'
 have F_value_o2 := F_value_o2_2'
 have g_o2 := g_o2_2'
 have szc_o2 := sz_o2_2'
 have sz_o2 : h0.size ≤ o2 := Nat.le_trans szs2 szc_o2
 show Goes _ _ _ _ _ (fT T2 m 7 #[vr a] [(.ref o2)])
 refine Goes.ret X2 (some (.ref o2)) (fun h => by rw [hret] at h; cases h) hlk (by decide) (by decide) ?_ (fun fs hr => ?_)
 ·exact ⟨o2, rfl, N2, KP, A_o2, F_value_o2, g_o2, sz_o2⟩
 ·exact own_retA X2 hx hret rfl rfl (hb hby d15_7) hr
theorem d16_0 : DK kc2 0 (.aload_n 0) 1 := by decide +kernel
theorem d16_1 : DK kc2 1 (.getfield 13) 3 := by decide +kernel
theorem d16_4 : DK kc2 4 (.ifnull 8) 3 := by decide +kernel
theorem d16_7 : DK kc2 7 (.aload_n 0) 1 := by decide +kernel
theorem d16_8 : DK kc2 8 (.getfield 13) 3 := by decide +kernel
theorem d16_11 : DK kc2 11 .areturn 1 := by decide +kernel
theorem own_ef_rm_oe (m : MethodId) (x0 : Addr) (x1 : Addr) : entryFrame m #[(.ref x0), (.ref x1)] 2 = mkF m 0 #[vr x0, vr x1] [] := by first | (simp [entryFrame, mkF, argsToLocals, Value.category]; done) | rfl
def Q_rm_oe (Z : State) (a : Addr) (b : Addr) (rl : Addr) (h0 : Heap) (n0 : Nat) (v : Option Value) (h : Heap) (L : List Loc) : Prop := v = some (.ref rl) ∧ Fr n0 L ∧ h = h0
theorem rm_oe (l : Launch) (Z : State) (a0 : Array Value) (hw : HW a0 Z) (ws : List Jvm.Cond) (a : Addr) (b : Addr) (rl : Addr) (h0 : Heap) (n0 : Nat) (Z0 : n0 ≤ h0.size) (F_value_a : Fld Z h0 a "java/util/Optional" "value" "Ljava/lang/Object;" (.ref rl)) :
  Met l Z mN16 jdk_32_method_18_code 2 (some (.object "java/lang/Object")) ({ frames := 0, cells := 0, slots := 0, locals := 0 } : Room) ws #[(.ref a), (.ref b)] h0 (Q_rm_oe Z a b rl h0 n0) := by
 refine own_met (plainFor_of_name own_pn7) ?_
 intro p e s m below meth c s₁ hret hx hby hlk hml hown hnm X0 e0 hZ hh
 have N0 := Fr.nil n0
 refine Gz (castTop (own_ef_rm_oe m a b)) ?_
 show Goes _ _ _ _ _ (fT s₁ m 0 #[vr a, vr b] [])
 refine gA X0 hx hby d16_0 rfl rfl rfl ?_
 obtain ⟨T1, X1, e1, st1⟩ := getF X0 hx hZ hown (host := "") (Or.inl (gw hw 169 rfl)) Via.refl e0 F_value_a (g := (mkF m 1 #[vr a, vr b] [(.ref a)])) rfl rfl (hb hby d16_1)
 refine Gs st1 ?_
 show Goes _ _ _ _ _ (fT T1 m 4 #[vr a, vr b] [(.ref rl)])
 refine Gz (XS.ifnullNo X1.here hx rfl (hb hby d16_4) rfl) ?_
 refine gA X1 hx hby d16_7 rfl rfl rfl ?_
 obtain ⟨T2, X2, e2, st2⟩ := getF X1 hx hZ hown (host := "") (Or.inl (gw hw 169 rfl)) Via.refl e1 F_value_a (g := (mkF m 8 #[vr a, vr b] [(.ref a)])) rfl rfl (hb hby d16_8)
 refine Gs st2 ?_
 show Goes _ _ _ _ _ (fT T2 m 11 #[vr a, vr b] [(.ref rl)])
 refine Goes.ret X2 (some (.ref rl)) (fun h => by rw [hret] at h; cases h) hlk (by decide) (by decide) ?_ (fun fs hr => ?_)
 ·exact ⟨rfl, N0, e2⟩
 ·exact own_retA X2 hx hret rfl rfl (hb hby d16_11) hr
theorem d17_0 : DK kc9 0 (.aload_n 0) 1 := by decide +kernel
theorem d17_1 : DK kc9 1 (.aload_n 1) 1 := by decide +kernel
theorem d17_2 : DK kc9 2 (.if_acmp .ne 5) 3 := by decide +kernel
theorem d17_5 : DK kc9 5 (.iconst 1) 1 := by decide +kernel
theorem d17_6 : DK kc9 6 .ireturn 1 := by decide +kernel
theorem own_ef_rm_eq (m : MethodId) (x0 : Addr) (x1 : Addr) : entryFrame m #[(.ref x0), (.ref x1)] 3 = mkF m 0 #[vr x0, vr x1, vu] [] := by first | (simp [entryFrame, mkF, argsToLocals, Value.category]; done) | rfl
def Q_rm_eq (Z : State) (a : Addr) (h0 : Heap) (n0 : Nat) (v : Option Value) (h : Heap) (L : List Loc) : Prop := v = some (.int 1) ∧ Fr n0 L ∧ h = h0
theorem rm_eq (l : Launch) (Z : State) (a0 : Array Value) (hw : HW a0 Z) (ws : List Jvm.Cond) (a : Addr) (h0 : Heap) (n0 : Nat) (Z0 : n0 ≤ h0.size) :
  Met l Z mN17 jdk_42_method_66_code 3 (some .boolean) ({ frames := 0, cells := 0, slots := 0, locals := 0 } : Room) ws #[(.ref a), (.ref a)] h0 (Q_rm_eq Z a h0 n0) := by
 refine own_met (plainFor_of_name own_pn0) ?_
 intro p e s m below meth c s₁ hret hx hby hlk hml hown hnm X0 e0 hZ hh
 have N0 := Fr.nil n0
 refine Gz (castTop (own_ef_rm_eq m a a)) ?_
 show Goes _ _ _ _ _ (fT s₁ m 0 #[vr a, vr a, vu] [])
 refine gA X0 hx hby d17_0 rfl rfl rfl ?_
 refine gA X0 hx hby d17_1 rfl rfl rfl ?_
 refine Gs (fun _ tk => Jvm.RoadKit.acmp (g := (mkF m 2 #[vr a, vr a, vu] [(.ref a), (.ref a)])) X0 hx rfl rfl rfl (pc0 := 2) (pc' := 5) (same := true) rfl (hb hby d17_2) rfl (decide_eq_true (congrArg Value.ref rfl)) (by decide) (by decide) tk) ?_
 refine gC X0 hx hby d17_5 ?_
 refine Goes.ret X0 (some (.int 1)) (fun h => by rw [hret] at h; cases h) hlk (by decide) (by decide) ?_ (fun fs hr => ?_)
 ·exact ⟨rfl, N0, e0⟩
 ·exact own_retN X0 hx (t := .boolean) hret (by simp) rfl (hb hby d17_6) hr
theorem d18_0 : decode method_5_code 0 = .ok (.aload_n 0, 1) := by decide +kernel
theorem d18_1 : decode method_5_code 1 = .ok (.ifnonnull 13, 3) := by decide +kernel
theorem d18_4 : decode method_5_code 4 = .ok (.aload_n 1, 1) := by decide +kernel
theorem d18_5 : decode method_5_code 5 = .ok (.ifnonnull 7, 3) := by decide +kernel
theorem d18_8 : decode method_5_code 8 = .ok (.iconst 1, 1) := by decide +kernel
theorem d18_9 : decode method_5_code 9 = .ok (.goto 4, 3) := by decide +kernel
theorem d18_13 : decode method_5_code 13 = .ok (.ireturn, 1) := by decide +kernel
theorem d18_14 : decode method_5_code 14 = .ok (.aload_n 0, 1) := by decide +kernel
theorem d18_15 : decode method_5_code 15 = .ok (.aload_n 1, 1) := by decide +kernel
theorem d18_16 : decode method_5_code 16 = .ok (.invokevirtual 134, 3) := by decide +kernel
theorem own_pd7 : parseMethodDescriptor "(Ljava/lang/Object;)Z" = some ⟨[(.object "java/lang/Object")], some .boolean⟩ := by decide +kernel
theorem d18_19 : decode method_5_code 19 = .ok (.ireturn, 1) := by decide +kernel
theorem own_pn8 : plainName "com/example/surfacemap/surfacemap/model/FindingOfPinLaw" = true := by first | (simp [plainName, overriddenIn]; done) | decide +kernel
theorem own_ef_rm_sm (m : MethodId) (x0 : Value) (hx0 : x0.isRef = true) (x1 : Value) (hx1 : x1.isRef = true) : entryFrame m #[x0, x1] 2 = mkF m 0 #[.val x0, .val x1] [] := by first | (simp [entryFrame, mkF, argsToLocals, Value.category]; done) | rfl | (rcases Jvm.Free.XT.refc hx0 with rfl | ⟨r, rfl⟩ <;> rfl) | (rcases Jvm.Free.XT.refc hx1 with rfl | ⟨r, rfl⟩ <;> rfl) | (rcases Jvm.Free.XT.refc hx0 with rfl | ⟨r0, rfl⟩ <;> rcases Jvm.Free.XT.refc hx1 with rfl | ⟨r1, rfl⟩ <;> rfl)
def Q_rm_sm (Z : State) (lo : Value) (h0 : Heap) (n0 : Nat) (v : Option Value) (h : Heap) (L : List Loc) : Prop := v = some (.int 1) ∧ Fr n0 L ∧ h = h0
theorem rm_sm (l : Launch) (Z : State) (a0 : Array Value) (hw : HW a0 Z) (ws : List Jvm.Cond) (lo : Value) (h0 : Heap) (n0 : Nat) (Z0 : n0 ≤ h0.size) (Sv_lo : StrV Z h0 lo) (r_lo : lo.isRef = true) :
  Met l Z mN18 method_5_code 2 (some .boolean) ({ frames := 1, cells := 0, slots := 0, locals := 14 } : Room) ws #[lo, lo] h0 (Q_rm_sm Z lo h0 n0) := by
 refine own_met (plainFor_of_name own_pn8) ?_
 intro p e s m below meth c s₁ hret hx hby hlk hml hown hnm X0 e0 hZ hh
 have N0 := Fr.nil n0
 refine Gz (castTop (own_ef_rm_sm m lo r_lo lo r_lo)) ?_
 show Goes _ _ _ _ _ (fT s₁ m 0 #[.val lo, .val lo] [])
 rcases Sv_lo with rfl | ⟨u, rfl, A_u⟩
 ·show Goes _ _ _ _ _ (fT s₁ m 0 #[.val .null, .val .null] [])
  refine gA X0 hx hby d18_0 rfl rfl rfl ?_
  refine Gz (XS.ifnonnullNo X0.here hx rfl (hb hby d18_1) rfl) ?_
  refine gA X0 hx hby d18_4 rfl rfl rfl ?_
  refine Gz (XS.ifnonnullNo X0.here hx rfl (hb hby d18_5) rfl) ?_
  refine gC X0 hx hby d18_8 ?_
  refine gG X0 hx hby d18_9 9 13 ?_
  show Goes _ _ _ _ _ (fT s₁ m 13 #[.val .null, .val .null] [(.int 1)])
  refine Goes.ret X0 (some (.int 1)) (fun h => by rw [hret] at h; cases h) hlk (by decide) (by decide) ?_ (fun fs hr => ?_)
  ·exact ⟨rfl, N0, e0⟩
  ·exact own_retN X0 hx (t := .boolean) hret (by simp) rfl (hb hby d18_13) hr
 ·show Goes _ _ _ _ _ (fT s₁ m 0 #[vr u, vr u] [])
  refine gA X0 hx hby d18_0 rfl rfl rfl ?_
  refine Gz (XS.ifnonnullYes X0.here hx rfl (pc0 := 1) (pc' := 14) rfl (hb hby d18_1) rfl (by decide) (by decide)) ?_
  refine gA X0 hx hby d18_14 rfl rfl rfl ?_
  refine gA X0 hx hby d18_15 rfl rfl rfl ?_
  refine cV X0 hx hZ hw hown hby hml e0 mN17 222 223 225 224 226 66 0 (rm_eq l Z a0 hw [] u h0 n0 Z0) A_u d18_16 (lenOf own_pd7 rfl) N0 (fun T1 L1 X1 e1 N1 => ?_)
  show Goes _ _ _ _ _ (fT T1 m 19 #[vr u, vr u] [(.int 1)])
  refine Goes.ret X1 (some (.int 1)) (fun h => by rw [hret] at h; cases h) hlk (by decide) (by decide) ?_ (fun fs hr => ?_)
  ·exact ⟨rfl, N1, e1⟩
  ·exact own_retN X1 hx (t := .boolean) hret (by simp) rfl (hb hby d18_19) hr
theorem d19_0 : DK kc10 0 (.iload_n 0) 1 := by decide +kernel
theorem d19_1 : DK kc10 1 (.sipush 255) 3 := by decide +kernel
theorem d19_4 : DK kc10 4 (.if_icmp .gt 7) 3 := by decide +kernel
theorem d19_7 : DK kc10 7 (.iconst 1) 1 := by decide +kernel
theorem d19_8 : DK kc10 8 (.goto 4) 3 := by decide +kernel
theorem d19_12 : DK kc10 12 .ireturn 1 := by decide +kernel
theorem own_pn9 : plainName "java/lang/StringLatin1" = true := by first | (simp [plainName, overriddenIn]; done) | decide +kernel
theorem own_ef_rm_enc (m : MethodId) (x0 : Int32) : entryFrame m #[(.int x0)] 1 = mkF m 0 #[vi x0] [] := by first | (simp [entryFrame, mkF, argsToLocals, Value.category]; done) | rfl
def Q_rm_enc (Z : State) (c0 : Int32) (h0 : Heap) (n0 : Nat) (v : Option Value) (h : Heap) (L : List Loc) : Prop := v = some (.int 1) ∧ Fr n0 L ∧ h = h0
theorem rm_enc (l : Launch) (Z : State) (a0 : Array Value) (hw : HW a0 Z) (ws : List Jvm.Cond) (c0 : Int32) (h0 : Heap) (n0 : Nat) (Z0 : n0 ≤ h0.size) (hn_c0 : ¬ ((255 : Int32) < c0)) :
  Met l Z mN19 jdk_43_method_3_code 1 (some .boolean) ({ frames := 0, cells := 0, slots := 0, locals := 0 } : Room) ws #[(.int c0)] h0 (Q_rm_enc Z c0 h0 n0) := by
 refine own_met (plainFor_of_name own_pn9) ?_
 intro p e s m below meth c s₁ hret hx hby hlk hml hown hnm X0 e0 hZ hh
 have N0 := Fr.nil n0
 refine Gz (castTop (own_ef_rm_enc m c0)) ?_
 show Goes _ _ _ _ _ (fT s₁ m 0 #[vi c0] [])
 refine gN X0 hx hby d19_0 rfl rfl ?_
 refine Gz (XS.sipush X0.here hx rfl (hb hby d19_1)) ?_
 refine gU X0 hx hby d19_4 (flt hn_c0).2.2.1 ?_
 refine gC X0 hx hby d19_7 ?_
 refine gG X0 hx hby d19_8 8 12 ?_
 refine Goes.ret X0 (some (.int 1)) (fun h => by rw [hret] at h; cases h) hlk (by decide) (by decide) ?_ (fun fs hr => ?_)
 ·exact ⟨rfl, N0, e0⟩
 ·exact own_retN X0 hx (t := .boolean) hret (by simp) rfl (hb hby d19_12) hr
theorem d20_0 : DK kc11 0 (.iconst 1) 1 := by decide +kernel
theorem d20_1 : DK kc11 1 (.newarray .byte) 2 := by decide +kernel
theorem d20_3 : DK kc11 3 .dup 1 := by decide +kernel
theorem d20_4 : DK kc11 4 (.iconst 0) 1 := by decide +kernel
theorem d20_5 : DK kc11 5 (.iload_n 0) 1 := by decide +kernel
theorem d20_6 : DK kc11 6 .i2b 1 := by decide +kernel
theorem d20_7 : DK kc11 7 .bastore 1 := by decide +kernel
theorem d20_8 : DK kc11 8 .areturn 1 := by decide +kernel
theorem own_ef_rm_ltb (m : MethodId) (x0 : Int32) : entryFrame m #[(.int x0)] 1 = mkF m 0 #[vi x0] [] := by first | (simp [entryFrame, mkF, argsToLocals, Value.category]; done) | rfl
def Q_rm_ltb (Z : State) (c0 : Int32) (h0 : Heap) (n0 : Nat) (v : Option Value) (h : Heap) (L : List Loc) : Prop := ∃ y : Addr, ∃ ky : ClassId, v = some (.ref y) ∧ Fr n0 L ∧ Keep h0 h [] ∧ Arv Z h y ky .byte 1 [(.int (lo8 c0))] (.int 0) ∧ n0 ≤ y ∧ h0.size ≤ y
theorem rm_ltb (l : Launch) (Z : State) (a0 : Array Value) (hw : HW a0 Z) (ws : List Jvm.Cond) (c0 : Int32) (h0 : Heap) (n0 : Nat) (Z0 : n0 ≤ h0.size) :
  Met l Z mN20 jdk_43_method_46_code 1 (some (.array .byte)) ({ frames := 0, cells := 1, slots := 1, locals := 0 } : Room) ws #[(.int c0)] h0 (Q_rm_ltb Z c0 h0 n0) := by
 refine own_met (plainFor_of_name own_pn9) ?_
 intro p e s m below meth c s₁ hret hx hby hlk hml hown hnm X0 e0 hZ hh
 have N0 := Fr.nil n0
 refine Gz (castTop (own_ef_rm_ltb m c0)) ?_
 have KP : Keep h0 h0 [] := Keep.refl _ _
 show Goes _ _ _ _ _ (fT s₁ m 0 #[vi c0] [])
 refine gC X0 hx hby d20_0 ?_
 obtain ⟨T1, h1, k1, X1, e1, E1, A1, st1⟩ := newP X0 hx hZ (gw hw 79 rfl) e0 (g := (mkF m 1 #[vi c0] [(.int 1)])) rfl (hb hby d20_1) rfl (by decide) (cap := 1) (by decide) (by decide) (by decide) (by decide)
 obtain ⟨b1, gq1⟩ : ∃ z, z = h0.size := ⟨_, rfl⟩
 rw [← gq1] at A1 st1
 have g_b1 : n0 ≤ b1 := by rw [gq1]; exact Z0
 have sz_b1 : h0.size ≤ b1 := by rw [gq1]; exact KP.1
 replace KP := KP.ext E1
 replace Z0 : n0 ≤ h1.size := Nat.le_trans Z0 E1.1
 have V_b1 : Arv Z h1 b1 k1 .byte 1 [(.int 0)] (.int 0) := (Arv.new A1 (by decide)).pad (pad_rep [] (.int 0) 1)
 refine Gs st1 ?_
 show Goes _ _ _ _ _ (fT T1 m 3 #[vi c0] [(.ref b1)])
 refine Gz (XS.dup X1.here hx rfl (hb hby d20_3) rfl rfl) ?_
 refine gC X1 hx hby d20_4 ?_
 refine gN X1 hx hby d20_5 rfl rfl ?_
 show Goes _ _ _ _ _ (fT T1 m 6 #[vi c0] [(.int c0), (.int 0), (.ref b1), (.ref b1)])
 refine Gz (XS.i2b X1.here hx rfl (hb hby d20_6) rfl) ?_
 show Goes _ _ _ _ _ (fT T1 m 7 #[vi c0] [(.int (c0.toInt8.toInt32)), (.int 0), (.ref b1), (.ref b1)])
 obtain ⟨cl2, Ar2, q2, S2, N2z, H2, G2⟩ := V_b1
 have hin2 : ¬ ((0 : Int32) < 0 ∨ cl2.slots.size ≤ ((0 : Int32)).toNatClampNeg) := inb_of S2 ⟨by decide, by decide⟩
 obtain ⟨T2, h2, X2, e2, W2, st2⟩ := stB X1 hx hZ e1 Ar2 (j := (0 : Int32)) hin2 (g := (mkF m 7 #[vi c0] [(.int (c0.toInt8.toInt32)), (.int 0), (.ref b1), (.ref b1)])) rfl rfl (hb hby d20_7)
 have Vn2 := Arv.set Ar2 q2 S2 N2z H2 G2 (fits_nar_byte _) W2 0 rfl (Nat.le_of_ble_eq_true rfl)
 have N2 := Fr.snoc X2 N0 g_b1
 replace KP := KP.wr W2 (Or.inr sz_b1)
 have V_b1 : Arv Z h2 b1 k1 .byte 1 [(.int (lo8 c0))] (.int 0) := by have q := Vn2; rw [own_nb2] at q; exact q
 replace Z0 : n0 ≤ h2.size := by rw [W2.size]; exact Z0
 refine Gs st2 ?_
 show Goes _ _ _ _ _ (fT T2 m 8 #[vi c0] [(.ref b1)])
 refine Goes.ret X2 (some (.ref b1)) (fun h => by rw [hret] at h; cases h) hlk (by decide) (by decide) ?_ (fun fs hr => ?_)
 ·rw [e2]; exact ⟨b1, k1, rfl, N2, KP, V_b1, g_b1, sz_b1⟩
 ·exact own_retA X2 hx hret rfl rfl (hb hby d20_8) hr
theorem d21_0 : DK kc7 0 (.aload_n 0) 1 := by decide +kernel
theorem d21_1 : DK kc7 1 (.invokespecial 1) 3 := by decide +kernel
theorem d21_4 : DK kc7 4 (.aload_n 0) 1 := by decide +kernel
theorem d21_5 : DK kc7 5 (.aload_n 1) 1 := by decide +kernel
theorem d21_6 : DK kc7 6 (.putfield 9) 3 := by decide +kernel
theorem d21_9 : DK kc7 9 (.aload_n 0) 1 := by decide +kernel
theorem d21_10 : DK kc7 10 (.iload_n 2) 1 := by decide +kernel
theorem d21_11 : DK kc7 11 (.putfield 15) 3 := by decide +kernel
theorem d21_14 : DK kc7 14 .return_ 1 := by decide +kernel
theorem own_ef_rm_ibb (m : MethodId) (x0 : Addr) (x1 : Addr) : entryFrame m #[(.ref x0), (.ref x1), (.int 0)] 3 = mkF m 0 #[vr x0, vr x1, vi 0] [] := by first | (simp [entryFrame, mkF, argsToLocals, Value.category]; done) | rfl
def Q_rm_ibb (Z : State) (a : Addr) (y : Addr) (h0 : Heap) (n0 : Nat) (v : Option Value) (h : Heap) (L : List Loc) : Prop := v = none ∧ Fr n0 L ∧ Keep h0 h [a] ∧ Fld Z h a "java/lang/String" "value" "[B" (.ref y) ∧ Fld Z h a "java/lang/String" "coder" "B" (.int 0)
theorem rm_ibb (l : Launch) (Z : State) (a0 : Array Value) (hw : HW a0 Z) (ws : List Jvm.Cond) (a : Addr) (y : Addr) (h0 : Heap) (n0 : Nat) (Z0 : n0 ≤ h0.size) (A_a : Exa Z h0 a "java/lang/String") (F_value_a : Fld Z h0 a "java/lang/String" "value" "[B" .null) (F_coder_a : Fld Z h0 a "java/lang/String" "coder" "B" (.int 0)) (g_a : n0 ≤ a) :
  Met l Z mN21 jdk_42_method_151_code 3 none ({ frames := 1, cells := 0, slots := 0, locals := 12 } : Room) ws #[(.ref a), (.ref y), (.int 0)] h0 (Q_rm_ibb Z a y h0 n0) := by
 refine own_met (plainFor_of_name own_pn0) ?_
 intro p e s m below meth c s₁ hret hx hby hlk hml hown hnm X0 e0 hZ hh
 have N0 := Fr.nil n0
 refine Gz (castTop (own_ef_rm_ibb m a y)) ?_
 have KP : Keep h0 h0 [a] := Keep.refl _ _
 show Goes _ _ _ _ _ (fT s₁ m 0 #[vr a, vr y, vi 0] [])
 refine gA X0 hx hby d21_0 rfl rfl rfl ?_
 obtain ⟨T1, X1, e1, st1⟩ := initO X0 hx hZ hown (gw hw 75 rfl) (gw hw 76 rfl) (gw hw 77 rfl) e0 (g := (mkF m 1 #[vr a, vr y, vi 0] [(.ref a)])) rfl hml.symm rfl (hb hby d21_1) (by decide) (W := 0) (wz rfl) (by decide)
 refine Gs st1 ?_
 show Goes _ _ _ _ _ (fT T1 m 4 #[vr a, vr y, vi 0] [])
 refine gA X1 hx hby d21_4 rfl rfl rfl ?_
 refine gA X1 hx hby d21_5 rfl rfl rfl ?_
 obtain ⟨T2, h2, X2, e2, W2, st2⟩ := putF X1 hx hZ hown (host := "") (Or.inl (gw hw 84 rfl)) Via.refl e1 F_value_a A_a (Or.inr ⟨(gw hw 80 rfl), rfl, hnm⟩) (gw hw 65 rfl) (ty := (.array .byte)) (by decide) rfl rfl (g := (mkF m 6 #[vr a, vr y, vi 0] [(.ref y), (.ref a)])) rfl rfl (hb hby d21_6)
 have N2 := Fr.snoc X2 N0 g_a
 replace A_a := A_a.wr W2
 replace F_coder_a := F_coder_a.other W2 (Or.inr (slot_ne (Or.inr (gw hw 81 rfl)) (Or.inr (gw hw 80 rfl)) (by decide) (t := .byte) (t' := (.array .byte)) (by decide) (by decide)))
 replace KP := KP.wr W2 (Or.inl (List.mem_of_getElem? (i := 0) rfl))
 replace F_value_a := F_value_a.same W2
 replace Z0 : n0 ≤ h2.size := by rw [W2.size]; exact Z0
 refine Gs st2 ?_
 show Goes _ _ _ _ _ (fT T2 m 9 #[vr a, vr y, vi 0] [])
 refine gA X2 hx hby d21_9 rfl rfl rfl ?_
 refine gN X2 hx hby d21_10 rfl rfl ?_
 obtain ⟨T3, h3, X3, e3, W3, st3⟩ := putFN X2 hx hZ hown (gw hw 85 rfl) Via.refl e2 F_coder_a A_a (Or.inr ⟨(gw hw 81 rfl), rfl, hnm⟩) (gw hw 65 rfl) (ty := .byte) (v' := .int 0) (by decide) rfl rfl (g := (mkF m 11 #[vr a, vr y, vi 0] [(.int 0), (.ref a)])) rfl rfl (hb hby d21_11)
 have N3 := Fr.snoc X3 N2 g_a
 replace F_value_a := F_value_a.other W3 (Or.inr (slot_ne (Or.inr (gw hw 80 rfl)) (Or.inr (gw hw 81 rfl)) (by decide) (t := (.array .byte)) (t' := .byte) (by decide) (by decide)))
 replace KP := KP.wr W3 (Or.inl (List.mem_of_getElem? (i := 0) rfl))
 replace F_coder_a := F_coder_a.same W3
 replace Z0 : n0 ≤ h3.size := by rw [W3.size]; exact Z0
 refine Gs st3 ?_
 show Goes _ _ _ _ _ (fT T3 m 14 #[vr a, vr y, vi 0] [])
 refine Goes.ret X3 none (fun _ => rfl) hlk (by decide) (by decide) ?_ (fun fs hr => ?_)
 ·rw [e3]; exact ⟨rfl, N3, KP, F_value_a, F_coder_a⟩
 ·exact X3.returnOut hx hret (hb hby d21_14) hr
theorem d22_0 : DK kc5 0 (.getstatic 38) 3 := by decide +kernel
theorem d22_3 : DK kc5 3 (.ifCond .eq 23) 3 := by decide +kernel
theorem d22_6 : DK kc5 6 (.iload_n 0) 1 := by decide +kernel
theorem d22_7 : DK kc5 7 (.invokestatic 1015) 3 := by decide +kernel
theorem own_pd8 : parseMethodDescriptor "(C)Z" = some ⟨[.char], some .boolean⟩ := by decide +kernel
theorem d22_10 : DK kc5 10 (.ifCond .eq 16) 3 := by decide +kernel
theorem d22_13 : DK kc5 13 (.new 10) 3 := by decide +kernel
theorem d22_16 : DK kc5 16 .dup 1 := by decide +kernel
theorem d22_17 : DK kc5 17 (.iload_n 0) 1 := by decide +kernel
theorem d22_18 : DK kc5 18 (.invokestatic 1018) 3 := by decide +kernel
theorem own_pd9 : parseMethodDescriptor "(C)[B" = some ⟨[.char], some (.array .byte)⟩ := by decide +kernel
theorem d22_21 : DK kc5 21 (.iconst 0) 1 := by decide +kernel
theorem d22_22 : DK kc5 22 (.invokespecial 209) 3 := by decide +kernel
theorem own_pd10 : parseMethodDescriptor "([BB)V" = some ⟨[(.array .byte), .byte], none⟩ := by decide +kernel
theorem d22_25 : DK kc5 25 .areturn 1 := by decide +kernel
theorem own_ef_rm_vo (m : MethodId) (x0 : Int32) : entryFrame m #[(.int x0)] 1 = mkF m 0 #[vi x0] [] := by first | (simp [entryFrame, mkF, argsToLocals, Value.category]; done) | rfl
def Q_rm_vo (Z : State) (c0 : Int32) (cz : Int32) (h0 : Heap) (n0 : Nat) (v : Option Value) (h : Heap) (L : List Loc) : Prop := ∃ u : Addr, v = some (.ref u) ∧ Fr n0 L ∧ Keep h0 h [] ∧ Exa Z h u "java/lang/String"
theorem rm_vo (l : Launch) (Z : State) (a0 : Array Value) (hw : HW a0 Z) (ws : List Jvm.Cond) (c0 : Int32) (cz : Int32) (h0 : Heap) (n0 : Nat) (Z0 : n0 ≤ h0.size) (hL_c0 : Lat c0) (sgC : Sta Z h0 "java/lang/String" "COMPACT_STRINGS" "Z" (.int cz)) (hcz : ¬ (cz = 0)) :
  Met l Z mN22 jdk_42_method_139_code 1 (some (.object "java/lang/String")) ({ frames := 2, cells := 2, slots := 5, locals := 27 } : Room) ws #[(.int c0)] h0 (Q_rm_vo Z c0 cz h0 n0) := by
 refine own_met (plainFor_of_name own_pn0) ?_
 intro p e s m below meth c s₁ hret hx hby hlk hml hown hnm X0 e0 hZ hh
 have N0 := Fr.nil n0
 refine Gz (castTop (own_ef_rm_vo m c0)) ?_
 have KP : Keep h0 h0 [] := Keep.refl _ _
 show Goes _ _ _ _ _ (fT s₁ m 0 #[vi c0] [])
 obtain ⟨T1, X1, e1, st1⟩ := getS2 X0 hx hZ hown (host := "") (Or.inl (gw hw 235 rfl)) Via.refl e0 sgC (g := (mkF m 0 #[vi c0] [])) rfl (hb hby d22_0)
 refine Gs st1 ?_
 show Goes _ _ _ _ _ (fT T1 m 3 #[vi c0] [(.int cz)])
 refine gu X1 hx hby d22_3 ((if0 _ _).trans (feq hcz).1) ?_
 refine gN X1 hx hby d22_6 rfl rfl ?_
 refine cS X1 hx hZ hw hown hby hml e1 mN19 236 237 239 238 0 (rm_enc l Z a0 hw [] c0 h0 n0 Z0 (own_latN hL_c0)) d22_7 (lenOf own_pd8 rfl) N0 (fun T2 L2 X2 e2 N2 => ?_)
 show Goes _ _ _ _ _ (fT T2 m 10 #[vi c0] [(.int 1)])
 refine gu X2 hx hby d22_10 ((if0 _ _).trans (feq (by decide : ¬ ((1 : Int32) = (0 : Int32)))).1) ?_
 obtain ⟨T3, h3, X3, e3, E3, A3, D3, U3, st3⟩ := newO X2 hx hZ hown (gw hw 240 rfl) (gw hw 65 rfl) (gw hw 66 rfl) e2 (g := (mkF m 13 #[vi c0] [])) rfl (hb hby d22_13) (by decide) (by decide)
 obtain ⟨b3, gq3⟩ : ∃ z, z = h0.size := ⟨_, rfl⟩
 rw [← gq3] at A3 st3 D3
 have g_b3 : n0 ≤ b3 := by rw [gq3]; exact Z0
 have sz_b3 : h0.size ≤ b3 := by rw [gq3]; exact KP.1
 replace KP := KP.ext E3
 replace Z0 : n0 ≤ h3.size := Nat.le_trans Z0 E3.1
 have A_b3 : Exa Z h3 b3 "java/lang/String" := A3
 have F_value_b3 : Fld Z h3 b3 "java/lang/String" "value" "[B" .null := D3 (Or.inr (gw hw 80 rfl)) (ty := (.array .byte)) (by decide)
 have F_coder_b3 : Fld Z h3 b3 "java/lang/String" "coder" "B" (.int 0) := D3 (Or.inr (gw hw 81 rfl)) (ty := .byte) (by decide)
 refine Gs st3 ?_
 show Goes _ _ _ _ _ (fT T3 m 16 #[vi c0] [(.ref b3)])
 refine Gz (XS.dup X3.here hx rfl (hb hby d22_16) rfl rfl) ?_
 refine gN X3 hx hby d22_17 rfl rfl ?_
 refine cSg X3 hx hZ hw hown hby hml e3 mN20 241 242 243 238 2 (rm_ltb l Z a0 hw [] c0 h3 n0 Z0) d22_18 (lenOf own_pd9 rfl) (fun _ T4 L4 X4 hQ4 => ?_)
 obtain ⟨y4, ky4, rfl, N4q, K4, V_y4_4', g_y4_4', sz_y4_4'⟩ := hQ4
 have N4 := Fr.app N2 N4q
 replace A_b3 := A_b3.keep K4
 replace F_value_b3 := F_value_b3.keep K4 nin0
 replace F_coder_b3 := F_coder_b3.keep K4 nin0
 replace KP := KP.trans K4 all0
 replace Z0 := Nat.le_trans Z0 K4.1
 show Goes _ _ _ _ _ (fT T4 m 21 #[vi c0] [(.ref y4), (.ref b3), (.ref b3)])
 refine gC X4 hx hby d22_21 ?_
 refine cIg X4 hx hZ hw hown hby hml rfl mN21 244 245 246 66 1 (rm_ibb l Z a0 hw [] b3 y4 T4.heap n0 Z0 A_b3 F_value_b3 F_coder_b3 g_b3) d22_22 (lenOf own_pd10 rfl) (fun _ T5 L5 X5 hQ5 => ?_)
 obtain ⟨rfl, N5q, K5, F_value_b3_5', F_coder_b3_5'⟩ := hQ5
 have N5 := Fr.app N4 N5q
 replace A_b3 := A_b3.keep K5
 replace KP := KP.trans K5 (allS (Or.inr sz_b3) all0)
 replace Z0 := Nat.le_trans Z0 K5.1
 show Goes _ _ _ _ _ (fT T5 m 25 #[vi c0] [(.ref b3)])
 refine Goes.ret X5 (some (.ref b3)) (fun h => by rw [hret] at h; cases h) hlk (by decide) (by decide) ?_ (fun fs hr => ?_)
 ·exact ⟨b3, rfl, N5, KP, A_b3⟩
 ·exact own_retA X5 hx hret rfl rfl (hb hby d22_25) hr
theorem d23_0 : decode method_4_code 0 = .ok (.iload_n 0, 1) := by decide +kernel
theorem d23_1 : decode method_4_code 1 = .ok (.sipush 255, 3) := by decide +kernel
theorem d23_4 : decode method_4_code 4 = .ok (.iand, 1) := by decide +kernel
theorem d23_5 : decode method_4_code 5 = .ok (.i2c, 1) := by decide +kernel
theorem d23_6 : decode method_4_code 6 = .ok (.istore_n 2, 1) := by decide +kernel
theorem d23_7 : decode method_4_code 7 = .ok (.iload_n 0, 1) := by decide +kernel
theorem d23_8 : decode method_4_code 8 = .ok (.bipush 8, 2) := by decide +kernel
theorem d23_10 : decode method_4_code 10 = .ok (.iushr, 1) := by decide +kernel
theorem d23_11 : decode method_4_code 11 = .ok (.sipush 255, 3) := by decide +kernel
theorem d23_14 : decode method_4_code 14 = .ok (.iand, 1) := by decide +kernel
theorem d23_15 : decode method_4_code 15 = .ok (.i2c, 1) := by decide +kernel
theorem d23_16 : decode method_4_code 16 = .ok (.istore_n 3, 1) := by decide +kernel
theorem d23_17 : decode method_4_code 17 = .ok (.iload_n 1, 1) := by decide +kernel
theorem d23_18 : decode method_4_code 18 = .ok (.ifCond .ne 5, 3) := by decide +kernel
theorem d23_21 : decode method_4_code 21 = .ok (.aconst_null, 1) := by decide +kernel
theorem d23_22 : decode method_4_code 22 = .ok (.areturn, 1) := by decide +kernel
theorem d23_23 : decode method_4_code 23 = .ok (.iload_n 1, 1) := by decide +kernel
theorem d23_24 : decode method_4_code 24 = .ok (.iconst 1, 1) := by decide +kernel
theorem d23_25 : decode method_4_code 25 = .ok (.if_icmp .ne 14, 3) := by decide +kernel
theorem d23_28 : decode method_4_code 28 = .ok (.new 125, 3) := by decide +kernel
theorem d23_31 : decode method_4_code 31 = .ok (.dup, 1) := by decide +kernel
theorem d23_32 : decode method_4_code 32 = .ok (.iconst 0, 1) := by decide +kernel
theorem d23_33 : decode method_4_code 33 = .ok (.newarray .char, 2) := by decide +kernel
theorem d23_35 : decode method_4_code 35 = .ok (.invokespecial 127, 3) := by decide +kernel
theorem own_pd11 : parseMethodDescriptor "([C)V" = some ⟨[(.array .char)], none⟩ := by decide +kernel
theorem d23_38 : decode method_4_code 38 = .ok (.areturn, 1) := by decide +kernel
theorem d23_39 : decode method_4_code 39 = .ok (.iload_n 1, 1) := by decide +kernel
theorem d23_40 : decode method_4_code 40 = .ok (.iconst 2, 1) := by decide +kernel
theorem d23_41 : decode method_4_code 41 = .ok (.if_icmp .ne 8, 3) := by decide +kernel
theorem d23_44 : decode method_4_code 44 = .ok (.iload_n 2, 1) := by decide +kernel
theorem d23_45 : decode method_4_code 45 = .ok (.invokestatic 130, 3) := by decide +kernel
theorem own_pd12 : parseMethodDescriptor "(C)Ljava/lang/String;" = some ⟨[.char], some (.object "java/lang/String")⟩ := by decide +kernel
theorem d23_48 : decode method_4_code 48 = .ok (.areturn, 1) := by decide +kernel
theorem d23_49 : decode method_4_code 49 = .ok (.new 125, 3) := by decide +kernel
theorem d23_52 : decode method_4_code 52 = .ok (.dup, 1) := by decide +kernel
theorem d23_53 : decode method_4_code 53 = .ok (.iconst 2, 1) := by decide +kernel
theorem d23_54 : decode method_4_code 54 = .ok (.newarray .char, 2) := by decide +kernel
theorem d23_56 : decode method_4_code 56 = .ok (.dup, 1) := by decide +kernel
theorem d23_57 : decode method_4_code 57 = .ok (.iconst 0, 1) := by decide +kernel
theorem d23_58 : decode method_4_code 58 = .ok (.iload_n 2, 1) := by decide +kernel
theorem d23_59 : decode method_4_code 59 = .ok (.castore, 1) := by decide +kernel
theorem d23_60 : decode method_4_code 60 = .ok (.dup, 1) := by decide +kernel
theorem d23_61 : decode method_4_code 61 = .ok (.iconst 1, 1) := by decide +kernel
theorem d23_62 : decode method_4_code 62 = .ok (.iload_n 3, 1) := by decide +kernel
theorem d23_63 : decode method_4_code 63 = .ok (.castore, 1) := by decide +kernel
theorem d23_64 : decode method_4_code 64 = .ok (.invokespecial 127, 3) := by decide +kernel
theorem d23_67 : decode method_4_code 67 = .ok (.areturn, 1) := by decide +kernel
theorem own_ef_rm_str (m : MethodId) (x0 : Int32) (x1 : Int32) : entryFrame m #[(.int x0), (.int x1)] 4 = mkF m 0 #[vi x0, vi x1, vu, vu] [] := by first | (simp [entryFrame, mkF, argsToLocals, Value.category]; done) | rfl
def Q_rm_str (Z : State) (x : Int32) (y : Int32) (cz : Int32) (h0 : Heap) (n0 : Nat) (v : Option Value) (h : Heap) (L : List Loc) : Prop := ∃ r : Value, v = some r ∧ Fr n0 L ∧ Keep h0 h [] ∧ StrV Z h r
theorem rm_str (l : Launch) (Z : State) (a0 : Array Value) (hw : HW a0 Z) (ws : List Jvm.Cond) (x : Int32) (y : Int32) (cz : Int32) (h0 : Heap) (n0 : Nat) (Z0 : n0 ≤ h0.size) (sgC : Sta Z h0 "java/lang/String" "COMPACT_STRINGS" "Z" (.int cz)) (hcz : ¬ (cz = 0)) :
  MetH l Z mN23 method_4_code 4 (some (.object "java/lang/String")) ({ frames := 4, cells := 6, slots := 12, locals := 66 } : Room) ws #[(.int x), (.int y)] h0 (Q_rm_str Z x y cz h0 n0) := by
 refine own_metH (plainFor_of_name own_pn8) ?_
 intro p e s m below meth c s₁ hret hx hby hlk hml hown hnm X0 e0 hZ hh hC0
 have N0 := Fr.nil n0
 have hS : s.Since s.vm h0.size := (State.WarmedH.refl s).since _
 have hk : h0.size ≤ h0.size := Nat.le_refl _
 replace hZ : Z.Warmed39 (s.setVm s.vm).vm := hZ
 have hR : CHr Z consts_1 s.vm h0 s.vm h0 := CHr.refl hC0
 refine Gz (castTop (own_ef_rm_str m x y)) ?_
 have KP : Keep h0 h0 [] := Keep.refl _ _
 show Goes _ _ _ _ _ (fT s₁ m 0 #[vi x, vi y, vu, vu] [])
 refine gN X0 hx hby d23_0 rfl rfl ?_
 refine Gz (XS.sipush X0.here hx rfl (hb hby d23_1)) ?_
 show Goes _ _ _ _ _ (fT s₁ m 4 #[vi x, vi y, vu, vu] [(.int 255), (.int x)])
 refine Gz (XS.iand X0.here hx rfl (hb hby d23_4) rfl) ?_
 show Goes _ _ _ _ _ (fT s₁ m 5 #[vi x, vi y, vu, vu] [(.int (x &&& 255))])
 refine Gz (XS.i2c X0.here hx rfl (hb hby d23_5) rfl) ?_
 show Goes _ _ _ _ _ (fT s₁ m 6 #[vi x, vi y, vu, vu] [(.int ((x &&& 255).toUInt32.toUInt16.toUInt32.toInt32))])
 have hL_c0 : Lat ((x &&& 255).toUInt32.toUInt16.toUInt32.toInt32) := own_latI _
 generalize ((x &&& 255).toUInt32.toUInt16.toUInt32.toInt32) = c0 at hL_c0 ⊢
 show Goes _ _ _ _ _ (fT s₁ m 6 #[vi x, vi y, vu, vu] [(.int c0)])
 refine gs X0 hx hby d23_6 #[vi x, vi y, vi c0, vu] ?_
 refine gN X0 hx hby d23_7 rfl rfl ?_
 refine gB X0 hx hby d23_8 ?_
 show Goes _ _ _ _ _ (fT s₁ m 10 #[vi x, vi y, vi c0, vu] [(.int 8), (.int x)])
 refine Gz (XS.iushr X0.here hx rfl (hb hby d23_10) rfl) ?_
 show Goes _ _ _ _ _ (fT s₁ m 11 #[vi x, vi y, vi c0, vu] [(.int ((x.toUInt32 >>> ((8 : Int32) &&& 31).toUInt32).toInt32))])
 refine Gz (XS.sipush X0.here hx rfl (hb hby d23_11)) ?_
 show Goes _ _ _ _ _ (fT s₁ m 14 #[vi x, vi y, vi c0, vu] [(.int 255), (.int ((x.toUInt32 >>> ((8 : Int32) &&& 31).toUInt32).toInt32))])
 refine Gz (XS.iand X0.here hx rfl (hb hby d23_14) rfl) ?_
 show Goes _ _ _ _ _ (fT s₁ m 15 #[vi x, vi y, vi c0, vu] [(.int (((x.toUInt32 >>> ((8 : Int32) &&& 31).toUInt32).toInt32) &&& (255 : Int32)))])
 refine Gz (XS.i2c X0.here hx rfl (hb hby d23_15) rfl) ?_
 show Goes _ _ _ _ _ (fT s₁ m 16 #[vi x, vi y, vi c0, vu] [(.int ((((x.toUInt32 >>> ((8 : Int32) &&& 31).toUInt32).toInt32) &&& (255 : Int32)).toUInt32.toUInt16.toUInt32.toInt32))])
 have hL_c1 : Lat ((((x.toUInt32 >>> ((8 : Int32) &&& 31).toUInt32).toInt32) &&& (255 : Int32)).toUInt32.toUInt16.toUInt32.toInt32) := own_latI _
 generalize ((((x.toUInt32 >>> ((8 : Int32) &&& 31).toUInt32).toInt32) &&& (255 : Int32)).toUInt32.toUInt16.toUInt32.toInt32) = c1 at hL_c1 ⊢
 show Goes _ _ _ _ _ (fT s₁ m 16 #[vi x, vi y, vi c0, vu] [(.int c1)])
 refine gs X0 hx hby d23_16 #[vi x, vi y, vi c0, vi c1] ?_
 refine gN X0 hx hby d23_17 rfl rfl ?_
 by_cases hc18_1 : y = 0
 ·refine gu X0 hx hby d23_18 ((if0 _ _).trans (teq hc18_1).2) ?_
  refine Gz (XS.aconstNull X0.here hx rfl (hb hby d23_21)) ?_
  have Sv_r : StrV Z h0 .null := Or.inl rfl
  refine Goes.retH X0 hS e0 hk hZ (own_EW hw) hh hR (some .null) (fun h => by rw [hret] at h; cases h) hlk (by decide) (by decide) ?_ (fun fs hr => ?_)
  ·rw [e0]; exact ⟨(.null), rfl, N0, KP, Sv_r⟩
  ·exact own_retA X0 hx hret rfl rfl (hb hby d23_22) hr
 ·refine gy X0 hx hby d23_18 18 23 ((if0 _ _).trans (feq hc18_1).2) ?_
  refine gN X0 hx hby d23_23 rfl rfl ?_
  refine gC X0 hx hby d23_24 ?_
  by_cases hc25_2 : y = 1
  ·refine gU X0 hx hby d23_25 (teq hc25_2).2 ?_
   show Goes _ _ _ _ _ (fT s₁ m 28 #[vi x, vi y, vi c0, vi c1] [])
   obtain ⟨T3, h3, X3, e3, E3, A3, D3, U3, st3⟩ := newO X0 hx hZ hown (gw hw 64 rfl) (gw hw 65 rfl) (gw hw 66 rfl) e0 (g := (mkF m 28 #[vi x, vi y, vi c0, vi c1] [])) rfl (hb hby d23_28) (by decide) (by decide)
   obtain ⟨b3, gq3⟩ : ∃ z, z = h0.size := ⟨_, rfl⟩
   rw [← gq3] at A3 st3 D3
   have g_b3 : n0 ≤ b3 := by rw [gq3]; exact Z0
   have sz_b3 : h0.size ≤ b3 := by rw [gq3]; exact KP.1
   replace hR := hR.trans (CHr.ext E3 hR.1)
   replace sgC := sgC.ext E3
   replace KP := KP.ext E3
   replace Z0 : n0 ≤ h3.size := Nat.le_trans Z0 E3.1
   replace hk := Nat.le_trans hk E3.1
   have A_b3 : Exa Z h3 b3 "java/lang/String" := A3
   have F_value_b3 : Fld Z h3 b3 "java/lang/String" "value" "[B" .null := D3 (Or.inr (gw hw 80 rfl)) (ty := (.array .byte)) (by decide)
   have F_coder_b3 : Fld Z h3 b3 "java/lang/String" "coder" "B" (.int 0) := D3 (Or.inr (gw hw 81 rfl)) (ty := .byte) (by decide)
   refine Gs st3 ?_
   show Goes _ _ _ _ _ (fT T3 m 31 #[vi x, vi y, vi c0, vi c1] [(.ref b3)])
   refine Gz (XS.dup X3.here hx rfl (hb hby d23_31) rfl rfl) ?_
   refine gC X3 hx hby d23_32 ?_
   obtain ⟨T4, h4, k4, X4, e4, E4, A4, st4⟩ := newP X3 hx hZ (gw hw 67 rfl) e3 (g := (mkF m 33 #[vi x, vi y, vi c0, vi c1] [(.int 0), (.ref b3), (.ref b3)])) rfl (hb hby d23_33) rfl (by decide) (cap := 0) (by decide) (by decide) (by decide) (by decide)
   obtain ⟨b4, gq4⟩ : ∃ z, z = h3.size := ⟨_, rfl⟩
   rw [← gq4] at A4 st4
   have ne_b3_b4 : b3 ≠ b4 := by rw [gq4]; exact Nat.ne_of_lt A_b3.lt
   replace hR := hR.trans (CHr.ext E4 hR.1)
   replace sgC := sgC.ext E4
   replace A_b3 := A_b3.ext E4
   replace F_value_b3 := F_value_b3.ext E4
   replace F_coder_b3 := F_coder_b3.ext E4
   replace KP := KP.ext E4
   replace Z0 : n0 ≤ h4.size := Nat.le_trans Z0 E4.1
   replace hk := Nat.le_trans hk E4.1
   have V_b4 : Arv Z h4 b4 k4 .char 0 [] (.int 0) := Arv.new A4 (by decide)
   refine Gs st4 ?_
   show Goes _ _ _ _ _ (fT T4 m 35 #[vi x, vi y, vi c0, vi c1] [(.ref b4), (.ref b3), (.ref b3)])
   obtain ⟨_, _, ⟨T5, L5, k5, n5⟩, -, X5, hS5, gr5, ⟨Lc5, hQ5, l5, y5, z5, hC5⟩, st5⟩ := X4.specialBackS hx (y := mN1) rfl hown (gz hZ hw 68 rfl) (gz hZ hw 69 rfl) (gz hZ hw 70 rfl) (by decide) (backOfSH (W := 1) (rs_i1_0 l Z a0 hw [] b3 b4 k4 h4 n0 Z0 A_b3 F_value_b3 F_coder_b3 V_b4 g_b3 (Ne.symm ne_b3_b4)) hZ (gw hw 70 rfl) (gw hw 66 rfl) (by decide) (by decide) (own_EW hw) hR.1) (g := (mkF m 35 #[vi x, vi y, vi c0, vi c1] [(.ref b4), (.ref b3), (.ref b3)])) rfl hml.symm (Steps.refl _) (a := b3) (argsL := [(.ref b4)]) (rest := [(.ref b3)]) (lenOf own_pd11 rfl) rfl (wz rfl) (hb hby d23_35) (fun _ _ => ⟨rfl, e4, (by decide : 2 + 4 ≤ _), (by decide : 4 + 8 ≤ _)⟩)
   dsimp only [Pt.U, Pt.locs, Pt.cells, Pt.slots] at X5 l5 y5 z5 st5 hQ5 hS5 gr5 hC5
   subst l5 y5 z5
   obtain ⟨X5, hS, hZ, hown⟩ := rebS hS hk X5 hS5 (by have q := gr5; rw [e4] at q; exact q) hZ hown
   replace hk : T5.heap.size ≤ T5.heap.size := Nat.le_refl _
   obtain ⟨rfl, N5q, K5, T_b3_5'⟩ := hQ5
   have N5 := Fr.app N0 N5q
   replace hR := hR.trans hC5
   replace sgC := own_staK sgC K5 (allS (own_obE A_b3) all0)
   replace A_b3 := A_b3.keep K5
   replace KP := KP.trans K5 (allS (Or.inr sz_b3) all0)
   replace Z0 := Nat.le_trans Z0 K5.1
   have T_b3 := T_b3_5'
   refine Gs (fun _ tk => st5.trans tk) ?_
   show Goes _ _ _ _ _ (fT T5 m 38 #[vi x, vi y, vi c0, vi c1] [(.ref b3)])
   have Sv_r : StrV Z T5.heap (.ref b3) := Or.inr ⟨_, rfl, A_b3⟩
   refine Goes.retH X5 hS rfl hk hZ (own_EW hw) hh hR (some (.ref b3)) (fun h => by rw [hret] at h; cases h) hlk (by decide) (by decide) ?_ (fun fs hr => ?_)
   ·exact ⟨(.ref b3), rfl, N5, KP, Sv_r⟩
   ·exact own_retA X5 hx hret rfl rfl (hb hby d23_38) hr
  ·refine gY X0 hx hby d23_25 25 39 (feq hc25_2).2 ?_
   show Goes _ _ _ _ _ (fT s₁ m 39 #[vi x, vi y, vi c0, vi c1] [])
   refine gN X0 hx hby d23_39 rfl rfl ?_
   refine gC X0 hx hby d23_40 ?_
   by_cases hc41_6 : y = 2
   ·refine gU X0 hx hby d23_41 (teq hc41_6).2 ?_
    refine gN X0 hx hby d23_44 rfl rfl ?_
    refine cSg X0 hx hZ hw hown hby hml e0 mN22 232 233 234 66 0 (rm_vo l Z a0 hw [] c0 cz h0 n0 Z0 hL_c0 sgC hcz) d23_45 (lenOf own_pd12 rfl) (fun _ T7 L7 X7 hQ7 => ?_)
    obtain ⟨u7, rfl, N7q, K7, A_u7_7'⟩ := hQ7
    have N7 := Fr.app N0 N7q
    replace sgC := own_staK sgC K7 all0
    replace hR := hR.trans (CHr.keep K7 all0 hR.1)
    replace KP := KP.trans K7 all0
    replace Z0 := Nat.le_trans Z0 K7.1
    replace hk := Nat.le_trans hk K7.1
    have A_u7 := A_u7_7'
    show Goes _ _ _ _ _ (fT T7 m 48 #[vi x, vi y, vi c0, vi c1] [(.ref u7)])
    have Sv_r : StrV Z T7.heap (.ref u7) := Or.inr ⟨_, rfl, A_u7⟩
    refine Goes.retH X7 hS rfl hk hZ (own_EW hw) hh hR (some (.ref u7)) (fun h => by rw [hret] at h; cases h) hlk (by decide) (by decide) ?_ (fun fs hr => ?_)
    ·exact ⟨(.ref u7), rfl, N7, KP, Sv_r⟩
    ·exact own_retA X7 hx hret rfl rfl (hb hby d23_48) hr
   ·refine gY X0 hx hby d23_41 41 49 (feq hc41_6).2 ?_
    obtain ⟨T8, h8, X8, e8, E8, A8, D8, U8, st8⟩ := newO X0 hx hZ hown (gw hw 64 rfl) (gw hw 65 rfl) (gw hw 66 rfl) e0 (g := (mkF m 49 #[vi x, vi y, vi c0, vi c1] [])) rfl (hb hby d23_49) (by decide) (by decide)
    obtain ⟨b8, gq8⟩ : ∃ z, z = h0.size := ⟨_, rfl⟩
    rw [← gq8] at A8 st8 D8
    have g_b8 : n0 ≤ b8 := by rw [gq8]; exact Z0
    have sz_b8 : h0.size ≤ b8 := by rw [gq8]; exact KP.1
    have Sf_b8 : Safe Z consts_1 s.vm h0 b8 := Safe.new (Nat.le_of_eq gq8.symm)
    replace Sf_b8 := Safe.ext E8 hR.1 Sf_b8
    replace hR := hR.trans (CHr.ext E8 hR.1)
    replace sgC := sgC.ext E8
    replace KP := KP.ext E8
    replace Z0 : n0 ≤ h8.size := Nat.le_trans Z0 E8.1
    replace hk := Nat.le_trans hk E8.1
    have A_b8 : Exa Z h8 b8 "java/lang/String" := A8
    have F_value_b8 : Fld Z h8 b8 "java/lang/String" "value" "[B" .null := D8 (Or.inr (gw hw 80 rfl)) (ty := (.array .byte)) (by decide)
    have F_coder_b8 : Fld Z h8 b8 "java/lang/String" "coder" "B" (.int 0) := D8 (Or.inr (gw hw 81 rfl)) (ty := .byte) (by decide)
    refine Gs st8 ?_
    show Goes _ _ _ _ _ (fT T8 m 52 #[vi x, vi y, vi c0, vi c1] [(.ref b8)])
    refine Gz (XS.dup X8.here hx rfl (hb hby d23_52) rfl rfl) ?_
    refine gC X8 hx hby d23_53 ?_
    obtain ⟨T9, h9, k9, X9, e9, E9, A9, st9⟩ := newP X8 hx hZ (gw hw 67 rfl) e8 (g := (mkF m 54 #[vi x, vi y, vi c0, vi c1] [(.int 2), (.ref b8), (.ref b8)])) rfl (hb hby d23_54) rfl (by decide) (cap := 2) (by decide) (by decide) (by decide) (by decide)
    obtain ⟨b9, gq9⟩ : ∃ z, z = h8.size := ⟨_, rfl⟩
    rw [← gq9] at A9 st9
    have g_b9 : n0 ≤ b9 := by rw [gq9]; exact Z0
    have sz_b9 : h0.size ≤ b9 := by rw [gq9]; exact KP.1
    have ne_b8_b9 : b8 ≠ b9 := by rw [gq9]; exact Nat.ne_of_lt A_b8.lt
    have Sf_b9 : Safe Z consts_1 s.vm h8 b9 := Safe.new (Nat.le_of_eq gq9.symm)
    replace Sf_b8 := Safe.ext E9 hR.1 Sf_b8
    replace Sf_b9 := Safe.ext E9 hR.1 Sf_b9
    replace hR := hR.trans (CHr.ext E9 hR.1)
    replace sgC := sgC.ext E9
    replace A_b8 := A_b8.ext E9
    replace F_value_b8 := F_value_b8.ext E9
    replace F_coder_b8 := F_coder_b8.ext E9
    replace KP := KP.ext E9
    replace Z0 : n0 ≤ h9.size := Nat.le_trans Z0 E9.1
    replace hk := Nat.le_trans hk E9.1
    have V_b9 : Arv Z h9 b9 k9 .char 2 [(.int 0), (.int 0)] (.int 0) := (Arv.new A9 (by decide)).pad (pad_rep [] (.int 0) 2)
    refine Gs st9 ?_
    show Goes _ _ _ _ _ (fT T9 m 56 #[vi x, vi y, vi c0, vi c1] [(.ref b9), (.ref b8), (.ref b8)])
    refine Gz (XS.dup X9.here hx rfl (hb hby d23_56) rfl rfl) ?_
    refine gC X9 hx hby d23_57 ?_
    refine gN X9 hx hby d23_58 rfl rfl ?_
    obtain ⟨cl10, Ar10, q10, S10, N10z, H10, G10⟩ := V_b9
    have hin10 : ¬ ((0 : Int32) < 0 ∨ cl10.slots.size ≤ ((0 : Int32)).toNatClampNeg) := inb_of S10 ⟨by decide, by decide⟩
    obtain ⟨T10, h10, X10, e10, W10, st10⟩ := stC X9 hx hZ e9 Ar10 (j := (0 : Int32)) hin10 (g := (mkF m 59 #[vi x, vi y, vi c0, vi c1] [(.int c0), (.int 0), (.ref b9), (.ref b9), (.ref b8), (.ref b8)])) rfl rfl (hb hby d23_59)
    have Vn10 := Arv.set Ar10 q10 S10 N10z H10 G10 (fits_nar_char _) W10 0 rfl (Nat.le_of_ble_eq_true rfl)
    have N10 := Fr.snoc X10 N0 g_b9
    have Sf_b8' := Safe.wr W10 Sf_b9 hR.1 Sf_b8
    have Sf_b9' := Safe.wr W10 Sf_b9 hR.1 Sf_b9
    replace hR := hR.trans (CHr.wr W10 Sf_b9 hR.1)
    replace Sf_b8 := Sf_b8'
    replace Sf_b9 := Sf_b9'
    replace sgC := sgC.wr W10
    replace A_b8 := A_b8.wr W10
    replace F_value_b8 := F_value_b8.other W10 (Or.inl ne_b8_b9)
    replace F_coder_b8 := F_coder_b8.other W10 (Or.inl ne_b8_b9)
    replace KP := KP.wr W10 (Or.inr sz_b9)
    have V_b9 : Arv Z h10 b9 k9 .char 2 [(.int c0), (.int 0)] (.int 0) := by have q := Vn10; rw [own_nc hL_c0.chr] at q; exact q
    replace Z0 : n0 ≤ h10.size := by rw [W10.size]; exact Z0
    replace hk := Nat.le_trans hk (Nat.le_of_eq W10.size.symm)
    refine Gs st10 ?_
    show Goes _ _ _ _ _ (fT T10 m 60 #[vi x, vi y, vi c0, vi c1] [(.ref b9), (.ref b8), (.ref b8)])
    refine Gz (XS.dup X10.here hx rfl (hb hby d23_60) rfl rfl) ?_
    refine gC X10 hx hby d23_61 ?_
    refine gN X10 hx hby d23_62 rfl rfl ?_
    obtain ⟨cl11, Ar11, q11, S11, N11z, H11, G11⟩ := V_b9
    have hin11 : ¬ ((1 : Int32) < 0 ∨ cl11.slots.size ≤ ((1 : Int32)).toNatClampNeg) := inb_of S11 ⟨by decide, by decide⟩
    obtain ⟨T11, h11, X11, e11, W11, st11⟩ := stC X10 hx hZ e10 Ar11 (j := (1 : Int32)) hin11 (g := (mkF m 63 #[vi x, vi y, vi c0, vi c1] [(.int c1), (.int 1), (.ref b9), (.ref b9), (.ref b8), (.ref b8)])) rfl rfl (hb hby d23_63)
    have Vn11 := Arv.set Ar11 q11 S11 N11z H11 G11 (fits_nar_char _) W11 1 rfl (Nat.le_of_ble_eq_true rfl)
    have N11 := Fr.snoc X11 N10 g_b9
    have Sf_b8' := Safe.wr W11 Sf_b9 hR.1 Sf_b8
    replace hR := hR.trans (CHr.wr W11 Sf_b9 hR.1)
    replace Sf_b8 := Sf_b8'
    replace sgC := sgC.wr W11
    replace A_b8 := A_b8.wr W11
    replace F_value_b8 := F_value_b8.other W11 (Or.inl ne_b8_b9)
    replace F_coder_b8 := F_coder_b8.other W11 (Or.inl ne_b8_b9)
    replace KP := KP.wr W11 (Or.inr sz_b9)
    have V_b9 : Arv Z h11 b9 k9 .char 2 [(.int c0), (.int c1)] (.int 0) := by have q := Vn11; rw [own_nc hL_c1.chr] at q; exact q
    replace Z0 : n0 ≤ h11.size := by rw [W11.size]; exact Z0
    replace hk := Nat.le_trans hk (Nat.le_of_eq W11.size.symm)
    refine Gs st11 ?_
    show Goes _ _ _ _ _ (fT T11 m 64 #[vi x, vi y, vi c0, vi c1] [(.ref b9), (.ref b8), (.ref b8)])
    refine cIg X11 hx hZ hw hown hby hml e11 mN1 68 69 70 66 1 (rs_i1_2 l Z a0 hw [] b8 b9 k9 c0 c1 cz h11 n0 Z0 A_b8 F_value_b8 F_coder_b8 V_b9 g_b8 (Ne.symm ne_b8_b9) sgC hcz hL_c0 hL_c1) d23_64 (lenOf own_pd11 rfl) (fun _ T12 L12 X12 hQ12 => ?_)
    obtain ⟨rfl, N12q, K12, T_b8_12'⟩ := hQ12
    have N12 := Fr.app N11 N12q
    replace hR := hR.trans (CHr.keep K12 (allS Sf_b8 all0) hR.1)
    replace A_b8 := A_b8.keep K12
    replace KP := KP.trans K12 (allS (Or.inr sz_b8) all0)
    replace Z0 := Nat.le_trans Z0 K12.1
    replace hk := Nat.le_trans hk K12.1
    have T_b8 := T_b8_12'
    show Goes _ _ _ _ _ (fT T12 m 67 #[vi x, vi y, vi c0, vi c1] [(.ref b8)])
    have Sv_r : StrV Z T12.heap (.ref b8) := Or.inr ⟨_, rfl, A_b8⟩
    refine Goes.retH X12 hS rfl hk hZ (own_EW hw) hh hR (some (.ref b8)) (fun h => by rw [hret] at h; cases h) hlk (by decide) (by decide) ?_ (fun fs hr => ?_)
    ·exact ⟨(.ref b8), rfl, N12, KP, Sv_r⟩
    ·exact own_retA X12 hx hret rfl rfl (hb hby d23_67) hr
theorem d24_0 : decode method_3_code 0 = .ok (.bipush 26, 2) := by decide +kernel
theorem d24_2 : decode method_3_code 2 = .ok (.anewarray 43, 3) := by decide +kernel
theorem d24_5 : decode method_3_code 5 = .ok (.dup, 1) := by decide +kernel
theorem d24_6 : decode method_3_code 6 = .ok (.iconst 0, 1) := by decide +kernel
theorem d24_7 : decode method_3_code 7 = .ok (.getstatic 45, 3) := by decide +kernel
theorem d24_10 : decode method_3_code 10 = .ok (.aastore, 1) := by decide +kernel
theorem d24_11 : decode method_3_code 11 = .ok (.dup, 1) := by decide +kernel
theorem d24_12 : decode method_3_code 12 = .ok (.iconst 1, 1) := by decide +kernel
theorem d24_13 : decode method_3_code 13 = .ok (.getstatic 49, 3) := by decide +kernel
theorem d24_16 : decode method_3_code 16 = .ok (.aastore, 1) := by decide +kernel
theorem d24_17 : decode method_3_code 17 = .ok (.dup, 1) := by decide +kernel
theorem d24_18 : decode method_3_code 18 = .ok (.iconst 2, 1) := by decide +kernel
theorem d24_19 : decode method_3_code 19 = .ok (.getstatic 52, 3) := by decide +kernel
theorem d24_22 : decode method_3_code 22 = .ok (.aastore, 1) := by decide +kernel
theorem d24_23 : decode method_3_code 23 = .ok (.dup, 1) := by decide +kernel
theorem d24_24 : decode method_3_code 24 = .ok (.iconst 3, 1) := by decide +kernel
theorem d24_25 : decode method_3_code 25 = .ok (.getstatic 55, 3) := by decide +kernel
theorem d24_28 : decode method_3_code 28 = .ok (.aastore, 1) := by decide +kernel
theorem d24_29 : decode method_3_code 29 = .ok (.dup, 1) := by decide +kernel
theorem d24_30 : decode method_3_code 30 = .ok (.iconst 4, 1) := by decide +kernel
theorem d24_31 : decode method_3_code 31 = .ok (.getstatic 58, 3) := by decide +kernel
theorem d24_34 : decode method_3_code 34 = .ok (.aastore, 1) := by decide +kernel
theorem d24_35 : decode method_3_code 35 = .ok (.dup, 1) := by decide +kernel
theorem d24_36 : decode method_3_code 36 = .ok (.iconst 5, 1) := by decide +kernel
theorem d24_37 : decode method_3_code 37 = .ok (.getstatic 61, 3) := by decide +kernel
theorem d24_40 : decode method_3_code 40 = .ok (.aastore, 1) := by decide +kernel
theorem d24_41 : decode method_3_code 41 = .ok (.dup, 1) := by decide +kernel
theorem d24_42 : decode method_3_code 42 = .ok (.bipush 6, 2) := by decide +kernel
theorem d24_44 : decode method_3_code 44 = .ok (.getstatic 64, 3) := by decide +kernel
theorem d24_47 : decode method_3_code 47 = .ok (.aastore, 1) := by decide +kernel
theorem d24_48 : decode method_3_code 48 = .ok (.dup, 1) := by decide +kernel
theorem d24_49 : decode method_3_code 49 = .ok (.bipush 7, 2) := by decide +kernel
theorem d24_51 : decode method_3_code 51 = .ok (.getstatic 67, 3) := by decide +kernel
theorem d24_54 : decode method_3_code 54 = .ok (.aastore, 1) := by decide +kernel
theorem d24_55 : decode method_3_code 55 = .ok (.dup, 1) := by decide +kernel
theorem d24_56 : decode method_3_code 56 = .ok (.bipush 8, 2) := by decide +kernel
theorem d24_58 : decode method_3_code 58 = .ok (.getstatic 70, 3) := by decide +kernel
theorem d24_61 : decode method_3_code 61 = .ok (.aastore, 1) := by decide +kernel
theorem d24_62 : decode method_3_code 62 = .ok (.dup, 1) := by decide +kernel
theorem d24_63 : decode method_3_code 63 = .ok (.bipush 9, 2) := by decide +kernel
theorem d24_65 : decode method_3_code 65 = .ok (.getstatic 73, 3) := by decide +kernel
theorem d24_68 : decode method_3_code 68 = .ok (.aastore, 1) := by decide +kernel
theorem d24_69 : decode method_3_code 69 = .ok (.dup, 1) := by decide +kernel
theorem d24_70 : decode method_3_code 70 = .ok (.bipush 10, 2) := by decide +kernel
theorem d24_72 : decode method_3_code 72 = .ok (.getstatic 76, 3) := by decide +kernel
theorem d24_75 : decode method_3_code 75 = .ok (.aastore, 1) := by decide +kernel
theorem d24_76 : decode method_3_code 76 = .ok (.dup, 1) := by decide +kernel
theorem d24_77 : decode method_3_code 77 = .ok (.bipush 11, 2) := by decide +kernel
theorem d24_79 : decode method_3_code 79 = .ok (.getstatic 79, 3) := by decide +kernel
theorem d24_82 : decode method_3_code 82 = .ok (.aastore, 1) := by decide +kernel
theorem d24_83 : decode method_3_code 83 = .ok (.dup, 1) := by decide +kernel
theorem d24_84 : decode method_3_code 84 = .ok (.bipush 12, 2) := by decide +kernel
theorem d24_86 : decode method_3_code 86 = .ok (.getstatic 82, 3) := by decide +kernel
theorem d24_89 : decode method_3_code 89 = .ok (.aastore, 1) := by decide +kernel
theorem d24_90 : decode method_3_code 90 = .ok (.dup, 1) := by decide +kernel
theorem d24_91 : decode method_3_code 91 = .ok (.bipush 13, 2) := by decide +kernel
theorem d24_93 : decode method_3_code 93 = .ok (.getstatic 85, 3) := by decide +kernel
theorem d24_96 : decode method_3_code 96 = .ok (.aastore, 1) := by decide +kernel
theorem d24_97 : decode method_3_code 97 = .ok (.dup, 1) := by decide +kernel
theorem d24_98 : decode method_3_code 98 = .ok (.bipush 14, 2) := by decide +kernel
theorem d24_100 : decode method_3_code 100 = .ok (.getstatic 88, 3) := by decide +kernel
theorem d24_103 : decode method_3_code 103 = .ok (.aastore, 1) := by decide +kernel
theorem d24_104 : decode method_3_code 104 = .ok (.dup, 1) := by decide +kernel
theorem d24_105 : decode method_3_code 105 = .ok (.bipush 15, 2) := by decide +kernel
theorem d24_107 : decode method_3_code 107 = .ok (.getstatic 91, 3) := by decide +kernel
theorem d24_110 : decode method_3_code 110 = .ok (.aastore, 1) := by decide +kernel
theorem d24_111 : decode method_3_code 111 = .ok (.dup, 1) := by decide +kernel
theorem d24_112 : decode method_3_code 112 = .ok (.bipush 16, 2) := by decide +kernel
theorem d24_114 : decode method_3_code 114 = .ok (.getstatic 94, 3) := by decide +kernel
theorem d24_117 : decode method_3_code 117 = .ok (.aastore, 1) := by decide +kernel
theorem d24_118 : decode method_3_code 118 = .ok (.dup, 1) := by decide +kernel
theorem d24_119 : decode method_3_code 119 = .ok (.bipush 17, 2) := by decide +kernel
theorem d24_121 : decode method_3_code 121 = .ok (.getstatic 97, 3) := by decide +kernel
theorem d24_124 : decode method_3_code 124 = .ok (.aastore, 1) := by decide +kernel
theorem d24_125 : decode method_3_code 125 = .ok (.dup, 1) := by decide +kernel
theorem d24_126 : decode method_3_code 126 = .ok (.bipush 18, 2) := by decide +kernel
theorem d24_128 : decode method_3_code 128 = .ok (.getstatic 100, 3) := by decide +kernel
theorem d24_131 : decode method_3_code 131 = .ok (.aastore, 1) := by decide +kernel
theorem d24_132 : decode method_3_code 132 = .ok (.dup, 1) := by decide +kernel
theorem d24_133 : decode method_3_code 133 = .ok (.bipush 19, 2) := by decide +kernel
theorem d24_135 : decode method_3_code 135 = .ok (.getstatic 103, 3) := by decide +kernel
theorem d24_138 : decode method_3_code 138 = .ok (.aastore, 1) := by decide +kernel
theorem d24_139 : decode method_3_code 139 = .ok (.dup, 1) := by decide +kernel
theorem d24_140 : decode method_3_code 140 = .ok (.bipush 20, 2) := by decide +kernel
theorem d24_142 : decode method_3_code 142 = .ok (.getstatic 106, 3) := by decide +kernel
theorem d24_145 : decode method_3_code 145 = .ok (.aastore, 1) := by decide +kernel
theorem d24_146 : decode method_3_code 146 = .ok (.dup, 1) := by decide +kernel
theorem d24_147 : decode method_3_code 147 = .ok (.bipush 21, 2) := by decide +kernel
theorem d24_149 : decode method_3_code 149 = .ok (.getstatic 109, 3) := by decide +kernel
theorem d24_152 : decode method_3_code 152 = .ok (.aastore, 1) := by decide +kernel
theorem d24_153 : decode method_3_code 153 = .ok (.dup, 1) := by decide +kernel
theorem d24_154 : decode method_3_code 154 = .ok (.bipush 22, 2) := by decide +kernel
theorem d24_156 : decode method_3_code 156 = .ok (.getstatic 112, 3) := by decide +kernel
theorem d24_159 : decode method_3_code 159 = .ok (.aastore, 1) := by decide +kernel
theorem d24_160 : decode method_3_code 160 = .ok (.dup, 1) := by decide +kernel
theorem d24_161 : decode method_3_code 161 = .ok (.bipush 23, 2) := by decide +kernel
theorem d24_163 : decode method_3_code 163 = .ok (.getstatic 115, 3) := by decide +kernel
theorem d24_166 : decode method_3_code 166 = .ok (.aastore, 1) := by decide +kernel
theorem d24_167 : decode method_3_code 167 = .ok (.dup, 1) := by decide +kernel
theorem d24_168 : decode method_3_code 168 = .ok (.bipush 24, 2) := by decide +kernel
theorem d24_170 : decode method_3_code 170 = .ok (.getstatic 118, 3) := by decide +kernel
theorem d24_173 : decode method_3_code 173 = .ok (.aastore, 1) := by decide +kernel
theorem d24_174 : decode method_3_code 174 = .ok (.dup, 1) := by decide +kernel
theorem d24_175 : decode method_3_code 175 = .ok (.bipush 25, 2) := by decide +kernel
theorem d24_177 : decode method_3_code 177 = .ok (.getstatic 121, 3) := by decide +kernel
theorem d24_180 : decode method_3_code 180 = .ok (.aastore, 1) := by decide +kernel
theorem d24_181 : decode method_3_code 181 = .ok (.astore_n 1, 1) := by decide +kernel
theorem d24_182 : decode method_3_code 182 = .ok (.aload_n 1, 1) := by decide +kernel
theorem d24_183 : decode method_3_code 183 = .ok (.iload_n 0, 1) := by decide +kernel
theorem d24_184 : decode method_3_code 184 = .ok (.ldc 124, 2) := by decide +kernel
theorem d24_186 : decode method_3_code 186 = .ok (.iand, 1) := by decide +kernel
theorem d24_187 : decode method_3_code 187 = .ok (.aload_n 1, 1) := by decide +kernel
theorem d24_188 : decode method_3_code 188 = .ok (.arraylength, 1) := by decide +kernel
theorem d24_189 : decode method_3_code 189 = .ok (.irem, 1) := by decide +kernel
theorem d24_190 : decode method_3_code 190 = .ok (.aaload, 1) := by decide +kernel
theorem d24_191 : decode method_3_code 191 = .ok (.areturn, 1) := by decide +kernel
theorem own_ef_rm_pick (m : MethodId) (x0 : Int32) : entryFrame m #[(.int x0)] 2 = mkF m 0 #[vi x0, vu] [] := by first | (simp [entryFrame, mkF, argsToLocals, Value.category]; done) | rfl
def Q_rm_pick (Z : State) (x : Int32) (w0 : Addr) (w1 : Addr) (w2 : Addr) (w3 : Addr) (w4 : Addr) (w5 : Addr) (w6 : Addr) (w7 : Addr) (w8 : Addr) (w9 : Addr) (w10 : Addr) (w11 : Addr) (w12 : Addr) (w13 : Addr) (w14 : Addr) (w15 : Addr) (w16 : Addr) (w17 : Addr) (w18 : Addr) (w19 : Addr) (w20 : Addr) (w21 : Addr) (w22 : Addr) (w23 : Addr) (w24 : Addr) (w25 : Addr) (h0 : Heap) (n0 : Nat) (v : Option Value) (h : Heap) (L : List Loc) : Prop := ∃ r : Addr, v = some (.ref r) ∧ Fr n0 L ∧ Keep h0 h [] ∧ Exa Z h r "com/example/surfacemap/surfacemap/model/Finding$Rule"
theorem rm_pick (l : Launch) (Z : State) (a0 : Array Value) (hw : HW a0 Z) (ws : List Jvm.Cond) (x : Int32) (w0 : Addr) (w1 : Addr) (w2 : Addr) (w3 : Addr) (w4 : Addr) (w5 : Addr) (w6 : Addr) (w7 : Addr) (w8 : Addr) (w9 : Addr) (w10 : Addr) (w11 : Addr) (w12 : Addr) (w13 : Addr) (w14 : Addr) (w15 : Addr) (w16 : Addr) (w17 : Addr) (w18 : Addr) (w19 : Addr) (w20 : Addr) (w21 : Addr) (w22 : Addr) (w23 : Addr) (w24 : Addr) (w25 : Addr) (h0 : Heap) (n0 : Nat) (Z0 : n0 ≤ h0.size) (S_JSON_SYNTAX : Sta Z h0 "com/example/surfacemap/surfacemap/model/Finding$Rule" "JSON_SYNTAX" "Lcom/example/surfacemap/surfacemap/model/Finding$Rule;" (.ref w0)) (S_JSON_DEPTH : Sta Z h0 "com/example/surfacemap/surfacemap/model/Finding$Rule" "JSON_DEPTH" "Lcom/example/surfacemap/surfacemap/model/Finding$Rule;" (.ref w1)) (S_JSON_LIMIT : Sta Z h0 "com/example/surfacemap/surfacemap/model/Finding$Rule" "JSON_LIMIT" "Lcom/example/surfacemap/surfacemap/model/Finding$Rule;" (.ref w2)) (S_JSON_DUPLICATE_KEY : Sta Z h0 "com/example/surfacemap/surfacemap/model/Finding$Rule" "JSON_DUPLICATE_KEY" "Lcom/example/surfacemap/surfacemap/model/Finding$Rule;" (.ref w3)) (S_JSON_ENCODING : Sta Z h0 "com/example/surfacemap/surfacemap/model/Finding$Rule" "JSON_ENCODING" "Lcom/example/surfacemap/surfacemap/model/Finding$Rule;" (.ref w4)) (S_KIND : Sta Z h0 "com/example/surfacemap/surfacemap/model/Finding$Rule" "KIND" "Lcom/example/surfacemap/surfacemap/model/Finding$Rule;" (.ref w5)) (S_DISCOVERY_VERSION : Sta Z h0 "com/example/surfacemap/surfacemap/model/Finding$Rule" "DISCOVERY_VERSION" "Lcom/example/surfacemap/surfacemap/model/Finding$Rule;" (.ref w6)) (S_PROTOCOL : Sta Z h0 "com/example/surfacemap/surfacemap/model/Finding$Rule" "PROTOCOL" "Lcom/example/surfacemap/surfacemap/model/Finding$Rule;" (.ref w7)) (S_REQUIRED_FIELD : Sta Z h0 "com/example/surfacemap/surfacemap/model/Finding$Rule" "REQUIRED_FIELD" "Lcom/example/surfacemap/surfacemap/model/Finding$Rule;" (.ref w8)) (S_URL_SEGMENT : Sta Z h0 "com/example/surfacemap/surfacemap/model/Finding$Rule" "URL_SEGMENT" "Lcom/example/surfacemap/surfacemap/model/Finding$Rule;" (.ref w9)) (S_SCHEMA_ID : Sta Z h0 "com/example/surfacemap/surfacemap/model/Finding$Rule" "SCHEMA_ID" "Lcom/example/surfacemap/surfacemap/model/Finding$Rule;" (.ref w10)) (S_REF : Sta Z h0 "com/example/surfacemap/surfacemap/model/Finding$Rule" "REF" "Lcom/example/surfacemap/surfacemap/model/Finding$Rule;" (.ref w11)) (S_TEMPLATE : Sta Z h0 "com/example/surfacemap/surfacemap/model/Finding$Rule" "TEMPLATE" "Lcom/example/surfacemap/surfacemap/model/Finding$Rule;" (.ref w12)) (S_PATH_VARIABLE : Sta Z h0 "com/example/surfacemap/surfacemap/model/Finding$Rule" "PATH_VARIABLE" "Lcom/example/surfacemap/surfacemap/model/Finding$Rule;" (.ref w13)) (S_PATH_PARAMETER : Sta Z h0 "com/example/surfacemap/surfacemap/model/Finding$Rule" "PATH_PARAMETER" "Lcom/example/surfacemap/surfacemap/model/Finding$Rule;" (.ref w14)) (S_PARAMETER_LOCATION : Sta Z h0 "com/example/surfacemap/surfacemap/model/Finding$Rule" "PARAMETER_LOCATION" "Lcom/example/surfacemap/surfacemap/model/Finding$Rule;" (.ref w15)) (S_PARAMETER_ORDER : Sta Z h0 "com/example/surfacemap/surfacemap/model/Finding$Rule" "PARAMETER_ORDER" "Lcom/example/surfacemap/surfacemap/model/Finding$Rule;" (.ref w16)) (S_HTTP_METHOD : Sta Z h0 "com/example/surfacemap/surfacemap/model/Finding$Rule" "HTTP_METHOD" "Lcom/example/surfacemap/surfacemap/model/Finding$Rule;" (.ref w17)) (S_MEDIA_UPLOAD : Sta Z h0 "com/example/surfacemap/surfacemap/model/Finding$Rule" "MEDIA_UPLOAD" "Lcom/example/surfacemap/surfacemap/model/Finding$Rule;" (.ref w18)) (S_METHOD_ID : Sta Z h0 "com/example/surfacemap/surfacemap/model/Finding$Rule" "METHOD_ID" "Lcom/example/surfacemap/surfacemap/model/Finding$Rule;" (.ref w19)) (S_ENUM_LENGTH : Sta Z h0 "com/example/surfacemap/surfacemap/model/Finding$Rule" "ENUM_LENGTH" "Lcom/example/surfacemap/surfacemap/model/Finding$Rule;" (.ref w20)) (S_ANNOTATION_METHOD : Sta Z h0 "com/example/surfacemap/surfacemap/model/Finding$Rule" "ANNOTATION_METHOD" "Lcom/example/surfacemap/surfacemap/model/Finding$Rule;" (.ref w21)) (S_TYPE : Sta Z h0 "com/example/surfacemap/surfacemap/model/Finding$Rule" "TYPE" "Lcom/example/surfacemap/surfacemap/model/Finding$Rule;" (.ref w22)) (S_SHAPE : Sta Z h0 "com/example/surfacemap/surfacemap/model/Finding$Rule" "SHAPE" "Lcom/example/surfacemap/surfacemap/model/Finding$Rule;" (.ref w23)) (S_LABEL : Sta Z h0 "com/example/surfacemap/surfacemap/model/Finding$Rule" "LABEL" "Lcom/example/surfacemap/surfacemap/model/Finding$Rule;" (.ref w24)) (S_PARAMETER_ORDER_MISSING : Sta Z h0 "com/example/surfacemap/surfacemap/model/Finding$Rule" "PARAMETER_ORDER_MISSING" "Lcom/example/surfacemap/surfacemap/model/Finding$Rule;" (.ref w25)) (A_w0 : Exa Z h0 w0 "com/example/surfacemap/surfacemap/model/Finding$Rule") (A_w1 : Exa Z h0 w1 "com/example/surfacemap/surfacemap/model/Finding$Rule") (A_w2 : Exa Z h0 w2 "com/example/surfacemap/surfacemap/model/Finding$Rule") (A_w3 : Exa Z h0 w3 "com/example/surfacemap/surfacemap/model/Finding$Rule") (A_w4 : Exa Z h0 w4 "com/example/surfacemap/surfacemap/model/Finding$Rule") (A_w5 : Exa Z h0 w5 "com/example/surfacemap/surfacemap/model/Finding$Rule") (A_w6 : Exa Z h0 w6 "com/example/surfacemap/surfacemap/model/Finding$Rule") (A_w7 : Exa Z h0 w7 "com/example/surfacemap/surfacemap/model/Finding$Rule") (A_w8 : Exa Z h0 w8 "com/example/surfacemap/surfacemap/model/Finding$Rule") (A_w9 : Exa Z h0 w9 "com/example/surfacemap/surfacemap/model/Finding$Rule") (A_w10 : Exa Z h0 w10 "com/example/surfacemap/surfacemap/model/Finding$Rule") (A_w11 : Exa Z h0 w11 "com/example/surfacemap/surfacemap/model/Finding$Rule") (A_w12 : Exa Z h0 w12 "com/example/surfacemap/surfacemap/model/Finding$Rule") (A_w13 : Exa Z h0 w13 "com/example/surfacemap/surfacemap/model/Finding$Rule") (A_w14 : Exa Z h0 w14 "com/example/surfacemap/surfacemap/model/Finding$Rule") (A_w15 : Exa Z h0 w15 "com/example/surfacemap/surfacemap/model/Finding$Rule") (A_w16 : Exa Z h0 w16 "com/example/surfacemap/surfacemap/model/Finding$Rule") (A_w17 : Exa Z h0 w17 "com/example/surfacemap/surfacemap/model/Finding$Rule") (A_w18 : Exa Z h0 w18 "com/example/surfacemap/surfacemap/model/Finding$Rule") (A_w19 : Exa Z h0 w19 "com/example/surfacemap/surfacemap/model/Finding$Rule") (A_w20 : Exa Z h0 w20 "com/example/surfacemap/surfacemap/model/Finding$Rule") (A_w21 : Exa Z h0 w21 "com/example/surfacemap/surfacemap/model/Finding$Rule") (A_w22 : Exa Z h0 w22 "com/example/surfacemap/surfacemap/model/Finding$Rule") (A_w23 : Exa Z h0 w23 "com/example/surfacemap/surfacemap/model/Finding$Rule") (A_w24 : Exa Z h0 w24 "com/example/surfacemap/surfacemap/model/Finding$Rule") (A_w25 : Exa Z h0 w25 "com/example/surfacemap/surfacemap/model/Finding$Rule") :
  Met l Z mN24 method_3_code 2 (some (.object "com/example/surfacemap/surfacemap/model/Finding$Rule")) ({ frames := 0, cells := 1, slots := 26, locals := 0 } : Room) ws #[(.int x)] h0 (Q_rm_pick Z x w0 w1 w2 w3 w4 w5 w6 w7 w8 w9 w10 w11 w12 w13 w14 w15 w16 w17 w18 w19 w20 w21 w22 w23 w24 w25 h0 n0) := by
 refine own_met (plainFor_of_name own_pn8) ?_
 intro p e s m below meth c s₁ hret hx hby hlk hml hown hnm X0 e0 hZ hh
 have N0 := Fr.nil n0
 refine Gz (castTop (own_ef_rm_pick m x)) ?_
 have KP : Keep h0 h0 [] := Keep.refl _ _
 show Goes _ _ _ _ _ (fT s₁ m 0 #[vi x, vu] [])
 refine gB X0 hx hby d24_0 ?_
 obtain ⟨T1, h1, k1, X1, e1, E1, A1, AE1, O1, st1⟩ := newRE X0 hx hZ hown (gw hw 4 rfl) (gw hw 5 rfl) e0 (g := (mkF m 2 #[vi x, vu] [(.int 26)])) rfl (hb hby d24_2) rfl (by decide) (cap := 26) (by decide) (by decide) (by decide) (by decide) rfl
 obtain ⟨b1, gq1⟩ : ∃ z, z = h0.size := ⟨_, rfl⟩
 rw [← gq1] at A1 st1 AE1
 have g_b1 : n0 ≤ b1 := by rw [gq1]; exact Z0
 have sz_b1 : h0.size ≤ b1 := by rw [gq1]; exact KP.1
 replace S_JSON_SYNTAX := S_JSON_SYNTAX.ext E1
 replace S_JSON_DEPTH := S_JSON_DEPTH.ext E1
 replace S_JSON_LIMIT := S_JSON_LIMIT.ext E1
 replace S_JSON_DUPLICATE_KEY := S_JSON_DUPLICATE_KEY.ext E1
 replace S_JSON_ENCODING := S_JSON_ENCODING.ext E1
 replace S_KIND := S_KIND.ext E1
 replace S_DISCOVERY_VERSION := S_DISCOVERY_VERSION.ext E1
 replace S_PROTOCOL := S_PROTOCOL.ext E1
 replace S_REQUIRED_FIELD := S_REQUIRED_FIELD.ext E1
 replace S_URL_SEGMENT := S_URL_SEGMENT.ext E1
 replace S_SCHEMA_ID := S_SCHEMA_ID.ext E1
 replace S_REF := S_REF.ext E1
 replace S_TEMPLATE := S_TEMPLATE.ext E1
 replace S_PATH_VARIABLE := S_PATH_VARIABLE.ext E1
 replace S_PATH_PARAMETER := S_PATH_PARAMETER.ext E1
 replace S_PARAMETER_LOCATION := S_PARAMETER_LOCATION.ext E1
 replace S_PARAMETER_ORDER := S_PARAMETER_ORDER.ext E1
 replace S_HTTP_METHOD := S_HTTP_METHOD.ext E1
 replace S_MEDIA_UPLOAD := S_MEDIA_UPLOAD.ext E1
 replace S_METHOD_ID := S_METHOD_ID.ext E1
 replace S_ENUM_LENGTH := S_ENUM_LENGTH.ext E1
 replace S_ANNOTATION_METHOD := S_ANNOTATION_METHOD.ext E1
 replace S_TYPE := S_TYPE.ext E1
 replace S_SHAPE := S_SHAPE.ext E1
 replace S_LABEL := S_LABEL.ext E1
 replace S_PARAMETER_ORDER_MISSING := S_PARAMETER_ORDER_MISSING.ext E1
 replace A_w0 := A_w0.ext E1
 replace A_w1 := A_w1.ext E1
 replace A_w2 := A_w2.ext E1
 replace A_w3 := A_w3.ext E1
 replace A_w4 := A_w4.ext E1
 replace A_w5 := A_w5.ext E1
 replace A_w6 := A_w6.ext E1
 replace A_w7 := A_w7.ext E1
 replace A_w8 := A_w8.ext E1
 replace A_w9 := A_w9.ext E1
 replace A_w10 := A_w10.ext E1
 replace A_w11 := A_w11.ext E1
 replace A_w12 := A_w12.ext E1
 replace A_w13 := A_w13.ext E1
 replace A_w14 := A_w14.ext E1
 replace A_w15 := A_w15.ext E1
 replace A_w16 := A_w16.ext E1
 replace A_w17 := A_w17.ext E1
 replace A_w18 := A_w18.ext E1
 replace A_w19 := A_w19.ext E1
 replace A_w20 := A_w20.ext E1
 replace A_w21 := A_w21.ext E1
 replace A_w22 := A_w22.ext E1
 replace A_w23 := A_w23.ext E1
 replace A_w24 := A_w24.ext E1
 replace A_w25 := A_w25.ext E1
 replace KP := KP.ext E1
 replace Z0 : n0 ≤ h1.size := Nat.le_trans Z0 E1.1
 have V_b1 : Arv Z h1 b1 k1 (.object "com/example/surfacemap/surfacemap/model/Finding$Rule") (26 : Int32) [.null, .null, .null, .null, .null, .null, .null, .null, .null, .null, .null, .null, .null, .null, .null, .null, .null, .null, .null, .null, .null, .null, .null, .null, .null, .null] .null := (Arv.new A1 (by decide)).pad (pad_rep [] .null 26)
 refine Gs st1 ?_
 show Goes _ _ _ _ _ (fT T1 m 5 #[vi x, vu] [(.ref b1)])
 refine Gz (XS.dup X1.here hx rfl (hb hby d24_5) rfl rfl) ?_
 refine gC X1 hx hby d24_6 ?_
 obtain ⟨T2, X2, e2, st2⟩ := getS2 X1 hx hZ hown (host := "") (Or.inl (gw hw 6 rfl)) Via.refl e1 S_JSON_SYNTAX (g := (mkF m 7 #[vi x, vu] [(.int 0), (.ref b1), (.ref b1)])) rfl (hb hby d24_7)
 refine Gs st2 ?_
 show Goes _ _ _ _ _ (fT T2 m 10 #[vi x, vu] [(.ref w0), (.int 0), (.ref b1), (.ref b1)])
 obtain ⟨cl3, Ar3, q3, S3, N3z, H3, G3⟩ := V_b1
 have hin3 : ¬ ((0 : Int32) < 0 ∨ cl3.slots.size ≤ ((0 : Int32)).toNatClampNeg) := inb_of S3 ⟨by decide, by decide⟩
 obtain ⟨T3, h3, X3, e3, W3, st3⟩ := stR X2 hx hZ e2 Ar3 (j := (0 : Int32)) hin3 rfl (Sto.ofV Ar3 q3 O1 (Ins.self A_w0)) (g := (mkF m 10 #[vi x, vu] [(.ref w0), (.int 0), (.ref b1), (.ref b1)])) rfl rfl (hb hby d24_10)
 have Vn3 := Arv.set Ar3 q3 S3 N3z H3 G3 rfl W3 0 rfl (Nat.le_of_ble_eq_true rfl)
 have N3 := Fr.snoc X3 N0 g_b1
 replace S_JSON_DEPTH := S_JSON_DEPTH.wr W3
 replace S_JSON_LIMIT := S_JSON_LIMIT.wr W3
 replace S_JSON_DUPLICATE_KEY := S_JSON_DUPLICATE_KEY.wr W3
 replace S_JSON_ENCODING := S_JSON_ENCODING.wr W3
 replace S_KIND := S_KIND.wr W3
 replace S_DISCOVERY_VERSION := S_DISCOVERY_VERSION.wr W3
 replace S_PROTOCOL := S_PROTOCOL.wr W3
 replace S_REQUIRED_FIELD := S_REQUIRED_FIELD.wr W3
 replace S_URL_SEGMENT := S_URL_SEGMENT.wr W3
 replace S_SCHEMA_ID := S_SCHEMA_ID.wr W3
 replace S_REF := S_REF.wr W3
 replace S_TEMPLATE := S_TEMPLATE.wr W3
 replace S_PATH_VARIABLE := S_PATH_VARIABLE.wr W3
 replace S_PATH_PARAMETER := S_PATH_PARAMETER.wr W3
 replace S_PARAMETER_LOCATION := S_PARAMETER_LOCATION.wr W3
 replace S_PARAMETER_ORDER := S_PARAMETER_ORDER.wr W3
 replace S_HTTP_METHOD := S_HTTP_METHOD.wr W3
 replace S_MEDIA_UPLOAD := S_MEDIA_UPLOAD.wr W3
 replace S_METHOD_ID := S_METHOD_ID.wr W3
 replace S_ENUM_LENGTH := S_ENUM_LENGTH.wr W3
 replace S_ANNOTATION_METHOD := S_ANNOTATION_METHOD.wr W3
 replace S_TYPE := S_TYPE.wr W3
 replace S_SHAPE := S_SHAPE.wr W3
 replace S_LABEL := S_LABEL.wr W3
 replace S_PARAMETER_ORDER_MISSING := S_PARAMETER_ORDER_MISSING.wr W3
 replace A_w0 := A_w0.wr W3
 replace A_w1 := A_w1.wr W3
 replace A_w2 := A_w2.wr W3
 replace A_w3 := A_w3.wr W3
 replace A_w4 := A_w4.wr W3
 replace A_w5 := A_w5.wr W3
 replace A_w6 := A_w6.wr W3
 replace A_w7 := A_w7.wr W3
 replace A_w8 := A_w8.wr W3
 replace A_w9 := A_w9.wr W3
 replace A_w10 := A_w10.wr W3
 replace A_w11 := A_w11.wr W3
 replace A_w12 := A_w12.wr W3
 replace A_w13 := A_w13.wr W3
 replace A_w14 := A_w14.wr W3
 replace A_w15 := A_w15.wr W3
 replace A_w16 := A_w16.wr W3
 replace A_w17 := A_w17.wr W3
 replace A_w18 := A_w18.wr W3
 replace A_w19 := A_w19.wr W3
 replace A_w20 := A_w20.wr W3
 replace A_w21 := A_w21.wr W3
 replace A_w22 := A_w22.wr W3
 replace A_w23 := A_w23.wr W3
 replace A_w24 := A_w24.wr W3
 replace A_w25 := A_w25.wr W3
 replace KP := KP.wr W3 (Or.inr sz_b1)
 have V_b1 : Arv Z h3 b1 _ (.object "com/example/surfacemap/surfacemap/model/Finding$Rule") (26 : Int32) [(.ref w0), .null, .null, .null, .null, .null, .null, .null, .null, .null, .null, .null, .null, .null, .null, .null, .null, .null, .null, .null, .null, .null, .null, .null, .null, .null] .null := Vn3
 replace Z0 : n0 ≤ h3.size := by rw [W3.size]; exact Z0
 refine Gs st3 ?_
 show Goes _ _ _ _ _ (fT T3 m 11 #[vi x, vu] [(.ref b1)])
 refine Gz (XS.dup X3.here hx rfl (hb hby d24_11) rfl rfl) ?_
 refine gC X3 hx hby d24_12 ?_
 obtain ⟨T4, X4, e4, st4⟩ := getS2 X3 hx hZ hown (host := "") (Or.inl (gw hw 10 rfl)) Via.refl e3 S_JSON_DEPTH (g := (mkF m 13 #[vi x, vu] [(.int 1), (.ref b1), (.ref b1)])) rfl (hb hby d24_13)
 refine Gs st4 ?_
 show Goes _ _ _ _ _ (fT T4 m 16 #[vi x, vu] [(.ref w1), (.int 1), (.ref b1), (.ref b1)])
 obtain ⟨cl5, Ar5, q5, S5, N5z, H5, G5⟩ := V_b1
 have hin5 : ¬ ((1 : Int32) < 0 ∨ cl5.slots.size ≤ ((1 : Int32)).toNatClampNeg) := inb_of S5 ⟨by decide, by decide⟩
 obtain ⟨T5, h5, X5, e5, W5, st5⟩ := stR X4 hx hZ e4 Ar5 (j := (1 : Int32)) hin5 rfl (Sto.ofV Ar5 q5 O1 (Ins.self A_w1)) (g := (mkF m 16 #[vi x, vu] [(.ref w1), (.int 1), (.ref b1), (.ref b1)])) rfl rfl (hb hby d24_16)
 have Vn5 := Arv.set Ar5 q5 S5 N5z H5 G5 rfl W5 1 rfl (Nat.le_of_ble_eq_true rfl)
 have N5 := Fr.snoc X5 N3 g_b1
 replace S_JSON_LIMIT := S_JSON_LIMIT.wr W5
 replace S_JSON_DUPLICATE_KEY := S_JSON_DUPLICATE_KEY.wr W5
 replace S_JSON_ENCODING := S_JSON_ENCODING.wr W5
 replace S_KIND := S_KIND.wr W5
 replace S_DISCOVERY_VERSION := S_DISCOVERY_VERSION.wr W5
 replace S_PROTOCOL := S_PROTOCOL.wr W5
 replace S_REQUIRED_FIELD := S_REQUIRED_FIELD.wr W5
 replace S_URL_SEGMENT := S_URL_SEGMENT.wr W5
 replace S_SCHEMA_ID := S_SCHEMA_ID.wr W5
 replace S_REF := S_REF.wr W5
 replace S_TEMPLATE := S_TEMPLATE.wr W5
 replace S_PATH_VARIABLE := S_PATH_VARIABLE.wr W5
 replace S_PATH_PARAMETER := S_PATH_PARAMETER.wr W5
 replace S_PARAMETER_LOCATION := S_PARAMETER_LOCATION.wr W5
 replace S_PARAMETER_ORDER := S_PARAMETER_ORDER.wr W5
 replace S_HTTP_METHOD := S_HTTP_METHOD.wr W5
 replace S_MEDIA_UPLOAD := S_MEDIA_UPLOAD.wr W5
 replace S_METHOD_ID := S_METHOD_ID.wr W5
 replace S_ENUM_LENGTH := S_ENUM_LENGTH.wr W5
 replace S_ANNOTATION_METHOD := S_ANNOTATION_METHOD.wr W5
 replace S_TYPE := S_TYPE.wr W5
 replace S_SHAPE := S_SHAPE.wr W5
 replace S_LABEL := S_LABEL.wr W5
 replace S_PARAMETER_ORDER_MISSING := S_PARAMETER_ORDER_MISSING.wr W5
 replace A_w0 := A_w0.wr W5
 replace A_w1 := A_w1.wr W5
 replace A_w2 := A_w2.wr W5
 replace A_w3 := A_w3.wr W5
 replace A_w4 := A_w4.wr W5
 replace A_w5 := A_w5.wr W5
 replace A_w6 := A_w6.wr W5
 replace A_w7 := A_w7.wr W5
 replace A_w8 := A_w8.wr W5
 replace A_w9 := A_w9.wr W5
 replace A_w10 := A_w10.wr W5
 replace A_w11 := A_w11.wr W5
 replace A_w12 := A_w12.wr W5
 replace A_w13 := A_w13.wr W5
 replace A_w14 := A_w14.wr W5
 replace A_w15 := A_w15.wr W5
 replace A_w16 := A_w16.wr W5
 replace A_w17 := A_w17.wr W5
 replace A_w18 := A_w18.wr W5
 replace A_w19 := A_w19.wr W5
 replace A_w20 := A_w20.wr W5
 replace A_w21 := A_w21.wr W5
 replace A_w22 := A_w22.wr W5
 replace A_w23 := A_w23.wr W5
 replace A_w24 := A_w24.wr W5
 replace A_w25 := A_w25.wr W5
 replace KP := KP.wr W5 (Or.inr sz_b1)
 have V_b1 : Arv Z h5 b1 _ (.object "com/example/surfacemap/surfacemap/model/Finding$Rule") (26 : Int32) [(.ref w0), (.ref w1), .null, .null, .null, .null, .null, .null, .null, .null, .null, .null, .null, .null, .null, .null, .null, .null, .null, .null, .null, .null, .null, .null, .null, .null] .null := Vn5
 replace Z0 : n0 ≤ h5.size := by rw [W5.size]; exact Z0
 refine Gs st5 ?_
 show Goes _ _ _ _ _ (fT T5 m 17 #[vi x, vu] [(.ref b1)])
 refine Gz (XS.dup X5.here hx rfl (hb hby d24_17) rfl rfl) ?_
 refine gC X5 hx hby d24_18 ?_
 obtain ⟨T6, X6, e6, st6⟩ := getS2 X5 hx hZ hown (host := "") (Or.inl (gw hw 12 rfl)) Via.refl e5 S_JSON_LIMIT (g := (mkF m 19 #[vi x, vu] [(.int 2), (.ref b1), (.ref b1)])) rfl (hb hby d24_19)
 refine Gs st6 ?_
 show Goes _ _ _ _ _ (fT T6 m 22 #[vi x, vu] [(.ref w2), (.int 2), (.ref b1), (.ref b1)])
 obtain ⟨cl7, Ar7, q7, S7, N7z, H7, G7⟩ := V_b1
 have hin7 : ¬ ((2 : Int32) < 0 ∨ cl7.slots.size ≤ ((2 : Int32)).toNatClampNeg) := inb_of S7 ⟨by decide, by decide⟩
 obtain ⟨T7, h7, X7, e7, W7, st7⟩ := stR X6 hx hZ e6 Ar7 (j := (2 : Int32)) hin7 rfl (Sto.ofV Ar7 q7 O1 (Ins.self A_w2)) (g := (mkF m 22 #[vi x, vu] [(.ref w2), (.int 2), (.ref b1), (.ref b1)])) rfl rfl (hb hby d24_22)
 have Vn7 := Arv.set Ar7 q7 S7 N7z H7 G7 rfl W7 2 rfl (Nat.le_of_ble_eq_true rfl)
 have N7 := Fr.snoc X7 N5 g_b1
 replace S_JSON_DUPLICATE_KEY := S_JSON_DUPLICATE_KEY.wr W7
 replace S_JSON_ENCODING := S_JSON_ENCODING.wr W7
 replace S_KIND := S_KIND.wr W7
 replace S_DISCOVERY_VERSION := S_DISCOVERY_VERSION.wr W7
 replace S_PROTOCOL := S_PROTOCOL.wr W7
 replace S_REQUIRED_FIELD := S_REQUIRED_FIELD.wr W7
 replace S_URL_SEGMENT := S_URL_SEGMENT.wr W7
 replace S_SCHEMA_ID := S_SCHEMA_ID.wr W7
 replace S_REF := S_REF.wr W7
 replace S_TEMPLATE := S_TEMPLATE.wr W7
 replace S_PATH_VARIABLE := S_PATH_VARIABLE.wr W7
 replace S_PATH_PARAMETER := S_PATH_PARAMETER.wr W7
 replace S_PARAMETER_LOCATION := S_PARAMETER_LOCATION.wr W7
 replace S_PARAMETER_ORDER := S_PARAMETER_ORDER.wr W7
 replace S_HTTP_METHOD := S_HTTP_METHOD.wr W7
 replace S_MEDIA_UPLOAD := S_MEDIA_UPLOAD.wr W7
 replace S_METHOD_ID := S_METHOD_ID.wr W7
 replace S_ENUM_LENGTH := S_ENUM_LENGTH.wr W7
 replace S_ANNOTATION_METHOD := S_ANNOTATION_METHOD.wr W7
 replace S_TYPE := S_TYPE.wr W7
 replace S_SHAPE := S_SHAPE.wr W7
 replace S_LABEL := S_LABEL.wr W7
 replace S_PARAMETER_ORDER_MISSING := S_PARAMETER_ORDER_MISSING.wr W7
 replace A_w0 := A_w0.wr W7
 replace A_w1 := A_w1.wr W7
 replace A_w2 := A_w2.wr W7
 replace A_w3 := A_w3.wr W7
 replace A_w4 := A_w4.wr W7
 replace A_w5 := A_w5.wr W7
 replace A_w6 := A_w6.wr W7
 replace A_w7 := A_w7.wr W7
 replace A_w8 := A_w8.wr W7
 replace A_w9 := A_w9.wr W7
 replace A_w10 := A_w10.wr W7
 replace A_w11 := A_w11.wr W7
 replace A_w12 := A_w12.wr W7
 replace A_w13 := A_w13.wr W7
 replace A_w14 := A_w14.wr W7
 replace A_w15 := A_w15.wr W7
 replace A_w16 := A_w16.wr W7
 replace A_w17 := A_w17.wr W7
 replace A_w18 := A_w18.wr W7
 replace A_w19 := A_w19.wr W7
 replace A_w20 := A_w20.wr W7
 replace A_w21 := A_w21.wr W7
 replace A_w22 := A_w22.wr W7
 replace A_w23 := A_w23.wr W7
 replace A_w24 := A_w24.wr W7
 replace A_w25 := A_w25.wr W7
 replace KP := KP.wr W7 (Or.inr sz_b1)
 have V_b1 : Arv Z h7 b1 _ (.object "com/example/surfacemap/surfacemap/model/Finding$Rule") (26 : Int32) [(.ref w0), (.ref w1), (.ref w2), .null, .null, .null, .null, .null, .null, .null, .null, .null, .null, .null, .null, .null, .null, .null, .null, .null, .null, .null, .null, .null, .null, .null] .null := Vn7
 replace Z0 : n0 ≤ h7.size := by rw [W7.size]; exact Z0
 refine Gs st7 ?_
 show Goes _ _ _ _ _ (fT T7 m 23 #[vi x, vu] [(.ref b1)])
 refine Gz (XS.dup X7.here hx rfl (hb hby d24_23) rfl rfl) ?_
 refine gC X7 hx hby d24_24 ?_
 obtain ⟨T8, X8, e8, st8⟩ := getS2 X7 hx hZ hown (host := "") (Or.inl (gw hw 14 rfl)) Via.refl e7 S_JSON_DUPLICATE_KEY (g := (mkF m 25 #[vi x, vu] [(.int 3), (.ref b1), (.ref b1)])) rfl (hb hby d24_25)
 refine Gs st8 ?_
 show Goes _ _ _ _ _ (fT T8 m 28 #[vi x, vu] [(.ref w3), (.int 3), (.ref b1), (.ref b1)])
 obtain ⟨cl9, Ar9, q9, S9, N9z, H9, G9⟩ := V_b1
 have hin9 : ¬ ((3 : Int32) < 0 ∨ cl9.slots.size ≤ ((3 : Int32)).toNatClampNeg) := inb_of S9 ⟨by decide, by decide⟩
 obtain ⟨T9, h9, X9, e9, W9, st9⟩ := stR X8 hx hZ e8 Ar9 (j := (3 : Int32)) hin9 rfl (Sto.ofV Ar9 q9 O1 (Ins.self A_w3)) (g := (mkF m 28 #[vi x, vu] [(.ref w3), (.int 3), (.ref b1), (.ref b1)])) rfl rfl (hb hby d24_28)
 have Vn9 := Arv.set Ar9 q9 S9 N9z H9 G9 rfl W9 3 rfl (Nat.le_of_ble_eq_true rfl)
 have N9 := Fr.snoc X9 N7 g_b1
 replace S_JSON_ENCODING := S_JSON_ENCODING.wr W9
 replace S_KIND := S_KIND.wr W9
 replace S_DISCOVERY_VERSION := S_DISCOVERY_VERSION.wr W9
 replace S_PROTOCOL := S_PROTOCOL.wr W9
 replace S_REQUIRED_FIELD := S_REQUIRED_FIELD.wr W9
 replace S_URL_SEGMENT := S_URL_SEGMENT.wr W9
 replace S_SCHEMA_ID := S_SCHEMA_ID.wr W9
 replace S_REF := S_REF.wr W9
 replace S_TEMPLATE := S_TEMPLATE.wr W9
 replace S_PATH_VARIABLE := S_PATH_VARIABLE.wr W9
 replace S_PATH_PARAMETER := S_PATH_PARAMETER.wr W9
 replace S_PARAMETER_LOCATION := S_PARAMETER_LOCATION.wr W9
 replace S_PARAMETER_ORDER := S_PARAMETER_ORDER.wr W9
 replace S_HTTP_METHOD := S_HTTP_METHOD.wr W9
 replace S_MEDIA_UPLOAD := S_MEDIA_UPLOAD.wr W9
 replace S_METHOD_ID := S_METHOD_ID.wr W9
 replace S_ENUM_LENGTH := S_ENUM_LENGTH.wr W9
 replace S_ANNOTATION_METHOD := S_ANNOTATION_METHOD.wr W9
 replace S_TYPE := S_TYPE.wr W9
 replace S_SHAPE := S_SHAPE.wr W9
 replace S_LABEL := S_LABEL.wr W9
 replace S_PARAMETER_ORDER_MISSING := S_PARAMETER_ORDER_MISSING.wr W9
 replace A_w0 := A_w0.wr W9
 replace A_w1 := A_w1.wr W9
 replace A_w2 := A_w2.wr W9
 replace A_w3 := A_w3.wr W9
 replace A_w4 := A_w4.wr W9
 replace A_w5 := A_w5.wr W9
 replace A_w6 := A_w6.wr W9
 replace A_w7 := A_w7.wr W9
 replace A_w8 := A_w8.wr W9
 replace A_w9 := A_w9.wr W9
 replace A_w10 := A_w10.wr W9
 replace A_w11 := A_w11.wr W9
 replace A_w12 := A_w12.wr W9
 replace A_w13 := A_w13.wr W9
 replace A_w14 := A_w14.wr W9
 replace A_w15 := A_w15.wr W9
 replace A_w16 := A_w16.wr W9
 replace A_w17 := A_w17.wr W9
 replace A_w18 := A_w18.wr W9
 replace A_w19 := A_w19.wr W9
 replace A_w20 := A_w20.wr W9
 replace A_w21 := A_w21.wr W9
 replace A_w22 := A_w22.wr W9
 replace A_w23 := A_w23.wr W9
 replace A_w24 := A_w24.wr W9
 replace A_w25 := A_w25.wr W9
 replace KP := KP.wr W9 (Or.inr sz_b1)
 have V_b1 : Arv Z h9 b1 _ (.object "com/example/surfacemap/surfacemap/model/Finding$Rule") (26 : Int32) [(.ref w0), (.ref w1), (.ref w2), (.ref w3), .null, .null, .null, .null, .null, .null, .null, .null, .null, .null, .null, .null, .null, .null, .null, .null, .null, .null, .null, .null, .null, .null] .null := Vn9
 replace Z0 : n0 ≤ h9.size := by rw [W9.size]; exact Z0
 refine Gs st9 ?_
 show Goes _ _ _ _ _ (fT T9 m 29 #[vi x, vu] [(.ref b1)])
 refine Gz (XS.dup X9.here hx rfl (hb hby d24_29) rfl rfl) ?_
 refine gC X9 hx hby d24_30 ?_
 obtain ⟨T10, X10, e10, st10⟩ := getS2 X9 hx hZ hown (host := "") (Or.inl (gw hw 16 rfl)) Via.refl e9 S_JSON_ENCODING (g := (mkF m 31 #[vi x, vu] [(.int 4), (.ref b1), (.ref b1)])) rfl (hb hby d24_31)
 refine Gs st10 ?_
 show Goes _ _ _ _ _ (fT T10 m 34 #[vi x, vu] [(.ref w4), (.int 4), (.ref b1), (.ref b1)])
 obtain ⟨cl11, Ar11, q11, S11, N11z, H11, G11⟩ := V_b1
 have hin11 : ¬ ((4 : Int32) < 0 ∨ cl11.slots.size ≤ ((4 : Int32)).toNatClampNeg) := inb_of S11 ⟨by decide, by decide⟩
 obtain ⟨T11, h11, X11, e11, W11, st11⟩ := stR X10 hx hZ e10 Ar11 (j := (4 : Int32)) hin11 rfl (Sto.ofV Ar11 q11 O1 (Ins.self A_w4)) (g := (mkF m 34 #[vi x, vu] [(.ref w4), (.int 4), (.ref b1), (.ref b1)])) rfl rfl (hb hby d24_34)
 have Vn11 := Arv.set Ar11 q11 S11 N11z H11 G11 rfl W11 4 rfl (Nat.le_of_ble_eq_true rfl)
 have N11 := Fr.snoc X11 N9 g_b1
 replace S_KIND := S_KIND.wr W11
 replace S_DISCOVERY_VERSION := S_DISCOVERY_VERSION.wr W11
 replace S_PROTOCOL := S_PROTOCOL.wr W11
 replace S_REQUIRED_FIELD := S_REQUIRED_FIELD.wr W11
 replace S_URL_SEGMENT := S_URL_SEGMENT.wr W11
 replace S_SCHEMA_ID := S_SCHEMA_ID.wr W11
 replace S_REF := S_REF.wr W11
 replace S_TEMPLATE := S_TEMPLATE.wr W11
 replace S_PATH_VARIABLE := S_PATH_VARIABLE.wr W11
 replace S_PATH_PARAMETER := S_PATH_PARAMETER.wr W11
 replace S_PARAMETER_LOCATION := S_PARAMETER_LOCATION.wr W11
 replace S_PARAMETER_ORDER := S_PARAMETER_ORDER.wr W11
 replace S_HTTP_METHOD := S_HTTP_METHOD.wr W11
 replace S_MEDIA_UPLOAD := S_MEDIA_UPLOAD.wr W11
 replace S_METHOD_ID := S_METHOD_ID.wr W11
 replace S_ENUM_LENGTH := S_ENUM_LENGTH.wr W11
 replace S_ANNOTATION_METHOD := S_ANNOTATION_METHOD.wr W11
 replace S_TYPE := S_TYPE.wr W11
 replace S_SHAPE := S_SHAPE.wr W11
 replace S_LABEL := S_LABEL.wr W11
 replace S_PARAMETER_ORDER_MISSING := S_PARAMETER_ORDER_MISSING.wr W11
 replace A_w0 := A_w0.wr W11
 replace A_w1 := A_w1.wr W11
 replace A_w2 := A_w2.wr W11
 replace A_w3 := A_w3.wr W11
 replace A_w4 := A_w4.wr W11
 replace A_w5 := A_w5.wr W11
 replace A_w6 := A_w6.wr W11
 replace A_w7 := A_w7.wr W11
 replace A_w8 := A_w8.wr W11
 replace A_w9 := A_w9.wr W11
 replace A_w10 := A_w10.wr W11
 replace A_w11 := A_w11.wr W11
 replace A_w12 := A_w12.wr W11
 replace A_w13 := A_w13.wr W11
 replace A_w14 := A_w14.wr W11
 replace A_w15 := A_w15.wr W11
 replace A_w16 := A_w16.wr W11
 replace A_w17 := A_w17.wr W11
 replace A_w18 := A_w18.wr W11
 replace A_w19 := A_w19.wr W11
 replace A_w20 := A_w20.wr W11
 replace A_w21 := A_w21.wr W11
 replace A_w22 := A_w22.wr W11
 replace A_w23 := A_w23.wr W11
 replace A_w24 := A_w24.wr W11
 replace A_w25 := A_w25.wr W11
 replace KP := KP.wr W11 (Or.inr sz_b1)
 have V_b1 : Arv Z h11 b1 _ (.object "com/example/surfacemap/surfacemap/model/Finding$Rule") (26 : Int32) [(.ref w0), (.ref w1), (.ref w2), (.ref w3), (.ref w4), .null, .null, .null, .null, .null, .null, .null, .null, .null, .null, .null, .null, .null, .null, .null, .null, .null, .null, .null, .null, .null] .null := Vn11
 replace Z0 : n0 ≤ h11.size := by rw [W11.size]; exact Z0
 refine Gs st11 ?_
 show Goes _ _ _ _ _ (fT T11 m 35 #[vi x, vu] [(.ref b1)])
 refine Gz (XS.dup X11.here hx rfl (hb hby d24_35) rfl rfl) ?_
 refine gC X11 hx hby d24_36 ?_
 obtain ⟨T12, X12, e12, st12⟩ := getS2 X11 hx hZ hown (host := "") (Or.inl (gw hw 18 rfl)) Via.refl e11 S_KIND (g := (mkF m 37 #[vi x, vu] [(.int 5), (.ref b1), (.ref b1)])) rfl (hb hby d24_37)
 refine Gs st12 ?_
 show Goes _ _ _ _ _ (fT T12 m 40 #[vi x, vu] [(.ref w5), (.int 5), (.ref b1), (.ref b1)])
 obtain ⟨cl13, Ar13, q13, S13, N13z, H13, G13⟩ := V_b1
 have hin13 : ¬ ((5 : Int32) < 0 ∨ cl13.slots.size ≤ ((5 : Int32)).toNatClampNeg) := inb_of S13 ⟨by decide, by decide⟩
 obtain ⟨T13, h13, X13, e13, W13, st13⟩ := stR X12 hx hZ e12 Ar13 (j := (5 : Int32)) hin13 rfl (Sto.ofV Ar13 q13 O1 (Ins.self A_w5)) (g := (mkF m 40 #[vi x, vu] [(.ref w5), (.int 5), (.ref b1), (.ref b1)])) rfl rfl (hb hby d24_40)
 have Vn13 := Arv.set Ar13 q13 S13 N13z H13 G13 rfl W13 5 rfl (Nat.le_of_ble_eq_true rfl)
 have N13 := Fr.snoc X13 N11 g_b1
 replace S_DISCOVERY_VERSION := S_DISCOVERY_VERSION.wr W13
 replace S_PROTOCOL := S_PROTOCOL.wr W13
 replace S_REQUIRED_FIELD := S_REQUIRED_FIELD.wr W13
 replace S_URL_SEGMENT := S_URL_SEGMENT.wr W13
 replace S_SCHEMA_ID := S_SCHEMA_ID.wr W13
 replace S_REF := S_REF.wr W13
 replace S_TEMPLATE := S_TEMPLATE.wr W13
 replace S_PATH_VARIABLE := S_PATH_VARIABLE.wr W13
 replace S_PATH_PARAMETER := S_PATH_PARAMETER.wr W13
 replace S_PARAMETER_LOCATION := S_PARAMETER_LOCATION.wr W13
 replace S_PARAMETER_ORDER := S_PARAMETER_ORDER.wr W13
 replace S_HTTP_METHOD := S_HTTP_METHOD.wr W13
 replace S_MEDIA_UPLOAD := S_MEDIA_UPLOAD.wr W13
 replace S_METHOD_ID := S_METHOD_ID.wr W13
 replace S_ENUM_LENGTH := S_ENUM_LENGTH.wr W13
 replace S_ANNOTATION_METHOD := S_ANNOTATION_METHOD.wr W13
 replace S_TYPE := S_TYPE.wr W13
 replace S_SHAPE := S_SHAPE.wr W13
 replace S_LABEL := S_LABEL.wr W13
 replace S_PARAMETER_ORDER_MISSING := S_PARAMETER_ORDER_MISSING.wr W13
 replace A_w0 := A_w0.wr W13
 replace A_w1 := A_w1.wr W13
 replace A_w2 := A_w2.wr W13
 replace A_w3 := A_w3.wr W13
 replace A_w4 := A_w4.wr W13
 replace A_w5 := A_w5.wr W13
 replace A_w6 := A_w6.wr W13
 replace A_w7 := A_w7.wr W13
 replace A_w8 := A_w8.wr W13
 replace A_w9 := A_w9.wr W13
 replace A_w10 := A_w10.wr W13
 replace A_w11 := A_w11.wr W13
 replace A_w12 := A_w12.wr W13
 replace A_w13 := A_w13.wr W13
 replace A_w14 := A_w14.wr W13
 replace A_w15 := A_w15.wr W13
 replace A_w16 := A_w16.wr W13
 replace A_w17 := A_w17.wr W13
 replace A_w18 := A_w18.wr W13
 replace A_w19 := A_w19.wr W13
 replace A_w20 := A_w20.wr W13
 replace A_w21 := A_w21.wr W13
 replace A_w22 := A_w22.wr W13
 replace A_w23 := A_w23.wr W13
 replace A_w24 := A_w24.wr W13
 replace A_w25 := A_w25.wr W13
 replace KP := KP.wr W13 (Or.inr sz_b1)
 have V_b1 : Arv Z h13 b1 _ (.object "com/example/surfacemap/surfacemap/model/Finding$Rule") (26 : Int32) [(.ref w0), (.ref w1), (.ref w2), (.ref w3), (.ref w4), (.ref w5), .null, .null, .null, .null, .null, .null, .null, .null, .null, .null, .null, .null, .null, .null, .null, .null, .null, .null, .null, .null] .null := Vn13
 replace Z0 : n0 ≤ h13.size := by rw [W13.size]; exact Z0
 refine Gs st13 ?_
 show Goes _ _ _ _ _ (fT T13 m 41 #[vi x, vu] [(.ref b1)])
 refine Gz (XS.dup X13.here hx rfl (hb hby d24_41) rfl rfl) ?_
 refine gB X13 hx hby d24_42 ?_
 obtain ⟨T14, X14, e14, st14⟩ := getS2 X13 hx hZ hown (host := "") (Or.inl (gw hw 20 rfl)) Via.refl e13 S_DISCOVERY_VERSION (g := (mkF m 44 #[vi x, vu] [(.int 6), (.ref b1), (.ref b1)])) rfl (hb hby d24_44)
 refine Gs st14 ?_
 show Goes _ _ _ _ _ (fT T14 m 47 #[vi x, vu] [(.ref w6), (.int 6), (.ref b1), (.ref b1)])
 obtain ⟨cl15, Ar15, q15, S15, N15z, H15, G15⟩ := V_b1
 have hin15 : ¬ ((6 : Int32) < 0 ∨ cl15.slots.size ≤ ((6 : Int32)).toNatClampNeg) := inb_of S15 ⟨by decide, by decide⟩
 obtain ⟨T15, h15, X15, e15, W15, st15⟩ := stR X14 hx hZ e14 Ar15 (j := (6 : Int32)) hin15 rfl (Sto.ofV Ar15 q15 O1 (Ins.self A_w6)) (g := (mkF m 47 #[vi x, vu] [(.ref w6), (.int 6), (.ref b1), (.ref b1)])) rfl rfl (hb hby d24_47)
 have Vn15 := Arv.set Ar15 q15 S15 N15z H15 G15 rfl W15 6 rfl (Nat.le_of_ble_eq_true rfl)
 have N15 := Fr.snoc X15 N13 g_b1
 replace S_PROTOCOL := S_PROTOCOL.wr W15
 replace S_REQUIRED_FIELD := S_REQUIRED_FIELD.wr W15
 replace S_URL_SEGMENT := S_URL_SEGMENT.wr W15
 replace S_SCHEMA_ID := S_SCHEMA_ID.wr W15
 replace S_REF := S_REF.wr W15
 replace S_TEMPLATE := S_TEMPLATE.wr W15
 replace S_PATH_VARIABLE := S_PATH_VARIABLE.wr W15
 replace S_PATH_PARAMETER := S_PATH_PARAMETER.wr W15
 replace S_PARAMETER_LOCATION := S_PARAMETER_LOCATION.wr W15
 replace S_PARAMETER_ORDER := S_PARAMETER_ORDER.wr W15
 replace S_HTTP_METHOD := S_HTTP_METHOD.wr W15
 replace S_MEDIA_UPLOAD := S_MEDIA_UPLOAD.wr W15
 replace S_METHOD_ID := S_METHOD_ID.wr W15
 replace S_ENUM_LENGTH := S_ENUM_LENGTH.wr W15
 replace S_ANNOTATION_METHOD := S_ANNOTATION_METHOD.wr W15
 replace S_TYPE := S_TYPE.wr W15
 replace S_SHAPE := S_SHAPE.wr W15
 replace S_LABEL := S_LABEL.wr W15
 replace S_PARAMETER_ORDER_MISSING := S_PARAMETER_ORDER_MISSING.wr W15
 replace A_w0 := A_w0.wr W15
 replace A_w1 := A_w1.wr W15
 replace A_w2 := A_w2.wr W15
 replace A_w3 := A_w3.wr W15
 replace A_w4 := A_w4.wr W15
 replace A_w5 := A_w5.wr W15
 replace A_w6 := A_w6.wr W15
 replace A_w7 := A_w7.wr W15
 replace A_w8 := A_w8.wr W15
 replace A_w9 := A_w9.wr W15
 replace A_w10 := A_w10.wr W15
 replace A_w11 := A_w11.wr W15
 replace A_w12 := A_w12.wr W15
 replace A_w13 := A_w13.wr W15
 replace A_w14 := A_w14.wr W15
 replace A_w15 := A_w15.wr W15
 replace A_w16 := A_w16.wr W15
 replace A_w17 := A_w17.wr W15
 replace A_w18 := A_w18.wr W15
 replace A_w19 := A_w19.wr W15
 replace A_w20 := A_w20.wr W15
 replace A_w21 := A_w21.wr W15
 replace A_w22 := A_w22.wr W15
 replace A_w23 := A_w23.wr W15
 replace A_w24 := A_w24.wr W15
 replace A_w25 := A_w25.wr W15
 replace KP := KP.wr W15 (Or.inr sz_b1)
 have V_b1 : Arv Z h15 b1 _ (.object "com/example/surfacemap/surfacemap/model/Finding$Rule") (26 : Int32) [(.ref w0), (.ref w1), (.ref w2), (.ref w3), (.ref w4), (.ref w5), (.ref w6), .null, .null, .null, .null, .null, .null, .null, .null, .null, .null, .null, .null, .null, .null, .null, .null, .null, .null, .null] .null := Vn15
 replace Z0 : n0 ≤ h15.size := by rw [W15.size]; exact Z0
 refine Gs st15 ?_
 show Goes _ _ _ _ _ (fT T15 m 48 #[vi x, vu] [(.ref b1)])
 refine Gz (XS.dup X15.here hx rfl (hb hby d24_48) rfl rfl) ?_
 refine gB X15 hx hby d24_49 ?_
 obtain ⟨T16, X16, e16, st16⟩ := getS2 X15 hx hZ hown (host := "") (Or.inl (gw hw 22 rfl)) Via.refl e15 S_PROTOCOL (g := (mkF m 51 #[vi x, vu] [(.int 7), (.ref b1), (.ref b1)])) rfl (hb hby d24_51)
 refine Gs st16 ?_
 show Goes _ _ _ _ _ (fT T16 m 54 #[vi x, vu] [(.ref w7), (.int 7), (.ref b1), (.ref b1)])
 obtain ⟨cl17, Ar17, q17, S17, N17z, H17, G17⟩ := V_b1
 have hin17 : ¬ ((7 : Int32) < 0 ∨ cl17.slots.size ≤ ((7 : Int32)).toNatClampNeg) := inb_of S17 ⟨by decide, by decide⟩
 obtain ⟨T17, h17, X17, e17, W17, st17⟩ := stR X16 hx hZ e16 Ar17 (j := (7 : Int32)) hin17 rfl (Sto.ofV Ar17 q17 O1 (Ins.self A_w7)) (g := (mkF m 54 #[vi x, vu] [(.ref w7), (.int 7), (.ref b1), (.ref b1)])) rfl rfl (hb hby d24_54)
 have Vn17 := Arv.set Ar17 q17 S17 N17z H17 G17 rfl W17 7 rfl (Nat.le_of_ble_eq_true rfl)
 have N17 := Fr.snoc X17 N15 g_b1
 replace S_REQUIRED_FIELD := S_REQUIRED_FIELD.wr W17
 replace S_URL_SEGMENT := S_URL_SEGMENT.wr W17
 replace S_SCHEMA_ID := S_SCHEMA_ID.wr W17
 replace S_REF := S_REF.wr W17
 replace S_TEMPLATE := S_TEMPLATE.wr W17
 replace S_PATH_VARIABLE := S_PATH_VARIABLE.wr W17
 replace S_PATH_PARAMETER := S_PATH_PARAMETER.wr W17
 replace S_PARAMETER_LOCATION := S_PARAMETER_LOCATION.wr W17
 replace S_PARAMETER_ORDER := S_PARAMETER_ORDER.wr W17
 replace S_HTTP_METHOD := S_HTTP_METHOD.wr W17
 replace S_MEDIA_UPLOAD := S_MEDIA_UPLOAD.wr W17
 replace S_METHOD_ID := S_METHOD_ID.wr W17
 replace S_ENUM_LENGTH := S_ENUM_LENGTH.wr W17
 replace S_ANNOTATION_METHOD := S_ANNOTATION_METHOD.wr W17
 replace S_TYPE := S_TYPE.wr W17
 replace S_SHAPE := S_SHAPE.wr W17
 replace S_LABEL := S_LABEL.wr W17
 replace S_PARAMETER_ORDER_MISSING := S_PARAMETER_ORDER_MISSING.wr W17
 replace A_w0 := A_w0.wr W17
 replace A_w1 := A_w1.wr W17
 replace A_w2 := A_w2.wr W17
 replace A_w3 := A_w3.wr W17
 replace A_w4 := A_w4.wr W17
 replace A_w5 := A_w5.wr W17
 replace A_w6 := A_w6.wr W17
 replace A_w7 := A_w7.wr W17
 replace A_w8 := A_w8.wr W17
 replace A_w9 := A_w9.wr W17
 replace A_w10 := A_w10.wr W17
 replace A_w11 := A_w11.wr W17
 replace A_w12 := A_w12.wr W17
 replace A_w13 := A_w13.wr W17
 replace A_w14 := A_w14.wr W17
 replace A_w15 := A_w15.wr W17
 replace A_w16 := A_w16.wr W17
 replace A_w17 := A_w17.wr W17
 replace A_w18 := A_w18.wr W17
 replace A_w19 := A_w19.wr W17
 replace A_w20 := A_w20.wr W17
 replace A_w21 := A_w21.wr W17
 replace A_w22 := A_w22.wr W17
 replace A_w23 := A_w23.wr W17
 replace A_w24 := A_w24.wr W17
 replace A_w25 := A_w25.wr W17
 replace KP := KP.wr W17 (Or.inr sz_b1)
 have V_b1 : Arv Z h17 b1 _ (.object "com/example/surfacemap/surfacemap/model/Finding$Rule") (26 : Int32) [(.ref w0), (.ref w1), (.ref w2), (.ref w3), (.ref w4), (.ref w5), (.ref w6), (.ref w7), .null, .null, .null, .null, .null, .null, .null, .null, .null, .null, .null, .null, .null, .null, .null, .null, .null, .null] .null := Vn17
 replace Z0 : n0 ≤ h17.size := by rw [W17.size]; exact Z0
 refine Gs st17 ?_
 show Goes _ _ _ _ _ (fT T17 m 55 #[vi x, vu] [(.ref b1)])
 refine Gz (XS.dup X17.here hx rfl (hb hby d24_55) rfl rfl) ?_
 refine gB X17 hx hby d24_56 ?_
 obtain ⟨T18, X18, e18, st18⟩ := getS2 X17 hx hZ hown (host := "") (Or.inl (gw hw 24 rfl)) Via.refl e17 S_REQUIRED_FIELD (g := (mkF m 58 #[vi x, vu] [(.int 8), (.ref b1), (.ref b1)])) rfl (hb hby d24_58)
 refine Gs st18 ?_
 show Goes _ _ _ _ _ (fT T18 m 61 #[vi x, vu] [(.ref w8), (.int 8), (.ref b1), (.ref b1)])
 obtain ⟨cl19, Ar19, q19, S19, N19z, H19, G19⟩ := V_b1
 have hin19 : ¬ ((8 : Int32) < 0 ∨ cl19.slots.size ≤ ((8 : Int32)).toNatClampNeg) := inb_of S19 ⟨by decide, by decide⟩
 obtain ⟨T19, h19, X19, e19, W19, st19⟩ := stR X18 hx hZ e18 Ar19 (j := (8 : Int32)) hin19 rfl (Sto.ofV Ar19 q19 O1 (Ins.self A_w8)) (g := (mkF m 61 #[vi x, vu] [(.ref w8), (.int 8), (.ref b1), (.ref b1)])) rfl rfl (hb hby d24_61)
 have Vn19 := Arv.set Ar19 q19 S19 N19z H19 G19 rfl W19 8 rfl (Nat.le_of_ble_eq_true rfl)
 have N19 := Fr.snoc X19 N17 g_b1
 replace S_URL_SEGMENT := S_URL_SEGMENT.wr W19
 replace S_SCHEMA_ID := S_SCHEMA_ID.wr W19
 replace S_REF := S_REF.wr W19
 replace S_TEMPLATE := S_TEMPLATE.wr W19
 replace S_PATH_VARIABLE := S_PATH_VARIABLE.wr W19
 replace S_PATH_PARAMETER := S_PATH_PARAMETER.wr W19
 replace S_PARAMETER_LOCATION := S_PARAMETER_LOCATION.wr W19
 replace S_PARAMETER_ORDER := S_PARAMETER_ORDER.wr W19
 replace S_HTTP_METHOD := S_HTTP_METHOD.wr W19
 replace S_MEDIA_UPLOAD := S_MEDIA_UPLOAD.wr W19
 replace S_METHOD_ID := S_METHOD_ID.wr W19
 replace S_ENUM_LENGTH := S_ENUM_LENGTH.wr W19
 replace S_ANNOTATION_METHOD := S_ANNOTATION_METHOD.wr W19
 replace S_TYPE := S_TYPE.wr W19
 replace S_SHAPE := S_SHAPE.wr W19
 replace S_LABEL := S_LABEL.wr W19
 replace S_PARAMETER_ORDER_MISSING := S_PARAMETER_ORDER_MISSING.wr W19
 replace A_w0 := A_w0.wr W19
 replace A_w1 := A_w1.wr W19
 replace A_w2 := A_w2.wr W19
 replace A_w3 := A_w3.wr W19
 replace A_w4 := A_w4.wr W19
 replace A_w5 := A_w5.wr W19
 replace A_w6 := A_w6.wr W19
 replace A_w7 := A_w7.wr W19
 replace A_w8 := A_w8.wr W19
 replace A_w9 := A_w9.wr W19
 replace A_w10 := A_w10.wr W19
 replace A_w11 := A_w11.wr W19
 replace A_w12 := A_w12.wr W19
 replace A_w13 := A_w13.wr W19
 replace A_w14 := A_w14.wr W19
 replace A_w15 := A_w15.wr W19
 replace A_w16 := A_w16.wr W19
 replace A_w17 := A_w17.wr W19
 replace A_w18 := A_w18.wr W19
 replace A_w19 := A_w19.wr W19
 replace A_w20 := A_w20.wr W19
 replace A_w21 := A_w21.wr W19
 replace A_w22 := A_w22.wr W19
 replace A_w23 := A_w23.wr W19
 replace A_w24 := A_w24.wr W19
 replace A_w25 := A_w25.wr W19
 replace KP := KP.wr W19 (Or.inr sz_b1)
 have V_b1 : Arv Z h19 b1 _ (.object "com/example/surfacemap/surfacemap/model/Finding$Rule") (26 : Int32) [(.ref w0), (.ref w1), (.ref w2), (.ref w3), (.ref w4), (.ref w5), (.ref w6), (.ref w7), (.ref w8), .null, .null, .null, .null, .null, .null, .null, .null, .null, .null, .null, .null, .null, .null, .null, .null, .null] .null := Vn19
 replace Z0 : n0 ≤ h19.size := by rw [W19.size]; exact Z0
 refine Gs st19 ?_
 show Goes _ _ _ _ _ (fT T19 m 62 #[vi x, vu] [(.ref b1)])
 refine Gz (XS.dup X19.here hx rfl (hb hby d24_62) rfl rfl) ?_
 refine gB X19 hx hby d24_63 ?_
 obtain ⟨T20, X20, e20, st20⟩ := getS2 X19 hx hZ hown (host := "") (Or.inl (gw hw 26 rfl)) Via.refl e19 S_URL_SEGMENT (g := (mkF m 65 #[vi x, vu] [(.int 9), (.ref b1), (.ref b1)])) rfl (hb hby d24_65)
 refine Gs st20 ?_
 show Goes _ _ _ _ _ (fT T20 m 68 #[vi x, vu] [(.ref w9), (.int 9), (.ref b1), (.ref b1)])
 obtain ⟨cl21, Ar21, q21, S21, N21z, H21, G21⟩ := V_b1
 have hin21 : ¬ ((9 : Int32) < 0 ∨ cl21.slots.size ≤ ((9 : Int32)).toNatClampNeg) := inb_of S21 ⟨by decide, by decide⟩
 obtain ⟨T21, h21, X21, e21, W21, st21⟩ := stR X20 hx hZ e20 Ar21 (j := (9 : Int32)) hin21 rfl (Sto.ofV Ar21 q21 O1 (Ins.self A_w9)) (g := (mkF m 68 #[vi x, vu] [(.ref w9), (.int 9), (.ref b1), (.ref b1)])) rfl rfl (hb hby d24_68)
 have Vn21 := Arv.set Ar21 q21 S21 N21z H21 G21 rfl W21 9 rfl (Nat.le_of_ble_eq_true rfl)
 have N21 := Fr.snoc X21 N19 g_b1
 replace S_SCHEMA_ID := S_SCHEMA_ID.wr W21
 replace S_REF := S_REF.wr W21
 replace S_TEMPLATE := S_TEMPLATE.wr W21
 replace S_PATH_VARIABLE := S_PATH_VARIABLE.wr W21
 replace S_PATH_PARAMETER := S_PATH_PARAMETER.wr W21
 replace S_PARAMETER_LOCATION := S_PARAMETER_LOCATION.wr W21
 replace S_PARAMETER_ORDER := S_PARAMETER_ORDER.wr W21
 replace S_HTTP_METHOD := S_HTTP_METHOD.wr W21
 replace S_MEDIA_UPLOAD := S_MEDIA_UPLOAD.wr W21
 replace S_METHOD_ID := S_METHOD_ID.wr W21
 replace S_ENUM_LENGTH := S_ENUM_LENGTH.wr W21
 replace S_ANNOTATION_METHOD := S_ANNOTATION_METHOD.wr W21
 replace S_TYPE := S_TYPE.wr W21
 replace S_SHAPE := S_SHAPE.wr W21
 replace S_LABEL := S_LABEL.wr W21
 replace S_PARAMETER_ORDER_MISSING := S_PARAMETER_ORDER_MISSING.wr W21
 replace A_w0 := A_w0.wr W21
 replace A_w1 := A_w1.wr W21
 replace A_w2 := A_w2.wr W21
 replace A_w3 := A_w3.wr W21
 replace A_w4 := A_w4.wr W21
 replace A_w5 := A_w5.wr W21
 replace A_w6 := A_w6.wr W21
 replace A_w7 := A_w7.wr W21
 replace A_w8 := A_w8.wr W21
 replace A_w9 := A_w9.wr W21
 replace A_w10 := A_w10.wr W21
 replace A_w11 := A_w11.wr W21
 replace A_w12 := A_w12.wr W21
 replace A_w13 := A_w13.wr W21
 replace A_w14 := A_w14.wr W21
 replace A_w15 := A_w15.wr W21
 replace A_w16 := A_w16.wr W21
 replace A_w17 := A_w17.wr W21
 replace A_w18 := A_w18.wr W21
 replace A_w19 := A_w19.wr W21
 replace A_w20 := A_w20.wr W21
 replace A_w21 := A_w21.wr W21
 replace A_w22 := A_w22.wr W21
 replace A_w23 := A_w23.wr W21
 replace A_w24 := A_w24.wr W21
 replace A_w25 := A_w25.wr W21
 replace KP := KP.wr W21 (Or.inr sz_b1)
 have V_b1 : Arv Z h21 b1 _ (.object "com/example/surfacemap/surfacemap/model/Finding$Rule") (26 : Int32) [(.ref w0), (.ref w1), (.ref w2), (.ref w3), (.ref w4), (.ref w5), (.ref w6), (.ref w7), (.ref w8), (.ref w9), .null, .null, .null, .null, .null, .null, .null, .null, .null, .null, .null, .null, .null, .null, .null, .null] .null := Vn21
 replace Z0 : n0 ≤ h21.size := by rw [W21.size]; exact Z0
 refine Gs st21 ?_
 show Goes _ _ _ _ _ (fT T21 m 69 #[vi x, vu] [(.ref b1)])
 refine Gz (XS.dup X21.here hx rfl (hb hby d24_69) rfl rfl) ?_
 refine gB X21 hx hby d24_70 ?_
 obtain ⟨T22, X22, e22, st22⟩ := getS2 X21 hx hZ hown (host := "") (Or.inl (gw hw 28 rfl)) Via.refl e21 S_SCHEMA_ID (g := (mkF m 72 #[vi x, vu] [(.int 10), (.ref b1), (.ref b1)])) rfl (hb hby d24_72)
 refine Gs st22 ?_
 show Goes _ _ _ _ _ (fT T22 m 75 #[vi x, vu] [(.ref w10), (.int 10), (.ref b1), (.ref b1)])
 obtain ⟨cl23, Ar23, q23, S23, N23z, H23, G23⟩ := V_b1
 have hin23 : ¬ ((10 : Int32) < 0 ∨ cl23.slots.size ≤ ((10 : Int32)).toNatClampNeg) := inb_of S23 ⟨by decide, by decide⟩
 obtain ⟨T23, h23, X23, e23, W23, st23⟩ := stR X22 hx hZ e22 Ar23 (j := (10 : Int32)) hin23 rfl (Sto.ofV Ar23 q23 O1 (Ins.self A_w10)) (g := (mkF m 75 #[vi x, vu] [(.ref w10), (.int 10), (.ref b1), (.ref b1)])) rfl rfl (hb hby d24_75)
 have Vn23 := Arv.set Ar23 q23 S23 N23z H23 G23 rfl W23 10 rfl (Nat.le_of_ble_eq_true rfl)
 have N23 := Fr.snoc X23 N21 g_b1
 replace S_REF := S_REF.wr W23
 replace S_TEMPLATE := S_TEMPLATE.wr W23
 replace S_PATH_VARIABLE := S_PATH_VARIABLE.wr W23
 replace S_PATH_PARAMETER := S_PATH_PARAMETER.wr W23
 replace S_PARAMETER_LOCATION := S_PARAMETER_LOCATION.wr W23
 replace S_PARAMETER_ORDER := S_PARAMETER_ORDER.wr W23
 replace S_HTTP_METHOD := S_HTTP_METHOD.wr W23
 replace S_MEDIA_UPLOAD := S_MEDIA_UPLOAD.wr W23
 replace S_METHOD_ID := S_METHOD_ID.wr W23
 replace S_ENUM_LENGTH := S_ENUM_LENGTH.wr W23
 replace S_ANNOTATION_METHOD := S_ANNOTATION_METHOD.wr W23
 replace S_TYPE := S_TYPE.wr W23
 replace S_SHAPE := S_SHAPE.wr W23
 replace S_LABEL := S_LABEL.wr W23
 replace S_PARAMETER_ORDER_MISSING := S_PARAMETER_ORDER_MISSING.wr W23
 replace A_w0 := A_w0.wr W23
 replace A_w1 := A_w1.wr W23
 replace A_w2 := A_w2.wr W23
 replace A_w3 := A_w3.wr W23
 replace A_w4 := A_w4.wr W23
 replace A_w5 := A_w5.wr W23
 replace A_w6 := A_w6.wr W23
 replace A_w7 := A_w7.wr W23
 replace A_w8 := A_w8.wr W23
 replace A_w9 := A_w9.wr W23
 replace A_w10 := A_w10.wr W23
 replace A_w11 := A_w11.wr W23
 replace A_w12 := A_w12.wr W23
 replace A_w13 := A_w13.wr W23
 replace A_w14 := A_w14.wr W23
 replace A_w15 := A_w15.wr W23
 replace A_w16 := A_w16.wr W23
 replace A_w17 := A_w17.wr W23
 replace A_w18 := A_w18.wr W23
 replace A_w19 := A_w19.wr W23
 replace A_w20 := A_w20.wr W23
 replace A_w21 := A_w21.wr W23
 replace A_w22 := A_w22.wr W23
 replace A_w23 := A_w23.wr W23
 replace A_w24 := A_w24.wr W23
 replace A_w25 := A_w25.wr W23
 replace KP := KP.wr W23 (Or.inr sz_b1)
 have V_b1 : Arv Z h23 b1 _ (.object "com/example/surfacemap/surfacemap/model/Finding$Rule") (26 : Int32) [(.ref w0), (.ref w1), (.ref w2), (.ref w3), (.ref w4), (.ref w5), (.ref w6), (.ref w7), (.ref w8), (.ref w9), (.ref w10), .null, .null, .null, .null, .null, .null, .null, .null, .null, .null, .null, .null, .null, .null, .null] .null := Vn23
 replace Z0 : n0 ≤ h23.size := by rw [W23.size]; exact Z0
 refine Gs st23 ?_
 show Goes _ _ _ _ _ (fT T23 m 76 #[vi x, vu] [(.ref b1)])
 refine Gz (XS.dup X23.here hx rfl (hb hby d24_76) rfl rfl) ?_
 refine gB X23 hx hby d24_77 ?_
 obtain ⟨T24, X24, e24, st24⟩ := getS2 X23 hx hZ hown (host := "") (Or.inl (gw hw 30 rfl)) Via.refl e23 S_REF (g := (mkF m 79 #[vi x, vu] [(.int 11), (.ref b1), (.ref b1)])) rfl (hb hby d24_79)
 refine Gs st24 ?_
 show Goes _ _ _ _ _ (fT T24 m 82 #[vi x, vu] [(.ref w11), (.int 11), (.ref b1), (.ref b1)])
 obtain ⟨cl25, Ar25, q25, S25, N25z, H25, G25⟩ := V_b1
 have hin25 : ¬ ((11 : Int32) < 0 ∨ cl25.slots.size ≤ ((11 : Int32)).toNatClampNeg) := inb_of S25 ⟨by decide, by decide⟩
 obtain ⟨T25, h25, X25, e25, W25, st25⟩ := stR X24 hx hZ e24 Ar25 (j := (11 : Int32)) hin25 rfl (Sto.ofV Ar25 q25 O1 (Ins.self A_w11)) (g := (mkF m 82 #[vi x, vu] [(.ref w11), (.int 11), (.ref b1), (.ref b1)])) rfl rfl (hb hby d24_82)
 have Vn25 := Arv.set Ar25 q25 S25 N25z H25 G25 rfl W25 11 rfl (Nat.le_of_ble_eq_true rfl)
 have N25 := Fr.snoc X25 N23 g_b1
 replace S_TEMPLATE := S_TEMPLATE.wr W25
 replace S_PATH_VARIABLE := S_PATH_VARIABLE.wr W25
 replace S_PATH_PARAMETER := S_PATH_PARAMETER.wr W25
 replace S_PARAMETER_LOCATION := S_PARAMETER_LOCATION.wr W25
 replace S_PARAMETER_ORDER := S_PARAMETER_ORDER.wr W25
 replace S_HTTP_METHOD := S_HTTP_METHOD.wr W25
 replace S_MEDIA_UPLOAD := S_MEDIA_UPLOAD.wr W25
 replace S_METHOD_ID := S_METHOD_ID.wr W25
 replace S_ENUM_LENGTH := S_ENUM_LENGTH.wr W25
 replace S_ANNOTATION_METHOD := S_ANNOTATION_METHOD.wr W25
 replace S_TYPE := S_TYPE.wr W25
 replace S_SHAPE := S_SHAPE.wr W25
 replace S_LABEL := S_LABEL.wr W25
 replace S_PARAMETER_ORDER_MISSING := S_PARAMETER_ORDER_MISSING.wr W25
 replace A_w0 := A_w0.wr W25
 replace A_w1 := A_w1.wr W25
 replace A_w2 := A_w2.wr W25
 replace A_w3 := A_w3.wr W25
 replace A_w4 := A_w4.wr W25
 replace A_w5 := A_w5.wr W25
 replace A_w6 := A_w6.wr W25
 replace A_w7 := A_w7.wr W25
 replace A_w8 := A_w8.wr W25
 replace A_w9 := A_w9.wr W25
 replace A_w10 := A_w10.wr W25
 replace A_w11 := A_w11.wr W25
 replace A_w12 := A_w12.wr W25
 replace A_w13 := A_w13.wr W25
 replace A_w14 := A_w14.wr W25
 replace A_w15 := A_w15.wr W25
 replace A_w16 := A_w16.wr W25
 replace A_w17 := A_w17.wr W25
 replace A_w18 := A_w18.wr W25
 replace A_w19 := A_w19.wr W25
 replace A_w20 := A_w20.wr W25
 replace A_w21 := A_w21.wr W25
 replace A_w22 := A_w22.wr W25
 replace A_w23 := A_w23.wr W25
 replace A_w24 := A_w24.wr W25
 replace A_w25 := A_w25.wr W25
 replace KP := KP.wr W25 (Or.inr sz_b1)
 have V_b1 : Arv Z h25 b1 _ (.object "com/example/surfacemap/surfacemap/model/Finding$Rule") (26 : Int32) [(.ref w0), (.ref w1), (.ref w2), (.ref w3), (.ref w4), (.ref w5), (.ref w6), (.ref w7), (.ref w8), (.ref w9), (.ref w10), (.ref w11), .null, .null, .null, .null, .null, .null, .null, .null, .null, .null, .null, .null, .null, .null] .null := Vn25
 replace Z0 : n0 ≤ h25.size := by rw [W25.size]; exact Z0
 refine Gs st25 ?_
 show Goes _ _ _ _ _ (fT T25 m 83 #[vi x, vu] [(.ref b1)])
 refine Gz (XS.dup X25.here hx rfl (hb hby d24_83) rfl rfl) ?_
 refine gB X25 hx hby d24_84 ?_
 obtain ⟨T26, X26, e26, st26⟩ := getS2 X25 hx hZ hown (host := "") (Or.inl (gw hw 32 rfl)) Via.refl e25 S_TEMPLATE (g := (mkF m 86 #[vi x, vu] [(.int 12), (.ref b1), (.ref b1)])) rfl (hb hby d24_86)
 refine Gs st26 ?_
 show Goes _ _ _ _ _ (fT T26 m 89 #[vi x, vu] [(.ref w12), (.int 12), (.ref b1), (.ref b1)])
 obtain ⟨cl27, Ar27, q27, S27, N27z, H27, G27⟩ := V_b1
 have hin27 : ¬ ((12 : Int32) < 0 ∨ cl27.slots.size ≤ ((12 : Int32)).toNatClampNeg) := inb_of S27 ⟨by decide, by decide⟩
 obtain ⟨T27, h27, X27, e27, W27, st27⟩ := stR X26 hx hZ e26 Ar27 (j := (12 : Int32)) hin27 rfl (Sto.ofV Ar27 q27 O1 (Ins.self A_w12)) (g := (mkF m 89 #[vi x, vu] [(.ref w12), (.int 12), (.ref b1), (.ref b1)])) rfl rfl (hb hby d24_89)
 have Vn27 := Arv.set Ar27 q27 S27 N27z H27 G27 rfl W27 12 rfl (Nat.le_of_ble_eq_true rfl)
 have N27 := Fr.snoc X27 N25 g_b1
 replace S_PATH_VARIABLE := S_PATH_VARIABLE.wr W27
 replace S_PATH_PARAMETER := S_PATH_PARAMETER.wr W27
 replace S_PARAMETER_LOCATION := S_PARAMETER_LOCATION.wr W27
 replace S_PARAMETER_ORDER := S_PARAMETER_ORDER.wr W27
 replace S_HTTP_METHOD := S_HTTP_METHOD.wr W27
 replace S_MEDIA_UPLOAD := S_MEDIA_UPLOAD.wr W27
 replace S_METHOD_ID := S_METHOD_ID.wr W27
 replace S_ENUM_LENGTH := S_ENUM_LENGTH.wr W27
 replace S_ANNOTATION_METHOD := S_ANNOTATION_METHOD.wr W27
 replace S_TYPE := S_TYPE.wr W27
 replace S_SHAPE := S_SHAPE.wr W27
 replace S_LABEL := S_LABEL.wr W27
 replace S_PARAMETER_ORDER_MISSING := S_PARAMETER_ORDER_MISSING.wr W27
 replace A_w0 := A_w0.wr W27
 replace A_w1 := A_w1.wr W27
 replace A_w2 := A_w2.wr W27
 replace A_w3 := A_w3.wr W27
 replace A_w4 := A_w4.wr W27
 replace A_w5 := A_w5.wr W27
 replace A_w6 := A_w6.wr W27
 replace A_w7 := A_w7.wr W27
 replace A_w8 := A_w8.wr W27
 replace A_w9 := A_w9.wr W27
 replace A_w10 := A_w10.wr W27
 replace A_w11 := A_w11.wr W27
 replace A_w12 := A_w12.wr W27
 replace A_w13 := A_w13.wr W27
 replace A_w14 := A_w14.wr W27
 replace A_w15 := A_w15.wr W27
 replace A_w16 := A_w16.wr W27
 replace A_w17 := A_w17.wr W27
 replace A_w18 := A_w18.wr W27
 replace A_w19 := A_w19.wr W27
 replace A_w20 := A_w20.wr W27
 replace A_w21 := A_w21.wr W27
 replace A_w22 := A_w22.wr W27
 replace A_w23 := A_w23.wr W27
 replace A_w24 := A_w24.wr W27
 replace A_w25 := A_w25.wr W27
 replace KP := KP.wr W27 (Or.inr sz_b1)
 have V_b1 : Arv Z h27 b1 _ (.object "com/example/surfacemap/surfacemap/model/Finding$Rule") (26 : Int32) [(.ref w0), (.ref w1), (.ref w2), (.ref w3), (.ref w4), (.ref w5), (.ref w6), (.ref w7), (.ref w8), (.ref w9), (.ref w10), (.ref w11), (.ref w12), .null, .null, .null, .null, .null, .null, .null, .null, .null, .null, .null, .null, .null] .null := Vn27
 replace Z0 : n0 ≤ h27.size := by rw [W27.size]; exact Z0
 refine Gs st27 ?_
 show Goes _ _ _ _ _ (fT T27 m 90 #[vi x, vu] [(.ref b1)])
 refine Gz (XS.dup X27.here hx rfl (hb hby d24_90) rfl rfl) ?_
 refine gB X27 hx hby d24_91 ?_
 obtain ⟨T28, X28, e28, st28⟩ := getS2 X27 hx hZ hown (host := "") (Or.inl (gw hw 34 rfl)) Via.refl e27 S_PATH_VARIABLE (g := (mkF m 93 #[vi x, vu] [(.int 13), (.ref b1), (.ref b1)])) rfl (hb hby d24_93)
 refine Gs st28 ?_
 show Goes _ _ _ _ _ (fT T28 m 96 #[vi x, vu] [(.ref w13), (.int 13), (.ref b1), (.ref b1)])
 obtain ⟨cl29, Ar29, q29, S29, N29z, H29, G29⟩ := V_b1
 have hin29 : ¬ ((13 : Int32) < 0 ∨ cl29.slots.size ≤ ((13 : Int32)).toNatClampNeg) := inb_of S29 ⟨by decide, by decide⟩
 obtain ⟨T29, h29, X29, e29, W29, st29⟩ := stR X28 hx hZ e28 Ar29 (j := (13 : Int32)) hin29 rfl (Sto.ofV Ar29 q29 O1 (Ins.self A_w13)) (g := (mkF m 96 #[vi x, vu] [(.ref w13), (.int 13), (.ref b1), (.ref b1)])) rfl rfl (hb hby d24_96)
 have Vn29 := Arv.set Ar29 q29 S29 N29z H29 G29 rfl W29 13 rfl (Nat.le_of_ble_eq_true rfl)
 have N29 := Fr.snoc X29 N27 g_b1
 replace S_PATH_PARAMETER := S_PATH_PARAMETER.wr W29
 replace S_PARAMETER_LOCATION := S_PARAMETER_LOCATION.wr W29
 replace S_PARAMETER_ORDER := S_PARAMETER_ORDER.wr W29
 replace S_HTTP_METHOD := S_HTTP_METHOD.wr W29
 replace S_MEDIA_UPLOAD := S_MEDIA_UPLOAD.wr W29
 replace S_METHOD_ID := S_METHOD_ID.wr W29
 replace S_ENUM_LENGTH := S_ENUM_LENGTH.wr W29
 replace S_ANNOTATION_METHOD := S_ANNOTATION_METHOD.wr W29
 replace S_TYPE := S_TYPE.wr W29
 replace S_SHAPE := S_SHAPE.wr W29
 replace S_LABEL := S_LABEL.wr W29
 replace S_PARAMETER_ORDER_MISSING := S_PARAMETER_ORDER_MISSING.wr W29
 replace A_w0 := A_w0.wr W29
 replace A_w1 := A_w1.wr W29
 replace A_w2 := A_w2.wr W29
 replace A_w3 := A_w3.wr W29
 replace A_w4 := A_w4.wr W29
 replace A_w5 := A_w5.wr W29
 replace A_w6 := A_w6.wr W29
 replace A_w7 := A_w7.wr W29
 replace A_w8 := A_w8.wr W29
 replace A_w9 := A_w9.wr W29
 replace A_w10 := A_w10.wr W29
 replace A_w11 := A_w11.wr W29
 replace A_w12 := A_w12.wr W29
 replace A_w13 := A_w13.wr W29
 replace A_w14 := A_w14.wr W29
 replace A_w15 := A_w15.wr W29
 replace A_w16 := A_w16.wr W29
 replace A_w17 := A_w17.wr W29
 replace A_w18 := A_w18.wr W29
 replace A_w19 := A_w19.wr W29
 replace A_w20 := A_w20.wr W29
 replace A_w21 := A_w21.wr W29
 replace A_w22 := A_w22.wr W29
 replace A_w23 := A_w23.wr W29
 replace A_w24 := A_w24.wr W29
 replace A_w25 := A_w25.wr W29
 replace KP := KP.wr W29 (Or.inr sz_b1)
 have V_b1 : Arv Z h29 b1 _ (.object "com/example/surfacemap/surfacemap/model/Finding$Rule") (26 : Int32) [(.ref w0), (.ref w1), (.ref w2), (.ref w3), (.ref w4), (.ref w5), (.ref w6), (.ref w7), (.ref w8), (.ref w9), (.ref w10), (.ref w11), (.ref w12), (.ref w13), .null, .null, .null, .null, .null, .null, .null, .null, .null, .null, .null, .null] .null := Vn29
 replace Z0 : n0 ≤ h29.size := by rw [W29.size]; exact Z0
 refine Gs st29 ?_
 show Goes _ _ _ _ _ (fT T29 m 97 #[vi x, vu] [(.ref b1)])
 refine Gz (XS.dup X29.here hx rfl (hb hby d24_97) rfl rfl) ?_
 refine gB X29 hx hby d24_98 ?_
 obtain ⟨T30, X30, e30, st30⟩ := getS2 X29 hx hZ hown (host := "") (Or.inl (gw hw 36 rfl)) Via.refl e29 S_PATH_PARAMETER (g := (mkF m 100 #[vi x, vu] [(.int 14), (.ref b1), (.ref b1)])) rfl (hb hby d24_100)
 refine Gs st30 ?_
 show Goes _ _ _ _ _ (fT T30 m 103 #[vi x, vu] [(.ref w14), (.int 14), (.ref b1), (.ref b1)])
 obtain ⟨cl31, Ar31, q31, S31, N31z, H31, G31⟩ := V_b1
 have hin31 : ¬ ((14 : Int32) < 0 ∨ cl31.slots.size ≤ ((14 : Int32)).toNatClampNeg) := inb_of S31 ⟨by decide, by decide⟩
 obtain ⟨T31, h31, X31, e31, W31, st31⟩ := stR X30 hx hZ e30 Ar31 (j := (14 : Int32)) hin31 rfl (Sto.ofV Ar31 q31 O1 (Ins.self A_w14)) (g := (mkF m 103 #[vi x, vu] [(.ref w14), (.int 14), (.ref b1), (.ref b1)])) rfl rfl (hb hby d24_103)
 have Vn31 := Arv.set Ar31 q31 S31 N31z H31 G31 rfl W31 14 rfl (Nat.le_of_ble_eq_true rfl)
 have N31 := Fr.snoc X31 N29 g_b1
 replace S_PARAMETER_LOCATION := S_PARAMETER_LOCATION.wr W31
 replace S_PARAMETER_ORDER := S_PARAMETER_ORDER.wr W31
 replace S_HTTP_METHOD := S_HTTP_METHOD.wr W31
 replace S_MEDIA_UPLOAD := S_MEDIA_UPLOAD.wr W31
 replace S_METHOD_ID := S_METHOD_ID.wr W31
 replace S_ENUM_LENGTH := S_ENUM_LENGTH.wr W31
 replace S_ANNOTATION_METHOD := S_ANNOTATION_METHOD.wr W31
 replace S_TYPE := S_TYPE.wr W31
 replace S_SHAPE := S_SHAPE.wr W31
 replace S_LABEL := S_LABEL.wr W31
 replace S_PARAMETER_ORDER_MISSING := S_PARAMETER_ORDER_MISSING.wr W31
 replace A_w0 := A_w0.wr W31
 replace A_w1 := A_w1.wr W31
 replace A_w2 := A_w2.wr W31
 replace A_w3 := A_w3.wr W31
 replace A_w4 := A_w4.wr W31
 replace A_w5 := A_w5.wr W31
 replace A_w6 := A_w6.wr W31
 replace A_w7 := A_w7.wr W31
 replace A_w8 := A_w8.wr W31
 replace A_w9 := A_w9.wr W31
 replace A_w10 := A_w10.wr W31
 replace A_w11 := A_w11.wr W31
 replace A_w12 := A_w12.wr W31
 replace A_w13 := A_w13.wr W31
 replace A_w14 := A_w14.wr W31
 replace A_w15 := A_w15.wr W31
 replace A_w16 := A_w16.wr W31
 replace A_w17 := A_w17.wr W31
 replace A_w18 := A_w18.wr W31
 replace A_w19 := A_w19.wr W31
 replace A_w20 := A_w20.wr W31
 replace A_w21 := A_w21.wr W31
 replace A_w22 := A_w22.wr W31
 replace A_w23 := A_w23.wr W31
 replace A_w24 := A_w24.wr W31
 replace A_w25 := A_w25.wr W31
 replace KP := KP.wr W31 (Or.inr sz_b1)
 have V_b1 : Arv Z h31 b1 _ (.object "com/example/surfacemap/surfacemap/model/Finding$Rule") (26 : Int32) [(.ref w0), (.ref w1), (.ref w2), (.ref w3), (.ref w4), (.ref w5), (.ref w6), (.ref w7), (.ref w8), (.ref w9), (.ref w10), (.ref w11), (.ref w12), (.ref w13), (.ref w14), .null, .null, .null, .null, .null, .null, .null, .null, .null, .null, .null] .null := Vn31
 replace Z0 : n0 ≤ h31.size := by rw [W31.size]; exact Z0
 refine Gs st31 ?_
 show Goes _ _ _ _ _ (fT T31 m 104 #[vi x, vu] [(.ref b1)])
 refine Gz (XS.dup X31.here hx rfl (hb hby d24_104) rfl rfl) ?_
 refine gB X31 hx hby d24_105 ?_
 obtain ⟨T32, X32, e32, st32⟩ := getS2 X31 hx hZ hown (host := "") (Or.inl (gw hw 38 rfl)) Via.refl e31 S_PARAMETER_LOCATION (g := (mkF m 107 #[vi x, vu] [(.int 15), (.ref b1), (.ref b1)])) rfl (hb hby d24_107)
 refine Gs st32 ?_
 show Goes _ _ _ _ _ (fT T32 m 110 #[vi x, vu] [(.ref w15), (.int 15), (.ref b1), (.ref b1)])
 obtain ⟨cl33, Ar33, q33, S33, N33z, H33, G33⟩ := V_b1
 have hin33 : ¬ ((15 : Int32) < 0 ∨ cl33.slots.size ≤ ((15 : Int32)).toNatClampNeg) := inb_of S33 ⟨by decide, by decide⟩
 obtain ⟨T33, h33, X33, e33, W33, st33⟩ := stR X32 hx hZ e32 Ar33 (j := (15 : Int32)) hin33 rfl (Sto.ofV Ar33 q33 O1 (Ins.self A_w15)) (g := (mkF m 110 #[vi x, vu] [(.ref w15), (.int 15), (.ref b1), (.ref b1)])) rfl rfl (hb hby d24_110)
 have Vn33 := Arv.set Ar33 q33 S33 N33z H33 G33 rfl W33 15 rfl (Nat.le_of_ble_eq_true rfl)
 have N33 := Fr.snoc X33 N31 g_b1
 replace S_PARAMETER_ORDER := S_PARAMETER_ORDER.wr W33
 replace S_HTTP_METHOD := S_HTTP_METHOD.wr W33
 replace S_MEDIA_UPLOAD := S_MEDIA_UPLOAD.wr W33
 replace S_METHOD_ID := S_METHOD_ID.wr W33
 replace S_ENUM_LENGTH := S_ENUM_LENGTH.wr W33
 replace S_ANNOTATION_METHOD := S_ANNOTATION_METHOD.wr W33
 replace S_TYPE := S_TYPE.wr W33
 replace S_SHAPE := S_SHAPE.wr W33
 replace S_LABEL := S_LABEL.wr W33
 replace S_PARAMETER_ORDER_MISSING := S_PARAMETER_ORDER_MISSING.wr W33
 replace A_w0 := A_w0.wr W33
 replace A_w1 := A_w1.wr W33
 replace A_w2 := A_w2.wr W33
 replace A_w3 := A_w3.wr W33
 replace A_w4 := A_w4.wr W33
 replace A_w5 := A_w5.wr W33
 replace A_w6 := A_w6.wr W33
 replace A_w7 := A_w7.wr W33
 replace A_w8 := A_w8.wr W33
 replace A_w9 := A_w9.wr W33
 replace A_w10 := A_w10.wr W33
 replace A_w11 := A_w11.wr W33
 replace A_w12 := A_w12.wr W33
 replace A_w13 := A_w13.wr W33
 replace A_w14 := A_w14.wr W33
 replace A_w15 := A_w15.wr W33
 replace A_w16 := A_w16.wr W33
 replace A_w17 := A_w17.wr W33
 replace A_w18 := A_w18.wr W33
 replace A_w19 := A_w19.wr W33
 replace A_w20 := A_w20.wr W33
 replace A_w21 := A_w21.wr W33
 replace A_w22 := A_w22.wr W33
 replace A_w23 := A_w23.wr W33
 replace A_w24 := A_w24.wr W33
 replace A_w25 := A_w25.wr W33
 replace KP := KP.wr W33 (Or.inr sz_b1)
 have V_b1 : Arv Z h33 b1 _ (.object "com/example/surfacemap/surfacemap/model/Finding$Rule") (26 : Int32) [(.ref w0), (.ref w1), (.ref w2), (.ref w3), (.ref w4), (.ref w5), (.ref w6), (.ref w7), (.ref w8), (.ref w9), (.ref w10), (.ref w11), (.ref w12), (.ref w13), (.ref w14), (.ref w15), .null, .null, .null, .null, .null, .null, .null, .null, .null, .null] .null := Vn33
 replace Z0 : n0 ≤ h33.size := by rw [W33.size]; exact Z0
 refine Gs st33 ?_
 show Goes _ _ _ _ _ (fT T33 m 111 #[vi x, vu] [(.ref b1)])
 refine Gz (XS.dup X33.here hx rfl (hb hby d24_111) rfl rfl) ?_
 refine gB X33 hx hby d24_112 ?_
 obtain ⟨T34, X34, e34, st34⟩ := getS2 X33 hx hZ hown (host := "") (Or.inl (gw hw 40 rfl)) Via.refl e33 S_PARAMETER_ORDER (g := (mkF m 114 #[vi x, vu] [(.int 16), (.ref b1), (.ref b1)])) rfl (hb hby d24_114)
 refine Gs st34 ?_
 show Goes _ _ _ _ _ (fT T34 m 117 #[vi x, vu] [(.ref w16), (.int 16), (.ref b1), (.ref b1)])
 obtain ⟨cl35, Ar35, q35, S35, N35z, H35, G35⟩ := V_b1
 have hin35 : ¬ ((16 : Int32) < 0 ∨ cl35.slots.size ≤ ((16 : Int32)).toNatClampNeg) := inb_of S35 ⟨by decide, by decide⟩
 obtain ⟨T35, h35, X35, e35, W35, st35⟩ := stR X34 hx hZ e34 Ar35 (j := (16 : Int32)) hin35 rfl (Sto.ofV Ar35 q35 O1 (Ins.self A_w16)) (g := (mkF m 117 #[vi x, vu] [(.ref w16), (.int 16), (.ref b1), (.ref b1)])) rfl rfl (hb hby d24_117)
 have Vn35 := Arv.set Ar35 q35 S35 N35z H35 G35 rfl W35 16 rfl (Nat.le_of_ble_eq_true rfl)
 have N35 := Fr.snoc X35 N33 g_b1
 replace S_HTTP_METHOD := S_HTTP_METHOD.wr W35
 replace S_MEDIA_UPLOAD := S_MEDIA_UPLOAD.wr W35
 replace S_METHOD_ID := S_METHOD_ID.wr W35
 replace S_ENUM_LENGTH := S_ENUM_LENGTH.wr W35
 replace S_ANNOTATION_METHOD := S_ANNOTATION_METHOD.wr W35
 replace S_TYPE := S_TYPE.wr W35
 replace S_SHAPE := S_SHAPE.wr W35
 replace S_LABEL := S_LABEL.wr W35
 replace S_PARAMETER_ORDER_MISSING := S_PARAMETER_ORDER_MISSING.wr W35
 replace A_w0 := A_w0.wr W35
 replace A_w1 := A_w1.wr W35
 replace A_w2 := A_w2.wr W35
 replace A_w3 := A_w3.wr W35
 replace A_w4 := A_w4.wr W35
 replace A_w5 := A_w5.wr W35
 replace A_w6 := A_w6.wr W35
 replace A_w7 := A_w7.wr W35
 replace A_w8 := A_w8.wr W35
 replace A_w9 := A_w9.wr W35
 replace A_w10 := A_w10.wr W35
 replace A_w11 := A_w11.wr W35
 replace A_w12 := A_w12.wr W35
 replace A_w13 := A_w13.wr W35
 replace A_w14 := A_w14.wr W35
 replace A_w15 := A_w15.wr W35
 replace A_w16 := A_w16.wr W35
 replace A_w17 := A_w17.wr W35
 replace A_w18 := A_w18.wr W35
 replace A_w19 := A_w19.wr W35
 replace A_w20 := A_w20.wr W35
 replace A_w21 := A_w21.wr W35
 replace A_w22 := A_w22.wr W35
 replace A_w23 := A_w23.wr W35
 replace A_w24 := A_w24.wr W35
 replace A_w25 := A_w25.wr W35
 replace KP := KP.wr W35 (Or.inr sz_b1)
 have V_b1 : Arv Z h35 b1 _ (.object "com/example/surfacemap/surfacemap/model/Finding$Rule") (26 : Int32) [(.ref w0), (.ref w1), (.ref w2), (.ref w3), (.ref w4), (.ref w5), (.ref w6), (.ref w7), (.ref w8), (.ref w9), (.ref w10), (.ref w11), (.ref w12), (.ref w13), (.ref w14), (.ref w15), (.ref w16), .null, .null, .null, .null, .null, .null, .null, .null, .null] .null := Vn35
 replace Z0 : n0 ≤ h35.size := by rw [W35.size]; exact Z0
 refine Gs st35 ?_
 show Goes _ _ _ _ _ (fT T35 m 118 #[vi x, vu] [(.ref b1)])
 refine Gz (XS.dup X35.here hx rfl (hb hby d24_118) rfl rfl) ?_
 refine gB X35 hx hby d24_119 ?_
 obtain ⟨T36, X36, e36, st36⟩ := getS2 X35 hx hZ hown (host := "") (Or.inl (gw hw 42 rfl)) Via.refl e35 S_HTTP_METHOD (g := (mkF m 121 #[vi x, vu] [(.int 17), (.ref b1), (.ref b1)])) rfl (hb hby d24_121)
 refine Gs st36 ?_
 show Goes _ _ _ _ _ (fT T36 m 124 #[vi x, vu] [(.ref w17), (.int 17), (.ref b1), (.ref b1)])
 obtain ⟨cl37, Ar37, q37, S37, N37z, H37, G37⟩ := V_b1
 have hin37 : ¬ ((17 : Int32) < 0 ∨ cl37.slots.size ≤ ((17 : Int32)).toNatClampNeg) := inb_of S37 ⟨by decide, by decide⟩
 obtain ⟨T37, h37, X37, e37, W37, st37⟩ := stR X36 hx hZ e36 Ar37 (j := (17 : Int32)) hin37 rfl (Sto.ofV Ar37 q37 O1 (Ins.self A_w17)) (g := (mkF m 124 #[vi x, vu] [(.ref w17), (.int 17), (.ref b1), (.ref b1)])) rfl rfl (hb hby d24_124)
 have Vn37 := Arv.set Ar37 q37 S37 N37z H37 G37 rfl W37 17 rfl (Nat.le_of_ble_eq_true rfl)
 have N37 := Fr.snoc X37 N35 g_b1
 replace S_MEDIA_UPLOAD := S_MEDIA_UPLOAD.wr W37
 replace S_METHOD_ID := S_METHOD_ID.wr W37
 replace S_ENUM_LENGTH := S_ENUM_LENGTH.wr W37
 replace S_ANNOTATION_METHOD := S_ANNOTATION_METHOD.wr W37
 replace S_TYPE := S_TYPE.wr W37
 replace S_SHAPE := S_SHAPE.wr W37
 replace S_LABEL := S_LABEL.wr W37
 replace S_PARAMETER_ORDER_MISSING := S_PARAMETER_ORDER_MISSING.wr W37
 replace A_w0 := A_w0.wr W37
 replace A_w1 := A_w1.wr W37
 replace A_w2 := A_w2.wr W37
 replace A_w3 := A_w3.wr W37
 replace A_w4 := A_w4.wr W37
 replace A_w5 := A_w5.wr W37
 replace A_w6 := A_w6.wr W37
 replace A_w7 := A_w7.wr W37
 replace A_w8 := A_w8.wr W37
 replace A_w9 := A_w9.wr W37
 replace A_w10 := A_w10.wr W37
 replace A_w11 := A_w11.wr W37
 replace A_w12 := A_w12.wr W37
 replace A_w13 := A_w13.wr W37
 replace A_w14 := A_w14.wr W37
 replace A_w15 := A_w15.wr W37
 replace A_w16 := A_w16.wr W37
 replace A_w17 := A_w17.wr W37
 replace A_w18 := A_w18.wr W37
 replace A_w19 := A_w19.wr W37
 replace A_w20 := A_w20.wr W37
 replace A_w21 := A_w21.wr W37
 replace A_w22 := A_w22.wr W37
 replace A_w23 := A_w23.wr W37
 replace A_w24 := A_w24.wr W37
 replace A_w25 := A_w25.wr W37
 replace KP := KP.wr W37 (Or.inr sz_b1)
 have V_b1 : Arv Z h37 b1 _ (.object "com/example/surfacemap/surfacemap/model/Finding$Rule") (26 : Int32) [(.ref w0), (.ref w1), (.ref w2), (.ref w3), (.ref w4), (.ref w5), (.ref w6), (.ref w7), (.ref w8), (.ref w9), (.ref w10), (.ref w11), (.ref w12), (.ref w13), (.ref w14), (.ref w15), (.ref w16), (.ref w17), .null, .null, .null, .null, .null, .null, .null, .null] .null := Vn37
 replace Z0 : n0 ≤ h37.size := by rw [W37.size]; exact Z0
 refine Gs st37 ?_
 show Goes _ _ _ _ _ (fT T37 m 125 #[vi x, vu] [(.ref b1)])
 refine Gz (XS.dup X37.here hx rfl (hb hby d24_125) rfl rfl) ?_
 refine gB X37 hx hby d24_126 ?_
 obtain ⟨T38, X38, e38, st38⟩ := getS2 X37 hx hZ hown (host := "") (Or.inl (gw hw 44 rfl)) Via.refl e37 S_MEDIA_UPLOAD (g := (mkF m 128 #[vi x, vu] [(.int 18), (.ref b1), (.ref b1)])) rfl (hb hby d24_128)
 refine Gs st38 ?_
 show Goes _ _ _ _ _ (fT T38 m 131 #[vi x, vu] [(.ref w18), (.int 18), (.ref b1), (.ref b1)])
 obtain ⟨cl39, Ar39, q39, S39, N39z, H39, G39⟩ := V_b1
 have hin39 : ¬ ((18 : Int32) < 0 ∨ cl39.slots.size ≤ ((18 : Int32)).toNatClampNeg) := inb_of S39 ⟨by decide, by decide⟩
 obtain ⟨T39, h39, X39, e39, W39, st39⟩ := stR X38 hx hZ e38 Ar39 (j := (18 : Int32)) hin39 rfl (Sto.ofV Ar39 q39 O1 (Ins.self A_w18)) (g := (mkF m 131 #[vi x, vu] [(.ref w18), (.int 18), (.ref b1), (.ref b1)])) rfl rfl (hb hby d24_131)
 have Vn39 := Arv.set Ar39 q39 S39 N39z H39 G39 rfl W39 18 rfl (Nat.le_of_ble_eq_true rfl)
 have N39 := Fr.snoc X39 N37 g_b1
 replace S_METHOD_ID := S_METHOD_ID.wr W39
 replace S_ENUM_LENGTH := S_ENUM_LENGTH.wr W39
 replace S_ANNOTATION_METHOD := S_ANNOTATION_METHOD.wr W39
 replace S_TYPE := S_TYPE.wr W39
 replace S_SHAPE := S_SHAPE.wr W39
 replace S_LABEL := S_LABEL.wr W39
 replace S_PARAMETER_ORDER_MISSING := S_PARAMETER_ORDER_MISSING.wr W39
 replace A_w0 := A_w0.wr W39
 replace A_w1 := A_w1.wr W39
 replace A_w2 := A_w2.wr W39
 replace A_w3 := A_w3.wr W39
 replace A_w4 := A_w4.wr W39
 replace A_w5 := A_w5.wr W39
 replace A_w6 := A_w6.wr W39
 replace A_w7 := A_w7.wr W39
 replace A_w8 := A_w8.wr W39
 replace A_w9 := A_w9.wr W39
 replace A_w10 := A_w10.wr W39
 replace A_w11 := A_w11.wr W39
 replace A_w12 := A_w12.wr W39
 replace A_w13 := A_w13.wr W39
 replace A_w14 := A_w14.wr W39
 replace A_w15 := A_w15.wr W39
 replace A_w16 := A_w16.wr W39
 replace A_w17 := A_w17.wr W39
 replace A_w18 := A_w18.wr W39
 replace A_w19 := A_w19.wr W39
 replace A_w20 := A_w20.wr W39
 replace A_w21 := A_w21.wr W39
 replace A_w22 := A_w22.wr W39
 replace A_w23 := A_w23.wr W39
 replace A_w24 := A_w24.wr W39
 replace A_w25 := A_w25.wr W39
 replace KP := KP.wr W39 (Or.inr sz_b1)
 have V_b1 : Arv Z h39 b1 _ (.object "com/example/surfacemap/surfacemap/model/Finding$Rule") (26 : Int32) [(.ref w0), (.ref w1), (.ref w2), (.ref w3), (.ref w4), (.ref w5), (.ref w6), (.ref w7), (.ref w8), (.ref w9), (.ref w10), (.ref w11), (.ref w12), (.ref w13), (.ref w14), (.ref w15), (.ref w16), (.ref w17), (.ref w18), .null, .null, .null, .null, .null, .null, .null] .null := Vn39
 replace Z0 : n0 ≤ h39.size := by rw [W39.size]; exact Z0
 refine Gs st39 ?_
 show Goes _ _ _ _ _ (fT T39 m 132 #[vi x, vu] [(.ref b1)])
 refine Gz (XS.dup X39.here hx rfl (hb hby d24_132) rfl rfl) ?_
 refine gB X39 hx hby d24_133 ?_
 obtain ⟨T40, X40, e40, st40⟩ := getS2 X39 hx hZ hown (host := "") (Or.inl (gw hw 46 rfl)) Via.refl e39 S_METHOD_ID (g := (mkF m 135 #[vi x, vu] [(.int 19), (.ref b1), (.ref b1)])) rfl (hb hby d24_135)
 refine Gs st40 ?_
 show Goes _ _ _ _ _ (fT T40 m 138 #[vi x, vu] [(.ref w19), (.int 19), (.ref b1), (.ref b1)])
 obtain ⟨cl41, Ar41, q41, S41, N41z, H41, G41⟩ := V_b1
 have hin41 : ¬ ((19 : Int32) < 0 ∨ cl41.slots.size ≤ ((19 : Int32)).toNatClampNeg) := inb_of S41 ⟨by decide, by decide⟩
 obtain ⟨T41, h41, X41, e41, W41, st41⟩ := stR X40 hx hZ e40 Ar41 (j := (19 : Int32)) hin41 rfl (Sto.ofV Ar41 q41 O1 (Ins.self A_w19)) (g := (mkF m 138 #[vi x, vu] [(.ref w19), (.int 19), (.ref b1), (.ref b1)])) rfl rfl (hb hby d24_138)
 have Vn41 := Arv.set Ar41 q41 S41 N41z H41 G41 rfl W41 19 rfl (Nat.le_of_ble_eq_true rfl)
 have N41 := Fr.snoc X41 N39 g_b1
 replace S_ENUM_LENGTH := S_ENUM_LENGTH.wr W41
 replace S_ANNOTATION_METHOD := S_ANNOTATION_METHOD.wr W41
 replace S_TYPE := S_TYPE.wr W41
 replace S_SHAPE := S_SHAPE.wr W41
 replace S_LABEL := S_LABEL.wr W41
 replace S_PARAMETER_ORDER_MISSING := S_PARAMETER_ORDER_MISSING.wr W41
 replace A_w0 := A_w0.wr W41
 replace A_w1 := A_w1.wr W41
 replace A_w2 := A_w2.wr W41
 replace A_w3 := A_w3.wr W41
 replace A_w4 := A_w4.wr W41
 replace A_w5 := A_w5.wr W41
 replace A_w6 := A_w6.wr W41
 replace A_w7 := A_w7.wr W41
 replace A_w8 := A_w8.wr W41
 replace A_w9 := A_w9.wr W41
 replace A_w10 := A_w10.wr W41
 replace A_w11 := A_w11.wr W41
 replace A_w12 := A_w12.wr W41
 replace A_w13 := A_w13.wr W41
 replace A_w14 := A_w14.wr W41
 replace A_w15 := A_w15.wr W41
 replace A_w16 := A_w16.wr W41
 replace A_w17 := A_w17.wr W41
 replace A_w18 := A_w18.wr W41
 replace A_w19 := A_w19.wr W41
 replace A_w20 := A_w20.wr W41
 replace A_w21 := A_w21.wr W41
 replace A_w22 := A_w22.wr W41
 replace A_w23 := A_w23.wr W41
 replace A_w24 := A_w24.wr W41
 replace A_w25 := A_w25.wr W41
 replace KP := KP.wr W41 (Or.inr sz_b1)
 have V_b1 : Arv Z h41 b1 _ (.object "com/example/surfacemap/surfacemap/model/Finding$Rule") (26 : Int32) [(.ref w0), (.ref w1), (.ref w2), (.ref w3), (.ref w4), (.ref w5), (.ref w6), (.ref w7), (.ref w8), (.ref w9), (.ref w10), (.ref w11), (.ref w12), (.ref w13), (.ref w14), (.ref w15), (.ref w16), (.ref w17), (.ref w18), (.ref w19), .null, .null, .null, .null, .null, .null] .null := Vn41
 replace Z0 : n0 ≤ h41.size := by rw [W41.size]; exact Z0
 refine Gs st41 ?_
 show Goes _ _ _ _ _ (fT T41 m 139 #[vi x, vu] [(.ref b1)])
 refine Gz (XS.dup X41.here hx rfl (hb hby d24_139) rfl rfl) ?_
 refine gB X41 hx hby d24_140 ?_
 obtain ⟨T42, X42, e42, st42⟩ := getS2 X41 hx hZ hown (host := "") (Or.inl (gw hw 48 rfl)) Via.refl e41 S_ENUM_LENGTH (g := (mkF m 142 #[vi x, vu] [(.int 20), (.ref b1), (.ref b1)])) rfl (hb hby d24_142)
 refine Gs st42 ?_
 show Goes _ _ _ _ _ (fT T42 m 145 #[vi x, vu] [(.ref w20), (.int 20), (.ref b1), (.ref b1)])
 obtain ⟨cl43, Ar43, q43, S43, N43z, H43, G43⟩ := V_b1
 have hin43 : ¬ ((20 : Int32) < 0 ∨ cl43.slots.size ≤ ((20 : Int32)).toNatClampNeg) := inb_of S43 ⟨by decide, by decide⟩
 obtain ⟨T43, h43, X43, e43, W43, st43⟩ := stR X42 hx hZ e42 Ar43 (j := (20 : Int32)) hin43 rfl (Sto.ofV Ar43 q43 O1 (Ins.self A_w20)) (g := (mkF m 145 #[vi x, vu] [(.ref w20), (.int 20), (.ref b1), (.ref b1)])) rfl rfl (hb hby d24_145)
 have Vn43 := Arv.set Ar43 q43 S43 N43z H43 G43 rfl W43 20 rfl (Nat.le_of_ble_eq_true rfl)
 have N43 := Fr.snoc X43 N41 g_b1
 replace S_ANNOTATION_METHOD := S_ANNOTATION_METHOD.wr W43
 replace S_TYPE := S_TYPE.wr W43
 replace S_SHAPE := S_SHAPE.wr W43
 replace S_LABEL := S_LABEL.wr W43
 replace S_PARAMETER_ORDER_MISSING := S_PARAMETER_ORDER_MISSING.wr W43
 replace A_w0 := A_w0.wr W43
 replace A_w1 := A_w1.wr W43
 replace A_w2 := A_w2.wr W43
 replace A_w3 := A_w3.wr W43
 replace A_w4 := A_w4.wr W43
 replace A_w5 := A_w5.wr W43
 replace A_w6 := A_w6.wr W43
 replace A_w7 := A_w7.wr W43
 replace A_w8 := A_w8.wr W43
 replace A_w9 := A_w9.wr W43
 replace A_w10 := A_w10.wr W43
 replace A_w11 := A_w11.wr W43
 replace A_w12 := A_w12.wr W43
 replace A_w13 := A_w13.wr W43
 replace A_w14 := A_w14.wr W43
 replace A_w15 := A_w15.wr W43
 replace A_w16 := A_w16.wr W43
 replace A_w17 := A_w17.wr W43
 replace A_w18 := A_w18.wr W43
 replace A_w19 := A_w19.wr W43
 replace A_w20 := A_w20.wr W43
 replace A_w21 := A_w21.wr W43
 replace A_w22 := A_w22.wr W43
 replace A_w23 := A_w23.wr W43
 replace A_w24 := A_w24.wr W43
 replace A_w25 := A_w25.wr W43
 replace KP := KP.wr W43 (Or.inr sz_b1)
 have V_b1 : Arv Z h43 b1 _ (.object "com/example/surfacemap/surfacemap/model/Finding$Rule") (26 : Int32) [(.ref w0), (.ref w1), (.ref w2), (.ref w3), (.ref w4), (.ref w5), (.ref w6), (.ref w7), (.ref w8), (.ref w9), (.ref w10), (.ref w11), (.ref w12), (.ref w13), (.ref w14), (.ref w15), (.ref w16), (.ref w17), (.ref w18), (.ref w19), (.ref w20), .null, .null, .null, .null, .null] .null := Vn43
 replace Z0 : n0 ≤ h43.size := by rw [W43.size]; exact Z0
 refine Gs st43 ?_
 show Goes _ _ _ _ _ (fT T43 m 146 #[vi x, vu] [(.ref b1)])
 refine Gz (XS.dup X43.here hx rfl (hb hby d24_146) rfl rfl) ?_
 refine gB X43 hx hby d24_147 ?_
 obtain ⟨T44, X44, e44, st44⟩ := getS2 X43 hx hZ hown (host := "") (Or.inl (gw hw 50 rfl)) Via.refl e43 S_ANNOTATION_METHOD (g := (mkF m 149 #[vi x, vu] [(.int 21), (.ref b1), (.ref b1)])) rfl (hb hby d24_149)
 refine Gs st44 ?_
 show Goes _ _ _ _ _ (fT T44 m 152 #[vi x, vu] [(.ref w21), (.int 21), (.ref b1), (.ref b1)])
 obtain ⟨cl45, Ar45, q45, S45, N45z, H45, G45⟩ := V_b1
 have hin45 : ¬ ((21 : Int32) < 0 ∨ cl45.slots.size ≤ ((21 : Int32)).toNatClampNeg) := inb_of S45 ⟨by decide, by decide⟩
 obtain ⟨T45, h45, X45, e45, W45, st45⟩ := stR X44 hx hZ e44 Ar45 (j := (21 : Int32)) hin45 rfl (Sto.ofV Ar45 q45 O1 (Ins.self A_w21)) (g := (mkF m 152 #[vi x, vu] [(.ref w21), (.int 21), (.ref b1), (.ref b1)])) rfl rfl (hb hby d24_152)
 have Vn45 := Arv.set Ar45 q45 S45 N45z H45 G45 rfl W45 21 rfl (Nat.le_of_ble_eq_true rfl)
 have N45 := Fr.snoc X45 N43 g_b1
 replace S_TYPE := S_TYPE.wr W45
 replace S_SHAPE := S_SHAPE.wr W45
 replace S_LABEL := S_LABEL.wr W45
 replace S_PARAMETER_ORDER_MISSING := S_PARAMETER_ORDER_MISSING.wr W45
 replace A_w0 := A_w0.wr W45
 replace A_w1 := A_w1.wr W45
 replace A_w2 := A_w2.wr W45
 replace A_w3 := A_w3.wr W45
 replace A_w4 := A_w4.wr W45
 replace A_w5 := A_w5.wr W45
 replace A_w6 := A_w6.wr W45
 replace A_w7 := A_w7.wr W45
 replace A_w8 := A_w8.wr W45
 replace A_w9 := A_w9.wr W45
 replace A_w10 := A_w10.wr W45
 replace A_w11 := A_w11.wr W45
 replace A_w12 := A_w12.wr W45
 replace A_w13 := A_w13.wr W45
 replace A_w14 := A_w14.wr W45
 replace A_w15 := A_w15.wr W45
 replace A_w16 := A_w16.wr W45
 replace A_w17 := A_w17.wr W45
 replace A_w18 := A_w18.wr W45
 replace A_w19 := A_w19.wr W45
 replace A_w20 := A_w20.wr W45
 replace A_w21 := A_w21.wr W45
 replace A_w22 := A_w22.wr W45
 replace A_w23 := A_w23.wr W45
 replace A_w24 := A_w24.wr W45
 replace A_w25 := A_w25.wr W45
 replace KP := KP.wr W45 (Or.inr sz_b1)
 have V_b1 : Arv Z h45 b1 _ (.object "com/example/surfacemap/surfacemap/model/Finding$Rule") (26 : Int32) [(.ref w0), (.ref w1), (.ref w2), (.ref w3), (.ref w4), (.ref w5), (.ref w6), (.ref w7), (.ref w8), (.ref w9), (.ref w10), (.ref w11), (.ref w12), (.ref w13), (.ref w14), (.ref w15), (.ref w16), (.ref w17), (.ref w18), (.ref w19), (.ref w20), (.ref w21), .null, .null, .null, .null] .null := Vn45
 replace Z0 : n0 ≤ h45.size := by rw [W45.size]; exact Z0
 refine Gs st45 ?_
 show Goes _ _ _ _ _ (fT T45 m 153 #[vi x, vu] [(.ref b1)])
 refine Gz (XS.dup X45.here hx rfl (hb hby d24_153) rfl rfl) ?_
 refine gB X45 hx hby d24_154 ?_
 obtain ⟨T46, X46, e46, st46⟩ := getS2 X45 hx hZ hown (host := "") (Or.inl (gw hw 52 rfl)) Via.refl e45 S_TYPE (g := (mkF m 156 #[vi x, vu] [(.int 22), (.ref b1), (.ref b1)])) rfl (hb hby d24_156)
 refine Gs st46 ?_
 show Goes _ _ _ _ _ (fT T46 m 159 #[vi x, vu] [(.ref w22), (.int 22), (.ref b1), (.ref b1)])
 obtain ⟨cl47, Ar47, q47, S47, N47z, H47, G47⟩ := V_b1
 have hin47 : ¬ ((22 : Int32) < 0 ∨ cl47.slots.size ≤ ((22 : Int32)).toNatClampNeg) := inb_of S47 ⟨by decide, by decide⟩
 obtain ⟨T47, h47, X47, e47, W47, st47⟩ := stR X46 hx hZ e46 Ar47 (j := (22 : Int32)) hin47 rfl (Sto.ofV Ar47 q47 O1 (Ins.self A_w22)) (g := (mkF m 159 #[vi x, vu] [(.ref w22), (.int 22), (.ref b1), (.ref b1)])) rfl rfl (hb hby d24_159)
 have Vn47 := Arv.set Ar47 q47 S47 N47z H47 G47 rfl W47 22 rfl (Nat.le_of_ble_eq_true rfl)
 have N47 := Fr.snoc X47 N45 g_b1
 replace S_SHAPE := S_SHAPE.wr W47
 replace S_LABEL := S_LABEL.wr W47
 replace S_PARAMETER_ORDER_MISSING := S_PARAMETER_ORDER_MISSING.wr W47
 replace A_w0 := A_w0.wr W47
 replace A_w1 := A_w1.wr W47
 replace A_w2 := A_w2.wr W47
 replace A_w3 := A_w3.wr W47
 replace A_w4 := A_w4.wr W47
 replace A_w5 := A_w5.wr W47
 replace A_w6 := A_w6.wr W47
 replace A_w7 := A_w7.wr W47
 replace A_w8 := A_w8.wr W47
 replace A_w9 := A_w9.wr W47
 replace A_w10 := A_w10.wr W47
 replace A_w11 := A_w11.wr W47
 replace A_w12 := A_w12.wr W47
 replace A_w13 := A_w13.wr W47
 replace A_w14 := A_w14.wr W47
 replace A_w15 := A_w15.wr W47
 replace A_w16 := A_w16.wr W47
 replace A_w17 := A_w17.wr W47
 replace A_w18 := A_w18.wr W47
 replace A_w19 := A_w19.wr W47
 replace A_w20 := A_w20.wr W47
 replace A_w21 := A_w21.wr W47
 replace A_w22 := A_w22.wr W47
 replace A_w23 := A_w23.wr W47
 replace A_w24 := A_w24.wr W47
 replace A_w25 := A_w25.wr W47
 replace KP := KP.wr W47 (Or.inr sz_b1)
 have V_b1 : Arv Z h47 b1 _ (.object "com/example/surfacemap/surfacemap/model/Finding$Rule") (26 : Int32) [(.ref w0), (.ref w1), (.ref w2), (.ref w3), (.ref w4), (.ref w5), (.ref w6), (.ref w7), (.ref w8), (.ref w9), (.ref w10), (.ref w11), (.ref w12), (.ref w13), (.ref w14), (.ref w15), (.ref w16), (.ref w17), (.ref w18), (.ref w19), (.ref w20), (.ref w21), (.ref w22), .null, .null, .null] .null := Vn47
 replace Z0 : n0 ≤ h47.size := by rw [W47.size]; exact Z0
 refine Gs st47 ?_
 show Goes _ _ _ _ _ (fT T47 m 160 #[vi x, vu] [(.ref b1)])
 refine Gz (XS.dup X47.here hx rfl (hb hby d24_160) rfl rfl) ?_
 refine gB X47 hx hby d24_161 ?_
 obtain ⟨T48, X48, e48, st48⟩ := getS2 X47 hx hZ hown (host := "") (Or.inl (gw hw 54 rfl)) Via.refl e47 S_SHAPE (g := (mkF m 163 #[vi x, vu] [(.int 23), (.ref b1), (.ref b1)])) rfl (hb hby d24_163)
 refine Gs st48 ?_
 show Goes _ _ _ _ _ (fT T48 m 166 #[vi x, vu] [(.ref w23), (.int 23), (.ref b1), (.ref b1)])
 obtain ⟨cl49, Ar49, q49, S49, N49z, H49, G49⟩ := V_b1
 have hin49 : ¬ ((23 : Int32) < 0 ∨ cl49.slots.size ≤ ((23 : Int32)).toNatClampNeg) := inb_of S49 ⟨by decide, by decide⟩
 obtain ⟨T49, h49, X49, e49, W49, st49⟩ := stR X48 hx hZ e48 Ar49 (j := (23 : Int32)) hin49 rfl (Sto.ofV Ar49 q49 O1 (Ins.self A_w23)) (g := (mkF m 166 #[vi x, vu] [(.ref w23), (.int 23), (.ref b1), (.ref b1)])) rfl rfl (hb hby d24_166)
 have Vn49 := Arv.set Ar49 q49 S49 N49z H49 G49 rfl W49 23 rfl (Nat.le_of_ble_eq_true rfl)
 have N49 := Fr.snoc X49 N47 g_b1
 replace S_LABEL := S_LABEL.wr W49
 replace S_PARAMETER_ORDER_MISSING := S_PARAMETER_ORDER_MISSING.wr W49
 replace A_w0 := A_w0.wr W49
 replace A_w1 := A_w1.wr W49
 replace A_w2 := A_w2.wr W49
 replace A_w3 := A_w3.wr W49
 replace A_w4 := A_w4.wr W49
 replace A_w5 := A_w5.wr W49
 replace A_w6 := A_w6.wr W49
 replace A_w7 := A_w7.wr W49
 replace A_w8 := A_w8.wr W49
 replace A_w9 := A_w9.wr W49
 replace A_w10 := A_w10.wr W49
 replace A_w11 := A_w11.wr W49
 replace A_w12 := A_w12.wr W49
 replace A_w13 := A_w13.wr W49
 replace A_w14 := A_w14.wr W49
 replace A_w15 := A_w15.wr W49
 replace A_w16 := A_w16.wr W49
 replace A_w17 := A_w17.wr W49
 replace A_w18 := A_w18.wr W49
 replace A_w19 := A_w19.wr W49
 replace A_w20 := A_w20.wr W49
 replace A_w21 := A_w21.wr W49
 replace A_w22 := A_w22.wr W49
 replace A_w23 := A_w23.wr W49
 replace A_w24 := A_w24.wr W49
 replace A_w25 := A_w25.wr W49
 replace KP := KP.wr W49 (Or.inr sz_b1)
 have V_b1 : Arv Z h49 b1 _ (.object "com/example/surfacemap/surfacemap/model/Finding$Rule") (26 : Int32) [(.ref w0), (.ref w1), (.ref w2), (.ref w3), (.ref w4), (.ref w5), (.ref w6), (.ref w7), (.ref w8), (.ref w9), (.ref w10), (.ref w11), (.ref w12), (.ref w13), (.ref w14), (.ref w15), (.ref w16), (.ref w17), (.ref w18), (.ref w19), (.ref w20), (.ref w21), (.ref w22), (.ref w23), .null, .null] .null := Vn49
 replace Z0 : n0 ≤ h49.size := by rw [W49.size]; exact Z0
 refine Gs st49 ?_
 show Goes _ _ _ _ _ (fT T49 m 167 #[vi x, vu] [(.ref b1)])
 refine Gz (XS.dup X49.here hx rfl (hb hby d24_167) rfl rfl) ?_
 refine gB X49 hx hby d24_168 ?_
 obtain ⟨T50, X50, e50, st50⟩ := getS2 X49 hx hZ hown (host := "") (Or.inl (gw hw 56 rfl)) Via.refl e49 S_LABEL (g := (mkF m 170 #[vi x, vu] [(.int 24), (.ref b1), (.ref b1)])) rfl (hb hby d24_170)
 refine Gs st50 ?_
 show Goes _ _ _ _ _ (fT T50 m 173 #[vi x, vu] [(.ref w24), (.int 24), (.ref b1), (.ref b1)])
 obtain ⟨cl51, Ar51, q51, S51, N51z, H51, G51⟩ := V_b1
 have hin51 : ¬ ((24 : Int32) < 0 ∨ cl51.slots.size ≤ ((24 : Int32)).toNatClampNeg) := inb_of S51 ⟨by decide, by decide⟩
 obtain ⟨T51, h51, X51, e51, W51, st51⟩ := stR X50 hx hZ e50 Ar51 (j := (24 : Int32)) hin51 rfl (Sto.ofV Ar51 q51 O1 (Ins.self A_w24)) (g := (mkF m 173 #[vi x, vu] [(.ref w24), (.int 24), (.ref b1), (.ref b1)])) rfl rfl (hb hby d24_173)
 have Vn51 := Arv.set Ar51 q51 S51 N51z H51 G51 rfl W51 24 rfl (Nat.le_of_ble_eq_true rfl)
 have N51 := Fr.snoc X51 N49 g_b1
 replace S_PARAMETER_ORDER_MISSING := S_PARAMETER_ORDER_MISSING.wr W51
 replace A_w0 := A_w0.wr W51
 replace A_w1 := A_w1.wr W51
 replace A_w2 := A_w2.wr W51
 replace A_w3 := A_w3.wr W51
 replace A_w4 := A_w4.wr W51
 replace A_w5 := A_w5.wr W51
 replace A_w6 := A_w6.wr W51
 replace A_w7 := A_w7.wr W51
 replace A_w8 := A_w8.wr W51
 replace A_w9 := A_w9.wr W51
 replace A_w10 := A_w10.wr W51
 replace A_w11 := A_w11.wr W51
 replace A_w12 := A_w12.wr W51
 replace A_w13 := A_w13.wr W51
 replace A_w14 := A_w14.wr W51
 replace A_w15 := A_w15.wr W51
 replace A_w16 := A_w16.wr W51
 replace A_w17 := A_w17.wr W51
 replace A_w18 := A_w18.wr W51
 replace A_w19 := A_w19.wr W51
 replace A_w20 := A_w20.wr W51
 replace A_w21 := A_w21.wr W51
 replace A_w22 := A_w22.wr W51
 replace A_w23 := A_w23.wr W51
 replace A_w24 := A_w24.wr W51
 replace A_w25 := A_w25.wr W51
 replace KP := KP.wr W51 (Or.inr sz_b1)
 have V_b1 : Arv Z h51 b1 _ (.object "com/example/surfacemap/surfacemap/model/Finding$Rule") (26 : Int32) [(.ref w0), (.ref w1), (.ref w2), (.ref w3), (.ref w4), (.ref w5), (.ref w6), (.ref w7), (.ref w8), (.ref w9), (.ref w10), (.ref w11), (.ref w12), (.ref w13), (.ref w14), (.ref w15), (.ref w16), (.ref w17), (.ref w18), (.ref w19), (.ref w20), (.ref w21), (.ref w22), (.ref w23), (.ref w24), .null] .null := Vn51
 replace Z0 : n0 ≤ h51.size := by rw [W51.size]; exact Z0
 refine Gs st51 ?_
 show Goes _ _ _ _ _ (fT T51 m 174 #[vi x, vu] [(.ref b1)])
 refine Gz (XS.dup X51.here hx rfl (hb hby d24_174) rfl rfl) ?_
 refine gB X51 hx hby d24_175 ?_
 obtain ⟨T52, X52, e52, st52⟩ := getS2 X51 hx hZ hown (host := "") (Or.inl (gw hw 58 rfl)) Via.refl e51 S_PARAMETER_ORDER_MISSING (g := (mkF m 177 #[vi x, vu] [(.int 25), (.ref b1), (.ref b1)])) rfl (hb hby d24_177)
 refine Gs st52 ?_
 show Goes _ _ _ _ _ (fT T52 m 180 #[vi x, vu] [(.ref w25), (.int 25), (.ref b1), (.ref b1)])
 obtain ⟨cl53, Ar53, q53, S53, N53z, H53, G53⟩ := V_b1
 have hin53 : ¬ ((25 : Int32) < 0 ∨ cl53.slots.size ≤ ((25 : Int32)).toNatClampNeg) := inb_of S53 ⟨by decide, by decide⟩
 obtain ⟨T53, h53, X53, e53, W53, st53⟩ := stR X52 hx hZ e52 Ar53 (j := (25 : Int32)) hin53 rfl (Sto.ofV Ar53 q53 O1 (Ins.self A_w25)) (g := (mkF m 180 #[vi x, vu] [(.ref w25), (.int 25), (.ref b1), (.ref b1)])) rfl rfl (hb hby d24_180)
 have Vn53 := Arv.set Ar53 q53 S53 N53z H53 G53 rfl W53 25 rfl (Nat.le_of_ble_eq_true rfl)
 have N53 := Fr.snoc X53 N51 g_b1
 replace A_w0 := A_w0.wr W53
 replace A_w1 := A_w1.wr W53
 replace A_w2 := A_w2.wr W53
 replace A_w3 := A_w3.wr W53
 replace A_w4 := A_w4.wr W53
 replace A_w5 := A_w5.wr W53
 replace A_w6 := A_w6.wr W53
 replace A_w7 := A_w7.wr W53
 replace A_w8 := A_w8.wr W53
 replace A_w9 := A_w9.wr W53
 replace A_w10 := A_w10.wr W53
 replace A_w11 := A_w11.wr W53
 replace A_w12 := A_w12.wr W53
 replace A_w13 := A_w13.wr W53
 replace A_w14 := A_w14.wr W53
 replace A_w15 := A_w15.wr W53
 replace A_w16 := A_w16.wr W53
 replace A_w17 := A_w17.wr W53
 replace A_w18 := A_w18.wr W53
 replace A_w19 := A_w19.wr W53
 replace A_w20 := A_w20.wr W53
 replace A_w21 := A_w21.wr W53
 replace A_w22 := A_w22.wr W53
 replace A_w23 := A_w23.wr W53
 replace A_w24 := A_w24.wr W53
 replace A_w25 := A_w25.wr W53
 replace KP := KP.wr W53 (Or.inr sz_b1)
 have V_b1 : Arv Z h53 b1 _ (.object "com/example/surfacemap/surfacemap/model/Finding$Rule") (26 : Int32) [(.ref w0), (.ref w1), (.ref w2), (.ref w3), (.ref w4), (.ref w5), (.ref w6), (.ref w7), (.ref w8), (.ref w9), (.ref w10), (.ref w11), (.ref w12), (.ref w13), (.ref w14), (.ref w15), (.ref w16), (.ref w17), (.ref w18), (.ref w19), (.ref w20), (.ref w21), (.ref w22), (.ref w23), (.ref w24), (.ref w25)] .null := Vn53
 replace Z0 : n0 ≤ h53.size := by rw [W53.size]; exact Z0
 refine Gs st53 ?_
 show Goes _ _ _ _ _ (fT T53 m 181 #[vi x, vu] [(.ref b1)])
 refine Gz (XS.astoreN X53.here hx rfl (hb hby d24_181) rfl rfl (l' := #[vi x, vr b1]) rfl) ?_
 refine gA X53 hx hby d24_182 rfl rfl rfl ?_
 refine gN X53 hx hby d24_183 rfl rfl ?_
 refine Gz (Jvm.Stand.ldcI X53 hx hown (gz hZ hw 60 rfl) rfl (hb hby d24_184)) ?_
 show Goes _ _ _ _ _ (fT T53 m 186 #[vi x, vr b1] [(.int 2147483647), (.int x), (.ref b1)])
 refine Gz (XS.iand X53.here hx rfl (hb hby d24_186) rfl) ?_
 show Goes _ _ _ _ _ (fT T53 m 187 #[vi x, vr b1] [(.int (x &&& 2147483647)), (.ref b1)])
 refine gA X53 hx hby d24_187 rfl rfl rfl ?_
 obtain ⟨cl54, Ar54, -, S54, N54z, -, -⟩ := id V_b1
 refine Gs (fun _ tk => X53.arraylength hx (by rw [e53]; exact Ar54.1) (State.isArrayOf_alike hZ.alike Ar54.2.1) (g := (mkF m 188 #[vi x, vr b1] [(.ref b1), (.int (x &&& 2147483647)), (.ref b1)])) rfl rfl (hb hby d24_188) _ tk) ?_
 rw [len_of S54 N54z]
 show Goes _ _ _ _ _ (fT T53 m 189 #[vi x, vr b1] [(.int 26), (.int (x &&& 2147483647)), (.ref b1)])
 refine Gz (XS.irem X53.here hx rfl (hb hby d24_189) rfl (by decide)) ?_
 rw [Jvm.irem_eq_mod]
 show Goes _ _ _ _ _ (fT T53 m 190 #[vi x, vr b1] [(.int ((x &&& 2147483647) % 26)), (.ref b1)])
 obtain ⟨r, hr, A_r⟩ := own_pick (L := [w0, w1, w2, w3, w4, w5, w6, w7, w8, w9, w10, w11, w12, w13, w14, w15, w16, w17, w18, w19, w20, w21, w22, w23, w24, w25]) (C := "com/example/surfacemap/surfacemap/model/Finding$Rule") (h := h53) (Z := Z) (allS A_w0 (allS A_w1 (allS A_w2 (allS A_w3 (allS A_w4 (allS A_w5 (allS A_w6 (allS A_w7 (allS A_w8 (allS A_w9 (allS A_w10 (allS A_w11 (allS A_w12 (allS A_w13 (allS A_w14 (allS A_w15 (allS A_w16 (allS A_w17 (allS A_w18 (allS A_w19 (allS A_w20 (allS A_w21 (allS A_w22 (allS A_w23 (allS A_w24 (allS A_w25 all0)))))))))))))))))))))))))) (own_ix26 x).2.2
 obtain ⟨cl55, Ar55, -, S55, N55z, H55, -⟩ := id V_b1
 have hin55 : ¬ (((x &&& 2147483647) % 26) < 0 ∨ cl55.slots.size ≤ (((x &&& 2147483647) % 26)).toNatClampNeg) := inb_of S55 ⟨(own_ix26 x).1, (own_ix26 x).2.1⟩
 have hat55 : cl55.slots[(((x &&& 2147483647) % 26)).toNatClampNeg]? = some (.ref r) := Has.at H55 hin55 hr
 refine Gs (fun _ tk => X53.aaload hx (j := ((x &&& 2147483647) % 26)) (v := (.ref r)) (by rw [e53]; exact Ar55.1) (State.isArrayOf_alike hZ.alike Ar55.2.1) rfl Ar55.2.2 hin55 hat55 (g := (mkF m 190 #[vi x, vr b1] [(.int ((x &&& 2147483647) % 26)), (.ref b1)])) rfl rfl (hb hby d24_190) _ tk) ?_
 show Goes _ _ _ _ _ (fT T53 m 191 #[vi x, vr b1] [(.ref r)])
 refine Goes.ret X53 (some (.ref r)) (fun h => by rw [hret] at h; cases h) hlk (by decide) (by decide) ?_ (fun fs hr => ?_)
 ·rw [e53]; exact ⟨r, rfl, N53, KP, A_r⟩
 ·exact own_retA X53 hx hret rfl rfl (hb hby d24_191) hr
theorem own_lays : (((Jvm.Lambda.Shape.mk "java/util/function/Supplier" "get" (Jvm.ClassFile.MethodDescriptor.mk ([] : List Jvm.ClassFile.FieldType) (Option.some (Jvm.ClassFile.FieldType.object "java/lang/Object"))) ([(Jvm.ClassFile.FieldType.object "com/example/surfacemap/surfacemap/model/DocumentException")] : List Jvm.ClassFile.FieldType) (6 : Nat) "com/example/surfacemap/surfacemap/model/Finding" "lambda$of$0" (Jvm.ClassFile.MethodDescriptor.mk ([(Jvm.ClassFile.FieldType.object "com/example/surfacemap/surfacemap/model/DocumentException")] : List Jvm.ClassFile.FieldType) (Option.some (Jvm.ClassFile.FieldType.object "java/lang/IllegalArgumentException"))) false (Jvm.ClassFile.MethodDescriptor.mk ([] : List Jvm.ClassFile.FieldType) (Option.some (Jvm.ClassFile.FieldType.object "java/lang/IllegalArgumentException")))).file "com/example/surfacemap/surfacemap/model/Finding").bind (layoutFields · 0)).map (·.2.1) = some #[.object "com/example/surfacemap/surfacemap/model/DocumentException"] := by decide +kernel
theorem d_indy : decode kc22 5 = .ok (.invokedynamic 25, 5) := by decide +kernel
theorem d25_0 : DK kc22 0 (.aload_n 0) 1 := by decide +kernel
theorem d25_1 : DK kc22 1 (.invokevirtual 20) 3 := by decide +kernel
theorem own_pd13 : parseMethodDescriptor "()Ljava/util/Optional;" = some ⟨[], some (.object "java/util/Optional")⟩ := by decide +kernel
theorem d25_4 : DK kc22 4 (.aload_n 0) 1 := by decide +kernel
theorem d25_10 : DK kc22 10 (.invokevirtual 29) 3 := by decide +kernel
theorem own_pd14 : parseMethodDescriptor "(Ljava/util/function/Supplier;)Ljava/lang/Object;" = some ⟨[(.object "java/util/function/Supplier")], some (.object "java/lang/Object")⟩ := by decide +kernel
theorem d25_13 : DK kc22 13 (.checkcast 35) 3 := by decide +kernel
theorem d25_16 : DK kc22 16 (.astore_n 1) 1 := by decide +kernel
theorem d25_17 : DK kc22 17 (.new 8) 3 := by decide +kernel
theorem d25_20 : DK kc22 20 .dup 1 := by decide +kernel
theorem d25_21 : DK kc22 21 (.aload_n 1) 1 := by decide +kernel
theorem d25_22 : DK kc22 22 (.aload_n 0) 1 := by decide +kernel
theorem d25_23 : DK kc22 23 (.invokevirtual 37) 3 := by decide +kernel
theorem own_pd15 : parseMethodDescriptor "()Ljava/lang/String;" = some ⟨[], some (.object "java/lang/String")⟩ := by decide +kernel
theorem d25_26 : DK kc22 26 (.aload_n 0) 1 := by decide +kernel
theorem d25_27 : DK kc22 27 (.invokevirtual 40) 3 := by decide +kernel
theorem d25_30 : DK kc22 30 (.invokespecial 43) 3 := by decide +kernel
theorem own_pd16 : parseMethodDescriptor "(Lcom/example/surfacemap/surfacemap/model/Finding$Rule;Ljava/lang/String;Ljava/lang/String;)V" = some ⟨[(.object "com/example/surfacemap/surfacemap/model/Finding$Rule"), (.object "java/lang/String"), (.object "java/lang/String")], none⟩ := by decide +kernel
theorem d25_33 : DK kc22 33 .areturn 1 := by decide +kernel
theorem own_ef_rm_of (m : MethodId) (x0 : Addr) : entryFrame m #[(.ref x0)] 2 = mkF m 0 #[vr x0, vu] [] := by first | (simp [entryFrame, mkF, argsToLocals, Value.category]; done) | rfl
def Q_rm_of (Z : State) (a : Addr) (rl : Addr) (lo : Value) (ms : Value) (h0 : Heap) (n0 : Nat) (v : Option Value) (h : Heap) (L : List Loc) : Prop := ∃ f : Addr, v = some (.ref f) ∧ Fr n0 L ∧ Keep h0 h [] ∧ Exa Z h f "com/example/surfacemap/surfacemap/model/Finding" ∧ Fld Z h f "com/example/surfacemap/surfacemap/model/Finding" "rule" "Lcom/example/surfacemap/surfacemap/model/Finding$Rule;" (.ref rl) ∧ Fld Z h f "com/example/surfacemap/surfacemap/model/Finding" "location" "Ljava/lang/String;" lo ∧ Fld Z h f "com/example/surfacemap/surfacemap/model/Finding" "message" "Ljava/lang/String;" ms
theorem rm_of (l : Launch) (Z : State) (a0 : Array Value) (hw : HW a0 Z) (ws : List Jvm.Cond) (a : Addr) (rl : Addr) (lo : Value) (ms : Value) (h0 : Heap) (n0 : Nat) (Z0 : n0 ≤ h0.size) (A_a : Exa Z h0 a "com/example/surfacemap/surfacemap/model/DocumentException") (F_rule_a : Fld Z h0 a "com/example/surfacemap/surfacemap/model/DocumentException" "rule" "Lcom/example/surfacemap/surfacemap/model/Finding$Rule;" (.ref rl)) (F_location_a : Fld Z h0 a "com/example/surfacemap/surfacemap/model/DocumentException" "location" "Ljava/lang/String;" lo) (F_detailMessage_a : Fld Z h0 a "java/lang/Throwable" "detailMessage" "Ljava/lang/String;" ms) (A_rl : Exa Z h0 rl "com/example/surfacemap/surfacemap/model/Finding$Rule") (r_lo : lo.isRef = true) (r_ms : ms.isRef = true) :
  Met l Z mN26 prog_5_method_2_code 2 (some (.object "com/example/surfacemap/surfacemap/model/Finding")) ({ frames := 4, cells := 3, slots := 5, locals := 3074 } : Room) ws #[(.ref a)] h0 (Q_rm_of Z a rl lo ms h0 n0) := by
 refine own_metN (plainFor_of_name own_pn4) ?_
 intro p e s m below meth c s₁ hret hx hby hlk hml hown hnm X0 e0 hZ hh hnam
 have N0 := Fr.nil n0
 refine Gz (castTop (own_ef_rm_of m a)) ?_
 have KP : Keep h0 h0 [] := Keep.refl _ _
 show Goes _ _ _ _ _ (fT s₁ m 0 #[vr a, vu] [])
 refine gA X0 hx hby d25_0 rfl rfl rfl ?_
 refine cVg X0 hx hZ hw hown hby hml e0 mN15 153 154 156 155 157 88 0 (rm_xr l Z a0 hw [] a rl h0 n0 Z0 F_rule_a) A_a d25_1 (lenOf own_pd13 rfl) (fun _ T1 L1 X1 hQ1 => ?_)
 obtain ⟨o1, rfl, N1q, K1, A_o1_1', F_value_o1_1', g_o1_1', sz_o1_1'⟩ := hQ1
 have N1 := Fr.app N0 N1q
 replace A_a := A_a.keep K1
 replace F_location_a := F_location_a.keep K1 nin0
 replace F_detailMessage_a := F_detailMessage_a.keep K1 nin0
 replace A_rl := A_rl.keep K1
 replace KP := KP.trans K1 all0
 replace Z0 := Nat.le_trans Z0 K1.1
 have A_o1 := A_o1_1'
 have F_value_o1 := F_value_o1_1'
 show Goes _ _ _ _ _ (fT T1 m 4 #[vr a, vu] [(.ref o1)])
 refine gA X1 hx hby d25_4 rfl rfl rfl ?_
 show Goes _ _ _ _ _ (fT T1 m 5 #[vr a, vu] [(.ref a), (.ref o1)])
 obtain ⟨T2, h2, X2, e2, E2, st2⟩ := own_lam X1 hx hZ hnam (gw hw 171 rfl) (gw hw 174 rfl) (C := "com/example/surfacemap/surfacemap/model/DocumentException") rfl own_lays rfl (g := (mkF m 5 #[vr a, vu] [(.ref a), (.ref o1)])) rfl hml.symm rfl (hb hby d_indy) rfl (Nat.le_of_ble_eq_true rfl) (Nat.le_of_ble_eq_true rfl) (Nat.le_of_ble_eq_true rfl)
 obtain ⟨b2, gq2⟩ : ∃ z, z = T1.heap.size := ⟨_, rfl⟩
 rw [← gq2] at st2
 replace A_a := A_a.ext E2
 replace F_location_a := F_location_a.ext E2
 replace F_detailMessage_a := F_detailMessage_a.ext E2
 replace A_rl := A_rl.ext E2
 replace A_o1 := A_o1.ext E2
 replace F_value_o1 := F_value_o1.ext E2
 replace KP := KP.ext E2
 replace Z0 : n0 ≤ h2.size := Nat.le_trans Z0 E2.1
 refine Gs st2 ?_
 show Goes _ _ _ _ _ (fT T2 m 10 #[vr a, vu] [(.ref b2), (.ref o1)])
 refine cV X2 hx hZ hw hown hby hml e2 mN16 175 176 178 177 179 160 0 (rm_oe l Z a0 hw [] o1 b2 rl h2 n0 Z0 F_value_o1) A_o1 d25_10 (lenOf own_pd14 rfl) N1 (fun T3 L3 X3 e3 N3 => ?_)
 show Goes _ _ _ _ _ (fT T3 m 13 #[vr a, vu] [(.ref rl)])
 obtain ⟨T4, X4, e4, st4⟩ := castY X3 hx hZ hown (gw hw 180 rfl) e3 (Ins.self A_rl) (g := (mkF m 13 #[vr a, vu] [(.ref rl)])) rfl rfl (hb hby d25_13)
 refine Gs st4 ?_
 show Goes _ _ _ _ _ (fT T4 m 16 #[vr a, vu] [(.ref rl)])
 refine Gz (XS.astoreN X4.here hx rfl (hb hby d25_16) rfl rfl (l' := #[vr a, vr rl]) rfl) ?_
 obtain ⟨T5, h5, X5, e5, E5, A5, D5, U5, st5⟩ := newO X4 hx hZ hown (gw hw 181 rfl) (gw hw 182 rfl) (gw hw 151 rfl) e4 (g := (mkF m 17 #[vr a, vr rl] [])) rfl (hb hby d25_17) (by decide) (by decide)
 obtain ⟨b5, gq5⟩ : ∃ z, z = h2.size := ⟨_, rfl⟩
 rw [← gq5] at A5 st5 D5
 have g_b5 : n0 ≤ b5 := by rw [gq5]; exact Z0
 have sz_b5 : h0.size ≤ b5 := by rw [gq5]; exact KP.1
 replace A_a := A_a.ext E5
 replace F_location_a := F_location_a.ext E5
 replace F_detailMessage_a := F_detailMessage_a.ext E5
 replace KP := KP.ext E5
 replace Z0 : n0 ≤ h5.size := Nat.le_trans Z0 E5.1
 have A_b5 : Exa Z h5 b5 "com/example/surfacemap/surfacemap/model/Finding" := A5
 have F_rule_b5 : Fld Z h5 b5 "com/example/surfacemap/surfacemap/model/Finding" "rule" "Lcom/example/surfacemap/surfacemap/model/Finding$Rule;" .null := D5 (Or.inr (gw hw 204 rfl)) (ty := (.object "com/example/surfacemap/surfacemap/model/Finding$Rule")) (by decide)
 have F_location_b5 : Fld Z h5 b5 "com/example/surfacemap/surfacemap/model/Finding" "location" "Ljava/lang/String;" .null := D5 (Or.inr (gw hw 206 rfl)) (ty := (.object "java/lang/String")) (by decide)
 have F_message_b5 : Fld Z h5 b5 "com/example/surfacemap/surfacemap/model/Finding" "message" "Ljava/lang/String;" .null := D5 (Or.inr (gw hw 208 rfl)) (ty := (.object "java/lang/String")) (by decide)
 refine Gs st5 ?_
 show Goes _ _ _ _ _ (fT T5 m 20 #[vr a, vr rl] [(.ref b5)])
 refine Gz (XS.dup X5.here hx rfl (hb hby d25_20) rfl rfl) ?_
 refine gA X5 hx hby d25_21 rfl rfl rfl ?_
 refine gA X5 hx hby d25_22 rfl rfl rfl ?_
 refine cV X5 hx hZ hw hown hby hml e5 mN11 183 184 186 185 187 88 3 (rm_xloc l Z a0 hw [] a lo h5 n0 Z0 F_location_a r_lo) A_a d25_23 (lenOf own_pd15 rfl) N3 (fun T6 L6 X6 e6 N6 => ?_)
 show Goes _ _ _ _ _ (fT T6 m 26 #[vr a, vr rl] [lo, (.ref rl), (.ref b5), (.ref b5)])
 refine gA X6 hx hby d25_26 rfl rfl rfl ?_
 obtain ⟨cq7, kq7, q7a, q7b, q7c⟩ := isOf hZ e6 A_a
 obtain ⟨_, _, ⟨T7, L7, k7, n7⟩, -, X7, ⟨Lc7, hQ7, l7, y7, z7⟩, st7⟩ := X6.virtualBackUp hx (x := mN25) (y := mN12) (owner := "java/lang/Throwable") hown (gz hZ hw 188 rfl) (own_mvSM hZ (gw hw 189 rfl) (by decide)) (gz hZ hw 190 rfl) (by decide) (gz hZ hw 192 rfl) (gz hZ hw 191 rfl) (backOf (W := 4) (rm_xmsg l Z a0 hw [] a ms h5 n0 Z0 F_detailMessage_a r_ms) hZ (gw hw 193 rfl) (gw hw 101 rfl) (by decide) (by decide)) q7a q7c (g := (mkF m 27 #[vr a, vr rl] [(.ref a), lo, (.ref rl), (.ref b5), (.ref b5)])) rfl hml.symm (Steps.refl _) (argsL := []) (rest := [lo, (.ref rl), (.ref b5), (.ref b5)]) (lenOf own_pd15 rfl) rfl (w0 (Nat.le_of_eq (by show (lo.category + (1 + (1 + (1 + (0))))) = 4; rw [own_cat r_lo]))) (hb hby d25_27) (fun _ _ => ⟨rfl, e6, (by decide : 3 + 0 ≤ _), (by decide : 5 + 0 ≤ _)⟩)
 dsimp only [Pt.U, Pt.locs, Pt.cells, Pt.slots] at X7 l7 y7 z7 st7 hQ7
 subst l7 y7 z7
 obtain ⟨rfl, N7q, e7⟩ := hQ7
 have N7 := Fr.app N6 N7q
 refine Gs (fun _ tk => st7.trans tk) ?_
 show Goes _ _ _ _ _ (fT T7 m 30 #[vr a, vr rl] [ms, lo, (.ref rl), (.ref b5), (.ref b5)])
 refine cIg X7 hx hZ hw hown hby hml e7 mN7 194 195 196 151 1 (rm_fin l Z a0 hw [] b5 rl lo ms h5 n0 Z0 A_b5 F_rule_b5 F_location_b5 F_message_b5 g_b5 r_lo r_ms) d25_30 (lenOf own_pd16 rfl) (fun _ T8 L8 X8 hQ8 => ?_)
 obtain ⟨rfl, N8q, K8, F_rule_b5_8', F_location_b5_8', F_message_b5_8'⟩ := hQ8
 have N8 := Fr.app N7 N8q
 replace A_b5 := A_b5.keep K8
 replace KP := KP.trans K8 (allS (Or.inr sz_b5) all0)
 replace Z0 := Nat.le_trans Z0 K8.1
 have F_rule_b5 := F_rule_b5_8'
 have F_location_b5 := F_location_b5_8'
 have F_message_b5 := F_message_b5_8'
 show Goes _ _ _ _ _ (fT T8 m 33 #[vr a, vr rl] [(.ref b5)])
 refine Goes.ret X8 (some (.ref b5)) (fun h => by rw [hret] at h; cases h) hlk (by decide) (by decide) ?_ (fun fs hr => ?_)
 ·exact ⟨b5, rfl, N8, KP, A_b5, F_rule_b5, F_location_b5, F_message_b5⟩
 ·exact own_retA X8 hx hret rfl rfl (hb hby d25_33) hr
theorem own_tww {a0 : Array Value} {Z : State} (hw : HW a0 Z) : ∀ w ∈ own_tw "com/example/surfacemap/surfacemap/model/DocumentException", w.before a0 Z = true := (own_allC (gw hw 122 rfl) (own_allC (gw hw 121 rfl) (own_allC (gw hw 125 rfl) (own_allC (gw hw 114 rfl) (own_allC (gw hw 120 rfl) (own_allC (gw hw 112 rfl) (own_allC (gw hw 113 rfl) (own_allC (gw hw 101 rfl) (own_allC (gw hw 119 rfl) (own_allC (gw hw 76 rfl) (own_allC (gw hw 77 rfl) (own_allC (gw hw 103 rfl) (own_allC (gw hw 104 rfl) (own_allC (gw hw 105 rfl) (own_allC (gw hw 107 rfl) (own_allC (gw hw 108 rfl) (own_allC (gw hw 110 rfl) (own_allC (gw hw 111 rfl) (own_allC (gw hw 106 rfl) (own_allC (gw hw 132 rfl) (own_allC (gw hw 109 rfl) (own_allC (gw hw 133 rfl) (own_allC (gw hw 135 rfl) (own_allC (gw hw 130 rfl) (own_allC (gw hw 136 rfl) (own_allC (gw hw 137 rfl) (own_allC (gw hw 117 rfl) (own_allC (gw hw 118 rfl) (own_allC (gw hw 116 rfl) (own_allC (gw hw 134 rfl) (own_allC (gw hw 115 rfl) own_allN)))))))))))))))))))))))))))))))
theorem d26_0 : DK kc16 0 (.aload_n 0) 1 := by decide +kernel
theorem d26_1 : DK kc16 1 (.invokespecial 1) 3 := by decide +kernel
theorem d26_4 : DK kc16 4 (.aload_n 0) 1 := by decide +kernel
theorem d26_5 : DK kc16 5 (.aload_n 0) 1 := by decide +kernel
theorem d26_6 : DK kc16 6 (.putfield 7) 3 := by decide +kernel
theorem d26_9 : DK kc16 9 (.aload_n 0) 1 := by decide +kernel
theorem d26_10 : DK kc16 10 (.getstatic 13) 3 := by decide +kernel
theorem d26_13 : DK kc16 13 (.putfield 17) 3 := by decide +kernel
theorem d26_16 : DK kc16 16 (.aload_n 0) 1 := by decide +kernel
theorem d26_17 : DK kc16 17 (.getstatic 20) 3 := by decide +kernel
theorem d26_20 : DK kc16 20 (.putfield 24) 3 := by decide +kernel
theorem d26_23 : DK kc16 23 (.aload_n 0) 1 := by decide +kernel
theorem d26_24 : DK kc16 24 (.invokevirtual 27) 3 := by decide +kernel
theorem d26_27 : DK kc16 27 .pop 1 := by decide +kernel
theorem d26_28 : DK kc16 28 (.aload_n 0) 1 := by decide +kernel
theorem d26_29 : DK kc16 29 (.aload_n 1) 1 := by decide +kernel
theorem d26_30 : DK kc16 30 (.putfield 31) 3 := by decide +kernel
theorem d26_33 : DK kc16 33 .return_ 1 := by decide +kernel
theorem own_ef_rm_th1 (m : MethodId) (x0 : Addr) (x1 : Value) (hx1 : x1.isRef = true) : entryFrame m #[(.ref x0), x1] 2 = mkF m 0 #[vr x0, .val x1] [] := by first | (simp [entryFrame, mkF, argsToLocals, Value.category]; done) | rfl | (rcases Jvm.Free.XT.refc hx1 with rfl | ⟨r, rfl⟩ <;> rfl)
def Q_rm_th1 (Z : State) (a : Addr) (ms : Value) (h0 : Heap) (n0 : Nat) (v : Option Value) (h : Heap) (L : List Loc) : Prop := v = none ∧ Fr n0 L ∧ Kp Z h0 h a ∧ Exa Z h a "com/example/surfacemap/surfacemap/model/DocumentException" ∧ Fld Z h a "java/lang/Throwable" "detailMessage" "Ljava/lang/String;" ms
theorem rm_th1 (l : Launch) (Z : State) (a0 : Array Value) (hw : HW a0 Z) (ws : List Jvm.Cond) (a : Addr) (ms : Value) (h0 : Heap) (n0 : Nat) (Z0 : n0 ≤ h0.size) (A_a : Exa Z h0 a "com/example/surfacemap/surfacemap/model/DocumentException") (F_cause_a : Fld Z h0 a "java/lang/Throwable" "cause" "Ljava/lang/Throwable;" .null) (F_stackTrace_a : Fld Z h0 a "java/lang/Throwable" "stackTrace" "[Ljava/lang/StackTraceElement;" .null) (F_suppressedExceptions_a : Fld Z h0 a "java/lang/Throwable" "suppressedExceptions" "Ljava/util/List;" .null) (F_detailMessage_a : Fld Z h0 a "java/lang/Throwable" "detailMessage" "Ljava/lang/String;" .null) (F_backtrace_a : Fld Z h0 a "java/lang/Throwable" "backtrace" "Ljava/lang/Object;" .null) (g_a : n0 ≤ a) (Un_a : Unt h0 a) (hTh : ThS Z h0) (hTwo : ∀ d ∈ twoRefs, d.before a0 Z = true) (hlT : l.stackTraces = true) (r_ms : ms.isRef = true) :
  MetK l Z mN27 jdk_78_method_2_code 2 none ({ frames := 3, cells := 1, slots := 2752, locals := 42 } : Room) ws #[(.ref a), ms] h0 (Q_rm_th1 Z a ms h0 n0) := by
 refine own_metK (plainFor_of_name own_pn6) ?_
 intro p e s m below meth c s₁ hret hx hby hlk hml hown hnm X0 e0 hZ hh hTK hBelow
 have N0 := Fr.nil n0
 have hZk := hZ
 refine Gz (castTop (own_ef_rm_th1 m a ms r_ms)) ?_
 show Goes _ _ _ _ _ (fT s₁ m 0 #[vr a, .val ms] [])
 have Z00 := Z0
 have LX := own_six0 (Z := Z) (a := a)
 obtain ⟨us, r_us, S_us⟩ := own_staT hTh (gw hw 101 rfl) (gw hw 132 rfl) (hTwo _ (List.mem_of_getElem? (i := 0) rfl))
 obtain ⟨se, r_se, S_se⟩ := own_staT hTh (gw hw 101 rfl) (gw hw 133 rfl) (hTwo _ (List.mem_of_getElem? (i := 1) rfl))
 refine gA X0 hx hby d26_0 rfl rfl rfl ?_
 obtain ⟨T1, X1, e1, st1⟩ := initO X0 hx hZ hown (gw hw 103 rfl) (gw hw 76 rfl) (gw hw 77 rfl) e0 (g := (mkF m 1 #[vr a, .val ms] [(.ref a)])) rfl hml.symm rfl (hb hby d26_1) (by decide) (W := 0) (wz rfl) (by decide)
 refine Gs st1 ?_
 show Goes _ _ _ _ _ (fT T1 m 4 #[vr a, .val ms] [])
 refine gA X1 hx hby d26_4 rfl rfl rfl ?_
 refine gA X1 hx hby d26_5 rfl rfl rfl ?_
 obtain ⟨T2, h2, X2, e2, W2, st2⟩ := putF X1 hx hZ hown (host := "") (Or.inl (gw hw 104 rfl)) Via.refl e1 F_cause_a A_a (Or.inl (gw hw 105 rfl)) (gw hw 87 rfl) (ty := (.object "java/lang/Throwable")) (by decide) rfl rfl (g := (mkF m 6 #[vr a, .val ms] [(.ref a), (.ref a)])) rfl rfl (hb hby d26_6)
 replace F_stackTrace_a := F_stackTrace_a.other W2 (Or.inr (slot_ne (Or.inl (gw hw 108 rfl)) (Or.inl (gw hw 105 rfl)) (by decide) (t := (.array (.object "java/lang/StackTraceElement"))) (t' := (.object "java/lang/Throwable")) (by decide) (by decide)))
 replace F_suppressedExceptions_a := F_suppressedExceptions_a.other W2 (Or.inr (slot_ne (Or.inl (gw hw 111 rfl)) (Or.inl (gw hw 105 rfl)) (by decide) (t := (.object "java/util/List")) (t' := (.object "java/lang/Throwable")) (by decide) (by decide)))
 replace F_detailMessage_a := F_detailMessage_a.other W2 (Or.inr (slot_ne (Or.inl (gw hw 135 rfl)) (Or.inl (gw hw 105 rfl)) (by decide) (t := (.object "java/lang/String")) (t' := (.object "java/lang/Throwable")) (by decide) (by decide)))
 replace F_backtrace_a := F_backtrace_a.other W2 (Or.inr (slot_ne (Or.inl (gw hw 136 rfl)) (Or.inl (gw hw 105 rfl)) (by decide) (t := (.object "java/lang/Object")) (t' := (.object "java/lang/Throwable")) (by decide) (by decide)))
 replace A_a := A_a.wr W2
 replace S_us := S_us.wr W2
 replace S_se := S_se.wr W2
 replace Z0 : n0 ≤ h2.size := by rw [W2.size]; exact Z0
 refine Gs st2 ?_
 show Goes _ _ _ _ _ (fT T2 m 9 #[vr a, .val ms] [])
 replace LX := own_six1 X2 LX (by simp [Jvm.Free.Exc.sixNames, steD, listD])
 replace Un_a := own_untW W2 Un_a
 refine gA X2 hx hby d26_9 rfl rfl rfl ?_
 obtain ⟨T3, X3, e3, st3⟩ := getS2 X2 hx hZ hown (host := "") (Or.inl (gw hw 106 rfl)) Via.refl e2 S_us (g := (mkF m 10 #[vr a, .val ms] [(.ref a)])) rfl (hb hby d26_10)
 refine Gs st3 ?_
 show Goes _ _ _ _ _ (fT T3 m 13 #[vr a, .val ms] [us, (.ref a)])
 obtain ⟨T4, h4, X4, e4, W4, st4⟩ := putF X3 hx hZ hown (host := "") (Or.inl (gw hw 107 rfl)) Via.refl e3 F_stackTrace_a A_a (Or.inl (gw hw 108 rfl)) (gw hw 87 rfl) (ty := (.array (.object "java/lang/StackTraceElement"))) (by decide) (own_narA r_us) (own_fitA r_us) (g := (mkF m 13 #[vr a, .val ms] [us, (.ref a)])) rfl rfl (hb hby d26_13)
 replace F_suppressedExceptions_a := F_suppressedExceptions_a.other W4 (Or.inr (slot_ne (Or.inl (gw hw 111 rfl)) (Or.inl (gw hw 108 rfl)) (by decide) (t := (.object "java/util/List")) (t' := (.array (.object "java/lang/StackTraceElement"))) (by decide) (by decide)))
 replace F_detailMessage_a := F_detailMessage_a.other W4 (Or.inr (slot_ne (Or.inl (gw hw 135 rfl)) (Or.inl (gw hw 108 rfl)) (by decide) (t := (.object "java/lang/String")) (t' := (.array (.object "java/lang/StackTraceElement"))) (by decide) (by decide)))
 replace F_backtrace_a := F_backtrace_a.other W4 (Or.inr (slot_ne (Or.inl (gw hw 136 rfl)) (Or.inl (gw hw 108 rfl)) (by decide) (t := (.object "java/lang/Object")) (t' := (.array (.object "java/lang/StackTraceElement"))) (by decide) (by decide)))
 replace A_a := A_a.wr W4
 replace S_us := S_us.wr W4
 replace S_se := S_se.wr W4
 replace F_stackTrace_a := F_stackTrace_a.same W4
 replace Z0 : n0 ≤ h4.size := by rw [W4.size]; exact Z0
 refine Gs st4 ?_
 show Goes _ _ _ _ _ (fT T4 m 16 #[vr a, .val ms] [])
 replace LX := own_six1 X4 LX (by simp [Jvm.Free.Exc.sixNames, steD, listD])
 replace Un_a := own_untW W4 Un_a
 refine gA X4 hx hby d26_16 rfl rfl rfl ?_
 obtain ⟨T5, X5, e5, st5⟩ := getS2 X4 hx hZ hown (host := "") (Or.inl (gw hw 109 rfl)) Via.refl e4 S_se (g := (mkF m 17 #[vr a, .val ms] [(.ref a)])) rfl (hb hby d26_17)
 refine Gs st5 ?_
 show Goes _ _ _ _ _ (fT T5 m 20 #[vr a, .val ms] [se, (.ref a)])
 obtain ⟨T6, h6, X6, e6, W6, st6⟩ := putF X5 hx hZ hown (host := "") (Or.inl (gw hw 110 rfl)) Via.refl e5 F_suppressedExceptions_a A_a (Or.inl (gw hw 111 rfl)) (gw hw 87 rfl) (ty := (.object "java/util/List")) (by decide) (own_narV r_se) (own_fitV r_se) (g := (mkF m 20 #[vr a, .val ms] [se, (.ref a)])) rfl rfl (hb hby d26_20)
 replace F_stackTrace_a := F_stackTrace_a.other W6 (Or.inr (slot_ne (Or.inl (gw hw 108 rfl)) (Or.inl (gw hw 111 rfl)) (by decide) (t := (.array (.object "java/lang/StackTraceElement"))) (t' := (.object "java/util/List")) (by decide) (by decide)))
 replace F_detailMessage_a := F_detailMessage_a.other W6 (Or.inr (slot_ne (Or.inl (gw hw 135 rfl)) (Or.inl (gw hw 111 rfl)) (by decide) (t := (.object "java/lang/String")) (t' := (.object "java/util/List")) (by decide) (by decide)))
 replace F_backtrace_a := F_backtrace_a.other W6 (Or.inr (slot_ne (Or.inl (gw hw 136 rfl)) (Or.inl (gw hw 111 rfl)) (by decide) (t := (.object "java/lang/Object")) (t' := (.object "java/util/List")) (by decide) (by decide)))
 replace A_a := A_a.wr W6
 replace S_us := S_us.wr W6
 replace Z0 : n0 ≤ h6.size := by rw [W6.size]; exact Z0
 refine Gs st6 ?_
 show Goes _ _ _ _ _ (fT T6 m 23 #[vr a, .val ms] [])
 replace LX := own_six1 X6 LX (by simp [Jvm.Free.Exc.sixNames, steD, listD])
 replace Un_a := own_untW W6 Un_a
 refine gA X6 hx hby d26_23 rfl rfl rfl ?_
 show Goes _ _ _ _ _ (fT T6 m 24 #[vr a, .val ms] [(.ref a)])
 obtain ⟨T7, L7, X7, LX7, A_a', FD', st7⟩ := own_fillL X6 hx hlT hZ hown (own_tww hw) (gw hw 87 rfl) (by rw [hh]; exact hTh) hTK hBelow e6 r_us A_a Un_a F_stackTrace_a F_backtrace_a F_detailMessage_a S_us (g := (mkF m 24 #[vr a, .val ms] [(.ref a)])) rfl hml.symm rfl (hb hby d26_24) (by decide) (Nat.le_of_ble_eq_true rfl) (by decide) (by decide)
 replace LX := own_sixA LX LX7
 have N7 := own_sixF (n0 := n0) LX g_a
 replace Z0 : n0 ≤ T7.heap.size := Nat.le_trans Z00 (own_kpS X7 hh LX).1
 replace A_a := A_a'
 have F_detailMessage_a := FD'
 refine Gs st7 ?_
 show Goes _ _ _ _ _ (fT T7 m 27 #[vr a, .val ms] [(.ref a)])
 refine Gz (XS.pop X7.here hx rfl (hb hby d26_27) rfl rfl) ?_
 refine gA X7 hx hby d26_28 rfl rfl rfl ?_
 refine Gz (XS.aloadN X7.here hx rfl (hb hby d26_29) rfl (by assumption)) ?_
 obtain ⟨T8, h8, X8, e8, W8, st8⟩ := putF X7 hx hZ hown (host := "") (Or.inl (gw hw 139 rfl)) Via.refl rfl F_detailMessage_a A_a (Or.inl (gw hw 135 rfl)) (gw hw 87 rfl) (ty := (.object "java/lang/String")) (by decide) (own_narV r_ms) (own_fitV r_ms) (g := (mkF m 30 #[vr a, .val ms] [ms, (.ref a)])) rfl rfl (hb hby d26_30)
 have N8 := Fr.snoc X8 N7 g_a
 replace A_a := A_a.wr W8
 replace F_detailMessage_a := F_detailMessage_a.same W8
 replace Z0 : n0 ≤ h8.size := by rw [W8.size]; exact Z0
 refine Gs st8 ?_
 show Goes _ _ _ _ _ (fT T8 m 33 #[vr a, .val ms] [])
 replace LX := own_six1 X8 LX (by simp [Jvm.Free.Exc.sixNames, steD, listD])
 have KPf := own_kpS X8 hh LX
 rw [e8] at KPf
 refine Goes.ret X8 none (fun _ => rfl) hlk (by decide) (by decide) ?_ (fun fs hr => ?_)
 ·rw [e8]; exact ⟨rfl, N8, KPf, A_a, F_detailMessage_a⟩
 ·exact X8.returnOut hx hret (hb hby d26_33) hr
theorem d27_0 : DK kc15 0 (.aload_n 0) 1 := by decide +kernel
theorem d27_1 : DK kc15 1 (.aload_n 1) 1 := by decide +kernel
theorem d27_2 : DK kc15 2 (.invokespecial 7) 3 := by decide +kernel
theorem own_pd17 : parseMethodDescriptor "(Ljava/lang/String;)V" = some ⟨[(.object "java/lang/String")], none⟩ := by decide +kernel
theorem d27_5 : DK kc15 5 .return_ 1 := by decide +kernel
theorem own_pn10 : plainName "java/lang/Exception" = true := by first | (simp [plainName, overriddenIn]; done) | decide +kernel
theorem own_ef_rm_ex1 (m : MethodId) (x0 : Addr) (x1 : Value) (hx1 : x1.isRef = true) : entryFrame m #[(.ref x0), x1] 2 = mkF m 0 #[vr x0, .val x1] [] := by first | (simp [entryFrame, mkF, argsToLocals, Value.category]; done) | rfl | (rcases Jvm.Free.XT.refc hx1 with rfl | ⟨r, rfl⟩ <;> rfl)
def Q_rm_ex1 (Z : State) (a : Addr) (ms : Value) (h0 : Heap) (n0 : Nat) (v : Option Value) (h : Heap) (L : List Loc) : Prop := v = none ∧ Fr n0 L ∧ Kp Z h0 h a ∧ Exa Z h a "com/example/surfacemap/surfacemap/model/DocumentException" ∧ Fld Z h a "java/lang/Throwable" "detailMessage" "Ljava/lang/String;" ms
theorem rm_ex1 (l : Launch) (Z : State) (a0 : Array Value) (hw : HW a0 Z) (ws : List Jvm.Cond) (a : Addr) (ms : Value) (h0 : Heap) (n0 : Nat) (Z0 : n0 ≤ h0.size) (A_a : Exa Z h0 a "com/example/surfacemap/surfacemap/model/DocumentException") (F_cause_a : Fld Z h0 a "java/lang/Throwable" "cause" "Ljava/lang/Throwable;" .null) (F_stackTrace_a : Fld Z h0 a "java/lang/Throwable" "stackTrace" "[Ljava/lang/StackTraceElement;" .null) (F_suppressedExceptions_a : Fld Z h0 a "java/lang/Throwable" "suppressedExceptions" "Ljava/util/List;" .null) (F_detailMessage_a : Fld Z h0 a "java/lang/Throwable" "detailMessage" "Ljava/lang/String;" .null) (F_backtrace_a : Fld Z h0 a "java/lang/Throwable" "backtrace" "Ljava/lang/Object;" .null) (g_a : n0 ≤ a) (Un_a : Unt h0 a) (hTh : ThS Z h0) (hTwo : ∀ d ∈ twoRefs, d.before a0 Z = true) (hlT : l.stackTraces = true) (r_ms : ms.isRef = true) :
  MetK l Z mN28 jdk_59_method_2_code 2 none ({ frames := 4, cells := 1, slots := 2752, locals := 55 } : Room) ws #[(.ref a), ms] h0 (Q_rm_ex1 Z a ms h0 n0) := by
 refine own_metK (plainFor_of_name own_pn10) ?_
 intro p e s m below meth c s₁ hret hx hby hlk hml hown hnm X0 e0 hZ hh hTK hBelow
 have N0 := Fr.nil n0
 have hZk := hZ
 refine Gz (castTop (own_ef_rm_ex1 m a ms r_ms)) ?_
 show Goes _ _ _ _ _ (fT s₁ m 0 #[vr a, .val ms] [])
 refine gA X0 hx hby d27_0 rfl rfl rfl ?_
 refine Gz (XS.aloadN X0.here hx rfl (hb hby d27_1) rfl (by assumption)) ?_
 obtain ⟨_, _, ⟨T1, L1, k1, n1⟩, -, X1, ⟨Lc1, hQ1, l1, y1, z1⟩, st1⟩ := X0.specialBack hx (y := mN27) rfl hown (gz hZ hw 97 rfl) (gz hZ hw 98 rfl) (gz hZ hw 102 rfl) (by decide) (backOfKL (W := 0) (rm_th1 l Z a0 hw [] a ms h0 n0 Z0 A_a F_cause_a F_stackTrace_a F_suppressedExceptions_a F_detailMessage_a F_backtrace_a g_a Un_a hTh hTwo hlT r_ms) hZ (gw hw 102 rfl) (gw hw 101 rfl) (by decide) (by decide) (Vm.MethodsKnown.alikeC (hZk.alike.symm.trans hZ.alike) hTK) (Vm.FramesKnown.alikeC (hZk.alike.symm.trans hZ.alike) hBelow)) (g := (mkF m 2 #[vr a, .val ms] [ms, (.ref a)])) rfl hml.symm (Steps.refl _) (a := a) (argsL := [ms]) (rest := []) (lenOf own_pd17 rfl) rfl (wz rfl) (hb hby d27_2) (fun _ _ => ⟨rfl, e0, (by decide : 0 + 1 ≤ _), (by decide : 0 + 2752 ≤ _)⟩)
 dsimp only [Pt.U, Pt.locs, Pt.cells, Pt.slots] at X1 l1 y1 z1 st1 hQ1
 subst l1 y1 z1
 obtain ⟨rfl, N1q, Kp1, A_a', FD'⟩ := hQ1
 have N1 := Fr.app N0 N1q
 replace A_a := A_a'
 have F_detailMessage_a := FD'
 refine Gs (fun _ tk => st1.trans tk) ?_
 show Goes _ _ _ _ _ (fT T1 m 5 #[vr a, .val ms] [])
 refine Goes.ret X1 none (fun _ => rfl) hlk (by decide) (by decide) ?_ (fun fs hr => ?_)
 ·exact ⟨rfl, N1, Kp1, A_a, F_detailMessage_a⟩
 ·exact X1.returnOut hx hret (hb hby d27_5) hr
theorem d28_0 : DK kc18 0 (.aload_n 0) 1 := by decide +kernel
theorem d28_1 : DK kc18 1 (.aload_n 3) 1 := by decide +kernel
theorem d28_2 : DK kc18 2 (.invokespecial 1) 3 := by decide +kernel
theorem d28_5 : DK kc18 5 (.aload_n 0) 1 := by decide +kernel
theorem d28_6 : DK kc18 6 (.aload_n 1) 1 := by decide +kernel
theorem d28_7 : DK kc18 7 (.invokestatic 17) 3 := by decide +kernel
theorem own_pd18 : parseMethodDescriptor "(Ljava/lang/Object;)Ljava/lang/Object;" = some ⟨[(.object "java/lang/Object")], some (.object "java/lang/Object")⟩ := by decide +kernel
theorem d28_10 : DK kc18 10 (.checkcast 23) 3 := by decide +kernel
theorem d28_13 : DK kc18 13 (.putfield 7) 3 := by decide +kernel
theorem d28_16 : DK kc18 16 (.aload_n 0) 1 := by decide +kernel
theorem d28_17 : DK kc18 17 (.aload_n 2) 1 := by decide +kernel
theorem d28_18 : DK kc18 18 (.putfield 13) 3 := by decide +kernel
theorem d28_21 : DK kc18 21 .return_ 1 := by decide +kernel
theorem own_ef_rm_dx (m : MethodId) (x0 : Addr) (x1 : Addr) (x2 : Value) (hx2 : x2.isRef = true) (x3 : Value) (hx3 : x3.isRef = true) : entryFrame m #[(.ref x0), (.ref x1), x2, x3] 4 = mkF m 0 #[vr x0, vr x1, .val x2, .val x3] [] := by first | (simp [entryFrame, mkF, argsToLocals, Value.category]; done) | rfl | (rcases Jvm.Free.XT.refc hx2 with rfl | ⟨r, rfl⟩ <;> rfl) | (rcases Jvm.Free.XT.refc hx3 with rfl | ⟨r, rfl⟩ <;> rfl) | (rcases Jvm.Free.XT.refc hx2 with rfl | ⟨r2, rfl⟩ <;> rcases Jvm.Free.XT.refc hx3 with rfl | ⟨r3, rfl⟩ <;> rfl)
def Q_rm_dx (Z : State) (a : Addr) (rl : Addr) (lo : Value) (ms : Value) (h0 : Heap) (n0 : Nat) (v : Option Value) (h : Heap) (L : List Loc) : Prop := v = none ∧ Fr n0 L ∧ Keep h0 h [a] ∧ Fld Z h a "com/example/surfacemap/surfacemap/model/DocumentException" "rule" "Lcom/example/surfacemap/surfacemap/model/Finding$Rule;" (.ref rl) ∧ Fld Z h a "com/example/surfacemap/surfacemap/model/DocumentException" "location" "Ljava/lang/String;" lo ∧ Fld Z h a "java/lang/Throwable" "detailMessage" "Ljava/lang/String;" ms
theorem rm_dx (l : Launch) (Z : State) (a0 : Array Value) (hw : HW a0 Z) (ws : List Jvm.Cond) (a : Addr) (rl : Addr) (lo : Value) (ms : Value) (h0 : Heap) (n0 : Nat) (Z0 : n0 ≤ h0.size) (A_a : Exa Z h0 a "com/example/surfacemap/surfacemap/model/DocumentException") (F_cause_a : Fld Z h0 a "java/lang/Throwable" "cause" "Ljava/lang/Throwable;" .null) (F_stackTrace_a : Fld Z h0 a "java/lang/Throwable" "stackTrace" "[Ljava/lang/StackTraceElement;" .null) (F_suppressedExceptions_a : Fld Z h0 a "java/lang/Throwable" "suppressedExceptions" "Ljava/util/List;" .null) (F_detailMessage_a : Fld Z h0 a "java/lang/Throwable" "detailMessage" "Ljava/lang/String;" .null) (F_backtrace_a : Fld Z h0 a "java/lang/Throwable" "backtrace" "Ljava/lang/Object;" .null) (F_rule_a : Fld Z h0 a "com/example/surfacemap/surfacemap/model/DocumentException" "rule" "Lcom/example/surfacemap/surfacemap/model/Finding$Rule;" .null) (F_location_a : Fld Z h0 a "com/example/surfacemap/surfacemap/model/DocumentException" "location" "Ljava/lang/String;" .null) (A_rl : Exa Z h0 rl "com/example/surfacemap/surfacemap/model/Finding$Rule") (ne_rl_a : rl ≠ a) (g_a : n0 ≤ a) (Un_a : Unt h0 a) (hTh : ThS Z h0) (hTwo : ∀ d ∈ twoRefs, d.before a0 Z = true) (hlT : l.stackTraces = true) (r_lo : lo.isRef = true) (r_ms : ms.isRef = true) :
  MetK l Z mN29 prog_4_method_2_code 4 none ({ frames := 5, cells := 1, slots := 2752, locals := 68 } : Room) ws #[(.ref a), (.ref rl), lo, ms] h0 (Q_rm_dx Z a rl lo ms h0 n0) := by
 refine own_metK (plainFor_of_name own_pn5) ?_
 intro p e s m below meth c s₁ hret hx hby hlk hml hown hnm X0 e0 hZ hh hTK hBelow
 have N0 := Fr.nil n0
 have hZk := hZ
 refine Gz (castTop (own_ef_rm_dx m a rl lo r_lo ms r_ms)) ?_
 have KP : Keep h0 h0 [a] := Keep.refl _ _
 show Goes _ _ _ _ _ (fT s₁ m 0 #[vr a, vr rl, .val lo, .val ms] [])
 refine gA X0 hx hby d28_0 rfl rfl rfl ?_
 refine Gz (XS.aloadN X0.here hx rfl (hb hby d28_1) rfl (by assumption)) ?_
 obtain ⟨_, _, ⟨T1, L1, k1, n1⟩, -, X1, ⟨Lc1, hQ1, l1, y1, z1⟩, st1⟩ := X0.specialBack hx (y := mN28) rfl hown (gz hZ hw 92 rfl) (gz hZ hw 93 rfl) (gz hZ hw 96 rfl) (by decide) (backOfKL (W := 0) (rm_ex1 l Z a0 hw [] a ms h0 n0 Z0 A_a F_cause_a F_stackTrace_a F_suppressedExceptions_a F_detailMessage_a F_backtrace_a g_a Un_a hTh hTwo hlT r_ms) hZ (gw hw 96 rfl) (gw hw 95 rfl) (by decide) (by decide) (Vm.MethodsKnown.alikeC (hZk.alike.symm.trans hZ.alike) hTK) (Vm.FramesKnown.alikeC (hZk.alike.symm.trans hZ.alike) hBelow)) (g := (mkF m 2 #[vr a, vr rl, .val lo, .val ms] [ms, (.ref a)])) rfl hml.symm (Steps.refl _) (a := a) (argsL := [ms]) (rest := []) (lenOf own_pd17 rfl) rfl (wz rfl) (hb hby d28_2) (fun _ _ => ⟨rfl, e0, (by decide : 0 + 1 ≤ _), (by decide : 0 + 2752 ≤ _)⟩)
 dsimp only [Pt.U, Pt.locs, Pt.cells, Pt.slots] at X1 l1 y1 z1 st1 hQ1
 subst l1 y1 z1
 obtain ⟨rfl, N1q, Kp1, A_a', FD'⟩ := hQ1
 have N1 := Fr.app N0 N1q
 replace A_a := A_a'
 have F_detailMessage_a := FD'
 have K1 := keep_of_kp Kp1
 replace F_rule_a := F_rule_a.kp Kp1 (Or.inr (by intro nd hnd; simp only [Jvm.Free.Exc.sixNames, List.mem_cons, List.not_mem_nil, or_false] at hnd; rcases hnd with rfl | rfl | rfl | rfl | rfl | rfl <;> first | exact slot_ne (Or.inl (gw hw 105 rfl)) (Or.inr (gw hw 146 rfl)) (by decide) (t := (.object "java/lang/Throwable")) (t' := (.object "com/example/surfacemap/surfacemap/model/Finding$Rule")) (by decide) (by decide) | exact slot_ne (Or.inl (gw hw 108 rfl)) (Or.inr (gw hw 146 rfl)) (by decide) (t := (.array (.object "java/lang/StackTraceElement"))) (t' := (.object "com/example/surfacemap/surfacemap/model/Finding$Rule")) (by decide) (by decide) | exact slot_ne (Or.inl (gw hw 111 rfl)) (Or.inr (gw hw 146 rfl)) (by decide) (t := (.object "java/util/List")) (t' := (.object "com/example/surfacemap/surfacemap/model/Finding$Rule")) (by decide) (by decide) | exact slot_ne (Or.inl (gw hw 135 rfl)) (Or.inr (gw hw 146 rfl)) (by decide) (t := (.object "java/lang/String")) (t' := (.object "com/example/surfacemap/surfacemap/model/Finding$Rule")) (by decide) (by decide) | exact slot_ne (Or.inl (gw hw 136 rfl)) (Or.inr (gw hw 146 rfl)) (by decide) (t := (.object "java/lang/Object")) (t' := (.object "com/example/surfacemap/surfacemap/model/Finding$Rule")) (by decide) (by decide) | exact slot_ne (Or.inl (gw hw 137 rfl)) (Or.inr (gw hw 146 rfl)) (by decide) (t := .int) (t' := (.object "com/example/surfacemap/surfacemap/model/Finding$Rule")) (by decide) (by decide)))
 replace F_location_a := F_location_a.kp Kp1 (Or.inr (by intro nd hnd; simp only [Jvm.Free.Exc.sixNames, List.mem_cons, List.not_mem_nil, or_false] at hnd; rcases hnd with rfl | rfl | rfl | rfl | rfl | rfl <;> first | exact slot_ne (Or.inl (gw hw 105 rfl)) (Or.inr (gw hw 148 rfl)) (by decide) (t := (.object "java/lang/Throwable")) (t' := (.object "java/lang/String")) (by decide) (by decide) | exact slot_ne (Or.inl (gw hw 108 rfl)) (Or.inr (gw hw 148 rfl)) (by decide) (t := (.array (.object "java/lang/StackTraceElement"))) (t' := (.object "java/lang/String")) (by decide) (by decide) | exact slot_ne (Or.inl (gw hw 111 rfl)) (Or.inr (gw hw 148 rfl)) (by decide) (t := (.object "java/util/List")) (t' := (.object "java/lang/String")) (by decide) (by decide) | exact slot_ne (Or.inl (gw hw 135 rfl)) (Or.inr (gw hw 148 rfl)) (by decide) (t := (.object "java/lang/String")) (t' := (.object "java/lang/String")) (by decide) (by decide) | exact slot_ne (Or.inl (gw hw 136 rfl)) (Or.inr (gw hw 148 rfl)) (by decide) (t := (.object "java/lang/Object")) (t' := (.object "java/lang/String")) (by decide) (by decide) | exact slot_ne (Or.inl (gw hw 137 rfl)) (Or.inr (gw hw 148 rfl)) (by decide) (t := .int) (t' := (.object "java/lang/String")) (by decide) (by decide)))
 replace A_rl := A_rl.keep K1
 replace KP := KP.trans K1 (allS (Or.inl (List.mem_of_getElem? (i := 0) rfl)) all0)
 replace Z0 := Nat.le_trans Z0 K1.1
 refine Gs (fun _ tk => st1.trans tk) ?_
 show Goes _ _ _ _ _ (fT T1 m 5 #[vr a, vr rl, .val lo, .val ms] [])
 refine gA X1 hx hby d28_5 rfl rfl rfl ?_
 refine gA X1 hx hby d28_6 rfl rfl rfl ?_
 refine cS X1 hx hZ hw hown hby hml rfl mN6 140 141 143 142 1 (rm_rq l Z a0 hw [] rl T1.heap n0 Z0) d28_7 (lenOf own_pd18 rfl) N1 (fun T2 L2 X2 e2 N2 => ?_)
 show Goes _ _ _ _ _ (fT T2 m 10 #[vr a, vr rl, .val lo, .val ms] [(.ref rl), (.ref a)])
 obtain ⟨T3, X3, e3, st3⟩ := castY X2 hx hZ hown (gw hw 144 rfl) e2 (Ins.self A_rl) (g := (mkF m 10 #[vr a, vr rl, .val lo, .val ms] [(.ref rl), (.ref a)])) rfl rfl (hb hby d28_10)
 refine Gs st3 ?_
 show Goes _ _ _ _ _ (fT T3 m 13 #[vr a, vr rl, .val lo, .val ms] [(.ref rl), (.ref a)])
 obtain ⟨T4, h4, X4, e4, W4, st4⟩ := putF X3 hx hZ hown (host := "") (Or.inl (gw hw 145 rfl)) Via.refl e3 F_rule_a A_a (Or.inr ⟨(gw hw 146 rfl), rfl, hnm⟩) (gw hw 87 rfl) (ty := (.object "com/example/surfacemap/surfacemap/model/Finding$Rule")) (by decide) rfl rfl (g := (mkF m 13 #[vr a, vr rl, .val lo, .val ms] [(.ref rl), (.ref a)])) rfl rfl (hb hby d28_13)
 have N4 := Fr.snoc X4 N2 g_a
 replace F_location_a := F_location_a.other W4 (Or.inr (slot_ne (Or.inr (gw hw 148 rfl)) (Or.inr (gw hw 146 rfl)) (by decide) (t := (.object "java/lang/String")) (t' := (.object "com/example/surfacemap/surfacemap/model/Finding$Rule")) (by decide) (by decide)))
 replace A_a := A_a.wr W4
 replace F_detailMessage_a := F_detailMessage_a.other W4 (Or.inr (slot_ne (Or.inl (gw hw 135 rfl)) (Or.inr (gw hw 146 rfl)) (by decide) (t := (.object "java/lang/String")) (t' := (.object "com/example/surfacemap/surfacemap/model/Finding$Rule")) (by decide) (by decide)))
 replace KP := KP.wr W4 (Or.inl (List.mem_of_getElem? (i := 0) rfl))
 replace F_rule_a := F_rule_a.same W4
 replace Z0 : n0 ≤ h4.size := by rw [W4.size]; exact Z0
 refine Gs st4 ?_
 show Goes _ _ _ _ _ (fT T4 m 16 #[vr a, vr rl, .val lo, .val ms] [])
 refine gA X4 hx hby d28_16 rfl rfl rfl ?_
 refine Gz (XS.aloadN X4.here hx rfl (hb hby d28_17) rfl (by assumption)) ?_
 obtain ⟨T5, h5, X5, e5, W5, st5⟩ := putF X4 hx hZ hown (host := "") (Or.inl (gw hw 147 rfl)) Via.refl e4 F_location_a A_a (Or.inr ⟨(gw hw 148 rfl), rfl, hnm⟩) (gw hw 87 rfl) (ty := (.object "java/lang/String")) (by decide) (own_narV r_lo) (own_fitV r_lo) (g := (mkF m 18 #[vr a, vr rl, .val lo, .val ms] [lo, (.ref a)])) rfl rfl (hb hby d28_18)
 have N5 := Fr.snoc X5 N4 g_a
 replace F_rule_a := F_rule_a.other W5 (Or.inr (slot_ne (Or.inr (gw hw 146 rfl)) (Or.inr (gw hw 148 rfl)) (by decide) (t := (.object "com/example/surfacemap/surfacemap/model/Finding$Rule")) (t' := (.object "java/lang/String")) (by decide) (by decide)))
 replace F_detailMessage_a := F_detailMessage_a.other W5 (Or.inr (slot_ne (Or.inl (gw hw 135 rfl)) (Or.inr (gw hw 148 rfl)) (by decide) (t := (.object "java/lang/String")) (t' := (.object "java/lang/String")) (by decide) (by decide)))
 replace KP := KP.wr W5 (Or.inl (List.mem_of_getElem? (i := 0) rfl))
 replace F_location_a := F_location_a.same W5
 replace Z0 : n0 ≤ h5.size := by rw [W5.size]; exact Z0
 refine Gs st5 ?_
 show Goes _ _ _ _ _ (fT T5 m 21 #[vr a, vr rl, .val lo, .val ms] [])
 refine Goes.ret X5 none (fun _ => rfl) hlk (by decide) (by decide) ?_ (fun fs hr => ?_)
 ·rw [e5]; exact ⟨rfl, N5, KP, F_rule_a, F_location_a, F_detailMessage_a⟩
 ·exact X5.returnOut hx hret (hb hby d28_21) hr
theorem own_pd19 : parseMethodDescriptor "(I)Lcom/example/surfacemap/surfacemap/model/Finding$Rule;" = some ⟨[.int], some (.object "com/example/surfacemap/surfacemap/model/Finding$Rule")⟩ := by decide +kernel
theorem own_pd20 : parseMethodDescriptor "(II)Ljava/lang/String;" = some ⟨[.int, .int], some (.object "java/lang/String")⟩ := by decide +kernel
theorem own_pd21 : parseMethodDescriptor "(Lcom/example/surfacemap/surfacemap/model/DocumentException;)Lcom/example/surfacemap/surfacemap/model/Finding;" = some ⟨[(.object "com/example/surfacemap/surfacemap/model/DocumentException")], some (.object "com/example/surfacemap/surfacemap/model/Finding")⟩ := by decide +kernel
theorem own_pd22 : parseMethodDescriptor "()Lcom/example/surfacemap/surfacemap/model/Finding$Rule;" = some ⟨[], some (.object "com/example/surfacemap/surfacemap/model/Finding$Rule")⟩ := by decide +kernel
theorem own_pd23 : parseMethodDescriptor "(Ljava/lang/String;Ljava/lang/String;)Z" = some ⟨[(.object "java/lang/String"), (.object "java/lang/String")], some .boolean⟩ := by decide +kernel
theorem own_ef_rm_law (m : MethodId) (x0 : Int32) (x1 : Int32) (x2 : Int32) (x3 : Int32) : entryFrame m #[(.int x0), (.int x1), (.int x2), (.int x3)] maxLocals = mkF m 0 #[vi x0, vi x1, vi x2, vi x3, vu, vu, vu, vu, vu] [] := by first | (simp [entryFrame, mkF, argsToLocals, Value.category, maxLocals]; done) | rfl
def Q_rm_law (Z : State) (x0 : Int32) (x1 : Int32) (x2 : Int32) (x3 : Int32) (w0 : Addr) (w1 : Addr) (w2 : Addr) (w3 : Addr) (w4 : Addr) (w5 : Addr) (w6 : Addr) (w7 : Addr) (w8 : Addr) (w9 : Addr) (w10 : Addr) (w11 : Addr) (w12 : Addr) (w13 : Addr) (w14 : Addr) (w15 : Addr) (w16 : Addr) (w17 : Addr) (w18 : Addr) (w19 : Addr) (w20 : Addr) (w21 : Addr) (w22 : Addr) (w23 : Addr) (w24 : Addr) (w25 : Addr) (cz : Int32) (h0 : Heap) (n0 : Nat) (v : Option Value) (h : Heap) (L : List Loc) : Prop := v = some (.int 1) ∧ Fr n0 L
theorem rm_law (l : Launch) (Z : State) (a0 : Array Value) (hw : HW a0 Z) (ws : List Jvm.Cond) (x0 : Int32) (x1 : Int32) (x2 : Int32) (x3 : Int32) (w0 : Addr) (w1 : Addr) (w2 : Addr) (w3 : Addr) (w4 : Addr) (w5 : Addr) (w6 : Addr) (w7 : Addr) (w8 : Addr) (w9 : Addr) (w10 : Addr) (w11 : Addr) (w12 : Addr) (w13 : Addr) (w14 : Addr) (w15 : Addr) (w16 : Addr) (w17 : Addr) (w18 : Addr) (w19 : Addr) (w20 : Addr) (w21 : Addr) (w22 : Addr) (w23 : Addr) (w24 : Addr) (w25 : Addr) (cz : Int32) (h0 : Heap) (n0 : Nat) (Z0 : n0 ≤ h0.size) (S_JSON_SYNTAX : Sta Z h0 "com/example/surfacemap/surfacemap/model/Finding$Rule" "JSON_SYNTAX" "Lcom/example/surfacemap/surfacemap/model/Finding$Rule;" (.ref w0)) (S_JSON_DEPTH : Sta Z h0 "com/example/surfacemap/surfacemap/model/Finding$Rule" "JSON_DEPTH" "Lcom/example/surfacemap/surfacemap/model/Finding$Rule;" (.ref w1)) (S_JSON_LIMIT : Sta Z h0 "com/example/surfacemap/surfacemap/model/Finding$Rule" "JSON_LIMIT" "Lcom/example/surfacemap/surfacemap/model/Finding$Rule;" (.ref w2)) (S_JSON_DUPLICATE_KEY : Sta Z h0 "com/example/surfacemap/surfacemap/model/Finding$Rule" "JSON_DUPLICATE_KEY" "Lcom/example/surfacemap/surfacemap/model/Finding$Rule;" (.ref w3)) (S_JSON_ENCODING : Sta Z h0 "com/example/surfacemap/surfacemap/model/Finding$Rule" "JSON_ENCODING" "Lcom/example/surfacemap/surfacemap/model/Finding$Rule;" (.ref w4)) (S_KIND : Sta Z h0 "com/example/surfacemap/surfacemap/model/Finding$Rule" "KIND" "Lcom/example/surfacemap/surfacemap/model/Finding$Rule;" (.ref w5)) (S_DISCOVERY_VERSION : Sta Z h0 "com/example/surfacemap/surfacemap/model/Finding$Rule" "DISCOVERY_VERSION" "Lcom/example/surfacemap/surfacemap/model/Finding$Rule;" (.ref w6)) (S_PROTOCOL : Sta Z h0 "com/example/surfacemap/surfacemap/model/Finding$Rule" "PROTOCOL" "Lcom/example/surfacemap/surfacemap/model/Finding$Rule;" (.ref w7)) (S_REQUIRED_FIELD : Sta Z h0 "com/example/surfacemap/surfacemap/model/Finding$Rule" "REQUIRED_FIELD" "Lcom/example/surfacemap/surfacemap/model/Finding$Rule;" (.ref w8)) (S_URL_SEGMENT : Sta Z h0 "com/example/surfacemap/surfacemap/model/Finding$Rule" "URL_SEGMENT" "Lcom/example/surfacemap/surfacemap/model/Finding$Rule;" (.ref w9)) (S_SCHEMA_ID : Sta Z h0 "com/example/surfacemap/surfacemap/model/Finding$Rule" "SCHEMA_ID" "Lcom/example/surfacemap/surfacemap/model/Finding$Rule;" (.ref w10)) (S_REF : Sta Z h0 "com/example/surfacemap/surfacemap/model/Finding$Rule" "REF" "Lcom/example/surfacemap/surfacemap/model/Finding$Rule;" (.ref w11)) (S_TEMPLATE : Sta Z h0 "com/example/surfacemap/surfacemap/model/Finding$Rule" "TEMPLATE" "Lcom/example/surfacemap/surfacemap/model/Finding$Rule;" (.ref w12)) (S_PATH_VARIABLE : Sta Z h0 "com/example/surfacemap/surfacemap/model/Finding$Rule" "PATH_VARIABLE" "Lcom/example/surfacemap/surfacemap/model/Finding$Rule;" (.ref w13)) (S_PATH_PARAMETER : Sta Z h0 "com/example/surfacemap/surfacemap/model/Finding$Rule" "PATH_PARAMETER" "Lcom/example/surfacemap/surfacemap/model/Finding$Rule;" (.ref w14)) (S_PARAMETER_LOCATION : Sta Z h0 "com/example/surfacemap/surfacemap/model/Finding$Rule" "PARAMETER_LOCATION" "Lcom/example/surfacemap/surfacemap/model/Finding$Rule;" (.ref w15)) (S_PARAMETER_ORDER : Sta Z h0 "com/example/surfacemap/surfacemap/model/Finding$Rule" "PARAMETER_ORDER" "Lcom/example/surfacemap/surfacemap/model/Finding$Rule;" (.ref w16)) (S_HTTP_METHOD : Sta Z h0 "com/example/surfacemap/surfacemap/model/Finding$Rule" "HTTP_METHOD" "Lcom/example/surfacemap/surfacemap/model/Finding$Rule;" (.ref w17)) (S_MEDIA_UPLOAD : Sta Z h0 "com/example/surfacemap/surfacemap/model/Finding$Rule" "MEDIA_UPLOAD" "Lcom/example/surfacemap/surfacemap/model/Finding$Rule;" (.ref w18)) (S_METHOD_ID : Sta Z h0 "com/example/surfacemap/surfacemap/model/Finding$Rule" "METHOD_ID" "Lcom/example/surfacemap/surfacemap/model/Finding$Rule;" (.ref w19)) (S_ENUM_LENGTH : Sta Z h0 "com/example/surfacemap/surfacemap/model/Finding$Rule" "ENUM_LENGTH" "Lcom/example/surfacemap/surfacemap/model/Finding$Rule;" (.ref w20)) (S_ANNOTATION_METHOD : Sta Z h0 "com/example/surfacemap/surfacemap/model/Finding$Rule" "ANNOTATION_METHOD" "Lcom/example/surfacemap/surfacemap/model/Finding$Rule;" (.ref w21)) (S_TYPE : Sta Z h0 "com/example/surfacemap/surfacemap/model/Finding$Rule" "TYPE" "Lcom/example/surfacemap/surfacemap/model/Finding$Rule;" (.ref w22)) (S_SHAPE : Sta Z h0 "com/example/surfacemap/surfacemap/model/Finding$Rule" "SHAPE" "Lcom/example/surfacemap/surfacemap/model/Finding$Rule;" (.ref w23)) (S_LABEL : Sta Z h0 "com/example/surfacemap/surfacemap/model/Finding$Rule" "LABEL" "Lcom/example/surfacemap/surfacemap/model/Finding$Rule;" (.ref w24)) (S_PARAMETER_ORDER_MISSING : Sta Z h0 "com/example/surfacemap/surfacemap/model/Finding$Rule" "PARAMETER_ORDER_MISSING" "Lcom/example/surfacemap/surfacemap/model/Finding$Rule;" (.ref w25)) (A_w0 : Exa Z h0 w0 "com/example/surfacemap/surfacemap/model/Finding$Rule") (A_w1 : Exa Z h0 w1 "com/example/surfacemap/surfacemap/model/Finding$Rule") (A_w2 : Exa Z h0 w2 "com/example/surfacemap/surfacemap/model/Finding$Rule") (A_w3 : Exa Z h0 w3 "com/example/surfacemap/surfacemap/model/Finding$Rule") (A_w4 : Exa Z h0 w4 "com/example/surfacemap/surfacemap/model/Finding$Rule") (A_w5 : Exa Z h0 w5 "com/example/surfacemap/surfacemap/model/Finding$Rule") (A_w6 : Exa Z h0 w6 "com/example/surfacemap/surfacemap/model/Finding$Rule") (A_w7 : Exa Z h0 w7 "com/example/surfacemap/surfacemap/model/Finding$Rule") (A_w8 : Exa Z h0 w8 "com/example/surfacemap/surfacemap/model/Finding$Rule") (A_w9 : Exa Z h0 w9 "com/example/surfacemap/surfacemap/model/Finding$Rule") (A_w10 : Exa Z h0 w10 "com/example/surfacemap/surfacemap/model/Finding$Rule") (A_w11 : Exa Z h0 w11 "com/example/surfacemap/surfacemap/model/Finding$Rule") (A_w12 : Exa Z h0 w12 "com/example/surfacemap/surfacemap/model/Finding$Rule") (A_w13 : Exa Z h0 w13 "com/example/surfacemap/surfacemap/model/Finding$Rule") (A_w14 : Exa Z h0 w14 "com/example/surfacemap/surfacemap/model/Finding$Rule") (A_w15 : Exa Z h0 w15 "com/example/surfacemap/surfacemap/model/Finding$Rule") (A_w16 : Exa Z h0 w16 "com/example/surfacemap/surfacemap/model/Finding$Rule") (A_w17 : Exa Z h0 w17 "com/example/surfacemap/surfacemap/model/Finding$Rule") (A_w18 : Exa Z h0 w18 "com/example/surfacemap/surfacemap/model/Finding$Rule") (A_w19 : Exa Z h0 w19 "com/example/surfacemap/surfacemap/model/Finding$Rule") (A_w20 : Exa Z h0 w20 "com/example/surfacemap/surfacemap/model/Finding$Rule") (A_w21 : Exa Z h0 w21 "com/example/surfacemap/surfacemap/model/Finding$Rule") (A_w22 : Exa Z h0 w22 "com/example/surfacemap/surfacemap/model/Finding$Rule") (A_w23 : Exa Z h0 w23 "com/example/surfacemap/surfacemap/model/Finding$Rule") (A_w24 : Exa Z h0 w24 "com/example/surfacemap/surfacemap/model/Finding$Rule") (A_w25 : Exa Z h0 w25 "com/example/surfacemap/surfacemap/model/Finding$Rule") (sgC : Sta Z h0 "java/lang/String" "COMPACT_STRINGS" "Z" (.int cz)) (hcz : ¬ (cz = 0)) (hTh : ThS Z h0) (hTwo : ∀ d ∈ twoRefs, d.before a0 Z = true) (hlT : l.stackTraces = true) :
  MetHK l Z x code maxLocals ret room_1 ws #[(.int x0), (.int x1), (.int x2), (.int x3)] h0 (Q_rm_law Z x0 x1 x2 x3 w0 w1 w2 w3 w4 w5 w6 w7 w8 w9 w10 w11 w12 w13 w14 w15 w16 w17 w18 w19 w20 w21 w22 w23 w24 w25 cz h0 n0) := by
 refine own_metHK (plainFor_of_name own_pn8) ?_
 intro p e s m below meth c s₁ hret hx hby hlk hml hown hnm X0 e0 hZ hh hC0 hTK hBelow
 have N0 := Fr.nil n0
 have hZk := hZ
 have hS : s.Since s.vm h0.size := (State.WarmedH.refl s).since _
 have hk : h0.size ≤ h0.size := Nat.le_refl _
 replace hZ : Z.Warmed39 (s.setVm s.vm).vm := hZ
 have hR : CHr Z consts_1 s.vm h0 s.vm h0 := CHr.refl hC0
 refine Gz (castTop (own_ef_rm_law m x0 x1 x2 x3)) ?_
 show Goes _ _ _ _ _ (fT s₁ m 0 #[vi x0, vi x1, vi x2, vi x3, vu, vu, vu, vu, vu] [])
 refine gN X0 hx hby at_0 rfl rfl ?_
 refine cSg X0 hx hZ hw hown hby hml e0 mN24 0 1 3 2 0 (rm_pick l Z a0 hw [] x0 w0 w1 w2 w3 w4 w5 w6 w7 w8 w9 w10 w11 w12 w13 w14 w15 w16 w17 w18 w19 w20 w21 w22 w23 w24 w25 h0 n0 Z0 S_JSON_SYNTAX S_JSON_DEPTH S_JSON_LIMIT S_JSON_DUPLICATE_KEY S_JSON_ENCODING S_KIND S_DISCOVERY_VERSION S_PROTOCOL S_REQUIRED_FIELD S_URL_SEGMENT S_SCHEMA_ID S_REF S_TEMPLATE S_PATH_VARIABLE S_PATH_PARAMETER S_PARAMETER_LOCATION S_PARAMETER_ORDER S_HTTP_METHOD S_MEDIA_UPLOAD S_METHOD_ID S_ENUM_LENGTH S_ANNOTATION_METHOD S_TYPE S_SHAPE S_LABEL S_PARAMETER_ORDER_MISSING A_w0 A_w1 A_w2 A_w3 A_w4 A_w5 A_w6 A_w7 A_w8 A_w9 A_w10 A_w11 A_w12 A_w13 A_w14 A_w15 A_w16 A_w17 A_w18 A_w19 A_w20 A_w21 A_w22 A_w23 A_w24 A_w25) at_1 (lenOf own_pd19 rfl) (fun _ T1 L1 X1 hQ1 => ?_)
 obtain ⟨r1, rfl, N1q, K1, A_r1_1'⟩ := hQ1
 have N1 := Fr.app N0 N1q
 replace sgC := own_staK sgC K1 all0
 replace hR := hR.trans (CHr.keep K1 all0 hR.1)
 replace hTh := ThS.keep K1 all0 hTh
 replace Z0 := Nat.le_trans Z0 K1.1
 replace hk := Nat.le_trans hk K1.1
 have A_r1 := A_r1_1'
 show Goes _ _ _ _ _ (fT T1 m 4 #[vi x0, vi x1, vi x2, vi x3, vu, vu, vu, vu, vu] [(.ref r1)])
 refine Gz (XS.astore X1.here hx rfl (hb hby at_4) rfl rfl (l' := #[vi x0, vi x1, vi x2, vi x3, vr r1, vu, vu, vu, vu]) rfl) ?_
 refine gN X1 hx hby at_6 rfl rfl ?_
 refine gN X1 hx hby at_7 rfl rfl ?_
 refine gC X1 hx hby at_8 ?_
 show Goes _ _ _ _ _ (fT T1 m 9 #[vi x0, vi x1, vi x2, vi x3, vr r1, vu, vu, vu, vu] [(.int 3), (.int x3), (.int x1)])
 refine Gz (XS.iand X1.here hx rfl (hb hby at_9) rfl) ?_
 show Goes _ _ _ _ _ (fT T1 m 10 #[vi x0, vi x1, vi x2, vi x3, vr r1, vu, vu, vu, vu] [(.int (x3 &&& 3)), (.int x1)])
 obtain ⟨_, _, ⟨T2, L2, k2, n2⟩, -, X2, hS2, gr2, ⟨Lc2, hQ2, l2, y2, z2, hC2⟩, st2⟩ := callSS X1 hx (y := mN23) hown (gz hZ hw 61 rfl) (gz hZ hw 62 rfl) (gz hZ hw 2 rfl) (gz hZ hw 63 rfl) (by decide) (backOfSH (W := 0) (rm_str l Z a0 hw [] x1 (x3 &&& 3) cz T1.heap n0 Z0 sgC hcz) hZ (gw hw 63 rfl) (gw hw 2 rfl) (by decide) (by decide) (own_EW hw) hR.1) (g := (mkF m 10 #[vi x0, vi x1, vi x2, vi x3, vr r1, vu, vu, vu, vu] [(.int (x3 &&& 3)), (.int x1)])) rfl hml.symm (argsL := [(.int x1), (.int (x3 &&& 3))]) (rest := []) (lenOf own_pd20 rfl) rfl (wz rfl) (hb hby at_10) (fun _ _ => ⟨rfl, rfl, (by decide : 1 + 6 ≤ _), (by decide : 26 + 12 ≤ _)⟩)
 dsimp only [Pt.U, Pt.locs, Pt.cells, Pt.slots] at X2 l2 y2 z2 st2 hQ2 hS2 gr2 hC2
 subst l2 y2 z2
 obtain ⟨X2, hS, hZ, hown⟩ := rebS hS hk X2 hS2 gr2 hZ hown
 replace hk : T2.heap.size ≤ T2.heap.size := Nat.le_refl _
 obtain ⟨r2, rfl, N2q, K2, Sv_r2_2'⟩ := hQ2
 have N2 := Fr.app N1 N2q
 replace hR := hR.trans hC2
 replace sgC := own_staK sgC K2 all0
 replace hTh := ThS.keep K2 all0 hTh
 replace A_r1 := A_r1.keep K2
 replace Z0 := Nat.le_trans Z0 K2.1
 have Sv_r2 := Sv_r2_2'
 refine Gs (fun _ tk => st2.trans tk) ?_
 show Goes _ _ _ _ _ (fT T2 m 13 #[vi x0, vi x1, vi x2, vi x3, vr r1, vu, vu, vu, vu] [r2])
 have r_r2 := Sv_r2.isRef
 refine Gz (XS.astore X2.here hx rfl (hb hby at_13) rfl (by assumption) (l' := #[vi x0, vi x1, vi x2, vi x3, vr r1, .val r2, vu, vu, vu]) (by rcases Jvm.Free.XT.refc r_r2 with q | ⟨y, q⟩ <;> subst q <;> rfl)) ?_
 refine gN X2 hx hby at_15 rfl rfl ?_
 refine gN X2 hx hby at_16 rfl rfl ?_
 refine gC X2 hx hby at_17 ?_
 show Goes _ _ _ _ _ (fT T2 m 18 #[vi x0, vi x1, vi x2, vi x3, vr r1, .val r2, vu, vu, vu] [(.int 2), (.int x3), (.int x2)])
 refine Gz (XS.iushr X2.here hx rfl (hb hby at_18) rfl) ?_
 show Goes _ _ _ _ _ (fT T2 m 19 #[vi x0, vi x1, vi x2, vi x3, vr r1, .val r2, vu, vu, vu] [(.int ((x3.toUInt32 >>> ((2 : Int32) &&& 31).toUInt32).toInt32)), (.int x2)])
 refine gC X2 hx hby at_19 ?_
 show Goes _ _ _ _ _ (fT T2 m 20 #[vi x0, vi x1, vi x2, vi x3, vr r1, .val r2, vu, vu, vu] [(.int 3), (.int ((x3.toUInt32 >>> ((2 : Int32) &&& 31).toUInt32).toInt32)), (.int x2)])
 refine Gz (XS.iand X2.here hx rfl (hb hby at_20) rfl) ?_
 show Goes _ _ _ _ _ (fT T2 m 21 #[vi x0, vi x1, vi x2, vi x3, vr r1, .val r2, vu, vu, vu] [(.int (((x3.toUInt32 >>> ((2 : Int32) &&& 31).toUInt32).toInt32) &&& (3 : Int32))), (.int x2)])
 obtain ⟨_, _, ⟨T3, L3, k3, n3⟩, -, X3, hS3, gr3, ⟨Lc3, hQ3, l3, y3, z3, hC3⟩, st3⟩ := callSS X2 hx (y := mN23) hown (gz hZ hw 61 rfl) (gz hZ hw 62 rfl) (gz hZ hw 2 rfl) (gz hZ hw 63 rfl) (by decide) (backOfSH (W := 0) (rm_str l Z a0 hw [] x2 (((x3.toUInt32 >>> ((2 : Int32) &&& 31).toUInt32).toInt32) &&& (3 : Int32)) cz T2.heap n0 Z0 sgC hcz) hZ (gw hw 63 rfl) (gw hw 2 rfl) (by decide) (by decide) (own_EW hw) hR.1) (g := (mkF m 21 #[vi x0, vi x1, vi x2, vi x3, vr r1, .val r2, vu, vu, vu] [(.int (((x3.toUInt32 >>> ((2 : Int32) &&& 31).toUInt32).toInt32) &&& (3 : Int32))), (.int x2)])) rfl hml.symm (argsL := [(.int x2), (.int (((x3.toUInt32 >>> ((2 : Int32) &&& 31).toUInt32).toInt32) &&& (3 : Int32)))]) (rest := []) (lenOf own_pd20 rfl) rfl (wz rfl) (hb hby at_21) (fun _ _ => ⟨rfl, rfl, (by decide : 7 + 6 ≤ _), (by decide : 38 + 12 ≤ _)⟩)
 dsimp only [Pt.U, Pt.locs, Pt.cells, Pt.slots] at X3 l3 y3 z3 st3 hQ3 hS3 gr3 hC3
 subst l3 y3 z3
 obtain ⟨X3, hS, hZ, hown⟩ := rebS hS hk X3 hS3 gr3 hZ hown
 replace hk : T3.heap.size ≤ T3.heap.size := Nat.le_refl _
 obtain ⟨r3, rfl, N3q, K3, Sv_r3_3'⟩ := hQ3
 have N3 := Fr.app N2 N3q
 replace hR := hR.trans hC3
 replace hTh := ThS.keep K3 all0 hTh
 replace A_r1 := A_r1.keep K3
 replace Sv_r2 := Sv_r2.keep K3
 replace Z0 := Nat.le_trans Z0 K3.1
 have Sv_r3 := Sv_r3_3'
 refine Gs (fun _ tk => st3.trans tk) ?_
 show Goes _ _ _ _ _ (fT T3 m 24 #[vi x0, vi x1, vi x2, vi x3, vr r1, .val r2, vu, vu, vu] [r3])
 have r_r3 := Sv_r3.isRef
 refine Gz (XS.astore X3.here hx rfl (hb hby at_24) rfl (by assumption) (l' := #[vi x0, vi x1, vi x2, vi x3, vr r1, .val r2, .val r3, vu, vu]) (by rcases Jvm.Free.XT.refc r_r3 with q | ⟨y, q⟩ <;> subst q <;> rfl)) ?_
 obtain ⟨T4, h4, X4, e4, E4, A4, D4, U4, st4⟩ := newO X3 hx hZ hown (gw hw 86 rfl) (gw hw 87 rfl) (gw hw 88 rfl) rfl (g := (mkF m 26 #[vi x0, vi x1, vi x2, vi x3, vr r1, .val r2, .val r3, vu, vu] [])) rfl (hb hby at_26) (by decide) (by decide)
 obtain ⟨b4, gq4⟩ : ∃ z, z = T3.heap.size := ⟨_, rfl⟩
 rw [← gq4] at A4 st4 D4 U4
 have g_b4 : n0 ≤ b4 := by rw [gq4]; exact Z0
 have ne_r1_b4 : r1 ≠ b4 := by rw [gq4]; exact Nat.ne_of_lt A_r1.lt
 have Sf_b4 : Safe Z consts_1 T3.vm T3.heap b4 := Safe.new (Nat.le_of_eq gq4.symm)
 replace Sf_b4 := Safe.ext E4 hR.1 Sf_b4
 replace hR := hR.trans (CHr.ext E4 hR.1)
 replace hTh := ThS.ext E4 hTh
 replace A_r1 := A_r1.ext E4
 replace Sv_r2 := Sv_r2.ext E4
 replace Sv_r3 := Sv_r3.ext E4
 replace Z0 : n0 ≤ h4.size := Nat.le_trans Z0 E4.1
 replace hk := Nat.le_trans hk E4.1
 have A_b4 : Exa Z h4 b4 "com/example/surfacemap/surfacemap/model/DocumentException" := A4
 have F_cause_b4 : Fld Z h4 b4 "java/lang/Throwable" "cause" "Ljava/lang/Throwable;" .null := D4 (Or.inl (gw hw 105 rfl)) (ty := (.object "java/lang/Throwable")) (by decide)
 have F_stackTrace_b4 : Fld Z h4 b4 "java/lang/Throwable" "stackTrace" "[Ljava/lang/StackTraceElement;" .null := D4 (Or.inl (gw hw 108 rfl)) (ty := (.array (.object "java/lang/StackTraceElement"))) (by decide)
 have F_suppressedExceptions_b4 : Fld Z h4 b4 "java/lang/Throwable" "suppressedExceptions" "Ljava/util/List;" .null := D4 (Or.inl (gw hw 111 rfl)) (ty := (.object "java/util/List")) (by decide)
 have F_detailMessage_b4 : Fld Z h4 b4 "java/lang/Throwable" "detailMessage" "Ljava/lang/String;" .null := D4 (Or.inl (gw hw 135 rfl)) (ty := (.object "java/lang/String")) (by decide)
 have F_backtrace_b4 : Fld Z h4 b4 "java/lang/Throwable" "backtrace" "Ljava/lang/Object;" .null := D4 (Or.inl (gw hw 136 rfl)) (ty := (.object "java/lang/Object")) (by decide)
 have F_rule_b4 : Fld Z h4 b4 "com/example/surfacemap/surfacemap/model/DocumentException" "rule" "Lcom/example/surfacemap/surfacemap/model/Finding$Rule;" .null := D4 (Or.inr (gw hw 146 rfl)) (ty := (.object "com/example/surfacemap/surfacemap/model/Finding$Rule")) (by decide)
 have F_location_b4 : Fld Z h4 b4 "com/example/surfacemap/surfacemap/model/DocumentException" "location" "Ljava/lang/String;" .null := D4 (Or.inr (gw hw 148 rfl)) (ty := (.object "java/lang/String")) (by decide)
 have Un_b4 : Unt h4 b4 := U4
 refine Gs st4 ?_
 show Goes _ _ _ _ _ (fT T4 m 29 #[vi x0, vi x1, vi x2, vi x3, vr r1, .val r2, .val r3, vu, vu] [(.ref b4)])
 refine Gz (XS.dup X4.here hx rfl (hb hby at_29) rfl rfl) ?_
 refine Gz (XS.aload X4.here hx rfl (hb hby at_30) rfl rfl) ?_
 refine Gz (XS.aload X4.here hx rfl (hb hby at_32) rfl (by assumption)) ?_
 refine Gz (XS.aload X4.here hx rfl (hb hby at_34) rfl (by assumption)) ?_
 obtain ⟨_, _, ⟨T5, L5, k5, n5⟩, -, X5, ⟨Lc5, hQ5, l5, y5, z5⟩, st5⟩ := X4.specialBack hx (y := mN29) rfl hown (gz hZ hw 89 rfl) (gz hZ hw 90 rfl) (gz hZ hw 91 rfl) (by decide) (backOfKL (W := 1) (rm_dx l Z a0 hw [] b4 r1 r2 r3 h4 n0 Z0 A_b4 F_cause_b4 F_stackTrace_b4 F_suppressedExceptions_b4 F_detailMessage_b4 F_backtrace_b4 F_rule_b4 F_location_b4 A_r1 ne_r1_b4 g_b4 Un_b4 hTh hTwo hlT r_r2 r_r3) hZ (gw hw 91 rfl) (gw hw 88 rfl) (by decide) (by decide) (Vm.MethodsKnown.alikeC (hZk.alike.symm.trans hZ.alike) hTK) (Vm.FramesKnown.alikeC (hZk.alike.symm.trans hZ.alike) hBelow)) (g := (mkF m 36 #[vi x0, vi x1, vi x2, vi x3, vr r1, .val r2, .val r3, vu, vu] [r3, r2, (.ref r1), (.ref b4), (.ref b4)])) rfl hml.symm (Steps.refl _) (a := b4) (argsL := [(.ref r1), r2, r3]) (rest := [(.ref b4)]) (lenOf own_pd16 rfl) rfl (wz rfl) (hb hby at_36) (fun _ _ => ⟨rfl, e4, (by decide : 14 + 1 ≤ _), (by decide : 58 + 2752 ≤ _)⟩)
 dsimp only [Pt.U, Pt.locs, Pt.cells, Pt.slots] at X5 l5 y5 z5 st5 hQ5
 subst l5 y5 z5
 obtain ⟨rfl, N5q, K5, FR5, FO5, FD5⟩ := hQ5
 have N5 := Fr.app N3 N5q
 replace hR := hR.trans (CHr.keep K5 (allS Sf_b4 all0) hR.1)
 replace A_r1 := A_r1.keep K5
 replace Sv_r2 := Sv_r2.keep K5
 replace Sv_r3 := Sv_r3.keep K5
 replace A_b4 := A_b4.keep K5
 replace Z0 := Nat.le_trans Z0 K5.1
 replace hk := Nat.le_trans hk K5.1
 have F_rule_b4 := FR5
 have F_location_b4 := FO5
 have F_detailMessage_b4 := FD5
 refine Gs (fun _ tk => st5.trans tk) ?_
 show Goes _ _ _ _ _ (fT T5 m 39 #[vi x0, vi x1, vi x2, vi x3, vr r1, .val r2, .val r3, vu, vu] [(.ref b4)])
 refine Gz (XS.astore X5.here hx rfl (hb hby at_39) rfl rfl (l' := #[vi x0, vi x1, vi x2, vi x3, vr r1, .val r2, .val r3, vr b4, vu]) rfl) ?_
 refine Gz (XS.aload X5.here hx rfl (hb hby at_41) rfl rfl) ?_
 refine cSg X5 hx hZ hw hown hby hml rfl mN26 149 150 152 151 0 (rm_of l Z a0 hw [] b4 r1 r2 r3 T5.heap n0 Z0 A_b4 F_rule_b4 F_location_b4 F_detailMessage_b4 A_r1 (by first | assumption | decide) (by first | assumption | decide)) at_43 (lenOf own_pd21 rfl) (fun _ T6 L6 X6 hQ6 => ?_)
 obtain ⟨f6, rfl, N6q, K6, A_f6_6', F_rule_f6_6', F_location_f6_6', F_message_f6_6'⟩ := hQ6
 have N6 := Fr.app N5 N6q
 replace hR := hR.trans (CHr.keep K6 all0 hR.1)
 replace Sv_r2 := Sv_r2.keep K6
 replace Sv_r3 := Sv_r3.keep K6
 replace Z0 := Nat.le_trans Z0 K6.1
 replace hk := Nat.le_trans hk K6.1
 have A_f6 := A_f6_6'
 have F_rule_f6 := F_rule_f6_6'
 have F_location_f6 := F_location_f6_6'
 have F_message_f6 := F_message_f6_6'
 show Goes _ _ _ _ _ (fT T6 m 46 #[vi x0, vi x1, vi x2, vi x3, vr r1, .val r2, .val r3, vr b4, vu] [(.ref f6)])
 refine Gz (XS.astore X6.here hx rfl (hb hby at_46) rfl rfl (l' := #[vi x0, vi x1, vi x2, vi x3, vr r1, .val r2, .val r3, vr b4, vr f6]) rfl) ?_
 refine Gz (XS.aload X6.here hx rfl (hb hby at_48) rfl rfl) ?_
 refine Gz (XS.ifnullNo X6.here hx rfl (hb hby at_50) rfl) ?_
 refine Gz (XS.aload X6.here hx rfl (hb hby at_53) rfl rfl) ?_
 refine cV X6 hx hZ hw hown hby hml rfl mN8 209 210 212 211 213 151 0 (rm_grule l Z a0 hw [] f6 r1 T6.heap n0 Z0 F_rule_f6) A_f6 at_55 (lenOf own_pd22 rfl) N6 (fun T7 L7 X7 e7 N7 => ?_)
 show Goes _ _ _ _ _ (fT T7 m 58 #[vi x0, vi x1, vi x2, vi x3, vr r1, .val r2, .val r3, vr b4, vr f6] [(.ref r1)])
 refine Gz (XS.aload X7.here hx rfl (hb hby at_58) rfl rfl) ?_
 refine Gs (fun _ tk => Jvm.RoadKit.acmp (g := (mkF m 60 #[vi x0, vi x1, vi x2, vi x3, vr r1, .val r2, .val r3, vr b4, vr f6] [(.ref r1), (.ref r1)])) X7 hx rfl rfl rfl (pc0 := 60) (pc' := 63) (same := true) rfl (hb hby at_60) rfl (decide_eq_true (congrArg Value.ref rfl)) (by decide) (by decide) tk) ?_
 refine Gz (XS.aload X7.here hx rfl (hb hby at_63) rfl rfl) ?_
 refine cV X7 hx hZ hw hown hby hml e7 mN9 214 215 217 216 218 151 0 (rm_gloc l Z a0 hw [] f6 r2 T6.heap n0 Z0 F_location_f6 (by first | assumption | decide)) A_f6 at_65 (lenOf own_pd15 rfl) N7 (fun T8 L8 X8 e8 N8 => ?_)
 show Goes _ _ _ _ _ (fT T8 m 68 #[vi x0, vi x1, vi x2, vi x3, vr r1, .val r2, .val r3, vr b4, vr f6] [r2])
 refine Gz (XS.aload X8.here hx rfl (hb hby at_68) rfl (by assumption)) ?_
 refine cS X8 hx hZ hw hown hby hml e8 mN18 219 220 221 2 0 (rm_sm l Z a0 hw [] r2 T6.heap n0 Z0 Sv_r2 (by first | assumption | decide)) at_70 (lenOf own_pd23 rfl) N8 (fun T9 L9 X9 e9 N9 => ?_)
 show Goes _ _ _ _ _ (fT T9 m 73 #[vi x0, vi x1, vi x2, vi x3, vr r1, .val r2, .val r3, vr b4, vr f6] [(.int 1)])
 refine gu X9 hx hby at_73 ((if0 _ _).trans (feq (by decide : ¬ ((1 : Int32) = (0 : Int32)))).1) ?_
 refine Gz (XS.aload X9.here hx rfl (hb hby at_76) rfl rfl) ?_
 refine cV X9 hx hZ hw hown hby hml e9 mN10 227 228 230 229 231 151 0 (rm_gmsg l Z a0 hw [] f6 r3 T6.heap n0 Z0 F_message_f6 (by first | assumption | decide)) A_f6 at_78 (lenOf own_pd15 rfl) N9 (fun T10 L10 X10 e10 N10 => ?_)
 show Goes _ _ _ _ _ (fT T10 m 81 #[vi x0, vi x1, vi x2, vi x3, vr r1, .val r2, .val r3, vr b4, vr f6] [r3])
 refine Gz (XS.aload X10.here hx rfl (hb hby at_81) rfl (by assumption)) ?_
 refine cS X10 hx hZ hw hown hby hml e10 mN18 219 220 221 2 0 (rm_sm l Z a0 hw [] r3 T6.heap n0 Z0 Sv_r3 (by first | assumption | decide)) at_83 (lenOf own_pd23 rfl) N10 (fun T11 L11 X11 e11 N11 => ?_)
 show Goes _ _ _ _ _ (fT T11 m 86 #[vi x0, vi x1, vi x2, vi x3, vr r1, .val r2, .val r3, vr b4, vr f6] [(.int 1)])
 refine gu X11 hx hby at_86 ((if0 _ _).trans (feq (by decide : ¬ ((1 : Int32) = (0 : Int32)))).1) ?_
 refine gC X11 hx hby at_89 ?_
 refine gG X11 hx hby at_90 90 94 ?_
 refine Goes.retH X11 hS e11 hk hZ (own_EW hw) hh hR (some (.int 1)) (fun h => by rw [hret] at h; cases h) hlk (by decide) (by decide) ?_ (fun fs hr => ?_)
 ·rw [e11]; exact ⟨rfl, N11⟩
 ·exact own_retN X11 hx (t := .boolean) hret (by simp) rfl (hb hby at_94) hr
theorem comes_1 {Post : Tables → Env → Array Value → State → Outcome → State → Prop} (hpost : ∀ tb e args s v u, (limb_1_1.after args s (.returned v) u = true ∧ limb_1_2.after args s (.returned v) u = true ∧ True) → ReturnedEndW s (.returned v) u (Jvm.fieldLocs frame_1_writes args s ++ Jvm.arrayLocs frame_1_arrays args s ++ Jvm.staticLocs frame_1_statics s) 40 6720 → Post tb e args s (.returned v) u) :
  ArmFor flags0 classFile x code maxLocals ret World_1 tables_1 room_1 Calls_1 rest_1 Pre_1 Post := by
 intro l hfl _ _ p e ha hc hk s m args below hf hA hF happ hP
 obtain ⟨hcalls, hrest, hpre⟩ := hP
 obtain ⟨-, -, -, hnamed, -, -, -, hat⟩ := (Spec.applies_iff hf).mp happ
 obtain ⟨hg, hn⟩ := and_e (Cond.before_iff.mp (show (Jvm.Cond.and given_1 narrow_1).before args s = true from hpre))
 obtain ⟨g0, hg0⟩ := and_e hg
 obtain ⟨ga0, hg0'⟩ := and_e hg0
 obtain ⟨ga1, hg0''⟩ := and_e hg0'
 obtain ⟨ga2, hg0'''⟩ := and_e hg0''
 obtain ⟨w0, w1, w2, w3, rfl⟩ : ∃ w0 w1 w2 w3 : Value, args = #[w0, w1, w2, w3] := by
  have hs : args.size = 4 := by simpa [Cond.value, given_1] using g0
  obtain ⟨L⟩ := args
  match L, hs with
  | [w0, w1, w2, w3], _ => exact ⟨w0, w1, w2, w3, rfl⟩
 have hw := fun d (hd : d ∈ tables_1) => atoms_spec (ws := Jvm.Cond.code x code maxLocals ret :: tables_1) hat d (List.mem_cons_of_mem _ hd)
 have hfit : Fit s := fun {y c} hc i hi => by
  obtain ⟨ha, rfl⟩ := Array.getElem?_eq_some_iff.mp hc
  have q := List.all_eq_true.mp ((Array.all_eq_true_iff_forall_mem.mp hF) _ (Array.getElem_mem ha)) i (List.mem_range.mpr hi)
  simpa [Array.getElem?_eq_getElem hi] using q
 obtain ⟨hsets, hown0⟩ := atoms_of _ (rest_1_c_eq ▸ (show rest_1_c.before _ s = true from hrest))
 have hr0 := Cond.before_iff.mp hown0
 obtain ⟨i0, ei0⟩ := is_v ga0
 obtain rfl : w0 = (.int i0) := Option.some.inj ei0
 obtain ⟨i1, ei1⟩ := is_v ga1
 obtain rfl : w1 = (.int i1) := Option.some.inj ei1
 obtain ⟨i2, ei2⟩ := is_v ga2
 obtain rfl : w2 = (.int i2) := Option.some.inj ei2
 obtain ⟨i3, ei3⟩ := is_v hg0'''
 obtain rfl : w3 = (.int i3) := Option.some.inj ei3
 obtain ⟨cz, evc⟩ := is_v (Cond.before_iff.mp (hsets _ (List.mem_of_getElem? (i := 21) rfl)))
 have S_c := Sta.start evc (Or.inl (hsets _ (List.mem_of_getElem? (i := 20) rfl)))
 have hcz : ¬ (cz = 0) := gotF (Cond.eq_ints evc rfl) (not_v (Cond.before_iff.mp (hsets _ (List.mem_of_getElem? (i := 22) rfl))))
 obtain ⟨cx0, hn'⟩ := and_e hn
 obtain ⟨cx1, hn''⟩ := and_e hn'
 obtain ⟨cx2, hn'''⟩ := and_e hn''
 obtain ⟨cx3, hn''''⟩ := and_e hn'''
 obtain ⟨cx4, hn'''''⟩ := and_e hn''''
 obtain ⟨cx5, hn''''''⟩ := and_e hn'''''
 obtain ⟨cx6, hn'''''''⟩ := and_e hn''''''
 obtain ⟨cx7, hn''''''''⟩ := and_e hn'''''''
 obtain ⟨cx8, hn'''''''''⟩ := and_e hn''''''''
 obtain ⟨cx9, hn''''''''''⟩ := and_e hn'''''''''
 obtain ⟨cx10, hn'''''''''''⟩ := and_e hn''''''''''
 obtain ⟨cx11, hn''''''''''''⟩ := and_e hn'''''''''''
 obtain ⟨cx12, hn'''''''''''''⟩ := and_e hn''''''''''''
 obtain ⟨cx13, hn''''''''''''''⟩ := and_e hn'''''''''''''
 obtain ⟨cx14, hn'''''''''''''''⟩ := and_e hn''''''''''''''
 obtain ⟨cx15, hn''''''''''''''''⟩ := and_e hn'''''''''''''''
 obtain ⟨cx16, hn'''''''''''''''''⟩ := and_e hn''''''''''''''''
 obtain ⟨cx17, hn''''''''''''''''''⟩ := and_e hn'''''''''''''''''
 obtain ⟨cx18, hn'''''''''''''''''''⟩ := and_e hn''''''''''''''''''
 obtain ⟨cx19, hn''''''''''''''''''''⟩ := and_e hn'''''''''''''''''''
 obtain ⟨cx20, hn'''''''''''''''''''''⟩ := and_e hn''''''''''''''''''''
 obtain ⟨cx21, hn''''''''''''''''''''''⟩ := and_e hn'''''''''''''''''''''
 obtain ⟨cx22, hn'''''''''''''''''''''''⟩ := and_e hn''''''''''''''''''''''
 obtain ⟨cx23, hn''''''''''''''''''''''''⟩ := and_e hn'''''''''''''''''''''''
 obtain ⟨cx24, hn'''''''''''''''''''''''''⟩ := and_e hn''''''''''''''''''''''''
 have cx25 := hn'''''''''''''''''''''''''
 obtain ⟨w0_, ev0⟩ := exa_v cx0
 have S0 := Sta.start ev0 (Or.inr ⟨(gw hw 7 rfl), (gw hw 8 rfl)⟩)
 have A0 := Exa.start ev0 cx0
 obtain ⟨w1_, ev1⟩ := exa_v cx1
 have S1 := Sta.start ev1 (Or.inr ⟨(gw hw 7 rfl), (gw hw 11 rfl)⟩)
 have A1 := Exa.start ev1 cx1
 obtain ⟨w2_, ev2⟩ := exa_v cx2
 have S2 := Sta.start ev2 (Or.inr ⟨(gw hw 7 rfl), (gw hw 13 rfl)⟩)
 have A2 := Exa.start ev2 cx2
 obtain ⟨w3_, ev3⟩ := exa_v cx3
 have S3 := Sta.start ev3 (Or.inr ⟨(gw hw 7 rfl), (gw hw 15 rfl)⟩)
 have A3 := Exa.start ev3 cx3
 obtain ⟨w4_, ev4⟩ := exa_v cx4
 have S4 := Sta.start ev4 (Or.inr ⟨(gw hw 7 rfl), (gw hw 17 rfl)⟩)
 have A4 := Exa.start ev4 cx4
 obtain ⟨w5_, ev5⟩ := exa_v cx5
 have S5 := Sta.start ev5 (Or.inr ⟨(gw hw 7 rfl), (gw hw 19 rfl)⟩)
 have A5 := Exa.start ev5 cx5
 obtain ⟨w6_, ev6⟩ := exa_v cx6
 have S6 := Sta.start ev6 (Or.inr ⟨(gw hw 7 rfl), (gw hw 21 rfl)⟩)
 have A6 := Exa.start ev6 cx6
 obtain ⟨w7_, ev7⟩ := exa_v cx7
 have S7 := Sta.start ev7 (Or.inr ⟨(gw hw 7 rfl), (gw hw 23 rfl)⟩)
 have A7 := Exa.start ev7 cx7
 obtain ⟨w8_, ev8⟩ := exa_v cx8
 have S8 := Sta.start ev8 (Or.inr ⟨(gw hw 7 rfl), (gw hw 25 rfl)⟩)
 have A8 := Exa.start ev8 cx8
 obtain ⟨w9_, ev9⟩ := exa_v cx9
 have S9 := Sta.start ev9 (Or.inr ⟨(gw hw 7 rfl), (gw hw 27 rfl)⟩)
 have A9 := Exa.start ev9 cx9
 obtain ⟨w10_, ev10⟩ := exa_v cx10
 have S10 := Sta.start ev10 (Or.inr ⟨(gw hw 7 rfl), (gw hw 29 rfl)⟩)
 have A10 := Exa.start ev10 cx10
 obtain ⟨w11_, ev11⟩ := exa_v cx11
 have S11 := Sta.start ev11 (Or.inr ⟨(gw hw 7 rfl), (gw hw 31 rfl)⟩)
 have A11 := Exa.start ev11 cx11
 obtain ⟨w12_, ev12⟩ := exa_v cx12
 have S12 := Sta.start ev12 (Or.inr ⟨(gw hw 7 rfl), (gw hw 33 rfl)⟩)
 have A12 := Exa.start ev12 cx12
 obtain ⟨w13_, ev13⟩ := exa_v cx13
 have S13 := Sta.start ev13 (Or.inr ⟨(gw hw 7 rfl), (gw hw 35 rfl)⟩)
 have A13 := Exa.start ev13 cx13
 obtain ⟨w14_, ev14⟩ := exa_v cx14
 have S14 := Sta.start ev14 (Or.inr ⟨(gw hw 7 rfl), (gw hw 37 rfl)⟩)
 have A14 := Exa.start ev14 cx14
 obtain ⟨w15_, ev15⟩ := exa_v cx15
 have S15 := Sta.start ev15 (Or.inr ⟨(gw hw 7 rfl), (gw hw 39 rfl)⟩)
 have A15 := Exa.start ev15 cx15
 obtain ⟨w16_, ev16⟩ := exa_v cx16
 have S16 := Sta.start ev16 (Or.inr ⟨(gw hw 7 rfl), (gw hw 41 rfl)⟩)
 have A16 := Exa.start ev16 cx16
 obtain ⟨w17_, ev17⟩ := exa_v cx17
 have S17 := Sta.start ev17 (Or.inr ⟨(gw hw 7 rfl), (gw hw 43 rfl)⟩)
 have A17 := Exa.start ev17 cx17
 obtain ⟨w18_, ev18⟩ := exa_v cx18
 have S18 := Sta.start ev18 (Or.inr ⟨(gw hw 7 rfl), (gw hw 45 rfl)⟩)
 have A18 := Exa.start ev18 cx18
 obtain ⟨w19_, ev19⟩ := exa_v cx19
 have S19 := Sta.start ev19 (Or.inr ⟨(gw hw 7 rfl), (gw hw 47 rfl)⟩)
 have A19 := Exa.start ev19 cx19
 obtain ⟨w20_, ev20⟩ := exa_v cx20
 have S20 := Sta.start ev20 (Or.inr ⟨(gw hw 7 rfl), (gw hw 49 rfl)⟩)
 have A20 := Exa.start ev20 cx20
 obtain ⟨w21_, ev21⟩ := exa_v cx21
 have S21 := Sta.start ev21 (Or.inr ⟨(gw hw 7 rfl), (gw hw 51 rfl)⟩)
 have A21 := Exa.start ev21 cx21
 obtain ⟨w22_, ev22⟩ := exa_v cx22
 have S22 := Sta.start ev22 (Or.inr ⟨(gw hw 7 rfl), (gw hw 53 rfl)⟩)
 have A22 := Exa.start ev22 cx22
 obtain ⟨w23_, ev23⟩ := exa_v cx23
 have S23 := Sta.start ev23 (Or.inr ⟨(gw hw 7 rfl), (gw hw 55 rfl)⟩)
 have A23 := Exa.start ev23 cx23
 obtain ⟨w24_, ev24⟩ := exa_v cx24
 have S24 := Sta.start ev24 (Or.inr ⟨(gw hw 7 rfl), (gw hw 57 rfl)⟩)
 have A24 := Exa.start ev24 cx24
 obtain ⟨w25_, ev25⟩ := exa_v cx25
 have S25 := Sta.start ev25 (Or.inr ⟨(gw hw 7 rfl), (gw hw 59 rfl)⟩)
 have A25 := Exa.start ev25 cx25
 have hCH : CHv s consts_1 s.vm s.heap := CHv.start (own_EW hw) hcalls.2.2.1 (hsets _ (List.mem_of_getElem? (i := 22) rfl)) (gw hw 79 rfl) (gw hw 65 rfl)
 have hTwo : ∀ d ∈ twoRefs, d.before #[.int i0, .int i1, .int i2, .int i3] s = true := own_allC (P := fun d => d.before #[.int i0, .int i1, .int i2, .int i3] s = true) (hsets _ (List.mem_of_getElem? (i := 7) rfl)) (own_allC (hsets _ (List.mem_of_getElem? (i := 12) rfl)) own_allN)
 have hlT : l.stackTraces = true := by rw [Launch.stackTraces, hfl]; decide
 obtain ⟨n, o, h1, h2, h3, _, L, rfl, ⟨rfl, N⟩, hq⟩ := rm_law l s _ hw tables_1 i0 i1 i2 i3 w0_ w1_ w2_ w3_ w4_ w5_ w6_ w7_ w8_ w9_ w10_ w11_ w12_ w13_ w14_ w15_ w16_ w17_ w18_ w19_ w20_ w21_ w22_ w23_ w24_ w25_ cz s.heap s.heap.size (Nat.le_refl _) S0 S1 S2 S3 S4 S5 S6 S7 S8 S9 S10 S11 S12 S13 S14 S15 S16 S17 S18 S19 S20 S21 S22 S23 S24 S25 A0 A1 A2 A3 A4 A5 A6 A7 A8 A9 A10 A11 A12 A13 A14 A15 A16 A17 A18 A19 A20 A21 A22 A23 A24 A25 S_c hcz ThS.start hTwo hlT p e ha hc hk s m _ below hf ((Spec.applies_iff_loose hf).mp happ).1 ⟨rfl, State.Warmed39.refl s, rfl, hCH⟩ ⟨own_TK hcalls.2.1, own_FK hcalls.1 hf⟩
 refine ⟨n, _, h1, h2, h3, hpost _ _ _ _ _ _ ⟨Cond.after_iff.mpr rfl, Cond.after_iff.mpr (eq_i res_at (Term.int_eval (1)) rfl), trivial⟩ ⟨hq.2.1, hq.2.2.1, hq.2.2.2.1, (hq.2.2.2.2.sift fun y hy => Or.inr (N y hy)).mono (by decide) (by decide)⟩⟩
theorem main_1_1 : Claimed_1_1 := comes_1 fun _ _ _ _ _ _ h hF => ⟨h.1, hF⟩
theorem main_1_2 : Claimed_1_2 := comes_1 fun _ _ _ _ _ _ h hF => ⟨h.2.1, hF⟩
end Jvm.Pilot.@@N@@
namespace Jvm.Pilot.@@N@@
open Jvm Jvm.ClassFile Sem Op Lib Jvm.Free Jvm.Stand Jvm.Pilot.@@N@@.Jvm.D
/-! MADE BY PROGRAM (witnessworld.py) out of the Statement's table words and the real class files: 44 classes; the members and pool entries that the words name. The judged class is class 1, her method 1. -/
namespace start1
open Jvm.ClassFile
def u (s : String) : CpInfo := .utf8 (stringToUtf16 s)
/-- a pool by its gaps: so many unusable entries, then the entry; so many at the end -/
def gap : Nat → List CpInfo → List CpInfo
  | 0, r => r
  | n + 1, r => .unusable :: gap n r
def poolList (es : List (Nat × CpInfo)) (last : Nat) : List CpInfo := es.foldr (fun e r => gap e.1 (e.2 :: r)) (gap last [])
def pool (es : List (Nat × CpInfo)) (last : Nat) : Array CpInfo := ⟨poolList es last⟩
def fileOf (pool : Array CpInfo) (this : Nat) (attrs : Array Attribute := #[]) (ms : Array MethodInfo := #[]) (fl : Nat := 33) (sup : Nat := 0) (ifs : Array Nat := #[]) (fds : Array FieldInfo := #[]) : ClassFile where
  minorVersion := 0
  majorVersion := 65
  constantPool := pool
  accessFlags := fl
  thisClass := this
  superClass := sup
  interfaces := ifs
  fields := fds
  methods := ms
  attributes := attrs
def plain (name : String) (sup : Option ClassId) : Class where
  name := name
  kind := .ordinary
  loader := none
  accessFlags := 33
  super := sup
  interfaces := #[]
  cf := none
  fields := #[]
  methods := #[]
  instanceTypes := #[]
  staticTypes := #[]
  resolved := #[]
  callSites := []
  init := .initialized
  statics := none
  mirror := none

def pool0 : Array CpInfo := pool [(5, u "<init>"), (0, u "()V"), (1, .class_ 10), (1, u "java/lang/Object")] 113

def k0c0 : Code := { maxStack := 0, maxLocals := 1, code := object_method_1_code, exceptionTable := #[], attributes := #[] }
def k0m0 : Method := { name := "<init>", desc := "()V", sig := { parameters := [], returnType := none }, accessFlags := 1, code := some k0c0 }
/-- java/lang/Object -/
def k0 : Class := { plain "java/lang/Object" none with
  accessFlags := 33
  interfaces := #[]
  cf := some (fileOf pool0 8 #[] #[{ accessFlags := 1, nameIndex := 5, descriptorIndex := 6, attributes := #[] }] 33 0 #[] #[])
  fields := #[]
  methods := #[k0m0]
  instanceTypes := #[]
  staticTypes := #[]
  resolved := Array.replicate 124 none
  statics := none }

def pool1 : Array CpInfo := pool [(2, .class_ 4), (1, u "java/lang/Object"), (0, u "<init>"), (0, u "()V"), (0, .methodref 8 9), (0, .class_ 10), (0, .nameAndType 11 12), (0, u "com/example/surfacemap/surfacemap/model/FindingOfPinLaw"), (0, u "pick"), (0, u "(I)Lcom/example/surfacemap/surfacemap/model/Finding$Rule;"), (0, .methodref 8 14), (0, .nameAndType 15 16), (0, u "str"), (0, u "(II)Ljava/lang/String;"), (0, .class_ 18), (0, u "com/example/surfacemap/surfacemap/model/DocumentException"), (0, .methodref 17 20), (0, .nameAndType 5 21), (0, u "(Lcom/example/surfacemap/surfacemap/model/Finding$Rule;Ljava/lang/String;Ljava/lang/String;)V"), (0, .methodref 23 24), (0, .class_ 25), (0, .nameAndType 26 27), (0, u "com/example/surfacemap/surfacemap/model/Finding"), (0, u "of"), (0, u "(Lcom/example/surfacemap/surfacemap/model/DocumentException;)Lcom/example/surfacemap/surfacemap/model/Finding;"), (0, .methodref 23 29), (0, .nameAndType 30 31), (0, u "rule"), (0, u "()Lcom/example/surfacemap/surfacemap/model/Finding$Rule;"), (0, .methodref 23 33), (0, .nameAndType 34 35), (0, u "location"), (0, u "()Ljava/lang/String;"), (0, .methodref 8 37), (0, .nameAndType 38 39), (0, u "same"), (0, u "(Ljava/lang/String;Ljava/lang/String;)Z"), (0, .methodref 23 41), (0, .nameAndType 42 35), (0, u "message"), (0, .class_ 44), (0, u "com/example/surfacemap/surfacemap/model/Finding$Rule"), (0, .fieldref 43 46), (0, .nameAndType 47 48), (0, u "JSON_SYNTAX"), (0, u "Lcom/example/surfacemap/surfacemap/model/Finding$Rule;"), (0, .fieldref 43 50), (0, .nameAndType 51 48), (0, u "JSON_DEPTH"), (0, .fieldref 43 53), (0, .nameAndType 54 48), (0, u "JSON_LIMIT"), (0, .fieldref 43 56), (0, .nameAndType 57 48), (0, u "JSON_DUPLICATE_KEY"), (0, .fieldref 43 59), (0, .nameAndType 60 48), (0, u "JSON_ENCODING"), (0, .fieldref 43 62), (0, .nameAndType 63 48), (0, u "KIND"), (0, .fieldref 43 65), (0, .nameAndType 66 48), (0, u "DISCOVERY_VERSION"), (0, .fieldref 43 68), (0, .nameAndType 69 48), (0, u "PROTOCOL"), (0, .fieldref 43 71), (0, .nameAndType 72 48), (0, u "REQUIRED_FIELD"), (0, .fieldref 43 74), (0, .nameAndType 75 48), (0, u "URL_SEGMENT"), (0, .fieldref 43 77), (0, .nameAndType 78 48), (0, u "SCHEMA_ID"), (0, .fieldref 43 80), (0, .nameAndType 81 48), (0, u "REF"), (0, .fieldref 43 83), (0, .nameAndType 84 48), (0, u "TEMPLATE"), (0, .fieldref 43 86), (0, .nameAndType 87 48), (0, u "PATH_VARIABLE"), (0, .fieldref 43 89), (0, .nameAndType 90 48), (0, u "PATH_PARAMETER"), (0, .fieldref 43 92), (0, .nameAndType 93 48), (0, u "PARAMETER_LOCATION"), (0, .fieldref 43 95), (0, .nameAndType 96 48), (0, u "PARAMETER_ORDER"), (0, .fieldref 43 98), (0, .nameAndType 99 48), (0, u "HTTP_METHOD"), (0, .fieldref 43 101), (0, .nameAndType 102 48), (0, u "MEDIA_UPLOAD"), (0, .fieldref 43 104), (0, .nameAndType 105 48), (0, u "METHOD_ID"), (0, .fieldref 43 107), (0, .nameAndType 108 48), (0, u "ENUM_LENGTH"), (0, .fieldref 43 110), (0, .nameAndType 111 48), (0, u "ANNOTATION_METHOD"), (0, .fieldref 43 113), (0, .nameAndType 114 48), (0, u "TYPE"), (0, .fieldref 43 116), (0, .nameAndType 117 48), (0, u "SHAPE"), (0, .fieldref 43 119), (0, .nameAndType 120 48), (0, u "LABEL"), (0, .fieldref 43 122), (0, .nameAndType 123 48), (0, u "PARAMETER_ORDER_MISSING"), (0, .integer 2147483647), (0, .class_ 126), (0, u "java/lang/String"), (0, .methodref 125 128), (0, .nameAndType 5 129), (0, u "([C)V"), (0, .methodref 125 131), (0, .nameAndType 132 133), (0, u "valueOf"), (0, u "(C)Ljava/lang/String;"), (0, .methodref 125 135), (0, .nameAndType 136 137), (0, u "equals"), (0, u "(Ljava/lang/Object;)Z"), (2, u "law"), (0, u "(IIII)Z")] 5

def k1m0 : Method := { name := "<init>", desc := "()V", sig := { parameters := [], returnType := none }, accessFlags := 2, code := none }
def k1c1 : Code := { maxStack := 5, maxLocals := 9, code := code, exceptionTable := #[], attributes := #[] }
def k1m1 : Method := { name := "law", desc := "(IIII)Z", sig := { parameters := [.int, .int, .int, .int], returnType := some .boolean }, accessFlags := 9, code := some k1c1 }
def k1c2 : Code := { maxStack := 4, maxLocals := 2, code := method_3_code, exceptionTable := #[], attributes := #[] }
def k1m2 : Method := { name := "pick", desc := "(I)Lcom/example/surfacemap/surfacemap/model/Finding$Rule;", sig := { parameters := [.int], returnType := some (.object "com/example/surfacemap/surfacemap/model/Finding$Rule") }, accessFlags := 10, code := some k1c2 }
def k1c3 : Code := { maxStack := 6, maxLocals := 4, code := method_4_code, exceptionTable := #[], attributes := #[] }
def k1m3 : Method := { name := "str", desc := "(II)Ljava/lang/String;", sig := { parameters := [.int, .int], returnType := some (.object "java/lang/String") }, accessFlags := 10, code := some k1c3 }
def k1c4 : Code := { maxStack := 2, maxLocals := 2, code := method_5_code, exceptionTable := #[], attributes := #[] }
def k1m4 : Method := { name := "same", desc := "(Ljava/lang/String;Ljava/lang/String;)Z", sig := { parameters := [(.object "java/lang/String"), (.object "java/lang/String")], returnType := some .boolean }, accessFlags := 10, code := some k1c4 }
/-- com/example/surfacemap/surfacemap/model/FindingOfPinLaw -/
def k1 : Class := { plain "com/example/surfacemap/surfacemap/model/FindingOfPinLaw" (some 0) with
  accessFlags := 49
  interfaces := #[]
  cf := some (fileOf pool1 8 #[] #[{ accessFlags := 2, nameIndex := 5, descriptorIndex := 6, attributes := #[] }, { accessFlags := 9, nameIndex := 140, descriptorIndex := 141, attributes := #[] }, { accessFlags := 10, nameIndex := 11, descriptorIndex := 12, attributes := #[] }, { accessFlags := 10, nameIndex := 15, descriptorIndex := 16, attributes := #[] }, { accessFlags := 10, nameIndex := 38, descriptorIndex := 39, attributes := #[] }] 49 2 #[] #[])
  fields := #[]
  methods := #[k1m0, k1m1, k1m2, k1m3, k1m4]
  instanceTypes := #[]
  staticTypes := #[]
  resolved := Array.replicate 147 none
  statics := none }

def pool2 : Array CpInfo := pool [(1, .class_ 2), (0, u "java/lang/constant/Constable"), (0, .class_ 4), (0, u "java/lang/Object")] 6

/-- java/lang/constant/Constable -/
def k2 : Class := { plain "java/lang/constant/Constable" (some 0) with
  accessFlags := 1537
  interfaces := #[]
  cf := some (fileOf pool2 1 #[] #[] 1537 3 #[] #[])
  fields := #[]
  methods := #[]
  instanceTypes := #[]
  staticTypes := #[]
  resolved := Array.replicate 11 none
  statics := none }

def pool3 : Array CpInfo := pool [(1, .class_ 2), (0, u "java/lang/Comparable"), (0, .class_ 4), (0, u "java/lang/Object")] 7

/-- java/lang/Comparable -/
def k3 : Class := { plain "java/lang/Comparable" (some 0) with
  accessFlags := 1537
  interfaces := #[]
  cf := some (fileOf pool3 1 #[] #[] 1537 3 #[] #[])
  fields := #[]
  methods := #[]
  instanceTypes := #[]
  staticTypes := #[]
  resolved := Array.replicate 12 none
  statics := none }

def pool4 : Array CpInfo := pool [(1, .class_ 2), (0, u "java/io/Serializable"), (0, .class_ 4), (0, u "java/lang/Object")] 2

/-- java/io/Serializable -/
def k4 : Class := { plain "java/io/Serializable" (some 0) with
  accessFlags := 1537
  interfaces := #[]
  cf := some (fileOf pool4 1 #[] #[] 1537 3 #[] #[])
  fields := #[]
  methods := #[]
  instanceTypes := #[]
  staticTypes := #[]
  resolved := Array.replicate 7 none
  statics := none }

def pool5 : Array CpInfo := pool [(2, .class_ 4), (1, u "java/lang/Enum"), (0, u "name"), (0, u "Ljava/lang/String;"), (2, u "ordinal"), (0, u "I"), (1, .class_ 14), (1, u "java/lang/Object"), (4, u "hash"), (86, .class_ 108), (1, u "java/lang/Enum$EnumDesc"), (2, .class_ 112), (0, u "java/lang/constant/Constable"), (0, .class_ 114), (0, u "java/lang/Comparable"), (0, .class_ 116), (0, u "java/io/Serializable")] 87

/-- java/lang/Enum -/
def k5 : Class := { plain "java/lang/Enum" (some 0) with
  accessFlags := 1057
  interfaces := #[2, 3, 4]
  cf := some (fileOf pool5 2 #[.nestMembers #[106]] #[] 1057 12 #[111, 113, 115] #[{ accessFlags := 18, nameIndex := 5, descriptorIndex := 6, attributes := #[] }, { accessFlags := 18, nameIndex := 9, descriptorIndex := 10, attributes := #[] }, { accessFlags := 2, nameIndex := 19, descriptorIndex := 10, attributes := #[] }])
  fields := #[{ name := "name", type := (.object "java/lang/String"), accessFlags := 18, slot := 0, constantValue := 0 }, { name := "ordinal", type := .int, accessFlags := 18, slot := 1, constantValue := 0 }, { name := "hash", type := .int, accessFlags := 2, slot := 2, constantValue := 0 }]
  methods := #[]
  instanceTypes := #[(.object "java/lang/String"), .int, .int]
  staticTypes := #[]
  resolved := Array.replicate 204 none
  statics := none }

def pool6 : Array CpInfo := pool [(1, .class_ 2), (0, u "com/example/surfacemap/surfacemap/model/Finding$Rule"), (2, u "JSON_SYNTAX"), (0, u "Lcom/example/surfacemap/surfacemap/model/Finding$Rule;"), (2, u "JSON_DEPTH"), (2, u "JSON_LIMIT"), (2, u "JSON_DUPLICATE_KEY"), (2, u "JSON_ENCODING"), (2, u "KIND"), (2, u "DISCOVERY_VERSION"), (2, u "PROTOCOL"), (2, u "REQUIRED_FIELD"), (2, u "URL_SEGMENT"), (2, u "SCHEMA_ID"), (2, u "REF"), (2, u "TEMPLATE"), (2, u "PATH_VARIABLE"), (2, u "PATH_PARAMETER"), (2, u "PARAMETER_LOCATION"), (2, u "PARAMETER_ORDER"), (2, u "HTTP_METHOD"), (2, u "MEDIA_UPLOAD"), (2, u "METHOD_ID"), (2, u "ENUM_LENGTH"), (2, u "ANNOTATION_METHOD"), (2, u "TYPE"), (2, u "SHAPE"), (2, u "LABEL"), (2, u "PARAMETER_ORDER_MISSING"), (2, u "$VALUES"), (0, u "[Lcom/example/surfacemap/surfacemap/model/Finding$Rule;"), (6, .class_ 94), (1, u "java/lang/Enum"), (8, u "id"), (0, u "Ljava/lang/String;"), (2, u "severity"), (0, u "Lcom/example/surfacemap/surfacemap/model/Finding$Severity;"), (108, .class_ 218), (0, u "com/example/surfacemap/surfacemap/model/Finding")] 3

/-- com/example/surfacemap/surfacemap/model/Finding$Rule -/
def k6 : Class := { plain "com/example/surfacemap/surfacemap/model/Finding$Rule" (some 5) with
  accessFlags := 16433
  interfaces := #[]
  cf := some (fileOf pool6 1 #[.nestHost 217] #[] 16433 92 #[] #[{ accessFlags := 16409, nameIndex := 5, descriptorIndex := 6, attributes := #[] }, { accessFlags := 16409, nameIndex := 9, descriptorIndex := 6, attributes := #[] }, { accessFlags := 16409, nameIndex := 12, descriptorIndex := 6, attributes := #[] }, { accessFlags := 16409, nameIndex := 15, descriptorIndex := 6, attributes := #[] }, { accessFlags := 16409, nameIndex := 18, descriptorIndex := 6, attributes := #[] }, { accessFlags := 16409, nameIndex := 21, descriptorIndex := 6, attributes := #[] }, { accessFlags := 16409, nameIndex := 24, descriptorIndex := 6, attributes := #[] }, { accessFlags := 16409, nameIndex := 27, descriptorIndex := 6, attributes := #[] }, { accessFlags := 16409, nameIndex := 30, descriptorIndex := 6, attributes := #[] }, { accessFlags := 16409, nameIndex := 33, descriptorIndex := 6, attributes := #[] }, { accessFlags := 16409, nameIndex := 36, descriptorIndex := 6, attributes := #[] }, { accessFlags := 16409, nameIndex := 39, descriptorIndex := 6, attributes := #[] }, { accessFlags := 16409, nameIndex := 42, descriptorIndex := 6, attributes := #[] }, { accessFlags := 16409, nameIndex := 45, descriptorIndex := 6, attributes := #[] }, { accessFlags := 16409, nameIndex := 48, descriptorIndex := 6, attributes := #[] }, { accessFlags := 16409, nameIndex := 51, descriptorIndex := 6, attributes := #[] }, { accessFlags := 16409, nameIndex := 54, descriptorIndex := 6, attributes := #[] }, { accessFlags := 16409, nameIndex := 57, descriptorIndex := 6, attributes := #[] }, { accessFlags := 16409, nameIndex := 60, descriptorIndex := 6, attributes := #[] }, { accessFlags := 16409, nameIndex := 63, descriptorIndex := 6, attributes := #[] }, { accessFlags := 16409, nameIndex := 66, descriptorIndex := 6, attributes := #[] }, { accessFlags := 16409, nameIndex := 69, descriptorIndex := 6, attributes := #[] }, { accessFlags := 16409, nameIndex := 72, descriptorIndex := 6, attributes := #[] }, { accessFlags := 16409, nameIndex := 75, descriptorIndex := 6, attributes := #[] }, { accessFlags := 16409, nameIndex := 78, descriptorIndex := 6, attributes := #[] }, { accessFlags := 16409, nameIndex := 81, descriptorIndex := 6, attributes := #[] }, { accessFlags := 18, nameIndex := 103, descriptorIndex := 104, attributes := #[] }, { accessFlags := 18, nameIndex := 107, descriptorIndex := 108, attributes := #[] }, { accessFlags := 4122, nameIndex := 84, descriptorIndex := 85, attributes := #[] }])
  fields := #[{ name := "JSON_SYNTAX", type := (.object "com/example/surfacemap/surfacemap/model/Finding$Rule"), accessFlags := 16409, slot := 0, constantValue := 0 }, { name := "JSON_DEPTH", type := (.object "com/example/surfacemap/surfacemap/model/Finding$Rule"), accessFlags := 16409, slot := 1, constantValue := 0 }, { name := "JSON_LIMIT", type := (.object "com/example/surfacemap/surfacemap/model/Finding$Rule"), accessFlags := 16409, slot := 2, constantValue := 0 }, { name := "JSON_DUPLICATE_KEY", type := (.object "com/example/surfacemap/surfacemap/model/Finding$Rule"), accessFlags := 16409, slot := 3, constantValue := 0 }, { name := "JSON_ENCODING", type := (.object "com/example/surfacemap/surfacemap/model/Finding$Rule"), accessFlags := 16409, slot := 4, constantValue := 0 }, { name := "KIND", type := (.object "com/example/surfacemap/surfacemap/model/Finding$Rule"), accessFlags := 16409, slot := 5, constantValue := 0 }, { name := "DISCOVERY_VERSION", type := (.object "com/example/surfacemap/surfacemap/model/Finding$Rule"), accessFlags := 16409, slot := 6, constantValue := 0 }, { name := "PROTOCOL", type := (.object "com/example/surfacemap/surfacemap/model/Finding$Rule"), accessFlags := 16409, slot := 7, constantValue := 0 }, { name := "REQUIRED_FIELD", type := (.object "com/example/surfacemap/surfacemap/model/Finding$Rule"), accessFlags := 16409, slot := 8, constantValue := 0 }, { name := "URL_SEGMENT", type := (.object "com/example/surfacemap/surfacemap/model/Finding$Rule"), accessFlags := 16409, slot := 9, constantValue := 0 }, { name := "SCHEMA_ID", type := (.object "com/example/surfacemap/surfacemap/model/Finding$Rule"), accessFlags := 16409, slot := 10, constantValue := 0 }, { name := "REF", type := (.object "com/example/surfacemap/surfacemap/model/Finding$Rule"), accessFlags := 16409, slot := 11, constantValue := 0 }, { name := "TEMPLATE", type := (.object "com/example/surfacemap/surfacemap/model/Finding$Rule"), accessFlags := 16409, slot := 12, constantValue := 0 }, { name := "PATH_VARIABLE", type := (.object "com/example/surfacemap/surfacemap/model/Finding$Rule"), accessFlags := 16409, slot := 13, constantValue := 0 }, { name := "PATH_PARAMETER", type := (.object "com/example/surfacemap/surfacemap/model/Finding$Rule"), accessFlags := 16409, slot := 14, constantValue := 0 }, { name := "PARAMETER_LOCATION", type := (.object "com/example/surfacemap/surfacemap/model/Finding$Rule"), accessFlags := 16409, slot := 15, constantValue := 0 }, { name := "PARAMETER_ORDER", type := (.object "com/example/surfacemap/surfacemap/model/Finding$Rule"), accessFlags := 16409, slot := 16, constantValue := 0 }, { name := "HTTP_METHOD", type := (.object "com/example/surfacemap/surfacemap/model/Finding$Rule"), accessFlags := 16409, slot := 17, constantValue := 0 }, { name := "MEDIA_UPLOAD", type := (.object "com/example/surfacemap/surfacemap/model/Finding$Rule"), accessFlags := 16409, slot := 18, constantValue := 0 }, { name := "METHOD_ID", type := (.object "com/example/surfacemap/surfacemap/model/Finding$Rule"), accessFlags := 16409, slot := 19, constantValue := 0 }, { name := "ENUM_LENGTH", type := (.object "com/example/surfacemap/surfacemap/model/Finding$Rule"), accessFlags := 16409, slot := 20, constantValue := 0 }, { name := "ANNOTATION_METHOD", type := (.object "com/example/surfacemap/surfacemap/model/Finding$Rule"), accessFlags := 16409, slot := 21, constantValue := 0 }, { name := "TYPE", type := (.object "com/example/surfacemap/surfacemap/model/Finding$Rule"), accessFlags := 16409, slot := 22, constantValue := 0 }, { name := "SHAPE", type := (.object "com/example/surfacemap/surfacemap/model/Finding$Rule"), accessFlags := 16409, slot := 23, constantValue := 0 }, { name := "LABEL", type := (.object "com/example/surfacemap/surfacemap/model/Finding$Rule"), accessFlags := 16409, slot := 24, constantValue := 0 }, { name := "PARAMETER_ORDER_MISSING", type := (.object "com/example/surfacemap/surfacemap/model/Finding$Rule"), accessFlags := 16409, slot := 25, constantValue := 0 }, { name := "id", type := (.object "java/lang/String"), accessFlags := 18, slot := 3, constantValue := 0 }, { name := "severity", type := (.object "com/example/surfacemap/surfacemap/model/Finding$Severity"), accessFlags := 18, slot := 4, constantValue := 0 }, { name := "$VALUES", type := (.array (.object "com/example/surfacemap/surfacemap/model/Finding$Rule")), accessFlags := 4122, slot := 26, constantValue := 0 }]
  methods := #[]
  instanceTypes := #[(.object "java/lang/String"), .int, .int, (.object "java/lang/String"), (.object "com/example/surfacemap/surfacemap/model/Finding$Severity")]
  staticTypes := #[(.object "com/example/surfacemap/surfacemap/model/Finding$Rule"), (.object "com/example/surfacemap/surfacemap/model/Finding$Rule"), (.object "com/example/surfacemap/surfacemap/model/Finding$Rule"), (.object "com/example/surfacemap/surfacemap/model/Finding$Rule"), (.object "com/example/surfacemap/surfacemap/model/Finding$Rule"), (.object "com/example/surfacemap/surfacemap/model/Finding$Rule"), (.object "com/example/surfacemap/surfacemap/model/Finding$Rule"), (.object "com/example/surfacemap/surfacemap/model/Finding$Rule"), (.object "com/example/surfacemap/surfacemap/model/Finding$Rule"), (.object "com/example/surfacemap/surfacemap/model/Finding$Rule"), (.object "com/example/surfacemap/surfacemap/model/Finding$Rule"), (.object "com/example/surfacemap/surfacemap/model/Finding$Rule"), (.object "com/example/surfacemap/surfacemap/model/Finding$Rule"), (.object "com/example/surfacemap/surfacemap/model/Finding$Rule"), (.object "com/example/surfacemap/surfacemap/model/Finding$Rule"), (.object "com/example/surfacemap/surfacemap/model/Finding$Rule"), (.object "com/example/surfacemap/surfacemap/model/Finding$Rule"), (.object "com/example/surfacemap/surfacemap/model/Finding$Rule"), (.object "com/example/surfacemap/surfacemap/model/Finding$Rule"), (.object "com/example/surfacemap/surfacemap/model/Finding$Rule"), (.object "com/example/surfacemap/surfacemap/model/Finding$Rule"), (.object "com/example/surfacemap/surfacemap/model/Finding$Rule"), (.object "com/example/surfacemap/surfacemap/model/Finding$Rule"), (.object "com/example/surfacemap/surfacemap/model/Finding$Rule"), (.object "com/example/surfacemap/surfacemap/model/Finding$Rule"), (.object "com/example/surfacemap/surfacemap/model/Finding$Rule"), (.array (.object "com/example/surfacemap/surfacemap/model/Finding$Rule"))]
  resolved := Array.replicate 222 none
  statics := some 0 }

def pool7 : Array CpInfo := pool [(2, .class_ 4), (1, u "java/lang/CharSequence"), (42, .class_ 48), (0, u "java/lang/CharSequence$1CodePointIterator"), (10, .class_ 60), (0, u "java/lang/CharSequence$1CharIterator"), (5, .class_ 67), (0, u "java/lang/Object")] 63

/-- java/lang/CharSequence -/
def k7 : Class := { plain "java/lang/CharSequence" (some 0) with
  accessFlags := 1537
  interfaces := #[]
  cf := some (fileOf pool7 2 #[.nestMembers #[47, 59]] #[] 1537 66 #[] #[])
  fields := #[]
  methods := #[]
  instanceTypes := #[]
  staticTypes := #[]
  resolved := Array.replicate 131 none
  statics := none }

def pool8 : Array CpInfo := pool [(1, .class_ 2), (0, u "java/lang/constant/ConstantDesc"), (0, .class_ 4), (0, u "java/lang/Object")] 32

/-- java/lang/constant/ConstantDesc -/
def k8 : Class := { plain "java/lang/constant/ConstantDesc" (some 0) with
  accessFlags := 1537
  interfaces := #[]
  cf := some (fileOf pool8 1 #[] #[] 1537 3 #[] #[])
  fields := #[]
  methods := #[]
  instanceTypes := #[]
  staticTypes := #[]
  resolved := Array.replicate 37 none
  statics := none }

def pool9 : Array CpInfo := pool [(1, .methodref 2 3), (0, .class_ 4), (0, .nameAndType 5 6), (0, u "java/lang/Object"), (0, u "<init>"), (0, u "()V"), (0, .string 8), (0, u ""), (0, .fieldref 10 11), (0, .class_ 12), (0, .nameAndType 13 14), (0, u "java/lang/String"), (0, u "value"), (0, u "[B"), (0, .fieldref 10 16), (0, .nameAndType 17 18), (0, u "coder"), (0, u "B"), (2, u "hash"), (0, u "I"), (2, u "hashIsZero"), (0, u "Z"), (0, .methodref 10 28), (0, .nameAndType 5 29), (0, u "([CIILjava/lang/Void;)V"), (8, .fieldref 10 39), (0, .nameAndType 40 26), (0, u "COMPACT_STRINGS"), (1, .class_ 44), (1, u "java/lang/StringUTF16"), (0, u "compress"), (1, .methodref 42 48), (0, .nameAndType 49 50), (0, u "coderFromArrayLen"), (0, u "([BI)B"), (2, u "toBytes"), (53, .class_ 109), (1, u "java/lang/StringLatin1"), (67, .methodref 42 178), (0, .nameAndType 45 179), (0, u "([CII)[B"), (29, .methodref 10 210), (0, .nameAndType 5 211), (0, u "([BB)V"), (157, u "(C)Z"), (173, u "equals"), (29, u "(Ljava/lang/Object;)Z"), (1, .class_ 576), (0, u "java/lang/CharSequence"), (22, u "CASE_INSENSITIVE_ORDER"), (0, u "Ljava/util/Comparator;"), (181, u "valueOf"), (0, u "(C)Ljava/lang/String;"), (226, u "([C)V"), (4, .methodref 107 1016), (0, .nameAndType 1017 369), (0, u "canEncode"), (0, .methodref 107 1019), (0, .nameAndType 53 1020), (0, u "(C)[B"), (80, u "serialPersistentFields"), (0, u "[Ljava/io/ObjectStreamField;"), (0, .class_ 1104), (0, u "java/lang/String$CaseInsensitiveComparator"), (1, .class_ 1107), (0, u "java/io/Serializable"), (0, .class_ 1109), (0, u "java/lang/Comparable"), (0, .class_ 1111), (0, u "java/lang/constant/Constable"), (0, .class_ 1113), (0, u "java/lang/constant/ConstantDesc"), (2, u "serialVersionUID"), (0, u "J"), (3, u "REPL"), (0, u "C"), (2, u "LATIN1"), (1, u "UTF16")] 323

def k9m0 : Method := { name := "<init>", desc := "()V", sig := { parameters := [], returnType := none }, accessFlags := 1, code := none }
def k9c1 : Code := { maxStack := 5, maxLocals := 2, code := jdk_42_method_3_code, exceptionTable := #[], attributes := #[] }
def k9m1 : Method := { name := "<init>", desc := "([C)V", sig := { parameters := [(.array .char)], returnType := none }, accessFlags := 1, code := some k9c1 }
def k9c2 : Code := { maxStack := 2, maxLocals := 3, code := jdk_42_method_66_code, exceptionTable := #[], attributes := #[] }
def k9m2 : Method := { name := "equals", desc := "(Ljava/lang/Object;)Z", sig := { parameters := [(.object "java/lang/Object")], returnType := some .boolean }, accessFlags := 1, code := some k9c2 }
def k9c3 : Code := { maxStack := 4, maxLocals := 1, code := jdk_42_method_139_code, exceptionTable := #[], attributes := #[] }
def k9m3 : Method := { name := "valueOf", desc := "(C)Ljava/lang/String;", sig := { parameters := [.char], returnType := some (.object "java/lang/String") }, accessFlags := 9, code := some k9c3 }
def k9c4 : Code := { maxStack := 4, maxLocals := 6, code := jdk_42_method_149_code, exceptionTable := #[], attributes := #[] }
def k9m4 : Method := { name := "<init>", desc := "([CIILjava/lang/Void;)V", sig := { parameters := [(.array .char), .int, .int, (.object "java/lang/Void")], returnType := none }, accessFlags := 2, code := some k9c4 }
def k9c5 : Code := { maxStack := 2, maxLocals := 3, code := jdk_42_method_151_code, exceptionTable := #[], attributes := #[] }
def k9m5 : Method := { name := "<init>", desc := "([BB)V", sig := { parameters := [(.array .byte), .byte], returnType := none }, accessFlags := 0, code := some k9c5 }
/-- java/lang/String -/
def k9 : Class := { plain "java/lang/String" (some 0) with
  accessFlags := 49
  interfaces := #[4, 3, 7, 2, 8]
  cf := some (fileOf pool9 10 #[.nestMembers #[1103]] #[{ accessFlags := 1, nameIndex := 5, descriptorIndex := 6, attributes := #[] }, { accessFlags := 1, nameIndex := 5, descriptorIndex := 1010, attributes := #[] }, { accessFlags := 1, nameIndex := 543, descriptorIndex := 573, attributes := #[] }, { accessFlags := 9, nameIndex := 782, descriptorIndex := 783, attributes := #[] }, { accessFlags := 2, nameIndex := 5, descriptorIndex := 29, attributes := #[] }, { accessFlags := 0, nameIndex := 5, descriptorIndex := 211, attributes := #[] }] 49 2 #[1106, 1108, 575, 1110, 1112] #[{ accessFlags := 18, nameIndex := 13, descriptorIndex := 14, attributes := #[] }, { accessFlags := 18, nameIndex := 17, descriptorIndex := 18, attributes := #[] }, { accessFlags := 2, nameIndex := 21, descriptorIndex := 22, attributes := #[] }, { accessFlags := 2, nameIndex := 25, descriptorIndex := 26, attributes := #[] }, { accessFlags := 26, nameIndex := 1116, descriptorIndex := 1117, attributes := #[] }, { accessFlags := 24, nameIndex := 40, descriptorIndex := 26, attributes := #[] }, { accessFlags := 26, nameIndex := 1101, descriptorIndex := 1102, attributes := #[] }, { accessFlags := 26, nameIndex := 1121, descriptorIndex := 1122, attributes := #[] }, { accessFlags := 25, nameIndex := 599, descriptorIndex := 600, attributes := #[] }, { accessFlags := 24, nameIndex := 1125, descriptorIndex := 18, attributes := #[] }, { accessFlags := 24, nameIndex := 1127, descriptorIndex := 18, attributes := #[] }])
  fields := #[{ name := "value", type := (.array .byte), accessFlags := 18, slot := 0, constantValue := 0 }, { name := "coder", type := .byte, accessFlags := 18, slot := 1, constantValue := 0 }, { name := "hash", type := .int, accessFlags := 2, slot := 2, constantValue := 0 }, { name := "hashIsZero", type := .boolean, accessFlags := 2, slot := 3, constantValue := 0 }, { name := "serialVersionUID", type := .long, accessFlags := 26, slot := 0, constantValue := 0 }, { name := "COMPACT_STRINGS", type := .boolean, accessFlags := 24, slot := 1, constantValue := 0 }, { name := "serialPersistentFields", type := (.array (.object "java/io/ObjectStreamField")), accessFlags := 26, slot := 2, constantValue := 0 }, { name := "REPL", type := .char, accessFlags := 26, slot := 3, constantValue := 0 }, { name := "CASE_INSENSITIVE_ORDER", type := (.object "java/util/Comparator"), accessFlags := 25, slot := 4, constantValue := 0 }, { name := "LATIN1", type := .byte, accessFlags := 24, slot := 5, constantValue := 0 }, { name := "UTF16", type := .byte, accessFlags := 24, slot := 6, constantValue := 0 }]
  methods := #[k9m0, k9m1, k9m2, k9m3, k9m4, k9m5]
  instanceTypes := #[(.array .byte), .byte, .int, .boolean]
  staticTypes := #[.long, .boolean, (.array (.object "java/io/ObjectStreamField")), .char, (.object "java/util/Comparator"), .byte, .byte]
  resolved := Array.replicate 1451 none
  statics := some 1 }

def pool10 : Array CpInfo := pool [(1, .methodref 2 3), (0, .class_ 4), (0, .nameAndType 5 6), (0, u "java/lang/Object"), (0, u "<init>"), (0, u "()V"), (0, .fieldref 8 9), (0, .class_ 10), (0, .nameAndType 11 12), (0, u "java/lang/Throwable"), (0, u "cause"), (0, u "Ljava/lang/Throwable;"), (0, .fieldref 8 14), (0, .nameAndType 15 16), (0, u "UNASSIGNED_STACK"), (0, u "[Ljava/lang/StackTraceElement;"), (0, .fieldref 8 18), (0, .nameAndType 19 16), (0, u "stackTrace"), (0, .fieldref 8 21), (0, .nameAndType 22 23), (0, u "SUPPRESSED_SENTINEL"), (0, u "Ljava/util/List;"), (0, .fieldref 8 25), (0, .nameAndType 26 23), (0, u "suppressedExceptions"), (0, .methodref 8 28), (0, .nameAndType 29 30), (0, u "fillInStackTrace"), (0, u "()Ljava/lang/Throwable;"), (0, .fieldref 8 32), (0, .nameAndType 33 34), (0, u "detailMessage"), (0, u "Ljava/lang/String;"), (3, u "()Ljava/lang/String;"), (2, u "getMessage"), (51, .class_ 94), (0, u "java/lang/Throwable$WrappedPrintStream"), (6, .class_ 103), (1, u "java/lang/Throwable$PrintStreamOrWriter"), (61, u "$assertionsDisabled"), (0, u "Z"), (26, .class_ 194), (0, u "java/lang/Throwable$WrappedPrintWriter"), (3, .fieldref 8 199), (0, .nameAndType 200 201), (0, u "backtrace"), (0, u "Ljava/lang/Object;"), (0, .methodref 8 203), (0, .nameAndType 29 204), (0, u "(I)Ljava/lang/Throwable;"), (6, u "depth"), (0, u "I"), (10, u "(Ljava/lang/String;)V"), (45, .class_ 271), (1, u "java/lang/Throwable$SentinelHolder"), (32, u "EMPTY_THROWABLE_ARRAY"), (0, u "[Ljava/lang/Throwable;"), (12, .class_ 319), (0, u "java/io/Serializable"), (0, u "serialVersionUID"), (0, u "J"), (5, u "NULL_CAUSE_MESSAGE"), (0, u "SELF_SUPPRESSION_MESSAGE"), (0, u "CAUSE_CAPTION"), (0, u "SUPPRESSED_CAPTION")] 73

def k10c0 : Code := { maxStack := 2, maxLocals := 1, code := jdk_78_method_1_code, exceptionTable := #[], attributes := #[] }
def k10m0 : Method := { name := "<init>", desc := "()V", sig := { parameters := [], returnType := none }, accessFlags := 1, code := some k10c0 }
def k10c1 : Code := { maxStack := 2, maxLocals := 2, code := jdk_78_method_2_code, exceptionTable := #[], attributes := #[] }
def k10m1 : Method := { name := "<init>", desc := "(Ljava/lang/String;)V", sig := { parameters := [(.object "java/lang/String")], returnType := none }, accessFlags := 1, code := some k10c1 }
def k10c2 : Code := { maxStack := 1, maxLocals := 1, code := jdk_78_method_6_code, exceptionTable := #[], attributes := #[] }
def k10m2 : Method := { name := "getMessage", desc := "()Ljava/lang/String;", sig := { parameters := [], returnType := some (.object "java/lang/String") }, accessFlags := 1, code := some k10c2 }
def k10c3 : Code := { maxStack := 2, maxLocals := 1, code := ⟨#[0x2a, 0xb4, 0x00, 0x11, 0xc7, 0x00, 0x0a, 0x2a, 0xb4, 0x00, 0xc6, 0xc6, 0x00, 0x10, 0x2a, 0x03, 0xb6, 0x00, 0xca, 0x57, 0x2a, 0xb2, 0x00, 0x0d, 0xb5, 0x00, 0x11, 0x2a, 0xb0]⟩, exceptionTable := #[], attributes := #[] }
def k10m3 : Method := { name := "fillInStackTrace", desc := "()Ljava/lang/Throwable;", sig := { parameters := [], returnType := some (.object "java/lang/Throwable") }, accessFlags := 33, code := some k10c3 }
def k10m4 : Method := { name := "fillInStackTrace", desc := "(I)Ljava/lang/Throwable;", sig := { parameters := [.int], returnType := some (.object "java/lang/Throwable") }, accessFlags := 258, code := none }
/-- java/lang/Throwable -/
def k10 : Class := { plain "java/lang/Throwable" (some 0) with
  accessFlags := 33
  interfaces := #[4]
  cf := some (fileOf pool10 8 #[.nestMembers #[193, 93, 101, 269]] #[{ accessFlags := 1, nameIndex := 5, descriptorIndex := 6, attributes := #[] }, { accessFlags := 1, nameIndex := 5, descriptorIndex := 223, attributes := #[] }, { accessFlags := 1, nameIndex := 41, descriptorIndex := 38, attributes := #[] }, { accessFlags := 33, nameIndex := 29, descriptorIndex := 30, attributes := #[] }, { accessFlags := 258, nameIndex := 29, descriptorIndex := 204, attributes := #[] }] 33 2 #[318] #[{ accessFlags := 26, nameIndex := 320, descriptorIndex := 321, attributes := #[] }, { accessFlags := 130, nameIndex := 200, descriptorIndex := 201, attributes := #[] }, { accessFlags := 2, nameIndex := 33, descriptorIndex := 34, attributes := #[] }, { accessFlags := 26, nameIndex := 15, descriptorIndex := 16, attributes := #[] }, { accessFlags := 2, nameIndex := 11, descriptorIndex := 12, attributes := #[] }, { accessFlags := 2, nameIndex := 19, descriptorIndex := 16, attributes := #[] }, { accessFlags := 130, nameIndex := 211, descriptorIndex := 212, attributes := #[] }, { accessFlags := 26, nameIndex := 22, descriptorIndex := 23, attributes := #[] }, { accessFlags := 2, nameIndex := 26, descriptorIndex := 23, attributes := #[] }, { accessFlags := 26, nameIndex := 327, descriptorIndex := 34, attributes := #[] }, { accessFlags := 26, nameIndex := 328, descriptorIndex := 34, attributes := #[] }, { accessFlags := 26, nameIndex := 329, descriptorIndex := 34, attributes := #[] }, { accessFlags := 26, nameIndex := 330, descriptorIndex := 34, attributes := #[] }, { accessFlags := 26, nameIndex := 304, descriptorIndex := 305, attributes := #[] }, { accessFlags := 4120, nameIndex := 165, descriptorIndex := 166, attributes := #[] }])
  fields := #[{ name := "serialVersionUID", type := .long, accessFlags := 26, slot := 0, constantValue := 0 }, { name := "backtrace", type := (.object "java/lang/Object"), accessFlags := 130, slot := 0, constantValue := 0 }, { name := "detailMessage", type := (.object "java/lang/String"), accessFlags := 2, slot := 1, constantValue := 0 }, { name := "UNASSIGNED_STACK", type := (.array (.object "java/lang/StackTraceElement")), accessFlags := 26, slot := 1, constantValue := 0 }, { name := "cause", type := (.object "java/lang/Throwable"), accessFlags := 2, slot := 2, constantValue := 0 }, { name := "stackTrace", type := (.array (.object "java/lang/StackTraceElement")), accessFlags := 2, slot := 3, constantValue := 0 }, { name := "depth", type := .int, accessFlags := 130, slot := 4, constantValue := 0 }, { name := "SUPPRESSED_SENTINEL", type := (.object "java/util/List"), accessFlags := 26, slot := 2, constantValue := 0 }, { name := "suppressedExceptions", type := (.object "java/util/List"), accessFlags := 2, slot := 5, constantValue := 0 }, { name := "NULL_CAUSE_MESSAGE", type := (.object "java/lang/String"), accessFlags := 26, slot := 3, constantValue := 0 }, { name := "SELF_SUPPRESSION_MESSAGE", type := (.object "java/lang/String"), accessFlags := 26, slot := 4, constantValue := 0 }, { name := "CAUSE_CAPTION", type := (.object "java/lang/String"), accessFlags := 26, slot := 5, constantValue := 0 }, { name := "SUPPRESSED_CAPTION", type := (.object "java/lang/String"), accessFlags := 26, slot := 6, constantValue := 0 }, { name := "EMPTY_THROWABLE_ARRAY", type := (.array (.object "java/lang/Throwable")), accessFlags := 26, slot := 7, constantValue := 0 }, { name := "$assertionsDisabled", type := .boolean, accessFlags := 4120, slot := 8, constantValue := 0 }]
  methods := #[k10m0, k10m1, k10m2, k10m3, k10m4]
  instanceTypes := #[(.object "java/lang/Object"), (.object "java/lang/String"), (.object "java/lang/Throwable"), (.array (.object "java/lang/StackTraceElement")), .int, (.object "java/util/List")]
  staticTypes := #[.long, (.array (.object "java/lang/StackTraceElement")), (.object "java/util/List"), (.object "java/lang/String"), (.object "java/lang/String"), (.object "java/lang/String"), (.object "java/lang/String"), (.array (.object "java/lang/Throwable")), .boolean]
  resolved := Array.replicate 404 none
  statics := some 2 }

def pool11 : Array CpInfo := pool [(2, .class_ 4), (1, u "java/lang/Throwable"), (0, u "<init>"), (0, u "()V"), (0, .methodref 2 8), (0, .nameAndType 5 9), (0, u "(Ljava/lang/String;)V"), (9, .class_ 20), (0, u "java/lang/Exception"), (0, u "serialVersionUID"), (0, u "J")] 17

def k11m0 : Method := { name := "<init>", desc := "()V", sig := { parameters := [], returnType := none }, accessFlags := 1, code := none }
def k11c1 : Code := { maxStack := 2, maxLocals := 2, code := jdk_59_method_2_code, exceptionTable := #[], attributes := #[] }
def k11m1 : Method := { name := "<init>", desc := "(Ljava/lang/String;)V", sig := { parameters := [(.object "java/lang/String")], returnType := none }, accessFlags := 1, code := some k11c1 }
/-- java/lang/Exception -/
def k11 : Class := { plain "java/lang/Exception" (some 10) with
  accessFlags := 33
  interfaces := #[]
  cf := some (fileOf pool11 19 #[] #[{ accessFlags := 1, nameIndex := 5, descriptorIndex := 6, attributes := #[] }, { accessFlags := 1, nameIndex := 5, descriptorIndex := 9, attributes := #[] }] 33 2 #[] #[{ accessFlags := 24, nameIndex := 21, descriptorIndex := 22, attributes := #[] }])
  fields := #[{ name := "serialVersionUID", type := .long, accessFlags := 24, slot := 0, constantValue := 0 }]
  methods := #[k11m0, k11m1]
  instanceTypes := #[(.object "java/lang/Object"), (.object "java/lang/String"), (.object "java/lang/Throwable"), (.array (.object "java/lang/StackTraceElement")), .int, (.object "java/util/List")]
  staticTypes := #[.long]
  resolved := Array.replicate 40 none
  statics := none }

def pool12 : Array CpInfo := pool [(1, .methodref 2 3), (0, .class_ 4), (0, .nameAndType 5 6), (0, u "java/lang/Exception"), (0, u "<init>"), (0, u "(Ljava/lang/String;)V"), (0, .fieldref 8 9), (0, .class_ 10), (0, .nameAndType 11 12), (0, u "com/example/surfacemap/surfacemap/model/DocumentException"), (0, u "rule"), (0, u "Lcom/example/surfacemap/surfacemap/model/Finding$Rule;"), (0, .fieldref 8 14), (0, .nameAndType 15 16), (0, u "location"), (0, u "Ljava/lang/String;"), (0, .methodref 18 19), (0, .class_ 20), (0, .nameAndType 21 22), (0, u "java/util/Objects"), (0, u "requireNonNull"), (0, u "(Ljava/lang/Object;)Ljava/lang/Object;"), (0, .class_ 24), (0, u "com/example/surfacemap/surfacemap/model/Finding$Rule"), (0, .methodref 26 27), (0, .class_ 28), (0, .nameAndType 29 30), (0, u "java/util/Optional"), (0, u "ofNullable"), (0, u "(Ljava/lang/Object;)Ljava/util/Optional;"), (0, u "serialVersionUID"), (0, u "J"), (6, u "(Lcom/example/surfacemap/surfacemap/model/Finding$Rule;Ljava/lang/String;Ljava/lang/String;)V"), (0, u "()Ljava/util/Optional;"), (2, u "()Ljava/lang/String;")] 6

def k12c0 : Code := { maxStack := 2, maxLocals := 4, code := prog_4_method_2_code, exceptionTable := #[], attributes := #[] }
def k12m0 : Method := { name := "<init>", desc := "(Lcom/example/surfacemap/surfacemap/model/Finding$Rule;Ljava/lang/String;Ljava/lang/String;)V", sig := { parameters := [(.object "com/example/surfacemap/surfacemap/model/Finding$Rule"), (.object "java/lang/String"), (.object "java/lang/String")], returnType := none }, accessFlags := 1, code := some k12c0 }
def k12c1 : Code := { maxStack := 1, maxLocals := 1, code := prog_4_method_3_code, exceptionTable := #[], attributes := #[] }
def k12m1 : Method := { name := "rule", desc := "()Ljava/util/Optional;", sig := { parameters := [], returnType := some (.object "java/util/Optional") }, accessFlags := 1, code := some k12c1 }
def k12c2 : Code := { maxStack := 1, maxLocals := 1, code := prog_4_method_4_code, exceptionTable := #[], attributes := #[] }
def k12m2 : Method := { name := "location", desc := "()Ljava/lang/String;", sig := { parameters := [], returnType := some (.object "java/lang/String") }, accessFlags := 1, code := some k12c2 }
/-- com/example/surfacemap/surfacemap/model/DocumentException -/
def k12 : Class := { plain "com/example/surfacemap/surfacemap/model/DocumentException" (some 11) with
  accessFlags := 49
  interfaces := #[]
  cf := some (fileOf pool12 8 #[] #[{ accessFlags := 1, nameIndex := 5, descriptorIndex := 39, attributes := #[] }, { accessFlags := 1, nameIndex := 11, descriptorIndex := 40, attributes := #[] }, { accessFlags := 1, nameIndex := 15, descriptorIndex := 43, attributes := #[] }] 49 2 #[] #[{ accessFlags := 26, nameIndex := 31, descriptorIndex := 32, attributes := #[] }, { accessFlags := 18, nameIndex := 11, descriptorIndex := 12, attributes := #[] }, { accessFlags := 18, nameIndex := 15, descriptorIndex := 16, attributes := #[] }])
  fields := #[{ name := "serialVersionUID", type := .long, accessFlags := 26, slot := 0, constantValue := 0 }, { name := "rule", type := (.object "com/example/surfacemap/surfacemap/model/Finding$Rule"), accessFlags := 18, slot := 6, constantValue := 0 }, { name := "location", type := (.object "java/lang/String"), accessFlags := 18, slot := 7, constantValue := 0 }]
  methods := #[k12m0, k12m1, k12m2]
  instanceTypes := #[(.object "java/lang/Object"), (.object "java/lang/String"), (.object "java/lang/Throwable"), (.array (.object "java/lang/StackTraceElement")), .int, (.object "java/util/List"), (.object "com/example/surfacemap/surfacemap/model/Finding$Rule"), (.object "java/lang/String")]
  staticTypes := #[.long]
  resolved := Array.replicate 50 none
  statics := none }

def pool13 : Array CpInfo := pool [(2, .class_ 4), (1, u "java/lang/Object"), (0, u "<init>"), (0, u "()V"), (35, .class_ 44), (1, u "java/util/Objects"), (0, u "requireNonNull"), (0, u "(Ljava/lang/Object;)Ljava/lang/Object;")] 137

def k13m0 : Method := { name := "<init>", desc := "()V", sig := { parameters := [], returnType := none }, accessFlags := 2, code := none }
def k13c1 : Code := { maxStack := 2, maxLocals := 1, code := jdk_31_method_10_code, exceptionTable := #[], attributes := #[] }
def k13m1 : Method := { name := "requireNonNull", desc := "(Ljava/lang/Object;)Ljava/lang/Object;", sig := { parameters := [(.object "java/lang/Object")], returnType := some (.object "java/lang/Object") }, accessFlags := 9, code := some k13c1 }
/-- java/util/Objects -/
def k13 : Class := { plain "java/util/Objects" (some 0) with
  accessFlags := 49
  interfaces := #[]
  cf := some (fileOf pool13 42 #[] #[{ accessFlags := 2, nameIndex := 5, descriptorIndex := 6, attributes := #[] }, { accessFlags := 9, nameIndex := 45, descriptorIndex := 46, attributes := #[] }] 49 2 #[] #[])
  fields := #[]
  methods := #[k13m0, k13m1]
  instanceTypes := #[]
  staticTypes := #[]
  resolved := Array.replicate 184 none
  statics := none }

def pool14 : Array CpInfo := pool [(1, .methodref 2 3), (0, .class_ 4), (0, .nameAndType 5 6), (0, u "java/lang/Object"), (0, u "<init>"), (0, u "()V"), (0, .class_ 8), (0, u "java/lang/Record")] 13

def k14c0 : Code := { maxStack := 1, maxLocals := 1, code := jdk_30_method_1_code, exceptionTable := #[], attributes := #[] }
def k14m0 : Method := { name := "<init>", desc := "()V", sig := { parameters := [], returnType := none }, accessFlags := 4, code := some k14c0 }
/-- java/lang/Record -/
def k14 : Class := { plain "java/lang/Record" (some 0) with
  accessFlags := 1057
  interfaces := #[]
  cf := some (fileOf pool14 7 #[] #[{ accessFlags := 4, nameIndex := 5, descriptorIndex := 6, attributes := #[] }] 1057 2 #[] #[])
  fields := #[]
  methods := #[k14m0]
  instanceTypes := #[]
  staticTypes := #[]
  resolved := Array.replicate 22 none
  statics := none }

def pool15 : Array CpInfo := pool [(1, .methodref 2 3), (0, .class_ 4), (0, .nameAndType 5 6), (0, u "java/lang/Record"), (0, u "<init>"), (0, u "()V"), (0, .fieldref 8 9), (0, .class_ 10), (0, .nameAndType 11 12), (0, u "com/example/surfacemap/surfacemap/model/Finding"), (0, u "rule"), (0, u "Lcom/example/surfacemap/surfacemap/model/Finding$Rule;"), (0, .fieldref 8 14), (0, .nameAndType 15 16), (0, u "location"), (0, u "Ljava/lang/String;"), (0, .fieldref 8 18), (0, .nameAndType 19 16), (0, u "message"), (0, .methodref 21 22), (0, .class_ 23), (0, .nameAndType 11 24), (0, u "com/example/surfacemap/surfacemap/model/DocumentException"), (0, u "()Ljava/util/Optional;"), (0, .invokeDynamic 0 26), (0, .nameAndType 27 28), (0, u "get"), (0, u "(Lcom/example/surfacemap/surfacemap/model/DocumentException;)Ljava/util/function/Supplier;"), (0, .methodref 30 31), (0, .class_ 32), (0, .nameAndType 33 34), (0, u "java/util/Optional"), (0, u "orElseThrow"), (0, u "(Ljava/util/function/Supplier;)Ljava/lang/Object;"), (0, .class_ 36), (0, u "com/example/surfacemap/surfacemap/model/Finding$Rule"), (0, .methodref 21 38), (0, .nameAndType 15 39), (0, u "()Ljava/lang/String;"), (0, .methodref 21 41), (0, .nameAndType 42 39), (0, u "getMessage"), (0, .methodref 8 44), (0, .nameAndType 5 45), (0, u "(Lcom/example/surfacemap/surfacemap/model/Finding$Rule;Ljava/lang/String;Ljava/lang/String;)V"), (26, u "of"), (0, u "(Lcom/example/surfacemap/surfacemap/model/DocumentException;)Lcom/example/surfacemap/surfacemap/model/Finding;"), (2, u "()Lcom/example/surfacemap/surfacemap/model/Finding$Rule;"), (0, u "lambda$of$0"), (0, u "(Lcom/example/surfacemap/surfacemap/model/DocumentException;)Ljava/lang/IllegalArgumentException;"), (3, .class_ 83), (0, u "com/example/surfacemap/surfacemap/model/Finding$Severity"), (2, .methodType 87), (0, u "()Ljava/lang/Object;"), (0, .methodHandle 6 89), (0, .methodref 8 90), (0, .nameAndType 77 78), (0, .methodType 92), (0, u "()Ljava/lang/IllegalArgumentException;"), (5, .methodHandle 6 99), (0, .methodref 100 101), (0, .class_ 102), (0, .nameAndType 103 104), (0, u "java/lang/invoke/LambdaMetafactory"), (0, u "metafactory"), (0, u "(Ljava/lang/invoke/MethodHandles$Lookup;Ljava/lang/String;Ljava/lang/invoke/MethodType;Ljava/lang/invoke/MethodType;Ljava/lang/invoke/MethodHandle;Ljava/lang/invoke/MethodType;)Ljava/lang/invoke/CallSite;")] 15

def k15c0 : Code := { maxStack := 2, maxLocals := 4, code := prog_5_method_1_code, exceptionTable := #[], attributes := #[] }
def k15m0 : Method := { name := "<init>", desc := "(Lcom/example/surfacemap/surfacemap/model/Finding$Rule;Ljava/lang/String;Ljava/lang/String;)V", sig := { parameters := [(.object "com/example/surfacemap/surfacemap/model/Finding$Rule"), (.object "java/lang/String"), (.object "java/lang/String")], returnType := none }, accessFlags := 1, code := some k15c0 }
def k15c1 : Code := { maxStack := 5, maxLocals := 2, code := prog_5_method_2_code, exceptionTable := #[], attributes := #[] }
def k15m1 : Method := { name := "of", desc := "(Lcom/example/surfacemap/surfacemap/model/DocumentException;)Lcom/example/surfacemap/surfacemap/model/Finding;", sig := { parameters := [(.object "com/example/surfacemap/surfacemap/model/DocumentException")], returnType := some (.object "com/example/surfacemap/surfacemap/model/Finding") }, accessFlags := 9, code := some k15c1 }
def k15c2 : Code := { maxStack := 1, maxLocals := 1, code := prog_5_method_7_code, exceptionTable := #[], attributes := #[] }
def k15m2 : Method := { name := "rule", desc := "()Lcom/example/surfacemap/surfacemap/model/Finding$Rule;", sig := { parameters := [], returnType := some (.object "com/example/surfacemap/surfacemap/model/Finding$Rule") }, accessFlags := 1, code := some k15c2 }
def k15c3 : Code := { maxStack := 1, maxLocals := 1, code := prog_5_method_8_code, exceptionTable := #[], attributes := #[] }
def k15m3 : Method := { name := "location", desc := "()Ljava/lang/String;", sig := { parameters := [], returnType := some (.object "java/lang/String") }, accessFlags := 1, code := some k15c3 }
def k15c4 : Code := { maxStack := 1, maxLocals := 1, code := prog_5_method_9_code, exceptionTable := #[], attributes := #[] }
def k15m4 : Method := { name := "message", desc := "()Ljava/lang/String;", sig := { parameters := [], returnType := some (.object "java/lang/String") }, accessFlags := 1, code := some k15c4 }
def k15c5 : Code := { maxStack := 4, maxLocals := 1, code := ⟨#[0xbb, 0x00, 0x32, 0x59, 0x12, 0x34, 0x2a, 0xb7, 0x00, 0x36, 0xb0]⟩, exceptionTable := #[], attributes := #[] }
def k15m5 : Method := { name := "lambda$of$0", desc := "(Lcom/example/surfacemap/surfacemap/model/DocumentException;)Ljava/lang/IllegalArgumentException;", sig := { parameters := [(.object "com/example/surfacemap/surfacemap/model/DocumentException")], returnType := some (.object "java/lang/IllegalArgumentException") }, accessFlags := 4106, code := some k15c5 }
/-- com/example/surfacemap/surfacemap/model/Finding -/
def k15 : Class := { plain "com/example/surfacemap/surfacemap/model/Finding" (some 14) with
  accessFlags := 49
  interfaces := #[]
  cf := some (fileOf pool15 8 #[.nestMembers #[35, 82], .bootstrapMethods #[⟨98, #[86, 88, 91]⟩, ⟨0, #[]⟩]] #[{ accessFlags := 1, nameIndex := 5, descriptorIndex := 45, attributes := #[] }, { accessFlags := 9, nameIndex := 72, descriptorIndex := 73, attributes := #[] }, { accessFlags := 1, nameIndex := 11, descriptorIndex := 76, attributes := #[] }, { accessFlags := 1, nameIndex := 15, descriptorIndex := 39, attributes := #[] }, { accessFlags := 1, nameIndex := 19, descriptorIndex := 39, attributes := #[] }, { accessFlags := 4106, nameIndex := 77, descriptorIndex := 78, attributes := #[] }] 49 2 #[] #[{ accessFlags := 18, nameIndex := 11, descriptorIndex := 12, attributes := #[] }, { accessFlags := 18, nameIndex := 15, descriptorIndex := 16, attributes := #[] }, { accessFlags := 18, nameIndex := 19, descriptorIndex := 16, attributes := #[] }])
  fields := #[{ name := "rule", type := (.object "com/example/surfacemap/surfacemap/model/Finding$Rule"), accessFlags := 18, slot := 0, constantValue := 0 }, { name := "location", type := (.object "java/lang/String"), accessFlags := 18, slot := 1, constantValue := 0 }, { name := "message", type := (.object "java/lang/String"), accessFlags := 18, slot := 2, constantValue := 0 }]
  methods := #[k15m0, k15m1, k15m2, k15m3, k15m4, k15m5]
  instanceTypes := #[(.object "com/example/surfacemap/surfacemap/model/Finding$Rule"), (.object "java/lang/String"), (.object "java/lang/String")]
  staticTypes := #[]
  resolved := Array.replicate 120 none
  callSites := [(1, 5, .makes 43)]
  statics := none }

def pool16 : Array CpInfo := pool [(2, .class_ 4), (1, u "java/util/Optional"), (0, u "EMPTY"), (0, u "Ljava/util/Optional;"), (0, .methodref 8 9), (0, .class_ 10), (0, .nameAndType 11 12), (0, u "java/lang/Object"), (0, u "<init>"), (0, u "()V"), (0, .fieldref 2 14), (0, .nameAndType 15 16), (0, u "value"), (0, u "Ljava/lang/Object;"), (6, .methodref 2 24), (0, .nameAndType 11 25), (0, u "(Ljava/lang/Object;)V"), (38, u "ofNullable"), (0, u "(Ljava/lang/Object;)Ljava/util/Optional;"), (103, u "(Ljava/util/function/Supplier;)Ljava/lang/Object;"), (2, u "orElseThrow")] 14

def k16c0 : Code := { maxStack := 2, maxLocals := 2, code := jdk_32_method_2_code, exceptionTable := #[], attributes := #[] }
def k16m0 : Method := { name := "<init>", desc := "(Ljava/lang/Object;)V", sig := { parameters := [(.object "java/lang/Object")], returnType := none }, accessFlags := 2, code := some k16c0 }
def k16c1 : Code := { maxStack := 3, maxLocals := 1, code := jdk_32_method_4_code, exceptionTable := #[], attributes := #[] }
def k16m1 : Method := { name := "ofNullable", desc := "(Ljava/lang/Object;)Ljava/util/Optional;", sig := { parameters := [(.object "java/lang/Object")], returnType := some (.object "java/util/Optional") }, accessFlags := 9, code := some k16c1 }
def k16c2 : Code := { maxStack := 1, maxLocals := 2, code := jdk_32_method_18_code, exceptionTable := #[], attributes := #[] }
def k16m2 : Method := { name := "orElseThrow", desc := "(Ljava/util/function/Supplier;)Ljava/lang/Object;", sig := { parameters := [(.object "java/util/function/Supplier")], returnType := some (.object "java/lang/Object") }, accessFlags := 1, code := some k16c2 }
/-- java/util/Optional -/
def k16 : Class := { plain "java/util/Optional" (some 0) with
  accessFlags := 49
  interfaces := #[]
  cf := some (fileOf pool16 2 #[] #[{ accessFlags := 2, nameIndex := 11, descriptorIndex := 25, attributes := #[] }, { accessFlags := 9, nameIndex := 64, descriptorIndex := 65, attributes := #[] }, { accessFlags := 1, nameIndex := 172, descriptorIndex := 169, attributes := #[] }] 49 8 #[] #[{ accessFlags := 26, nameIndex := 5, descriptorIndex := 6, attributes := #[] }, { accessFlags := 18, nameIndex := 15, descriptorIndex := 16, attributes := #[] }])
  fields := #[{ name := "EMPTY", type := (.object "java/util/Optional"), accessFlags := 26, slot := 0, constantValue := 0 }, { name := "value", type := (.object "java/lang/Object"), accessFlags := 18, slot := 0, constantValue := 0 }]
  methods := #[k16m0, k16m1, k16m2]
  instanceTypes := #[(.object "java/lang/Object")]
  staticTypes := #[(.object "java/util/Optional")]
  resolved := Array.replicate 187 none
  statics := none }

def pool17 : Array CpInfo := pool [(1, .class_ 2), (0, u "java/util/function/Supplier"), (0, .class_ 4), (0, u "java/lang/Object"), (0, u "get"), (0, u "()Ljava/lang/Object;")] 7

def k17m0 : Method := { name := "get", desc := "()Ljava/lang/Object;", sig := { parameters := [], returnType := some (.object "java/lang/Object") }, accessFlags := 1025, code := none }
/-- java/util/function/Supplier -/
def k17 : Class := { plain "java/util/function/Supplier" (some 0) with
  accessFlags := 1537
  interfaces := #[]
  cf := some (fileOf pool17 1 #[] #[{ accessFlags := 1025, nameIndex := 5, descriptorIndex := 6, attributes := #[] }] 1537 3 #[] #[])
  fields := #[]
  methods := #[k17m0]
  instanceTypes := #[]
  staticTypes := #[]
  resolved := Array.replicate 14 none
  statics := none }

def pool18 : Array CpInfo := pool [(4, .class_ 6), (1, u "java/lang/Object"), (0, u "<init>"), (0, u "()V"), (5, .class_ 16), (1, u "java/lang/StringLatin1"), (73, u "canEncode"), (14, u "(C)Z"), (15, u "$assertionsDisabled"), (0, u "Z"), (98, .class_ 223), (1, u "java/lang/StringLatin1$LinesSpliterator"), (156, u "toBytes"), (1, u "(C)[B"), (7, .class_ 391), (0, u "java/lang/StringLatin1$CharsSpliterator")] 3

def k18m0 : Method := { name := "<init>", desc := "()V", sig := { parameters := [], returnType := none }, accessFlags := 0, code := none }
def k18c1 : Code := { maxStack := 2, maxLocals := 1, code := jdk_43_method_3_code, exceptionTable := #[], attributes := #[] }
def k18m1 : Method := { name := "canEncode", desc := "(C)Z", sig := { parameters := [.char], returnType := some .boolean }, accessFlags := 9, code := some k18c1 }
def k18c2 : Code := { maxStack := 4, maxLocals := 1, code := jdk_43_method_46_code, exceptionTable := #[], attributes := #[] }
def k18m2 : Method := { name := "toBytes", desc := "(C)[B", sig := { parameters := [.char], returnType := some (.array .byte) }, accessFlags := 9, code := some k18c2 }
/-- java/lang/StringLatin1 -/
def k18 : Class := { plain "java/lang/StringLatin1" (some 0) with
  accessFlags := 48
  interfaces := #[]
  cf := some (fileOf pool18 14 #[.nestMembers #[390, 221]] #[{ accessFlags := 0, nameIndex := 7, descriptorIndex := 8, attributes := #[] }, { accessFlags := 9, nameIndex := 90, descriptorIndex := 105, attributes := #[] }, { accessFlags := 9, nameIndex := 380, descriptorIndex := 382, attributes := #[] }] 48 4 #[] #[{ accessFlags := 4120, nameIndex := 121, descriptorIndex := 122, attributes := #[] }])
  fields := #[{ name := "$assertionsDisabled", type := .boolean, accessFlags := 4120, slot := 0, constantValue := 0 }]
  methods := #[k18m0, k18m1, k18m2]
  instanceTypes := #[]
  staticTypes := #[.boolean]
  resolved := Array.replicate 395 none
  statics := none }

def pool19 : Array CpInfo := pool [(6, .class_ 8), (1, u "java/lang/Object"), (0, u "<init>"), (0, u "()V"), (1, .class_ 14), (1, u "java/lang/StringUTF16"), (31, u "$assertionsDisabled"), (0, u "Z"), (13, u "HI_BYTE_SHIFT"), (0, u "I"), (2, u "LO_BYTE_SHIFT"), (49, .methodref 12 116), (0, .nameAndType 117 118), (0, u "compress"), (0, u "([CI[BII)I"), (3, u "([CII)[B"), (138, u "coderFromArrayLen"), (0, u "([BI)B"), (106, .class_ 371), (1, u "java/lang/StringUTF16$LinesSpliterator"), (58, u "MAX_LENGTH"), (196, .class_ 628), (0, u "java/lang/StringUTF16$CodePointsSpliterator"), (0, .class_ 630), (0, u "java/lang/StringUTF16$CharsSpliterator")] 4

def k19m0 : Method := { name := "<init>", desc := "()V", sig := { parameters := [], returnType := none }, accessFlags := 0, code := none }
def k19c1 : Code := { maxStack := 2, maxLocals := 2, code := jdk_52_method_15_code, exceptionTable := #[], attributes := #[] }
def k19m1 : Method := { name := "coderFromArrayLen", desc := "([BI)B", sig := { parameters := [(.array .byte), .int], returnType := some .byte }, accessFlags := 8, code := some k19c1 }
def k19c2 : Code := { maxStack := 5, maxLocals := 6, code := jdk_52_method_16_code, exceptionTable := #[], attributes := #[] }
def k19m2 : Method := { name := "compress", desc := "([CII)[B", sig := { parameters := [(.array .char), .int, .int], returnType := some (.array .byte) }, accessFlags := 9, code := some k19c2 }
def k19c3 : Code := { maxStack := 3, maxLocals := 7, code := jdk_52_method_21_code, exceptionTable := #[], attributes := #[] }
def k19m3 : Method := { name := "compress", desc := "([CI[BII)I", sig := { parameters := [(.array .char), .int, (.array .byte), .int, .int], returnType := some .int }, accessFlags := 9, code := some k19c3 }
/-- java/lang/StringUTF16 -/
def k19 : Class := { plain "java/lang/StringUTF16" (some 0) with
  accessFlags := 48
  interfaces := #[]
  cf := some (fileOf pool19 12 #[.nestMembers #[627, 629, 369]] #[{ accessFlags := 0, nameIndex := 9, descriptorIndex := 10, attributes := #[] }, { accessFlags := 8, nameIndex := 261, descriptorIndex := 262, attributes := #[] }, { accessFlags := 9, nameIndex := 117, descriptorIndex := 122, attributes := #[] }, { accessFlags := 9, nameIndex := 117, descriptorIndex := 118, attributes := #[] }] 48 6 #[] #[{ accessFlags := 26, nameIndex := 61, descriptorIndex := 62, attributes := #[] }, { accessFlags := 26, nameIndex := 65, descriptorIndex := 62, attributes := #[] }, { accessFlags := 24, nameIndex := 430, descriptorIndex := 62, attributes := #[] }, { accessFlags := 4120, nameIndex := 46, descriptorIndex := 47, attributes := #[] }])
  fields := #[{ name := "HI_BYTE_SHIFT", type := .int, accessFlags := 26, slot := 0, constantValue := 0 }, { name := "LO_BYTE_SHIFT", type := .int, accessFlags := 26, slot := 1, constantValue := 0 }, { name := "MAX_LENGTH", type := .int, accessFlags := 24, slot := 2, constantValue := 0 }, { name := "$assertionsDisabled", type := .boolean, accessFlags := 4120, slot := 3, constantValue := 0 }]
  methods := #[k19m0, k19m1, k19m2, k19m3]
  instanceTypes := #[]
  staticTypes := #[.int, .int, .int, .boolean]
  resolved := Array.replicate 635 none
  statics := none }

def pool20 : Array CpInfo := pool [(2, .class_ 4), (1, u "java/lang/Object"), (0, u "<init>"), (0, u "()V"), (12, .class_ 20), (0, u "java/util/Collections"), (63, u "r"), (0, u "Ljava/util/Random;"), (80, .class_ 167), (0, u "java/util/Collections$UnmodifiableCollection"), (6, .class_ 175), (0, u "java/util/Collections$UnmodifiableSequencedCollection"), (6, .class_ 183), (0, u "java/util/Collections$UnmodifiableSet"), (6, .class_ 191), (0, u "java/util/Collections$UnmodifiableSequencedSet"), (6, .class_ 199), (0, u "java/util/Collections$UnmodifiableSortedSet"), (6, .class_ 207), (0, u "java/util/Collections$UnmodifiableNavigableSet"), (4, .class_ 213), (0, u "java/util/Collections$UnmodifiableList"), (1, .class_ 216), (0, u "java/util/Collections$UnmodifiableRandomAccessList"), (6, .class_ 224), (0, u "java/util/Collections$UnmodifiableMap"), (6, .class_ 232), (0, u "java/util/Collections$UnmodifiableSequencedMap"), (4, .class_ 238), (0, u "java/util/Collections$UnmodifiableSortedMap"), (6, .class_ 246), (0, u "java/util/Collections$UnmodifiableNavigableMap"), (3, .class_ 251), (0, u "java/util/Collections$SynchronizedCollection"), (4, .class_ 257), (0, u "java/util/Collections$SynchronizedSet"), (4, .class_ 263), (0, u "java/util/Collections$SynchronizedSortedSet"), (1, .class_ 266), (0, u "java/util/Collections$SynchronizedNavigableSet"), (1, .class_ 269), (0, u "java/util/Collections$SynchronizedRandomAccessList"), (1, .class_ 272), (0, u "java/util/Collections$SynchronizedList"), (5, .class_ 279), (0, u "java/util/Collections$SynchronizedMap"), (1, .class_ 282), (0, u "java/util/Collections$SynchronizedSortedMap"), (1, .class_ 285), (0, u "java/util/Collections$SynchronizedNavigableMap"), (1, .class_ 288), (0, u "java/util/Collections$CheckedCollection"), (11, .class_ 301), (0, u "java/util/Collections$CheckedQueue"), (3, .class_ 306), (0, u "java/util/Collections$CheckedSet"), (3, .class_ 311), (0, u "java/util/Collections$CheckedSortedSet"), (3, .class_ 316), (0, u "java/util/Collections$CheckedNavigableSet"), (3, .class_ 321), (0, u "java/util/Collections$CheckedRandomAccessList"), (3, .class_ 326), (0, u "java/util/Collections$CheckedList"), (1, .class_ 329), (0, u "java/util/Collections$CheckedMap"), (3, .class_ 334), (0, u "java/util/Collections$CheckedSortedMap"), (3, .class_ 339), (0, u "java/util/Collections$CheckedNavigableMap"), (4, .class_ 346), (1, u "java/util/Collections$EmptyIterator"), (3, .class_ 352), (1, u "java/util/Collections$EmptyListIterator"), (2, .class_ 357), (1, u "java/util/Collections$EmptyEnumeration"), (4, u "EMPTY_SET"), (0, u "Ljava/util/Set;"), (6, u "EMPTY_LIST"), (0, u "Ljava/util/List;"), (2, u "EMPTY_MAP"), (0, u "Ljava/util/Map;"), (4, .class_ 381), (0, u "java/util/Collections$SingletonSet"), (2, .class_ 385), (0, u "java/util/Collections$1"), (1, .class_ 388), (0, u "java/util/Collections$2"), (1, .class_ 391), (0, u "java/util/Collections$SingletonList"), (1, .class_ 394), (0, u "java/util/Collections$SingletonMap"), (22, .class_ 418), (0, u "java/util/Collections$CopiesList"), (4, .class_ 425), (1, u "java/util/Collections$ReverseComparator"), (8, .class_ 435), (0, u "java/util/Collections$ReverseComparator2"), (6, .class_ 443), (0, u "java/util/Collections$3"), (25, .class_ 470), (0, u "java/util/Collections$SetFromMap"), (2, .class_ 474), (0, u "java/util/Collections$SequencedSetFromMap"), (3, .class_ 479), (0, u "java/util/Collections$AsLIFOQueue"), (11, .class_ 492), (0, u "java/util/Collections$EmptySet"), (1, .class_ 495), (0, u "java/util/Collections$EmptyList"), (1, .class_ 498), (0, u "java/util/Collections$EmptyMap"), (1, u "BINARYSEARCH_THRESHOLD"), (0, u "I"), (2, u "REVERSE_THRESHOLD"), (1, u "SHUFFLE_THRESHOLD"), (1, u "FILL_THRESHOLD"), (1, u "ROTATE_THRESHOLD"), (1, u "COPY_THRESHOLD"), (1, u "REPLACEALL_THRESHOLD"), (1, u "INDEXOFSUBLIST_THRESHOLD"), (333, .class_ 851), (0, u "java/util/Collections$CheckedMap$CheckedEntrySet"), (0, .class_ 853), (0, u "java/util/Collections$CheckedMap$CheckedEntrySet$CheckedEntry"), (0, .class_ 855), (0, u "java/util/Collections$CheckedMap$CheckedEntrySet$1"), (0, .class_ 857), (0, u "java/util/Collections$CheckedList$1"), (0, .class_ 859), (0, u "java/util/Collections$CheckedCollection$1"), (0, .class_ 861), (0, u "java/util/Collections$UnmodifiableNavigableMap$EmptyNavigableMap"), (0, .class_ 863), (0, u "java/util/Collections$UnmodifiableMap$UnmodifiableEntrySet"), (0, .class_ 865), (0, u "java/util/Collections$UnmodifiableMap$UnmodifiableEntrySet$UnmodifiableEntry"), (0, .class_ 867), (0, u "java/util/Collections$UnmodifiableMap$UnmodifiableEntrySet$UnmodifiableEntrySetSpliterator"), (0, .class_ 869), (0, u "java/util/Collections$UnmodifiableMap$UnmodifiableEntrySet$1"), (0, .class_ 871), (0, u "java/util/Collections$UnmodifiableList$1"), (0, .class_ 873), (0, u "java/util/Collections$UnmodifiableNavigableSet$EmptyNavigableSet"), (0, .class_ 875), (0, u "java/util/Collections$UnmodifiableCollection$1")] 57

def k20m0 : Method := { name := "<init>", desc := "()V", sig := { parameters := [], returnType := none }, accessFlags := 2, code := none }
/-- java/util/Collections -/
def k20 : Class := { plain "java/util/Collections" (some 0) with
  accessFlags := 33
  interfaces := #[]
  cf := some (fileOf pool20 19 #[.nestMembers #[478, 473, 469, 434, 423, 417, 393, 390, 380, 497, 494, 491, 355, 350, 344, 338, 333, 328, 850, 852, 854, 320, 325, 856, 315, 310, 305, 300, 287, 858, 284, 281, 278, 268, 271, 265, 262, 256, 250, 245, 860, 237, 231, 223, 862, 864, 866, 868, 215, 212, 870, 206, 872, 198, 190, 182, 174, 166, 874, 442, 387, 384]] #[{ accessFlags := 2, nameIndex := 5, descriptorIndex := 6, attributes := #[] }] 33 2 #[] #[{ accessFlags := 26, nameIndex := 500, descriptorIndex := 501, attributes := #[] }, { accessFlags := 26, nameIndex := 504, descriptorIndex := 501, attributes := #[] }, { accessFlags := 26, nameIndex := 506, descriptorIndex := 501, attributes := #[] }, { accessFlags := 26, nameIndex := 508, descriptorIndex := 501, attributes := #[] }, { accessFlags := 26, nameIndex := 510, descriptorIndex := 501, attributes := #[] }, { accessFlags := 26, nameIndex := 512, descriptorIndex := 501, attributes := #[] }, { accessFlags := 26, nameIndex := 514, descriptorIndex := 501, attributes := #[] }, { accessFlags := 26, nameIndex := 516, descriptorIndex := 501, attributes := #[] }, { accessFlags := 10, nameIndex := 84, descriptorIndex := 85, attributes := #[] }, { accessFlags := 25, nameIndex := 362, descriptorIndex := 363, attributes := #[] }, { accessFlags := 25, nameIndex := 370, descriptorIndex := 371, attributes := #[] }, { accessFlags := 25, nameIndex := 374, descriptorIndex := 375, attributes := #[] }])
  fields := #[{ name := "BINARYSEARCH_THRESHOLD", type := .int, accessFlags := 26, slot := 0, constantValue := 0 }, { name := "REVERSE_THRESHOLD", type := .int, accessFlags := 26, slot := 1, constantValue := 0 }, { name := "SHUFFLE_THRESHOLD", type := .int, accessFlags := 26, slot := 2, constantValue := 0 }, { name := "FILL_THRESHOLD", type := .int, accessFlags := 26, slot := 3, constantValue := 0 }, { name := "ROTATE_THRESHOLD", type := .int, accessFlags := 26, slot := 4, constantValue := 0 }, { name := "COPY_THRESHOLD", type := .int, accessFlags := 26, slot := 5, constantValue := 0 }, { name := "REPLACEALL_THRESHOLD", type := .int, accessFlags := 26, slot := 6, constantValue := 0 }, { name := "INDEXOFSUBLIST_THRESHOLD", type := .int, accessFlags := 26, slot := 7, constantValue := 0 }, { name := "r", type := (.object "java/util/Random"), accessFlags := 10, slot := 8, constantValue := 0 }, { name := "EMPTY_SET", type := (.object "java/util/Set"), accessFlags := 25, slot := 9, constantValue := 0 }, { name := "EMPTY_LIST", type := (.object "java/util/List"), accessFlags := 25, slot := 10, constantValue := 0 }, { name := "EMPTY_MAP", type := (.object "java/util/Map"), accessFlags := 25, slot := 11, constantValue := 0 }]
  methods := #[k20m0]
  instanceTypes := #[]
  staticTypes := #[.int, .int, .int, .int, .int, .int, .int, .int, (.object "java/util/Random"), (.object "java/util/Set"), (.object "java/util/List"), (.object "java/util/Map")]
  resolved := Array.replicate 933 none
  statics := some 3 }

def pool21 : Array CpInfo := pool [(2, .class_ 4), (1, u "java/lang/Object"), (0, u "<init>"), (0, u "()V"), (17, .class_ 26), (1, u "jdk/internal/util/Preconditions"), (28, .class_ 56), (0, u "jdk/internal/util/Preconditions$4"), (57, .class_ 115), (0, u "jdk/internal/util/Preconditions$1"), (7, u "SIOOBE_FORMATTER"), (0, u "Ljava/util/function/BiFunction;"), (0, .class_ 126), (0, u "jdk/internal/util/Preconditions$2"), (3, u "AIOOBE_FORMATTER"), (0, .class_ 132), (0, u "jdk/internal/util/Preconditions$3"), (3, u "IOOBE_FORMATTER")] 57

def k21m0 : Method := { name := "<init>", desc := "()V", sig := { parameters := [], returnType := none }, accessFlags := 1, code := none }
/-- jdk/internal/util/Preconditions -/
def k21 : Class := { plain "jdk/internal/util/Preconditions" (some 0) with
  accessFlags := 33
  interfaces := #[]
  cf := some (fileOf pool21 24 #[.nestMembers #[55, 131, 125, 114]] #[{ accessFlags := 1, nameIndex := 5, descriptorIndex := 6, attributes := #[] }] 33 2 #[] #[{ accessFlags := 25, nameIndex := 123, descriptorIndex := 124, attributes := #[] }, { accessFlags := 25, nameIndex := 130, descriptorIndex := 124, attributes := #[] }, { accessFlags := 25, nameIndex := 136, descriptorIndex := 124, attributes := #[] }])
  fields := #[{ name := "SIOOBE_FORMATTER", type := (.object "java/util/function/BiFunction"), accessFlags := 25, slot := 0, constantValue := 0 }, { name := "AIOOBE_FORMATTER", type := (.object "java/util/function/BiFunction"), accessFlags := 25, slot := 1, constantValue := 0 }, { name := "IOOBE_FORMATTER", type := (.object "java/util/function/BiFunction"), accessFlags := 25, slot := 2, constantValue := 0 }]
  methods := #[k21m0]
  instanceTypes := #[]
  staticTypes := #[(.object "java/util/function/BiFunction"), (.object "java/util/function/BiFunction"), (.object "java/util/function/BiFunction")]
  resolved := Array.replicate 194 none
  statics := some 4 }

def pool22 : Array CpInfo := pool [(9, u "<init>"), (6, .class_ 18), (1, u "java/lang/Object"), (0, u "()V"), (1, .class_ 23), (1, u "jdk/internal/util/ArraysSupport"), (0, u "LOG2_ARRAY_LONG_INDEX_SCALE"), (0, u "I"), (2, u "U"), (0, u "Ljdk/internal/misc/Unsafe;"), (8, u "BIG_ENDIAN"), (0, u "Z"), (8, u "LOG2_BYTE_BIT_SIZE"), (4, u "LOG2_ARRAY_INT_INDEX_SCALE"), (54, u "JLA"), (0, u "Ljdk/internal/access/JavaLangAccess;"), (11, u "LOG2_ARRAY_BOOLEAN_INDEX_SCALE"), (9, u "LOG2_ARRAY_BYTE_INDEX_SCALE"), (5, u "LOG2_ARRAY_CHAR_INDEX_SCALE"), (5, u "LOG2_ARRAY_SHORT_INDEX_SCALE"), (18, u "LOG2_ARRAY_FLOAT_INDEX_SCALE"), (24, u "LOG2_ARRAY_DOUBLE_INDEX_SCALE"), (89, u "T_BOOLEAN"), (2, u "T_CHAR"), (1, u "T_FLOAT"), (1, u "T_DOUBLE"), (1, u "T_BYTE"), (1, u "T_SHORT"), (1, u "T_INT"), (1, u "T_LONG"), (1, u "SOFT_MAX_ARRAY_LENGTH")] 83

def k22m0 : Method := { name := "<init>", desc := "()V", sig := { parameters := [], returnType := none }, accessFlags := 2, code := none }
/-- jdk/internal/util/ArraysSupport -/
def k22 : Class := { plain "jdk/internal/util/ArraysSupport" (some 0) with
  accessFlags := 33
  interfaces := #[]
  cf := some (fileOf pool22 21 #[] #[{ accessFlags := 2, nameIndex := 9, descriptorIndex := 19, attributes := #[] }] 33 16 #[] #[{ accessFlags := 24, nameIndex := 28, descriptorIndex := 29, attributes := #[] }, { accessFlags := 26, nameIndex := 38, descriptorIndex := 39, attributes := #[] }, { accessFlags := 25, nameIndex := 121, descriptorIndex := 25, attributes := #[] }, { accessFlags := 25, nameIndex := 131, descriptorIndex := 25, attributes := #[] }, { accessFlags := 25, nameIndex := 137, descriptorIndex := 25, attributes := #[] }, { accessFlags := 25, nameIndex := 143, descriptorIndex := 25, attributes := #[] }, { accessFlags := 25, nameIndex := 53, descriptorIndex := 25, attributes := #[] }, { accessFlags := 25, nameIndex := 24, descriptorIndex := 25, attributes := #[] }, { accessFlags := 25, nameIndex := 162, descriptorIndex := 25, attributes := #[] }, { accessFlags := 25, nameIndex := 187, descriptorIndex := 25, attributes := #[] }, { accessFlags := 26, nameIndex := 48, descriptorIndex := 25, attributes := #[] }, { accessFlags := 25, nameIndex := 277, descriptorIndex := 25, attributes := #[] }, { accessFlags := 25, nameIndex := 280, descriptorIndex := 25, attributes := #[] }, { accessFlags := 25, nameIndex := 282, descriptorIndex := 25, attributes := #[] }, { accessFlags := 25, nameIndex := 284, descriptorIndex := 25, attributes := #[] }, { accessFlags := 25, nameIndex := 286, descriptorIndex := 25, attributes := #[] }, { accessFlags := 25, nameIndex := 288, descriptorIndex := 25, attributes := #[] }, { accessFlags := 25, nameIndex := 290, descriptorIndex := 25, attributes := #[] }, { accessFlags := 25, nameIndex := 292, descriptorIndex := 25, attributes := #[] }, { accessFlags := 26, nameIndex := 108, descriptorIndex := 109, attributes := #[] }, { accessFlags := 25, nameIndex := 294, descriptorIndex := 25, attributes := #[] }])
  fields := #[{ name := "U", type := (.object "jdk/internal/misc/Unsafe"), accessFlags := 24, slot := 0, constantValue := 0 }, { name := "BIG_ENDIAN", type := .boolean, accessFlags := 26, slot := 1, constantValue := 0 }, { name := "LOG2_ARRAY_BOOLEAN_INDEX_SCALE", type := .int, accessFlags := 25, slot := 2, constantValue := 0 }, { name := "LOG2_ARRAY_BYTE_INDEX_SCALE", type := .int, accessFlags := 25, slot := 3, constantValue := 0 }, { name := "LOG2_ARRAY_CHAR_INDEX_SCALE", type := .int, accessFlags := 25, slot := 4, constantValue := 0 }, { name := "LOG2_ARRAY_SHORT_INDEX_SCALE", type := .int, accessFlags := 25, slot := 5, constantValue := 0 }, { name := "LOG2_ARRAY_INT_INDEX_SCALE", type := .int, accessFlags := 25, slot := 6, constantValue := 0 }, { name := "LOG2_ARRAY_LONG_INDEX_SCALE", type := .int, accessFlags := 25, slot := 7, constantValue := 0 }, { name := "LOG2_ARRAY_FLOAT_INDEX_SCALE", type := .int, accessFlags := 25, slot := 8, constantValue := 0 }, { name := "LOG2_ARRAY_DOUBLE_INDEX_SCALE", type := .int, accessFlags := 25, slot := 9, constantValue := 0 }, { name := "LOG2_BYTE_BIT_SIZE", type := .int, accessFlags := 26, slot := 10, constantValue := 0 }, { name := "T_BOOLEAN", type := .int, accessFlags := 25, slot := 11, constantValue := 0 }, { name := "T_CHAR", type := .int, accessFlags := 25, slot := 12, constantValue := 0 }, { name := "T_FLOAT", type := .int, accessFlags := 25, slot := 13, constantValue := 0 }, { name := "T_DOUBLE", type := .int, accessFlags := 25, slot := 14, constantValue := 0 }, { name := "T_BYTE", type := .int, accessFlags := 25, slot := 15, constantValue := 0 }, { name := "T_SHORT", type := .int, accessFlags := 25, slot := 16, constantValue := 0 }, { name := "T_INT", type := .int, accessFlags := 25, slot := 17, constantValue := 0 }, { name := "T_LONG", type := .int, accessFlags := 25, slot := 18, constantValue := 0 }, { name := "JLA", type := (.object "jdk/internal/access/JavaLangAccess"), accessFlags := 26, slot := 19, constantValue := 0 }, { name := "SOFT_MAX_ARRAY_LENGTH", type := .int, accessFlags := 25, slot := 20, constantValue := 0 }]
  methods := #[k22m0]
  instanceTypes := #[]
  staticTypes := #[(.object "jdk/internal/misc/Unsafe"), .boolean, .int, .int, .int, .int, .int, .int, .int, .int, .int, .int, .int, .int, .int, .int, .int, .int, .int, (.object "jdk/internal/access/JavaLangAccess"), .int]
  resolved := Array.replicate 378 none
  statics := none }

def pool23 : Array CpInfo := pool [(8, .class_ 10), (1, u "java/lang/Iterable"), (24, .class_ 36), (0, u "java/lang/Object")] 25

/-- java/lang/Iterable -/
def k23 : Class := { plain "java/lang/Iterable" (some 0) with
  accessFlags := 1537
  interfaces := #[]
  cf := some (fileOf pool23 8 #[] #[] 1537 35 #[] #[])
  fields := #[]
  methods := #[]
  instanceTypes := #[]
  staticTypes := #[]
  resolved := Array.replicate 62 none
  statics := none }

def pool24 : Array CpInfo := pool [(10, .class_ 12), (1, u "java/util/Collection"), (47, .class_ 61), (0, u "java/lang/Object"), (0, .class_ 63), (0, u "java/lang/Iterable")] 51

/-- java/util/Collection -/
def k24 : Class := { plain "java/util/Collection" (some 0) with
  accessFlags := 1537
  interfaces := #[23]
  cf := some (fileOf pool24 10 #[] #[] 1537 60 #[62] #[])
  fields := #[]
  methods := #[]
  instanceTypes := #[]
  staticTypes := #[]
  resolved := Array.replicate 115 none
  statics := none }

def pool25 : Array CpInfo := pool [(2, .class_ 4), (1, u "java/lang/Object"), (0, u "<init>"), (0, u "()V"), (1, .class_ 10), (1, u "java/util/AbstractCollection"), (66, .class_ 78), (0, u "java/util/Collection")] 81

def k25m0 : Method := { name := "<init>", desc := "()V", sig := { parameters := [], returnType := none }, accessFlags := 4, code := none }
/-- java/util/AbstractCollection -/
def k25 : Class := { plain "java/util/AbstractCollection" (some 0) with
  accessFlags := 1057
  interfaces := #[24]
  cf := some (fileOf pool25 8 #[] #[{ accessFlags := 4, nameIndex := 5, descriptorIndex := 6, attributes := #[] }] 1057 2 #[77] #[])
  fields := #[]
  methods := #[k25m0]
  instanceTypes := #[]
  staticTypes := #[]
  resolved := Array.replicate 160 none
  statics := none }

def pool26 : Array CpInfo := pool [(8, .class_ 10), (1, u "java/util/SequencedCollection"), (15, .class_ 27), (0, u "java/lang/Object"), (0, .class_ 29), (0, u "java/util/Collection")] 27

/-- java/util/SequencedCollection -/
def k26 : Class := { plain "java/util/SequencedCollection" (some 0) with
  accessFlags := 1537
  interfaces := #[24]
  cf := some (fileOf pool26 8 #[] #[] 1537 26 #[28] #[])
  fields := #[]
  methods := #[]
  instanceTypes := #[]
  staticTypes := #[]
  resolved := Array.replicate 57 none
  statics := none }

def pool27 : Array CpInfo := pool [(8, .class_ 10), (1, u "java/util/List"), (92, .class_ 104), (0, u "java/lang/Object"), (15, .class_ 121), (0, u "java/util/SequencedCollection")] 129

/-- java/util/List -/
def k27 : Class := { plain "java/util/List" (some 0) with
  accessFlags := 1537
  interfaces := #[26]
  cf := some (fileOf pool27 8 #[] #[] 1537 103 #[120] #[])
  fields := #[]
  methods := #[]
  instanceTypes := #[]
  staticTypes := #[]
  resolved := Array.replicate 251 none
  statics := none }

def pool28 : Array CpInfo := pool [(2, .class_ 4), (1, u "java/util/AbstractCollection"), (0, u "<init>"), (0, u "()V"), (1, .class_ 10), (1, u "java/util/AbstractList"), (0, u "modCount"), (0, u "I"), (64, .class_ 78), (0, u "java/util/AbstractList$Itr"), (3, .class_ 83), (0, u "java/util/AbstractList$ListItr"), (9, .class_ 94), (0, u "java/util/AbstractList$RandomAccessSubList"), (3, .class_ 99), (0, u "java/util/AbstractList$SubList"), (33, .class_ 134), (0, u "java/util/List"), (73, .class_ 209), (0, u "java/util/AbstractList$SubList$1"), (0, .class_ 211), (0, u "java/util/AbstractList$RandomAccessSpliterator")] 6

def k28m0 : Method := { name := "<init>", desc := "()V", sig := { parameters := [], returnType := none }, accessFlags := 4, code := none }
/-- java/util/AbstractList -/
def k28 : Class := { plain "java/util/AbstractList" (some 25) with
  accessFlags := 1057
  interfaces := #[27]
  cf := some (fileOf pool28 8 #[.nestMembers #[93, 98, 208, 210, 82, 77]] #[{ accessFlags := 4, nameIndex := 5, descriptorIndex := 6, attributes := #[] }] 1057 2 #[133] #[{ accessFlags := 132, nameIndex := 11, descriptorIndex := 12, attributes := #[] }])
  fields := #[{ name := "modCount", type := .int, accessFlags := 132, slot := 0, constantValue := 0 }]
  methods := #[k28m0]
  instanceTypes := #[.int]
  staticTypes := #[]
  resolved := Array.replicate 218 none
  statics := none }

def pool29 : Array CpInfo := pool [(1, .class_ 2), (0, u "java/util/RandomAccess"), (0, .class_ 4), (0, u "java/lang/Object")] 2

/-- java/util/RandomAccess -/
def k29 : Class := { plain "java/util/RandomAccess" (some 0) with
  accessFlags := 1537
  interfaces := #[]
  cf := some (fileOf pool29 1 #[] #[] 1537 3 #[] #[])
  fields := #[]
  methods := #[]
  instanceTypes := #[]
  staticTypes := #[]
  resolved := Array.replicate 7 none
  statics := none }

def pool30 : Array CpInfo := pool [(2, .class_ 4), (1, u "java/util/AbstractList"), (0, u "<init>"), (0, u "()V"), (1, .class_ 10), (1, u "java/util/Collections"), (54, .class_ 66), (0, u "java/util/Collections$EmptyList"), (0, .class_ 68), (0, u "java/util/RandomAccess"), (0, .class_ 70), (0, u "java/io/Serializable"), (0, u "serialVersionUID"), (0, u "J")] 77

def k30m0 : Method := { name := "<init>", desc := "()V", sig := { parameters := [], returnType := none }, accessFlags := 2, code := none }
/-- java/util/Collections$EmptyList -/
def k30 : Class := { plain "java/util/Collections$EmptyList" (some 28) with
  accessFlags := 32
  interfaces := #[29, 4]
  cf := some (fileOf pool30 65 #[.nestHost 8] #[{ accessFlags := 2, nameIndex := 5, descriptorIndex := 6, attributes := #[] }] 32 2 #[67, 69] #[{ accessFlags := 26, nameIndex := 71, descriptorIndex := 72, attributes := #[] }])
  fields := #[{ name := "serialVersionUID", type := .long, accessFlags := 26, slot := 0, constantValue := 0 }]
  methods := #[k30m0]
  instanceTypes := #[.int]
  staticTypes := #[.long]
  resolved := Array.replicate 150 none
  statics := none }

def pool31 : Array CpInfo := pool [(2, .class_ 4), (1, u "java/lang/StackTraceElement"), (0, u "<init>"), (2, .class_ 10), (1, u "java/lang/Object"), (0, u "()V"), (2, u "format"), (0, u "B"), (2, u "classLoaderName"), (0, u "Ljava/lang/String;"), (2, u "moduleName"), (2, u "moduleVersion"), (12, u "declaringClass"), (4, u "methodName"), (2, u "fileName"), (2, u "lineNumber"), (0, u "I"), (65, u "declaringClassObject"), (0, u "Ljava/lang/Class;"), (33, .class_ 153), (1, u "java/lang/StackTraceElement$HashedModules"), (17, .class_ 172), (0, u "java/io/Serializable"), (0, u "NATIVE_METHOD"), (1, u "UNKNOWN_SOURCE"), (2, u "BUILTIN_CLASS_LOADER"), (1, u "JDK_NON_UPGRADEABLE_MODULE"), (1, u "serialVersionUID"), (0, u "J")] 51

def k31m0 : Method := { name := "<init>", desc := "()V", sig := { parameters := [], returnType := none }, accessFlags := 2, code := none }
/-- java/lang/StackTraceElement -/
def k31 : Class := { plain "java/lang/StackTraceElement" (some 0) with
  accessFlags := 49
  interfaces := #[4]
  cf := some (fileOf pool31 2 #[.nestMembers #[151]] #[{ accessFlags := 2, nameIndex := 5, descriptorIndex := 11, attributes := #[] }] 49 8 #[171] #[{ accessFlags := 26, nameIndex := 173, descriptorIndex := 19, attributes := #[] }, { accessFlags := 26, nameIndex := 175, descriptorIndex := 19, attributes := #[] }, { accessFlags := 130, nameIndex := 116, descriptorIndex := 117, attributes := #[] }, { accessFlags := 2, nameIndex := 18, descriptorIndex := 19, attributes := #[] }, { accessFlags := 2, nameIndex := 22, descriptorIndex := 19, attributes := #[] }, { accessFlags := 2, nameIndex := 25, descriptorIndex := 19, attributes := #[] }, { accessFlags := 2, nameIndex := 38, descriptorIndex := 19, attributes := #[] }, { accessFlags := 2, nameIndex := 43, descriptorIndex := 19, attributes := #[] }, { accessFlags := 2, nameIndex := 46, descriptorIndex := 19, attributes := #[] }, { accessFlags := 2, nameIndex := 49, descriptorIndex := 50, attributes := #[] }, { accessFlags := 2, nameIndex := 14, descriptorIndex := 15, attributes := #[] }, { accessFlags := 26, nameIndex := 178, descriptorIndex := 15, attributes := #[] }, { accessFlags := 26, nameIndex := 180, descriptorIndex := 15, attributes := #[] }, { accessFlags := 26, nameIndex := 182, descriptorIndex := 183, attributes := #[] }])
  fields := #[{ name := "NATIVE_METHOD", type := (.object "java/lang/String"), accessFlags := 26, slot := 0, constantValue := 0 }, { name := "UNKNOWN_SOURCE", type := (.object "java/lang/String"), accessFlags := 26, slot := 1, constantValue := 0 }, { name := "declaringClassObject", type := (.object "java/lang/Class"), accessFlags := 130, slot := 0, constantValue := 0 }, { name := "classLoaderName", type := (.object "java/lang/String"), accessFlags := 2, slot := 1, constantValue := 0 }, { name := "moduleName", type := (.object "java/lang/String"), accessFlags := 2, slot := 2, constantValue := 0 }, { name := "moduleVersion", type := (.object "java/lang/String"), accessFlags := 2, slot := 3, constantValue := 0 }, { name := "declaringClass", type := (.object "java/lang/String"), accessFlags := 2, slot := 4, constantValue := 0 }, { name := "methodName", type := (.object "java/lang/String"), accessFlags := 2, slot := 5, constantValue := 0 }, { name := "fileName", type := (.object "java/lang/String"), accessFlags := 2, slot := 6, constantValue := 0 }, { name := "lineNumber", type := .int, accessFlags := 2, slot := 7, constantValue := 0 }, { name := "format", type := .byte, accessFlags := 2, slot := 8, constantValue := 0 }, { name := "BUILTIN_CLASS_LOADER", type := .byte, accessFlags := 26, slot := 2, constantValue := 0 }, { name := "JDK_NON_UPGRADEABLE_MODULE", type := .byte, accessFlags := 26, slot := 3, constantValue := 0 }, { name := "serialVersionUID", type := .long, accessFlags := 26, slot := 4, constantValue := 0 }]
  methods := #[k31m0]
  instanceTypes := #[(.object "java/lang/Class"), (.object "java/lang/String"), (.object "java/lang/String"), (.object "java/lang/String"), (.object "java/lang/String"), (.object "java/lang/String"), (.object "java/lang/String"), .int, .byte]
  staticTypes := #[(.object "java/lang/String"), (.object "java/lang/String"), .byte, .byte, .long]
  resolved := Array.replicate 235 none
  statics := none }

def pool32 : Array CpInfo := pool [(1, u "java/lang/Cloneable"), (0, .class_ 1), (0, u "java/lang/Object"), (0, .class_ 3)] 3

/-- java/lang/Cloneable -/
def k32 : Class := { plain "java/lang/Cloneable" (some 0) with
  accessFlags := 1537
  interfaces := #[]
  cf := some (fileOf pool32 2 #[] #[] 1537 4 #[] #[])
  fields := #[]
  methods := #[]
  instanceTypes := #[]
  staticTypes := #[]
  resolved := Array.replicate 8 none
  statics := none }

/-- the primitive byte -/
def k33 : Class := { plain "byte" none with kind := .primitive 'B', accessFlags := 0x411 }
/-- [B -/
def k34 : Class := { plain "[B" (some 0) with kind := .array 33 .byte, interfaces := #[32, 4], accessFlags := 1041 }

/-- the primitive char -/
def k35 : Class := { plain "char" none with kind := .primitive 'C', accessFlags := 0x411 }
/-- [C -/
def k36 : Class := { plain "[C" (some 0) with kind := .array 35 .char, interfaces := #[32, 4], accessFlags := 1041 }

/-- the primitive int -/
def k37 : Class := { plain "int" none with kind := .primitive 'I', accessFlags := 0x411 }
/-- [I -/
def k38 : Class := { plain "[I" (some 0) with kind := .array 37 .int, interfaces := #[32, 4], accessFlags := 1041 }

/-- [Lcom/example/surfacemap/surfacemap/model/Finding$Rule; -/
def k39 : Class := { plain "[Lcom/example/surfacemap/surfacemap/model/Finding$Rule;" (some 0) with kind := .array 6 (.object "com/example/surfacemap/surfacemap/model/Finding$Rule"), interfaces := #[32, 4], accessFlags := 1041 }

/-- [Ljava/lang/Object; -/
def k40 : Class := { plain "[Ljava/lang/Object;" (some 0) with kind := .array 0 (.object "java/lang/Object"), interfaces := #[32, 4], accessFlags := 1041 }

/-- [Ljava/lang/StackTraceElement; -/
def k41 : Class := { plain "[Ljava/lang/StackTraceElement;" (some 0) with kind := .array 31 (.object "java/lang/StackTraceElement"), interfaces := #[32, 4], accessFlags := 1041 }

/-- [Ljava/lang/Throwable; -/
def k42 : Class := { plain "[Ljava/lang/Throwable;" (some 0) with kind := .array 10 (.object "java/lang/Throwable"), interfaces := #[32, 4], accessFlags := 1041 }

def classes0 : Array Class := #[k0, k1, k2, k3, k4, k5, k6, k7, k8, k9, k10, k11, k12, k13, k14, k15, k16, k17, k18, k19, k20, k21, k22, k23, k24, k25, k26, k27, k28, k29, k30, k31, k32, k33, k34, k35, k36, k37, k38, k39, k40, k41, k42]
/-- the class that the rule has made for the site at 5 of com/example/surfacemap/surfacemap/model/Finding.of -/
def k43 : Class := Jvm.LamKit.madeRec { classes := classes0 } "com/example/surfacemap/surfacemap/model/Finding" (Jvm.Lambda.Shape.mk "java/util/function/Supplier" "get" (Jvm.ClassFile.MethodDescriptor.mk ([] : List Jvm.ClassFile.FieldType) (Option.some (Jvm.ClassFile.FieldType.object "java/lang/Object"))) ([(Jvm.ClassFile.FieldType.object "com/example/surfacemap/surfacemap/model/DocumentException")] : List Jvm.ClassFile.FieldType) (6 : Nat) "com/example/surfacemap/surfacemap/model/Finding" "lambda$of$0" (Jvm.ClassFile.MethodDescriptor.mk ([(Jvm.ClassFile.FieldType.object "com/example/surfacemap/surfacemap/model/DocumentException")] : List Jvm.ClassFile.FieldType) (Option.some (Jvm.ClassFile.FieldType.object "java/lang/IllegalArgumentException"))) false (Jvm.ClassFile.MethodDescriptor.mk ([] : List Jvm.ClassFile.FieldType) (Option.some (Jvm.ClassFile.FieldType.object "java/lang/IllegalArgumentException")))) 43

def heap : Heap := #[{ cls := 6, slots := #[.ref 7, .ref 8, .ref 9, .ref 10, .ref 11, .ref 12, .ref 13, .ref 14, .ref 15, .ref 16, .ref 17, .ref 18, .ref 19, .ref 20, .ref 21, .ref 22, .ref 23, .ref 24, .ref 25, .ref 26, .ref 27, .ref 28, .ref 29, .ref 30, .ref 31, .ref 32, .null], vm := .statics 6 },
  { cls := 9, slots := #[.long 0, .int 1, .null, .int 0, .null, .int 0, .int 0], vm := .statics 9 },
  { cls := 10, slots := #[.long 0, .ref 5, .ref 33, .null, .null, .null, .null, .ref 6, .int 1], vm := .statics 10 },
  { cls := 20, slots := #[.int 0, .int 0, .int 0, .int 0, .int 0, .int 0, .int 0, .int 0, .null, .null, .ref 33, .null], vm := .statics 20 },
  { cls := 21, slots := #[.null, .null, .null], vm := .statics 21 },
  { cls := 41, slots := #[], vm := .none },
  { cls := 42, slots := #[], vm := .none },
  { cls := 6, slots := #[.null, .int 0, .int 0, .null, .null], vm := .none },
  { cls := 6, slots := #[.null, .int 1, .int 0, .null, .null], vm := .none },
  { cls := 6, slots := #[.null, .int 2, .int 0, .null, .null], vm := .none },
  { cls := 6, slots := #[.null, .int 3, .int 0, .null, .null], vm := .none },
  { cls := 6, slots := #[.null, .int 4, .int 0, .null, .null], vm := .none },
  { cls := 6, slots := #[.null, .int 5, .int 0, .null, .null], vm := .none },
  { cls := 6, slots := #[.null, .int 6, .int 0, .null, .null], vm := .none },
  { cls := 6, slots := #[.null, .int 7, .int 0, .null, .null], vm := .none },
  { cls := 6, slots := #[.null, .int 8, .int 0, .null, .null], vm := .none },
  { cls := 6, slots := #[.null, .int 9, .int 0, .null, .null], vm := .none },
  { cls := 6, slots := #[.null, .int 10, .int 0, .null, .null], vm := .none },
  { cls := 6, slots := #[.null, .int 11, .int 0, .null, .null], vm := .none },
  { cls := 6, slots := #[.null, .int 12, .int 0, .null, .null], vm := .none },
  { cls := 6, slots := #[.null, .int 13, .int 0, .null, .null], vm := .none },
  { cls := 6, slots := #[.null, .int 14, .int 0, .null, .null], vm := .none },
  { cls := 6, slots := #[.null, .int 15, .int 0, .null, .null], vm := .none },
  { cls := 6, slots := #[.null, .int 16, .int 0, .null, .null], vm := .none },
  { cls := 6, slots := #[.null, .int 17, .int 0, .null, .null], vm := .none },
  { cls := 6, slots := #[.null, .int 18, .int 0, .null, .null], vm := .none },
  { cls := 6, slots := #[.null, .int 19, .int 0, .null, .null], vm := .none },
  { cls := 6, slots := #[.null, .int 20, .int 0, .null, .null], vm := .none },
  { cls := 6, slots := #[.null, .int 21, .int 0, .null, .null], vm := .none },
  { cls := 6, slots := #[.null, .int 22, .int 0, .null, .null], vm := .none },
  { cls := 6, slots := #[.null, .int 23, .int 0, .null, .null], vm := .none },
  { cls := 6, slots := #[.null, .int 24, .int 0, .null, .null], vm := .none },
  { cls := 6, slots := #[.null, .int 25, .int 0, .null, .null], vm := .none },
  { cls := 30, slots := #[.int 0], vm := .none }]
def classes : Array Class := #[k0, k1, k2, k3, k4, k5, k6, k7, k8, k9, k10, k11, k12, k13, k14, k15, k16, k17, k18, k19, k20, k21, k22, k23, k24, k25, k26, k27, k28, k29, k30, k31, k32, k33, k34, k35, k36, k37, k38, k39, k40, k41, k42, k43]
def interned : List (Array UInt16 × Addr) := []
def slotsUsed : Nat := 189
def theMethod : MethodId := ⟨1, 1⟩
def args0 : Array Value := #[.int 5, .int 66, .int 67, .int 11]
def aboutOver (below : List Frame) : State where
  vm := { classes := classes, interned := interned.toArray }
  heap := heap
  slotsUsed := slotsUsed
  threads := #[{ frames := .invoking theMethod args0 :: below }]
def below0 : List Frame := [.native { method := ⟨0, 0⟩, args := #[] }]
def about1 : State := aboutOver below0
def p0 : Program := .bare "" "" ""
def e0 : Env := launch0.env 0 0 0
theorem w_frames : about1.frames = Frame.invoking theMethod args0 :: below0 := rfl
set_option maxRecDepth 65536 in
theorem w_args : argsFit about1.vm theMethod args0 = true := by decide +kernel
set_option maxRecDepth 65536 in
theorem w_heap : heapFits about1 = true := by decide +kernel
set_option maxRecDepth 65536 in
theorem w_runnable : about1.curStatus? = some .runnable := by decide +kernel
set_option maxRecDepth 65536 in
theorem w_alone : about1.alone = true := by decide +kernel
set_option maxRecDepth 65536 in
theorem w_named : about1.methodNamed? x = some theMethod := by decide +kernel
set_option maxRecDepth 65536 in
theorem w_hears : about1.hears theMethod below0 = true := by decide +kernel
set_option maxRecDepth 65536 in
theorem w_ripe : about1.ripe theMethod args0 below0 = true := by decide +kernel
theorem w_running : about1.status = .running := rfl
set_option maxRecDepth 65536 in
theorem w_room : about1.hasRoom e0.platform room_1 = true :=
  launch0.hasRoom_least _ room_1 (by decide +kernel) (by decide +kernel) (by decide +kernel) (by decide +kernel) (by decide +kernel) (by decide +kernel)
theorem allAtoms_all (ts : List Jvm.Cond) (a : Array Jvm.Value) (st : Jvm.State) : (allAtoms ts).before a st = ts.all (fun c => c.before a st) := by
  induction ts with
  | nil => rfl
  | cons c t ih =>
    show (Jvm.Cond.and c (allAtoms t)).before a st = _
    rw [Jvm.Cond.before_and, ih, List.all_cons]
def words1 : List Jvm.Cond := Jvm.Cond.code x code maxLocals ret :: tables_1
/-- a 'code' word, met by the world's own term for the bytes: nothing is compared byte by byte -/
theorem code_word {y : MethodName} {bytes : ByteArray} {mx : Nat} {rt : Option FieldType} {a : Array Value} {s : State} {m : MethodId} {meth : Method} {c : Code} (h1 : s.methodNamed? y = some m) (h2 : s.vm.method? m = some meth) (h3 : meth.code = some c) (h4 : c.code = bytes)
    (h5 : (c.maxLocals == mx && c.exceptionTable.isEmpty && decide (c.maxStack ≤ mostOperands) && decide (meth.sig.returnType = rt) && !meth.locks && decide (parseMethodDescriptor y.desc = some meth.sig)) = true) : (Jvm.Cond.code y bytes mx rt).before a s = true := by
  simp only [Bool.and_eq_true, beq_iff_eq, Bool.not_eq_true', decide_eq_true_eq] at h5
  obtain ⟨⟨⟨⟨⟨g1, g2⟩, g3⟩, g4⟩, g5⟩, g6⟩ := h5
  simp [Cond.before, Cond.holds, Cond.value, h1, h2, h3, h4, g1, g2, g3, g4, g5, g6]
def isCode : Jvm.Cond → Bool
  | .code _ _ _ _ => true
  | _ => false
theorem all_split {L : List Jvm.Cond} {P : Jvm.Cond → Bool} (h1 : L.all (fun c => isCode c || P c) = true) (h2 : ∀ c ∈ L.filter isCode, P c = true) : L.all P = true := by
  refine List.all_eq_true.mpr fun c hc => ?_
  have h := List.all_eq_true.mp h1 c hc
  rcases Bool.eq_false_or_eq_true (isCode c) with hi | hi
  · exact h2 c (List.mem_filter.mpr ⟨hc, hi⟩)
  · simpa [hi] using h
set_option maxRecDepth 65536 in
theorem w_c0 : (Jvm.Cond.code x code maxLocals ret).before args0 about1 = true := code_word (m := ⟨1, 1⟩) (meth := k1m1) (c := k1c1) (by decide +kernel) rfl rfl rfl (by decide +kernel)
set_option maxRecDepth 65536 in
theorem w_c1 : (Jvm.Cond.code ({ cls := "com/example/surfacemap/surfacemap/model/FindingOfPinLaw", name := "pick", desc := "(I)Lcom/example/surfacemap/surfacemap/model/Finding$Rule;" } : Jvm.MethodName) method_3_code (2 : Nat) (Option.some (Jvm.ClassFile.FieldType.object "com/example/surfacemap/surfacemap/model/Finding$Rule"))).before args0 about1 = true := code_word (m := ⟨1, 2⟩) (meth := k1m2) (c := k1c2) (by decide +kernel) rfl rfl rfl (by decide +kernel)
set_option maxRecDepth 65536 in
theorem w_c2 : (Jvm.Cond.code ({ cls := "com/example/surfacemap/surfacemap/model/FindingOfPinLaw", name := "str", desc := "(II)Ljava/lang/String;" } : Jvm.MethodName) method_4_code (4 : Nat) (Option.some (Jvm.ClassFile.FieldType.object "java/lang/String"))).before args0 about1 = true := code_word (m := ⟨1, 3⟩) (meth := k1m3) (c := k1c3) (by decide +kernel) rfl rfl rfl (by decide +kernel)
set_option maxRecDepth 65536 in
theorem w_c3 : (Jvm.Cond.code ({ cls := "java/lang/String", name := "<init>", desc := "([C)V" } : Jvm.MethodName) jdk_42_method_3_code (2 : Nat) (Option.none : Option Jvm.ClassFile.FieldType)).before args0 about1 = true := code_word (m := ⟨9, 1⟩) (meth := k9m1) (c := k9c1) (by decide +kernel) rfl rfl rfl (by decide +kernel)
set_option maxRecDepth 65536 in
theorem w_c4 : (Jvm.Cond.code ({ cls := "java/lang/String", name := "<init>", desc := "([CIILjava/lang/Void;)V" } : Jvm.MethodName) jdk_42_method_149_code (6 : Nat) (Option.none : Option Jvm.ClassFile.FieldType)).before args0 about1 = true := code_word (m := ⟨9, 4⟩) (meth := k9m4) (c := k9c4) (by decide +kernel) rfl rfl rfl (by decide +kernel)
set_option maxRecDepth 65536 in
theorem w_c5 : (Jvm.Cond.code ({ cls := "java/lang/Object", name := "<init>", desc := "()V" } : Jvm.MethodName) object_method_1_code (1 : Nat) (Option.none : Option Jvm.ClassFile.FieldType)).before args0 about1 = true := code_word (m := ⟨0, 0⟩) (meth := k0m0) (c := k0c0) (by decide +kernel) rfl rfl rfl (by decide +kernel)
set_option maxRecDepth 65536 in
theorem w_c6 : (Jvm.Cond.code ({ cls := "com/example/surfacemap/surfacemap/model/DocumentException", name := "<init>", desc := "(Lcom/example/surfacemap/surfacemap/model/Finding$Rule;Ljava/lang/String;Ljava/lang/String;)V" } : Jvm.MethodName) prog_4_method_2_code (4 : Nat) (Option.none : Option Jvm.ClassFile.FieldType)).before args0 about1 = true := code_word (m := ⟨12, 0⟩) (meth := k12m0) (c := k12c0) (by decide +kernel) rfl rfl rfl (by decide +kernel)
set_option maxRecDepth 65536 in
theorem w_c7 : (Jvm.Cond.code ({ cls := "java/lang/Exception", name := "<init>", desc := "(Ljava/lang/String;)V" } : Jvm.MethodName) jdk_59_method_2_code (2 : Nat) (Option.none : Option Jvm.ClassFile.FieldType)).before args0 about1 = true := code_word (m := ⟨11, 1⟩) (meth := k11m1) (c := k11c1) (by decide +kernel) rfl rfl rfl (by decide +kernel)
set_option maxRecDepth 65536 in
theorem w_c8 : (Jvm.Cond.code ({ cls := "java/lang/Throwable", name := "<init>", desc := "(Ljava/lang/String;)V" } : Jvm.MethodName) jdk_78_method_2_code (2 : Nat) (Option.none : Option Jvm.ClassFile.FieldType)).before args0 about1 = true := code_word (m := ⟨10, 1⟩) (meth := k10m1) (c := k10c1) (by decide +kernel) rfl rfl rfl (by decide +kernel)
set_option maxRecDepth 65536 in
theorem w_c9 : (Jvm.Cond.code ({ cls := "java/lang/Throwable", name := "<init>", desc := "()V" } : Jvm.MethodName) jdk_78_method_1_code (1 : Nat) (Option.none : Option Jvm.ClassFile.FieldType)).before args0 about1 = true := code_word (m := ⟨10, 0⟩) (meth := k10m0) (c := k10c0) (by decide +kernel) rfl rfl rfl (by decide +kernel)
set_option maxRecDepth 65536 in
theorem w_c10 : (Jvm.Cond.code ({ cls := "java/util/Objects", name := "requireNonNull", desc := "(Ljava/lang/Object;)Ljava/lang/Object;" } : Jvm.MethodName) jdk_31_method_10_code (1 : Nat) (Option.some (Jvm.ClassFile.FieldType.object "java/lang/Object"))).before args0 about1 = true := code_word (m := ⟨13, 1⟩) (meth := k13m1) (c := k13c1) (by decide +kernel) rfl rfl rfl (by decide +kernel)
set_option maxRecDepth 65536 in
theorem w_c11 : (Jvm.Cond.code ({ cls := "com/example/surfacemap/surfacemap/model/Finding", name := "of", desc := "(Lcom/example/surfacemap/surfacemap/model/DocumentException;)Lcom/example/surfacemap/surfacemap/model/Finding;" } : Jvm.MethodName) prog_5_method_2_code (2 : Nat) (Option.some (Jvm.ClassFile.FieldType.object "com/example/surfacemap/surfacemap/model/Finding"))).before args0 about1 = true := code_word (m := ⟨15, 1⟩) (meth := k15m1) (c := k15c1) (by decide +kernel) rfl rfl rfl (by decide +kernel)
set_option maxRecDepth 65536 in
theorem w_c12 : (Jvm.Cond.code ({ cls := "com/example/surfacemap/surfacemap/model/DocumentException", name := "rule", desc := "()Ljava/util/Optional;" } : Jvm.MethodName) prog_4_method_3_code (1 : Nat) (Option.some (Jvm.ClassFile.FieldType.object "java/util/Optional"))).before args0 about1 = true := code_word (m := ⟨12, 1⟩) (meth := k12m1) (c := k12c1) (by decide +kernel) rfl rfl rfl (by decide +kernel)
set_option maxRecDepth 65536 in
theorem w_c13 : (Jvm.Cond.code ({ cls := "java/util/Optional", name := "ofNullable", desc := "(Ljava/lang/Object;)Ljava/util/Optional;" } : Jvm.MethodName) jdk_32_method_4_code (1 : Nat) (Option.some (Jvm.ClassFile.FieldType.object "java/util/Optional"))).before args0 about1 = true := code_word (m := ⟨16, 1⟩) (meth := k16m1) (c := k16c1) (by decide +kernel) rfl rfl rfl (by decide +kernel)
set_option maxRecDepth 65536 in
theorem w_c14 : (Jvm.Cond.code ({ cls := "java/util/Optional", name := "<init>", desc := "(Ljava/lang/Object;)V" } : Jvm.MethodName) jdk_32_method_2_code (2 : Nat) (Option.none : Option Jvm.ClassFile.FieldType)).before args0 about1 = true := code_word (m := ⟨16, 0⟩) (meth := k16m0) (c := k16c0) (by decide +kernel) rfl rfl rfl (by decide +kernel)
set_option maxRecDepth 65536 in
theorem w_c15 : (Jvm.Cond.code ({ cls := "java/util/Optional", name := "orElseThrow", desc := "(Ljava/util/function/Supplier;)Ljava/lang/Object;" } : Jvm.MethodName) jdk_32_method_18_code (2 : Nat) (Option.some (Jvm.ClassFile.FieldType.object "java/lang/Object"))).before args0 about1 = true := code_word (m := ⟨16, 2⟩) (meth := k16m2) (c := k16c2) (by decide +kernel) rfl rfl rfl (by decide +kernel)
set_option maxRecDepth 65536 in
theorem w_c16 : (Jvm.Cond.code ({ cls := "com/example/surfacemap/surfacemap/model/DocumentException", name := "location", desc := "()Ljava/lang/String;" } : Jvm.MethodName) prog_4_method_4_code (1 : Nat) (Option.some (Jvm.ClassFile.FieldType.object "java/lang/String"))).before args0 about1 = true := code_word (m := ⟨12, 2⟩) (meth := k12m2) (c := k12c2) (by decide +kernel) rfl rfl rfl (by decide +kernel)
set_option maxRecDepth 65536 in
theorem w_c17 : (Jvm.Cond.code ({ cls := "java/lang/Throwable", name := "getMessage", desc := "()Ljava/lang/String;" } : Jvm.MethodName) jdk_78_method_6_code (1 : Nat) (Option.some (Jvm.ClassFile.FieldType.object "java/lang/String"))).before args0 about1 = true := code_word (m := ⟨10, 2⟩) (meth := k10m2) (c := k10c2) (by decide +kernel) rfl rfl rfl (by decide +kernel)
set_option maxRecDepth 65536 in
theorem w_c18 : (Jvm.Cond.code ({ cls := "com/example/surfacemap/surfacemap/model/Finding", name := "<init>", desc := "(Lcom/example/surfacemap/surfacemap/model/Finding$Rule;Ljava/lang/String;Ljava/lang/String;)V" } : Jvm.MethodName) prog_5_method_1_code (4 : Nat) (Option.none : Option Jvm.ClassFile.FieldType)).before args0 about1 = true := code_word (m := ⟨15, 0⟩) (meth := k15m0) (c := k15c0) (by decide +kernel) rfl rfl rfl (by decide +kernel)
set_option maxRecDepth 65536 in
theorem w_c19 : (Jvm.Cond.code ({ cls := "java/lang/Record", name := "<init>", desc := "()V" } : Jvm.MethodName) jdk_30_method_1_code (1 : Nat) (Option.none : Option Jvm.ClassFile.FieldType)).before args0 about1 = true := code_word (m := ⟨14, 0⟩) (meth := k14m0) (c := k14c0) (by decide +kernel) rfl rfl rfl (by decide +kernel)
set_option maxRecDepth 65536 in
theorem w_c20 : (Jvm.Cond.code ({ cls := "com/example/surfacemap/surfacemap/model/Finding", name := "rule", desc := "()Lcom/example/surfacemap/surfacemap/model/Finding$Rule;" } : Jvm.MethodName) prog_5_method_7_code (1 : Nat) (Option.some (Jvm.ClassFile.FieldType.object "com/example/surfacemap/surfacemap/model/Finding$Rule"))).before args0 about1 = true := code_word (m := ⟨15, 2⟩) (meth := k15m2) (c := k15c2) (by decide +kernel) rfl rfl rfl (by decide +kernel)
set_option maxRecDepth 65536 in
theorem w_c21 : (Jvm.Cond.code ({ cls := "com/example/surfacemap/surfacemap/model/Finding", name := "location", desc := "()Ljava/lang/String;" } : Jvm.MethodName) prog_5_method_8_code (1 : Nat) (Option.some (Jvm.ClassFile.FieldType.object "java/lang/String"))).before args0 about1 = true := code_word (m := ⟨15, 3⟩) (meth := k15m3) (c := k15c3) (by decide +kernel) rfl rfl rfl (by decide +kernel)
set_option maxRecDepth 65536 in
theorem w_c22 : (Jvm.Cond.code ({ cls := "com/example/surfacemap/surfacemap/model/FindingOfPinLaw", name := "same", desc := "(Ljava/lang/String;Ljava/lang/String;)Z" } : Jvm.MethodName) method_5_code (2 : Nat) (Option.some Jvm.ClassFile.FieldType.boolean)).before args0 about1 = true := code_word (m := ⟨1, 4⟩) (meth := k1m4) (c := k1c4) (by decide +kernel) rfl rfl rfl (by decide +kernel)
set_option maxRecDepth 65536 in
theorem w_c23 : (Jvm.Cond.code ({ cls := "java/lang/String", name := "equals", desc := "(Ljava/lang/Object;)Z" } : Jvm.MethodName) jdk_42_method_66_code (3 : Nat) (Option.some Jvm.ClassFile.FieldType.boolean)).before args0 about1 = true := code_word (m := ⟨9, 2⟩) (meth := k9m2) (c := k9c2) (by decide +kernel) rfl rfl rfl (by decide +kernel)
set_option maxRecDepth 65536 in
theorem w_c24 : (Jvm.Cond.code ({ cls := "com/example/surfacemap/surfacemap/model/Finding", name := "message", desc := "()Ljava/lang/String;" } : Jvm.MethodName) prog_5_method_9_code (1 : Nat) (Option.some (Jvm.ClassFile.FieldType.object "java/lang/String"))).before args0 about1 = true := code_word (m := ⟨15, 4⟩) (meth := k15m4) (c := k15c4) (by decide +kernel) rfl rfl rfl (by decide +kernel)
set_option maxRecDepth 65536 in
theorem w_c25 : (Jvm.Cond.code ({ cls := "java/lang/String", name := "valueOf", desc := "(C)Ljava/lang/String;" } : Jvm.MethodName) jdk_42_method_139_code (1 : Nat) (Option.some (Jvm.ClassFile.FieldType.object "java/lang/String"))).before args0 about1 = true := code_word (m := ⟨9, 3⟩) (meth := k9m3) (c := k9c3) (by decide +kernel) rfl rfl rfl (by decide +kernel)
set_option maxRecDepth 65536 in
theorem w_c26 : (Jvm.Cond.code ({ cls := "java/lang/StringLatin1", name := "canEncode", desc := "(C)Z" } : Jvm.MethodName) jdk_43_method_3_code (1 : Nat) (Option.some Jvm.ClassFile.FieldType.boolean)).before args0 about1 = true := code_word (m := ⟨18, 1⟩) (meth := k18m1) (c := k18c1) (by decide +kernel) rfl rfl rfl (by decide +kernel)
set_option maxRecDepth 65536 in
theorem w_c27 : (Jvm.Cond.code ({ cls := "java/lang/StringLatin1", name := "toBytes", desc := "(C)[B" } : Jvm.MethodName) jdk_43_method_46_code (1 : Nat) (Option.some (Jvm.ClassFile.FieldType.array Jvm.ClassFile.FieldType.byte))).before args0 about1 = true := code_word (m := ⟨18, 2⟩) (meth := k18m2) (c := k18c2) (by decide +kernel) rfl rfl rfl (by decide +kernel)
set_option maxRecDepth 65536 in
theorem w_c28 : (Jvm.Cond.code ({ cls := "java/lang/String", name := "<init>", desc := "([BB)V" } : Jvm.MethodName) jdk_42_method_151_code (3 : Nat) (Option.none : Option Jvm.ClassFile.FieldType)).before args0 about1 = true := code_word (m := ⟨9, 5⟩) (meth := k9m5) (c := k9c5) (by decide +kernel) rfl rfl rfl (by decide +kernel)
set_option maxRecDepth 65536 in
theorem w_c29 : (Jvm.Cond.code ({ cls := "java/lang/StringUTF16", name := "compress", desc := "([CII)[B" } : Jvm.MethodName) jdk_52_method_16_code (6 : Nat) (Option.some (Jvm.ClassFile.FieldType.array Jvm.ClassFile.FieldType.byte))).before args0 about1 = true := code_word (m := ⟨19, 2⟩) (meth := k19m2) (c := k19c2) (by decide +kernel) rfl rfl rfl (by decide +kernel)
set_option maxRecDepth 65536 in
theorem w_c30 : (Jvm.Cond.code ({ cls := "java/lang/StringUTF16", name := "compress", desc := "([CI[BII)I" } : Jvm.MethodName) jdk_52_method_21_code (7 : Nat) (Option.some Jvm.ClassFile.FieldType.int)).before args0 about1 = true := code_word (m := ⟨19, 3⟩) (meth := k19m3) (c := k19c3) (by decide +kernel) rfl rfl rfl (by decide +kernel)
set_option maxRecDepth 65536 in
theorem w_c31 : (Jvm.Cond.code ({ cls := "java/lang/StringUTF16", name := "coderFromArrayLen", desc := "([BI)B" } : Jvm.MethodName) jdk_52_method_15_code (2 : Nat) (Option.some Jvm.ClassFile.FieldType.byte)).before args0 about1 = true := code_word (m := ⟨19, 1⟩) (meth := k19m1) (c := k19c1) (by decide +kernel) rfl rfl rfl (by decide +kernel)
def codes1 : List Jvm.Cond := [Jvm.Cond.code x code maxLocals ret, Jvm.Cond.code ({ cls := "com/example/surfacemap/surfacemap/model/FindingOfPinLaw", name := "pick", desc := "(I)Lcom/example/surfacemap/surfacemap/model/Finding$Rule;" } : Jvm.MethodName) method_3_code (2 : Nat) (Option.some (Jvm.ClassFile.FieldType.object "com/example/surfacemap/surfacemap/model/Finding$Rule")), Jvm.Cond.code ({ cls := "com/example/surfacemap/surfacemap/model/FindingOfPinLaw", name := "str", desc := "(II)Ljava/lang/String;" } : Jvm.MethodName) method_4_code (4 : Nat) (Option.some (Jvm.ClassFile.FieldType.object "java/lang/String")), Jvm.Cond.code ({ cls := "java/lang/String", name := "<init>", desc := "([C)V" } : Jvm.MethodName) jdk_42_method_3_code (2 : Nat) (Option.none : Option Jvm.ClassFile.FieldType), Jvm.Cond.code ({ cls := "java/lang/String", name := "<init>", desc := "([CIILjava/lang/Void;)V" } : Jvm.MethodName) jdk_42_method_149_code (6 : Nat) (Option.none : Option Jvm.ClassFile.FieldType), Jvm.Cond.code ({ cls := "java/lang/Object", name := "<init>", desc := "()V" } : Jvm.MethodName) object_method_1_code (1 : Nat) (Option.none : Option Jvm.ClassFile.FieldType), Jvm.Cond.code ({ cls := "com/example/surfacemap/surfacemap/model/DocumentException", name := "<init>", desc := "(Lcom/example/surfacemap/surfacemap/model/Finding$Rule;Ljava/lang/String;Ljava/lang/String;)V" } : Jvm.MethodName) prog_4_method_2_code (4 : Nat) (Option.none : Option Jvm.ClassFile.FieldType), Jvm.Cond.code ({ cls := "java/lang/Exception", name := "<init>", desc := "(Ljava/lang/String;)V" } : Jvm.MethodName) jdk_59_method_2_code (2 : Nat) (Option.none : Option Jvm.ClassFile.FieldType), Jvm.Cond.code ({ cls := "java/lang/Throwable", name := "<init>", desc := "(Ljava/lang/String;)V" } : Jvm.MethodName) jdk_78_method_2_code (2 : Nat) (Option.none : Option Jvm.ClassFile.FieldType), Jvm.Cond.code ({ cls := "java/lang/Throwable", name := "<init>", desc := "()V" } : Jvm.MethodName) jdk_78_method_1_code (1 : Nat) (Option.none : Option Jvm.ClassFile.FieldType), Jvm.Cond.code ({ cls := "java/util/Objects", name := "requireNonNull", desc := "(Ljava/lang/Object;)Ljava/lang/Object;" } : Jvm.MethodName) jdk_31_method_10_code (1 : Nat) (Option.some (Jvm.ClassFile.FieldType.object "java/lang/Object")), Jvm.Cond.code ({ cls := "com/example/surfacemap/surfacemap/model/Finding", name := "of", desc := "(Lcom/example/surfacemap/surfacemap/model/DocumentException;)Lcom/example/surfacemap/surfacemap/model/Finding;" } : Jvm.MethodName) prog_5_method_2_code (2 : Nat) (Option.some (Jvm.ClassFile.FieldType.object "com/example/surfacemap/surfacemap/model/Finding")), Jvm.Cond.code ({ cls := "com/example/surfacemap/surfacemap/model/DocumentException", name := "rule", desc := "()Ljava/util/Optional;" } : Jvm.MethodName) prog_4_method_3_code (1 : Nat) (Option.some (Jvm.ClassFile.FieldType.object "java/util/Optional")), Jvm.Cond.code ({ cls := "java/util/Optional", name := "ofNullable", desc := "(Ljava/lang/Object;)Ljava/util/Optional;" } : Jvm.MethodName) jdk_32_method_4_code (1 : Nat) (Option.some (Jvm.ClassFile.FieldType.object "java/util/Optional")), Jvm.Cond.code ({ cls := "java/util/Optional", name := "<init>", desc := "(Ljava/lang/Object;)V" } : Jvm.MethodName) jdk_32_method_2_code (2 : Nat) (Option.none : Option Jvm.ClassFile.FieldType), Jvm.Cond.code ({ cls := "java/util/Optional", name := "orElseThrow", desc := "(Ljava/util/function/Supplier;)Ljava/lang/Object;" } : Jvm.MethodName) jdk_32_method_18_code (2 : Nat) (Option.some (Jvm.ClassFile.FieldType.object "java/lang/Object")), Jvm.Cond.code ({ cls := "com/example/surfacemap/surfacemap/model/DocumentException", name := "location", desc := "()Ljava/lang/String;" } : Jvm.MethodName) prog_4_method_4_code (1 : Nat) (Option.some (Jvm.ClassFile.FieldType.object "java/lang/String")), Jvm.Cond.code ({ cls := "java/lang/Throwable", name := "getMessage", desc := "()Ljava/lang/String;" } : Jvm.MethodName) jdk_78_method_6_code (1 : Nat) (Option.some (Jvm.ClassFile.FieldType.object "java/lang/String")), Jvm.Cond.code ({ cls := "com/example/surfacemap/surfacemap/model/Finding", name := "<init>", desc := "(Lcom/example/surfacemap/surfacemap/model/Finding$Rule;Ljava/lang/String;Ljava/lang/String;)V" } : Jvm.MethodName) prog_5_method_1_code (4 : Nat) (Option.none : Option Jvm.ClassFile.FieldType), Jvm.Cond.code ({ cls := "java/lang/Record", name := "<init>", desc := "()V" } : Jvm.MethodName) jdk_30_method_1_code (1 : Nat) (Option.none : Option Jvm.ClassFile.FieldType), Jvm.Cond.code ({ cls := "com/example/surfacemap/surfacemap/model/Finding", name := "rule", desc := "()Lcom/example/surfacemap/surfacemap/model/Finding$Rule;" } : Jvm.MethodName) prog_5_method_7_code (1 : Nat) (Option.some (Jvm.ClassFile.FieldType.object "com/example/surfacemap/surfacemap/model/Finding$Rule")), Jvm.Cond.code ({ cls := "com/example/surfacemap/surfacemap/model/Finding", name := "location", desc := "()Ljava/lang/String;" } : Jvm.MethodName) prog_5_method_8_code (1 : Nat) (Option.some (Jvm.ClassFile.FieldType.object "java/lang/String")), Jvm.Cond.code ({ cls := "com/example/surfacemap/surfacemap/model/FindingOfPinLaw", name := "same", desc := "(Ljava/lang/String;Ljava/lang/String;)Z" } : Jvm.MethodName) method_5_code (2 : Nat) (Option.some Jvm.ClassFile.FieldType.boolean), Jvm.Cond.code ({ cls := "java/lang/String", name := "equals", desc := "(Ljava/lang/Object;)Z" } : Jvm.MethodName) jdk_42_method_66_code (3 : Nat) (Option.some Jvm.ClassFile.FieldType.boolean), Jvm.Cond.code ({ cls := "com/example/surfacemap/surfacemap/model/Finding", name := "message", desc := "()Ljava/lang/String;" } : Jvm.MethodName) prog_5_method_9_code (1 : Nat) (Option.some (Jvm.ClassFile.FieldType.object "java/lang/String")), Jvm.Cond.code ({ cls := "java/lang/String", name := "valueOf", desc := "(C)Ljava/lang/String;" } : Jvm.MethodName) jdk_42_method_139_code (1 : Nat) (Option.some (Jvm.ClassFile.FieldType.object "java/lang/String")), Jvm.Cond.code ({ cls := "java/lang/StringLatin1", name := "canEncode", desc := "(C)Z" } : Jvm.MethodName) jdk_43_method_3_code (1 : Nat) (Option.some Jvm.ClassFile.FieldType.boolean), Jvm.Cond.code ({ cls := "java/lang/StringLatin1", name := "toBytes", desc := "(C)[B" } : Jvm.MethodName) jdk_43_method_46_code (1 : Nat) (Option.some (Jvm.ClassFile.FieldType.array Jvm.ClassFile.FieldType.byte)), Jvm.Cond.code ({ cls := "java/lang/String", name := "<init>", desc := "([BB)V" } : Jvm.MethodName) jdk_42_method_151_code (3 : Nat) (Option.none : Option Jvm.ClassFile.FieldType), Jvm.Cond.code ({ cls := "java/lang/StringUTF16", name := "compress", desc := "([CII)[B" } : Jvm.MethodName) jdk_52_method_16_code (6 : Nat) (Option.some (Jvm.ClassFile.FieldType.array Jvm.ClassFile.FieldType.byte)), Jvm.Cond.code ({ cls := "java/lang/StringUTF16", name := "compress", desc := "([CI[BII)I" } : Jvm.MethodName) jdk_52_method_21_code (7 : Nat) (Option.some Jvm.ClassFile.FieldType.int), Jvm.Cond.code ({ cls := "java/lang/StringUTF16", name := "coderFromArrayLen", desc := "([BI)B" } : Jvm.MethodName) jdk_52_method_15_code (2 : Nat) (Option.some Jvm.ClassFile.FieldType.byte)]
set_option maxRecDepth 65536 in
theorem codes_eq : words1.filter isCode = codes1 := rfl
theorem w_codes : ∀ c ∈ words1.filter isCode, c.before args0 about1 = true := by
  rw [codes_eq]
  intro c hc
  simp only [codes1, List.mem_cons, List.not_mem_nil, or_false] at hc
  rcases hc with rfl | rfl | rfl | rfl | rfl | rfl | rfl | rfl | rfl | rfl | rfl | rfl | rfl | rfl | rfl | rfl | rfl | rfl | rfl | rfl | rfl | rfl | rfl | rfl | rfl | rfl | rfl | rfl | rfl | rfl | rfl | rfl
  · exact w_c0
  · exact w_c1
  · exact w_c2
  · exact w_c3
  · exact w_c4
  · exact w_c5
  · exact w_c6
  · exact w_c7
  · exact w_c8
  · exact w_c9
  · exact w_c10
  · exact w_c11
  · exact w_c12
  · exact w_c13
  · exact w_c14
  · exact w_c15
  · exact w_c16
  · exact w_c17
  · exact w_c18
  · exact w_c19
  · exact w_c20
  · exact w_c21
  · exact w_c22
  · exact w_c23
  · exact w_c24
  · exact w_c25
  · exact w_c26
  · exact w_c27
  · exact w_c28
  · exact w_c29
  · exact w_c30
  · exact w_c31
set_option maxRecDepth 65536 in
theorem w_t1 : (words1.take 24).all (fun c => isCode c || c.before args0 about1) = true := by decide +kernel
set_option maxRecDepth 65536 in
theorem w_t2 : ((words1.drop 24).take 24).all (fun c => isCode c || c.before args0 about1) = true := by decide +kernel
set_option maxRecDepth 65536 in
theorem w_t3 : (((words1.drop 24).drop 24).take 24).all (fun c => isCode c || c.before args0 about1) = true := by decide +kernel
set_option maxRecDepth 65536 in
theorem w_t4 : ((((words1.drop 24).drop 24).drop 24).take 24).all (fun c => isCode c || c.before args0 about1) = true := by decide +kernel
set_option maxRecDepth 65536 in
theorem w_t5 : (((((words1.drop 24).drop 24).drop 24).drop 24).take 24).all (fun c => isCode c || c.before args0 about1) = true := by decide +kernel
set_option maxRecDepth 65536 in
theorem w_t6 : ((((((words1.drop 24).drop 24).drop 24).drop 24).drop 24).take 24).all (fun c => isCode c || c.before args0 about1) = true := by decide +kernel
set_option maxRecDepth 65536 in
theorem w_t7 : (((((((words1.drop 24).drop 24).drop 24).drop 24).drop 24).drop 24).take 24).all (fun c => isCode c || c.before args0 about1) = true := by decide +kernel
set_option maxRecDepth 65536 in
theorem w_t8 : ((((((((words1.drop 24).drop 24).drop 24).drop 24).drop 24).drop 24).drop 24).take 24).all (fun c => isCode c || c.before args0 about1) = true := by decide +kernel
set_option maxRecDepth 65536 in
theorem w_t9 : (((((((((words1.drop 24).drop 24).drop 24).drop 24).drop 24).drop 24).drop 24).drop 24).take 24).all (fun c => isCode c || c.before args0 about1) = true := by decide +kernel
set_option maxRecDepth 65536 in
theorem w_t10 : ((((((((((words1.drop 24).drop 24).drop 24).drop 24).drop 24).drop 24).drop 24).drop 24).drop 24).take 24).all (fun c => isCode c || c.before args0 about1) = true := by decide +kernel
set_option maxRecDepth 65536 in
theorem w_t11 : ((((((((((words1.drop 24).drop 24).drop 24).drop 24).drop 24).drop 24).drop 24).drop 24).drop 24).drop 24).all (fun c => isCode c || c.before args0 about1) = true := by decide +kernel
theorem w_tables : (allAtoms (Jvm.Cond.code x code maxLocals ret :: tables_1)).before args0 about1 = true := by
  rw [allAtoms_all]
  show words1.all (fun c => c.before args0 about1) = true
  refine all_split ?_ w_codes
  rw [← List.take_append_drop 24 words1, List.all_append, w_t1, ← List.take_append_drop 24 (words1.drop 24), List.all_append, w_t2, ← List.take_append_drop 24 ((words1.drop 24).drop 24), List.all_append, w_t3, ← List.take_append_drop 24 (((words1.drop 24).drop 24).drop 24), List.all_append, w_t4, ← List.take_append_drop 24 ((((words1.drop 24).drop 24).drop 24).drop 24), List.all_append, w_t5, ← List.take_append_drop 24 (((((words1.drop 24).drop 24).drop 24).drop 24).drop 24), List.all_append, w_t6, ← List.take_append_drop 24 ((((((words1.drop 24).drop 24).drop 24).drop 24).drop 24).drop 24), List.all_append, w_t7, ← List.take_append_drop 24 (((((((words1.drop 24).drop 24).drop 24).drop 24).drop 24).drop 24).drop 24), List.all_append, w_t8, ← List.take_append_drop 24 ((((((((words1.drop 24).drop 24).drop 24).drop 24).drop 24).drop 24).drop 24).drop 24), List.all_append, w_t9, ← List.take_append_drop 24 (((((((((words1.drop 24).drop 24).drop 24).drop 24).drop 24).drop 24).drop 24).drop 24).drop 24), List.all_append, w_t10, w_t11]
  rfl
set_option maxRecDepth 65536 in
theorem w_rest : rest_1_c.before args0 about1 = true := by decide +kernel
set_option maxRecDepth 65536 in
theorem w_case : (Jvm.Cond.and given_1 narrow_1).before args0 about1 = true := by decide +kernel
set_option maxRecDepth 65536 in
theorem w_consts : constsHeld consts_1 about1 := Jvm.Lit.constsHeldB_iff.mp (by decide +kernel)
theorem w_applies : (headSpec (Jvm.Cond.code x code maxLocals ret :: tables_1) room_1).applies x e0.platform about1 = true :=
  (Spec.applies_iff w_frames).mpr ⟨w_running, w_runnable, w_alone, w_named, w_hears, w_ripe, w_room, w_tables⟩
theorem atStart : AtStart classFile x code maxLocals ret World_1 tables_1 room_1 Calls_1 rest_1 Pre_1 launch0 p0 e0 about1 theMethod args0 below0 :=
  ⟨lists_1, trivial, launch0.admits_env _ _ _, launch0.least_env, fairChoices_fair.cas, fairChoices_fair.clock, w_frames, w_args, w_heap, w_applies, ⟨(by decide +kernel : framesKnown about1 = true), ⟨(by decide +kernel : tablesKnown about1 = true), ⟨w_consts, trivial⟩⟩⟩, w_rest, w_case⟩
end start1
theorem witness_1 : WitnessClaimed_1 := ⟨start1.p0, start1.e0, start1.about1, start1.theMethod, start1.args0, start1.below0, start1.atStart⟩
end Jvm.Pilot.@@N@@
