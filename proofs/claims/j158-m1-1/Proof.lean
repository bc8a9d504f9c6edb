import JvmDerived
import JvmDerived.Pilot.@@N@@Statement
import JvmDerived.Pilot.@@N@@Code
set_option linter.unusedVariables false
set_option linter.unusedSimpArgs false
namespace Jvm.RoadKit
open Sem ClassFile Op Lib Jvm.Stand Jvm.Free Jvm.LawKit
section New
variable {p : Program} {l : Launch} {e : Env} {R : Room} {s : State} {m : MethodId} {args : Array Value} {below : List Frame} {meth : Method} {c : Code} {T : State} {locs : List Loc} {cells slots : Nat}
theorem retI (X : Stand p l e R s m args below meth c T locs cells slots) (hx : p.tables.exec = Jvm.exec) {pc : Nat} {Ls : Array Slot} {z : Int32} {rest : List Value} (hret : meth.sig.returnType = some .int) (hd : decode c.code pc = .ok (.ireturn, 1)) {fs : List Frame}
    (hl : ∀ (f : JFrame) (acts : List Action), f.method = m → f.locked = none → f.entered = [] → (doReturn e (T.setTop f) acts (some (.int z))).1 = T.setFrames fs) : Steps p.tables e below (T.setTop (mkF m pc Ls (.int z :: rest))) (T.setFrames fs) := by
  have hm' : T.vm.method? m = some meth := X.method'
  have hn : narrow .int (.int z) = .int z := rfl
  show Steps p.tables e below (T.setTop { method := m, pc := pc, locals := Ls, stack := _ :: rest, locked := none }) _
  jvm_step X.here [X.here.top, hx, hd, hm', hret, hn]
  first | (intro acts; rw [hl _ acts rfl rfl rfl]) | rw [hl _ _ rfl rfl rfl]
  exact Steps.refl _
end New
end Jvm.RoadKit
namespace Jvm.Pilot.@@N@@
open Jvm Jvm.ClassFile Sem Op Lib Jvm.Free Jvm.Stand Jvm.LawKit Jvm.RoadKit Bundle Jvm.Pilot.@@N@@.Jvm.D
/-- from A the run comes to its end, as the contract wants it -/
def Goes (p : Program) (e : Env) (below : List Frame) (En : Outcome → State → List Loc → Prop) (Q : Option Value → Heap → List Loc → Prop) (A : State) : Prop :=
  ∃ s₂ o, Steps p.tables e below A s₂ ∧ s₂.status = .running ∧ Ended s₂ below o ∧ ∃ v L, o = .returned v ∧ Q v s₂.heap L ∧ En o s₂ L
abbrev Met (l : Launch) (Z : State) (y : MethodName) (bytes : ByteArray) (maxL : Nat) (ret : Option FieldType) (rm : Room) (ws : List Jvm.Cond) (as : Array Value) (h0 : Heap) (Q : Option Value → Heap → List Loc → Prop) : Prop :=
  MetFree l y (head1 (Jvm.Cond.code y bytes maxL ret :: ws) rm) (fun aa U => aa = as ∧ Z.Warmed39 U.vm ∧ U.heap = h0) (fun _ _ _ _ _ => True) (fun _ U o U' => ∃ v L, o = .returned v ∧ Q v U'.heap L ∧ FrameEnd U o U' L rm.cells rm.slots)
abbrev MetW (l : Launch) (Z : State) (y : MethodName) (bytes : ByteArray) (maxL : Nat) (ret : Option FieldType) (rm : Room) (ws : List Jvm.Cond) (as : Array Value) (h0 : Heap) (Q : Option Value → Heap → List Loc → Prop) : Prop :=
  MetFree l y (head1 (Jvm.Cond.code y bytes maxL ret :: ws) rm) (fun aa U => aa = as ∧ Z.Warmed39 U.vm ∧ U.heap = h0) (fun _ _ _ _ _ => True) (fun _ U o U' => ∃ v L, o = .returned v ∧ Q v U'.heap L ∧ ReturnedEndW U o U' L rm.cells rm.slots)
abbrev MetH (l : Launch) (Z : State) (y : MethodName) (bytes : ByteArray) (maxL : Nat) (ret : Option FieldType) (rm : Room) (ws : List Jvm.Cond) (as : Array Value) (h0 : Heap) (Q : Option Value → Heap → List Loc → Prop) : Prop :=
  MetFree l y (head1 (Jvm.Cond.code y bytes maxL ret :: ws) rm) (fun aa U => aa = as ∧ Z.Warmed39 U.vm ∧ U.heap = h0 ∧ CHv Z consts_1 U.vm h0) (fun _ _ _ _ _ => True) (fun _ U o U' => ∃ v L, o = .returned v ∧ Q v U'.heap L ∧ CHr Z consts_1 U.vm U.heap U'.vm U'.heap ∧ ReturnedEndW U o U' L rm.cells rm.slots)
theorem gw {a0 : Array Value} {Z : State} (hw : ∀ d ∈ tables_1, d.before a0 Z = true) (i : Nat) {d : Jvm.Cond} (h : tables_1[i]? = some d) : d.before a0 Z = true := hw _ (List.mem_of_getElem? h)
theorem w0 {n W : Nat} (h : n ≤ W) : 2 * 0 + n ≤ W := by omega
def Ob (h : Heap) (x : Addr) : Prop := ∀ c : Cell, h[x]? = some c → c.vm.isStatics = false
theorem own_obE {Z : State} {h : Heap} {a : Addr} {C : String} (F : Exa Z h a C) : Ob h a := fun c hc => by obtain ⟨c', k, h1, -, -, h4, -⟩ := F; cases h1.symm.trans hc; exact h4
theorem own_obA {Z : State} {h : Heap} {a : Addr} {k : ClassId} {ty : FieldType} {z : Int32} {vs : List Value} {d : Value} (F : Arv Z h a k ty z vs d) : Ob h a := fun c hc => by obtain ⟨c', A, -⟩ := F; cases A.1.symm.trans hc; exact A.plain
theorem own_staK {Z : State} {h h' : Heap} {C n d : String} {v : Value} {ws : List Addr} (F : Sta Z h C n d v) (K : Keep h h' ws) (q : ∀ x ∈ ws, Ob h x) : Sta Z h' C n d v := by
  obtain ⟨cf, i, k, f, st, cell, h1, h2, h3, h4, h5, h6, h7⟩ := F
  exact ⟨cf, i, k, f, st, cell, h1, h2, h3, h4, K.2.1 st cell h5 (fun hm => by have := q st hm cell h5; rw [this] at h6; cases h6), h6, h7⟩
def NFc (Z : State) (K : String) : Prop := ∃ t kt, Z.vm.findClass K = some t ∧ Z.vm.classes[t]? = some kt ∧ kt.isInterface = false
set_option maxRecDepth 65536 in
theorem own_nsNo {Z : State} {a0 : Array Value} {C S K : String} (w : (Cond.superclass C S).before a0 Z = true) (wk : NFc Z K) (n : NS Z C K) (hn : C ≠ K) : ∃ c t, Z.vm.findClass C = some c ∧ Z.vm.findClass K = some t ∧ Z.vm.assignable c t = false := by
  obtain ⟨c, t, h0, g0, n3⟩ := n
  obtain ⟨p, k, kp, h1, h2, h3, h4, h5, -⟩ := Cond.superclass_spec h0 w
  obtain ⟨t', kt, g1, g2, g3⟩ := wk
  cases g0.symm.trans g1
  have ne := ids_ne h0 g0 hn
  refine ⟨c, t, h0, g0, ?_⟩
  show Z.vm.assignableAux (255 + 1) c t = false
  cases hq : kt.kind <;> simp [Vm.assignableAux, ne, h2, g2, h5, hq, g3, Vm.isSubclass, n3]
section OwnSteps
variable {p : Program} {l : Launch} {e : Env} {R : Room} {s : State} {m : MethodId} {args : Array Value} {below : List Frame} {meth : Method} {c : Code} {T : State} {locs : List Loc} {cells slots : Nat}
theorem Goes.step {En : Outcome → State → List Loc → Prop} {Q : Option Value → Heap → List Loc → Prop} {A B : State} (st : ∀ t, Steps p.tables e below A t → Steps p.tables e below B t) (h : Goes p e below En Q A) : Goes p e below En Q B :=
  let ⟨s₂, o, h1, r⟩ := h; ⟨s₂, o, st _ h1, r⟩
theorem Gs {En : Outcome → State → List Loc → Prop} {Q : Option Value → Heap → List Loc → Prop} {A B : State} (st : ∀ t, Steps p.tables e below A t → Steps p.tables e below B t) (h : Goes p e below En Q A) : Goes p e below En Q B := Goes.step st h
theorem own_met {Z : State} {y : MethodName} {bytes : ByteArray} {maxL : Nat} {ret : Option FieldType} {rm : Room} {ws : List Jvm.Cond} {as : Array Value} {h0 : Heap} {Q : Option Value → Heap → List Loc → Prop} (hp : plainFor y = true)
    (body : ∀ p e s m below meth c s₁, meth.sig.returnType = ret → p.tables.exec = Jvm.exec → c.code = bytes → meth.locks = false → c.maxLocals = maxL → s.vm.findClass y.cls = some m.cls → meth.name = y.name → Stand p l e rm s m as below meth c s₁ [] 0 0 → s₁.heap = h0 → Z.Warmed39 s.vm → s.heap = h0 →
      Goes p e below (fun o u L => FrameEnd s o u L rm.cells rm.slots) Q (s₁.setTop (entryFrame m as maxL))) : Met l Z y bytes maxL ret rm ws as h0 Q := by
  refine MetFree.of_bodySF hp hisR ?_
  intro p e s m args below meth c s₁ Bd hml0 hP hK
  obtain ⟨rfl, hZ, hh⟩ := hP
  exact body p e s m below meth c s₁ Bd.returns Bd.exec Bd.bytes (BodyLoose.notSynchronized Bd) hml0 (findClass_of_methodNamed Bd.named) (name_of_methodNamed Bd.named Bd.method).1 (Stand.of_body Bd) (by rw [← hh, Bd.state]; rfl) hZ hh
theorem Goes.ret (X : Stand p l e R s m args below meth c T locs cells slots) {rc rs : Nat} {Q : Option Value → Heap → List Loc → Prop} {B : State} (v : Option Value) (hv : meth.sig.returnType = none → v = none) (hlk : meth.locks = false) (hc : cells ≤ rc) (hs : slots ≤ rs) (q : Q v T.heap locs)
    (k : ∀ fs, (∀ (f : JFrame) (acts : List Action), f.method = m → f.locked = none → f.entered = [] → (doReturn e (T.setTop f) acts v).1 = T.setFrames fs) → Steps p.tables e below B (T.setFrames fs)) : Goes p e below (fun o u L => FrameEnd s o u L rc rs) Q B := by
  obtain ⟨fs, hr, hrun, hended, hW, hsame⟩ := X.leave (v := v) hv hlk
  exact ⟨_, _, k fs hr, hrun, hended, _, _, rfl, q, ⟨_, rfl⟩, hW, hsame.mono hc hs⟩
theorem own_metH {Z : State} {y : MethodName} {bytes : ByteArray} {maxL : Nat} {ret : Option FieldType} {rm : Room} {ws : List Jvm.Cond} {as : Array Value} {h0 : Heap} {Q : Option Value → Heap → List Loc → Prop} (hp : plainFor y = true)
    (body : ∀ p e s m below meth c s₁, meth.sig.returnType = ret → p.tables.exec = Jvm.exec → c.code = bytes → meth.locks = false → c.maxLocals = maxL → (s.setVm s.vm).vm.findClass y.cls = some m.cls → meth.name = y.name → Stand p l e rm (s.setVm s.vm) m as below meth c s₁ [] 0 0 → s₁.heap = h0 → Z.Warmed39 s.vm → s.heap = h0 → CHv Z consts_1 s.vm h0 →
      Goes p e below (fun o u L => CHr Z consts_1 s.vm s.heap u.vm u.heap ∧ ReturnedEndW s o u L rm.cells rm.slots) Q (s₁.setTop (entryFrame m as maxL))) : MetH l Z y bytes maxL ret rm ws as h0 Q := by
  refine MetFree.of_bodySF hp hisR ?_
  intro p e s m args below meth c s₁ Bd hml0 hP hK
  obtain ⟨rfl, hZ, hh, hC⟩ := hP
  exact body p e s m below meth c s₁ Bd.returns Bd.exec Bd.bytes (BodyLoose.notSynchronized Bd) hml0 (findClass_of_methodNamed Bd.named) (name_of_methodNamed Bd.named Bd.method).1 (Stand.of_body Bd) (by rw [← hh, Bd.state]; rfl) hZ hh hC
theorem Goes.retH {Z : State} {a0 : Array Value} {h0 h : Heap} {vm₁ : Vm} (X : Stand p l e R (s.setVm vm₁) m args below meth c T locs cells slots) {n : Nat} (hS : s.Since vm₁ n) (eT : T.heap = h) (hn : n ≤ h.size) (hZ : Z.Warmed39 (s.setVm vm₁).vm) (hEL : EW Z a0 consts_1) (hh : s.heap = h0) (hR : CHr Z consts_1 s.vm h0 vm₁ h) {rc rs : Nat} {Q : Option Value → Heap → List Loc → Prop} {B : State} (v : Option Value) (hv : meth.sig.returnType = none → v = none) (hlk : meth.locks = false) (hc : cells ≤ rc) (hs : slots ≤ rs) (q : Q v T.heap locs)
    (k : ∀ fs, (∀ (f : JFrame) (acts : List Action), f.method = m → f.locked = none → f.entered = [] → (doReturn e (T.setTop f) acts v).1 = T.setFrames fs) → Steps p.tables e below B (T.setFrames fs)) : Goes p e below (fun o u L => CHr Z consts_1 s.vm s.heap u.vm u.heap ∧ ReturnedEndW s o u L rc rs) Q B := by
  subst eT hh
  obtain ⟨fs, hr, hrun, hended, h1, h2, h3, h4⟩ := X.leaveW hS hn (v := v) hv hlk
  have A := hR.trans (CHv.at X hZ hEL hR.1)
  exact ⟨_, _, k fs hr, hrun, hended, _, _, rfl, q, A, h1, h2, h3, h4.mono hc hs⟩
theorem own_retN (X : Stand p l e R s m args below meth c T locs cells slots) (hx : p.tables.exec = Jvm.exec) {pc : Nat} {Ls : Array Slot} {z : Int32} {t : FieldType} {rest : List Value} (hret : meth.sig.returnType = some t) (ht : t = .boolean ∨ t = .byte ∨ t = .char ∨ t = .short) (hn : nar t z = z) (hd : decode c.code pc = .ok (.ireturn, 1)) {fs : List Frame}
    (hl : ∀ (f : JFrame) (acts : List Action), f.method = m → f.locked = none → f.entered = [] → (doReturn e (T.setTop f) acts (some (.int z))).1 = T.setFrames fs) : Steps p.tables e below (T.setTop (mkF m pc Ls (.int z :: rest))) (T.setFrames fs) :=
  retN X hx hret ht hd (by rw [hn]; exact hl)
theorem own_retA (X : Stand p l e R s m args below meth c T locs cells slots) (hx : p.tables.exec = Jvm.exec) {pc : Nat} {Ls : Array Slot} {z : Value} {t : FieldType} {rest : List Value} (hret : meth.sig.returnType = some t) (ht : t.isReference = true) (hz : z.isRef = true) (hd : decode c.code pc = .ok (.areturn, 1)) {fs : List Frame}
    (hl : ∀ (f : JFrame) (acts : List Action), f.method = m → f.locked = none → f.entered = [] → (doReturn e (T.setTop f) acts (some z)).1 = T.setFrames fs) : Steps p.tables e below (T.setTop (mkF m pc Ls (z :: rest))) (T.setFrames fs) := by
  have hm' : T.vm.method? m = some meth := X.method'
  show Steps p.tables e below (T.setTop { method := m, pc := pc, locals := Ls, stack := _ :: rest, locked := none }) _
  jvm_step X.here [X.here.top, hx, hd, hm', hret, hz, ht]
  first | (intro acts; rw [hl _ acts rfl rfl rfl]) | rw [hl _ _ rfl rfl rfl]
  exact Steps.refl _
end OwnSteps
abbrev mN0 : MethodName := ⟨"java/lang/String", "coder", "()B"⟩
abbrev mN1 : MethodName := ⟨"java/lang/String", "isLatin1", "()Z"⟩
abbrev mN2 : MethodName := ⟨"java/lang/String", "length", "()I"⟩
abbrev mN3 : MethodName := ⟨"jdk/internal/util/Preconditions", "checkIndex", "(IILjava/util/function/BiFunction;)I"⟩
abbrev mN4 : MethodName := ⟨"java/lang/String", "checkIndex", "(II)V"⟩
abbrev mN5 : MethodName := ⟨"java/lang/StringLatin1", "charAt", "([BI)C"⟩
abbrev mN6 : MethodName := ⟨"java/lang/StringUTF16", "length", "([B)I"⟩
abbrev mN7 : MethodName := ⟨"java/lang/StringUTF16", "checkIndex", "(I[B)V"⟩
abbrev mN8 : MethodName := ⟨"java/lang/StringUTF16", "getChar", "([BI)C"⟩
abbrev mN9 : MethodName := ⟨"java/lang/StringUTF16", "charAt", "([BI)C"⟩
abbrev mN10 : MethodName := ⟨"java/lang/String", "charAt", "(I)C"⟩
abbrev mN11 : MethodName := ⟨"java/lang/String", "<init>", "([CIILjava/lang/Void;)V"⟩
abbrev mN12 : MethodName := ⟨"java/lang/String", "<init>", "([C)V"⟩
abbrev mN13 : MethodName := ⟨"java/lang/StringUTF16", "putChar", "([BII)V"⟩
abbrev mN14 : MethodName := ⟨"java/lang/StringUTF16", "newBytesLength", "(I)I"⟩
abbrev mN15 : MethodName := ⟨"java/lang/StringUTF16", "newBytesFor", "(I)[B"⟩
abbrev mN16 : MethodName := ⟨"java/lang/StringUTF16", "toBytes", "([CII)[B"⟩
abbrev mN17 : MethodName := ⟨"java/lang/StringUTF16", "compress", "([CI[BII)I"⟩
abbrev mN18 : MethodName := ⟨"java/lang/StringUTF16", "compress", "([CII)[B"⟩
abbrev mN19 : MethodName := ⟨"java/lang/StringUTF16", "coderFromArrayLen", "([BI)B"⟩
abbrev mN20 : MethodName := ⟨"java/lang/StringLatin1", "canEncode", "(C)Z"⟩
abbrev mN21 : MethodName := ⟨"java/lang/StringLatin1", "toBytes", "(C)[B"⟩
abbrev mN22 : MethodName := ⟨"java/lang/StringUTF16", "toBytes", "(C)[B"⟩
abbrev mN23 : MethodName := ⟨"java/lang/String", "<init>", "([BB)V"⟩
abbrev mN24 : MethodName := ⟨"java/lang/String", "valueOf", "(C)Ljava/lang/String;"⟩
abbrev mN25 : MethodName := ⟨"java/lang/AbstractStringBuilder", "<init>", "(I)V"⟩
abbrev mN26 : MethodName := ⟨"java/lang/StringBuilder", "<init>", "()V"⟩
abbrev mN27 : MethodName := ⟨"java/lang/AbstractStringBuilder", "isLatin1", "()Z"⟩
abbrev mN28 : MethodName := ⟨"java/lang/AbstractStringBuilder", "ensureCapacityInternal", "(I)V"⟩
abbrev mN29 : MethodName := ⟨"java/lang/StringUTF16", "putCharSB", "([BII)V"⟩
abbrev mN30 : MethodName := ⟨"jdk/internal/util/Preconditions", "checkFromIndexSize", "(IIILjava/util/function/BiFunction;)I"⟩
abbrev mN31 : MethodName := ⟨"java/lang/String", "checkBoundsOffCount", "(III)I"⟩
abbrev mN32 : MethodName := ⟨"java/lang/StringUTF16", "checkBoundsOffCount", "(II[B)V"⟩
abbrev mN33 : MethodName := ⟨"java/lang/StringUTF16", "inflate", "([BI[BII)V"⟩
abbrev mN34 : MethodName := ⟨"java/lang/StringLatin1", "inflate", "([BI[BII)V"⟩
abbrev mN35 : MethodName := ⟨"java/lang/AbstractStringBuilder", "inflate", "()V"⟩
abbrev mN36 : MethodName := ⟨"java/lang/AbstractStringBuilder", "append", "(C)Ljava/lang/AbstractStringBuilder;"⟩
abbrev mN37 : MethodName := ⟨"java/lang/StringBuilder", "append", "(C)Ljava/lang/StringBuilder;"⟩
abbrev mN38 : MethodName := ⟨"java/lang/AbstractStringBuilder", "inflateIfNeededFor", "(Ljava/lang/String;)V"⟩
abbrev mN39 : MethodName := ⟨"java/lang/String", "getBytes", "([BIB)V"⟩
abbrev mN40 : MethodName := ⟨"java/lang/AbstractStringBuilder", "putStringAt", "(ILjava/lang/String;)V"⟩
abbrev mN41 : MethodName := ⟨"java/lang/AbstractStringBuilder", "append", "(Ljava/lang/String;)Ljava/lang/AbstractStringBuilder;"⟩
abbrev mN42 : MethodName := ⟨"java/lang/StringBuilder", "append", "(Ljava/lang/String;)Ljava/lang/StringBuilder;"⟩
abbrev mN43 : MethodName := ⟨"java/util/Arrays", "checkLength", "(II)V"⟩
abbrev mN44 : MethodName := ⟨"java/lang/Math", "min", "(II)I"⟩
abbrev mN45 : MethodName := ⟨"java/util/Arrays", "copyOfRangeByte", "([BII)[B"⟩
abbrev mN46 : MethodName := ⟨"java/util/Arrays", "copyOfRange", "([BII)[B"⟩
abbrev mN47 : MethodName := ⟨"java/lang/AbstractStringBuilder", "getValue", "()[B"⟩
abbrev mN48 : MethodName := ⟨"java/lang/AbstractStringBuilder", "length", "()I"⟩
abbrev mN49 : MethodName := ⟨"java/lang/StringBuilder", "length", "()I"⟩
abbrev mN50 : MethodName := ⟨"java/lang/String", "<init>", "(Ljava/lang/AbstractStringBuilder;Ljava/lang/Void;)V"⟩
abbrev mN51 : MethodName := ⟨"java/lang/String", "<init>", "(Ljava/lang/StringBuilder;)V"⟩
abbrev mN52 : MethodName := ⟨"java/lang/StringBuilder", "toString", "()Ljava/lang/String;"⟩
abbrev mN53 : MethodName := ⟨"com/example/surfacemap/surfacemap/cli/Tsv", "appendEscaped", "(Ljava/lang/String;Ljava/lang/StringBuilder;)V"⟩
abbrev mN54 : MethodName := ⟨"com/example/surfacemap/surfacemap/cli/Tsv", "line", "([Ljava/lang/String;)Ljava/lang/String;"⟩
abbrev mN55 : MethodName := ⟨"com/example/surfacemap/surfacemap/cli/TsvLinePinLaw", "pick", "(J)C"⟩
abbrev mN56 : MethodName := ⟨"com/example/surfacemap/surfacemap/cli/TsvLinePinLaw", "field", "(ICC)Ljava/lang/String;"⟩
abbrev mN57 : MethodName := ⟨"com/example/surfacemap/surfacemap/cli/TsvLinePinLaw", "esc", "([CIC)I"⟩
abbrev mN58 : MethodName := ⟨"com/example/surfacemap/surfacemap/cli/TsvLinePinLaw", "escField", "([CIICC)I"⟩
abbrev mN59 : MethodName := ⟨"com/example/surfacemap/surfacemap/cli/TsvLinePinLaw", "at", "(Ljava/lang/String;[CII)Z"⟩
abbrev mN60 : MethodName := ⟨"com/example/surfacemap/surfacemap/cli/TsvLinePinLaw", "same", "(Ljava/lang/String;[CI)Z"⟩
abbrev vi (x : Int32) : Slot := .val (.int x)
abbrev vr (x : Addr) : Slot := .val (.ref x)
abbrev vu : Slot := .unset
abbrev fT (T : State) (m : MethodId) (pc : Nat) (ls : Array Slot) (st : List Value) : State := T.setTop (mkF m pc ls st)
theorem Gz {p : Program} {e : Env} {below : List Frame} {En : Outcome → State → List Loc → Prop} {Q : Option Value → Heap → List Loc → Prop} {A B : State} (st : ∀ {t}, Steps p.tables e below A t → Steps p.tables e below B t) (h : Goes p e below En Q A) : Goes p e below En Q B := Goes.step (fun _ => st) h
abbrev HW (a0 : Array Value) (Z : State) : Prop := ∀ d ∈ tables_1, d.before a0 Z = true
theorem gz {Z s : State} {a0 args : Array Value} {d : Jvm.Cond} (hZ : Z.Warmed39 s.vm) (hw : HW a0 Z) (i : Nat) (h : tables_1[i]? = some d) (hd : (d.onTables && d.keepsFace) = true := by first | rfl | simp [Cond.onTables, Cond.keepsFace, Cond.keeps, Cond.steady]) : d.before args s = true := mvT hZ (gw hw i h) hd
theorem z0 {n : Nat} : 0 + 0 ≤ n := Nat.zero_le n
theorem wz {n W : Nat} (h : n = W) : 2 * 0 + n ≤ W := w0 (Nat.le_of_eq h)
theorem gN {p : Program} {l : Launch} {e : Env} {R : Room} {s : State} {m : MethodId} {as : Array Value} {below : List Frame} {meth : Method} {c : Code} {T : State} {L : List Loc} {C S : Nat} {En : Outcome → State → List Loc → Prop} {Q : Option Value → Heap → List Loc → Prop} {code : ByteArray} {g : JFrame} {k : Fin 4} {v : Int32} (X : Stand p l e R s m as below meth c T L C S) (hx : p.tables.exec = Jvm.exec) (hby : c.code = code) (hd : decode code g.pc = .ok (.iload_n k, 1)) (hg : g.method = m) (hl : g.locals[k.val]? = some (.val (.int v))) (h : Goes p e below En Q (T.setTop { g with pc := g.pc + 1, stack := .int v :: g.stack })) : Goes p e below En Q (T.setTop g) := Gz (XS.iloadN X.here hx hg (hb hby hd) hl) h
theorem gI {p : Program} {l : Launch} {e : Env} {R : Room} {s : State} {m : MethodId} {as : Array Value} {below : List Frame} {meth : Method} {c : Code} {T : State} {L : List Loc} {C S : Nat} {En : Outcome → State → List Loc → Prop} {Q : Option Value → Heap → List Loc → Prop} {code : ByteArray} {g : JFrame} {k : Nat} {v : Int32} (X : Stand p l e R s m as below meth c T L C S) (hx : p.tables.exec = Jvm.exec) (hby : c.code = code) (hd : decode code g.pc = .ok (.iload k, 2)) (hg : g.method = m) (hl : g.locals[k]? = some (.val (.int v))) (h : Goes p e below En Q (T.setTop { g with pc := g.pc + 2, stack := .int v :: g.stack })) : Goes p e below En Q (T.setTop g) := Gz (XS.iload X.here hx hg (hb hby hd) hl) h
theorem gA {p : Program} {l : Launch} {e : Env} {R : Room} {s : State} {m : MethodId} {as : Array Value} {below : List Frame} {meth : Method} {c : Code} {T : State} {L : List Loc} {C S : Nat} {En : Outcome → State → List Loc → Prop} {Q : Option Value → Heap → List Loc → Prop} {code : ByteArray} {g : JFrame} {k : Fin 4} {v : Value} (X : Stand p l e R s m as below meth c T L C S) (hx : p.tables.exec = Jvm.exec) (hby : c.code = code) (hd : decode code g.pc = .ok (.aload_n k, 1)) (hg : g.method = m) (hl : g.locals[k.val]? = some (.val v)) (hv : v.isRef = true) (h : Goes p e below En Q (T.setTop { g with pc := g.pc + 1, stack := v :: g.stack })) : Goes p e below En Q (T.setTop g) := Gz (XS.aloadN X.here hx hg (hb hby hd) hl hv) h
abbrev DK (c : ByteArray) (pc : Nat) (i : Instr) (n : Nat) : Prop := decode c pc = .ok (i, n)
theorem gS {p : Program} {l : Launch} {e : Env} {R : Room} {s : State} {m : MethodId} {as : Array Value} {below : List Frame} {meth : Method} {c : Code} {T : State} {L : List Loc} {C S : Nat} {En : Outcome → State → List Loc → Prop} {Q : Option Value → Heap → List Loc → Prop} {code : ByteArray} {g : JFrame} {k : Nat} {x : Int32} {rest : List Value} (X : Stand p l e R s m as below meth c T L C S) (hx : p.tables.exec = Jvm.exec) (hby : c.code = code) (hd : decode code g.pc = .ok (.istore k, 2)) (l' : Array Slot) (h : Goes p e below En Q (T.setTop { g with pc := g.pc + 2, stack := rest, locals := l' })) (hg : g.method = m := by rfl) (hs : g.stack = .int x :: rest := by rfl) (hl : storeLocals g.locals k (.int x) = some l' := by rfl) : Goes p e below En Q (T.setTop g) := Gz (XS.istore X.here hx hg (hb hby hd) hs hl) h
theorem gs {p : Program} {l : Launch} {e : Env} {R : Room} {s : State} {m : MethodId} {as : Array Value} {below : List Frame} {meth : Method} {c : Code} {T : State} {L : List Loc} {C S : Nat} {En : Outcome → State → List Loc → Prop} {Q : Option Value → Heap → List Loc → Prop} {code : ByteArray} {g : JFrame} {k : Fin 4} {x : Int32} {rest : List Value} (X : Stand p l e R s m as below meth c T L C S) (hx : p.tables.exec = Jvm.exec) (hby : c.code = code) (hd : decode code g.pc = .ok (.istore_n k, 1)) (l' : Array Slot) (h : Goes p e below En Q (T.setTop { g with pc := g.pc + 1, stack := rest, locals := l' })) (hg : g.method = m := by rfl) (hs : g.stack = .int x :: rest := by rfl) (hl : storeLocals g.locals k.val (.int x) = some l' := by rfl) : Goes p e below En Q (T.setTop g) := Gz (XS.istoreN X.here hx hg (hb hby hd) hs hl) h
theorem gC {p : Program} {l : Launch} {e : Env} {R : Room} {s : State} {m : MethodId} {as : Array Value} {below : List Frame} {meth : Method} {c : Code} {T : State} {L : List Loc} {C S : Nat} {En : Outcome → State → List Loc → Prop} {Q : Option Value → Heap → List Loc → Prop} {code : ByteArray} {g : JFrame} {i : Int} (X : Stand p l e R s m as below meth c T L C S) (hx : p.tables.exec = Jvm.exec) (hby : c.code = code) (hd : decode code g.pc = .ok (.iconst i, 1)) (h : Goes p e below En Q (T.setTop { g with pc := g.pc + 1, stack := .int (Int32.ofInt i) :: g.stack })) (hg : g.method = m := by rfl) : Goes p e below En Q (T.setTop g) := Gz (XS.iconst X.here hx hg (hb hby hd)) h
theorem gB {p : Program} {l : Launch} {e : Env} {R : Room} {s : State} {m : MethodId} {as : Array Value} {below : List Frame} {meth : Method} {c : Code} {T : State} {L : List Loc} {C S : Nat} {En : Outcome → State → List Loc → Prop} {Q : Option Value → Heap → List Loc → Prop} {code : ByteArray} {g : JFrame} {i : Int} (X : Stand p l e R s m as below meth c T L C S) (hx : p.tables.exec = Jvm.exec) (hby : c.code = code) (hd : decode code g.pc = .ok (.bipush i, 2)) (h : Goes p e below En Q (T.setTop { g with pc := g.pc + 2, stack := .int (Int8.ofInt i).toInt32 :: g.stack })) (hg : g.method = m := by rfl) : Goes p e below En Q (T.setTop g) := Gz (XS.bipush X.here hx hg (hb hby hd)) h
theorem gG {p : Program} {l : Launch} {e : Env} {R : Room} {s : State} {m : MethodId} {as : Array Value} {below : List Frame} {meth : Method} {c : Code} {T : State} {L : List Loc} {C S : Nat} {En : Outcome → State → List Loc → Prop} {Q : Option Value → Heap → List Loc → Prop} {code : ByteArray} {g : JFrame} {o : Int} (X : Stand p l e R s m as below meth c T L C S) (hx : p.tables.exec = Jvm.exec) (hby : c.code = code) (hd : decode code g.pc = .ok (.goto o, 3)) (pc0 pc' : Nat) (h : Goes p e below En Q (T.setTop { g with pc := pc' })) (hg : g.method = m := by rfl) (hpc : g.pc = pc0 := by rfl) (ho : 0 ≤ (pc0 : Int) + o := by decide) (hp : ((pc0 : Int) + o).toNat = pc' := by decide) : Goes p e below En Q (T.setTop g) := Gz (XS.goto X.here hx hg hpc (hb hby hd) ho hp) h
theorem gY {p : Program} {l : Launch} {e : Env} {R : Room} {s : State} {m : MethodId} {as : Array Value} {below : List Frame} {meth : Method} {c : Code} {T : State} {L : List Loc} {C S : Nat} {En : Outcome → State → List Loc → Prop} {Q : Option Value → Heap → List Loc → Prop} {code : ByteArray} {g : JFrame} {cd : ClassFile.Cond} {o : Int} {x y : Int32} {rest : List Value} (X : Stand p l e R s m as below meth c T L C S) (hx : p.tables.exec = Jvm.exec) (hby : c.code = code) (hd : decode code g.pc = .ok (.if_icmp cd o, 3)) (pc0 pc' : Nat) (hc : if_icmp.holds cd x y = true) (h : Goes p e below En Q (T.setTop { g with pc := pc', stack := rest })) (hg : g.method = m := by rfl) (hpc : g.pc = pc0 := by rfl) (hs : g.stack = .int y :: .int x :: rest := by rfl) (ho : 0 ≤ (pc0 : Int) + o := by decide) (hp : ((pc0 : Int) + o).toNat = pc' := by decide) : Goes p e below En Q (T.setTop g) := Gz (XS.icmpYes X.here hx hg hpc (hb hby hd) hs hc ho hp) h
theorem gU {p : Program} {l : Launch} {e : Env} {R : Room} {s : State} {m : MethodId} {as : Array Value} {below : List Frame} {meth : Method} {c : Code} {T : State} {L : List Loc} {C S : Nat} {En : Outcome → State → List Loc → Prop} {Q : Option Value → Heap → List Loc → Prop} {code : ByteArray} {g : JFrame} {cd : ClassFile.Cond} {o : Int} {x y : Int32} {rest : List Value} (X : Stand p l e R s m as below meth c T L C S) (hx : p.tables.exec = Jvm.exec) (hby : c.code = code) (hd : decode code g.pc = .ok (.if_icmp cd o, 3)) (hc : if_icmp.holds cd x y = false) (h : Goes p e below En Q (T.setTop { g with pc := g.pc + 3, stack := rest })) (hg : g.method = m := by rfl) (hs : g.stack = .int y :: .int x :: rest := by rfl) : Goes p e below En Q (T.setTop g) := Gz (XS.icmpNo X.here hx hg (hb hby hd) hs hc) h
theorem gy {p : Program} {l : Launch} {e : Env} {R : Room} {s : State} {m : MethodId} {as : Array Value} {below : List Frame} {meth : Method} {c : Code} {T : State} {L : List Loc} {C S : Nat} {En : Outcome → State → List Loc → Prop} {Q : Option Value → Heap → List Loc → Prop} {code : ByteArray} {g : JFrame} {cd : ClassFile.Cond} {o : Int} {x : Int32} {rest : List Value} (X : Stand p l e R s m as below meth c T L C S) (hx : p.tables.exec = Jvm.exec) (hby : c.code = code) (hd : decode code g.pc = .ok (.ifCond cd o, 3)) (pc0 pc' : Nat) (hc : ifCond.holds cd x = true) (h : Goes p e below En Q (T.setTop { g with pc := pc', stack := rest })) (hg : g.method = m := by rfl) (hpc : g.pc = pc0 := by rfl) (hs : g.stack = .int x :: rest := by rfl) (ho : 0 ≤ (pc0 : Int) + o := by decide) (hp : ((pc0 : Int) + o).toNat = pc' := by decide) : Goes p e below En Q (T.setTop g) := Gz (XS.ifYes X.here hx hg hpc (hb hby hd) hs hc ho hp) h
theorem gu {p : Program} {l : Launch} {e : Env} {R : Room} {s : State} {m : MethodId} {as : Array Value} {below : List Frame} {meth : Method} {c : Code} {T : State} {L : List Loc} {C S : Nat} {En : Outcome → State → List Loc → Prop} {Q : Option Value → Heap → List Loc → Prop} {code : ByteArray} {g : JFrame} {cd : ClassFile.Cond} {o : Int} {x : Int32} {rest : List Value} (X : Stand p l e R s m as below meth c T L C S) (hx : p.tables.exec = Jvm.exec) (hby : c.code = code) (hd : decode code g.pc = .ok (.ifCond cd o, 3)) (hc : ifCond.holds cd x = false) (h : Goes p e below En Q (T.setTop { g with pc := g.pc + 3, stack := rest })) (hg : g.method = m := by rfl) (hs : g.stack = .int x :: rest := by rfl) : Goes p e below En Q (T.setTop g) := Gz (XS.ifNo X.here hx hg (hb hby hd) hs hc) h
theorem cVg {Z : State} {a0 : Array Value} {p : Program} {l : Launch} {e : Env} {R : Room} {s : State} {m : MethodId} {args : Array Value} {below : List Frame} {meth : Method} {c : Code} {T : State} {locs : List Loc} {cells slots : Nat} {En : Outcome → State → List Loc → Prop} {Q : Option Value → Heap → List Loc → Prop} {h : Heap} {ml : Nat} {code bytes : ByteArray} {maxL idx : Nat} {ret : Option FieldType} {rm : Room} {vs : Array Value} {Qc : Option Value → Heap → List Loc → Prop} {own C : String} {argsL rest st : List Value} {pc : Nat} {ls : Array Slot} {A : State} (X : Stand p l e R s m args below meth c T locs cells slots) (hx : p.tables.exec = Jvm.exec) (hZ : Z.Warmed39 s.vm) (hw : HW a0 Z) (hown : s.vm.findClass own = some m.cls) (hby : c.code = code) (hml : c.maxLocals = ml) (eT : T.heap = h) (y : MethodName) (i1 i2 i3 i4 i5 i6 W : Nat) (hM : Met l Z y bytes maxL ret rm [] vs h Qc) {b : Addr} (E : Exa Z h b C) (hd : decode code pc = .ok (.invokevirtual idx, 3)) (len : ∀ sig, parseMethodDescriptor y.desc = some sig → argsL.length = sig.parameters.length) (k : ∀ (v : Option Value) (T' : State) (L : List Loc), Stand p l e R s m args below meth c T' (locs ++ L) (cells + rm.cells) (slots + rm.slots) → Qc v T'.heap L → Goes p e below En Q (T'.setTop (mkF m (pc + 3) ls (v.toList ++ rest))))(hA : A = T.setTop (mkF m pc ls st) := by rfl) (w1 : tables_1[i1]? = some (.methodLink own idx y) := by rfl) (w2 : tables_1[i2]? = some (.declares y) := by rfl) (w3 : tables_1[i3]? = some (.selects C y y) := by rfl) (w4 : tables_1[i4]? = some (.instanceMethod y) := by rfl) (w5 : tables_1[i5]? = some (.code y bytes maxL ret) := by rfl) (w6 : tables_1[i6]? = some (.initialized y.cls) := by rfl) (hy : y.cls ≠ "java/lang/invoke/MethodHandle" ∧ y.cls ≠ "java/lang/invoke/VarHandle" := by decide) (hf : rm.frames + 1 ≤ R.frames := by decide) (hl : W + (maxL + 11) + rm.locals ≤ R.locals := by decide) (hc : cells + rm.cells ≤ R.cells := by decide) (hs : slots + rm.slots ≤ R.slots := by decide) (hls : ls.size = ml := by rfl) (hvs : vs = (.ref b :: argsL).toArray := by rfl) (hst : st = argsL.reverse ++ .ref b :: rest := by rfl) (hW : (rest.map fun v => v.category).sum = W := by rfl) : Goes p e below En Q A := by
  subst hA
  obtain ⟨cq, kq, qa, qb, qc⟩ := isOf hZ eT E
  subst hvs
  obtain ⟨v, _, ⟨T', L', k', n'⟩, -, X', ⟨Lc, hQ, l', y', z'⟩, st'⟩ := X.virtualBack hx (y := y) (z := y) hown (gz hZ hw i1 w1) (gz hZ hw i2 w2) (notFace_of_selects (args := #[]) (gz hZ hw i3 w3)) (gz hZ hw i3 w3) (gz hZ hw i4 w4) hy (backOf (W := W) hM hZ (gw hw i5 w5) (gw hw i6 w6) hf hl) qa qc (g := mkF m pc ls st) rfl (hls.trans hml.symm) (Steps.refl _) (argsL := argsL) (rest := rest) len hst (w0 (Nat.le_of_eq hW)) (hb hby hd) (fun _ _ => ⟨rfl, eT, hc, hs⟩)
  dsimp only [Pt.U, Pt.locs, Pt.cells, Pt.slots] at X' l' y' z' st' hQ
  subst l' y' z'
  exact Gs (fun _ tk => st'.trans tk) (k v T' Lc X' hQ)
theorem cV {n0 : Nat} {r : Option Value} {Z : State} {a0 : Array Value} {p : Program} {l : Launch} {e : Env} {R : Room} {s : State} {m : MethodId} {args : Array Value} {below : List Frame} {meth : Method} {c : Code} {T : State} {locs : List Loc} {cells slots : Nat} {En : Outcome → State → List Loc → Prop} {Q : Option Value → Heap → List Loc → Prop} {h : Heap} {ml : Nat} {code bytes : ByteArray} {maxL idx : Nat} {ret : Option FieldType} {rm : Room} {vs : Array Value} {Qc : Option Value → Heap → List Loc → Prop} {own C : String} {argsL rest st : List Value} {pc : Nat} {ls : Array Slot} {A : State} (X : Stand p l e R s m args below meth c T locs cells slots) (hx : p.tables.exec = Jvm.exec) (hZ : Z.Warmed39 s.vm) (hw : HW a0 Z) (hown : s.vm.findClass own = some m.cls) (hby : c.code = code) (hml : c.maxLocals = ml) (eT : T.heap = h) (y : MethodName) (i1 i2 i3 i4 i5 i6 W : Nat) (hM : Met l Z y bytes maxL ret rm [] vs h Qc) {b : Addr} (E : Exa Z h b C) (hd : decode code pc = .ok (.invokevirtual idx, 3)) (len : ∀ sig, parseMethodDescriptor y.desc = some sig → argsL.length = sig.parameters.length) (N : Fr n0 locs) (k : ∀ (T' : State) (L : List Loc), Stand p l e R s m args below meth c T' L cells slots → T'.heap = h → Fr n0 L → Goes p e below En Q (T'.setTop (mkF m (pc + 3) ls (r.toList ++ rest))))(hA : A = T.setTop (mkF m pc ls st) := by rfl) (w1 : tables_1[i1]? = some (.methodLink own idx y) := by rfl) (w2 : tables_1[i2]? = some (.declares y) := by rfl) (w3 : tables_1[i3]? = some (.selects C y y) := by rfl) (w4 : tables_1[i4]? = some (.instanceMethod y) := by rfl) (w5 : tables_1[i5]? = some (.code y bytes maxL ret) := by rfl) (w6 : tables_1[i6]? = some (.initialized y.cls) := by rfl) (hy : y.cls ≠ "java/lang/invoke/MethodHandle" ∧ y.cls ≠ "java/lang/invoke/VarHandle" := by decide) (hf : rm.frames + 1 ≤ R.frames := by decide) (hl : W + (maxL + 11) + rm.locals ≤ R.locals := by decide) (hc : cells + rm.cells ≤ R.cells := by decide) (hs : slots + rm.slots ≤ R.slots := by decide) (hls : ls.size = ml := by rfl) (hvs : vs = (.ref b :: argsL).toArray := by rfl) (hst : st = argsL.reverse ++ .ref b :: rest := by rfl) (hW : (rest.map fun v => v.category).sum = W := by rfl)(hQ : ∀ v h' L, Qc v h' L → v = r ∧ Fr n0 L ∧ h' = h := by exact fun _ _ _ q => q) (c0 : rm.cells = 0 := by rfl) (s0 : rm.slots = 0 := by rfl)  : Goes p e below En Q A := by
  subst hA
  refine cVg X hx hZ hw hown hby hml eT y i1 i2 i3 i4 i5 i6 W hM E hd len (fun v T' L X' q => ?_) rfl w1 w2 w3 w4 w5 w6 hy hf hl hc hs hls hvs hst hW
  obtain ⟨rfl, N', e'⟩ := hQ _ _ _ q
  rw [c0, s0] at X'
  exact k T' _ X' e' (N.app N')
theorem cSg {Z : State} {a0 : Array Value} {p : Program} {l : Launch} {e : Env} {R : Room} {s : State} {m : MethodId} {args : Array Value} {below : List Frame} {meth : Method} {c : Code} {T : State} {locs : List Loc} {cells slots : Nat} {En : Outcome → State → List Loc → Prop} {Q : Option Value → Heap → List Loc → Prop} {h : Heap} {ml : Nat} {code bytes : ByteArray} {maxL idx : Nat} {ret : Option FieldType} {rm : Room} {vs : Array Value} {Qc : Option Value → Heap → List Loc → Prop} {own : String} {argsL rest st : List Value} {pc : Nat} {ls : Array Slot} {A : State} (X : Stand p l e R s m args below meth c T locs cells slots) (hx : p.tables.exec = Jvm.exec) (hZ : Z.Warmed39 s.vm) (hw : HW a0 Z) (hown : s.vm.findClass own = some m.cls) (hby : c.code = code) (hml : c.maxLocals = ml) (eT : T.heap = h) (y : MethodName) (i1 i2 i5 i6 W : Nat) (hM : Met l Z y bytes maxL ret rm [] vs h Qc) (hd : decode code pc = .ok (.invokestatic idx, 3)) (len : ∀ sig, parseMethodDescriptor y.desc = some sig → argsL.length = sig.parameters.length) (k : ∀ (v : Option Value) (T' : State) (L : List Loc), Stand p l e R s m args below meth c T' (locs ++ L) (cells + rm.cells) (slots + rm.slots) → Qc v T'.heap L → Goes p e below En Q (T'.setTop (mkF m (pc + 3) ls (v.toList ++ rest))))(hA : A = T.setTop (mkF m pc ls st) := by rfl) (w1 : tables_1[i1]? = some (.methodLink own idx y) := by rfl) (w2 : tables_1[i2]? = some (.static y) := by rfl) (w5 : tables_1[i5]? = some (.code y bytes maxL ret) := by rfl) (w6 : tables_1[i6]? = some (.initialized y.cls) := by rfl) (hy : y.cls ≠ "java/lang/invoke/MethodHandle" ∧ y.cls ≠ "java/lang/invoke/VarHandle" := by decide) (hf : rm.frames + 1 ≤ R.frames := by decide) (hl : W + (maxL + 11) + rm.locals ≤ R.locals := by decide) (hc : cells + rm.cells ≤ R.cells := by decide) (hs : slots + rm.slots ≤ R.slots := by decide) (hls : ls.size = ml := by rfl) (hvs : vs = (argsL).toArray := by rfl) (hst : st = argsL.reverse ++ rest := by rfl) (hW : (rest.map fun v => v.category).sum = W := by rfl) : Goes p e below En Q A := by
  subst hA
  subst hvs
  obtain ⟨v, _, ⟨T', L', k', n'⟩, -, X', ⟨Lc, hQ, l', y', z'⟩, st'⟩ := Jvm.LawKit.callS X hx (y := y) hown (gz hZ hw i1 w1) (gz hZ hw i2 w2) (gz hZ hw i6 w6) (gz hZ hw i5 w5) hy (backOf (W := W) hM hZ (gw hw i5 w5) (gw hw i6 w6) hf hl) (g := mkF m pc ls st) rfl (hls.trans hml.symm) (argsL := argsL) (rest := rest) len hst (w0 (Nat.le_of_eq hW)) (hb hby hd) (fun _ _ => ⟨rfl, eT, hc, hs⟩)
  dsimp only [Pt.U, Pt.locs, Pt.cells, Pt.slots] at X' l' y' z' st' hQ
  subst l' y' z'
  exact Gs st' (k v T' Lc X' hQ)
theorem cS {n0 : Nat} {r : Option Value} {Z : State} {a0 : Array Value} {p : Program} {l : Launch} {e : Env} {R : Room} {s : State} {m : MethodId} {args : Array Value} {below : List Frame} {meth : Method} {c : Code} {T : State} {locs : List Loc} {cells slots : Nat} {En : Outcome → State → List Loc → Prop} {Q : Option Value → Heap → List Loc → Prop} {h : Heap} {ml : Nat} {code bytes : ByteArray} {maxL idx : Nat} {ret : Option FieldType} {rm : Room} {vs : Array Value} {Qc : Option Value → Heap → List Loc → Prop} {own : String} {argsL rest st : List Value} {pc : Nat} {ls : Array Slot} {A : State} (X : Stand p l e R s m args below meth c T locs cells slots) (hx : p.tables.exec = Jvm.exec) (hZ : Z.Warmed39 s.vm) (hw : HW a0 Z) (hown : s.vm.findClass own = some m.cls) (hby : c.code = code) (hml : c.maxLocals = ml) (eT : T.heap = h) (y : MethodName) (i1 i2 i5 i6 W : Nat) (hM : Met l Z y bytes maxL ret rm [] vs h Qc) (hd : decode code pc = .ok (.invokestatic idx, 3)) (len : ∀ sig, parseMethodDescriptor y.desc = some sig → argsL.length = sig.parameters.length) (N : Fr n0 locs) (k : ∀ (T' : State) (L : List Loc), Stand p l e R s m args below meth c T' L cells slots → T'.heap = h → Fr n0 L → Goes p e below En Q (T'.setTop (mkF m (pc + 3) ls (r.toList ++ rest))))(hA : A = T.setTop (mkF m pc ls st) := by rfl) (w1 : tables_1[i1]? = some (.methodLink own idx y) := by rfl) (w2 : tables_1[i2]? = some (.static y) := by rfl) (w5 : tables_1[i5]? = some (.code y bytes maxL ret) := by rfl) (w6 : tables_1[i6]? = some (.initialized y.cls) := by rfl) (hy : y.cls ≠ "java/lang/invoke/MethodHandle" ∧ y.cls ≠ "java/lang/invoke/VarHandle" := by decide) (hf : rm.frames + 1 ≤ R.frames := by decide) (hl : W + (maxL + 11) + rm.locals ≤ R.locals := by decide) (hc : cells + rm.cells ≤ R.cells := by decide) (hs : slots + rm.slots ≤ R.slots := by decide) (hls : ls.size = ml := by rfl) (hvs : vs = (argsL).toArray := by rfl) (hst : st = argsL.reverse ++ rest := by rfl) (hW : (rest.map fun v => v.category).sum = W := by rfl)(hQ : ∀ v h' L, Qc v h' L → v = r ∧ Fr n0 L ∧ h' = h := by exact fun _ _ _ q => q) (c0 : rm.cells = 0 := by rfl) (s0 : rm.slots = 0 := by rfl)  : Goes p e below En Q A := by
  subst hA
  refine cSg X hx hZ hw hown hby hml eT y i1 i2 i5 i6 W hM  hd len (fun v T' L X' q => ?_) rfl w1 w2 w5 w6 hy hf hl hc hs hls hvs hst hW
  obtain ⟨rfl, N', e'⟩ := hQ _ _ _ q
  rw [c0, s0] at X'
  exact k T' _ X' e' (N.app N')
theorem cIg {Z : State} {a0 : Array Value} {p : Program} {l : Launch} {e : Env} {R : Room} {s : State} {m : MethodId} {args : Array Value} {below : List Frame} {meth : Method} {c : Code} {T : State} {locs : List Loc} {cells slots : Nat} {En : Outcome → State → List Loc → Prop} {Q : Option Value → Heap → List Loc → Prop} {h : Heap} {ml : Nat} {code bytes : ByteArray} {maxL idx : Nat} {rm : Room} {vs : Array Value} {Qc : Option Value → Heap → List Loc → Prop} {own : String} {argsL rest st : List Value} {pc : Nat} {ls : Array Slot} {A : State} (X : Stand p l e R s m args below meth c T locs cells slots) (hx : p.tables.exec = Jvm.exec) (hZ : Z.Warmed39 s.vm) (hw : HW a0 Z) (hown : s.vm.findClass own = some m.cls) (hby : c.code = code) (hml : c.maxLocals = ml) (eT : T.heap = h) (y : MethodName) (i1 i4 i5 i6 W : Nat) (hM : Met l Z y bytes maxL none rm [] vs h Qc) {b : Addr} (hd : decode code pc = .ok (.invokespecial idx, 3)) (len : ∀ sig, parseMethodDescriptor y.desc = some sig → argsL.length = sig.parameters.length) (k : ∀ (v : Option Value) (T' : State) (L : List Loc), Stand p l e R s m args below meth c T' (locs ++ L) (cells + rm.cells) (slots + rm.slots) → Qc v T'.heap L → Goes p e below En Q (T'.setTop (mkF m (pc + 3) ls (v.toList ++ rest))))(hA : A = T.setTop (mkF m pc ls st) := by rfl) (w1 : tables_1[i1]? = some (.methodLink own idx y) := by rfl) (w4 : tables_1[i4]? = some (.instanceMethod y) := by rfl) (w5 : tables_1[i5]? = some (.code y bytes maxL none) := by rfl) (w6 : tables_1[i6]? = some (.initialized y.cls) := by rfl) (hi : y.name = "<init>" := by rfl) (hy : y.cls ≠ "java/lang/invoke/MethodHandle" ∧ y.cls ≠ "java/lang/invoke/VarHandle" := by decide) (hf : rm.frames + 1 ≤ R.frames := by decide) (hl : W + (maxL + 11) + rm.locals ≤ R.locals := by decide) (hc : cells + rm.cells ≤ R.cells := by decide) (hs : slots + rm.slots ≤ R.slots := by decide) (hls : ls.size = ml := by rfl) (hvs : vs = (.ref b :: argsL).toArray := by rfl) (hst : st = argsL.reverse ++ .ref b :: rest := by rfl) (hW : (rest.map fun v => v.category).sum = W := by rfl) : Goes p e below En Q A := by
  subst hA
  subst hvs
  obtain ⟨v, _, ⟨T', L', k', n'⟩, -, X', ⟨Lc, hQ, l', y', z'⟩, st'⟩ := X.specialBack hx (y := y) hi hown (gz hZ hw i1 w1) (gz hZ hw i4 w4) (gz hZ hw i5 w5) hy (backOf (W := W) hM hZ (gw hw i5 w5) (gw hw i6 w6) hf hl) (g := mkF m pc ls st) rfl (hls.trans hml.symm) (Steps.refl _) (a := b) (argsL := argsL) (rest := rest) len hst (w0 (Nat.le_of_eq hW)) (hb hby hd) (fun _ _ => ⟨rfl, eT, hc, hs⟩)
  dsimp only [Pt.U, Pt.locs, Pt.cells, Pt.slots] at X' l' y' z' st' hQ
  subst l' y' z'
  exact Gs (fun _ tk => st'.trans tk) (k v T' Lc X' hQ)
def Lat (c : Int32) : Prop := 0 ≤ c.toInt ∧ c.toInt ≤ 255
def Chr (c : Int32) : Prop := 0 ≤ c.toInt ∧ c.toInt ≤ 65535
theorem Lat.chr {c : Int32} (h : Lat c) : Chr c := ⟨h.1, by have := h.2; omega⟩
def lo8 (c : Int32) : Int32 := c.toInt8.toInt32
def hi8 (c : Int32) : Int32 := (c >>> ((8 : Int32) &&& 31)).toInt8.toInt32
def latV (cs : List Int32) : List Value := cs.map fun c => .int (lo8 c)
def utfV (cs : List Int32) : List Value := cs.flatMap fun c => [.int (lo8 c), .int (hi8 c)]
theorem own_shr0 (x : Int32) : x >>> ((0 : Int32) &&& 31) = x := by
  apply Int32.toInt_inj.mp
  rw [c_ishr x 0 0 (by decide)]; simp
theorem own_shl0 (x : Int32) : x <<< ((0 : Int32) &&& 31) = x := by
  have h := c_ishl x 0 0 (by decide)
  have a := rng32 x; have b := rng32 (x <<< ((0 : Int32) &&& 31))
  apply Int32.toInt_inj.mp
  simp only [Nat.pow_zero] at h
  omega
theorem own_nc {c : Int32} (h : Chr c) : nar .char c = c := by
  have q := c_i2c c
  obtain ⟨h1, h2⟩ := h
  apply Int32.toInt_inj.mp
  show c.toUInt32.toUInt16.toUInt32.toInt32.toInt = c.toInt
  omega
theorem own_nb (c : Int32) : nar .byte (c.toInt8.toInt32) = lo8 c := by
  show (c.toInt8.toInt32).toInt8.toInt32 = c.toInt8.toInt32
  have a := c_i2b c
  have b := c_i2b (c.toInt8.toInt32)
  apply Int32.toInt_inj.mp
  omega
theorem own_nb2 (c : Int32) : c.toInt8.toInt32.toInt8.toInt32 = lo8 c := own_nb c
theorem own_nbh2 (c : Int32) : (c >>> ((8 : Int32) &&& 31)).toInt8.toInt32.toInt8.toInt32 = hi8 c := own_nb _
theorem own_backL {c : Int32} (h : Lat c) : (lo8 c &&& (255 : Int32)) = c := by
  obtain ⟨h1, h2⟩ := h
  have a := c_i2b c
  have b := c_mask (lo8 c) 255 8 (by decide) (by decide)
  apply Int32.toInt_inj.mp
  rw [b]
  show c.toInt8.toInt32.toInt % 256 = c.toInt
  omega
theorem own_i2c {c : Int32} (h : Chr c) : c.toUInt32.toUInt16.toUInt32.toInt32 = c := own_nc h
theorem own_backU {c : Int32} (h : Chr c) : ((((lo8 c &&& (255 : Int32)) <<< ((0 : Int32) &&& 31)) ||| ((hi8 c &&& (255 : Int32)) <<< ((8 : Int32) &&& 31))).toUInt32.toUInt16.toUInt32.toInt32) = c := by
  obtain ⟨h1, h2⟩ := h
  rw [own_shl0]
  have a := c_i2b c
  have m1 := c_mask (lo8 c) 255 8 (by decide) (by decide)
  have m2 := c_mask (hi8 c) 255 8 (by decide) (by decide)
  have s1 := c_ishr c 8 8 (by decide)
  have b := c_i2b (c >>> ((8 : Int32) &&& 31))
  have e1 : (lo8 c).toInt = c.toInt8.toInt32.toInt := rfl
  have e2 : (hi8 c).toInt = (c >>> ((8 : Int32) &&& 31)).toInt8.toInt32.toInt := rfl
  have sh := c_ishl (hi8 c &&& (255 : Int32)) 8 8 (by decide)
  generalize (lo8 c &&& (255 : Int32)) = x at *
  generalize hy : (hi8 c &&& (255 : Int32)) = y at *
  generalize hw : y <<< ((8 : Int32) &&& 31) = w at *
  have hyr : 0 ≤ y.toInt ∧ y.toInt < 256 := by omega
  have rw1 := rng32 w
  have hwv : w.toInt = y.toInt * 256 := by omega
  have o := c_or w x 8 (by decide) 256 (by decide) (by omega) (by omega) (by omega)
  rw [Int32.or_comm]
  have i := c_i2c (w ||| x)
  have r := rng32 (w ||| x)
  apply Int32.toInt_inj.mp
  omega
theorem own_shr1 {n : Nat} (h : n ≤ 1000) : (Int32.ofNat (2 * n)) >>> ((1 : Int32) &&& 31) = Int32.ofNat n := by
  apply Int32.toInt_inj.mp
  rw [c_ishr _ 1 1 (by decide)]
  have a : (Int32.ofNat (2 * n)).toInt = 2 * n := Int32.toInt_ofNat_of_lt (by omega)
  have b : (Int32.ofNat n).toInt = n := Int32.toInt_ofNat_of_lt (by omega)
  rw [a, b]; omega
abbrev JS : String := "java/lang/String"
def StrOf (Z : State) (h : Heap) (a : Addr) (cs : List Int32) : Prop := ∃ (b : Addr) (kb : ClassId), Exa Z h a "java/lang/String" ∧ Fld Z h a "java/lang/String" "value" "[B" (.ref b) ∧
  ((Fld Z h a "java/lang/String" "coder" "B" (.int 0) ∧ (∀ c ∈ cs, Lat c) ∧ Arv Z h b kb .byte (Int32.ofNat cs.length) (latV cs) (.int 0)) ∨ (Fld Z h a "java/lang/String" "coder" "B" (.int 1) ∧ (∀ c ∈ cs, Chr c) ∧ Arv Z h b kb .byte (Int32.ofNat (2 * cs.length)) (utfV cs) (.int 0))) ∧ cs.length ≤ 1000
section S
variable {Z : State} {h h' : Heap} {a b o : Addr} {kb : ClassId} {cs : List Int32} {z : Int32} {vs : List Value} {ws : List Addr} {a0 : Array Value}
theorem StrOf.latin (A : Exa Z h a "java/lang/String") (F : Fld Z h a "java/lang/String" "value" "[B" (.ref b)) (C : Fld Z h a "java/lang/String" "coder" "B" (.int 0)) (V : Arv Z h b kb .byte z vs (.int 0)) (hL : ∀ c ∈ cs, Lat c) (hz : z = Int32.ofNat cs.length) (hv : vs = latV cs) (hn : cs.length ≤ 1000) : StrOf Z h a cs := by
  subst hz hv; exact ⟨b, kb, A, F, Or.inl ⟨C, hL, V⟩, hn⟩
theorem StrOf.utf (A : Exa Z h a "java/lang/String") (F : Fld Z h a "java/lang/String" "value" "[B" (.ref b)) (C : Fld Z h a "java/lang/String" "coder" "B" (.int 1)) (V : Arv Z h b kb .byte z vs (.int 0)) (hL : ∀ c ∈ cs, Chr c) (hz : z = Int32.ofNat (2 * cs.length)) (hv : vs = utfV cs) (hn : cs.length ≤ 1000) : StrOf Z h a cs := by
  subst hz hv; exact ⟨b, kb, A, F, Or.inr ⟨C, hL, V⟩, hn⟩
theorem StrOf.lt (S : StrOf Z h a cs) : a < h.size := by obtain ⟨b, kb, A, -⟩ := S; exact A.lt
theorem StrOf.exa (S : StrOf Z h a cs) : Exa Z h a "java/lang/String" := by obtain ⟨b, kb, A, -⟩ := S; exact A
theorem StrOf.ext (S : StrOf Z h a cs) (E : Ext h h') : StrOf Z h' a cs := by
  obtain ⟨b, kb, A, F, R, n⟩ := S
  exact ⟨b, kb, A.ext E, F.ext E, R.imp (fun ⟨C, L, V⟩ => ⟨C.ext E, L, V.ext E⟩) (fun ⟨C, L, V⟩ => ⟨C.ext E, L, V.ext E⟩), n⟩
def NB (Z : State) (h : Heap) (x : Addr) : Prop := ∀ (b : Addr) (kb : ClassId) (z : Int32) (vs : List Value) (d : Value), Arv Z h b kb .byte z vs d → x ≠ b
theorem own_nbC {k : ClassId} {d : Value} (E : Arv Z h o k .char z vs d) : NB Z h o := fun b kb z' vs' d' V q => by
  subst q
  obtain ⟨c1, A1, -⟩ := E
  obtain ⟨c2, A2, -⟩ := V
  cases A1.1.symm.trans A2.1
  obtain ⟨-, k1, j1, m1, e1⟩ := A1.2.1
  obtain ⟨-, k2, j2, m2, e2⟩ := A2.2.1
  cases j1.symm.trans j2
  rw [e1] at e2; cases e2
theorem StrOf.keep (S : StrOf Z h a cs) (K : Keep h h' ws) (q : ∀ x ∈ ws, x ≠ a ∧ NB Z h x) : StrOf Z h' a cs := by
  obtain ⟨b, kb, A, F, R, n⟩ := S
  have ha : a ∉ ws := fun m => (q a m).1 rfl
  refine ⟨b, kb, A.keep K, F.keep K ha, ?_, n⟩
  rcases R with ⟨C, L, V⟩ | ⟨C, L, V⟩
  · exact Or.inl ⟨C.keep K ha, L, V.keep K fun m => (q b m).2 _ _ _ _ _ V rfl⟩
  · exact Or.inr ⟨C.keep K ha, L, V.keep K fun m => (q b m).2 _ _ _ _ _ V rfl⟩
theorem StrOf.wr {sl : Nat} {v : Value} (S : StrOf Z h a cs) (W : Wr h h' o sl v) (q : o ≠ a) (r : NB Z h o) : StrOf Z h' a cs := S.keep (Keep.of_wr W) (allS ⟨q, r⟩ all0)
end S
theorem own_latGet {cs : List Int32} {j r : Int32} (h0 : ¬ j < 0) (h1 : j < Int32.ofNat cs.length) (hn : cs.length ≤ 1000) (hr : cs.getD j.toNatClampNeg 0 = r) : (latV cs).getD j.toNatClampNeg (.int 0) = .int (lo8 r) := by
  have hl : (Int32.ofNat cs.length).toInt = cs.length := Int32.toInt_ofNat_of_lt (by omega)
  rw [Int32.lt_iff_toInt_lt, hl] at h1
  rw [Int32.lt_iff_toInt_lt] at h0
  have e0 : (0 : Int32).toInt = 0 := by decide
  have hj : j.toNatClampNeg < cs.length := by simp only [Int32.toNatClampNeg]; omega
  subst hr
  simp [latV, List.getD_eq_getElem?_getD, List.getElem?_map, List.getElem?_eq_getElem hj]
theorem own_idx {cs : List Int32} {j : Int32} (h0 : ¬ j < 0) (h1 : j < Int32.ofNat cs.length) (hn : cs.length ≤ 1000) : j.toNatClampNeg < cs.length := by
  have hl : (Int32.ofNat cs.length).toInt = cs.length := Int32.toInt_ofNat_of_lt (by omega)
  rw [Int32.lt_iff_toInt_lt, hl] at h1
  rw [Int32.lt_iff_toInt_lt] at h0
  have e0 : (0 : Int32).toInt = 0 := by decide
  simp only [Int32.toNatClampNeg]; omega
theorem own_mem {cs : List Int32} {j r : Int32} (h0 : ¬ j < 0) (h1 : j < Int32.ofNat cs.length) (hn : cs.length ≤ 1000) (hr : cs.getD j.toNatClampNeg 0 = r) : r ∈ cs := by
  have hj := own_idx h0 h1 hn
  subst hr
  simp [List.getD_eq_getElem?_getD, List.getElem?_eq_getElem hj]
theorem StrOf.len {Z : State} {h : Heap} {a : Addr} {cs : List Int32} (S : StrOf Z h a cs) : cs.length ≤ 1000 := by obtain ⟨b, kb, -, -, -, n⟩ := S; exact n
theorem own_il {cs : List Int32} (k : Nat) (j : Int32) (hj : j.toInt = k) (h : k < cs.length) (hn : cs.length ≤ 1000) : j < Int32.ofNat cs.length := by
  have hl : (Int32.ofNat cs.length).toInt = cs.length := Int32.toInt_ofNat_of_lt (by omega)
  rw [Int32.lt_iff_toInt_lt, hl, hj]; omega
theorem own_toLat {c : Int32} (h : Chr c) (q : ¬ ((255 : Int32) < c)) : Lat c := by
  obtain ⟨h1, h2⟩ := h
  rw [Int32.lt_iff_toInt_lt] at q
  have e0 : (255 : Int32).toInt = 255 := by decide
  exact ⟨h1, by omega⟩
theorem own_two {cs : List Int32} {j : Int32} (h0 : ¬ j < 0) (h1 : j < Int32.ofNat cs.length) (hn : cs.length ≤ 1000) : (j <<< ((1 : Int32) &&& 31)).toInt = 2 * j.toInt ∧ ((j <<< ((1 : Int32) &&& 31)) + (1 : Int32)).toInt = 2 * j.toInt + 1 ∧ 0 ≤ j.toInt ∧ j.toInt < cs.length := by
  have hl : (Int32.ofNat cs.length).toInt = cs.length := Int32.toInt_ofNat_of_lt (by omega)
  rw [Int32.lt_iff_toInt_lt, hl] at h1
  rw [Int32.lt_iff_toInt_lt] at h0
  have e0 : (0 : Int32).toInt = 0 := by decide
  have e1 : (1 : Int32).toInt = 1 := by decide
  have s := c_ishl j 1 1 (by decide)
  have r := rng32 (j <<< ((1 : Int32) &&& 31))
  have a := c_iadd (j <<< ((1 : Int32) &&& 31)) 1
  have r2 := rng32 ((j <<< ((1 : Int32) &&& 31)) + (1 : Int32))
  rw [e1] at a
  refine ⟨by omega, by omega, by omega, by omega⟩
theorem own_ub0 {cs : List Int32} {j : Int32} (h0 : ¬ j < 0) (h1 : j < Int32.ofNat cs.length) (hn : cs.length ≤ 1000) : ¬ (j <<< ((1 : Int32) &&& 31)) < 0 ∧ (j <<< ((1 : Int32) &&& 31)) < Int32.ofNat (2 * cs.length) := by
  obtain ⟨a, b, c, d⟩ := own_two h0 h1 hn
  have hl : (Int32.ofNat (2 * cs.length)).toInt = (2 * cs.length : Nat) := Int32.toInt_ofNat_of_lt (by omega)
  have e0 : (0 : Int32).toInt = 0 := by decide
  rw [Int32.lt_iff_toInt_lt, Int32.lt_iff_toInt_lt, hl, a, e0]
  omega
theorem own_ub1 {cs : List Int32} {j : Int32} (h0 : ¬ j < 0) (h1 : j < Int32.ofNat cs.length) (hn : cs.length ≤ 1000) : ¬ ((j <<< ((1 : Int32) &&& 31)) + (1 : Int32)) < 0 ∧ ((j <<< ((1 : Int32) &&& 31)) + (1 : Int32)) < Int32.ofNat (2 * cs.length) := by
  obtain ⟨a, b, c, d⟩ := own_two h0 h1 hn
  have hl : (Int32.ofNat (2 * cs.length)).toInt = (2 * cs.length : Nat) := Int32.toInt_ofNat_of_lt (by omega)
  have e0 : (0 : Int32).toInt = 0 := by decide
  rw [Int32.lt_iff_toInt_lt, Int32.lt_iff_toInt_lt, hl, b, e0]
  omega
theorem own_utfAt : ∀ (cs : List Int32) (i : Nat), i < cs.length → (utfV cs).getD (2 * i) (.int 0) = .int (lo8 (cs.getD i 0)) ∧ (utfV cs).getD (2 * i + 1) (.int 0) = .int (hi8 (cs.getD i 0))
  | [], i, h => by simp at h
  | c :: cs, 0, _ => ⟨rfl, rfl⟩
  | c :: cs, i + 1, h => by
    have q := own_utfAt cs i (by simpa using h)
    exact q
theorem own_ug0 {cs : List Int32} {j r : Int32} (h0 : ¬ j < 0) (h1 : j < Int32.ofNat cs.length) (hn : cs.length ≤ 1000) (hr : cs.getD j.toNatClampNeg 0 = r) : (utfV cs).getD (j <<< ((1 : Int32) &&& 31)).toNatClampNeg (.int 0) = .int (lo8 r) := by
  obtain ⟨a, b, c, d⟩ := own_two h0 h1 hn
  have e : (j <<< ((1 : Int32) &&& 31)).toNatClampNeg = 2 * j.toNatClampNeg := by simp only [Int32.toNatClampNeg, a]; omega
  rw [e, (own_utfAt cs _ (own_idx h0 h1 hn)).1, hr]
theorem own_ug1 {cs : List Int32} {j r : Int32} (h0 : ¬ j < 0) (h1 : j < Int32.ofNat cs.length) (hn : cs.length ≤ 1000) (hr : cs.getD j.toNatClampNeg 0 = r) : (utfV cs).getD ((j <<< ((1 : Int32) &&& 31)) + (1 : Int32)).toNatClampNeg (.int 0) = .int (hi8 r) := by
  obtain ⟨a, b, c, d⟩ := own_two h0 h1 hn
  have e : ((j <<< ((1 : Int32) &&& 31)) + (1 : Int32)).toNatClampNeg = 2 * j.toNatClampNeg + 1 := by simp only [Int32.toNatClampNeg, b]; omega
  rw [e, (own_utfAt cs _ (own_idx h0 h1 hn)).2, hr]
theorem own_stv {s : State} {args : Array Value} {C n d : String} {k : Int32} (h : (Jvm.Cond.eq (Jvm.Term.static C n d) (Jvm.Term.int k)).value args s none s [] = some true) : (Jvm.Term.static C n d).eval args s none [] s = some (.int k) := by
  obtain ⟨x, y, h1, h2, h3, h4⟩ := cmp_v (Or.inl h)
  have e : y = .int k := by simpa [Term.eval] using h2.symm
  subst e
  obtain ⟨z, rfl⟩ := h4
  have q := gotT (Cond.eq_ints h1 rfl) h
  rw [h1, q]
theorem own_safeNew {Z : State} {EL : List (String × Nat)} {vm : Vm} {h : Heap} {x : Addr} (hal : Z.vm.Alike vm) (E : Exa Z h x "java/lang/String") (V : Fld Z h x "java/lang/String" "value" "[B" .null) : Safe Z EL vm h x := fun B => by
  obtain ⟨cell, k, e1, e2, e3, -, -⟩ := E
  obtain ⟨cell', cf, kf, i, f, v1, v2, v3, v4, v5, v6, v7⟩ := V
  cases e1.symm.trans v1
  obtain ⟨p, -, u, a, -, q, -, F, rfl | rfl⟩ := B
  · cases (show h[q.sa]? = some q.sC from F.ha).symm.trans e1
    obtain ⟨cS, ⟨r, -, -⟩, -⟩ := F
    obtain ⟨k', w, -⟩ := State.fieldFound?_setVm (s := ({ Z with heap := h } : State)) (vm' := vm) hal v2
    obtain ⟨c2, k2, i2, w2, -⟩ := r.2.2.2.1
    have w3 := w.symm.trans w2
    simp only [Option.some.injEq, Prod.mk.injEq] at w3
    have r8 := r.2.2.2.2.2.2.2.1
    rw [← w3.2.2.2, v7] at r8
    cases r8
  · cases (show h[q.sd]? = some q.SA from F.hd).symm.trans e1
    obtain ⟨cS, -, -, f', -⟩ := F
    have f2 : vm.findClass "[B" = some q.SA.cls := f'
    rw [hal.findClass] at f2
    obtain ⟨k1, q1, q2⟩ := Vm.findClass_spec f2
    obtain ⟨k2, q3, q4⟩ := Vm.findClass_spec e2
    cases q1.symm.trans q3
    exact absurd (q2.symm.trans q4) (by decide)
theorem own_arvE {Z : State} {h : Heap} {a : Addr} {k : ClassId} {ty : FieldType} {z : Int32} {vs vs' : List Value} {d : Value} (V : Arv Z h a k ty z vs d) (e : vs = vs') : Arv Z h a k ty z vs' d := e ▸ V
theorem own_nf2 {s : State} {args : Array Value} {y : MethodName} {S n d : String} {x : MethodName} (w : (Cond.selects S x ⟨y.cls, n, d⟩).before args s = true) : NotFace s y := fun r0 h0 => by
  obtain ⟨c, r, m2, -, -, h3, -, kk, h5, h6⟩ := Cond.selects_spec w
  have q0 := findClass_of_methodNamed h3
  have q1 : s.vm.findClass y.cls = some m2.cls := q0
  have q2 : s.vm.findClass y.cls = some r0.cls := findClass_of_methodNamed h0
  have e : m2.cls = r0.cls := Option.some.inj (q1.symm.trans q2)
  exact ⟨kk, by rw [← e]; exact h5, h6⟩
theorem own_sameM {Z : State} {a0 : Array Value} {y : MethodName} {S n d : String} {x : MethodName} (wi : (Cond.instanceMethod y).before a0 Z = true) (w : (Cond.selects S x ⟨y.cls, n, d⟩).before a0 Z = true) (hy : y.cls ≠ "java/lang/invoke/MethodHandle" ∧ y.cls ≠ "java/lang/invoke/VarHandle") : (Cond.sameMethod y.cls y.cls y.name y.desc).before a0 Z = true := by
  obtain ⟨mk, methM, hn, -⟩ := Cond.instanceMethod_spec wi
  obtain ⟨kk, h5, h6⟩ := own_nf2 w mk hn
  simp only [Cond.before, Cond.holds, Cond.value, findClass_of_methodNamed hn, State.methodFound?_of_named hn hy, hn]
  simp [h5, h6]
theorem own_selQ {Z s : State} {a0 args : Array Value} {y : MethodName} {S n d : String} {x : MethodName} (hZ : Z.Warmed39 s.vm) (w : (Cond.selects S x ⟨y.cls, n, d⟩).before a0 Z = true) (wp : (Cond.privateMethod y).before a0 Z = true) (wm : (Cond.instanceMethod y).before a0 Z = true) (hy : y.cls ≠ "java/lang/invoke/MethodHandle" ∧ y.cls ≠ "java/lang/invoke/VarHandle") : (Cond.selects y.cls y y).before args s = true := by
  obtain ⟨mk, methM, hn, -⟩ := Cond.instanceMethod_spec (mvT hZ wm : (Cond.instanceMethod y).before #[] s = true)
  obtain ⟨kk, h5, h6⟩ := own_nf2 (mvT hZ w : (Cond.selects S x ⟨y.cls, n, d⟩).before #[] s = true) mk hn
  exact selects_self_of_private (findClass_of_methodNamed hn) h5 h6 (Cond.privateMethod_at (mvP hZ wp (args := #[]))) (mvT hZ wm) hy
theorem own_unp {Z : State} {h : Heap} {a : Addr} {k : ClassId} {ty : FieldType} {z : Int32} {dv : Value} {n : Nat} (V : Arv Z h a k ty z (List.replicate n dv) dv) : Arv Z h a k ty z [] dv := V.pad fun i => by
  show ([] : List Value).getD i dv = (List.replicate n dv).getD i dv
  rw [List.getD, List.getD, List.getElem?_replicate]; split <;> rfl
theorem own_ofA (a b : Nat) : Int32.ofNat a + Int32.ofNat b = Int32.ofNat (a + b) := (Int32.ofNat_add ..).symm
theorem own_latA (ys xs : List Int32) : latV (ys ++ xs) = latV ys ++ latV xs := by simp [latV]
theorem own_latLen (ys : List Int32) : (latV ys).length = ys.length := by simp [latV]
theorem own_tnO {n : Nat} (h : n ≤ 1000) : (Int32.ofNat n).toNatClampNeg = n ∧ ¬ Int32.ofNat n < 0 ∧ (Int32.ofNat n).toInt = n := by
  have l : (Int32.ofNat n).toInt = n := Int32.toInt_ofNat_of_lt (by omega)
  have e0 : (0 : Int32).toInt = 0 := by decide
  refine ⟨?_, ?_, l⟩
  · show (Int32.ofNat n).toInt.toNat = n
    rw [l]; omega
  · rw [Int32.lt_iff_toInt_lt, l, e0]; omega
theorem own_cpL (ys xs : List Int32) : ((latV ys ++ List.replicate xs.length (Value.int 0)).take ys.length ++ latV xs ++ (latV ys ++ List.replicate xs.length (Value.int 0)).drop (ys.length + xs.length)) = latV (ys ++ xs) := by
  rw [own_latA, List.take_left' (own_latLen ys), List.drop_eq_nil_of_le (by simp [own_latLen]), List.append_nil]
theorem own_rgL (xs : List Int32) (z : Int32) : latV xs = (List.range xs.length).map fun i => (latV xs).getD (0 + i) (.int z) := by
  apply List.ext_getElem?
  intro i
  by_cases h : i < xs.length
  · simp [latV, h, List.getD]
  · simp [latV, h]
theorem own_ecN {z : Int32} {m : Nat} (hz : ¬ z < 0) (h : m ≤ z.toNatClampNeg) (h1 : z.toNatClampNeg ≤ 1000) : ¬ ((0 : Int32) < Int32.ofNat m - z) := by
  have e0 : (0 : Int32).toInt = 0 := by decide
  have l : (Int32.ofNat m).toInt = m := Int32.toInt_ofNat_of_lt (by omega)
  have a := c_isub (Int32.ofNat m) z
  have r := rng32 (Int32.ofNat m - z)
  simp only [Int32.toNatClampNeg] at h h1
  rw [Int32.lt_iff_toInt_lt, e0] at hz
  rw [Int32.lt_iff_toInt_lt, e0]
  omega
theorem own_ltZ {z : Int32} {m : Nat} (hz : ¬ z < 0) (h : m < z.toNatClampNeg) (h1 : z.toNatClampNeg ≤ 1000) : Int32.ofNat m < z := by
  have e0 : (0 : Int32).toInt = 0 := by decide
  have l : (Int32.ofNat m).toInt = m := Int32.toInt_ofNat_of_lt (by omega)
  simp only [Int32.toNatClampNeg] at h h1
  rw [Int32.lt_iff_toInt_lt, e0] at hz
  rw [Int32.lt_iff_toInt_lt, l]
  omega
theorem own_neZ {z : Int32} {m : Nat} (h : Int32.ofNat m < z) : ¬ (Int32.ofNat m = z) := fun e => by rw [e] at h; exact Int32.lt_irrefl h
theorem own_padN {Z : State} {h : Heap} {a : Addr} {k : ClassId} {ty : FieldType} {z : Int32} {dv : Value} {vs : List Value} (F : Arv Z h a k ty z vs dv) (n : Nat) : Arv Z h a k ty z (vs ++ List.replicate n dv) dv := F.pad (pad_rep vs dv n)
theorem own_nz {Z : State} {h : Heap} {a : Addr} {k : ClassId} {ty : FieldType} {z : Int32} {dv : Value} {vs : List Value} (F : Arv Z h a k ty z vs dv) : ¬ z < 0 := F.choose_spec.2.2.2.1
theorem own_loopG {p : Program} {l : Launch} {e : Env} {R : Room} {s : State} {m : MethodId} {as : Array Value} {below : List Frame} {meth : Method} {c : Code} {C S : Nat} {En : Outcome → State → List Loc → Prop} {Q : Option Value → Heap → List Loc → Prop} {T0 : State} {L0 : List Loc}
    {ι : Type} {μ : ι → Nat} {I : ι → State → List Loc → Prop} {B : ι → State → State}
    (step : ∀ (i : ι) (T : State) (L : List Loc), Stand p l e R s m as below meth c T L C S → I i T L → (∀ (j : ι) (T' : State) (L' : List Loc), μ j < μ i → Stand p l e R s m as below meth c T' L' C S → I j T' L' → Goes p e below En Q (B j T')) → Goes p e below En Q (B i T))
    (i0 : ι) (X : Stand p l e R s m as below meth c T0 L0 C S) (hi : I i0 T0 L0) : Goes p e below En Q (B i0 T0) := by
  have key : ∀ (k : Nat) (i : ι), μ i ≤ k → ∀ (T : State) (L : List Loc), Stand p l e R s m as below meth c T L C S → I i T L → Goes p e below En Q (B i T) := by
    intro k
    induction k with
    | zero => intro i hk T L X h; exact step i T L X h (fun j T L hj => absurd hj (by omega))
    | succ k ih => intro i hk T L X h; exact step i T L X h (fun j T L hj X hI => ih j (by omega) T L X hI)
  exact key _ i0 (Nat.le_refl _) T0 L0 X hi
def own_esc (c : Int32) : List Int32 := if c = 92 then [92, 92] else if c = 9 then [92, 116] else if c = 10 then [92, 110] else if c = 13 then [92, 114] else [c]
def own_escs (xs : List Int32) : List Int32 := xs.flatMap own_esc
def own_fl (l a b : Int32) : List Int32 := if l = 0 then [] else if l = 1 then [a] else [a, b]
def chV (cs : List Int32) : List Value := cs.map .int
theorem own_escL (c : Int32) : (own_esc c).length ≤ 2 := by unfold own_esc; (repeat' split) <;> simp
theorem own_escsL (xs : List Int32) : (own_escs xs).length ≤ 2 * xs.length := by
  induction xs with
  | nil => exact Nat.le_refl _
  | cons c t ih =>
    have h := own_escL c
    show (own_esc c ++ own_escs t).length ≤ 2 * (t.length + 1)
    rw [List.length_append]; omega
theorem own_flL (l a b : Int32) : (own_fl l a b).length ≤ 2 := by unfold own_fl; (repeat' split) <;> simp
theorem own_flE (l a b : Int32) : (own_escs (own_fl l a b)).length ≤ 4 := by
  have h := own_escsL (own_fl l a b)
  have q := own_flL l a b
  omega
theorem own_le2 {xs : List Int32} (h : xs.length ≤ 2) : xs = [] ∨ (∃ c0, xs = [c0]) ∨ ∃ c0 c1, xs = [c0, c1] := by
  match xs, h with
  | [], _ => exact Or.inl rfl
  | [c0], _ => exact Or.inr (Or.inl ⟨c0, rfl⟩)
  | [c0, c1], _ => exact Or.inr (Or.inr ⟨c0, c1, rfl⟩)
theorem own_escs1 (c : Int32) : own_escs [c] = own_esc c := by simp [own_escs]
theorem own_escs2 (c d : Int32) : own_escs [c, d] = own_esc c ++ own_esc d := by simp [own_escs]
theorem own_utfL (ys : List Int32) : (utfV ys).length = 2 * ys.length := by
  induction ys with
  | nil => rfl
  | cons c t ih => show (utfV t).length + 2 = 2 * (t.length + 1); omega
theorem own_utfA (ys xs : List Int32) : utfV (ys ++ xs) = utfV ys ++ utfV xs := by simp [utfV]
theorem own_utfSet (ys : List Int32) (c : Int32) : ((utfV ys ++ List.replicate 2 (Value.int 0)).set (2 * ys.length) (.int (lo8 c))).set (2 * ys.length + 1) (.int (hi8 c)) = utfV (ys ++ [c]) := by
  rw [own_utfA, ← own_utfL, List.set_append_right _ _ (Nat.le_refl _), Nat.sub_self, List.set_append_right _ _ (by omega), Nat.add_sub_cancel_left]
  rfl
theorem own_latSet (ys : List Int32) (c : Int32) : (latV ys ++ List.replicate 1 (Value.int 0)).set ys.length (.int (lo8 c)) = latV (ys ++ [c]) := by
  rw [show latV (ys ++ [c]) = latV ys ++ latV [c] from by simp [latV], show ys.length = (latV ys).length from by simp [latV], List.set_append_right _ _ (Nat.le_refl _), Nat.sub_self]
  rfl
theorem own_chL (zs : List Int32) : (chV zs).length = zs.length := by simp [chV]
theorem own_chA (ys xs : List Int32) : chV (ys ++ xs) = chV ys ++ chV xs := by simp [chV]
theorem own_chAt {zs : List Int32} {j : Nat} (h : j < zs.length) : (chV zs).getD j (.int 0) = .int (zs.getD j 0) := by simp [chV, List.getD, h]
theorem own_latD {xs : List Int32} {j : Nat} (h : j < xs.length) : (latV xs).getD j (.int 0) = .int (lo8 (xs.getD j 0)) := by simp [latV, List.getD, h]
theorem own_takeS {xs : List Int32} {j : Nat} (h : j < xs.length) (ys : List Int32) : (ys ++ xs.take j) ++ [xs.getD j 0] = ys ++ xs.take (j + 1) := by
  rw [List.append_assoc, List.take_add_one]
  simp [List.getD, h]
theorem own_getM {xs : List Int32} {j : Nat} (h : j < xs.length) : xs.getD j 0 ∈ xs := by
  simp only [List.getD, List.getElem?_eq_getElem h, Option.getD_some]
  exact List.getElem_mem h
theorem own_shl1 {n : Nat} (h : n ≤ 1000) : Int32.ofNat n <<< ((1 : Int32) &&& 31) = Int32.ofNat (2 * n) := by
  apply Int32.toInt_inj.mp
  have s := c_ishl (Int32.ofNat n) 1 1 (by decide)
  have r := rng32 (Int32.ofNat n <<< ((1 : Int32) &&& 31))
  have l1 : (Int32.ofNat n).toInt = n := Int32.toInt_ofNat_of_lt (by omega)
  have l2 : (Int32.ofNat (2 * n)).toInt = (2 * n : Nat) := Int32.toInt_ofNat_of_lt (by omega)
  rw [l1] at s
  rw [l2]; omega
theorem own_ofS (i : Nat) : Int32.ofNat i + 1 = Int32.ofNat (i + 1) := by rw [Int32.ofNat_add]; rfl
theorem own_ltO {L i : Nat} {z : Int32} (hz : z.toInt = (i : Int)) (hL : L ≤ 1000) : z < Int32.ofNat L ↔ i < L := by
  have l1 : (Int32.ofNat L).toInt = (L : Nat) := Int32.toInt_ofNat_of_lt (by omega)
  rw [Int32.lt_iff_toInt_lt, l1, hz]; omega
theorem own_ltN {L i : Nat} (hi : i ≤ 1000) (hL : L ≤ 1000) : Int32.ofNat i < Int32.ofNat L ↔ i < L := own_ltO (Int32.toInt_ofNat_of_lt (by omega)) hL
theorem own_or3 {o n : Nat} (ho : o ≤ 1000) (hn : n ≤ 1000) : ¬ (((16 : Int32) ||| Int32.ofNat o) ||| Int32.ofNat n) < 0 := by
  have l1 : (Int32.ofNat o).toInt = (o : Nat) := Int32.toInt_ofNat_of_lt (by omega)
  have l2 : (Int32.ofNat n).toInt = (n : Nat) := Int32.toInt_ofNat_of_lt (by omega)
  have e0 : (0 : Int32).toInt = 0 := by decide
  have a := (c_orS 16 (Int32.ofNat o)).1 (by decide) (by omega)
  have b := (c_orS (16 ||| Int32.ofNat o) (Int32.ofNat n)).1 a (by omega)
  rw [Int32.lt_iff_toInt_lt, e0]; omega
theorem own_sub16 {o n : Nat} (h : o + n ≤ 16) : ¬ ((16 : Int32) - Int32.ofNat o) < Int32.ofNat n := by
  have l1 : (Int32.ofNat o).toInt = (o : Nat) := Int32.toInt_ofNat_of_lt (by omega)
  have l2 : (Int32.ofNat n).toInt = (n : Nat) := Int32.toInt_ofNat_of_lt (by omega)
  have e : (16 : Int32).toInt = 16 := by decide
  have a := c_isub 16 (Int32.ofNat o)
  have r := rng32 ((16 : Int32) - Int32.ofNat o)
  rw [e, l1] at a
  rw [Int32.lt_iff_toInt_lt, l2]; omega
theorem own_chrN {c : Int32} (h : Chr c) (q : ¬ Lat c) : (255 : Int32) < c := by
  obtain ⟨h1, h2⟩ := h
  rw [Int32.lt_iff_toInt_lt, show (255 : Int32).toInt = 255 from by decide]
  rcases Int.lt_or_le 255 c.toInt with z | z
  · exact z
  · exact absurd ⟨h1, z⟩ q
theorem own_latNN {c : Int32} (h : Lat c) : ¬ (255 : Int32) < c := by
  obtain ⟨h1, h2⟩ := h
  rw [Int32.lt_iff_toInt_lt, show (255 : Int32).toInt = 255 from by decide]; omega
theorem own_allA {P : Int32 → Prop} {ys xs : List Int32} (h1 : ∀ c ∈ ys, P c) (h2 : ∀ c ∈ xs, P c) : ∀ c ∈ ys ++ xs, P c := fun c hc => (List.mem_append.mp hc).elim (h1 c) (h2 c)
theorem own_all1 {P : Int32 → Prop} {c : Int32} (h : P c) : ∀ d ∈ [c], P d := fun d hd => by rw [List.mem_singleton.mp hd]; exact h
theorem own_all2 {P : Int32 → Prop} {c e : Int32} (h : P c) (h' : P e) : ∀ d ∈ [c, e], P d := fun d hd => by
  simp only [List.mem_cons, List.not_mem_nil, or_false] at hd
  rcases hd with rfl | rfl <;> assumption
theorem own_rgV (vs : List Value) (d : Value) : vs = (List.range vs.length).map fun i => vs.getD (0 + i) d := by
  apply List.ext_getElem?
  intro i
  by_cases h : i < vs.length
  · simp [h, List.getD]
  · simp [h]
theorem own_cpV (vs : List Value) {n : Nat} (h : n = vs.length) : ((List.replicate n (Value.int 0)).take 0 ++ vs ++ (List.replicate n (Value.int 0)).drop (0 + n)) = vs := by
  rw [List.take_zero, List.nil_append, Nat.zero_add, List.drop_eq_nil_of_le (by simp), List.append_nil]
abbrev ASB : String := "java/lang/AbstractStringBuilder"
def SbOf (Z : State) (h : Heap) (a b : Addr) (ys : List Int32) : Prop := ∃ kb : ClassId, Exa Z h a "java/lang/StringBuilder" ∧ Fld Z h a "java/lang/AbstractStringBuilder" "value" "[B" (.ref b) ∧ Fld Z h a "java/lang/AbstractStringBuilder" "count" "I" (.int (Int32.ofNat ys.length)) ∧ Fld Z h a "java/lang/AbstractStringBuilder" "maybeLatin1" "Z" (.int 0) ∧
  ((Fld Z h a "java/lang/AbstractStringBuilder" "coder" "B" (.int 0) ∧ (∀ c ∈ ys, Lat c) ∧ Arv Z h b kb .byte 16 (latV ys) (.int 0)) ∨ (Fld Z h a "java/lang/AbstractStringBuilder" "coder" "B" (.int 1) ∧ (∀ c ∈ ys, Chr c) ∧ Arv Z h b kb .byte 32 (utfV ys) (.int 0)))
theorem SbOf.ext {Z : State} {h h' : Heap} {a b : Addr} {ys : List Int32} (B : SbOf Z h a b ys) (E : Ext h h') : SbOf Z h' a b ys := by
  obtain ⟨kb, A, F1, F2, F3, r⟩ := B
  refine ⟨kb, A.ext E, F1.ext E, F2.ext E, F3.ext E, ?_⟩
  rcases r with ⟨F, q, V⟩ | ⟨F, q, V⟩
  · exact Or.inl ⟨F.ext E, q, V.ext E⟩
  · exact Or.inr ⟨F.ext E, q, V.ext E⟩
theorem SbOf.exa {Z : State} {h : Heap} {a b : Addr} {ys : List Int32} (B : SbOf Z h a b ys) : Exa Z h a "java/lang/StringBuilder" := B.choose_spec.1
theorem SbOf.lt {Z : State} {h : Heap} {a b : Addr} {ys : List Int32} (B : SbOf Z h a b ys) : a < h.size := B.exa.lt
theorem SbOf.ltb {Z : State} {h : Heap} {a b : Addr} {ys : List Int32} (B : SbOf Z h a b ys) : b < h.size := by
  obtain ⟨kb, A, F1, F2, F3, ⟨F, q, V⟩ | ⟨F, q, V⟩⟩ := B <;> exact V.lt
theorem SbOf.obb {Z : State} {h : Heap} {a b : Addr} {ys : List Int32} (B : SbOf Z h a b ys) : Ob h b := by
  obtain ⟨kb, A, F1, F2, F3, ⟨F, q, V⟩ | ⟨F, q, V⟩⟩ := B <;> exact own_obA V
def EW2 (Z : State) (a0 : Array Value) (EL : List (String × Nat)) : Prop := ∀ p ∈ EL, ∃ text : String, (Cond.stringLink p.1 p.2 text).before a0 Z = true ∧ (∀ c ∈ text.toList, c.toNat < 256) ∧ text.toList.length ≤ 2
theorem EW2.nil {Z : State} {a0 : Array Value} : EW2 Z a0 [] := fun p hp => by cases hp
theorem EW2.cons {Z : State} {a0 : Array Value} {o : String} {i : Nat} {t : String} {L : List (String × Nat)} (w : (Cond.stringLink o i t).before a0 Z = true) (h : (∀ c ∈ t.toList, c.toNat < 256) ∧ t.toList.length ≤ 2) (r : EW2 Z a0 L) : EW2 Z a0 ((o, i) :: L) := fun p hp => by
  rcases List.mem_cons.mp hp with rfl | q
  · exact ⟨t, w, h.1, h.2⟩
  · exact r p q
theorem own_safeL {Z : State} {a0 : Array Value} {EL : List (String × Nat)} {vm : Vm} {h : Heap} {b : Addr} {k : ClassId} {z : Int32} {vs : List Value} {dv : Value} (hW : Z.Warmed39 vm) (hE : EW2 Z a0 EL) (V : Arv Z h b k .byte z vs dv) (hz : 3 ≤ z.toNatClampNeg) : Safe Z EL vm h b := fun B => by
  obtain ⟨c, ⟨A1, ⟨-, kA, hkA, compA, hkindA⟩, -⟩, -, S, -⟩ := V
  have hal := hW.alike
  obtain ⟨kA', hkA', ekA⟩ := hal.2.2 _ _ hkA
  obtain ⟨p, hp, u, a, hb, q, -, F, rfl | rfl⟩ := B
  · cases (show h[q.sa]? = some q.sC from F.ha).symm.trans A1
    obtain ⟨cS, ⟨-, -, e⟩, ⟨kS, g1, g2, -⟩, -⟩ := F
    subst e
    cases (show vm.classes[q.sC.cls]? = some kS from g1).symm.trans hkA'
    rw [ekA] at g2
    have := hkindA.symm.trans g2
    cases this
  · cases (show h[q.sd]? = some q.SA from F.hd).symm.trans A1
    obtain ⟨cS, -, -, -, hbyt⟩ := F
    obtain ⟨text, w, ht, hl⟩ := hE p hp
    obtain ⟨c1, k1, cf, i, hc, hk, hcf, hpool, hu, -⟩ := hb
    have w2 : (Cond.stringLink p.1 p.2 text).before a0 (Wst Z vm h) = true := mvS (s := { Z with heap := h }) hW w
    obtain ⟨k0', cf', i', units, hkx, hcf', hp', hu', -, htext, -⟩ := Cond.stringLink_spec (s := Wst Z vm h) hc w2
    cases (show vm.classes[c1]? = some k0' from hkx).symm.trans hk
    cases hcf'.symm.trans hcf
    have e1 := hp'.symm.trans hpool
    simp only [Option.some.injEq, CpInfo.string.injEq] at e1
    subst e1
    have e2 := hu'.symm.trans hu
    simp only [Option.some.injEq, CpInfo.utf8.injEq] at e2
    subst e2
    have hlat := Jvm.ClassFile.lat_of_text htext ht
    have hs : q.SA.slots.size = units.size := by rw [hbyt, Jvm.Free.SBG.stringBytes_lat hlat, Array.size_map]
    have hu2 : units.size = text.toList.length := by
      have q := congrArg List.length (Jvm.ClassFile.units_of_text htext ht)
      simpa using q
    omega
theorem SbOf.safe {Z : State} {a0 : Array Value} {EL : List (String × Nat)} {vm : Vm} {h : Heap} {a b : Addr} {ys : List Int32} (hW : Z.Warmed39 vm) (hE : EW2 Z a0 EL) (B : SbOf Z h a b ys) : Safe Z EL vm h b := by
  obtain ⟨kb, A, F1, F2, F3, ⟨F, q, V⟩ | ⟨F, q, V⟩⟩ := B
  · exact own_safeL hW hE V (by decide)
  · exact own_safeL hW hE V (by decide)
theorem own_lsw {tb : Tables} [Ours tb] {e : Env} {below : List Frame} {T : State} {m : MethodId} {c : Code} {g : JFrame} (h : At T m c below) (hx : tb.exec = Jvm.exec) (hg : g.method = m) {dflt : Int} {prs : Array (Int × Int)} {len : Nat} {o : Int} {pc0 pc' : Nat} (hpc : g.pc = pc0) (hd : decode c.code g.pc = .ok (.lookupswitch dflt prs, len)) {i : Int32} {rest : List Value} (hs : g.stack = .int i :: rest)
    (hord : (prs.toList.zip (prs.toList.drop 1)).all (fun (a, next) => a.1 < next.1) = true) (hoff : Op.lookupswitch.offset prs.toList dflt i.toInt = o) (ho : 0 ≤ (pc0 : Int) + o) (hp : ((pc0 : Int) + o).toNat = pc') {target : State}
    (hr : Steps tb e below (T.setTop { g with pc := pc', stack := rest }) target) : Steps tb e below (T.setTop g) target := by
  subst hg hpc hp hoff
  jvm_step h [h.top, hx, hd, hs, ho, Op.lookupswitch.wp_chain]
  refine ⟨fun a b a1 b1 hm => ?_, hr⟩
  have q := List.all_eq_true.mp hord ((a, b), (a1, b1)) (by rw [List.drop_one]; exact hm)
  simpa using q
theorem own_lswD {i : Int32} (h1 : ¬ i = 9) (h2 : ¬ i = 10) (h3 : ¬ i = 13) (h4 : ¬ i = 92) : Op.lookupswitch.offset [(9, 53), (10, 63), (13, 73), (92, 43)] 83 i.toInt = 83 := by
  have k : ∀ {n : Int32} {v : Int}, n.toInt = v → ¬ i = n → ¬ v = i.toInt := fun e h q => h (Int32.toInt_inj.mp (q.symm.trans e.symm))
  simp only [Op.lookupswitch.offset, if_neg (k (n := 9) (v := 9) (by decide) h1), if_neg (k (n := 10) (v := 10) (by decide) h2), if_neg (k (n := 13) (v := 13) (by decide) h3), if_neg (k (n := 92) (v := 92) (by decide) h4)]
theorem StrOf.chrs {Z : State} {h : Heap} {a : Addr} {cs : List Int32} (S : StrOf Z h a cs) : ∀ c ∈ cs, Chr c := by
  obtain ⟨b, kb, -, -, ⟨-, q, -⟩ | ⟨-, q, -⟩, -⟩ := S
  · exact fun c hc => (q c hc).chr
  · exact q
theorem own_esc1 (c : Int32) : 1 ≤ (own_esc c).length := by unfold own_esc; (repeat' split) <;> simp
theorem own_chSet2 (zs : List Int32) (p q : Int32) : ((chV zs ++ List.replicate 2 (Value.int 0)).set zs.length (.int p)).set (zs.length + 1) (.int q) = chV (zs ++ [p, q]) := by
  rw [own_chA, ← own_chL, List.set_append_right _ _ (Nat.le_refl _), Nat.sub_self, List.set_append_right _ _ (by omega), Nat.add_sub_cancel_left]
  rfl
theorem own_chSetO (zs : List Int32) (p : Int32) : (chV zs ++ List.replicate 1 (Value.int 0)).set zs.length (.int p) = chV (zs ++ [p]) := by
  rw [own_chA, ← own_chL, List.set_append_right _ _ (Nat.le_refl _), Nat.sub_self]
  rfl
theorem own_fl0 (a b : Int32) : own_fl 0 a b = [] := if_pos rfl
theorem own_fl1 (a b : Int32) : own_fl 1 a b = [a] := by rw [own_fl, if_neg (by decide), if_pos rfl]
theorem own_fl2 (a b : Int32) : own_fl 2 a b = [a, b] := by rw [own_fl, if_neg (by decide), if_neg (by decide)]
theorem own_i2cC (x : Int32) : Chr (x.toUInt32.toUInt16.toUInt32.toInt32) := by
  have c := c_i2c x
  exact ⟨c.2.1, by omega⟩
theorem own_r3 (x : Int32) : (x &&& (3 : Int32)) % (3 : Int32) = 0 ∨ (x &&& (3 : Int32)) % (3 : Int32) = 1 ∨ (x &&& (3 : Int32)) % (3 : Int32) = 2 := by
  have h := c_and x 3 (by decide)
  have h2 := (c_irem (x &&& (3 : Int32)) 3 3 (by decide)).1 h.1
  generalize ((x &&& (3 : Int32)) % (3 : Int32)) = r at *
  generalize (x &&& (3 : Int32)) = z at *
  have e0 : (0 : Int32).toInt = 0 := by decide
  have e1 : (1 : Int32).toInt = 1 := by decide
  have e2 : (2 : Int32).toInt = 2 := by decide
  simp only [← Int32.toInt_inj, e0, e1, e2]
  omega
theorem own_n4 (k : Int32) : (k &&& (3 : Int32)) = 0 ∨ (k &&& (3 : Int32)) = 1 ∨ (k &&& (3 : Int32)) = 2 ∨ (k &&& (3 : Int32)) = 3 := by
  have h := c_and k 3 (by decide)
  have e0 : (0 : Int32).toInt = 0 := by decide
  have e1 : (1 : Int32).toInt = 1 := by decide
  have e2 : (2 : Int32).toInt = 2 := by decide
  have e3 : (3 : Int32).toInt = 3 := by decide
  rw [e3] at h
  simp only [← Int32.toInt_inj, e0, e1, e2, e3]
  omega
theorem own_nbO {Z : State} {h : Heap} {o : Addr} {z : Int32} {vs : List Value} {k : ClassId} {d : Value} {n : String} (E : Arv Z h o k (.object n) z vs d) : NB Z h o := fun b kb z' vs' d' V q => by
  subst q
  obtain ⟨c1, A1, -⟩ := E
  obtain ⟨c2, A2, -⟩ := V
  cases A1.1.symm.trans A2.1
  obtain ⟨-, k1, j1, m1, e1⟩ := A1.2.1
  obtain ⟨-, k2, j2, m2, e2⟩ := A2.2.1
  cases j1.symm.trans j2
  rw [e1] at e2; cases e2
theorem own_tnJ {j : Int32} {n : Nat} (h : j.toInt = (n : Int)) : j.toNatClampNeg = n ∧ ¬ j < 0 := by
  have e0 : (0 : Int32).toInt = 0 := by decide
  refine ⟨?_, ?_⟩
  · show j.toInt.toNat = n
    rw [h]; rfl
  · rw [Int32.lt_iff_toInt_lt, e0]; omega
theorem own_snoc (zs : List Int32) (d : Int32) : Int32.ofNat zs.length + 1 = Int32.ofNat (zs ++ [d]).length := by
  rw [own_ofS, List.length_append]; rfl
theorem own_ofA2 (zs : List Int32) (d e : Int32) : Int32.ofNat zs.length + 2 = Int32.ofNat (zs ++ [d, e]).length := by
  rw [List.length_append, Int32.ofNat_add]; rfl
theorem own_chP (zs : List Int32) : zs.length < (chV zs ++ List.replicate 1 (Value.int 0)).length := by rw [List.length_append, own_chL, List.length_replicate]; omega
abbrev vj (x : Int64) : Slot := .val (.long x)
abbrev vS : Slot := .second
abbrev GG (A : State) {p : Program} {e : Env} {below : List Frame} {En : Outcome → State → List Loc → Prop} {Q : Option Value → Heap → List Loc → Prop} : Prop := Goes p e below En Q A
set_option maxRecDepth 65536
set_option maxHeartbeats 40000000
abbrev kc0 := jdk_29_method_69_code
abbrev kc1 := jdk_41_method_11_code
abbrev kc2 := jdk_41_method_13_code
abbrev kc3 := jdk_42_method_139_code
abbrev kc4 := jdk_42_method_147_code
abbrev kc5 := jdk_42_method_149_code
abbrev kc6 := jdk_42_method_150_code
abbrev kc7 := jdk_42_method_151_code
abbrev kc8 := jdk_42_method_152_code
abbrev kc9 := jdk_42_method_154_code
abbrev kc10 := jdk_42_method_155_code
abbrev kc11 := jdk_42_method_157_code
abbrev kc12 := jdk_42_method_3_code
abbrev kc13 := jdk_42_method_53_code
abbrev kc14 := jdk_42_method_54_code
abbrev kc15 := jdk_42_method_56_code
abbrev kc16 := jdk_43_method_2_code
abbrev kc17 := jdk_43_method_3_code
abbrev kc18 := jdk_43_method_46_code
abbrev kc19 := jdk_43_method_50_code
abbrev kc20 := jdk_52_method_14_code
abbrev kc21 := jdk_52_method_15_code
abbrev kc22 := jdk_52_method_16_code
abbrev kc23 := jdk_52_method_21_code
abbrev kc24 := jdk_52_method_24_code
abbrev kc25 := jdk_52_method_2_code
abbrev kc26 := jdk_52_method_3_code
abbrev kc27 := jdk_52_method_4_code
abbrev kc28 := jdk_52_method_5_code
abbrev kc29 := jdk_52_method_6_code
abbrev kc30 := jdk_52_method_71_code
abbrev kc31 := jdk_52_method_83_code
abbrev kc32 := jdk_52_method_86_code
abbrev kc33 := jdk_52_method_91_code
abbrev kc34 := jdk_52_method_94_code
abbrev kc35 := jdk_65_method_131_code
abbrev kc36 := jdk_65_method_132_code
abbrev kc37 := jdk_65_method_133_code
abbrev kc38 := jdk_67_method_14_code
abbrev kc39 := jdk_67_method_1_code
abbrev kc40 := jdk_67_method_42_code
abbrev kc41 := jdk_67_method_7_code
abbrev kc42 := jdk_67_method_93_code
abbrev kc43 := jdk_68_method_11_code
abbrev kc44 := jdk_68_method_22_code
abbrev kc45 := jdk_68_method_2_code
abbrev kc46 := jdk_68_method_31_code
abbrev kc47 := jdk_68_method_64_code
abbrev kc48 := jdk_68_method_68_code
abbrev kc49 := jdk_68_method_6_code
abbrev kc50 := jdk_68_method_71_code
abbrev kc51 := jdk_68_method_73_code
abbrev kc52 := jdk_68_method_9_code
abbrev kc53 := prog_3_method_2_code
abbrev kc54 := prog_3_method_3_code
theorem d0_0 : DK kc8 0 (.getstatic 38) 3 := by decide +kernel
theorem d0_3 : DK kc8 3 (.ifCond .eq 10) 3 := by decide +kernel
theorem d0_6 : DK kc8 6 (.aload_n 0) 1 := by decide +kernel
theorem d0_7 : DK kc8 7 (.getfield 15) 3 := by decide +kernel
theorem d0_10 : DK kc8 10 (.goto 4) 3 := by decide +kernel
theorem d0_14 : DK kc8 14 .ireturn 1 := by decide +kernel
theorem own_pn0 : plainName "java/lang/String" = true := by first | (simp [plainName, overriddenIn]; done) | decide +kernel
theorem own_ef_rs_coder0 (m : MethodId) (x0 : Addr) : entryFrame m #[(.ref x0)] 1 = mkF m 0 #[vr x0] [] := by first | (simp [entryFrame, mkF, argsToLocals, Value.category]; done) | rfl
def Q_rs_coder0 (Z : State) (a : Addr) (cz : Int32) (h0 : Heap) (n0 : Nat) (v : Option Value) (h : Heap) (L : List Loc) : Prop := v = some (.int 0) ∧ Fr n0 L ∧ h = h0
theorem rs_coder0 (l : Launch) (Z : State) (a0 : Array Value) (hw : HW a0 Z) (ws : List Jvm.Cond) (a : Addr) (cz : Int32) (h0 : Heap) (n0 : Nat) (Z0 : n0 ≤ h0.size) (F_coder_a : Fld Z h0 a "java/lang/String" "coder" "B" (.int 0)) (sgC : Sta Z h0 "java/lang/String" "COMPACT_STRINGS" "Z" (.int cz)) (hcz : ¬ (cz = 0)) :
  Met l Z mN0 jdk_42_method_152_code 1 (some .byte) ({ frames := 0, cells := 0, slots := 0, locals := 0 } : Room) ws #[(.ref a)] h0 (Q_rs_coder0 Z a cz h0 n0) := by
 refine own_met (plainFor_of_name own_pn0) ?_
 intro p e s m below meth c s₁ hret hx hby hlk hml hown hnm X0 e0 hZ hh
 have N0 := Fr.nil n0
 refine Gz (castTop (own_ef_rs_coder0 m a)) ?_
 show GG (fT s₁ m 0 #[vr a] [])
 obtain ⟨T1, X1, e1, st1⟩ := getS2 X0 hx hZ hown (host := "") (Or.inl (gw hw 135 rfl)) Via.refl e0 sgC (g := (mkF m 0 #[vr a] [])) rfl (hb hby d0_0)
 refine Gs st1 ?_
 show GG (fT T1 m 3 #[vr a] [(.int cz)])
 refine gu X1 hx hby d0_3 ((if0 _ _).trans (feq hcz).1) ?_
 refine gA X1 hx hby d0_6 rfl rfl rfl ?_
 obtain ⟨T2, X2, e2, st2⟩ := getF X1 hx hZ hown (host := "") (Or.inl (gw hw 28 rfl)) Via.refl e1 F_coder_a (g := (mkF m 7 #[vr a] [(.ref a)])) rfl rfl (hb hby d0_7)
 refine Gs st2 ?_
 show GG (fT T2 m 10 #[vr a] [(.int 0)])
 refine gG X2 hx hby d0_10 10 14 ?_
 refine Goes.ret X2 (some (.int 0)) (fun h => by rw [hret] at h; cases h) hlk (by decide) (by decide) ?_ (fun fs hr => ?_)
 ·exact ⟨rfl, N0, e2⟩
 ·exact own_retN X2 hx (t := .byte) hret (by simp) rfl (hb hby d0_14) hr
theorem d1_0 : DK kc9 0 (.getstatic 38) 3 := by decide +kernel
theorem d1_3 : DK kc9 3 (.ifCond .eq 14) 3 := by decide +kernel
theorem d1_6 : DK kc9 6 (.aload_n 0) 1 := by decide +kernel
theorem d1_7 : DK kc9 7 (.getfield 15) 3 := by decide +kernel
theorem d1_10 : DK kc9 10 (.ifCond .ne 7) 3 := by decide +kernel
theorem d1_13 : DK kc9 13 (.iconst 1) 1 := by decide +kernel
theorem d1_14 : DK kc9 14 (.goto 4) 3 := by decide +kernel
theorem d1_18 : DK kc9 18 .ireturn 1 := by decide +kernel
theorem own_ef_rs_isl0 (m : MethodId) (x0 : Addr) : entryFrame m #[(.ref x0)] 1 = mkF m 0 #[vr x0] [] := by first | (simp [entryFrame, mkF, argsToLocals, Value.category]; done) | rfl
def Q_rs_isl0 (Z : State) (a : Addr) (cz : Int32) (h0 : Heap) (n0 : Nat) (v : Option Value) (h : Heap) (L : List Loc) : Prop := v = some (.int 1) ∧ Fr n0 L ∧ h = h0
theorem rs_isl0 (l : Launch) (Z : State) (a0 : Array Value) (hw : HW a0 Z) (ws : List Jvm.Cond) (a : Addr) (cz : Int32) (h0 : Heap) (n0 : Nat) (Z0 : n0 ≤ h0.size) (F_coder_a : Fld Z h0 a "java/lang/String" "coder" "B" (.int 0)) (sgC : Sta Z h0 "java/lang/String" "COMPACT_STRINGS" "Z" (.int cz)) (hcz : ¬ (cz = 0)) :
  Met l Z mN1 jdk_42_method_154_code 1 (some .boolean) ({ frames := 0, cells := 0, slots := 0, locals := 0 } : Room) ws #[(.ref a)] h0 (Q_rs_isl0 Z a cz h0 n0) := by
 refine own_met (plainFor_of_name own_pn0) ?_
 intro p e s m below meth c s₁ hret hx hby hlk hml hown hnm X0 e0 hZ hh
 have N0 := Fr.nil n0
 refine Gz (castTop (own_ef_rs_isl0 m a)) ?_
 show GG (fT s₁ m 0 #[vr a] [])
 obtain ⟨T1, X1, e1, st1⟩ := getS2 X0 hx hZ hown (host := "") (Or.inl (gw hw 135 rfl)) Via.refl e0 sgC (g := (mkF m 0 #[vr a] [])) rfl (hb hby d1_0)
 refine Gs st1 ?_
 show GG (fT T1 m 3 #[vr a] [(.int cz)])
 refine gu X1 hx hby d1_3 ((if0 _ _).trans (feq hcz).1) ?_
 refine gA X1 hx hby d1_6 rfl rfl rfl ?_
 obtain ⟨T2, X2, e2, st2⟩ := getF X1 hx hZ hown (host := "") (Or.inl (gw hw 28 rfl)) Via.refl e1 F_coder_a (g := (mkF m 7 #[vr a] [(.ref a)])) rfl rfl (hb hby d1_7)
 refine Gs st2 ?_
 show GG (fT T2 m 10 #[vr a] [(.int 0)])
 refine gu X2 hx hby d1_10 ((if0 _ _).trans (teq (by decide : ((0 : Int32) = (0 : Int32)))).2) ?_
 refine gC X2 hx hby d1_13 ?_
 refine gG X2 hx hby d1_14 14 18 ?_
 refine Goes.ret X2 (some (.int 1)) (fun h => by rw [hret] at h; cases h) hlk (by decide) (by decide) ?_ (fun fs hr => ?_)
 ·exact ⟨rfl, N0, e2⟩
 ·exact own_retN X2 hx (t := .boolean) hret (by simp) rfl (hb hby d1_18) hr
theorem own_ef_rs_coder1 (m : MethodId) (x0 : Addr) : entryFrame m #[(.ref x0)] 1 = mkF m 0 #[vr x0] [] := by first | (simp [entryFrame, mkF, argsToLocals, Value.category]; done) | rfl
def Q_rs_coder1 (Z : State) (a : Addr) (cz : Int32) (h0 : Heap) (n0 : Nat) (v : Option Value) (h : Heap) (L : List Loc) : Prop := v = some (.int 1) ∧ Fr n0 L ∧ h = h0
theorem rs_coder1 (l : Launch) (Z : State) (a0 : Array Value) (hw : HW a0 Z) (ws : List Jvm.Cond) (a : Addr) (cz : Int32) (h0 : Heap) (n0 : Nat) (Z0 : n0 ≤ h0.size) (F_coder_a : Fld Z h0 a "java/lang/String" "coder" "B" (.int 1)) (sgC : Sta Z h0 "java/lang/String" "COMPACT_STRINGS" "Z" (.int cz)) (hcz : ¬ (cz = 0)) :
  Met l Z mN0 jdk_42_method_152_code 1 (some .byte) ({ frames := 0, cells := 0, slots := 0, locals := 0 } : Room) ws #[(.ref a)] h0 (Q_rs_coder1 Z a cz h0 n0) := by
 refine own_met (plainFor_of_name own_pn0) ?_
 intro p e s m below meth c s₁ hret hx hby hlk hml hown hnm X0 e0 hZ hh
 have N0 := Fr.nil n0
 refine Gz (castTop (own_ef_rs_coder1 m a)) ?_
 show GG (fT s₁ m 0 #[vr a] [])
 obtain ⟨T1, X1, e1, st1⟩ := getS2 X0 hx hZ hown (host := "") (Or.inl (gw hw 135 rfl)) Via.refl e0 sgC (g := (mkF m 0 #[vr a] [])) rfl (hb hby d0_0)
 refine Gs st1 ?_
 show GG (fT T1 m 3 #[vr a] [(.int cz)])
 refine gu X1 hx hby d0_3 ((if0 _ _).trans (feq hcz).1) ?_
 refine gA X1 hx hby d0_6 rfl rfl rfl ?_
 obtain ⟨T2, X2, e2, st2⟩ := getF X1 hx hZ hown (host := "") (Or.inl (gw hw 28 rfl)) Via.refl e1 F_coder_a (g := (mkF m 7 #[vr a] [(.ref a)])) rfl rfl (hb hby d0_7)
 refine Gs st2 ?_
 show GG (fT T2 m 10 #[vr a] [(.int 1)])
 refine gG X2 hx hby d0_10 10 14 ?_
 refine Goes.ret X2 (some (.int 1)) (fun h => by rw [hret] at h; cases h) hlk (by decide) (by decide) ?_ (fun fs hr => ?_)
 ·exact ⟨rfl, N0, e2⟩
 ·exact own_retN X2 hx (t := .byte) hret (by simp) rfl (hb hby d0_14) hr
theorem d1_17 : DK kc9 17 (.iconst 0) 1 := by decide +kernel
theorem own_ef_rs_isl1 (m : MethodId) (x0 : Addr) : entryFrame m #[(.ref x0)] 1 = mkF m 0 #[vr x0] [] := by first | (simp [entryFrame, mkF, argsToLocals, Value.category]; done) | rfl
def Q_rs_isl1 (Z : State) (a : Addr) (cz : Int32) (h0 : Heap) (n0 : Nat) (v : Option Value) (h : Heap) (L : List Loc) : Prop := v = some (.int 0) ∧ Fr n0 L ∧ h = h0
theorem rs_isl1 (l : Launch) (Z : State) (a0 : Array Value) (hw : HW a0 Z) (ws : List Jvm.Cond) (a : Addr) (cz : Int32) (h0 : Heap) (n0 : Nat) (Z0 : n0 ≤ h0.size) (F_coder_a : Fld Z h0 a "java/lang/String" "coder" "B" (.int 1)) (sgC : Sta Z h0 "java/lang/String" "COMPACT_STRINGS" "Z" (.int cz)) (hcz : ¬ (cz = 0)) :
  Met l Z mN1 jdk_42_method_154_code 1 (some .boolean) ({ frames := 0, cells := 0, slots := 0, locals := 0 } : Room) ws #[(.ref a)] h0 (Q_rs_isl1 Z a cz h0 n0) := by
 refine own_met (plainFor_of_name own_pn0) ?_
 intro p e s m below meth c s₁ hret hx hby hlk hml hown hnm X0 e0 hZ hh
 have N0 := Fr.nil n0
 refine Gz (castTop (own_ef_rs_isl1 m a)) ?_
 show GG (fT s₁ m 0 #[vr a] [])
 obtain ⟨T1, X1, e1, st1⟩ := getS2 X0 hx hZ hown (host := "") (Or.inl (gw hw 135 rfl)) Via.refl e0 sgC (g := (mkF m 0 #[vr a] [])) rfl (hb hby d1_0)
 refine Gs st1 ?_
 show GG (fT T1 m 3 #[vr a] [(.int cz)])
 refine gu X1 hx hby d1_3 ((if0 _ _).trans (feq hcz).1) ?_
 refine gA X1 hx hby d1_6 rfl rfl rfl ?_
 obtain ⟨T2, X2, e2, st2⟩ := getF X1 hx hZ hown (host := "") (Or.inl (gw hw 28 rfl)) Via.refl e1 F_coder_a (g := (mkF m 7 #[vr a] [(.ref a)])) rfl rfl (hb hby d1_7)
 refine Gs st2 ?_
 show GG (fT T2 m 10 #[vr a] [(.int 1)])
 refine gy X2 hx hby d1_10 10 17 ((if0 _ _).trans (feq (by decide : ¬ ((1 : Int32) = (0 : Int32)))).2) ?_
 refine gC X2 hx hby d1_17 ?_
 refine Goes.ret X2 (some (.int 0)) (fun h => by rw [hret] at h; cases h) hlk (by decide) (by decide) ?_ (fun fs hr => ?_)
 ·exact ⟨rfl, N0, e2⟩
 ·exact own_retN X2 hx (t := .boolean) hret (by simp) rfl (hb hby d1_18) hr
theorem d2_0 : DK kc14 0 (.aload_n 0) 1 := by decide +kernel
theorem d2_1 : DK kc14 1 (.getfield 9) 3 := by decide +kernel
theorem d2_4 : DK kc14 4 .arraylength 1 := by decide +kernel
theorem d2_5 : DK kc14 5 (.aload_n 0) 1 := by decide +kernel
theorem d2_6 : DK kc14 6 (.invokevirtual 335) 3 := by decide +kernel
theorem own_pd0 : parseMethodDescriptor "()B" = some ⟨[], some .byte⟩ := by decide +kernel
theorem d2_9 : DK kc14 9 .ishr 1 := by decide +kernel
theorem d2_10 : DK kc14 10 .ireturn 1 := by decide +kernel
theorem own_ef_rs_len (m : MethodId) (x0 : Addr) : entryFrame m #[(.ref x0)] 1 = mkF m 0 #[vr x0] [] := by first | (simp [entryFrame, mkF, argsToLocals, Value.category]; done) | rfl
def Q_rs_len (Z : State) (a : Addr) (xs : List Int32) (cz : Int32) (h0 : Heap) (n0 : Nat) (v : Option Value) (h : Heap) (L : List Loc) : Prop := v = some (.int (Int32.ofNat xs.length)) ∧ Fr n0 L ∧ h = h0
theorem rs_len (l : Launch) (Z : State) (a0 : Array Value) (hw : HW a0 Z) (ws : List Jvm.Cond) (a : Addr) (xs : List Int32) (cz : Int32) (h0 : Heap) (n0 : Nat) (Z0 : n0 ≤ h0.size) (T_a : StrOf Z h0 a xs) (sgC : Sta Z h0 "java/lang/String" "COMPACT_STRINGS" "Z" (.int cz)) (hcz : ¬ (cz = 0)) :
  Met l Z mN2 jdk_42_method_54_code 1 (some .int) ({ frames := 1, cells := 0, slots := 0, locals := 13 } : Room) ws #[(.ref a)] h0 (Q_rs_len Z a xs cz h0 n0) := by
 refine own_met (plainFor_of_name own_pn0) ?_
 intro p e s m below meth c s₁ hret hx hby hlk hml hown hnm X0 e0 hZ hh
 have N0 := Fr.nil n0
 refine Gz (castTop (own_ef_rs_len m a)) ?_
 show GG (fT s₁ m 0 #[vr a] [])
 obtain ⟨vb, kb, A_a, F_value_a, hrep, hlen⟩ := id T_a
 rcases hrep with ⟨F_coder_a, hall, V_vb⟩ | ⟨F_coder_a, hall, V_vb⟩
 ·show GG (fT s₁ m 0 #[vr a] [])
  refine gA X0 hx hby d2_0 rfl rfl rfl ?_
  obtain ⟨T1, X1, e1, st1⟩ := getF X0 hx hZ hown (host := "") (Or.inl (gw hw 27 rfl)) Via.refl e0 F_value_a (g := (mkF m 1 #[vr a] [(.ref a)])) rfl rfl (hb hby d2_1)
  refine Gs st1 ?_
  show GG (fT T1 m 4 #[vr a] [(.ref vb)])
  obtain ⟨cl2, Ar2, -, S2, N2z, -, -⟩ := id V_vb
  refine Gs (fun _ tk => X1.arraylength hx (by rw [e1]; exact Ar2.1) (State.isArrayOf_alike hZ.alike Ar2.2.1) (g := (mkF m 4 #[vr a] [(.ref vb)])) rfl rfl (hb hby d2_4) _ tk) ?_
  rw [len_of S2 N2z]
  show GG (fT T1 m 5 #[vr a] [(.int (Int32.ofNat xs.length))])
  refine gA X1 hx hby d2_5 rfl rfl rfl ?_
  refine cV X1 hx hZ hw hown hby hml e1 mN0 130 131 133 132 134 9 1 (rs_coder0 l Z a0 hw [] a cz h0 n0 Z0 F_coder_a sgC hcz) T_a.exa d2_6 (lenOf own_pd0 rfl) N0 (fun T3 L3 X3 e3 N3 => ?_)
  show GG (fT T3 m 9 #[vr a] [(.int 0), (.int (Int32.ofNat xs.length))])
  refine Gz (XS.ishr X3.here hx rfl (hb hby d2_9) rfl) ?_
  show GG (fT T3 m 10 #[vr a] [(.int ((Int32.ofNat xs.length) >>> ((0 : Int32) &&& 31)))])
  refine Goes.ret X3 (some (.int ((Int32.ofNat xs.length) >>> ((0 : Int32) &&& 31)))) (fun h => by rw [hret] at h; cases h) hlk (by decide) (by decide) ?_ (fun fs hr => ?_)
  ·exact ⟨(by rw [own_shr0]), N3, e3⟩
  ·exact retI X3 hx hret (hb hby d2_10) hr
 ·show GG (fT s₁ m 0 #[vr a] [])
  refine gA X0 hx hby d2_0 rfl rfl rfl ?_
  obtain ⟨T4, X4, e4, st4⟩ := getF X0 hx hZ hown (host := "") (Or.inl (gw hw 27 rfl)) Via.refl e0 F_value_a (g := (mkF m 1 #[vr a] [(.ref a)])) rfl rfl (hb hby d2_1)
  refine Gs st4 ?_
  show GG (fT T4 m 4 #[vr a] [(.ref vb)])
  obtain ⟨cl5, Ar5, -, S5, N5z, -, -⟩ := id V_vb
  refine Gs (fun _ tk => X4.arraylength hx (by rw [e4]; exact Ar5.1) (State.isArrayOf_alike hZ.alike Ar5.2.1) (g := (mkF m 4 #[vr a] [(.ref vb)])) rfl rfl (hb hby d2_4) _ tk) ?_
  rw [len_of S5 N5z]
  show GG (fT T4 m 5 #[vr a] [(.int (Int32.ofNat (2 * xs.length)))])
  refine gA X4 hx hby d2_5 rfl rfl rfl ?_
  refine cV X4 hx hZ hw hown hby hml e4 mN0 130 131 133 132 134 9 1 (rs_coder1 l Z a0 hw [] a cz h0 n0 Z0 F_coder_a sgC hcz) T_a.exa d2_6 (lenOf own_pd0 rfl) N0 (fun T6 L6 X6 e6 N6 => ?_)
  show GG (fT T6 m 9 #[vr a] [(.int 1), (.int (Int32.ofNat (2 * xs.length)))])
  refine Gz (XS.ishr X6.here hx rfl (hb hby d2_9) rfl) ?_
  show GG (fT T6 m 10 #[vr a] [(.int ((Int32.ofNat (2 * xs.length)) >>> ((1 : Int32) &&& 31)))])
  refine Goes.ret X6 (some (.int ((Int32.ofNat (2 * xs.length)) >>> ((1 : Int32) &&& 31)))) (fun h => by rw [hret] at h; cases h) hlk (by decide) (by decide) ?_ (fun fs hr => ?_)
  ·exact ⟨(by rw [own_shr1 hlen]), N6, e6⟩
  ·exact retI X6 hx hret (hb hby d2_10) hr
theorem d3_0 : DK kc1 0 (.iload_n 0) 1 := by decide +kernel
theorem d3_1 : DK kc1 1 (.ifCond .lt 8) 3 := by decide +kernel
theorem d3_4 : DK kc1 4 (.iload_n 0) 1 := by decide +kernel
theorem d3_5 : DK kc1 5 (.iload_n 1) 1 := by decide +kernel
theorem d3_6 : DK kc1 6 (.if_icmp .lt 10) 3 := by decide +kernel
theorem d3_16 : DK kc1 16 (.iload_n 0) 1 := by decide +kernel
theorem d3_17 : DK kc1 17 .ireturn 1 := by decide +kernel
theorem own_pn1 : plainName "jdk/internal/util/Preconditions" = true := by first | (simp [plainName, overriddenIn]; done) | decide +kernel
theorem own_ef_rs_pci (m : MethodId) (x0 : Int32) (x1 : Int32) (x2 : Value) (hx2 : x2.isRef = true) : entryFrame m #[(.int x0), (.int x1), x2] 3 = mkF m 0 #[vi x0, vi x1, .val x2] [] := by first | (simp [entryFrame, mkF, argsToLocals, Value.category]; done) | rfl | (rcases Jvm.Free.XT.refc hx2 with rfl | ⟨r, rfl⟩ <;> rfl)
def Q_rs_pci (Z : State) (j : Int32) (z : Int32) (fo : Value) (h0 : Heap) (n0 : Nat) (v : Option Value) (h : Heap) (L : List Loc) : Prop := v = some (.int j) ∧ Fr n0 L ∧ h = h0
theorem rs_pci (l : Launch) (Z : State) (a0 : Array Value) (hw : HW a0 Z) (ws : List Jvm.Cond) (j : Int32) (z : Int32) (fo : Value) (h0 : Heap) (n0 : Nat) (Z0 : n0 ≤ h0.size) (hj0 : ¬ (j < 0)) (hj1 : j < z) (r_fo : fo.isRef = true) :
  Met l Z mN3 jdk_41_method_11_code 3 (some .int) ({ frames := 0, cells := 0, slots := 0, locals := 0 } : Room) ws #[(.int j), (.int z), fo] h0 (Q_rs_pci Z j z fo h0 n0) := by
 refine own_met (plainFor_of_name own_pn1) ?_
 intro p e s m below meth c s₁ hret hx hby hlk hml hown hnm X0 e0 hZ hh
 have N0 := Fr.nil n0
 refine Gz (castTop (own_ef_rs_pci m j z fo r_fo)) ?_
 show GG (fT s₁ m 0 #[vi j, vi z, .val fo] [])
 refine gN X0 hx hby d3_0 rfl rfl ?_
 refine gu X0 hx hby d3_1 ((if0 _ _).trans (flt hj0).1) ?_
 refine gN X0 hx hby d3_4 rfl rfl ?_
 refine gN X0 hx hby d3_5 rfl rfl ?_
 refine gY X0 hx hby d3_6 6 16 (tlt hj1).1 ?_
 refine gN X0 hx hby d3_16 rfl rfl ?_
 show GG (fT s₁ m 17 #[vi j, vi z, .val fo] [(.int j)])
 refine Goes.ret X0 (some (.int j)) (fun h => by rw [hret] at h; cases h) hlk (by decide) (by decide) ?_ (fun fs hr => ?_)
 ·exact ⟨rfl, N0, e0⟩
 ·exact retI X0 hx hret (hb hby d3_17) hr
theorem d4_0 : DK kc10 0 (.iload_n 0) 1 := by decide +kernel
theorem d4_1 : DK kc10 1 (.iload_n 1) 1 := by decide +kernel
theorem d4_2 : DK kc10 2 (.getstatic 1053) 3 := by decide +kernel
theorem d4_5 : DK kc10 5 (.invokestatic 1059) 3 := by decide +kernel
theorem own_pd1 : parseMethodDescriptor "(IILjava/util/function/BiFunction;)I" = some ⟨[.int, .int, (.object "java/util/function/BiFunction")], some .int⟩ := by decide +kernel
theorem d4_8 : DK kc10 8 .pop 1 := by decide +kernel
theorem d4_9 : DK kc10 9 .return_ 1 := by decide +kernel
theorem own_ef_rs_sci (m : MethodId) (x0 : Int32) (x1 : Int32) : entryFrame m #[(.int x0), (.int x1)] 2 = mkF m 0 #[vi x0, vi x1] [] := by first | (simp [entryFrame, mkF, argsToLocals, Value.category]; done) | rfl
def Q_rs_sci (Z : State) (j : Int32) (z : Int32) (fo : Value) (h0 : Heap) (n0 : Nat) (v : Option Value) (h : Heap) (L : List Loc) : Prop := v = none ∧ Fr n0 L ∧ h = h0
theorem rs_sci (l : Launch) (Z : State) (a0 : Array Value) (hw : HW a0 Z) (ws : List Jvm.Cond) (j : Int32) (z : Int32) (fo : Value) (h0 : Heap) (n0 : Nat) (Z0 : n0 ≤ h0.size) (hj0 : ¬ (j < 0)) (hj1 : j < z) (sgF : Sta Z h0 "jdk/internal/util/Preconditions" "SIOOBE_FORMATTER" "Ljava/util/function/BiFunction;" fo) (r_fo : fo.isRef = true) :
  Met l Z mN4 jdk_42_method_155_code 2 none ({ frames := 1, cells := 0, slots := 0, locals := 14 } : Room) ws #[(.int j), (.int z)] h0 (Q_rs_sci Z j z fo h0 n0) := by
 refine own_met (plainFor_of_name own_pn0) ?_
 intro p e s m below meth c s₁ hret hx hby hlk hml hown hnm X0 e0 hZ hh
 have N0 := Fr.nil n0
 refine Gz (castTop (own_ef_rs_sci m j z)) ?_
 show GG (fT s₁ m 0 #[vi j, vi z] [])
 refine gN X0 hx hby d4_0 rfl rfl ?_
 refine gN X0 hx hby d4_1 rfl rfl ?_
 obtain ⟨T1, X1, e1, st1⟩ := getS2 X0 hx hZ hown (host := "") (Or.inl (gw hw 155 rfl)) Via.refl e0 sgF (g := (mkF m 2 #[vi j, vi z] [(.int z), (.int j)])) rfl (hb hby d4_2)
 refine Gs st1 ?_
 show GG (fT T1 m 5 #[vi j, vi z] [fo, (.int z), (.int j)])
 refine cS X1 hx hZ hw hown hby hml e1 mN3 157 158 159 156 0 (rs_pci l Z a0 hw [] j z fo h0 n0 Z0 hj0 hj1 r_fo) d4_5 (lenOf own_pd1 rfl) N0 (fun T2 L2 X2 e2 N2 => ?_)
 show GG (fT T2 m 8 #[vi j, vi z] [(.int j)])
 refine Gz (XS.pop X2.here hx rfl (hb hby d4_8) rfl rfl) ?_
 refine Goes.ret X2 none (fun _ => rfl) hlk (by decide) (by decide) ?_ (fun fs hr => ?_)
 ·exact ⟨rfl, N2, e2⟩
 ·exact X2.returnOut hx hret (hb hby d4_9) hr
theorem d5_0 : DK kc16 0 (.iload_n 1) 1 := by decide +kernel
theorem d5_1 : DK kc16 1 (.aload_n 0) 1 := by decide +kernel
theorem d5_2 : DK kc16 2 .arraylength 1 := by decide +kernel
theorem d5_3 : DK kc16 3 (.invokestatic 9) 3 := by decide +kernel
theorem own_pd2 : parseMethodDescriptor "(II)V" = some ⟨[.int, .int], none⟩ := by decide +kernel
theorem d5_6 : DK kc16 6 (.aload_n 0) 1 := by decide +kernel
theorem d5_7 : DK kc16 7 (.iload_n 1) 1 := by decide +kernel
theorem d5_8 : DK kc16 8 .baload 1 := by decide +kernel
theorem d5_9 : DK kc16 9 (.sipush 255) 3 := by decide +kernel
theorem d5_12 : DK kc16 12 .iand 1 := by decide +kernel
theorem d5_13 : DK kc16 13 .i2c 1 := by decide +kernel
theorem d5_14 : DK kc16 14 .ireturn 1 := by decide +kernel
theorem own_pn2 : plainName "java/lang/StringLatin1" = true := by first | (simp [plainName, overriddenIn]; done) | decide +kernel
theorem own_ef_rs_l1c (m : MethodId) (x0 : Addr) (x1 : Int32) : entryFrame m #[(.ref x0), (.int x1)] 2 = mkF m 0 #[vr x0, vi x1] [] := by first | (simp [entryFrame, mkF, argsToLocals, Value.category]; done) | rfl
def Q_rs_l1c (Z : State) (b : Addr) (kb : ClassId) (xs : List Int32) (j : Int32) (r : Int32) (fo : Value) (h0 : Heap) (n0 : Nat) (v : Option Value) (h : Heap) (L : List Loc) : Prop := v = some (.int r) ∧ Fr n0 L ∧ h = h0
theorem rs_l1c (l : Launch) (Z : State) (a0 : Array Value) (hw : HW a0 Z) (ws : List Jvm.Cond) (b : Addr) (kb : ClassId) (xs : List Int32) (j : Int32) (r : Int32) (fo : Value) (h0 : Heap) (n0 : Nat) (Z0 : n0 ≤ h0.size) (V_b : Arv Z h0 b kb .byte (Int32.ofNat xs.length) (latV xs) (.int 0)) (hj0 : ¬ (j < 0)) (hj1 : j < Int32.ofNat xs.length) (hr : xs.getD j.toNatClampNeg 0 = r) (hlen : xs.length ≤ 1000) (hLr : Lat r) (sgF : Sta Z h0 "jdk/internal/util/Preconditions" "SIOOBE_FORMATTER" "Ljava/util/function/BiFunction;" fo) (r_fo : fo.isRef = true) :
  Met l Z mN5 jdk_43_method_2_code 2 (some .char) ({ frames := 2, cells := 0, slots := 0, locals := 27 } : Room) ws #[(.ref b), (.int j)] h0 (Q_rs_l1c Z b kb xs j r fo h0 n0) := by
 refine own_met (plainFor_of_name own_pn2) ?_
 intro p e s m below meth c s₁ hret hx hby hlk hml hown hnm X0 e0 hZ hh
 have N0 := Fr.nil n0
 refine Gz (castTop (own_ef_rs_l1c m b j)) ?_
 show GG (fT s₁ m 0 #[vr b, vi j] [])
 refine gN X0 hx hby d5_0 rfl rfl ?_
 refine gA X0 hx hby d5_1 rfl rfl rfl ?_
 obtain ⟨cl1, Ar1, -, S1, N1z, -, -⟩ := id V_b
 refine Gs (fun _ tk => X0.arraylength hx (by rw [e0]; exact Ar1.1) (State.isArrayOf_alike hZ.alike Ar1.2.1) (g := (mkF m 2 #[vr b, vi j] [(.ref b), (.int j)])) rfl rfl (hb hby d5_2) _ tk) ?_
 rw [len_of S1 N1z]
 show GG (fT s₁ m 3 #[vr b, vi j] [(.int (Int32.ofNat xs.length)), (.int j)])
 refine cS X0 hx hZ hw hown hby hml e0 mN4 152 153 154 9 0 (rs_sci l Z a0 hw [] j (Int32.ofNat xs.length) fo h0 n0 Z0 hj0 (by first | assumption | decide) sgF r_fo) d5_3 (lenOf own_pd2 rfl) N0 (fun T2 L2 X2 e2 N2 => ?_)
 show GG (fT T2 m 6 #[vr b, vi j] [])
 refine gA X2 hx hby d5_6 rfl rfl rfl ?_
 refine gN X2 hx hby d5_7 rfl rfl ?_
 obtain ⟨cl3, Ar3, -, S3, N3z, H3, -⟩ := id V_b
 have hin3 : ¬ (j < 0 ∨ cl3.slots.size ≤ (j).toNatClampNeg) := inb_of S3 ⟨hj0, hj1⟩
 have hat3 : cl3.slots[(j).toNatClampNeg]? = some (.int (lo8 r)) := Has.at H3 hin3 (own_latGet hj0 hj1 hlen hr)
 refine Gs (fun _ tk => X2.baloadBytes hx (j := j) (v := (.int (lo8 r))) (by rw [e2]; exact Ar3.1) (State.isArrayOf_alike hZ.alike Ar3.2.1) Ar3.2.2 hin3 hat3 (g := (mkF m 8 #[vr b, vi j] [(.int j), (.ref b)])) rfl rfl (hb hby d5_8) _ tk) ?_
 show GG (fT T2 m 9 #[vr b, vi j] [(.int (lo8 r))])
 refine Gz (XS.sipush X2.here hx rfl (hb hby d5_9)) ?_
 show GG (fT T2 m 12 #[vr b, vi j] [(.int 255), (.int (lo8 r))])
 refine Gz (XS.iand X2.here hx rfl (hb hby d5_12) rfl) ?_
 show GG (fT T2 m 13 #[vr b, vi j] [(.int ((lo8 r) &&& 255))])
 rw [own_backL hLr]
 show GG (fT T2 m 13 #[vr b, vi j] [(.int r)])
 refine Gz (XS.i2c X2.here hx rfl (hb hby d5_13) rfl) ?_
 show GG (fT T2 m 14 #[vr b, vi j] [(.int (r.toUInt32.toUInt16.toUInt32.toInt32))])
 rw [own_i2c hLr.chr]
 show GG (fT T2 m 14 #[vr b, vi j] [(.int r)])
 refine Goes.ret X2 (some (.int r)) (fun h => by rw [hret] at h; cases h) hlk (by decide) (by decide) ?_ (fun fs hr => ?_)
 ·exact ⟨rfl, N2, e2⟩
 ·exact own_retN X2 hx (t := .char) hret (by simp) (own_nc hLr.chr) (hb hby d5_14) hr
theorem d6_0 : DK kc29 0 (.aload_n 0) 1 := by decide +kernel
theorem d6_1 : DK kc29 1 .arraylength 1 := by decide +kernel
theorem d6_2 : DK kc29 2 (.iconst 1) 1 := by decide +kernel
theorem d6_3 : DK kc29 3 .ishr 1 := by decide +kernel
theorem d6_4 : DK kc29 4 .ireturn 1 := by decide +kernel
theorem own_pn3 : plainName "java/lang/StringUTF16" = true := by first | (simp [plainName, overriddenIn]; done) | decide +kernel
theorem own_ef_rs_ulen (m : MethodId) (x0 : Addr) : entryFrame m #[(.ref x0)] 1 = mkF m 0 #[vr x0] [] := by first | (simp [entryFrame, mkF, argsToLocals, Value.category]; done) | rfl
def Q_rs_ulen (Z : State) (b : Addr) (kb : ClassId) (xs : List Int32) (h0 : Heap) (n0 : Nat) (v : Option Value) (h : Heap) (L : List Loc) : Prop := v = some (.int (Int32.ofNat xs.length)) ∧ Fr n0 L ∧ h = h0
theorem rs_ulen (l : Launch) (Z : State) (a0 : Array Value) (hw : HW a0 Z) (ws : List Jvm.Cond) (b : Addr) (kb : ClassId) (xs : List Int32) (h0 : Heap) (n0 : Nat) (Z0 : n0 ≤ h0.size) (V_b : Arv Z h0 b kb .byte (Int32.ofNat (2 * xs.length)) (utfV xs) (.int 0)) (hlen : xs.length ≤ 1000) :
  Met l Z mN6 jdk_52_method_6_code 1 (some .int) ({ frames := 0, cells := 0, slots := 0, locals := 0 } : Room) ws #[(.ref b)] h0 (Q_rs_ulen Z b kb xs h0 n0) := by
 refine own_met (plainFor_of_name own_pn3) ?_
 intro p e s m below meth c s₁ hret hx hby hlk hml hown hnm X0 e0 hZ hh
 have N0 := Fr.nil n0
 refine Gz (castTop (own_ef_rs_ulen m b)) ?_
 show GG (fT s₁ m 0 #[vr b] [])
 refine gA X0 hx hby d6_0 rfl rfl rfl ?_
 obtain ⟨cl1, Ar1, -, S1, N1z, -, -⟩ := id V_b
 refine Gs (fun _ tk => X0.arraylength hx (by rw [e0]; exact Ar1.1) (State.isArrayOf_alike hZ.alike Ar1.2.1) (g := (mkF m 1 #[vr b] [(.ref b)])) rfl rfl (hb hby d6_1) _ tk) ?_
 rw [len_of S1 N1z]
 show GG (fT s₁ m 2 #[vr b] [(.int (Int32.ofNat (2 * xs.length)))])
 refine gC X0 hx hby d6_2 ?_
 show GG (fT s₁ m 3 #[vr b] [(.int 1), (.int (Int32.ofNat (2 * xs.length)))])
 refine Gz (XS.ishr X0.here hx rfl (hb hby d6_3) rfl) ?_
 show GG (fT s₁ m 4 #[vr b] [(.int ((Int32.ofNat (2 * xs.length)) >>> ((1 : Int32) &&& 31)))])
 refine Goes.ret X0 (some (.int ((Int32.ofNat (2 * xs.length)) >>> ((1 : Int32) &&& 31)))) (fun h => by rw [hret] at h; cases h) hlk (by decide) (by decide) ?_ (fun fs hr => ?_)
 ·exact ⟨(by rw [own_shr1 hlen]), N0, e0⟩
 ·exact retI X0 hx hret (hb hby d6_4) hr
theorem d7_0 : DK kc33 0 (.iload_n 0) 1 := by decide +kernel
theorem d7_1 : DK kc33 1 (.aload_n 1) 1 := by decide +kernel
theorem d7_2 : DK kc33 2 (.invokestatic 48) 3 := by decide +kernel
theorem own_pd3 : parseMethodDescriptor "([B)I" = some ⟨[(.array .byte)], some .int⟩ := by decide +kernel
theorem d7_5 : DK kc33 5 (.invokestatic 414) 3 := by decide +kernel
theorem d7_8 : DK kc33 8 .return_ 1 := by decide +kernel
theorem own_ef_rs_uci (m : MethodId) (x0 : Int32) (x1 : Addr) : entryFrame m #[(.int x0), (.ref x1)] 2 = mkF m 0 #[vi x0, vr x1] [] := by first | (simp [entryFrame, mkF, argsToLocals, Value.category]; done) | rfl
def Q_rs_uci (Z : State) (j : Int32) (b : Addr) (kb : ClassId) (xs : List Int32) (fo : Value) (h0 : Heap) (n0 : Nat) (v : Option Value) (h : Heap) (L : List Loc) : Prop := v = none ∧ Fr n0 L ∧ h = h0
theorem rs_uci (l : Launch) (Z : State) (a0 : Array Value) (hw : HW a0 Z) (ws : List Jvm.Cond) (j : Int32) (b : Addr) (kb : ClassId) (xs : List Int32) (fo : Value) (h0 : Heap) (n0 : Nat) (Z0 : n0 ≤ h0.size) (V_b : Arv Z h0 b kb .byte (Int32.ofNat (2 * xs.length)) (utfV xs) (.int 0)) (hlen : xs.length ≤ 1000) (hj0 : ¬ (j < 0)) (hj1 : j < Int32.ofNat xs.length) (sgF : Sta Z h0 "jdk/internal/util/Preconditions" "SIOOBE_FORMATTER" "Ljava/util/function/BiFunction;" fo) (r_fo : fo.isRef = true) :
  Met l Z mN7 jdk_52_method_91_code 2 none ({ frames := 2, cells := 0, slots := 0, locals := 27 } : Room) ws #[(.int j), (.ref b)] h0 (Q_rs_uci Z j b kb xs fo h0 n0) := by
 refine own_met (plainFor_of_name own_pn3) ?_
 intro p e s m below meth c s₁ hret hx hby hlk hml hown hnm X0 e0 hZ hh
 have N0 := Fr.nil n0
 refine Gz (castTop (own_ef_rs_uci m j b)) ?_
 show GG (fT s₁ m 0 #[vi j, vr b] [])
 refine gN X0 hx hby d7_0 rfl rfl ?_
 refine gA X0 hx hby d7_1 rfl rfl rfl ?_
 refine cS X0 hx hZ hw hown hby hml e0 mN6 235 236 237 169 1 (rs_ulen l Z a0 hw [] b kb xs h0 n0 Z0 V_b hlen) d7_2 (lenOf own_pd3 rfl) N0 (fun T1 L1 X1 e1 N1 => ?_)
 show GG (fT T1 m 5 #[vi j, vr b] [(.int (Int32.ofNat xs.length)), (.int j)])
 refine cS X1 hx hZ hw hown hby hml e1 mN4 238 153 154 9 0 (rs_sci l Z a0 hw [] j (Int32.ofNat xs.length) fo h0 n0 Z0 hj0 (by first | assumption | decide) sgF r_fo) d7_5 (lenOf own_pd2 rfl) N1 (fun T2 L2 X2 e2 N2 => ?_)
 show GG (fT T2 m 8 #[vi j, vr b] [])
 refine Goes.ret X2 none (fun _ => rfl) hlk (by decide) (by decide) ?_ (fun fs hr => ?_)
 ·exact ⟨rfl, N2, e2⟩
 ·exact X2.returnOut hx hret (hb hby d7_8) hr
theorem d8_0 : DK kc28 0 (.getstatic 44) 3 := by decide +kernel
theorem d8_3 : DK kc28 3 (.ifCond .ne 25) 3 := by decide +kernel
theorem d8_28 : DK kc28 28 (.iload_n 1) 1 := by decide +kernel
theorem d8_29 : DK kc28 29 (.iconst 1) 1 := by decide +kernel
theorem d8_30 : DK kc28 30 .ishl 1 := by decide +kernel
theorem d8_31 : DK kc28 31 (.istore_n 1) 1 := by decide +kernel
theorem d8_32 : DK kc28 32 (.aload_n 0) 1 := by decide +kernel
theorem d8_33 : DK kc28 33 (.iload_n 1) 1 := by decide +kernel
theorem d8_34 : DK kc28 34 (.iinc 1 1) 3 := by decide +kernel
theorem d8_37 : DK kc28 37 .baload 1 := by decide +kernel
theorem d8_38 : DK kc28 38 (.sipush 255) 3 := by decide +kernel
theorem d8_41 : DK kc28 41 .iand 1 := by decide +kernel
theorem d8_42 : DK kc28 42 (.getstatic 59) 3 := by decide +kernel
theorem d8_45 : DK kc28 45 .ishl 1 := by decide +kernel
theorem d8_46 : DK kc28 46 (.aload_n 0) 1 := by decide +kernel
theorem d8_47 : DK kc28 47 (.iload_n 1) 1 := by decide +kernel
theorem d8_48 : DK kc28 48 .baload 1 := by decide +kernel
theorem d8_49 : DK kc28 49 (.sipush 255) 3 := by decide +kernel
theorem d8_52 : DK kc28 52 .iand 1 := by decide +kernel
theorem d8_53 : DK kc28 53 (.getstatic 63) 3 := by decide +kernel
theorem d8_56 : DK kc28 56 .ishl 1 := by decide +kernel
theorem d8_57 : DK kc28 57 .ior 1 := by decide +kernel
theorem d8_58 : DK kc28 58 .i2c 1 := by decide +kernel
theorem d8_59 : DK kc28 59 .ireturn 1 := by decide +kernel
theorem own_ef_rs_gch (m : MethodId) (x0 : Addr) (x1 : Int32) : entryFrame m #[(.ref x0), (.int x1)] 2 = mkF m 0 #[vr x0, vi x1] [] := by first | (simp [entryFrame, mkF, argsToLocals, Value.category]; done) | rfl
def Q_rs_gch (Z : State) (b : Addr) (kb : ClassId) (xs : List Int32) (j : Int32) (r : Int32) (h0 : Heap) (n0 : Nat) (v : Option Value) (h : Heap) (L : List Loc) : Prop := v = some (.int r) ∧ Fr n0 L ∧ h = h0
theorem rs_gch (l : Launch) (Z : State) (a0 : Array Value) (hw : HW a0 Z) (ws : List Jvm.Cond) (b : Addr) (kb : ClassId) (xs : List Int32) (j : Int32) (r : Int32) (h0 : Heap) (n0 : Nat) (Z0 : n0 ≤ h0.size) (V_b : Arv Z h0 b kb .byte (Int32.ofNat (2 * xs.length)) (utfV xs) (.int 0)) (hj0 : ¬ (j < 0)) (hj1 : j < Int32.ofNat xs.length) (hr : xs.getD j.toNatClampNeg 0 = r) (hlen : xs.length ≤ 1000) (hCr : Chr r) (sgA : Sta Z h0 "java/lang/StringUTF16" "$assertionsDisabled" "Z" (.int 1)) (sgH : Sta Z h0 "java/lang/StringUTF16" "HI_BYTE_SHIFT" "I" (.int 0)) (sgL : Sta Z h0 "java/lang/StringUTF16" "LO_BYTE_SHIFT" "I" (.int 8)) :
  Met l Z mN8 jdk_52_method_5_code 2 (some .char) ({ frames := 0, cells := 0, slots := 0, locals := 0 } : Room) ws #[(.ref b), (.int j)] h0 (Q_rs_gch Z b kb xs j r h0 n0) := by
 refine own_met (plainFor_of_name own_pn3) ?_
 intro p e s m below meth c s₁ hret hx hby hlk hml hown hnm X0 e0 hZ hh
 have N0 := Fr.nil n0
 refine Gz (castTop (own_ef_rs_gch m b j)) ?_
 show GG (fT s₁ m 0 #[vr b, vi j] [])
 obtain ⟨T1, X1, e1, st1⟩ := getS2 X0 hx hZ hown (host := "") (Or.inl (gw hw 226 rfl)) Via.refl e0 sgA (g := (mkF m 0 #[vr b, vi j] [])) rfl (hb hby d8_0)
 refine Gs st1 ?_
 show GG (fT T1 m 3 #[vr b, vi j] [(.int 1)])
 refine gy X1 hx hby d8_3 3 28 ((if0 _ _).trans (feq (by decide : ¬ ((1 : Int32) = (0 : Int32)))).2) ?_
 refine gN X1 hx hby d8_28 rfl rfl ?_
 refine gC X1 hx hby d8_29 ?_
 show GG (fT T1 m 30 #[vr b, vi j] [(.int 1), (.int j)])
 refine Gz (XS.ishl X1.here hx rfl (hb hby d8_30) rfl) ?_
 show GG (fT T1 m 31 #[vr b, vi j] [(.int (j <<< ((1 : Int32) &&& 31)))])
 refine gs X1 hx hby d8_31 #[vr b, vi (j <<< ((1 : Int32) &&& 31))] ?_
 refine gA X1 hx hby d8_32 rfl rfl rfl ?_
 refine gN X1 hx hby d8_33 rfl rfl ?_
 show GG (fT T1 m 34 #[vr b, vi (j <<< ((1 : Int32) &&& 31))] [(.int (j <<< ((1 : Int32) &&& 31))), (.ref b)])
 refine Gz (XS.iinc X1.here hx rfl (hb hby d8_34) rfl (l' := #[vr b, vi ((j <<< ((1 : Int32) &&& 31)) + 1)]) rfl) ?_
 show GG (fT T1 m 37 #[vr b, vi ((j <<< ((1 : Int32) &&& 31)) + 1)] [(.int (j <<< ((1 : Int32) &&& 31))), (.ref b)])
 obtain ⟨cl2, Ar2, -, S2, N2z, H2, -⟩ := id V_b
 have hin2 : ¬ ((j <<< ((1 : Int32) &&& 31)) < 0 ∨ cl2.slots.size ≤ ((j <<< ((1 : Int32) &&& 31))).toNatClampNeg) := inb_of S2 (own_ub0 hj0 hj1 hlen)
 have hat2 : cl2.slots[((j <<< ((1 : Int32) &&& 31))).toNatClampNeg]? = some (.int (lo8 r)) := Has.at H2 hin2 (own_ug0 hj0 hj1 hlen hr)
 refine Gs (fun _ tk => X1.baloadBytes hx (j := (j <<< ((1 : Int32) &&& 31))) (v := (.int (lo8 r))) (by rw [e1]; exact Ar2.1) (State.isArrayOf_alike hZ.alike Ar2.2.1) Ar2.2.2 hin2 hat2 (g := (mkF m 37 #[vr b, vi ((j <<< ((1 : Int32) &&& 31)) + 1)] [(.int (j <<< ((1 : Int32) &&& 31))), (.ref b)])) rfl rfl (hb hby d8_37) _ tk) ?_
 show GG (fT T1 m 38 #[vr b, vi ((j <<< ((1 : Int32) &&& 31)) + 1)] [(.int (lo8 r))])
 refine Gz (XS.sipush X1.here hx rfl (hb hby d8_38)) ?_
 show GG (fT T1 m 41 #[vr b, vi ((j <<< ((1 : Int32) &&& 31)) + 1)] [(.int 255), (.int (lo8 r))])
 refine Gz (XS.iand X1.here hx rfl (hb hby d8_41) rfl) ?_
 show GG (fT T1 m 42 #[vr b, vi ((j <<< ((1 : Int32) &&& 31)) + 1)] [(.int ((lo8 r) &&& 255))])
 obtain ⟨T3, X3, e3, st3⟩ := getS2 X1 hx hZ hown (host := "") (Or.inl (gw hw 227 rfl)) Via.refl e1 sgH (g := (mkF m 42 #[vr b, vi ((j <<< ((1 : Int32) &&& 31)) + 1)] [(.int ((lo8 r) &&& 255))])) rfl (hb hby d8_42)
 refine Gs st3 ?_
 show GG (fT T3 m 45 #[vr b, vi ((j <<< ((1 : Int32) &&& 31)) + 1)] [(.int 0), (.int ((lo8 r) &&& 255))])
 refine Gz (XS.ishl X3.here hx rfl (hb hby d8_45) rfl) ?_
 show GG (fT T3 m 46 #[vr b, vi ((j <<< ((1 : Int32) &&& 31)) + 1)] [(.int (((lo8 r) &&& 255) <<< ((0 : Int32) &&& 31)))])
 refine gA X3 hx hby d8_46 rfl rfl rfl ?_
 refine gN X3 hx hby d8_47 rfl rfl ?_
 obtain ⟨cl4, Ar4, -, S4, N4z, H4, -⟩ := id V_b
 have hin4 : ¬ (((j <<< ((1 : Int32) &&& 31)) + 1) < 0 ∨ cl4.slots.size ≤ (((j <<< ((1 : Int32) &&& 31)) + 1)).toNatClampNeg) := inb_of S4 (own_ub1 hj0 hj1 hlen)
 have hat4 : cl4.slots[(((j <<< ((1 : Int32) &&& 31)) + 1)).toNatClampNeg]? = some (.int (hi8 r)) := Has.at H4 hin4 (own_ug1 hj0 hj1 hlen hr)
 refine Gs (fun _ tk => X3.baloadBytes hx (j := ((j <<< ((1 : Int32) &&& 31)) + 1)) (v := (.int (hi8 r))) (by rw [e3]; exact Ar4.1) (State.isArrayOf_alike hZ.alike Ar4.2.1) Ar4.2.2 hin4 hat4 (g := (mkF m 48 #[vr b, vi ((j <<< ((1 : Int32) &&& 31)) + 1)] [(.int ((j <<< ((1 : Int32) &&& 31)) + 1)), (.ref b), (.int (((lo8 r) &&& 255) <<< ((0 : Int32) &&& 31)))])) rfl rfl (hb hby d8_48) _ tk) ?_
 show GG (fT T3 m 49 #[vr b, vi ((j <<< ((1 : Int32) &&& 31)) + 1)] [(.int (hi8 r)), (.int (((lo8 r) &&& 255) <<< ((0 : Int32) &&& 31)))])
 refine Gz (XS.sipush X3.here hx rfl (hb hby d8_49)) ?_
 show GG (fT T3 m 52 #[vr b, vi ((j <<< ((1 : Int32) &&& 31)) + 1)] [(.int 255), (.int (hi8 r)), (.int (((lo8 r) &&& 255) <<< ((0 : Int32) &&& 31)))])
 refine Gz (XS.iand X3.here hx rfl (hb hby d8_52) rfl) ?_
 show GG (fT T3 m 53 #[vr b, vi ((j <<< ((1 : Int32) &&& 31)) + 1)] [(.int ((hi8 r) &&& 255)), (.int (((lo8 r) &&& 255) <<< ((0 : Int32) &&& 31)))])
 obtain ⟨T5, X5, e5, st5⟩ := getS2 X3 hx hZ hown (host := "") (Or.inl (gw hw 228 rfl)) Via.refl e3 sgL (g := (mkF m 53 #[vr b, vi ((j <<< ((1 : Int32) &&& 31)) + 1)] [(.int ((hi8 r) &&& 255)), (.int (((lo8 r) &&& 255) <<< ((0 : Int32) &&& 31)))])) rfl (hb hby d8_53)
 refine Gs st5 ?_
 show GG (fT T5 m 56 #[vr b, vi ((j <<< ((1 : Int32) &&& 31)) + 1)] [(.int 8), (.int ((hi8 r) &&& 255)), (.int (((lo8 r) &&& 255) <<< ((0 : Int32) &&& 31)))])
 refine Gz (XS.ishl X5.here hx rfl (hb hby d8_56) rfl) ?_
 show GG (fT T5 m 57 #[vr b, vi ((j <<< ((1 : Int32) &&& 31)) + 1)] [(.int (((hi8 r) &&& 255) <<< ((8 : Int32) &&& 31))), (.int (((lo8 r) &&& 255) <<< ((0 : Int32) &&& 31)))])
 refine Gz (XS.ior X5.here hx rfl (hb hby d8_57) rfl) ?_
 show GG (fT T5 m 58 #[vr b, vi ((j <<< ((1 : Int32) &&& 31)) + 1)] [(.int ((((lo8 r) &&& 255) <<< ((0 : Int32) &&& 31)) ||| (((hi8 r) &&& 255) <<< ((8 : Int32) &&& 31))))])
 refine Gz (XS.i2c X5.here hx rfl (hb hby d8_58) rfl) ?_
 show GG (fT T5 m 59 #[vr b, vi ((j <<< ((1 : Int32) &&& 31)) + 1)] [(.int (((((lo8 r) &&& 255) <<< ((0 : Int32) &&& 31)) ||| (((hi8 r) &&& 255) <<< ((8 : Int32) &&& 31))).toUInt32.toUInt16.toUInt32.toInt32))])
 rw [own_backU hCr]
 show GG (fT T5 m 59 #[vr b, vi ((j <<< ((1 : Int32) &&& 31)) + 1)] [(.int r)])
 refine Goes.ret X5 (some (.int r)) (fun h => by rw [hret] at h; cases h) hlk (by decide) (by decide) ?_ (fun fs hr => ?_)
 ·exact ⟨rfl, N0, e5⟩
 ·exact own_retN X5 hx (t := .char) hret (by simp) (own_nc hCr) (hb hby d8_59) hr
theorem d9_0 : DK kc31 0 (.iload_n 1) 1 := by decide +kernel
theorem d9_1 : DK kc31 1 (.aload_n 0) 1 := by decide +kernel
theorem d9_2 : DK kc31 2 (.invokestatic 67) 3 := by decide +kernel
theorem own_pd4 : parseMethodDescriptor "(I[B)V" = some ⟨[.int, (.array .byte)], none⟩ := by decide +kernel
theorem d9_5 : DK kc31 5 (.aload_n 0) 1 := by decide +kernel
theorem d9_6 : DK kc31 6 (.iload_n 1) 1 := by decide +kernel
theorem d9_7 : DK kc31 7 (.invokestatic 71) 3 := by decide +kernel
theorem own_pd5 : parseMethodDescriptor "([BI)C" = some ⟨[(.array .byte), .int], some .char⟩ := by decide +kernel
theorem d9_10 : DK kc31 10 .ireturn 1 := by decide +kernel
theorem own_ef_rs_u16c (m : MethodId) (x0 : Addr) (x1 : Int32) : entryFrame m #[(.ref x0), (.int x1)] 2 = mkF m 0 #[vr x0, vi x1] [] := by first | (simp [entryFrame, mkF, argsToLocals, Value.category]; done) | rfl
def Q_rs_u16c (Z : State) (b : Addr) (kb : ClassId) (xs : List Int32) (j : Int32) (r : Int32) (fo : Value) (h0 : Heap) (n0 : Nat) (v : Option Value) (h : Heap) (L : List Loc) : Prop := v = some (.int r) ∧ Fr n0 L ∧ h = h0
theorem rs_u16c (l : Launch) (Z : State) (a0 : Array Value) (hw : HW a0 Z) (ws : List Jvm.Cond) (b : Addr) (kb : ClassId) (xs : List Int32) (j : Int32) (r : Int32) (fo : Value) (h0 : Heap) (n0 : Nat) (Z0 : n0 ≤ h0.size) (V_b : Arv Z h0 b kb .byte (Int32.ofNat (2 * xs.length)) (utfV xs) (.int 0)) (hj0 : ¬ (j < 0)) (hj1 : j < Int32.ofNat xs.length) (hr : xs.getD j.toNatClampNeg 0 = r) (hlen : xs.length ≤ 1000) (hCr : Chr r) (sgF : Sta Z h0 "jdk/internal/util/Preconditions" "SIOOBE_FORMATTER" "Ljava/util/function/BiFunction;" fo) (r_fo : fo.isRef = true) (sgA : Sta Z h0 "java/lang/StringUTF16" "$assertionsDisabled" "Z" (.int 1)) (sgH : Sta Z h0 "java/lang/StringUTF16" "HI_BYTE_SHIFT" "I" (.int 0)) (sgL : Sta Z h0 "java/lang/StringUTF16" "LO_BYTE_SHIFT" "I" (.int 8)) :
  Met l Z mN9 jdk_52_method_83_code 2 (some .char) ({ frames := 3, cells := 0, slots := 0, locals := 40 } : Room) ws #[(.ref b), (.int j)] h0 (Q_rs_u16c Z b kb xs j r fo h0 n0) := by
 refine own_met (plainFor_of_name own_pn3) ?_
 intro p e s m below meth c s₁ hret hx hby hlk hml hown hnm X0 e0 hZ hh
 have N0 := Fr.nil n0
 refine Gz (castTop (own_ef_rs_u16c m b j)) ?_
 show GG (fT s₁ m 0 #[vr b, vi j] [])
 refine gN X0 hx hby d9_0 rfl rfl ?_
 refine gA X0 hx hby d9_1 rfl rfl rfl ?_
 refine cS X0 hx hZ hw hown hby hml e0 mN7 232 233 234 169 0 (rs_uci l Z a0 hw [] j b kb xs fo h0 n0 Z0 V_b hlen hj0 hj1 sgF r_fo) d9_2 (lenOf own_pd4 rfl) N0 (fun T1 L1 X1 e1 N1 => ?_)
 show GG (fT T1 m 5 #[vr b, vi j] [])
 refine gA X1 hx hby d9_5 rfl rfl rfl ?_
 refine gN X1 hx hby d9_6 rfl rfl ?_
 refine cS X1 hx hZ hw hown hby hml e1 mN8 239 240 241 169 0 (rs_gch l Z a0 hw [] b kb xs j r h0 n0 Z0 V_b hj0 hj1 hr hlen hCr sgA sgH sgL) d9_7 (lenOf own_pd5 rfl) N1 (fun T2 L2 X2 e2 N2 => ?_)
 show GG (fT T2 m 10 #[vr b, vi j] [(.int r)])
 refine Goes.ret X2 (some (.int r)) (fun h => by rw [hret] at h; cases h) hlk (by decide) (by decide) ?_ (fun fs hr => ?_)
 ·exact ⟨rfl, N2, e2⟩
 ·exact own_retN X2 hx (t := .char) hret (by simp) (own_nc hCr) (hb hby d9_10) hr
theorem d10_0 : DK kc15 0 (.aload_n 0) 1 := by decide +kernel
theorem d10_1 : DK kc15 1 (.invokevirtual 492) 3 := by decide +kernel
theorem own_pd6 : parseMethodDescriptor "()Z" = some ⟨[], some .boolean⟩ := by decide +kernel
theorem d10_4 : DK kc15 4 (.ifCond .eq 12) 3 := by decide +kernel
theorem d10_7 : DK kc15 7 (.aload_n 0) 1 := by decide +kernel
theorem d10_8 : DK kc15 8 (.getfield 9) 3 := by decide +kernel
theorem d10_11 : DK kc15 11 (.iload_n 1) 1 := by decide +kernel
theorem d10_12 : DK kc15 12 (.invokestatic 495) 3 := by decide +kernel
theorem d10_15 : DK kc15 15 .ireturn 1 := by decide +kernel
theorem d10_16 : DK kc15 16 (.aload_n 0) 1 := by decide +kernel
theorem d10_17 : DK kc15 17 (.getfield 9) 3 := by decide +kernel
theorem d10_20 : DK kc15 20 (.iload_n 1) 1 := by decide +kernel
theorem d10_21 : DK kc15 21 (.invokestatic 498) 3 := by decide +kernel
theorem d10_24 : DK kc15 24 .ireturn 1 := by decide +kernel
theorem own_ef_rs_chr (m : MethodId) (x0 : Addr) (x1 : Int32) : entryFrame m #[(.ref x0), (.int x1)] 2 = mkF m 0 #[vr x0, vi x1] [] := by first | (simp [entryFrame, mkF, argsToLocals, Value.category]; done) | rfl
def Q_rs_chr (Z : State) (a : Addr) (xs : List Int32) (j : Int32) (r : Int32) (cz : Int32) (fo : Value) (h0 : Heap) (n0 : Nat) (v : Option Value) (h : Heap) (L : List Loc) : Prop := v = some (.int r) ∧ Fr n0 L ∧ h = h0
theorem rs_chr (l : Launch) (Z : State) (a0 : Array Value) (hw : HW a0 Z) (ws : List Jvm.Cond) (a : Addr) (xs : List Int32) (j : Int32) (r : Int32) (cz : Int32) (fo : Value) (h0 : Heap) (n0 : Nat) (Z0 : n0 ≤ h0.size) (T_a : StrOf Z h0 a xs) (sgC : Sta Z h0 "java/lang/String" "COMPACT_STRINGS" "Z" (.int cz)) (hcz : ¬ (cz = 0)) (hj0 : ¬ (j < 0)) (hj1 : j < Int32.ofNat xs.length) (hr : xs.getD j.toNatClampNeg 0 = r) (sgF : Sta Z h0 "jdk/internal/util/Preconditions" "SIOOBE_FORMATTER" "Ljava/util/function/BiFunction;" fo) (r_fo : fo.isRef = true) (sgA : Sta Z h0 "java/lang/StringUTF16" "$assertionsDisabled" "Z" (.int 1)) (sgH : Sta Z h0 "java/lang/StringUTF16" "HI_BYTE_SHIFT" "I" (.int 0)) (sgL : Sta Z h0 "java/lang/StringUTF16" "LO_BYTE_SHIFT" "I" (.int 8)) :
  Met l Z mN10 jdk_42_method_56_code 2 (some .char) ({ frames := 4, cells := 0, slots := 0, locals := 53 } : Room) ws #[(.ref a), (.int j)] h0 (Q_rs_chr Z a xs j r cz fo h0 n0) := by
 refine own_met (plainFor_of_name own_pn0) ?_
 intro p e s m below meth c s₁ hret hx hby hlk hml hown hnm X0 e0 hZ hh
 have N0 := Fr.nil n0
 refine Gz (castTop (own_ef_rs_chr m a j)) ?_
 show GG (fT s₁ m 0 #[vr a, vi j] [])
 obtain ⟨vb, kb, A_a, F_value_a, hrep, hlen⟩ := id T_a
 rcases hrep with ⟨F_coder_a, hall, V_vb⟩ | ⟨F_coder_a, hall, V_vb⟩
 ·show GG (fT s₁ m 0 #[vr a, vi j] [])
  have hmem : r ∈ xs := own_mem hj0 hj1 hlen hr
  have hLr : Lat r := hall r hmem
  have hCr : Chr r := hLr.chr
  refine gA X0 hx hby d10_0 rfl rfl rfl ?_
  refine cV X0 hx hZ hw hown hby hml e0 mN1 144 145 147 146 148 9 0 (rs_isl0 l Z a0 hw [] a cz h0 n0 Z0 F_coder_a sgC hcz) T_a.exa d10_1 (lenOf own_pd6 rfl) N0 (fun T1 L1 X1 e1 N1 => ?_)
  show GG (fT T1 m 4 #[vr a, vi j] [(.int 1)])
  refine gu X1 hx hby d10_4 ((if0 _ _).trans (feq (by decide : ¬ ((1 : Int32) = (0 : Int32)))).1) ?_
  refine gA X1 hx hby d10_7 rfl rfl rfl ?_
  obtain ⟨T2, X2, e2, st2⟩ := getF X1 hx hZ hown (host := "") (Or.inl (gw hw 27 rfl)) Via.refl e1 F_value_a (g := (mkF m 8 #[vr a, vi j] [(.ref a)])) rfl rfl (hb hby d10_8)
  refine Gs st2 ?_
  show GG (fT T2 m 11 #[vr a, vi j] [(.ref vb)])
  refine gN X2 hx hby d10_11 rfl rfl ?_
  refine cS X2 hx hZ hw hown hby hml e2 mN5 149 150 151 76 0 (rs_l1c l Z a0 hw [] vb kb xs j r fo h0 n0 Z0 V_vb hj0 hj1 hr (by first | assumption | decide) (by first | assumption | decide) sgF r_fo) d10_12 (lenOf own_pd5 rfl) N1 (fun T3 L3 X3 e3 N3 => ?_)
  show GG (fT T3 m 15 #[vr a, vi j] [(.int r)])
  refine Goes.ret X3 (some (.int r)) (fun h => by rw [hret] at h; cases h) hlk (by decide) (by decide) ?_ (fun fs hr => ?_)
  ·exact ⟨rfl, N3, e3⟩
  ·exact own_retN X3 hx (t := .char) hret (by simp) (own_nc hCr) (hb hby d10_15) hr
 ·show GG (fT s₁ m 0 #[vr a, vi j] [])
  have hmem : r ∈ xs := own_mem hj0 hj1 hlen hr
  have hCr : Chr r := hall r hmem
  refine gA X0 hx hby d10_0 rfl rfl rfl ?_
  refine cV X0 hx hZ hw hown hby hml e0 mN1 144 145 147 146 148 9 0 (rs_isl1 l Z a0 hw [] a cz h0 n0 Z0 F_coder_a sgC hcz) T_a.exa d10_1 (lenOf own_pd6 rfl) N0 (fun T4 L4 X4 e4 N4 => ?_)
  show GG (fT T4 m 4 #[vr a, vi j] [(.int 0)])
  refine gy X4 hx hby d10_4 4 16 ((if0 _ _).trans (teq (by decide : ((0 : Int32) = (0 : Int32)))).1) ?_
  refine gA X4 hx hby d10_16 rfl rfl rfl ?_
  obtain ⟨T5, X5, e5, st5⟩ := getF X4 hx hZ hown (host := "") (Or.inl (gw hw 27 rfl)) Via.refl e4 F_value_a (g := (mkF m 17 #[vr a, vi j] [(.ref a)])) rfl rfl (hb hby d10_17)
  refine Gs st5 ?_
  show GG (fT T5 m 20 #[vr a, vi j] [(.ref vb)])
  refine gN X5 hx hby d10_20 rfl rfl ?_
  refine cS X5 hx hZ hw hown hby hml e5 mN9 229 230 231 169 0 (rs_u16c l Z a0 hw [] vb kb xs j r fo h0 n0 Z0 V_vb hj0 hj1 hr (by first | assumption | decide) (by first | assumption | decide) sgF r_fo sgA sgH sgL) d10_21 (lenOf own_pd5 rfl) N4 (fun T6 L6 X6 e6 N6 => ?_)
  show GG (fT T6 m 24 #[vr a, vi j] [(.int r)])
  refine Goes.ret X6 (some (.int r)) (fun h => by rw [hret] at h; cases h) hlk (by decide) (by decide) ?_ (fun fs hr => ?_)
  ·exact ⟨rfl, N6, e6⟩
  ·exact own_retN X6 hx (t := .char) hret (by simp) (own_nc hCr) (hb hby d10_24) hr
theorem d11_0 : DK kc5 0 (.aload_n 0) 1 := by decide +kernel
theorem d11_1 : DK kc5 1 (.invokespecial 1) 3 := by decide +kernel
theorem d11_4 : DK kc5 4 (.iload_n 3) 1 := by decide +kernel
theorem d11_5 : DK kc5 5 (.ifCond .ne 22) 3 := by decide +kernel
theorem d11_8 : DK kc5 8 (.aload_n 0) 1 := by decide +kernel
theorem d11_9 : DK kc5 9 (.ldc 7) 2 := by decide +kernel
theorem own_strW {a0 : Array Value} {Z : State} (hw : HW a0 Z) : ∀ a ∈ Bundle.stringAtoms, a.before a0 Z = true := by
 intro a ha
 simp only [Bundle.stringAtoms, List.mem_cons, List.not_mem_nil, or_false] at ha
 rcases ha with rfl | rfl | rfl | rfl | rfl | rfl | rfl
 ·exact (gw hw 9 rfl)
 ·exact (gw hw 8 rfl)
 ·exact (gw hw 22 rfl)
 ·exact (gw hw 23 rfl)
 ·exact (gw hw 24 rfl)
 ·exact (gw hw 25 rfl)
 ·exact (gw hw 26 rfl)
theorem own_EW {a0 : Array Value} {Z : State} (hw : HW a0 Z) : EW Z a0 consts_1 := (EW.cons (gw hw 274 rfl) (by decide) (EW.cons (gw hw 189 rfl) (by decide) (EW.cons (gw hw 279 rfl) (by decide) (EW.cons (gw hw 281 rfl) (by decide) (EW.cons (gw hw 21 rfl) (by decide) EW.nil)))))
theorem d11_11 : DK kc5 11 (.getfield 9) 3 := by decide +kernel
theorem d11_14 : DK kc5 14 (.putfield 9) 3 := by decide +kernel
theorem d11_17 : DK kc5 17 (.aload_n 0) 1 := by decide +kernel
theorem d11_18 : DK kc5 18 (.ldc 7) 2 := by decide +kernel
theorem d11_20 : DK kc5 20 (.getfield 15) 3 := by decide +kernel
theorem d11_23 : DK kc5 23 (.putfield 15) 3 := by decide +kernel
theorem d11_26 : DK kc5 26 .return_ 1 := by decide +kernel
theorem own_ef_rs_i4_0 (m : MethodId) (x0 : Addr) (x1 : Addr) : entryFrame m #[(.ref x0), (.ref x1), (.int 0), (.int 0), .null] 6 = mkF m 0 #[vr x0, vr x1, vi 0, vi 0, .val .null, vu] [] := by first | (simp [entryFrame, mkF, argsToLocals, Value.category]; done) | rfl
def Q_rs_i4_0 (Z : State) (a : Addr) (x : Addr) (kx : ClassId) (h0 : Heap) (n0 : Nat) (v : Option Value) (h : Heap) (L : List Loc) : Prop := v = none ∧ Fr n0 L ∧ Keep h0 h [a] ∧ StrOf Z h a []
theorem rs_i4_0 (l : Launch) (Z : State) (a0 : Array Value) (hw : HW a0 Z) (ws : List Jvm.Cond) (a : Addr) (x : Addr) (kx : ClassId) (h0 : Heap) (n0 : Nat) (Z0 : n0 ≤ h0.size) (A_a : Exa Z h0 a "java/lang/String") (F_value_a : Fld Z h0 a "java/lang/String" "value" "[B" .null) (F_coder_a : Fld Z h0 a "java/lang/String" "coder" "B" (.int 0)) (V_x : Arv Z h0 x kx .char 0 [] (.int 0)) (g_a : n0 ≤ a) (ne_x_a : x ≠ a) :
  MetH l Z mN11 jdk_42_method_149_code 6 none ({ frames := 1, cells := 4, slots := 8, locals := 12 } : Room) ws #[(.ref a), (.ref x), (.int 0), (.int 0), .null] h0 (Q_rs_i4_0 Z a x kx h0 n0) := by
 refine own_metH (plainFor_of_name own_pn0) ?_
 intro p e s m below meth c s₁ hret hx hby hlk hml hown hnm X0 e0 hZ hh hC0
 have N0 := Fr.nil n0
 have hS : s.Since s.vm h0.size := (State.WarmedH.refl s).since _
 have hk : h0.size ≤ h0.size := Nat.le_refl _
 replace hZ : Z.Warmed39 (s.setVm s.vm).vm := hZ
 have hR : CHr Z consts_1 s.vm h0 s.vm h0 := CHr.refl hC0
 refine Gz (castTop (own_ef_rs_i4_0 m a x)) ?_
 have KP : Keep h0 h0 [a] := Keep.refl _ _
 show GG (fT s₁ m 0 #[vr a, vr x, vi 0, vi 0, .val .null, vu] [])
 have Sf_a : Safe Z consts_1 s.vm h0 a := own_safeNew hZ.alike A_a F_value_a
 show GG (fT s₁ m 0 #[vr a, vr x, vi 0, vi 0, .val .null, vu] [])
 refine gA X0 hx hby d11_0 rfl rfl rfl ?_
 obtain ⟨T1, X1, e1, st1⟩ := initO X0 hx hZ hown (gw hw 18 rfl) (gw hw 19 rfl) (gw hw 20 rfl) e0 (g := (mkF m 1 #[vr a, vr x, vi 0, vi 0, .val .null, vu] [(.ref a)])) rfl hml.symm rfl (hb hby d11_1) (by decide) (W := 0) (wz rfl) (by decide)
 refine Gs st1 ?_
 show GG (fT T1 m 4 #[vr a, vr x, vi 0, vi 0, .val .null, vu] [])
 refine gN X1 hx hby d11_4 rfl rfl ?_
 refine gu X1 hx hby d11_5 ((if0 _ _).trans (teq (by decide : ((0 : Int32) = (0 : Int32)))).2) ?_
 refine gA X1 hx hby d11_8 rfl rfl rfl ?_
 have lt_a : a < h0.size := A_a.lt
 obtain ⟨c2, T2, h2, kk2, cb2, kc2, X2, e2, E2, hS, hk2, hZ, hown, A_c2, F_coder_c2, F_value_c2, V_cb2, -, -, hC2, hL2, hsf2, st2⟩ := ldcCH X1 hx hZ hown (gw hw 21 rfl) (own_strW hw) e1 hS hk (own_EW hw) (List.mem_of_getElem? (i := 4) rfl) hR.1 (vs := []) (z := (0 : Int32)) ⟨by first | decide | rfl, by first | decide | rfl⟩ (by decide) (by decide) (g := (mkF m 9 #[vr a, vr x, vi 0, vi 0, .val .null, vu] [(.ref a)])) rfl (hb hby d11_9) (n := 0) (by decide) (by decide) (by decide) (by decide)
 replace A_a := A_a.ext E2
 replace F_value_a := F_value_a.ext E2
 replace F_coder_a := F_coder_a.ext E2
 replace KP := KP.ext E2
 replace Sf_a := hC2.safe lt_a Sf_a
 replace hR := hR.trans hC2
 replace Z0 : n0 ≤ h2.size := Nat.le_trans Z0 E2.1
 replace hk := hk2
 have ne_a_cb2 : a ≠ cb2 := (hsf2 _ Sf_a).2
 refine Gs st2 ?_
 show GG (fT T2 m 11 #[vr a, vr x, vi 0, vi 0, .val .null, vu] [(.ref c2), (.ref a)])
 obtain ⟨T3, X3, e3, st3⟩ := getF X2 hx hZ hown (host := "") (Or.inl (gw hw 27 rfl)) Via.refl e2 F_value_c2 (g := (mkF m 11 #[vr a, vr x, vi 0, vi 0, .val .null, vu] [(.ref c2), (.ref a)])) rfl rfl (hb hby d11_11)
 refine Gs st3 ?_
 show GG (fT T3 m 14 #[vr a, vr x, vi 0, vi 0, .val .null, vu] [(.ref cb2), (.ref a)])
 obtain ⟨T4, h4, X4, e4, W4, st4⟩ := putF X3 hx hZ hown (host := "") (Or.inl (gw hw 27 rfl)) Via.refl e3 F_value_a A_a (Or.inr ⟨(gw hw 23 rfl), rfl, hnm⟩) (gw hw 8 rfl) (ty := (.array .byte)) (by decide) rfl rfl (g := (mkF m 14 #[vr a, vr x, vi 0, vi 0, .val .null, vu] [(.ref cb2), (.ref a)])) rfl rfl (hb hby d11_14)
 have N4 := Fr.snoc X4 N0 g_a
 have Sf_a' := Safe.wr W4 Sf_a hR.1 Sf_a
 replace hR := hR.trans (CHr.wr W4 Sf_a hR.1)
 replace Sf_a := Sf_a'
 replace A_a := A_a.wr W4
 replace F_coder_a := F_coder_a.other W4 (Or.inr (slot_ne (Or.inr (gw hw 24 rfl)) (Or.inr (gw hw 23 rfl)) (by decide) (t := .byte) (t' := (.array .byte)) (by decide) (by decide)))
 replace V_cb2 := V_cb2.other W4 (Ne.symm ne_a_cb2)
 replace KP := KP.wr W4 (Or.inl (List.mem_of_getElem? (i := 0) rfl))
 replace F_value_a := F_value_a.same W4
 replace Z0 : n0 ≤ h4.size := by rw [W4.size]; exact Z0
 replace hk := Nat.le_trans hk (Nat.le_of_eq W4.size.symm)
 refine Gs st4 ?_
 show GG (fT T4 m 17 #[vr a, vr x, vi 0, vi 0, .val .null, vu] [])
 refine gA X4 hx hby d11_17 rfl rfl rfl ?_
 have lt_a : a < h4.size := A_a.lt
 obtain ⟨c5, T5, h5, kk5, cb5, kc5, X5, e5, E5, hS, hk5, hZ, hown, A_c5, F_coder_c5, F_value_c5, V_cb5, -, -, hC5, hL5, hsf5, st5⟩ := ldcCH X4 hx hZ hown (gw hw 21 rfl) (own_strW hw) e4 hS hk (own_EW hw) (List.mem_of_getElem? (i := 4) rfl) hR.1 (vs := []) (z := (0 : Int32)) ⟨by first | decide | rfl, by first | decide | rfl⟩ (by decide) (by decide) (g := (mkF m 18 #[vr a, vr x, vi 0, vi 0, .val .null, vu] [(.ref a)])) rfl (hb hby d11_18) (n := 0) (by decide) (by decide) (by decide) (by decide)
 replace A_a := A_a.ext E5
 replace F_value_a := F_value_a.ext E5
 replace F_coder_a := F_coder_a.ext E5
 replace V_cb2 := V_cb2.ext E5
 replace KP := KP.ext E5
 replace Sf_a := hC5.safe lt_a Sf_a
 replace hR := hR.trans hC5
 replace Z0 : n0 ≤ h5.size := Nat.le_trans Z0 E5.1
 replace hk := hk5
 refine Gs st5 ?_
 show GG (fT T5 m 20 #[vr a, vr x, vi 0, vi 0, .val .null, vu] [(.ref c5), (.ref a)])
 obtain ⟨T6, X6, e6, st6⟩ := getF X5 hx hZ hown (host := "") (Or.inl (gw hw 28 rfl)) Via.refl e5 F_coder_c5 (g := (mkF m 20 #[vr a, vr x, vi 0, vi 0, .val .null, vu] [(.ref c5), (.ref a)])) rfl rfl (hb hby d11_20)
 refine Gs st6 ?_
 show GG (fT T6 m 23 #[vr a, vr x, vi 0, vi 0, .val .null, vu] [(.int 0), (.ref a)])
 obtain ⟨T7, h7, X7, e7, W7, st7⟩ := putFN X6 hx hZ hown (gw hw 28 rfl) Via.refl e6 F_coder_a A_a (Or.inr ⟨(gw hw 24 rfl), rfl, hnm⟩) (gw hw 8 rfl) (ty := .byte) (v' := .int 0) (by decide) rfl rfl (g := (mkF m 23 #[vr a, vr x, vi 0, vi 0, .val .null, vu] [(.int 0), (.ref a)])) rfl rfl (hb hby d11_23)
 have N7 := Fr.snoc X7 N4 g_a
 replace hR := hR.trans (CHr.wr W7 Sf_a hR.1)
 replace A_a := A_a.wr W7
 replace F_value_a := F_value_a.other W7 (Or.inr (slot_ne (Or.inr (gw hw 23 rfl)) (Or.inr (gw hw 24 rfl)) (by decide) (t := (.array .byte)) (t' := .byte) (by decide) (by decide)))
 replace V_cb2 := V_cb2.other W7 (Ne.symm ne_a_cb2)
 replace KP := KP.wr W7 (Or.inl (List.mem_of_getElem? (i := 0) rfl))
 replace F_coder_a := F_coder_a.same W7
 replace Z0 : n0 ≤ h7.size := by rw [W7.size]; exact Z0
 replace hk := Nat.le_trans hk (Nat.le_of_eq W7.size.symm)
 refine Gs st7 ?_
 show GG (fT T7 m 26 #[vr a, vr x, vi 0, vi 0, .val .null, vu] [])
 have T_a : StrOf Z h7 a [] := StrOf.latin A_a F_value_a F_coder_a V_cb2 (by simp) rfl rfl (Nat.le_of_ble_eq_true rfl)
 refine Goes.retH X7 hS e7 hk hZ (own_EW hw) hh hR none (fun _ => rfl) hlk (by decide) (by decide) ?_ (fun fs hr => ?_)
 ·rw [e7]; exact ⟨rfl, N7, KP, T_a⟩
 ·exact X7.returnOut hx hret (hb hby d11_26) hr
theorem d12_0 : DK kc12 0 (.aload_n 0) 1 := by decide +kernel
theorem d12_1 : DK kc12 1 (.aload_n 1) 1 := by decide +kernel
theorem d12_2 : DK kc12 2 (.iconst 0) 1 := by decide +kernel
theorem d12_3 : DK kc12 3 (.aload_n 1) 1 := by decide +kernel
theorem d12_4 : DK kc12 4 .arraylength 1 := by decide +kernel
theorem d12_5 : DK kc12 5 .aconst_null 1 := by decide +kernel
theorem d12_6 : DK kc12 6 (.invokespecial 27) 3 := by decide +kernel
theorem own_pd7 : parseMethodDescriptor "([CIILjava/lang/Void;)V" = some ⟨[(.array .char), .int, .int, (.object "java/lang/Void")], none⟩ := by decide +kernel
theorem d12_9 : DK kc12 9 .return_ 1 := by decide +kernel
theorem own_ef_rs_i1_0 (m : MethodId) (x0 : Addr) (x1 : Addr) : entryFrame m #[(.ref x0), (.ref x1)] 2 = mkF m 0 #[vr x0, vr x1] [] := by first | (simp [entryFrame, mkF, argsToLocals, Value.category]; done) | rfl
def Q_rs_i1_0 (Z : State) (a : Addr) (x : Addr) (kx : ClassId) (h0 : Heap) (n0 : Nat) (v : Option Value) (h : Heap) (L : List Loc) : Prop := v = none ∧ Fr n0 L ∧ Keep h0 h [a] ∧ StrOf Z h a []
theorem rs_i1_0 (l : Launch) (Z : State) (a0 : Array Value) (hw : HW a0 Z) (ws : List Jvm.Cond) (a : Addr) (x : Addr) (kx : ClassId) (h0 : Heap) (n0 : Nat) (Z0 : n0 ≤ h0.size) (A_a : Exa Z h0 a "java/lang/String") (F_value_a : Fld Z h0 a "java/lang/String" "value" "[B" .null) (F_coder_a : Fld Z h0 a "java/lang/String" "coder" "B" (.int 0)) (V_x : Arv Z h0 x kx .char 0 [] (.int 0)) (g_a : n0 ≤ a) (ne_x_a : x ≠ a) :
  MetH l Z mN12 jdk_42_method_3_code 2 none ({ frames := 2, cells := 4, slots := 8, locals := 29 } : Room) ws #[(.ref a), (.ref x)] h0 (Q_rs_i1_0 Z a x kx h0 n0) := by
 refine own_metH (plainFor_of_name own_pn0) ?_
 intro p e s m below meth c s₁ hret hx hby hlk hml hown hnm X0 e0 hZ hh hC0
 have N0 := Fr.nil n0
 have hS : s.Since s.vm h0.size := (State.WarmedH.refl s).since _
 have hk : h0.size ≤ h0.size := Nat.le_refl _
 replace hZ : Z.Warmed39 (s.setVm s.vm).vm := hZ
 have hR : CHr Z consts_1 s.vm h0 s.vm h0 := CHr.refl hC0
 refine Gz (castTop (own_ef_rs_i1_0 m a x)) ?_
 have KP : Keep h0 h0 [a] := Keep.refl _ _
 show GG (fT s₁ m 0 #[vr a, vr x] [])
 refine gA X0 hx hby d12_0 rfl rfl rfl ?_
 refine gA X0 hx hby d12_1 rfl rfl rfl ?_
 refine gC X0 hx hby d12_2 ?_
 refine gA X0 hx hby d12_3 rfl rfl rfl ?_
 obtain ⟨cl1, Ar1, -, S1, N1z, -, -⟩ := id V_x
 refine Gs (fun _ tk => X0.arraylength hx (by rw [e0]; exact Ar1.1) (State.isArrayOf_alike hZ.alike Ar1.2.1) (g := (mkF m 4 #[vr a, vr x] [(.ref x), (.int 0), (.ref x), (.ref a)])) rfl rfl (hb hby d12_4) _ tk) ?_
 rw [len_of S1 N1z]
 show GG (fT s₁ m 5 #[vr a, vr x] [(.int 0), (.int 0), (.ref x), (.ref a)])
 refine Gz (XS.aconstNull X0.here hx rfl (hb hby d12_5)) ?_
 obtain ⟨_, _, ⟨T2, L2, k2, n2⟩, -, X2, hS2, gr2, ⟨Lc2, hQ2, l2, y2, z2, hC2⟩, st2⟩ := X0.specialBackS hx (y := mN11) rfl hown (gz hZ hw 14 rfl) (gz hZ hw 15 rfl) (gz hZ hw 17 rfl) (by decide) (backOfSH (W := 0) (rs_i4_0 l Z a0 hw [] a x kx h0 n0 Z0 A_a F_value_a F_coder_a V_x g_a ne_x_a) hZ (gw hw 17 rfl) (gw hw 9 rfl) (by decide) (by decide) (own_EW hw) hR.1) (g := (mkF m 6 #[vr a, vr x] [.null, (.int 0), (.int 0), (.ref x), (.ref a)])) rfl hml.symm (Steps.refl _) (a := a) (argsL := [(.ref x), (.int 0), (.int 0), .null]) (rest := []) (lenOf own_pd7 rfl) rfl (wz rfl) (hb hby d12_6) (fun _ _ => ⟨rfl, e0, (by decide : 0 + 4 ≤ _), (by decide : 0 + 8 ≤ _)⟩)
 dsimp only [Pt.U, Pt.locs, Pt.cells, Pt.slots] at X2 l2 y2 z2 st2 hQ2 hS2 gr2 hC2
 subst l2 y2 z2
 obtain ⟨X2, hS, hZ, hown⟩ := rebS hS hk X2 hS2 (by have q := gr2; rw [e0] at q; exact q) hZ hown
 replace hk : T2.heap.size ≤ T2.heap.size := Nat.le_refl _
 obtain ⟨rfl, N2q, K2, T_a_2'⟩ := hQ2
 have N2 := Fr.app N0 N2q
 replace hR := hR.trans hC2
 replace KP := KP.trans K2 (allS (Or.inl (List.mem_of_getElem? (i := 0) rfl)) all0)
 replace Z0 := Nat.le_trans Z0 K2.1
 have T_a := T_a_2'
 refine Gs (fun _ tk => st2.trans tk) ?_
 show GG (fT T2 m 9 #[vr a, vr x] [])
 refine Goes.retH X2 hS rfl hk hZ (own_EW hw) hh hR none (fun _ => rfl) hlk (by decide) (by decide) ?_ (fun fs hr => ?_)
 ·exact ⟨rfl, N2, KP, T_a⟩
 ·exact X2.returnOut hx hret (hb hby d12_9) hr
theorem d13_0 : DK kc27 0 (.getstatic 44) 3 := by decide +kernel
theorem d13_3 : DK kc27 3 (.ifCond .ne 25) 3 := by decide +kernel
theorem d13_28 : DK kc27 28 (.iload_n 1) 1 := by decide +kernel
theorem d13_29 : DK kc27 29 (.iconst 1) 1 := by decide +kernel
theorem d13_30 : DK kc27 30 .ishl 1 := by decide +kernel
theorem d13_31 : DK kc27 31 (.istore_n 1) 1 := by decide +kernel
theorem d13_32 : DK kc27 32 (.aload_n 0) 1 := by decide +kernel
theorem d13_33 : DK kc27 33 (.iload_n 1) 1 := by decide +kernel
theorem d13_34 : DK kc27 34 (.iinc 1 1) 3 := by decide +kernel
theorem d13_37 : DK kc27 37 (.iload_n 2) 1 := by decide +kernel
theorem d13_38 : DK kc27 38 (.getstatic 59) 3 := by decide +kernel
theorem d13_41 : DK kc27 41 .ishr 1 := by decide +kernel
theorem d13_42 : DK kc27 42 .i2b 1 := by decide +kernel
theorem d13_43 : DK kc27 43 .bastore 1 := by decide +kernel
theorem d13_44 : DK kc27 44 (.aload_n 0) 1 := by decide +kernel
theorem d13_45 : DK kc27 45 (.iload_n 1) 1 := by decide +kernel
theorem d13_46 : DK kc27 46 (.iload_n 2) 1 := by decide +kernel
theorem d13_47 : DK kc27 47 (.getstatic 63) 3 := by decide +kernel
theorem d13_50 : DK kc27 50 .ishr 1 := by decide +kernel
theorem d13_51 : DK kc27 51 .i2b 1 := by decide +kernel
theorem d13_52 : DK kc27 52 .bastore 1 := by decide +kernel
theorem d13_53 : DK kc27 53 .return_ 1 := by decide +kernel
theorem own_ef_rs_pc_1_0 (m : MethodId) (x0 : Addr) (x2 : Int32) : entryFrame m #[(.ref x0), (.int 0), (.int x2)] 3 = mkF m 0 #[vr x0, vi 0, vi x2] [] := by first | (simp [entryFrame, mkF, argsToLocals, Value.category]; done) | rfl
def Q_rs_pc_1_0 (Z : State) (y : Addr) (ky : ClassId) (c0 : Int32) (h0 : Heap) (n0 : Nat) (v : Option Value) (h : Heap) (L : List Loc) : Prop := v = none ∧ Fr n0 L ∧ Keep h0 h [y] ∧ Arv Z h y ky .byte 2 [(.int (lo8 c0)), (.int (hi8 c0))] (.int 0)
theorem rs_pc_1_0 (l : Launch) (Z : State) (a0 : Array Value) (hw : HW a0 Z) (ws : List Jvm.Cond) (y : Addr) (ky : ClassId) (c0 : Int32) (h0 : Heap) (n0 : Nat) (Z0 : n0 ≤ h0.size) (V_y : Arv Z h0 y ky .byte 2 [(.int 0), (.int 0)] (.int 0)) (g_y : n0 ≤ y) (sgA : Sta Z h0 "java/lang/StringUTF16" "$assertionsDisabled" "Z" (.int 1)) (sgH : Sta Z h0 "java/lang/StringUTF16" "HI_BYTE_SHIFT" "I" (.int 0)) (sgL : Sta Z h0 "java/lang/StringUTF16" "LO_BYTE_SHIFT" "I" (.int 8)) :
  Met l Z mN13 jdk_52_method_4_code 3 none ({ frames := 0, cells := 0, slots := 0, locals := 0 } : Room) ws #[(.ref y), (.int 0), (.int c0)] h0 (Q_rs_pc_1_0 Z y ky c0 h0 n0) := by
 refine own_met (plainFor_of_name own_pn3) ?_
 intro p e s m below meth c s₁ hret hx hby hlk hml hown hnm X0 e0 hZ hh
 have N0 := Fr.nil n0
 refine Gz (castTop (own_ef_rs_pc_1_0 m y c0)) ?_
 have KP : Keep h0 h0 [y] := Keep.refl _ _
 show GG (fT s₁ m 0 #[vr y, vi 0, vi c0] [])
 obtain ⟨T1, X1, e1, st1⟩ := getS2 X0 hx hZ hown (host := "") (Or.inl (gw hw 226 rfl)) Via.refl e0 sgA (g := (mkF m 0 #[vr y, vi 0, vi c0] [])) rfl (hb hby d13_0)
 refine Gs st1 ?_
 show GG (fT T1 m 3 #[vr y, vi 0, vi c0] [(.int 1)])
 refine gy X1 hx hby d13_3 3 28 ((if0 _ _).trans (feq (by decide : ¬ ((1 : Int32) = (0 : Int32)))).2) ?_
 refine gN X1 hx hby d13_28 rfl rfl ?_
 refine gC X1 hx hby d13_29 ?_
 show GG (fT T1 m 30 #[vr y, vi 0, vi c0] [(.int 1), (.int 0)])
 refine Gz (XS.ishl X1.here hx rfl (hb hby d13_30) rfl) ?_
 show GG (fT T1 m 31 #[vr y, vi 0, vi c0] [(.int 0)])
 refine gs X1 hx hby d13_31 #[vr y, vi 0, vi c0] ?_
 refine gA X1 hx hby d13_32 rfl rfl rfl ?_
 refine gN X1 hx hby d13_33 rfl rfl ?_
 show GG (fT T1 m 34 #[vr y, vi 0, vi c0] [(.int 0), (.ref y)])
 refine Gz (XS.iinc X1.here hx rfl (hb hby d13_34) rfl (l' := #[vr y, vi ((0 : Int32) + (1 : Int32)), vi c0]) rfl) ?_
 show GG (fT T1 m 37 #[vr y, vi 1, vi c0] [(.int 0), (.ref y)])
 refine gN X1 hx hby d13_37 rfl rfl ?_
 obtain ⟨T2, X2, e2, st2⟩ := getS2 X1 hx hZ hown (host := "") (Or.inl (gw hw 227 rfl)) Via.refl e1 sgH (g := (mkF m 38 #[vr y, vi 1, vi c0] [(.int c0), (.int 0), (.ref y)])) rfl (hb hby d13_38)
 refine Gs st2 ?_
 show GG (fT T2 m 41 #[vr y, vi 1, vi c0] [(.int 0), (.int c0), (.int 0), (.ref y)])
 refine Gz (XS.ishr X2.here hx rfl (hb hby d13_41) rfl) ?_
 show GG (fT T2 m 42 #[vr y, vi 1, vi c0] [(.int (c0 >>> ((0 : Int32) &&& 31))), (.int 0), (.ref y)])
 rw [own_shr0]
 show GG (fT T2 m 42 #[vr y, vi 1, vi c0] [(.int c0), (.int 0), (.ref y)])
 refine Gz (XS.i2b X2.here hx rfl (hb hby d13_42) rfl) ?_
 show GG (fT T2 m 43 #[vr y, vi 1, vi c0] [(.int (c0.toInt8.toInt32)), (.int 0), (.ref y)])
 obtain ⟨cl3, Ar3, q3, S3, N3z, H3, G3⟩ := V_y
 have hin3 : ¬ ((0 : Int32) < 0 ∨ cl3.slots.size ≤ ((0 : Int32)).toNatClampNeg) := inb_of S3 ⟨by decide, by decide⟩
 obtain ⟨T3, h3, X3, e3, W3, st3⟩ := stB X2 hx hZ e2 Ar3 (j := (0 : Int32)) hin3 (g := (mkF m 43 #[vr y, vi 1, vi c0] [(.int (c0.toInt8.toInt32)), (.int 0), (.ref y)])) rfl rfl (hb hby d13_43)
 have Vn3 := Arv.set Ar3 q3 S3 N3z H3 G3 (fits_nar_byte _) W3 0 rfl (Nat.le_of_ble_eq_true rfl)
 have N3 := Fr.snoc X3 N0 g_y
 replace sgL := sgL.wr W3
 replace KP := KP.wr W3 (Or.inl (List.mem_of_getElem? (i := 0) rfl))
 have V_y : Arv Z h3 y ky .byte 2 [(.int (lo8 c0)), (.int 0)] (.int 0) := by have q := Vn3; rw [own_nb2] at q; exact q
 replace Z0 : n0 ≤ h3.size := by rw [W3.size]; exact Z0
 refine Gs st3 ?_
 show GG (fT T3 m 44 #[vr y, vi 1, vi c0] [])
 refine gA X3 hx hby d13_44 rfl rfl rfl ?_
 refine gN X3 hx hby d13_45 rfl rfl ?_
 refine gN X3 hx hby d13_46 rfl rfl ?_
 obtain ⟨T4, X4, e4, st4⟩ := getS2 X3 hx hZ hown (host := "") (Or.inl (gw hw 228 rfl)) Via.refl e3 sgL (g := (mkF m 47 #[vr y, vi 1, vi c0] [(.int c0), (.int 1), (.ref y)])) rfl (hb hby d13_47)
 refine Gs st4 ?_
 show GG (fT T4 m 50 #[vr y, vi 1, vi c0] [(.int 8), (.int c0), (.int 1), (.ref y)])
 refine Gz (XS.ishr X4.here hx rfl (hb hby d13_50) rfl) ?_
 show GG (fT T4 m 51 #[vr y, vi 1, vi c0] [(.int (c0 >>> ((8 : Int32) &&& 31))), (.int 1), (.ref y)])
 refine Gz (XS.i2b X4.here hx rfl (hb hby d13_51) rfl) ?_
 show GG (fT T4 m 52 #[vr y, vi 1, vi c0] [(.int ((c0 >>> ((8 : Int32) &&& 31)).toInt8.toInt32)), (.int 1), (.ref y)])
 obtain ⟨cl5, Ar5, q5, S5, N5z, H5, G5⟩ := V_y
 have hin5 : ¬ ((1 : Int32) < 0 ∨ cl5.slots.size ≤ ((1 : Int32)).toNatClampNeg) := inb_of S5 ⟨by decide, by decide⟩
 obtain ⟨T5, h5, X5, e5, W5, st5⟩ := stB X4 hx hZ e4 Ar5 (j := (1 : Int32)) hin5 (g := (mkF m 52 #[vr y, vi 1, vi c0] [(.int ((c0 >>> ((8 : Int32) &&& 31)).toInt8.toInt32)), (.int 1), (.ref y)])) rfl rfl (hb hby d13_52)
 have Vn5 := Arv.set Ar5 q5 S5 N5z H5 G5 (fits_nar_byte _) W5 1 rfl (Nat.le_of_ble_eq_true rfl)
 have N5 := Fr.snoc X5 N3 g_y
 replace KP := KP.wr W5 (Or.inl (List.mem_of_getElem? (i := 0) rfl))
 have V_y : Arv Z h5 y ky .byte 2 [(.int (lo8 c0)), (.int (hi8 c0))] (.int 0) := by have q := Vn5; rw [own_nbh2] at q; exact q
 replace Z0 : n0 ≤ h5.size := by rw [W5.size]; exact Z0
 refine Gs st5 ?_
 show GG (fT T5 m 53 #[vr y, vi 1, vi c0] [])
 refine Goes.ret X5 none (fun _ => rfl) hlk (by decide) (by decide) ?_ (fun fs hr => ?_)
 ·rw [e5]; exact ⟨rfl, N5, KP, V_y⟩
 ·exact X5.returnOut hx hret (hb hby d13_53) hr
theorem d14_0 : DK kc26 0 (.iload_n 0) 1 := by decide +kernel
theorem d14_1 : DK kc26 1 (.ifCond .ge 11) 3 := by decide +kernel
theorem d14_12 : DK kc26 12 (.iload_n 0) 1 := by decide +kernel
theorem d14_13 : DK kc26 13 (.ldc 20) 2 := by decide +kernel
theorem d14_15 : DK kc26 15 (.if_icmp .lt 40) 3 := by decide +kernel
theorem d14_55 : DK kc26 55 (.iload_n 0) 1 := by decide +kernel
theorem d14_56 : DK kc26 56 (.iconst 1) 1 := by decide +kernel
theorem d14_57 : DK kc26 57 .ishl 1 := by decide +kernel
theorem d14_58 : DK kc26 58 .ireturn 1 := by decide +kernel
theorem own_ef_rs_nbl_1 (m : MethodId)  : entryFrame m #[(.int 1)] 1 = mkF m 0 #[vi 1] [] := by first | (simp [entryFrame, mkF, argsToLocals, Value.category]; done) | rfl
def Q_rs_nbl_1 (Z : State)  (h0 : Heap) (n0 : Nat) (v : Option Value) (h : Heap) (L : List Loc) : Prop := v = some (.int 2) ∧ Fr n0 L ∧ h = h0
theorem rs_nbl_1 (l : Launch) (Z : State) (a0 : Array Value) (hw : HW a0 Z) (ws : List Jvm.Cond)  (h0 : Heap) (n0 : Nat) (Z0 : n0 ≤ h0.size) :
  Met l Z mN14 jdk_52_method_3_code 1 (some .int) ({ frames := 0, cells := 0, slots := 0, locals := 0 } : Room) ws #[(.int 1)] h0 (Q_rs_nbl_1 Z  h0 n0) := by
 refine own_met (plainFor_of_name own_pn3) ?_
 intro p e s m below meth c s₁ hret hx hby hlk hml hown hnm X0 e0 hZ hh
 have N0 := Fr.nil n0
 refine Gz (castTop (own_ef_rs_nbl_1 m )) ?_
 show GG (fT s₁ m 0 #[vi 1] [])
 refine gN X0 hx hby d14_0 rfl rfl ?_
 refine gy X0 hx hby d14_1 1 12 ((if0 _ _).trans (flt (by decide : ¬ ((1 : Int32) < (0 : Int32)))).2.1) ?_
 refine gN X0 hx hby d14_12 rfl rfl ?_
 refine Gz (Jvm.Stand.ldcI X0 hx hown (gz hZ hw 253 rfl) rfl (hb hby d14_13)) ?_
 show GG (fT s₁ m 15 #[vi 1] [(.int 1073741823), (.int 1)])
 refine gY X0 hx hby d14_15 15 55 (tlt (by decide : ((1 : Int32) < (1073741823 : Int32)))).1 ?_
 refine gN X0 hx hby d14_55 rfl rfl ?_
 refine gC X0 hx hby d14_56 ?_
 show GG (fT s₁ m 57 #[vi 1] [(.int 1), (.int 1)])
 refine Gz (XS.ishl X0.here hx rfl (hb hby d14_57) rfl) ?_
 show GG (fT s₁ m 58 #[vi 1] [(.int 2)])
 refine Goes.ret X0 (some (.int 2)) (fun h => by rw [hret] at h; cases h) hlk (by decide) (by decide) ?_ (fun fs hr => ?_)
 ·exact ⟨rfl, N0, e0⟩
 ·exact retI X0 hx hret (hb hby d14_58) hr
theorem d15_0 : DK kc25 0 (.iload_n 0) 1 := by decide +kernel
theorem d15_1 : DK kc25 1 (.invokestatic 11) 3 := by decide +kernel
theorem own_pd8 : parseMethodDescriptor "(I)I" = some ⟨[.int], some .int⟩ := by decide +kernel
theorem d15_4 : DK kc25 4 (.newarray .byte) 2 := by decide +kernel
theorem d15_6 : DK kc25 6 .areturn 1 := by decide +kernel
theorem own_ef_rs_nbf_1 (m : MethodId)  : entryFrame m #[(.int 1)] 1 = mkF m 0 #[vi 1] [] := by first | (simp [entryFrame, mkF, argsToLocals, Value.category]; done) | rfl
def Q_rs_nbf_1 (Z : State)  (h0 : Heap) (n0 : Nat) (v : Option Value) (h : Heap) (L : List Loc) : Prop := ∃ y : Addr, ∃ ky : ClassId, v = some (.ref y) ∧ Fr n0 L ∧ Keep h0 h [] ∧ Arv Z h y ky .byte 2 [(.int 0), (.int 0)] (.int 0) ∧ n0 ≤ y ∧ h0.size ≤ y
theorem rs_nbf_1 (l : Launch) (Z : State) (a0 : Array Value) (hw : HW a0 Z) (ws : List Jvm.Cond)  (h0 : Heap) (n0 : Nat) (Z0 : n0 ≤ h0.size) :
  Met l Z mN15 jdk_52_method_2_code 1 (some (.array .byte)) ({ frames := 1, cells := 1, slots := 2, locals := 12 } : Room) ws #[(.int 1)] h0 (Q_rs_nbf_1 Z  h0 n0) := by
 refine own_met (plainFor_of_name own_pn3) ?_
 intro p e s m below meth c s₁ hret hx hby hlk hml hown hnm X0 e0 hZ hh
 have N0 := Fr.nil n0
 refine Gz (castTop (own_ef_rs_nbf_1 m )) ?_
 have KP : Keep h0 h0 [] := Keep.refl _ _
 show GG (fT s₁ m 0 #[vi 1] [])
 refine gN X0 hx hby d15_0 rfl rfl ?_
 refine cS X0 hx hZ hw hown hby hml e0 mN14 250 251 252 169 0 (rs_nbl_1 l Z a0 hw []  h0 n0 Z0) d15_1 (lenOf own_pd8 rfl) N0 (fun T1 L1 X1 e1 N1 => ?_)
 show GG (fT T1 m 4 #[vi 1] [(.int 2)])
 obtain ⟨T2, h2, k2, X2, e2, E2, A2, st2⟩ := newP X1 hx hZ (gw hw 22 rfl) e1 (g := (mkF m 4 #[vi 1] [(.int 2)])) rfl (hb hby d15_4) rfl (by decide) (cap := 2) (by decide) (by decide) (by decide) (by decide)
 obtain ⟨b2, gq2⟩ : ∃ z, z = h0.size := ⟨_, rfl⟩
 rw [← gq2] at A2 st2
 have g_b2 : n0 ≤ b2 := by rw [gq2]; exact Z0
 have sz_b2 : h0.size ≤ b2 := by rw [gq2]; exact KP.1
 replace KP := KP.ext E2
 replace Z0 : n0 ≤ h2.size := Nat.le_trans Z0 E2.1
 have V_b2 : Arv Z h2 b2 k2 .byte 2 [(.int 0), (.int 0)] (.int 0) := (Arv.new A2 (by decide)).pad (pad_rep [] (.int 0) 2)
 refine Gs st2 ?_
 show GG (fT T2 m 6 #[vi 1] [(.ref b2)])
 refine Goes.ret X2 (some (.ref b2)) (fun h => by rw [hret] at h; cases h) hlk (by decide) (by decide) ?_ (fun fs hr => ?_)
 ·rw [e2]; exact ⟨b2, k2, rfl, N1, KP, V_b2, g_b2, sz_b2⟩
 ·exact own_retA X2 hx hret rfl rfl (hb hby d15_6) hr
theorem d16_0 : DK kc20 0 (.iload_n 2) 1 := by decide +kernel
theorem d16_1 : DK kc20 1 (.invokestatic 107) 3 := by decide +kernel
theorem own_pd9 : parseMethodDescriptor "(I)[B" = some ⟨[.int], some (.array .byte)⟩ := by decide +kernel
theorem d16_4 : DK kc20 4 (.astore_n 3) 1 := by decide +kernel
theorem d16_5 : DK kc20 5 (.iconst 0) 1 := by decide +kernel
theorem d16_6 : DK kc20 6 (.istore 4) 2 := by decide +kernel
theorem d16_8 : DK kc20 8 (.iload 4) 2 := by decide +kernel
theorem d16_10 : DK kc20 10 (.iload_n 2) 1 := by decide +kernel
theorem d16_11 : DK kc20 11 (.if_icmp .ge 21) 3 := by decide +kernel
theorem d16_14 : DK kc20 14 (.aload_n 3) 1 := by decide +kernel
theorem d16_15 : DK kc20 15 (.iload 4) 2 := by decide +kernel
theorem d16_17 : DK kc20 17 (.aload_n 0) 1 := by decide +kernel
theorem d16_18 : DK kc20 18 (.iload_n 1) 1 := by decide +kernel
theorem d16_19 : DK kc20 19 .caload 1 := by decide +kernel
theorem d16_20 : DK kc20 20 (.invokestatic 111) 3 := by decide +kernel
theorem own_pd10 : parseMethodDescriptor "([BII)V" = some ⟨[(.array .byte), .int, .int], none⟩ := by decide +kernel
theorem d16_23 : DK kc20 23 (.iinc 1 1) 3 := by decide +kernel
theorem d16_26 : DK kc20 26 (.iinc 4 1) 3 := by decide +kernel
theorem d16_29 : DK kc20 29 (.goto (-21)) 3 := by decide +kernel
theorem d16_32 : DK kc20 32 (.aload_n 3) 1 := by decide +kernel
theorem d16_33 : DK kc20 33 .areturn 1 := by decide +kernel
theorem own_ef_rs_tb_1 (m : MethodId) (x0 : Addr) : entryFrame m #[(.ref x0), (.int 0), (.int 1)] 5 = mkF m 0 #[vr x0, vi 0, vi 1, vu, vu] [] := by first | (simp [entryFrame, mkF, argsToLocals, Value.category]; done) | rfl
def Q_rs_tb_1 (Z : State) (x : Addr) (kx : ClassId) (c0 : Int32) (h0 : Heap) (n0 : Nat) (v : Option Value) (h : Heap) (L : List Loc) : Prop := ∃ y : Addr, ∃ ky : ClassId, v = some (.ref y) ∧ Fr n0 L ∧ Keep h0 h [] ∧ Arv Z h y ky .byte 2 [(.int (lo8 c0)), (.int (hi8 c0))] (.int 0) ∧ n0 ≤ y ∧ h0.size ≤ y
theorem rs_tb_1 (l : Launch) (Z : State) (a0 : Array Value) (hw : HW a0 Z) (ws : List Jvm.Cond) (x : Addr) (kx : ClassId) (c0 : Int32) (h0 : Heap) (n0 : Nat) (Z0 : n0 ≤ h0.size) (V_x : Arv Z h0 x kx .char 1 [(.int c0)] (.int 0)) (sgA : Sta Z h0 "java/lang/StringUTF16" "$assertionsDisabled" "Z" (.int 1)) (sgH : Sta Z h0 "java/lang/StringUTF16" "HI_BYTE_SHIFT" "I" (.int 0)) (sgL : Sta Z h0 "java/lang/StringUTF16" "LO_BYTE_SHIFT" "I" (.int 8)) :
  Met l Z mN16 jdk_52_method_14_code 5 (some (.array .byte)) ({ frames := 2, cells := 1, slots := 2, locals := 24 } : Room) ws #[(.ref x), (.int 0), (.int 1)] h0 (Q_rs_tb_1 Z x kx c0 h0 n0) := by
 refine own_met (plainFor_of_name own_pn3) ?_
 intro p e s m below meth c s₁ hret hx hby hlk hml hown hnm X0 e0 hZ hh
 have N0 := Fr.nil n0
 refine Gz (castTop (own_ef_rs_tb_1 m x)) ?_
 have KP : Keep h0 h0 [] := Keep.refl _ _
 show GG (fT s₁ m 0 #[vr x, vi 0, vi 1, vu, vu] [])
 refine gN X0 hx hby d16_0 rfl rfl ?_
 have szs1 : h0.size ≤ h0.size := KP.1
 refine cSg X0 hx hZ hw hown hby hml e0 mN15 278 248 249 169 0 (rs_nbf_1 l Z a0 hw []  h0 n0 Z0) d16_1 (lenOf own_pd9 rfl) (fun _ T1 L1 X1 hQ1 => ?_)
 obtain ⟨y1, ky1, rfl, N1q, K1, V_y1_1', g_y1_1', sz_y1_1'⟩ := hQ1
 have N1 := Fr.app N0 N1q
 replace sgA := own_staK sgA K1 all0
 replace sgH := own_staK sgH K1 all0
 replace sgL := own_staK sgL K1 all0
 replace V_x := V_x.keep K1 nin0
 replace KP := KP.trans K1 all0
 replace Z0 := Nat.le_trans Z0 K1.1
 have V_y1 := V_y1_1'
 have g_y1 := g_y1_1'
 have szc_y1 := sz_y1_1'
 have sz_y1 : h0.size ≤ y1 := Nat.le_trans szs1 szc_y1
 show GG (fT T1 m 4 #[vr x, vi 0, vi 1, vu, vu] [(.ref y1)])
 refine Gz (XS.astoreN X1.here hx rfl (hb hby d16_4) rfl rfl (l' := #[vr x, vi 0, vi 1, vr y1, vu]) rfl) ?_
 refine gC X1 hx hby d16_5 ?_
 refine gS X1 hx hby d16_6 #[vr x, vi 0, vi 1, vr y1, vi 0] ?_
 refine gI X1 hx hby d16_8 rfl rfl ?_
 refine gN X1 hx hby d16_10 rfl rfl ?_
 refine gU X1 hx hby d16_11 (tlt (by decide : ((0 : Int32) < (1 : Int32)))).2.1 ?_
 show GG (fT T1 m 14 #[vr x, vi 0, vi 1, vr y1, vi 0] [])
 refine gA X1 hx hby d16_14 rfl rfl rfl ?_
 refine gI X1 hx hby d16_15 rfl rfl ?_
 refine gA X1 hx hby d16_17 rfl rfl rfl ?_
 refine gN X1 hx hby d16_18 rfl rfl ?_
 obtain ⟨cl2, Ar2, -, S2, N2z, H2, -⟩ := id V_x
 have hin2 : ¬ ((0 : Int32) < 0 ∨ cl2.slots.size ≤ ((0 : Int32)).toNatClampNeg) := inb_of S2 ⟨by decide, by decide⟩
 have hat2 : cl2.slots[((0 : Int32)).toNatClampNeg]? = some (.int c0) := Has.at H2 hin2 rfl
 refine Gs (fun _ tk => X1.caload hx (j := (0 : Int32)) (v := (.int c0)) Ar2.1 (State.isArrayOf_alike hZ.alike Ar2.2.1) Ar2.2.2 hin2 hat2 (g := (mkF m 19 #[vr x, vi 0, vi 1, vr y1, vi 0] [(.int 0), (.ref x), (.int 0), (.ref y1)])) rfl rfl (hb hby d16_19) _ tk) ?_
 show GG (fT T1 m 20 #[vr x, vi 0, vi 1, vr y1, vi 0] [(.int c0), (.int 0), (.ref y1)])
 refine cSg X1 hx hZ hw hown hby hml rfl mN13 223 224 225 169 0 (rs_pc_1_0 l Z a0 hw [] y1 ky1 c0 T1.heap n0 Z0 V_y1 g_y1 sgA sgH sgL) d16_20 (lenOf own_pd10 rfl) (fun _ T3 L3 X3 hQ3 => ?_)
 obtain ⟨rfl, N3q, K3, V_y1_3'⟩ := hQ3
 have N3 := Fr.app N1 N3q
 replace KP := KP.trans K3 (allS (Or.inr sz_y1) all0)
 replace Z0 := Nat.le_trans Z0 K3.1
 have V_y1 := V_y1_3'
 show GG (fT T3 m 23 #[vr x, vi 0, vi 1, vr y1, vi 0] [])
 refine Gz (XS.iinc X3.here hx rfl (hb hby d16_23) rfl (l' := #[vr x, vi ((0 : Int32) + (1 : Int32)), vi 1, vr y1, vi 0]) rfl) ?_
 show GG (fT T3 m 26 #[vr x, vi 1, vi 1, vr y1, vi 0] [])
 refine Gz (XS.iinc X3.here hx rfl (hb hby d16_26) rfl (l' := #[vr x, vi 1, vi 1, vr y1, vi ((0 : Int32) + (1 : Int32))]) rfl) ?_
 show GG (fT T3 m 29 #[vr x, vi 1, vi 1, vr y1, vi 1] [])
 refine gG X3 hx hby d16_29 29 8 ?_
 refine gI X3 hx hby d16_8 rfl rfl ?_
 refine gN X3 hx hby d16_10 rfl rfl ?_
 refine gY X3 hx hby d16_11 11 32 (flt (by decide : ¬ ((1 : Int32) < (1 : Int32)))).2.1 ?_
 refine gA X3 hx hby d16_32 rfl rfl rfl ?_
 refine Goes.ret X3 (some (.ref y1)) (fun h => by rw [hret] at h; cases h) hlk (by decide) (by decide) ?_ (fun fs hr => ?_)
 ·exact ⟨y1, ky1, rfl, N3, KP, V_y1, g_y1, sz_y1⟩
 ·exact own_retA X3 hx hret rfl rfl (hb hby d16_33) hr
theorem d17_0 : DK kc23 0 (.iconst 0) 1 := by decide +kernel
theorem d17_1 : DK kc23 1 (.istore 5) 2 := by decide +kernel
theorem d17_3 : DK kc23 3 (.iload 5) 2 := by decide +kernel
theorem d17_5 : DK kc23 5 (.iload 4) 2 := by decide +kernel
theorem d17_7 : DK kc23 7 (.if_icmp .ge 37) 3 := by decide +kernel
theorem d17_10 : DK kc23 10 (.aload_n 0) 1 := by decide +kernel
theorem d17_11 : DK kc23 11 (.iload_n 1) 1 := by decide +kernel
theorem d17_12 : DK kc23 12 .caload 1 := by decide +kernel
theorem d17_13 : DK kc23 13 (.istore 6) 2 := by decide +kernel
theorem d17_15 : DK kc23 15 (.iload 6) 2 := by decide +kernel
theorem d17_17 : DK kc23 17 (.sipush 255) 3 := by decide +kernel
theorem d17_20 : DK kc23 20 (.if_icmp .le 6) 3 := by decide +kernel
theorem d17_23 : DK kc23 23 (.iload 5) 2 := by decide +kernel
theorem d17_25 : DK kc23 25 .ireturn 1 := by decide +kernel
theorem own_ef_rs_c5_1_0 (m : MethodId) (x0 : Addr) (x2 : Addr) : entryFrame m #[(.ref x0), (.int 0), (.ref x2), (.int 0), (.int 1)] 7 = mkF m 0 #[vr x0, vi 0, vr x2, vi 0, vi 1, vu, vu] [] := by first | (simp [entryFrame, mkF, argsToLocals, Value.category]; done) | rfl
def Q_rs_c5_1_0 (Z : State) (x : Addr) (kx : ClassId) (y : Addr) (ky : ClassId) (c0 : Int32) (h0 : Heap) (n0 : Nat) (v : Option Value) (h : Heap) (L : List Loc) : Prop := v = some (.int 0) ∧ Fr n0 L ∧ Keep h0 h [y] ∧ Arv Z h y ky .byte 1 [(.int 0)] (.int 0)
theorem rs_c5_1_0 (l : Launch) (Z : State) (a0 : Array Value) (hw : HW a0 Z) (ws : List Jvm.Cond) (x : Addr) (kx : ClassId) (y : Addr) (ky : ClassId) (c0 : Int32) (h0 : Heap) (n0 : Nat) (Z0 : n0 ≤ h0.size) (V_x : Arv Z h0 x kx .char 1 [(.int c0)] (.int 0)) (V_y : Arv Z h0 y ky .byte 1 [(.int 0)] (.int 0)) (g_y : n0 ≤ y) (ne_x_y : x ≠ y) (hn_c0 : (255 : Int32) < c0) :
  Met l Z mN17 jdk_52_method_21_code 7 (some .int) ({ frames := 0, cells := 0, slots := 0, locals := 0 } : Room) ws #[(.ref x), (.int 0), (.ref y), (.int 0), (.int 1)] h0 (Q_rs_c5_1_0 Z x kx y ky c0 h0 n0) := by
 refine own_met (plainFor_of_name own_pn3) ?_
 intro p e s m below meth c s₁ hret hx hby hlk hml hown hnm X0 e0 hZ hh
 have N0 := Fr.nil n0
 refine Gz (castTop (own_ef_rs_c5_1_0 m x y)) ?_
 have KP : Keep h0 h0 [y] := Keep.refl _ _
 show GG (fT s₁ m 0 #[vr x, vi 0, vr y, vi 0, vi 1, vu, vu] [])
 refine gC X0 hx hby d17_0 ?_
 refine gS X0 hx hby d17_1 #[vr x, vi 0, vr y, vi 0, vi 1, vi 0, vu] ?_
 refine gI X0 hx hby d17_3 rfl rfl ?_
 refine gI X0 hx hby d17_5 rfl rfl ?_
 refine gU X0 hx hby d17_7 (tlt (by decide : ((0 : Int32) < (1 : Int32)))).2.1 ?_
 refine gA X0 hx hby d17_10 rfl rfl rfl ?_
 show GG (fT s₁ m 11 #[vr x, vi 0, vr y, vi 0, vi 1, vi 0, vu] [(.ref x)])
 refine gN X0 hx hby d17_11 rfl rfl ?_
 obtain ⟨cl1, Ar1, -, S1, N1z, H1, -⟩ := id V_x
 have hin1 : ¬ ((0 : Int32) < 0 ∨ cl1.slots.size ≤ ((0 : Int32)).toNatClampNeg) := inb_of S1 ⟨by decide, by decide⟩
 have hat1 : cl1.slots[((0 : Int32)).toNatClampNeg]? = some (.int c0) := Has.at H1 hin1 rfl
 refine Gs (fun _ tk => X0.caload hx (j := (0 : Int32)) (v := (.int c0)) (by rw [e0]; exact Ar1.1) (State.isArrayOf_alike hZ.alike Ar1.2.1) Ar1.2.2 hin1 hat1 (g := (mkF m 12 #[vr x, vi 0, vr y, vi 0, vi 1, vi 0, vu] [(.int 0), (.ref x)])) rfl rfl (hb hby d17_12) _ tk) ?_
 show GG (fT s₁ m 13 #[vr x, vi 0, vr y, vi 0, vi 1, vi 0, vu] [(.int c0)])
 refine gS X0 hx hby d17_13 #[vr x, vi 0, vr y, vi 0, vi 1, vi 0, vi c0] ?_
 refine gI X0 hx hby d17_15 rfl rfl ?_
 refine Gz (XS.sipush X0.here hx rfl (hb hby d17_17)) ?_
 refine gU X0 hx hby d17_20 (tlt hn_c0).2.2.2 ?_
 refine gI X0 hx hby d17_23 rfl rfl ?_
 refine Goes.ret X0 (some (.int 0)) (fun h => by rw [hret] at h; cases h) hlk (by decide) (by decide) ?_ (fun fs hr => ?_)
 ·rw [e0]; exact ⟨rfl, N0, KP, V_y⟩
 ·exact retI X0 hx hret (hb hby d17_25) hr
theorem d18_0 : DK kc22 0 (.iload_n 2) 1 := by decide +kernel
theorem d18_1 : DK kc22 1 (.newarray .byte) 2 := by decide +kernel
theorem d18_3 : DK kc22 3 (.astore_n 3) 1 := by decide +kernel
theorem d18_4 : DK kc22 4 (.aload_n 0) 1 := by decide +kernel
theorem d18_5 : DK kc22 5 (.iload_n 1) 1 := by decide +kernel
theorem d18_6 : DK kc22 6 (.aload_n 3) 1 := by decide +kernel
theorem d18_7 : DK kc22 7 (.iconst 0) 1 := by decide +kernel
theorem d18_8 : DK kc22 8 (.iload_n 2) 1 := by decide +kernel
theorem d18_9 : DK kc22 9 (.invokestatic 115) 3 := by decide +kernel
theorem own_pd11 : parseMethodDescriptor "([CI[BII)I" = some ⟨[(.array .char), .int, (.array .byte), .int, .int], some .int⟩ := by decide +kernel
theorem d18_12 : DK kc22 12 (.istore 4) 2 := by decide +kernel
theorem d18_14 : DK kc22 14 (.iload 4) 2 := by decide +kernel
theorem d18_16 : DK kc22 16 (.iload_n 2) 1 := by decide +kernel
theorem d18_17 : DK kc22 17 (.if_icmp .eq 40) 3 := by decide +kernel
theorem d18_20 : DK kc22 20 (.aload_n 0) 1 := by decide +kernel
theorem d18_21 : DK kc22 21 (.iload_n 1) 1 := by decide +kernel
theorem d18_22 : DK kc22 22 (.iload_n 2) 1 := by decide +kernel
theorem d18_23 : DK kc22 23 (.invokestatic 119) 3 := by decide +kernel
theorem own_pd12 : parseMethodDescriptor "([CII)[B" = some ⟨[(.array .char), .int, .int], some (.array .byte)⟩ := by decide +kernel
theorem d18_26 : DK kc22 26 (.astore 5) 2 := by decide +kernel
theorem d18_28 : DK kc22 28 (.aload 5) 2 := by decide +kernel
theorem d18_30 : DK kc22 30 (.iload 4) 2 := by decide +kernel
theorem d18_32 : DK kc22 32 (.invokestatic 71) 3 := by decide +kernel
theorem d18_35 : DK kc22 35 (.sipush 255) 3 := by decide +kernel
theorem d18_38 : DK kc22 38 (.if_icmp .gt 16) 3 := by decide +kernel
theorem d18_54 : DK kc22 54 (.aload 5) 2 := by decide +kernel
theorem d18_56 : DK kc22 56 .areturn 1 := by decide +kernel
theorem own_ef_rs_c3_1_0 (m : MethodId) (x0 : Addr) : entryFrame m #[(.ref x0), (.int 0), (.int 1)] 6 = mkF m 0 #[vr x0, vi 0, vi 1, vu, vu, vu] [] := by first | (simp [entryFrame, mkF, argsToLocals, Value.category]; done) | rfl
def Q_rs_c3_1_0 (Z : State) (x : Addr) (kx : ClassId) (c0 : Int32) (h0 : Heap) (n0 : Nat) (v : Option Value) (h : Heap) (L : List Loc) : Prop := ∃ y : Addr, ∃ ky : ClassId, v = some (.ref y) ∧ Fr n0 L ∧ Keep h0 h [] ∧ Arv Z h y ky .byte 2 [(.int (lo8 c0)), (.int (hi8 c0))] (.int 0) ∧ n0 ≤ y ∧ h0.size ≤ y
theorem rs_c3_1_0 (l : Launch) (Z : State) (a0 : Array Value) (hw : HW a0 Z) (ws : List Jvm.Cond) (x : Addr) (kx : ClassId) (c0 : Int32) (h0 : Heap) (n0 : Nat) (Z0 : n0 ≤ h0.size) (V_x : Arv Z h0 x kx .char 1 [(.int c0)] (.int 0)) (hn_c0 : (255 : Int32) < c0) (hC_c0 : Chr c0) (sgA : Sta Z h0 "java/lang/StringUTF16" "$assertionsDisabled" "Z" (.int 1)) (sgH : Sta Z h0 "java/lang/StringUTF16" "HI_BYTE_SHIFT" "I" (.int 0)) (sgL : Sta Z h0 "java/lang/StringUTF16" "LO_BYTE_SHIFT" "I" (.int 8)) :
  Met l Z mN18 jdk_52_method_16_code 6 (some (.array .byte)) ({ frames := 3, cells := 2, slots := 3, locals := 40 } : Room) ws #[(.ref x), (.int 0), (.int 1)] h0 (Q_rs_c3_1_0 Z x kx c0 h0 n0) := by
 refine own_met (plainFor_of_name own_pn3) ?_
 intro p e s m below meth c s₁ hret hx hby hlk hml hown hnm X0 e0 hZ hh
 have N0 := Fr.nil n0
 refine Gz (castTop (own_ef_rs_c3_1_0 m x)) ?_
 have KP : Keep h0 h0 [] := Keep.refl _ _
 show GG (fT s₁ m 0 #[vr x, vi 0, vi 1, vu, vu, vu] [])
 refine gN X0 hx hby d18_0 rfl rfl ?_
 obtain ⟨T1, h1, k1, X1, e1, E1, A1, st1⟩ := newP X0 hx hZ (gw hw 22 rfl) e0 (g := (mkF m 1 #[vr x, vi 0, vi 1, vu, vu, vu] [(.int 1)])) rfl (hb hby d18_1) rfl (by decide) (cap := 1) (by decide) (by decide) (by decide) (by decide)
 obtain ⟨b1, gq1⟩ : ∃ z, z = h0.size := ⟨_, rfl⟩
 rw [← gq1] at A1 st1
 have g_b1 : n0 ≤ b1 := by rw [gq1]; exact Z0
 have sz_b1 : h0.size ≤ b1 := by rw [gq1]; exact KP.1
 have ne_x_b1 : x ≠ b1 := by rw [gq1]; exact Nat.ne_of_lt V_x.lt
 replace V_x := V_x.ext E1
 replace sgA := sgA.ext E1
 replace sgH := sgH.ext E1
 replace sgL := sgL.ext E1
 replace KP := KP.ext E1
 replace Z0 : n0 ≤ h1.size := Nat.le_trans Z0 E1.1
 have V_b1 : Arv Z h1 b1 k1 .byte 1 [(.int 0)] (.int 0) := (Arv.new A1 (by decide)).pad (pad_rep [] (.int 0) 1)
 refine Gs st1 ?_
 show GG (fT T1 m 3 #[vr x, vi 0, vi 1, vu, vu, vu] [(.ref b1)])
 refine Gz (XS.astoreN X1.here hx rfl (hb hby d18_3) rfl rfl (l' := #[vr x, vi 0, vi 1, vr b1, vu, vu]) rfl) ?_
 refine gA X1 hx hby d18_4 rfl rfl rfl ?_
 refine gN X1 hx hby d18_5 rfl rfl ?_
 refine gA X1 hx hby d18_6 rfl rfl rfl ?_
 refine gC X1 hx hby d18_7 ?_
 refine gN X1 hx hby d18_8 rfl rfl ?_
 show GG (fT T1 m 9 #[vr x, vi 0, vi 1, vr b1, vu, vu] [(.int 1), (.int 0), (.ref b1), (.int 0), (.ref x)])
 refine cSg X1 hx hZ hw hown hby hml e1 mN17 171 172 173 169 0 (rs_c5_1_0 l Z a0 hw [] x kx b1 k1 c0 h1 n0 Z0 V_x V_b1 g_b1 ne_x_b1 hn_c0) d18_9 (lenOf own_pd11 rfl) (fun _ T2 L2 X2 hQ2 => ?_)
 obtain ⟨rfl, N2q, K2, V_b1_2'⟩ := hQ2
 have N2 := Fr.app N0 N2q
 replace sgA := own_staK sgA K2 (allS (own_obA V_b1) all0)
 replace sgH := own_staK sgH K2 (allS (own_obA V_b1) all0)
 replace sgL := own_staK sgL K2 (allS (own_obA V_b1) all0)
 replace V_x := V_x.keep K2 (ninS ne_x_b1 nin0)
 replace KP := KP.trans K2 (allS (Or.inr sz_b1) all0)
 replace Z0 := Nat.le_trans Z0 K2.1
 have V_b1 := V_b1_2'
 show GG (fT T2 m 12 #[vr x, vi 0, vi 1, vr b1, vu, vu] [(.int 0)])
 refine gS X2 hx hby d18_12 #[vr x, vi 0, vi 1, vr b1, vi 0, vu] ?_
 refine gI X2 hx hby d18_14 rfl rfl ?_
 refine gN X2 hx hby d18_16 rfl rfl ?_
 refine gU X2 hx hby d18_17 (feq (by decide : ¬ ((0 : Int32) = (1 : Int32)))).1 ?_
 refine gA X2 hx hby d18_20 rfl rfl rfl ?_
 refine gN X2 hx hby d18_21 rfl rfl ?_
 show GG (fT T2 m 22 #[vr x, vi 0, vi 1, vr b1, vi 0, vu] [(.int 0), (.ref x)])
 refine gN X2 hx hby d18_22 rfl rfl ?_
 have ltc3_x : x < T2.heap.size := V_x.lt
 have ltc3_b1 : b1 < T2.heap.size := V_b1.lt
 have szs3 : h0.size ≤ T2.heap.size := KP.1
 refine cSg X2 hx hZ hw hown hby hml rfl mN16 275 276 277 169 0 (rs_tb_1 l Z a0 hw [] x kx c0 T2.heap n0 Z0 V_x sgA sgH sgL) d18_23 (lenOf own_pd12 rfl) (fun _ T3 L3 X3 hQ3 => ?_)
 obtain ⟨y3, ky3, rfl, N3q, K3, V_y3_3', g_y3_3', sz_y3_3'⟩ := hQ3
 have N3 := Fr.app N2 N3q
 replace sgA := own_staK sgA K3 all0
 replace sgH := own_staK sgH K3 all0
 replace sgL := own_staK sgL K3 all0
 replace KP := KP.trans K3 all0
 replace Z0 := Nat.le_trans Z0 K3.1
 have V_y3 := V_y3_3'
 have g_y3 := g_y3_3'
 have szc_y3 := sz_y3_3'
 have ne_x_y3 : x ≠ y3 := Nat.ne_of_lt (Nat.lt_of_lt_of_le ltc3_x szc_y3)
 have ne_b1_y3 : b1 ≠ y3 := Nat.ne_of_lt (Nat.lt_of_lt_of_le ltc3_b1 szc_y3)
 have sz_y3 : h0.size ≤ y3 := Nat.le_trans szs3 szc_y3
 show GG (fT T3 m 26 #[vr x, vi 0, vi 1, vr b1, vi 0, vu] [(.ref y3)])
 refine Gz (XS.astore X3.here hx rfl (hb hby d18_26) rfl rfl (l' := #[vr x, vi 0, vi 1, vr b1, vi 0, vr y3]) rfl) ?_
 refine Gz (XS.aload X3.here hx rfl (hb hby d18_28) rfl rfl) ?_
 refine gI X3 hx hby d18_30 rfl rfl ?_
 refine cS X3 hx hZ hw hown hby hml rfl mN8 239 240 241 169 0 (rs_gch l Z a0 hw [] y3 ky3 [c0] (0 : Int32) c0 T3.heap n0 Z0 V_y3 (by first | assumption | decide) (own_il 0 _ (by decide) (by simp) (Nat.le_of_ble_eq_true rfl)) rfl (Nat.le_of_ble_eq_true rfl) hC_c0 sgA sgH sgL) d18_32 (lenOf own_pd5 rfl) N3 (fun T4 L4 X4 e4 N4 => ?_)
 show GG (fT T4 m 35 #[vr x, vi 0, vi 1, vr b1, vi 0, vr y3] [(.int c0)])
 refine Gz (XS.sipush X4.here hx rfl (hb hby d18_35)) ?_
 refine gY X4 hx hby d18_38 38 54 (tlt hn_c0).2.2.1 ?_
 refine Gz (XS.aload X4.here hx rfl (hb hby d18_54) rfl rfl) ?_
 refine Goes.ret X4 (some (.ref y3)) (fun h => by rw [hret] at h; cases h) hlk (by decide) (by decide) ?_ (fun fs hr => ?_)
 ·rw [e4]; exact ⟨y3, ky3, rfl, N4, KP, V_y3, g_y3, sz_y3⟩
 ·exact own_retA X4 hx hret rfl rfl (hb hby d18_56) hr
theorem d17_26 : DK kc23 26 (.aload_n 2) 1 := by decide +kernel
theorem d17_27 : DK kc23 27 (.iload_n 3) 1 := by decide +kernel
theorem d17_28 : DK kc23 28 (.iload 6) 2 := by decide +kernel
theorem d17_30 : DK kc23 30 .i2b 1 := by decide +kernel
theorem d17_31 : DK kc23 31 .bastore 1 := by decide +kernel
theorem d17_32 : DK kc23 32 (.iinc 1 1) 3 := by decide +kernel
theorem d17_35 : DK kc23 35 (.iinc 3 1) 3 := by decide +kernel
theorem d17_38 : DK kc23 38 (.iinc 5 1) 3 := by decide +kernel
theorem d17_41 : DK kc23 41 (.goto (-38)) 3 := by decide +kernel
theorem d17_44 : DK kc23 44 (.iload 4) 2 := by decide +kernel
theorem d17_46 : DK kc23 46 .ireturn 1 := by decide +kernel
theorem own_ef_rs_c5_1_1 (m : MethodId) (x0 : Addr) (x2 : Addr) : entryFrame m #[(.ref x0), (.int 0), (.ref x2), (.int 0), (.int 1)] 7 = mkF m 0 #[vr x0, vi 0, vr x2, vi 0, vi 1, vu, vu] [] := by first | (simp [entryFrame, mkF, argsToLocals, Value.category]; done) | rfl
def Q_rs_c5_1_1 (Z : State) (x : Addr) (kx : ClassId) (y : Addr) (ky : ClassId) (c0 : Int32) (h0 : Heap) (n0 : Nat) (v : Option Value) (h : Heap) (L : List Loc) : Prop := v = some (.int 1) ∧ Fr n0 L ∧ Keep h0 h [y] ∧ Arv Z h y ky .byte 1 [(.int (lo8 c0))] (.int 0)
theorem rs_c5_1_1 (l : Launch) (Z : State) (a0 : Array Value) (hw : HW a0 Z) (ws : List Jvm.Cond) (x : Addr) (kx : ClassId) (y : Addr) (ky : ClassId) (c0 : Int32) (h0 : Heap) (n0 : Nat) (Z0 : n0 ≤ h0.size) (V_x : Arv Z h0 x kx .char 1 [(.int c0)] (.int 0)) (V_y : Arv Z h0 y ky .byte 1 [(.int 0)] (.int 0)) (g_y : n0 ≤ y) (ne_x_y : x ≠ y) (hn_c0 : ¬ ((255 : Int32) < c0)) :
  Met l Z mN17 jdk_52_method_21_code 7 (some .int) ({ frames := 0, cells := 0, slots := 0, locals := 0 } : Room) ws #[(.ref x), (.int 0), (.ref y), (.int 0), (.int 1)] h0 (Q_rs_c5_1_1 Z x kx y ky c0 h0 n0) := by
 refine own_met (plainFor_of_name own_pn3) ?_
 intro p e s m below meth c s₁ hret hx hby hlk hml hown hnm X0 e0 hZ hh
 have N0 := Fr.nil n0
 refine Gz (castTop (own_ef_rs_c5_1_1 m x y)) ?_
 have KP : Keep h0 h0 [y] := Keep.refl _ _
 show GG (fT s₁ m 0 #[vr x, vi 0, vr y, vi 0, vi 1, vu, vu] [])
 refine gC X0 hx hby d17_0 ?_
 refine gS X0 hx hby d17_1 #[vr x, vi 0, vr y, vi 0, vi 1, vi 0, vu] ?_
 refine gI X0 hx hby d17_3 rfl rfl ?_
 refine gI X0 hx hby d17_5 rfl rfl ?_
 refine gU X0 hx hby d17_7 (tlt (by decide : ((0 : Int32) < (1 : Int32)))).2.1 ?_
 refine gA X0 hx hby d17_10 rfl rfl rfl ?_
 show GG (fT s₁ m 11 #[vr x, vi 0, vr y, vi 0, vi 1, vi 0, vu] [(.ref x)])
 refine gN X0 hx hby d17_11 rfl rfl ?_
 obtain ⟨cl1, Ar1, -, S1, N1z, H1, -⟩ := id V_x
 have hin1 : ¬ ((0 : Int32) < 0 ∨ cl1.slots.size ≤ ((0 : Int32)).toNatClampNeg) := inb_of S1 ⟨by decide, by decide⟩
 have hat1 : cl1.slots[((0 : Int32)).toNatClampNeg]? = some (.int c0) := Has.at H1 hin1 rfl
 refine Gs (fun _ tk => X0.caload hx (j := (0 : Int32)) (v := (.int c0)) (by rw [e0]; exact Ar1.1) (State.isArrayOf_alike hZ.alike Ar1.2.1) Ar1.2.2 hin1 hat1 (g := (mkF m 12 #[vr x, vi 0, vr y, vi 0, vi 1, vi 0, vu] [(.int 0), (.ref x)])) rfl rfl (hb hby d17_12) _ tk) ?_
 show GG (fT s₁ m 13 #[vr x, vi 0, vr y, vi 0, vi 1, vi 0, vu] [(.int c0)])
 refine gS X0 hx hby d17_13 #[vr x, vi 0, vr y, vi 0, vi 1, vi 0, vi c0] ?_
 refine gI X0 hx hby d17_15 rfl rfl ?_
 refine Gz (XS.sipush X0.here hx rfl (hb hby d17_17)) ?_
 refine gY X0 hx hby d17_20 20 26 (flt hn_c0).2.2.2 ?_
 refine gA X0 hx hby d17_26 rfl rfl rfl ?_
 refine gN X0 hx hby d17_27 rfl rfl ?_
 show GG (fT s₁ m 28 #[vr x, vi 0, vr y, vi 0, vi 1, vi 0, vi c0] [(.int 0), (.ref y)])
 refine gI X0 hx hby d17_28 rfl rfl ?_
 show GG (fT s₁ m 30 #[vr x, vi 0, vr y, vi 0, vi 1, vi 0, vi c0] [(.int c0), (.int 0), (.ref y)])
 refine Gz (XS.i2b X0.here hx rfl (hb hby d17_30) rfl) ?_
 show GG (fT s₁ m 31 #[vr x, vi 0, vr y, vi 0, vi 1, vi 0, vi c0] [(.int (c0.toInt8.toInt32)), (.int 0), (.ref y)])
 obtain ⟨cl2, Ar2, q2, S2, N2z, H2, G2⟩ := V_y
 have hin2 : ¬ ((0 : Int32) < 0 ∨ cl2.slots.size ≤ ((0 : Int32)).toNatClampNeg) := inb_of S2 ⟨by decide, by decide⟩
 obtain ⟨T2, h2, X2, e2, W2, st2⟩ := stB X0 hx hZ e0 Ar2 (j := (0 : Int32)) hin2 (g := (mkF m 31 #[vr x, vi 0, vr y, vi 0, vi 1, vi 0, vi c0] [(.int (c0.toInt8.toInt32)), (.int 0), (.ref y)])) rfl rfl (hb hby d17_31)
 have Vn2 := Arv.set Ar2 q2 S2 N2z H2 G2 (fits_nar_byte _) W2 0 rfl (Nat.le_of_ble_eq_true rfl)
 have N2 := Fr.snoc X2 N0 g_y
 replace KP := KP.wr W2 (Or.inl (List.mem_of_getElem? (i := 0) rfl))
 have V_y : Arv Z h2 y ky .byte 1 [(.int (lo8 c0))] (.int 0) := by have q := Vn2; rw [own_nb2] at q; exact q
 replace Z0 : n0 ≤ h2.size := by rw [W2.size]; exact Z0
 refine Gs st2 ?_
 show GG (fT T2 m 32 #[vr x, vi 0, vr y, vi 0, vi 1, vi 0, vi c0] [])
 refine Gz (XS.iinc X2.here hx rfl (hb hby d17_32) rfl (l' := #[vr x, vi ((0 : Int32) + (1 : Int32)), vr y, vi 0, vi 1, vi 0, vi c0]) rfl) ?_
 show GG (fT T2 m 35 #[vr x, vi 1, vr y, vi 0, vi 1, vi 0, vi c0] [])
 refine Gz (XS.iinc X2.here hx rfl (hb hby d17_35) rfl (l' := #[vr x, vi 1, vr y, vi ((0 : Int32) + (1 : Int32)), vi 1, vi 0, vi c0]) rfl) ?_
 show GG (fT T2 m 38 #[vr x, vi 1, vr y, vi 1, vi 1, vi 0, vi c0] [])
 refine Gz (XS.iinc X2.here hx rfl (hb hby d17_38) rfl (l' := #[vr x, vi 1, vr y, vi 1, vi 1, vi ((0 : Int32) + (1 : Int32)), vi c0]) rfl) ?_
 show GG (fT T2 m 41 #[vr x, vi 1, vr y, vi 1, vi 1, vi 1, vi c0] [])
 refine gG X2 hx hby d17_41 41 3 ?_
 refine gI X2 hx hby d17_3 rfl rfl ?_
 refine gI X2 hx hby d17_5 rfl rfl ?_
 refine gY X2 hx hby d17_7 7 44 (flt (by decide : ¬ ((1 : Int32) < (1 : Int32)))).2.1 ?_
 refine gI X2 hx hby d17_44 rfl rfl ?_
 refine Goes.ret X2 (some (.int 1)) (fun h => by rw [hret] at h; cases h) hlk (by decide) (by decide) ?_ (fun fs hr => ?_)
 ·rw [e2]; exact ⟨rfl, N2, KP, V_y⟩
 ·exact retI X2 hx hret (hb hby d17_46) hr
theorem d18_57 : DK kc22 57 (.aload_n 3) 1 := by decide +kernel
theorem d18_58 : DK kc22 58 .areturn 1 := by decide +kernel
theorem own_ef_rs_c3_1_1 (m : MethodId) (x0 : Addr) : entryFrame m #[(.ref x0), (.int 0), (.int 1)] 6 = mkF m 0 #[vr x0, vi 0, vi 1, vu, vu, vu] [] := by first | (simp [entryFrame, mkF, argsToLocals, Value.category]; done) | rfl
def Q_rs_c3_1_1 (Z : State) (x : Addr) (kx : ClassId) (c0 : Int32) (h0 : Heap) (n0 : Nat) (v : Option Value) (h : Heap) (L : List Loc) : Prop := ∃ y : Addr, ∃ ky : ClassId, v = some (.ref y) ∧ Fr n0 L ∧ Keep h0 h [] ∧ Arv Z h y ky .byte 1 [(.int (lo8 c0))] (.int 0) ∧ n0 ≤ y ∧ h0.size ≤ y
theorem rs_c3_1_1 (l : Launch) (Z : State) (a0 : Array Value) (hw : HW a0 Z) (ws : List Jvm.Cond) (x : Addr) (kx : ClassId) (c0 : Int32) (h0 : Heap) (n0 : Nat) (Z0 : n0 ≤ h0.size) (V_x : Arv Z h0 x kx .char 1 [(.int c0)] (.int 0)) (hn_c0 : ¬ ((255 : Int32) < c0)) :
  Met l Z mN18 jdk_52_method_16_code 6 (some (.array .byte)) ({ frames := 1, cells := 1, slots := 1, locals := 18 } : Room) ws #[(.ref x), (.int 0), (.int 1)] h0 (Q_rs_c3_1_1 Z x kx c0 h0 n0) := by
 refine own_met (plainFor_of_name own_pn3) ?_
 intro p e s m below meth c s₁ hret hx hby hlk hml hown hnm X0 e0 hZ hh
 have N0 := Fr.nil n0
 refine Gz (castTop (own_ef_rs_c3_1_1 m x)) ?_
 have KP : Keep h0 h0 [] := Keep.refl _ _
 show GG (fT s₁ m 0 #[vr x, vi 0, vi 1, vu, vu, vu] [])
 refine gN X0 hx hby d18_0 rfl rfl ?_
 obtain ⟨T1, h1, k1, X1, e1, E1, A1, st1⟩ := newP X0 hx hZ (gw hw 22 rfl) e0 (g := (mkF m 1 #[vr x, vi 0, vi 1, vu, vu, vu] [(.int 1)])) rfl (hb hby d18_1) rfl (by decide) (cap := 1) (by decide) (by decide) (by decide) (by decide)
 obtain ⟨b1, gq1⟩ : ∃ z, z = h0.size := ⟨_, rfl⟩
 rw [← gq1] at A1 st1
 have g_b1 : n0 ≤ b1 := by rw [gq1]; exact Z0
 have sz_b1 : h0.size ≤ b1 := by rw [gq1]; exact KP.1
 have ne_x_b1 : x ≠ b1 := by rw [gq1]; exact Nat.ne_of_lt V_x.lt
 replace V_x := V_x.ext E1
 replace KP := KP.ext E1
 replace Z0 : n0 ≤ h1.size := Nat.le_trans Z0 E1.1
 have V_b1 : Arv Z h1 b1 k1 .byte 1 [(.int 0)] (.int 0) := (Arv.new A1 (by decide)).pad (pad_rep [] (.int 0) 1)
 refine Gs st1 ?_
 show GG (fT T1 m 3 #[vr x, vi 0, vi 1, vu, vu, vu] [(.ref b1)])
 refine Gz (XS.astoreN X1.here hx rfl (hb hby d18_3) rfl rfl (l' := #[vr x, vi 0, vi 1, vr b1, vu, vu]) rfl) ?_
 refine gA X1 hx hby d18_4 rfl rfl rfl ?_
 refine gN X1 hx hby d18_5 rfl rfl ?_
 refine gA X1 hx hby d18_6 rfl rfl rfl ?_
 refine gC X1 hx hby d18_7 ?_
 refine gN X1 hx hby d18_8 rfl rfl ?_
 show GG (fT T1 m 9 #[vr x, vi 0, vi 1, vr b1, vu, vu] [(.int 1), (.int 0), (.ref b1), (.int 0), (.ref x)])
 refine cSg X1 hx hZ hw hown hby hml e1 mN17 171 172 173 169 0 (rs_c5_1_1 l Z a0 hw [] x kx b1 k1 c0 h1 n0 Z0 V_x V_b1 g_b1 ne_x_b1 hn_c0) d18_9 (lenOf own_pd11 rfl) (fun _ T2 L2 X2 hQ2 => ?_)
 obtain ⟨rfl, N2q, K2, V_b1_2'⟩ := hQ2
 have N2 := Fr.app N0 N2q
 replace KP := KP.trans K2 (allS (Or.inr sz_b1) all0)
 replace Z0 := Nat.le_trans Z0 K2.1
 have V_b1 := V_b1_2'
 show GG (fT T2 m 12 #[vr x, vi 0, vi 1, vr b1, vu, vu] [(.int 1)])
 refine gS X2 hx hby d18_12 #[vr x, vi 0, vi 1, vr b1, vi 1, vu] ?_
 refine gI X2 hx hby d18_14 rfl rfl ?_
 refine gN X2 hx hby d18_16 rfl rfl ?_
 refine gY X2 hx hby d18_17 17 57 (teq (by decide : ((1 : Int32) = (1 : Int32)))).1 ?_
 refine gA X2 hx hby d18_57 rfl rfl rfl ?_
 refine Goes.ret X2 (some (.ref b1)) (fun h => by rw [hret] at h; cases h) hlk (by decide) (by decide) ?_ (fun fs hr => ?_)
 ·exact ⟨b1, k1, rfl, N2, KP, V_b1, g_b1, sz_b1⟩
 ·exact own_retA X2 hx hret rfl rfl (hb hby d18_58) hr
theorem d19_0 : DK kc21 0 (.iload_n 1) 1 := by decide +kernel
theorem d19_1 : DK kc21 1 (.aload_n 0) 1 := by decide +kernel
theorem d19_2 : DK kc21 2 .arraylength 1 := by decide +kernel
theorem d19_3 : DK kc21 3 .isub 1 := by decide +kernel
theorem d19_4 : DK kc21 4 (.bipush 31) 2 := by decide +kernel
theorem d19_6 : DK kc21 6 .iushr 1 := by decide +kernel
theorem d19_7 : DK kc21 7 .i2b 1 := by decide +kernel
theorem d19_8 : DK kc21 8 .ireturn 1 := by decide +kernel
theorem own_ef_rs_cf_1_1 (m : MethodId) (x0 : Addr) : entryFrame m #[(.ref x0), (.int 1)] 2 = mkF m 0 #[vr x0, vi 1] [] := by first | (simp [entryFrame, mkF, argsToLocals, Value.category]; done) | rfl
def Q_rs_cf_1_1 (Z : State) (y : Addr) (ky : ClassId) (vs : List Value) (h0 : Heap) (n0 : Nat) (v : Option Value) (h : Heap) (L : List Loc) : Prop := v = some (.int 0) ∧ Fr n0 L ∧ h = h0
theorem rs_cf_1_1 (l : Launch) (Z : State) (a0 : Array Value) (hw : HW a0 Z) (ws : List Jvm.Cond) (y : Addr) (ky : ClassId) (vs : List Value) (h0 : Heap) (n0 : Nat) (Z0 : n0 ≤ h0.size) (V_y : Arv Z h0 y ky .byte 1 vs (.int 0)) :
  Met l Z mN19 jdk_52_method_15_code 2 (some .byte) ({ frames := 0, cells := 0, slots := 0, locals := 0 } : Room) ws #[(.ref y), (.int 1)] h0 (Q_rs_cf_1_1 Z y ky vs h0 n0) := by
 refine own_met (plainFor_of_name own_pn3) ?_
 intro p e s m below meth c s₁ hret hx hby hlk hml hown hnm X0 e0 hZ hh
 have N0 := Fr.nil n0
 refine Gz (castTop (own_ef_rs_cf_1_1 m y)) ?_
 show GG (fT s₁ m 0 #[vr y, vi 1] [])
 refine gN X0 hx hby d19_0 rfl rfl ?_
 refine gA X0 hx hby d19_1 rfl rfl rfl ?_
 obtain ⟨cl1, Ar1, -, S1, N1z, -, -⟩ := id V_y
 refine Gs (fun _ tk => X0.arraylength hx (by rw [e0]; exact Ar1.1) (State.isArrayOf_alike hZ.alike Ar1.2.1) (g := (mkF m 2 #[vr y, vi 1] [(.ref y), (.int 1)])) rfl rfl (hb hby d19_2) _ tk) ?_
 rw [len_of S1 N1z]
 show GG (fT s₁ m 3 #[vr y, vi 1] [(.int 1), (.int 1)])
 refine Gz (XS.isub X0.here hx rfl (hb hby d19_3) rfl) ?_
 show GG (fT s₁ m 4 #[vr y, vi 1] [(.int 0)])
 refine gB X0 hx hby d19_4 ?_
 show GG (fT s₁ m 6 #[vr y, vi 1] [(.int 31), (.int 0)])
 refine Gz (XS.iushr X0.here hx rfl (hb hby d19_6) rfl) ?_
 rw [show (((0 : Int32).toUInt32 >>> ((31 : Int32) &&& 31).toUInt32).toInt32) = (0 : Int32) from by decide]
 show GG (fT s₁ m 7 #[vr y, vi 1] [(.int 0)])
 refine Gz (XS.i2b X0.here hx rfl (hb hby d19_7) rfl) ?_
 rw [show ((0 : Int32).toInt8.toInt32) = (0 : Int32) from by decide]
 show GG (fT s₁ m 8 #[vr y, vi 1] [(.int 0)])
 refine Goes.ret X0 (some (.int 0)) (fun h => by rw [hret] at h; cases h) hlk (by decide) (by decide) ?_ (fun fs hr => ?_)
 ·exact ⟨rfl, N0, e0⟩
 ·exact own_retN X0 hx (t := .byte) hret (by simp) rfl (hb hby d19_8) hr
theorem own_ef_rs_cf_1_2 (m : MethodId) (x0 : Addr) : entryFrame m #[(.ref x0), (.int 1)] 2 = mkF m 0 #[vr x0, vi 1] [] := by first | (simp [entryFrame, mkF, argsToLocals, Value.category]; done) | rfl
def Q_rs_cf_1_2 (Z : State) (y : Addr) (ky : ClassId) (vs : List Value) (h0 : Heap) (n0 : Nat) (v : Option Value) (h : Heap) (L : List Loc) : Prop := v = some (.int 1) ∧ Fr n0 L ∧ h = h0
theorem rs_cf_1_2 (l : Launch) (Z : State) (a0 : Array Value) (hw : HW a0 Z) (ws : List Jvm.Cond) (y : Addr) (ky : ClassId) (vs : List Value) (h0 : Heap) (n0 : Nat) (Z0 : n0 ≤ h0.size) (V_y : Arv Z h0 y ky .byte 2 vs (.int 0)) :
  Met l Z mN19 jdk_52_method_15_code 2 (some .byte) ({ frames := 0, cells := 0, slots := 0, locals := 0 } : Room) ws #[(.ref y), (.int 1)] h0 (Q_rs_cf_1_2 Z y ky vs h0 n0) := by
 refine own_met (plainFor_of_name own_pn3) ?_
 intro p e s m below meth c s₁ hret hx hby hlk hml hown hnm X0 e0 hZ hh
 have N0 := Fr.nil n0
 refine Gz (castTop (own_ef_rs_cf_1_2 m y)) ?_
 show GG (fT s₁ m 0 #[vr y, vi 1] [])
 refine gN X0 hx hby d19_0 rfl rfl ?_
 refine gA X0 hx hby d19_1 rfl rfl rfl ?_
 obtain ⟨cl1, Ar1, -, S1, N1z, -, -⟩ := id V_y
 refine Gs (fun _ tk => X0.arraylength hx (by rw [e0]; exact Ar1.1) (State.isArrayOf_alike hZ.alike Ar1.2.1) (g := (mkF m 2 #[vr y, vi 1] [(.ref y), (.int 1)])) rfl rfl (hb hby d19_2) _ tk) ?_
 rw [len_of S1 N1z]
 show GG (fT s₁ m 3 #[vr y, vi 1] [(.int 2), (.int 1)])
 refine Gz (XS.isub X0.here hx rfl (hb hby d19_3) rfl) ?_
 rw [show ((1 : Int32) - (2 : Int32)) = (-1 : Int32) from by decide]
 show GG (fT s₁ m 4 #[vr y, vi 1] [(.int (-1 : Int32))])
 refine gB X0 hx hby d19_4 ?_
 show GG (fT s₁ m 6 #[vr y, vi 1] [(.int 31), (.int (-1 : Int32))])
 refine Gz (XS.iushr X0.here hx rfl (hb hby d19_6) rfl) ?_
 rw [show (((-1 : Int32).toUInt32 >>> ((31 : Int32) &&& 31).toUInt32).toInt32) = (1 : Int32) from by decide]
 show GG (fT s₁ m 7 #[vr y, vi 1] [(.int 1)])
 refine Gz (XS.i2b X0.here hx rfl (hb hby d19_7) rfl) ?_
 rw [show ((1 : Int32).toInt8.toInt32) = (1 : Int32) from by decide]
 show GG (fT s₁ m 8 #[vr y, vi 1] [(.int 1)])
 refine Goes.ret X0 (some (.int 1)) (fun h => by rw [hret] at h; cases h) hlk (by decide) (by decide) ?_ (fun fs hr => ?_)
 ·exact ⟨rfl, N0, e0⟩
 ·exact own_retN X0 hx (t := .byte) hret (by simp) rfl (hb hby d19_8) hr
theorem d11_27 : DK kc5 27 (.getstatic 38) 3 := by decide +kernel
theorem d11_30 : DK kc5 30 (.ifCond .eq 28) 3 := by decide +kernel
theorem d11_33 : DK kc5 33 (.aload_n 1) 1 := by decide +kernel
theorem d11_34 : DK kc5 34 (.iload_n 2) 1 := by decide +kernel
theorem d11_35 : DK kc5 35 (.iload_n 3) 1 := by decide +kernel
theorem d11_36 : DK kc5 36 (.invokestatic 177) 3 := by decide +kernel
theorem d11_39 : DK kc5 39 (.astore 5) 2 := by decide +kernel
theorem d11_41 : DK kc5 41 (.aload_n 0) 1 := by decide +kernel
theorem d11_42 : DK kc5 42 (.aload 5) 2 := by decide +kernel
theorem d11_44 : DK kc5 44 (.iload_n 3) 1 := by decide +kernel
theorem d11_45 : DK kc5 45 (.invokestatic 47) 3 := by decide +kernel
theorem own_pd13 : parseMethodDescriptor "([BI)B" = some ⟨[(.array .byte), .int], some .byte⟩ := by decide +kernel
theorem d11_48 : DK kc5 48 (.putfield 15) 3 := by decide +kernel
theorem d11_51 : DK kc5 51 (.aload_n 0) 1 := by decide +kernel
theorem d11_52 : DK kc5 52 (.aload 5) 2 := by decide +kernel
theorem d11_54 : DK kc5 54 (.putfield 9) 3 := by decide +kernel
theorem d11_57 : DK kc5 57 .return_ 1 := by decide +kernel
theorem own_ef_rs_i4_1 (m : MethodId) (x0 : Addr) (x1 : Addr) : entryFrame m #[(.ref x0), (.ref x1), (.int 0), (.int 1), .null] 6 = mkF m 0 #[vr x0, vr x1, vi 0, vi 1, .val .null, vu] [] := by first | (simp [entryFrame, mkF, argsToLocals, Value.category]; done) | rfl
def Q_rs_i4_1 (Z : State) (a : Addr) (x : Addr) (kx : ClassId) (c0 : Int32) (cz : Int32) (h0 : Heap) (n0 : Nat) (v : Option Value) (h : Heap) (L : List Loc) : Prop := v = none ∧ Fr n0 L ∧ Keep h0 h [a] ∧ StrOf Z h a [c0]
theorem rs_i4_1 (l : Launch) (Z : State) (a0 : Array Value) (hw : HW a0 Z) (ws : List Jvm.Cond) (a : Addr) (x : Addr) (kx : ClassId) (c0 : Int32) (cz : Int32) (h0 : Heap) (n0 : Nat) (Z0 : n0 ≤ h0.size) (A_a : Exa Z h0 a "java/lang/String") (F_value_a : Fld Z h0 a "java/lang/String" "value" "[B" .null) (F_coder_a : Fld Z h0 a "java/lang/String" "coder" "B" (.int 0)) (V_x : Arv Z h0 x kx .char 1 [(.int c0)] (.int 0)) (g_a : n0 ≤ a) (ne_x_a : x ≠ a) (sgC : Sta Z h0 "java/lang/String" "COMPACT_STRINGS" "Z" (.int cz)) (hcz : ¬ (cz = 0)) (hC_c0 : Chr c0) (sgA : Sta Z h0 "java/lang/StringUTF16" "$assertionsDisabled" "Z" (.int 1)) (sgH : Sta Z h0 "java/lang/StringUTF16" "HI_BYTE_SHIFT" "I" (.int 0)) (sgL : Sta Z h0 "java/lang/StringUTF16" "LO_BYTE_SHIFT" "I" (.int 8)) :
  Met l Z mN11 jdk_42_method_149_code 6 none ({ frames := 4, cells := 2, slots := 3, locals := 57 } : Room) ws #[(.ref a), (.ref x), (.int 0), (.int 1), .null] h0 (Q_rs_i4_1 Z a x kx c0 cz h0 n0) := by
 refine own_met (plainFor_of_name own_pn0) ?_
 intro p e s m below meth c s₁ hret hx hby hlk hml hown hnm X0 e0 hZ hh
 have N0 := Fr.nil n0
 refine Gz (castTop (own_ef_rs_i4_1 m a x)) ?_
 have KP : Keep h0 h0 [a] := Keep.refl _ _
 show GG (fT s₁ m 0 #[vr a, vr x, vi 0, vi 1, .val .null, vu] [])
 by_cases hn_c0 : (255 : Int32) < c0
 ·show GG (fT s₁ m 0 #[vr a, vr x, vi 0, vi 1, .val .null, vu] [])
  refine gA X0 hx hby d11_0 rfl rfl rfl ?_
  obtain ⟨T1, X1, e1, st1⟩ := initO X0 hx hZ hown (gw hw 18 rfl) (gw hw 19 rfl) (gw hw 20 rfl) e0 (g := (mkF m 1 #[vr a, vr x, vi 0, vi 1, .val .null, vu] [(.ref a)])) rfl hml.symm rfl (hb hby d11_1) (by decide) (W := 0) (wz rfl) (by decide)
  refine Gs st1 ?_
  show GG (fT T1 m 4 #[vr a, vr x, vi 0, vi 1, .val .null, vu] [])
  refine gN X1 hx hby d11_4 rfl rfl ?_
  refine gy X1 hx hby d11_5 5 27 ((if0 _ _).trans (feq (by decide : ¬ ((1 : Int32) = (0 : Int32)))).2) ?_
  obtain ⟨T2, X2, e2, st2⟩ := getS2 X1 hx hZ hown (host := "") (Or.inl (gw hw 135 rfl)) Via.refl e1 sgC (g := (mkF m 27 #[vr a, vr x, vi 0, vi 1, .val .null, vu] [])) rfl (hb hby d11_27)
  refine Gs st2 ?_
  show GG (fT T2 m 30 #[vr a, vr x, vi 0, vi 1, .val .null, vu] [(.int cz)])
  refine gu X2 hx hby d11_30 ((if0 _ _).trans (feq hcz).1) ?_
  refine gA X2 hx hby d11_33 rfl rfl rfl ?_
  refine gN X2 hx hby d11_34 rfl rfl ?_
  refine gN X2 hx hby d11_35 rfl rfl ?_
  have ltc3_a : a < h0.size := A_a.lt
  have ltc3_x : x < h0.size := V_x.lt
  refine cSg X2 hx hZ hw hown hby hml e2 mN18 167 168 170 169 0 (rs_c3_1_0 l Z a0 hw [] x kx c0 h0 n0 Z0 V_x (by first | assumption | decide) hC_c0 sgA sgH sgL) d11_36 (lenOf own_pd12 rfl) (fun _ T3 L3 X3 hQ3 => ?_)
  obtain ⟨y3, ky3, rfl, N3q, K3, V_y3_3', g_y3_3', sz_y3_3'⟩ := hQ3
  have N3 := Fr.app N0 N3q
  replace sgC := own_staK sgC K3 all0
  replace A_a := A_a.keep K3
  replace F_value_a := F_value_a.keep K3 nin0
  replace F_coder_a := F_coder_a.keep K3 nin0
  replace V_x := V_x.keep K3 nin0
  replace KP := KP.trans K3 all0
  replace Z0 := Nat.le_trans Z0 K3.1
  have V_y3 := V_y3_3'
  have g_y3 := g_y3_3'
  have szc_y3 := sz_y3_3'
  have ne_a_y3 : a ≠ y3 := Nat.ne_of_lt (Nat.lt_of_lt_of_le ltc3_a szc_y3)
  have ne_x_y3 : x ≠ y3 := Nat.ne_of_lt (Nat.lt_of_lt_of_le ltc3_x szc_y3)
  show GG (fT T3 m 39 #[vr a, vr x, vi 0, vi 1, .val .null, vu] [(.ref y3)])
  refine Gz (XS.astore X3.here hx rfl (hb hby d11_39) rfl rfl (l' := #[vr a, vr x, vi 0, vi 1, .val .null, vr y3]) rfl) ?_
  refine gA X3 hx hby d11_41 rfl rfl rfl ?_
  refine Gz (XS.aload X3.here hx rfl (hb hby d11_42) rfl rfl) ?_
  refine gN X3 hx hby d11_44 rfl rfl ?_
  refine cS X3 hx hZ hw hown hby hml rfl mN19 174 175 176 169 1 (rs_cf_1_2 l Z a0 hw [] y3 ky3 [(.int (lo8 c0)), (.int (hi8 c0))] T3.heap n0 Z0 V_y3) d11_45 (lenOf own_pd13 rfl) N3 (fun T4 L4 X4 e4 N4 => ?_)
  show GG (fT T4 m 48 #[vr a, vr x, vi 0, vi 1, .val .null, vr y3] [(.int 1), (.ref a)])
  obtain ⟨T5, h5, X5, e5, W5, st5⟩ := putFN X4 hx hZ hown (gw hw 28 rfl) Via.refl e4 F_coder_a A_a (Or.inr ⟨(gw hw 24 rfl), rfl, hnm⟩) (gw hw 8 rfl) (ty := .byte) (v' := .int 1) (by decide) rfl rfl (g := (mkF m 48 #[vr a, vr x, vi 0, vi 1, .val .null, vr y3] [(.int 1), (.ref a)])) rfl rfl (hb hby d11_48)
  have N5 := Fr.snoc X5 N4 g_a
  replace A_a := A_a.wr W5
  replace F_value_a := F_value_a.other W5 (Or.inr (slot_ne (Or.inr (gw hw 23 rfl)) (Or.inr (gw hw 24 rfl)) (by decide) (t := (.array .byte)) (t' := .byte) (by decide) (by decide)))
  replace V_x := V_x.other W5 ne_x_a
  replace sgC := sgC.wr W5
  replace V_y3 := V_y3.other W5 (Ne.symm ne_a_y3)
  replace KP := KP.wr W5 (Or.inl (List.mem_of_getElem? (i := 0) rfl))
  replace F_coder_a := F_coder_a.same W5
  replace Z0 : n0 ≤ h5.size := by rw [W5.size]; exact Z0
  refine Gs st5 ?_
  show GG (fT T5 m 51 #[vr a, vr x, vi 0, vi 1, .val .null, vr y3] [])
  refine gA X5 hx hby d11_51 rfl rfl rfl ?_
  refine Gz (XS.aload X5.here hx rfl (hb hby d11_52) rfl rfl) ?_
  obtain ⟨T6, h6, X6, e6, W6, st6⟩ := putF X5 hx hZ hown (host := "") (Or.inl (gw hw 27 rfl)) Via.refl e5 F_value_a A_a (Or.inr ⟨(gw hw 23 rfl), rfl, hnm⟩) (gw hw 8 rfl) (ty := (.array .byte)) (by decide) rfl rfl (g := (mkF m 54 #[vr a, vr x, vi 0, vi 1, .val .null, vr y3] [(.ref y3), (.ref a)])) rfl rfl (hb hby d11_54)
  have N6 := Fr.snoc X6 N5 g_a
  replace A_a := A_a.wr W6
  replace F_coder_a := F_coder_a.other W6 (Or.inr (slot_ne (Or.inr (gw hw 24 rfl)) (Or.inr (gw hw 23 rfl)) (by decide) (t := .byte) (t' := (.array .byte)) (by decide) (by decide)))
  replace V_x := V_x.other W6 ne_x_a
  replace sgC := sgC.wr W6
  replace V_y3 := V_y3.other W6 (Ne.symm ne_a_y3)
  replace KP := KP.wr W6 (Or.inl (List.mem_of_getElem? (i := 0) rfl))
  replace F_value_a := F_value_a.same W6
  replace Z0 : n0 ≤ h6.size := by rw [W6.size]; exact Z0
  refine Gs st6 ?_
  show GG (fT T6 m 57 #[vr a, vr x, vi 0, vi 1, .val .null, vr y3] [])
  have T_a : StrOf Z h6 a [c0] := StrOf.utf A_a F_value_a F_coder_a V_y3 (by intro c hc; simp only [List.mem_cons, List.not_mem_nil, or_false] at hc; rcases hc with rfl <;> first | assumption | (exact own_toLat (by assumption) (by assumption))) rfl rfl (Nat.le_of_ble_eq_true rfl)
  refine Goes.ret X6 none (fun _ => rfl) hlk (by decide) (by decide) ?_ (fun fs hr => ?_)
  ·rw [e6]; exact ⟨rfl, N6, KP, T_a⟩
  ·exact X6.returnOut hx hret (hb hby d11_57) hr
 ·show GG (fT s₁ m 0 #[vr a, vr x, vi 0, vi 1, .val .null, vu] [])
  refine gA X0 hx hby d11_0 rfl rfl rfl ?_
  obtain ⟨T7, X7, e7, st7⟩ := initO X0 hx hZ hown (gw hw 18 rfl) (gw hw 19 rfl) (gw hw 20 rfl) e0 (g := (mkF m 1 #[vr a, vr x, vi 0, vi 1, .val .null, vu] [(.ref a)])) rfl hml.symm rfl (hb hby d11_1) (by decide) (W := 0) (wz rfl) (by decide)
  refine Gs st7 ?_
  show GG (fT T7 m 4 #[vr a, vr x, vi 0, vi 1, .val .null, vu] [])
  refine gN X7 hx hby d11_4 rfl rfl ?_
  refine gy X7 hx hby d11_5 5 27 ((if0 _ _).trans (feq (by decide : ¬ ((1 : Int32) = (0 : Int32)))).2) ?_
  obtain ⟨T8, X8, e8, st8⟩ := getS2 X7 hx hZ hown (host := "") (Or.inl (gw hw 135 rfl)) Via.refl e7 sgC (g := (mkF m 27 #[vr a, vr x, vi 0, vi 1, .val .null, vu] [])) rfl (hb hby d11_27)
  refine Gs st8 ?_
  show GG (fT T8 m 30 #[vr a, vr x, vi 0, vi 1, .val .null, vu] [(.int cz)])
  refine gu X8 hx hby d11_30 ((if0 _ _).trans (feq hcz).1) ?_
  refine gA X8 hx hby d11_33 rfl rfl rfl ?_
  refine gN X8 hx hby d11_34 rfl rfl ?_
  refine gN X8 hx hby d11_35 rfl rfl ?_
  have ltc9_a : a < h0.size := A_a.lt
  have ltc9_x : x < h0.size := V_x.lt
  refine cSg X8 hx hZ hw hown hby hml e8 mN18 167 168 170 169 0 (rs_c3_1_1 l Z a0 hw [] x kx c0 h0 n0 Z0 V_x (by first | assumption | decide)) d11_36 (lenOf own_pd12 rfl) (fun _ T9 L9 X9 hQ9 => ?_)
  obtain ⟨y9, ky9, rfl, N9q, K9, V_y9_9', g_y9_9', sz_y9_9'⟩ := hQ9
  have N9 := Fr.app N0 N9q
  replace A_a := A_a.keep K9
  replace F_value_a := F_value_a.keep K9 nin0
  replace F_coder_a := F_coder_a.keep K9 nin0
  replace KP := KP.trans K9 all0
  replace Z0 := Nat.le_trans Z0 K9.1
  have V_y9 := V_y9_9'
  have g_y9 := g_y9_9'
  have szc_y9 := sz_y9_9'
  have ne_a_y9 : a ≠ y9 := Nat.ne_of_lt (Nat.lt_of_lt_of_le ltc9_a szc_y9)
  have ne_x_y9 : x ≠ y9 := Nat.ne_of_lt (Nat.lt_of_lt_of_le ltc9_x szc_y9)
  show GG (fT T9 m 39 #[vr a, vr x, vi 0, vi 1, .val .null, vu] [(.ref y9)])
  refine Gz (XS.astore X9.here hx rfl (hb hby d11_39) rfl rfl (l' := #[vr a, vr x, vi 0, vi 1, .val .null, vr y9]) rfl) ?_
  refine gA X9 hx hby d11_41 rfl rfl rfl ?_
  refine Gz (XS.aload X9.here hx rfl (hb hby d11_42) rfl rfl) ?_
  refine gN X9 hx hby d11_44 rfl rfl ?_
  refine cS X9 hx hZ hw hown hby hml rfl mN19 174 175 176 169 1 (rs_cf_1_1 l Z a0 hw [] y9 ky9 [(.int (lo8 c0))] T9.heap n0 Z0 V_y9) d11_45 (lenOf own_pd13 rfl) N9 (fun T10 L10 X10 e10 N10 => ?_)
  show GG (fT T10 m 48 #[vr a, vr x, vi 0, vi 1, .val .null, vr y9] [(.int 0), (.ref a)])
  obtain ⟨T11, h11, X11, e11, W11, st11⟩ := putFN X10 hx hZ hown (gw hw 28 rfl) Via.refl e10 F_coder_a A_a (Or.inr ⟨(gw hw 24 rfl), rfl, hnm⟩) (gw hw 8 rfl) (ty := .byte) (v' := .int 0) (by decide) rfl rfl (g := (mkF m 48 #[vr a, vr x, vi 0, vi 1, .val .null, vr y9] [(.int 0), (.ref a)])) rfl rfl (hb hby d11_48)
  have N11 := Fr.snoc X11 N10 g_a
  replace A_a := A_a.wr W11
  replace F_value_a := F_value_a.other W11 (Or.inr (slot_ne (Or.inr (gw hw 23 rfl)) (Or.inr (gw hw 24 rfl)) (by decide) (t := (.array .byte)) (t' := .byte) (by decide) (by decide)))
  replace V_y9 := V_y9.other W11 (Ne.symm ne_a_y9)
  replace KP := KP.wr W11 (Or.inl (List.mem_of_getElem? (i := 0) rfl))
  replace F_coder_a := F_coder_a.same W11
  replace Z0 : n0 ≤ h11.size := by rw [W11.size]; exact Z0
  refine Gs st11 ?_
  show GG (fT T11 m 51 #[vr a, vr x, vi 0, vi 1, .val .null, vr y9] [])
  refine gA X11 hx hby d11_51 rfl rfl rfl ?_
  refine Gz (XS.aload X11.here hx rfl (hb hby d11_52) rfl rfl) ?_
  obtain ⟨T12, h12, X12, e12, W12, st12⟩ := putF X11 hx hZ hown (host := "") (Or.inl (gw hw 27 rfl)) Via.refl e11 F_value_a A_a (Or.inr ⟨(gw hw 23 rfl), rfl, hnm⟩) (gw hw 8 rfl) (ty := (.array .byte)) (by decide) rfl rfl (g := (mkF m 54 #[vr a, vr x, vi 0, vi 1, .val .null, vr y9] [(.ref y9), (.ref a)])) rfl rfl (hb hby d11_54)
  have N12 := Fr.snoc X12 N11 g_a
  replace A_a := A_a.wr W12
  replace F_coder_a := F_coder_a.other W12 (Or.inr (slot_ne (Or.inr (gw hw 24 rfl)) (Or.inr (gw hw 23 rfl)) (by decide) (t := .byte) (t' := (.array .byte)) (by decide) (by decide)))
  replace V_y9 := V_y9.other W12 (Ne.symm ne_a_y9)
  replace KP := KP.wr W12 (Or.inl (List.mem_of_getElem? (i := 0) rfl))
  replace F_value_a := F_value_a.same W12
  replace Z0 : n0 ≤ h12.size := by rw [W12.size]; exact Z0
  refine Gs st12 ?_
  show GG (fT T12 m 57 #[vr a, vr x, vi 0, vi 1, .val .null, vr y9] [])
  have T_a : StrOf Z h12 a [c0] := StrOf.latin A_a F_value_a F_coder_a V_y9 (by intro c hc; simp only [List.mem_cons, List.not_mem_nil, or_false] at hc; rcases hc with rfl <;> first | assumption | (exact own_toLat (by assumption) (by assumption))) rfl rfl (Nat.le_of_ble_eq_true rfl)
  refine Goes.ret X12 none (fun _ => rfl) hlk (by decide) (by decide) ?_ (fun fs hr => ?_)
  ·rw [e12]; exact ⟨rfl, N12, KP, T_a⟩
  ·exact X12.returnOut hx hret (hb hby d11_57) hr
theorem own_ef_rs_i1_1 (m : MethodId) (x0 : Addr) (x1 : Addr) : entryFrame m #[(.ref x0), (.ref x1)] 2 = mkF m 0 #[vr x0, vr x1] [] := by first | (simp [entryFrame, mkF, argsToLocals, Value.category]; done) | rfl
def Q_rs_i1_1 (Z : State) (a : Addr) (x : Addr) (kx : ClassId) (c0 : Int32) (cz : Int32) (h0 : Heap) (n0 : Nat) (v : Option Value) (h : Heap) (L : List Loc) : Prop := v = none ∧ Fr n0 L ∧ Keep h0 h [a] ∧ StrOf Z h a [c0]
theorem rs_i1_1 (l : Launch) (Z : State) (a0 : Array Value) (hw : HW a0 Z) (ws : List Jvm.Cond) (a : Addr) (x : Addr) (kx : ClassId) (c0 : Int32) (cz : Int32) (h0 : Heap) (n0 : Nat) (Z0 : n0 ≤ h0.size) (A_a : Exa Z h0 a "java/lang/String") (F_value_a : Fld Z h0 a "java/lang/String" "value" "[B" .null) (F_coder_a : Fld Z h0 a "java/lang/String" "coder" "B" (.int 0)) (V_x : Arv Z h0 x kx .char 1 [(.int c0)] (.int 0)) (g_a : n0 ≤ a) (ne_x_a : x ≠ a) (sgC : Sta Z h0 "java/lang/String" "COMPACT_STRINGS" "Z" (.int cz)) (hcz : ¬ (cz = 0)) (hC_c0 : Chr c0) (sgA : Sta Z h0 "java/lang/StringUTF16" "$assertionsDisabled" "Z" (.int 1)) (sgH : Sta Z h0 "java/lang/StringUTF16" "HI_BYTE_SHIFT" "I" (.int 0)) (sgL : Sta Z h0 "java/lang/StringUTF16" "LO_BYTE_SHIFT" "I" (.int 8)) :
  Met l Z mN12 jdk_42_method_3_code 2 none ({ frames := 5, cells := 2, slots := 3, locals := 74 } : Room) ws #[(.ref a), (.ref x)] h0 (Q_rs_i1_1 Z a x kx c0 cz h0 n0) := by
 refine own_met (plainFor_of_name own_pn0) ?_
 intro p e s m below meth c s₁ hret hx hby hlk hml hown hnm X0 e0 hZ hh
 have N0 := Fr.nil n0
 refine Gz (castTop (own_ef_rs_i1_1 m a x)) ?_
 have KP : Keep h0 h0 [a] := Keep.refl _ _
 show GG (fT s₁ m 0 #[vr a, vr x] [])
 refine gA X0 hx hby d12_0 rfl rfl rfl ?_
 refine gA X0 hx hby d12_1 rfl rfl rfl ?_
 refine gC X0 hx hby d12_2 ?_
 refine gA X0 hx hby d12_3 rfl rfl rfl ?_
 obtain ⟨cl1, Ar1, -, S1, N1z, -, -⟩ := id V_x
 refine Gs (fun _ tk => X0.arraylength hx (by rw [e0]; exact Ar1.1) (State.isArrayOf_alike hZ.alike Ar1.2.1) (g := (mkF m 4 #[vr a, vr x] [(.ref x), (.int 0), (.ref x), (.ref a)])) rfl rfl (hb hby d12_4) _ tk) ?_
 rw [len_of S1 N1z]
 show GG (fT s₁ m 5 #[vr a, vr x] [(.int 1), (.int 0), (.ref x), (.ref a)])
 refine Gz (XS.aconstNull X0.here hx rfl (hb hby d12_5)) ?_
 refine cIg X0 hx hZ hw hown hby hml e0 mN11 14 15 17 9 0 (rs_i4_1 l Z a0 hw [] a x kx c0 cz h0 n0 Z0 A_a F_value_a F_coder_a V_x g_a ne_x_a sgC hcz hC_c0 sgA sgH sgL) d12_6 (lenOf own_pd7 rfl) (fun _ T2 L2 X2 hQ2 => ?_)
 obtain ⟨rfl, N2q, K2, T_a_2'⟩ := hQ2
 have N2 := Fr.app N0 N2q
 replace KP := KP.trans K2 (allS (Or.inl (List.mem_of_getElem? (i := 0) rfl)) all0)
 replace Z0 := Nat.le_trans Z0 K2.1
 have T_a := T_a_2'
 show GG (fT T2 m 9 #[vr a, vr x] [])
 refine Goes.ret X2 none (fun _ => rfl) hlk (by decide) (by decide) ?_ (fun fs hr => ?_)
 ·exact ⟨rfl, N2, KP, T_a⟩
 ·exact X2.returnOut hx hret (hb hby d12_9) hr
theorem own_ef_rs_pc_2_0 (m : MethodId) (x0 : Addr) (x2 : Int32) : entryFrame m #[(.ref x0), (.int 0), (.int x2)] 3 = mkF m 0 #[vr x0, vi 0, vi x2] [] := by first | (simp [entryFrame, mkF, argsToLocals, Value.category]; done) | rfl
def Q_rs_pc_2_0 (Z : State) (y : Addr) (ky : ClassId) (c0 : Int32) (h0 : Heap) (n0 : Nat) (v : Option Value) (h : Heap) (L : List Loc) : Prop := v = none ∧ Fr n0 L ∧ Keep h0 h [y] ∧ Arv Z h y ky .byte 4 [(.int (lo8 c0)), (.int (hi8 c0)), (.int 0), (.int 0)] (.int 0)
theorem rs_pc_2_0 (l : Launch) (Z : State) (a0 : Array Value) (hw : HW a0 Z) (ws : List Jvm.Cond) (y : Addr) (ky : ClassId) (c0 : Int32) (h0 : Heap) (n0 : Nat) (Z0 : n0 ≤ h0.size) (V_y : Arv Z h0 y ky .byte 4 [(.int 0), (.int 0), (.int 0), (.int 0)] (.int 0)) (g_y : n0 ≤ y) (sgA : Sta Z h0 "java/lang/StringUTF16" "$assertionsDisabled" "Z" (.int 1)) (sgH : Sta Z h0 "java/lang/StringUTF16" "HI_BYTE_SHIFT" "I" (.int 0)) (sgL : Sta Z h0 "java/lang/StringUTF16" "LO_BYTE_SHIFT" "I" (.int 8)) :
  Met l Z mN13 jdk_52_method_4_code 3 none ({ frames := 0, cells := 0, slots := 0, locals := 0 } : Room) ws #[(.ref y), (.int 0), (.int c0)] h0 (Q_rs_pc_2_0 Z y ky c0 h0 n0) := by
 refine own_met (plainFor_of_name own_pn3) ?_
 intro p e s m below meth c s₁ hret hx hby hlk hml hown hnm X0 e0 hZ hh
 have N0 := Fr.nil n0
 refine Gz (castTop (own_ef_rs_pc_2_0 m y c0)) ?_
 have KP : Keep h0 h0 [y] := Keep.refl _ _
 show GG (fT s₁ m 0 #[vr y, vi 0, vi c0] [])
 obtain ⟨T1, X1, e1, st1⟩ := getS2 X0 hx hZ hown (host := "") (Or.inl (gw hw 226 rfl)) Via.refl e0 sgA (g := (mkF m 0 #[vr y, vi 0, vi c0] [])) rfl (hb hby d13_0)
 refine Gs st1 ?_
 show GG (fT T1 m 3 #[vr y, vi 0, vi c0] [(.int 1)])
 refine gy X1 hx hby d13_3 3 28 ((if0 _ _).trans (feq (by decide : ¬ ((1 : Int32) = (0 : Int32)))).2) ?_
 refine gN X1 hx hby d13_28 rfl rfl ?_
 refine gC X1 hx hby d13_29 ?_
 show GG (fT T1 m 30 #[vr y, vi 0, vi c0] [(.int 1), (.int 0)])
 refine Gz (XS.ishl X1.here hx rfl (hb hby d13_30) rfl) ?_
 show GG (fT T1 m 31 #[vr y, vi 0, vi c0] [(.int 0)])
 refine gs X1 hx hby d13_31 #[vr y, vi 0, vi c0] ?_
 refine gA X1 hx hby d13_32 rfl rfl rfl ?_
 refine gN X1 hx hby d13_33 rfl rfl ?_
 show GG (fT T1 m 34 #[vr y, vi 0, vi c0] [(.int 0), (.ref y)])
 refine Gz (XS.iinc X1.here hx rfl (hb hby d13_34) rfl (l' := #[vr y, vi ((0 : Int32) + (1 : Int32)), vi c0]) rfl) ?_
 show GG (fT T1 m 37 #[vr y, vi 1, vi c0] [(.int 0), (.ref y)])
 refine gN X1 hx hby d13_37 rfl rfl ?_
 obtain ⟨T2, X2, e2, st2⟩ := getS2 X1 hx hZ hown (host := "") (Or.inl (gw hw 227 rfl)) Via.refl e1 sgH (g := (mkF m 38 #[vr y, vi 1, vi c0] [(.int c0), (.int 0), (.ref y)])) rfl (hb hby d13_38)
 refine Gs st2 ?_
 show GG (fT T2 m 41 #[vr y, vi 1, vi c0] [(.int 0), (.int c0), (.int 0), (.ref y)])
 refine Gz (XS.ishr X2.here hx rfl (hb hby d13_41) rfl) ?_
 show GG (fT T2 m 42 #[vr y, vi 1, vi c0] [(.int (c0 >>> ((0 : Int32) &&& 31))), (.int 0), (.ref y)])
 rw [own_shr0]
 show GG (fT T2 m 42 #[vr y, vi 1, vi c0] [(.int c0), (.int 0), (.ref y)])
 refine Gz (XS.i2b X2.here hx rfl (hb hby d13_42) rfl) ?_
 show GG (fT T2 m 43 #[vr y, vi 1, vi c0] [(.int (c0.toInt8.toInt32)), (.int 0), (.ref y)])
 obtain ⟨cl3, Ar3, q3, S3, N3z, H3, G3⟩ := V_y
 have hin3 : ¬ ((0 : Int32) < 0 ∨ cl3.slots.size ≤ ((0 : Int32)).toNatClampNeg) := inb_of S3 ⟨by decide, by decide⟩
 obtain ⟨T3, h3, X3, e3, W3, st3⟩ := stB X2 hx hZ e2 Ar3 (j := (0 : Int32)) hin3 (g := (mkF m 43 #[vr y, vi 1, vi c0] [(.int (c0.toInt8.toInt32)), (.int 0), (.ref y)])) rfl rfl (hb hby d13_43)
 have Vn3 := Arv.set Ar3 q3 S3 N3z H3 G3 (fits_nar_byte _) W3 0 rfl (Nat.le_of_ble_eq_true rfl)
 have N3 := Fr.snoc X3 N0 g_y
 replace sgL := sgL.wr W3
 replace KP := KP.wr W3 (Or.inl (List.mem_of_getElem? (i := 0) rfl))
 have V_y : Arv Z h3 y ky .byte 4 [(.int (lo8 c0)), (.int 0), (.int 0), (.int 0)] (.int 0) := by have q := Vn3; rw [own_nb2] at q; exact q
 replace Z0 : n0 ≤ h3.size := by rw [W3.size]; exact Z0
 refine Gs st3 ?_
 show GG (fT T3 m 44 #[vr y, vi 1, vi c0] [])
 refine gA X3 hx hby d13_44 rfl rfl rfl ?_
 refine gN X3 hx hby d13_45 rfl rfl ?_
 refine gN X3 hx hby d13_46 rfl rfl ?_
 obtain ⟨T4, X4, e4, st4⟩ := getS2 X3 hx hZ hown (host := "") (Or.inl (gw hw 228 rfl)) Via.refl e3 sgL (g := (mkF m 47 #[vr y, vi 1, vi c0] [(.int c0), (.int 1), (.ref y)])) rfl (hb hby d13_47)
 refine Gs st4 ?_
 show GG (fT T4 m 50 #[vr y, vi 1, vi c0] [(.int 8), (.int c0), (.int 1), (.ref y)])
 refine Gz (XS.ishr X4.here hx rfl (hb hby d13_50) rfl) ?_
 show GG (fT T4 m 51 #[vr y, vi 1, vi c0] [(.int (c0 >>> ((8 : Int32) &&& 31))), (.int 1), (.ref y)])
 refine Gz (XS.i2b X4.here hx rfl (hb hby d13_51) rfl) ?_
 show GG (fT T4 m 52 #[vr y, vi 1, vi c0] [(.int ((c0 >>> ((8 : Int32) &&& 31)).toInt8.toInt32)), (.int 1), (.ref y)])
 obtain ⟨cl5, Ar5, q5, S5, N5z, H5, G5⟩ := V_y
 have hin5 : ¬ ((1 : Int32) < 0 ∨ cl5.slots.size ≤ ((1 : Int32)).toNatClampNeg) := inb_of S5 ⟨by decide, by decide⟩
 obtain ⟨T5, h5, X5, e5, W5, st5⟩ := stB X4 hx hZ e4 Ar5 (j := (1 : Int32)) hin5 (g := (mkF m 52 #[vr y, vi 1, vi c0] [(.int ((c0 >>> ((8 : Int32) &&& 31)).toInt8.toInt32)), (.int 1), (.ref y)])) rfl rfl (hb hby d13_52)
 have Vn5 := Arv.set Ar5 q5 S5 N5z H5 G5 (fits_nar_byte _) W5 1 rfl (Nat.le_of_ble_eq_true rfl)
 have N5 := Fr.snoc X5 N3 g_y
 replace KP := KP.wr W5 (Or.inl (List.mem_of_getElem? (i := 0) rfl))
 have V_y : Arv Z h5 y ky .byte 4 [(.int (lo8 c0)), (.int (hi8 c0)), (.int 0), (.int 0)] (.int 0) := by have q := Vn5; rw [own_nbh2] at q; exact q
 replace Z0 : n0 ≤ h5.size := by rw [W5.size]; exact Z0
 refine Gs st5 ?_
 show GG (fT T5 m 53 #[vr y, vi 1, vi c0] [])
 refine Goes.ret X5 none (fun _ => rfl) hlk (by decide) (by decide) ?_ (fun fs hr => ?_)
 ·rw [e5]; exact ⟨rfl, N5, KP, V_y⟩
 ·exact X5.returnOut hx hret (hb hby d13_53) hr
theorem own_ef_rs_pc_2_1 (m : MethodId) (x0 : Addr) (x2 : Int32) : entryFrame m #[(.ref x0), (.int 1), (.int x2)] 3 = mkF m 0 #[vr x0, vi 1, vi x2] [] := by first | (simp [entryFrame, mkF, argsToLocals, Value.category]; done) | rfl
def Q_rs_pc_2_1 (Z : State) (y : Addr) (ky : ClassId) (c0 : Int32) (c1 : Int32) (h0 : Heap) (n0 : Nat) (v : Option Value) (h : Heap) (L : List Loc) : Prop := v = none ∧ Fr n0 L ∧ Keep h0 h [y] ∧ Arv Z h y ky .byte 4 [(.int (lo8 c0)), (.int (hi8 c0)), (.int (lo8 c1)), (.int (hi8 c1))] (.int 0)
theorem rs_pc_2_1 (l : Launch) (Z : State) (a0 : Array Value) (hw : HW a0 Z) (ws : List Jvm.Cond) (y : Addr) (ky : ClassId) (c0 : Int32) (c1 : Int32) (h0 : Heap) (n0 : Nat) (Z0 : n0 ≤ h0.size) (V_y : Arv Z h0 y ky .byte 4 [(.int (lo8 c0)), (.int (hi8 c0)), (.int 0), (.int 0)] (.int 0)) (g_y : n0 ≤ y) (sgA : Sta Z h0 "java/lang/StringUTF16" "$assertionsDisabled" "Z" (.int 1)) (sgH : Sta Z h0 "java/lang/StringUTF16" "HI_BYTE_SHIFT" "I" (.int 0)) (sgL : Sta Z h0 "java/lang/StringUTF16" "LO_BYTE_SHIFT" "I" (.int 8)) :
  Met l Z mN13 jdk_52_method_4_code 3 none ({ frames := 0, cells := 0, slots := 0, locals := 0 } : Room) ws #[(.ref y), (.int 1), (.int c1)] h0 (Q_rs_pc_2_1 Z y ky c0 c1 h0 n0) := by
 refine own_met (plainFor_of_name own_pn3) ?_
 intro p e s m below meth c s₁ hret hx hby hlk hml hown hnm X0 e0 hZ hh
 have N0 := Fr.nil n0
 refine Gz (castTop (own_ef_rs_pc_2_1 m y c1)) ?_
 have KP : Keep h0 h0 [y] := Keep.refl _ _
 show GG (fT s₁ m 0 #[vr y, vi 1, vi c1] [])
 obtain ⟨T1, X1, e1, st1⟩ := getS2 X0 hx hZ hown (host := "") (Or.inl (gw hw 226 rfl)) Via.refl e0 sgA (g := (mkF m 0 #[vr y, vi 1, vi c1] [])) rfl (hb hby d13_0)
 refine Gs st1 ?_
 show GG (fT T1 m 3 #[vr y, vi 1, vi c1] [(.int 1)])
 refine gy X1 hx hby d13_3 3 28 ((if0 _ _).trans (feq (by decide : ¬ ((1 : Int32) = (0 : Int32)))).2) ?_
 refine gN X1 hx hby d13_28 rfl rfl ?_
 refine gC X1 hx hby d13_29 ?_
 show GG (fT T1 m 30 #[vr y, vi 1, vi c1] [(.int 1), (.int 1)])
 refine Gz (XS.ishl X1.here hx rfl (hb hby d13_30) rfl) ?_
 show GG (fT T1 m 31 #[vr y, vi 1, vi c1] [(.int 2)])
 refine gs X1 hx hby d13_31 #[vr y, vi 2, vi c1] ?_
 refine gA X1 hx hby d13_32 rfl rfl rfl ?_
 refine gN X1 hx hby d13_33 rfl rfl ?_
 show GG (fT T1 m 34 #[vr y, vi 2, vi c1] [(.int 2), (.ref y)])
 refine Gz (XS.iinc X1.here hx rfl (hb hby d13_34) rfl (l' := #[vr y, vi ((2 : Int32) + (1 : Int32)), vi c1]) rfl) ?_
 show GG (fT T1 m 37 #[vr y, vi 3, vi c1] [(.int 2), (.ref y)])
 refine gN X1 hx hby d13_37 rfl rfl ?_
 obtain ⟨T2, X2, e2, st2⟩ := getS2 X1 hx hZ hown (host := "") (Or.inl (gw hw 227 rfl)) Via.refl e1 sgH (g := (mkF m 38 #[vr y, vi 3, vi c1] [(.int c1), (.int 2), (.ref y)])) rfl (hb hby d13_38)
 refine Gs st2 ?_
 show GG (fT T2 m 41 #[vr y, vi 3, vi c1] [(.int 0), (.int c1), (.int 2), (.ref y)])
 refine Gz (XS.ishr X2.here hx rfl (hb hby d13_41) rfl) ?_
 show GG (fT T2 m 42 #[vr y, vi 3, vi c1] [(.int (c1 >>> ((0 : Int32) &&& 31))), (.int 2), (.ref y)])
 rw [own_shr0]
 show GG (fT T2 m 42 #[vr y, vi 3, vi c1] [(.int c1), (.int 2), (.ref y)])
 refine Gz (XS.i2b X2.here hx rfl (hb hby d13_42) rfl) ?_
 show GG (fT T2 m 43 #[vr y, vi 3, vi c1] [(.int (c1.toInt8.toInt32)), (.int 2), (.ref y)])
 obtain ⟨cl3, Ar3, q3, S3, N3z, H3, G3⟩ := V_y
 have hin3 : ¬ ((2 : Int32) < 0 ∨ cl3.slots.size ≤ ((2 : Int32)).toNatClampNeg) := inb_of S3 ⟨by decide, by decide⟩
 obtain ⟨T3, h3, X3, e3, W3, st3⟩ := stB X2 hx hZ e2 Ar3 (j := (2 : Int32)) hin3 (g := (mkF m 43 #[vr y, vi 3, vi c1] [(.int (c1.toInt8.toInt32)), (.int 2), (.ref y)])) rfl rfl (hb hby d13_43)
 have Vn3 := Arv.set Ar3 q3 S3 N3z H3 G3 (fits_nar_byte _) W3 2 rfl (Nat.le_of_ble_eq_true rfl)
 have N3 := Fr.snoc X3 N0 g_y
 replace sgL := sgL.wr W3
 replace KP := KP.wr W3 (Or.inl (List.mem_of_getElem? (i := 0) rfl))
 have V_y : Arv Z h3 y ky .byte 4 [(.int (lo8 c0)), (.int (hi8 c0)), (.int (lo8 c1)), (.int 0)] (.int 0) := by have q := Vn3; rw [own_nb2] at q; exact q
 replace Z0 : n0 ≤ h3.size := by rw [W3.size]; exact Z0
 refine Gs st3 ?_
 show GG (fT T3 m 44 #[vr y, vi 3, vi c1] [])
 refine gA X3 hx hby d13_44 rfl rfl rfl ?_
 refine gN X3 hx hby d13_45 rfl rfl ?_
 refine gN X3 hx hby d13_46 rfl rfl ?_
 obtain ⟨T4, X4, e4, st4⟩ := getS2 X3 hx hZ hown (host := "") (Or.inl (gw hw 228 rfl)) Via.refl e3 sgL (g := (mkF m 47 #[vr y, vi 3, vi c1] [(.int c1), (.int 3), (.ref y)])) rfl (hb hby d13_47)
 refine Gs st4 ?_
 show GG (fT T4 m 50 #[vr y, vi 3, vi c1] [(.int 8), (.int c1), (.int 3), (.ref y)])
 refine Gz (XS.ishr X4.here hx rfl (hb hby d13_50) rfl) ?_
 show GG (fT T4 m 51 #[vr y, vi 3, vi c1] [(.int (c1 >>> ((8 : Int32) &&& 31))), (.int 3), (.ref y)])
 refine Gz (XS.i2b X4.here hx rfl (hb hby d13_51) rfl) ?_
 show GG (fT T4 m 52 #[vr y, vi 3, vi c1] [(.int ((c1 >>> ((8 : Int32) &&& 31)).toInt8.toInt32)), (.int 3), (.ref y)])
 obtain ⟨cl5, Ar5, q5, S5, N5z, H5, G5⟩ := V_y
 have hin5 : ¬ ((3 : Int32) < 0 ∨ cl5.slots.size ≤ ((3 : Int32)).toNatClampNeg) := inb_of S5 ⟨by decide, by decide⟩
 obtain ⟨T5, h5, X5, e5, W5, st5⟩ := stB X4 hx hZ e4 Ar5 (j := (3 : Int32)) hin5 (g := (mkF m 52 #[vr y, vi 3, vi c1] [(.int ((c1 >>> ((8 : Int32) &&& 31)).toInt8.toInt32)), (.int 3), (.ref y)])) rfl rfl (hb hby d13_52)
 have Vn5 := Arv.set Ar5 q5 S5 N5z H5 G5 (fits_nar_byte _) W5 3 rfl (Nat.le_of_ble_eq_true rfl)
 have N5 := Fr.snoc X5 N3 g_y
 replace KP := KP.wr W5 (Or.inl (List.mem_of_getElem? (i := 0) rfl))
 have V_y : Arv Z h5 y ky .byte 4 [(.int (lo8 c0)), (.int (hi8 c0)), (.int (lo8 c1)), (.int (hi8 c1))] (.int 0) := by have q := Vn5; rw [own_nbh2] at q; exact q
 replace Z0 : n0 ≤ h5.size := by rw [W5.size]; exact Z0
 refine Gs st5 ?_
 show GG (fT T5 m 53 #[vr y, vi 3, vi c1] [])
 refine Goes.ret X5 none (fun _ => rfl) hlk (by decide) (by decide) ?_ (fun fs hr => ?_)
 ·rw [e5]; exact ⟨rfl, N5, KP, V_y⟩
 ·exact X5.returnOut hx hret (hb hby d13_53) hr
theorem own_ef_rs_nbl_2 (m : MethodId)  : entryFrame m #[(.int 2)] 1 = mkF m 0 #[vi 2] [] := by first | (simp [entryFrame, mkF, argsToLocals, Value.category]; done) | rfl
def Q_rs_nbl_2 (Z : State)  (h0 : Heap) (n0 : Nat) (v : Option Value) (h : Heap) (L : List Loc) : Prop := v = some (.int 4) ∧ Fr n0 L ∧ h = h0
theorem rs_nbl_2 (l : Launch) (Z : State) (a0 : Array Value) (hw : HW a0 Z) (ws : List Jvm.Cond)  (h0 : Heap) (n0 : Nat) (Z0 : n0 ≤ h0.size) :
  Met l Z mN14 jdk_52_method_3_code 1 (some .int) ({ frames := 0, cells := 0, slots := 0, locals := 0 } : Room) ws #[(.int 2)] h0 (Q_rs_nbl_2 Z  h0 n0) := by
 refine own_met (plainFor_of_name own_pn3) ?_
 intro p e s m below meth c s₁ hret hx hby hlk hml hown hnm X0 e0 hZ hh
 have N0 := Fr.nil n0
 refine Gz (castTop (own_ef_rs_nbl_2 m )) ?_
 show GG (fT s₁ m 0 #[vi 2] [])
 refine gN X0 hx hby d14_0 rfl rfl ?_
 refine gy X0 hx hby d14_1 1 12 ((if0 _ _).trans (flt (by decide : ¬ ((2 : Int32) < (0 : Int32)))).2.1) ?_
 refine gN X0 hx hby d14_12 rfl rfl ?_
 refine Gz (Jvm.Stand.ldcI X0 hx hown (gz hZ hw 253 rfl) rfl (hb hby d14_13)) ?_
 show GG (fT s₁ m 15 #[vi 2] [(.int 1073741823), (.int 2)])
 refine gY X0 hx hby d14_15 15 55 (tlt (by decide : ((2 : Int32) < (1073741823 : Int32)))).1 ?_
 refine gN X0 hx hby d14_55 rfl rfl ?_
 refine gC X0 hx hby d14_56 ?_
 show GG (fT s₁ m 57 #[vi 2] [(.int 1), (.int 2)])
 refine Gz (XS.ishl X0.here hx rfl (hb hby d14_57) rfl) ?_
 show GG (fT s₁ m 58 #[vi 2] [(.int 4)])
 refine Goes.ret X0 (some (.int 4)) (fun h => by rw [hret] at h; cases h) hlk (by decide) (by decide) ?_ (fun fs hr => ?_)
 ·exact ⟨rfl, N0, e0⟩
 ·exact retI X0 hx hret (hb hby d14_58) hr
theorem own_ef_rs_nbf_2 (m : MethodId)  : entryFrame m #[(.int 2)] 1 = mkF m 0 #[vi 2] [] := by first | (simp [entryFrame, mkF, argsToLocals, Value.category]; done) | rfl
def Q_rs_nbf_2 (Z : State)  (h0 : Heap) (n0 : Nat) (v : Option Value) (h : Heap) (L : List Loc) : Prop := ∃ y : Addr, ∃ ky : ClassId, v = some (.ref y) ∧ Fr n0 L ∧ Keep h0 h [] ∧ Arv Z h y ky .byte 4 [(.int 0), (.int 0), (.int 0), (.int 0)] (.int 0) ∧ n0 ≤ y ∧ h0.size ≤ y
theorem rs_nbf_2 (l : Launch) (Z : State) (a0 : Array Value) (hw : HW a0 Z) (ws : List Jvm.Cond)  (h0 : Heap) (n0 : Nat) (Z0 : n0 ≤ h0.size) :
  Met l Z mN15 jdk_52_method_2_code 1 (some (.array .byte)) ({ frames := 1, cells := 1, slots := 4, locals := 12 } : Room) ws #[(.int 2)] h0 (Q_rs_nbf_2 Z  h0 n0) := by
 refine own_met (plainFor_of_name own_pn3) ?_
 intro p e s m below meth c s₁ hret hx hby hlk hml hown hnm X0 e0 hZ hh
 have N0 := Fr.nil n0
 refine Gz (castTop (own_ef_rs_nbf_2 m )) ?_
 have KP : Keep h0 h0 [] := Keep.refl _ _
 show GG (fT s₁ m 0 #[vi 2] [])
 refine gN X0 hx hby d15_0 rfl rfl ?_
 refine cS X0 hx hZ hw hown hby hml e0 mN14 250 251 252 169 0 (rs_nbl_2 l Z a0 hw []  h0 n0 Z0) d15_1 (lenOf own_pd8 rfl) N0 (fun T1 L1 X1 e1 N1 => ?_)
 show GG (fT T1 m 4 #[vi 2] [(.int 4)])
 obtain ⟨T2, h2, k2, X2, e2, E2, A2, st2⟩ := newP X1 hx hZ (gw hw 22 rfl) e1 (g := (mkF m 4 #[vi 2] [(.int 4)])) rfl (hb hby d15_4) rfl (by decide) (cap := 4) (by decide) (by decide) (by decide) (by decide)
 obtain ⟨b2, gq2⟩ : ∃ z, z = h0.size := ⟨_, rfl⟩
 rw [← gq2] at A2 st2
 have g_b2 : n0 ≤ b2 := by rw [gq2]; exact Z0
 have sz_b2 : h0.size ≤ b2 := by rw [gq2]; exact KP.1
 replace KP := KP.ext E2
 replace Z0 : n0 ≤ h2.size := Nat.le_trans Z0 E2.1
 have V_b2 : Arv Z h2 b2 k2 .byte 4 [(.int 0), (.int 0), (.int 0), (.int 0)] (.int 0) := (Arv.new A2 (by decide)).pad (pad_rep [] (.int 0) 4)
 refine Gs st2 ?_
 show GG (fT T2 m 6 #[vi 2] [(.ref b2)])
 refine Goes.ret X2 (some (.ref b2)) (fun h => by rw [hret] at h; cases h) hlk (by decide) (by decide) ?_ (fun fs hr => ?_)
 ·rw [e2]; exact ⟨b2, k2, rfl, N1, KP, V_b2, g_b2, sz_b2⟩
 ·exact own_retA X2 hx hret rfl rfl (hb hby d15_6) hr
theorem own_ef_rs_tb_2 (m : MethodId) (x0 : Addr) : entryFrame m #[(.ref x0), (.int 0), (.int 2)] 5 = mkF m 0 #[vr x0, vi 0, vi 2, vu, vu] [] := by first | (simp [entryFrame, mkF, argsToLocals, Value.category]; done) | rfl
def Q_rs_tb_2 (Z : State) (x : Addr) (kx : ClassId) (c0 : Int32) (c1 : Int32) (h0 : Heap) (n0 : Nat) (v : Option Value) (h : Heap) (L : List Loc) : Prop := ∃ y : Addr, ∃ ky : ClassId, v = some (.ref y) ∧ Fr n0 L ∧ Keep h0 h [] ∧ Arv Z h y ky .byte 4 [(.int (lo8 c0)), (.int (hi8 c0)), (.int (lo8 c1)), (.int (hi8 c1))] (.int 0) ∧ n0 ≤ y ∧ h0.size ≤ y
theorem rs_tb_2 (l : Launch) (Z : State) (a0 : Array Value) (hw : HW a0 Z) (ws : List Jvm.Cond) (x : Addr) (kx : ClassId) (c0 : Int32) (c1 : Int32) (h0 : Heap) (n0 : Nat) (Z0 : n0 ≤ h0.size) (V_x : Arv Z h0 x kx .char 2 [(.int c0), (.int c1)] (.int 0)) (sgA : Sta Z h0 "java/lang/StringUTF16" "$assertionsDisabled" "Z" (.int 1)) (sgH : Sta Z h0 "java/lang/StringUTF16" "HI_BYTE_SHIFT" "I" (.int 0)) (sgL : Sta Z h0 "java/lang/StringUTF16" "LO_BYTE_SHIFT" "I" (.int 8)) :
  Met l Z mN16 jdk_52_method_14_code 5 (some (.array .byte)) ({ frames := 2, cells := 1, slots := 4, locals := 24 } : Room) ws #[(.ref x), (.int 0), (.int 2)] h0 (Q_rs_tb_2 Z x kx c0 c1 h0 n0) := by
 refine own_met (plainFor_of_name own_pn3) ?_
 intro p e s m below meth c s₁ hret hx hby hlk hml hown hnm X0 e0 hZ hh
 have N0 := Fr.nil n0
 refine Gz (castTop (own_ef_rs_tb_2 m x)) ?_
 have KP : Keep h0 h0 [] := Keep.refl _ _
 show GG (fT s₁ m 0 #[vr x, vi 0, vi 2, vu, vu] [])
 refine gN X0 hx hby d16_0 rfl rfl ?_
 have ltc1_x : x < h0.size := V_x.lt
 have szs1 : h0.size ≤ h0.size := KP.1
 refine cSg X0 hx hZ hw hown hby hml e0 mN15 278 248 249 169 0 (rs_nbf_2 l Z a0 hw []  h0 n0 Z0) d16_1 (lenOf own_pd9 rfl) (fun _ T1 L1 X1 hQ1 => ?_)
 obtain ⟨y1, ky1, rfl, N1q, K1, V_y1_1', g_y1_1', sz_y1_1'⟩ := hQ1
 have N1 := Fr.app N0 N1q
 replace sgA := own_staK sgA K1 all0
 replace sgH := own_staK sgH K1 all0
 replace sgL := own_staK sgL K1 all0
 replace V_x := V_x.keep K1 nin0
 replace KP := KP.trans K1 all0
 replace Z0 := Nat.le_trans Z0 K1.1
 have V_y1 := V_y1_1'
 have g_y1 := g_y1_1'
 have szc_y1 := sz_y1_1'
 have ne_x_y1 : x ≠ y1 := Nat.ne_of_lt (Nat.lt_of_lt_of_le ltc1_x szc_y1)
 have sz_y1 : h0.size ≤ y1 := Nat.le_trans szs1 szc_y1
 show GG (fT T1 m 4 #[vr x, vi 0, vi 2, vu, vu] [(.ref y1)])
 refine Gz (XS.astoreN X1.here hx rfl (hb hby d16_4) rfl rfl (l' := #[vr x, vi 0, vi 2, vr y1, vu]) rfl) ?_
 refine gC X1 hx hby d16_5 ?_
 refine gS X1 hx hby d16_6 #[vr x, vi 0, vi 2, vr y1, vi 0] ?_
 refine gI X1 hx hby d16_8 rfl rfl ?_
 refine gN X1 hx hby d16_10 rfl rfl ?_
 refine gU X1 hx hby d16_11 (tlt (by decide : ((0 : Int32) < (2 : Int32)))).2.1 ?_
 show GG (fT T1 m 14 #[vr x, vi 0, vi 2, vr y1, vi 0] [])
 refine gA X1 hx hby d16_14 rfl rfl rfl ?_
 refine gI X1 hx hby d16_15 rfl rfl ?_
 refine gA X1 hx hby d16_17 rfl rfl rfl ?_
 refine gN X1 hx hby d16_18 rfl rfl ?_
 obtain ⟨cl2, Ar2, -, S2, N2z, H2, -⟩ := id V_x
 have hin2 : ¬ ((0 : Int32) < 0 ∨ cl2.slots.size ≤ ((0 : Int32)).toNatClampNeg) := inb_of S2 ⟨by decide, by decide⟩
 have hat2 : cl2.slots[((0 : Int32)).toNatClampNeg]? = some (.int c0) := Has.at H2 hin2 rfl
 refine Gs (fun _ tk => X1.caload hx (j := (0 : Int32)) (v := (.int c0)) Ar2.1 (State.isArrayOf_alike hZ.alike Ar2.2.1) Ar2.2.2 hin2 hat2 (g := (mkF m 19 #[vr x, vi 0, vi 2, vr y1, vi 0] [(.int 0), (.ref x), (.int 0), (.ref y1)])) rfl rfl (hb hby d16_19) _ tk) ?_
 show GG (fT T1 m 20 #[vr x, vi 0, vi 2, vr y1, vi 0] [(.int c0), (.int 0), (.ref y1)])
 refine cSg X1 hx hZ hw hown hby hml rfl mN13 223 224 225 169 0 (rs_pc_2_0 l Z a0 hw [] y1 ky1 c0 T1.heap n0 Z0 V_y1 g_y1 sgA sgH sgL) d16_20 (lenOf own_pd10 rfl) (fun _ T3 L3 X3 hQ3 => ?_)
 obtain ⟨rfl, N3q, K3, V_y1_3'⟩ := hQ3
 have N3 := Fr.app N1 N3q
 replace sgA := own_staK sgA K3 (allS (own_obA V_y1) all0)
 replace sgH := own_staK sgH K3 (allS (own_obA V_y1) all0)
 replace sgL := own_staK sgL K3 (allS (own_obA V_y1) all0)
 replace V_x := V_x.keep K3 (ninS ne_x_y1 nin0)
 replace KP := KP.trans K3 (allS (Or.inr sz_y1) all0)
 replace Z0 := Nat.le_trans Z0 K3.1
 have V_y1 := V_y1_3'
 show GG (fT T3 m 23 #[vr x, vi 0, vi 2, vr y1, vi 0] [])
 refine Gz (XS.iinc X3.here hx rfl (hb hby d16_23) rfl (l' := #[vr x, vi ((0 : Int32) + (1 : Int32)), vi 2, vr y1, vi 0]) rfl) ?_
 show GG (fT T3 m 26 #[vr x, vi 1, vi 2, vr y1, vi 0] [])
 refine Gz (XS.iinc X3.here hx rfl (hb hby d16_26) rfl (l' := #[vr x, vi 1, vi 2, vr y1, vi ((0 : Int32) + (1 : Int32))]) rfl) ?_
 show GG (fT T3 m 29 #[vr x, vi 1, vi 2, vr y1, vi 1] [])
 refine gG X3 hx hby d16_29 29 8 ?_
 refine gI X3 hx hby d16_8 rfl rfl ?_
 refine gN X3 hx hby d16_10 rfl rfl ?_
 refine gU X3 hx hby d16_11 (tlt (by decide : ((1 : Int32) < (2 : Int32)))).2.1 ?_
 refine gA X3 hx hby d16_14 rfl rfl rfl ?_
 refine gI X3 hx hby d16_15 rfl rfl ?_
 show GG (fT T3 m 17 #[vr x, vi 1, vi 2, vr y1, vi 1] [(.int 1), (.ref y1)])
 refine gA X3 hx hby d16_17 rfl rfl rfl ?_
 refine gN X3 hx hby d16_18 rfl rfl ?_
 obtain ⟨cl4, Ar4, -, S4, N4z, H4, -⟩ := id V_x
 have hin4 : ¬ ((1 : Int32) < 0 ∨ cl4.slots.size ≤ ((1 : Int32)).toNatClampNeg) := inb_of S4 ⟨by decide, by decide⟩
 have hat4 : cl4.slots[((1 : Int32)).toNatClampNeg]? = some (.int c1) := Has.at H4 hin4 rfl
 refine Gs (fun _ tk => X3.caload hx (j := (1 : Int32)) (v := (.int c1)) Ar4.1 (State.isArrayOf_alike hZ.alike Ar4.2.1) Ar4.2.2 hin4 hat4 (g := (mkF m 19 #[vr x, vi 1, vi 2, vr y1, vi 1] [(.int 1), (.ref x), (.int 1), (.ref y1)])) rfl rfl (hb hby d16_19) _ tk) ?_
 show GG (fT T3 m 20 #[vr x, vi 1, vi 2, vr y1, vi 1] [(.int c1), (.int 1), (.ref y1)])
 refine cSg X3 hx hZ hw hown hby hml rfl mN13 223 224 225 169 0 (rs_pc_2_1 l Z a0 hw [] y1 ky1 c0 c1 T3.heap n0 Z0 V_y1 g_y1 sgA sgH sgL) d16_20 (lenOf own_pd10 rfl) (fun _ T5 L5 X5 hQ5 => ?_)
 obtain ⟨rfl, N5q, K5, V_y1_5'⟩ := hQ5
 have N5 := Fr.app N3 N5q
 replace KP := KP.trans K5 (allS (Or.inr sz_y1) all0)
 replace Z0 := Nat.le_trans Z0 K5.1
 have V_y1 := V_y1_5'
 show GG (fT T5 m 23 #[vr x, vi 1, vi 2, vr y1, vi 1] [])
 refine Gz (XS.iinc X5.here hx rfl (hb hby d16_23) rfl (l' := #[vr x, vi ((1 : Int32) + (1 : Int32)), vi 2, vr y1, vi 1]) rfl) ?_
 show GG (fT T5 m 26 #[vr x, vi 2, vi 2, vr y1, vi 1] [])
 refine Gz (XS.iinc X5.here hx rfl (hb hby d16_26) rfl (l' := #[vr x, vi 2, vi 2, vr y1, vi ((1 : Int32) + (1 : Int32))]) rfl) ?_
 show GG (fT T5 m 29 #[vr x, vi 2, vi 2, vr y1, vi 2] [])
 refine gG X5 hx hby d16_29 29 8 ?_
 refine gI X5 hx hby d16_8 rfl rfl ?_
 refine gN X5 hx hby d16_10 rfl rfl ?_
 refine gY X5 hx hby d16_11 11 32 (flt (by decide : ¬ ((2 : Int32) < (2 : Int32)))).2.1 ?_
 refine gA X5 hx hby d16_32 rfl rfl rfl ?_
 refine Goes.ret X5 (some (.ref y1)) (fun h => by rw [hret] at h; cases h) hlk (by decide) (by decide) ?_ (fun fs hr => ?_)
 ·exact ⟨y1, ky1, rfl, N5, KP, V_y1, g_y1, sz_y1⟩
 ·exact own_retA X5 hx hret rfl rfl (hb hby d16_33) hr
theorem own_ef_rs_c5_2_0 (m : MethodId) (x0 : Addr) (x2 : Addr) : entryFrame m #[(.ref x0), (.int 0), (.ref x2), (.int 0), (.int 2)] 7 = mkF m 0 #[vr x0, vi 0, vr x2, vi 0, vi 2, vu, vu] [] := by first | (simp [entryFrame, mkF, argsToLocals, Value.category]; done) | rfl
def Q_rs_c5_2_0 (Z : State) (x : Addr) (kx : ClassId) (y : Addr) (ky : ClassId) (c0 : Int32) (c1 : Int32) (h0 : Heap) (n0 : Nat) (v : Option Value) (h : Heap) (L : List Loc) : Prop := v = some (.int 0) ∧ Fr n0 L ∧ Keep h0 h [y] ∧ Arv Z h y ky .byte 2 [(.int 0), (.int 0)] (.int 0)
theorem rs_c5_2_0 (l : Launch) (Z : State) (a0 : Array Value) (hw : HW a0 Z) (ws : List Jvm.Cond) (x : Addr) (kx : ClassId) (y : Addr) (ky : ClassId) (c0 : Int32) (c1 : Int32) (h0 : Heap) (n0 : Nat) (Z0 : n0 ≤ h0.size) (V_x : Arv Z h0 x kx .char 2 [(.int c0), (.int c1)] (.int 0)) (V_y : Arv Z h0 y ky .byte 2 [(.int 0), (.int 0)] (.int 0)) (g_y : n0 ≤ y) (ne_x_y : x ≠ y) (hn_c0 : (255 : Int32) < c0) :
  Met l Z mN17 jdk_52_method_21_code 7 (some .int) ({ frames := 0, cells := 0, slots := 0, locals := 0 } : Room) ws #[(.ref x), (.int 0), (.ref y), (.int 0), (.int 2)] h0 (Q_rs_c5_2_0 Z x kx y ky c0 c1 h0 n0) := by
 refine own_met (plainFor_of_name own_pn3) ?_
 intro p e s m below meth c s₁ hret hx hby hlk hml hown hnm X0 e0 hZ hh
 have N0 := Fr.nil n0
 refine Gz (castTop (own_ef_rs_c5_2_0 m x y)) ?_
 have KP : Keep h0 h0 [y] := Keep.refl _ _
 show GG (fT s₁ m 0 #[vr x, vi 0, vr y, vi 0, vi 2, vu, vu] [])
 refine gC X0 hx hby d17_0 ?_
 refine gS X0 hx hby d17_1 #[vr x, vi 0, vr y, vi 0, vi 2, vi 0, vu] ?_
 refine gI X0 hx hby d17_3 rfl rfl ?_
 refine gI X0 hx hby d17_5 rfl rfl ?_
 refine gU X0 hx hby d17_7 (tlt (by decide : ((0 : Int32) < (2 : Int32)))).2.1 ?_
 refine gA X0 hx hby d17_10 rfl rfl rfl ?_
 show GG (fT s₁ m 11 #[vr x, vi 0, vr y, vi 0, vi 2, vi 0, vu] [(.ref x)])
 refine gN X0 hx hby d17_11 rfl rfl ?_
 obtain ⟨cl1, Ar1, -, S1, N1z, H1, -⟩ := id V_x
 have hin1 : ¬ ((0 : Int32) < 0 ∨ cl1.slots.size ≤ ((0 : Int32)).toNatClampNeg) := inb_of S1 ⟨by decide, by decide⟩
 have hat1 : cl1.slots[((0 : Int32)).toNatClampNeg]? = some (.int c0) := Has.at H1 hin1 rfl
 refine Gs (fun _ tk => X0.caload hx (j := (0 : Int32)) (v := (.int c0)) (by rw [e0]; exact Ar1.1) (State.isArrayOf_alike hZ.alike Ar1.2.1) Ar1.2.2 hin1 hat1 (g := (mkF m 12 #[vr x, vi 0, vr y, vi 0, vi 2, vi 0, vu] [(.int 0), (.ref x)])) rfl rfl (hb hby d17_12) _ tk) ?_
 show GG (fT s₁ m 13 #[vr x, vi 0, vr y, vi 0, vi 2, vi 0, vu] [(.int c0)])
 refine gS X0 hx hby d17_13 #[vr x, vi 0, vr y, vi 0, vi 2, vi 0, vi c0] ?_
 refine gI X0 hx hby d17_15 rfl rfl ?_
 refine Gz (XS.sipush X0.here hx rfl (hb hby d17_17)) ?_
 refine gU X0 hx hby d17_20 (tlt hn_c0).2.2.2 ?_
 refine gI X0 hx hby d17_23 rfl rfl ?_
 refine Goes.ret X0 (some (.int 0)) (fun h => by rw [hret] at h; cases h) hlk (by decide) (by decide) ?_ (fun fs hr => ?_)
 ·rw [e0]; exact ⟨rfl, N0, KP, V_y⟩
 ·exact retI X0 hx hret (hb hby d17_25) hr
theorem own_ef_rs_c3_2_0 (m : MethodId) (x0 : Addr) : entryFrame m #[(.ref x0), (.int 0), (.int 2)] 6 = mkF m 0 #[vr x0, vi 0, vi 2, vu, vu, vu] [] := by first | (simp [entryFrame, mkF, argsToLocals, Value.category]; done) | rfl
def Q_rs_c3_2_0 (Z : State) (x : Addr) (kx : ClassId) (c0 : Int32) (c1 : Int32) (h0 : Heap) (n0 : Nat) (v : Option Value) (h : Heap) (L : List Loc) : Prop := ∃ y : Addr, ∃ ky : ClassId, v = some (.ref y) ∧ Fr n0 L ∧ Keep h0 h [] ∧ Arv Z h y ky .byte 4 [(.int (lo8 c0)), (.int (hi8 c0)), (.int (lo8 c1)), (.int (hi8 c1))] (.int 0) ∧ n0 ≤ y ∧ h0.size ≤ y
theorem rs_c3_2_0 (l : Launch) (Z : State) (a0 : Array Value) (hw : HW a0 Z) (ws : List Jvm.Cond) (x : Addr) (kx : ClassId) (c0 : Int32) (c1 : Int32) (h0 : Heap) (n0 : Nat) (Z0 : n0 ≤ h0.size) (V_x : Arv Z h0 x kx .char 2 [(.int c0), (.int c1)] (.int 0)) (hn_c0 : (255 : Int32) < c0) (hC_c0 : Chr c0) (hC_c1 : Chr c1) (sgA : Sta Z h0 "java/lang/StringUTF16" "$assertionsDisabled" "Z" (.int 1)) (sgH : Sta Z h0 "java/lang/StringUTF16" "HI_BYTE_SHIFT" "I" (.int 0)) (sgL : Sta Z h0 "java/lang/StringUTF16" "LO_BYTE_SHIFT" "I" (.int 8)) :
  Met l Z mN18 jdk_52_method_16_code 6 (some (.array .byte)) ({ frames := 3, cells := 2, slots := 6, locals := 40 } : Room) ws #[(.ref x), (.int 0), (.int 2)] h0 (Q_rs_c3_2_0 Z x kx c0 c1 h0 n0) := by
 refine own_met (plainFor_of_name own_pn3) ?_
 intro p e s m below meth c s₁ hret hx hby hlk hml hown hnm X0 e0 hZ hh
 have N0 := Fr.nil n0
 refine Gz (castTop (own_ef_rs_c3_2_0 m x)) ?_
 have KP : Keep h0 h0 [] := Keep.refl _ _
 show GG (fT s₁ m 0 #[vr x, vi 0, vi 2, vu, vu, vu] [])
 refine gN X0 hx hby d18_0 rfl rfl ?_
 obtain ⟨T1, h1, k1, X1, e1, E1, A1, st1⟩ := newP X0 hx hZ (gw hw 22 rfl) e0 (g := (mkF m 1 #[vr x, vi 0, vi 2, vu, vu, vu] [(.int 2)])) rfl (hb hby d18_1) rfl (by decide) (cap := 2) (by decide) (by decide) (by decide) (by decide)
 obtain ⟨b1, gq1⟩ : ∃ z, z = h0.size := ⟨_, rfl⟩
 rw [← gq1] at A1 st1
 have g_b1 : n0 ≤ b1 := by rw [gq1]; exact Z0
 have sz_b1 : h0.size ≤ b1 := by rw [gq1]; exact KP.1
 have ne_x_b1 : x ≠ b1 := by rw [gq1]; exact Nat.ne_of_lt V_x.lt
 replace V_x := V_x.ext E1
 replace sgA := sgA.ext E1
 replace sgH := sgH.ext E1
 replace sgL := sgL.ext E1
 replace KP := KP.ext E1
 replace Z0 : n0 ≤ h1.size := Nat.le_trans Z0 E1.1
 have V_b1 : Arv Z h1 b1 k1 .byte 2 [(.int 0), (.int 0)] (.int 0) := (Arv.new A1 (by decide)).pad (pad_rep [] (.int 0) 2)
 refine Gs st1 ?_
 show GG (fT T1 m 3 #[vr x, vi 0, vi 2, vu, vu, vu] [(.ref b1)])
 refine Gz (XS.astoreN X1.here hx rfl (hb hby d18_3) rfl rfl (l' := #[vr x, vi 0, vi 2, vr b1, vu, vu]) rfl) ?_
 refine gA X1 hx hby d18_4 rfl rfl rfl ?_
 refine gN X1 hx hby d18_5 rfl rfl ?_
 refine gA X1 hx hby d18_6 rfl rfl rfl ?_
 refine gC X1 hx hby d18_7 ?_
 refine gN X1 hx hby d18_8 rfl rfl ?_
 show GG (fT T1 m 9 #[vr x, vi 0, vi 2, vr b1, vu, vu] [(.int 2), (.int 0), (.ref b1), (.int 0), (.ref x)])
 refine cSg X1 hx hZ hw hown hby hml e1 mN17 171 172 173 169 0 (rs_c5_2_0 l Z a0 hw [] x kx b1 k1 c0 c1 h1 n0 Z0 V_x V_b1 g_b1 ne_x_b1 hn_c0) d18_9 (lenOf own_pd11 rfl) (fun _ T2 L2 X2 hQ2 => ?_)
 obtain ⟨rfl, N2q, K2, V_b1_2'⟩ := hQ2
 have N2 := Fr.app N0 N2q
 replace sgA := own_staK sgA K2 (allS (own_obA V_b1) all0)
 replace sgH := own_staK sgH K2 (allS (own_obA V_b1) all0)
 replace sgL := own_staK sgL K2 (allS (own_obA V_b1) all0)
 replace V_x := V_x.keep K2 (ninS ne_x_b1 nin0)
 replace KP := KP.trans K2 (allS (Or.inr sz_b1) all0)
 replace Z0 := Nat.le_trans Z0 K2.1
 have V_b1 := V_b1_2'
 show GG (fT T2 m 12 #[vr x, vi 0, vi 2, vr b1, vu, vu] [(.int 0)])
 refine gS X2 hx hby d18_12 #[vr x, vi 0, vi 2, vr b1, vi 0, vu] ?_
 refine gI X2 hx hby d18_14 rfl rfl ?_
 refine gN X2 hx hby d18_16 rfl rfl ?_
 refine gU X2 hx hby d18_17 (feq (by decide : ¬ ((0 : Int32) = (2 : Int32)))).1 ?_
 refine gA X2 hx hby d18_20 rfl rfl rfl ?_
 refine gN X2 hx hby d18_21 rfl rfl ?_
 show GG (fT T2 m 22 #[vr x, vi 0, vi 2, vr b1, vi 0, vu] [(.int 0), (.ref x)])
 refine gN X2 hx hby d18_22 rfl rfl ?_
 have ltc3_x : x < T2.heap.size := V_x.lt
 have ltc3_b1 : b1 < T2.heap.size := V_b1.lt
 have szs3 : h0.size ≤ T2.heap.size := KP.1
 refine cSg X2 hx hZ hw hown hby hml rfl mN16 275 276 277 169 0 (rs_tb_2 l Z a0 hw [] x kx c0 c1 T2.heap n0 Z0 V_x sgA sgH sgL) d18_23 (lenOf own_pd12 rfl) (fun _ T3 L3 X3 hQ3 => ?_)
 obtain ⟨y3, ky3, rfl, N3q, K3, V_y3_3', g_y3_3', sz_y3_3'⟩ := hQ3
 have N3 := Fr.app N2 N3q
 replace sgA := own_staK sgA K3 all0
 replace sgH := own_staK sgH K3 all0
 replace sgL := own_staK sgL K3 all0
 replace KP := KP.trans K3 all0
 replace Z0 := Nat.le_trans Z0 K3.1
 have V_y3 := V_y3_3'
 have g_y3 := g_y3_3'
 have szc_y3 := sz_y3_3'
 have ne_x_y3 : x ≠ y3 := Nat.ne_of_lt (Nat.lt_of_lt_of_le ltc3_x szc_y3)
 have ne_b1_y3 : b1 ≠ y3 := Nat.ne_of_lt (Nat.lt_of_lt_of_le ltc3_b1 szc_y3)
 have sz_y3 : h0.size ≤ y3 := Nat.le_trans szs3 szc_y3
 show GG (fT T3 m 26 #[vr x, vi 0, vi 2, vr b1, vi 0, vu] [(.ref y3)])
 refine Gz (XS.astore X3.here hx rfl (hb hby d18_26) rfl rfl (l' := #[vr x, vi 0, vi 2, vr b1, vi 0, vr y3]) rfl) ?_
 refine Gz (XS.aload X3.here hx rfl (hb hby d18_28) rfl rfl) ?_
 refine gI X3 hx hby d18_30 rfl rfl ?_
 refine cS X3 hx hZ hw hown hby hml rfl mN8 239 240 241 169 0 (rs_gch l Z a0 hw [] y3 ky3 [c0, c1] (0 : Int32) c0 T3.heap n0 Z0 V_y3 (by first | assumption | decide) (own_il 0 _ (by decide) (by simp) (Nat.le_of_ble_eq_true rfl)) rfl (Nat.le_of_ble_eq_true rfl) hC_c0 sgA sgH sgL) d18_32 (lenOf own_pd5 rfl) N3 (fun T4 L4 X4 e4 N4 => ?_)
 show GG (fT T4 m 35 #[vr x, vi 0, vi 2, vr b1, vi 0, vr y3] [(.int c0)])
 refine Gz (XS.sipush X4.here hx rfl (hb hby d18_35)) ?_
 refine gY X4 hx hby d18_38 38 54 (tlt hn_c0).2.2.1 ?_
 refine Gz (XS.aload X4.here hx rfl (hb hby d18_54) rfl rfl) ?_
 refine Goes.ret X4 (some (.ref y3)) (fun h => by rw [hret] at h; cases h) hlk (by decide) (by decide) ?_ (fun fs hr => ?_)
 ·rw [e4]; exact ⟨y3, ky3, rfl, N4, KP, V_y3, g_y3, sz_y3⟩
 ·exact own_retA X4 hx hret rfl rfl (hb hby d18_56) hr
theorem own_ef_rs_c5_2_1 (m : MethodId) (x0 : Addr) (x2 : Addr) : entryFrame m #[(.ref x0), (.int 0), (.ref x2), (.int 0), (.int 2)] 7 = mkF m 0 #[vr x0, vi 0, vr x2, vi 0, vi 2, vu, vu] [] := by first | (simp [entryFrame, mkF, argsToLocals, Value.category]; done) | rfl
def Q_rs_c5_2_1 (Z : State) (x : Addr) (kx : ClassId) (y : Addr) (ky : ClassId) (c0 : Int32) (c1 : Int32) (h0 : Heap) (n0 : Nat) (v : Option Value) (h : Heap) (L : List Loc) : Prop := v = some (.int 1) ∧ Fr n0 L ∧ Keep h0 h [y] ∧ Arv Z h y ky .byte 2 [(.int (lo8 c0)), (.int 0)] (.int 0)
theorem rs_c5_2_1 (l : Launch) (Z : State) (a0 : Array Value) (hw : HW a0 Z) (ws : List Jvm.Cond) (x : Addr) (kx : ClassId) (y : Addr) (ky : ClassId) (c0 : Int32) (c1 : Int32) (h0 : Heap) (n0 : Nat) (Z0 : n0 ≤ h0.size) (V_x : Arv Z h0 x kx .char 2 [(.int c0), (.int c1)] (.int 0)) (V_y : Arv Z h0 y ky .byte 2 [(.int 0), (.int 0)] (.int 0)) (g_y : n0 ≤ y) (ne_x_y : x ≠ y) (hn_c0 : ¬ ((255 : Int32) < c0)) (hn_c1 : (255 : Int32) < c1) :
  Met l Z mN17 jdk_52_method_21_code 7 (some .int) ({ frames := 0, cells := 0, slots := 0, locals := 0 } : Room) ws #[(.ref x), (.int 0), (.ref y), (.int 0), (.int 2)] h0 (Q_rs_c5_2_1 Z x kx y ky c0 c1 h0 n0) := by
 refine own_met (plainFor_of_name own_pn3) ?_
 intro p e s m below meth c s₁ hret hx hby hlk hml hown hnm X0 e0 hZ hh
 have N0 := Fr.nil n0
 refine Gz (castTop (own_ef_rs_c5_2_1 m x y)) ?_
 have KP : Keep h0 h0 [y] := Keep.refl _ _
 show GG (fT s₁ m 0 #[vr x, vi 0, vr y, vi 0, vi 2, vu, vu] [])
 refine gC X0 hx hby d17_0 ?_
 refine gS X0 hx hby d17_1 #[vr x, vi 0, vr y, vi 0, vi 2, vi 0, vu] ?_
 refine gI X0 hx hby d17_3 rfl rfl ?_
 refine gI X0 hx hby d17_5 rfl rfl ?_
 refine gU X0 hx hby d17_7 (tlt (by decide : ((0 : Int32) < (2 : Int32)))).2.1 ?_
 refine gA X0 hx hby d17_10 rfl rfl rfl ?_
 show GG (fT s₁ m 11 #[vr x, vi 0, vr y, vi 0, vi 2, vi 0, vu] [(.ref x)])
 refine gN X0 hx hby d17_11 rfl rfl ?_
 obtain ⟨cl1, Ar1, -, S1, N1z, H1, -⟩ := id V_x
 have hin1 : ¬ ((0 : Int32) < 0 ∨ cl1.slots.size ≤ ((0 : Int32)).toNatClampNeg) := inb_of S1 ⟨by decide, by decide⟩
 have hat1 : cl1.slots[((0 : Int32)).toNatClampNeg]? = some (.int c0) := Has.at H1 hin1 rfl
 refine Gs (fun _ tk => X0.caload hx (j := (0 : Int32)) (v := (.int c0)) (by rw [e0]; exact Ar1.1) (State.isArrayOf_alike hZ.alike Ar1.2.1) Ar1.2.2 hin1 hat1 (g := (mkF m 12 #[vr x, vi 0, vr y, vi 0, vi 2, vi 0, vu] [(.int 0), (.ref x)])) rfl rfl (hb hby d17_12) _ tk) ?_
 show GG (fT s₁ m 13 #[vr x, vi 0, vr y, vi 0, vi 2, vi 0, vu] [(.int c0)])
 refine gS X0 hx hby d17_13 #[vr x, vi 0, vr y, vi 0, vi 2, vi 0, vi c0] ?_
 refine gI X0 hx hby d17_15 rfl rfl ?_
 refine Gz (XS.sipush X0.here hx rfl (hb hby d17_17)) ?_
 refine gY X0 hx hby d17_20 20 26 (flt hn_c0).2.2.2 ?_
 refine gA X0 hx hby d17_26 rfl rfl rfl ?_
 refine gN X0 hx hby d17_27 rfl rfl ?_
 show GG (fT s₁ m 28 #[vr x, vi 0, vr y, vi 0, vi 2, vi 0, vi c0] [(.int 0), (.ref y)])
 refine gI X0 hx hby d17_28 rfl rfl ?_
 show GG (fT s₁ m 30 #[vr x, vi 0, vr y, vi 0, vi 2, vi 0, vi c0] [(.int c0), (.int 0), (.ref y)])
 refine Gz (XS.i2b X0.here hx rfl (hb hby d17_30) rfl) ?_
 show GG (fT s₁ m 31 #[vr x, vi 0, vr y, vi 0, vi 2, vi 0, vi c0] [(.int (c0.toInt8.toInt32)), (.int 0), (.ref y)])
 obtain ⟨cl2, Ar2, q2, S2, N2z, H2, G2⟩ := V_y
 have hin2 : ¬ ((0 : Int32) < 0 ∨ cl2.slots.size ≤ ((0 : Int32)).toNatClampNeg) := inb_of S2 ⟨by decide, by decide⟩
 obtain ⟨T2, h2, X2, e2, W2, st2⟩ := stB X0 hx hZ e0 Ar2 (j := (0 : Int32)) hin2 (g := (mkF m 31 #[vr x, vi 0, vr y, vi 0, vi 2, vi 0, vi c0] [(.int (c0.toInt8.toInt32)), (.int 0), (.ref y)])) rfl rfl (hb hby d17_31)
 have Vn2 := Arv.set Ar2 q2 S2 N2z H2 G2 (fits_nar_byte _) W2 0 rfl (Nat.le_of_ble_eq_true rfl)
 have N2 := Fr.snoc X2 N0 g_y
 replace V_x := V_x.other W2 ne_x_y
 replace KP := KP.wr W2 (Or.inl (List.mem_of_getElem? (i := 0) rfl))
 have V_y : Arv Z h2 y ky .byte 2 [(.int (lo8 c0)), (.int 0)] (.int 0) := by have q := Vn2; rw [own_nb2] at q; exact q
 replace Z0 : n0 ≤ h2.size := by rw [W2.size]; exact Z0
 refine Gs st2 ?_
 show GG (fT T2 m 32 #[vr x, vi 0, vr y, vi 0, vi 2, vi 0, vi c0] [])
 refine Gz (XS.iinc X2.here hx rfl (hb hby d17_32) rfl (l' := #[vr x, vi ((0 : Int32) + (1 : Int32)), vr y, vi 0, vi 2, vi 0, vi c0]) rfl) ?_
 show GG (fT T2 m 35 #[vr x, vi 1, vr y, vi 0, vi 2, vi 0, vi c0] [])
 refine Gz (XS.iinc X2.here hx rfl (hb hby d17_35) rfl (l' := #[vr x, vi 1, vr y, vi ((0 : Int32) + (1 : Int32)), vi 2, vi 0, vi c0]) rfl) ?_
 show GG (fT T2 m 38 #[vr x, vi 1, vr y, vi 1, vi 2, vi 0, vi c0] [])
 refine Gz (XS.iinc X2.here hx rfl (hb hby d17_38) rfl (l' := #[vr x, vi 1, vr y, vi 1, vi 2, vi ((0 : Int32) + (1 : Int32)), vi c0]) rfl) ?_
 show GG (fT T2 m 41 #[vr x, vi 1, vr y, vi 1, vi 2, vi 1, vi c0] [])
 refine gG X2 hx hby d17_41 41 3 ?_
 refine gI X2 hx hby d17_3 rfl rfl ?_
 refine gI X2 hx hby d17_5 rfl rfl ?_
 refine gU X2 hx hby d17_7 (tlt (by decide : ((1 : Int32) < (2 : Int32)))).2.1 ?_
 refine gA X2 hx hby d17_10 rfl rfl rfl ?_
 refine gN X2 hx hby d17_11 rfl rfl ?_
 show GG (fT T2 m 12 #[vr x, vi 1, vr y, vi 1, vi 2, vi 1, vi c0] [(.int 1), (.ref x)])
 obtain ⟨cl3, Ar3, -, S3, N3z, H3, -⟩ := id V_x
 have hin3 : ¬ ((1 : Int32) < 0 ∨ cl3.slots.size ≤ ((1 : Int32)).toNatClampNeg) := inb_of S3 ⟨by decide, by decide⟩
 have hat3 : cl3.slots[((1 : Int32)).toNatClampNeg]? = some (.int c1) := Has.at H3 hin3 rfl
 refine Gs (fun _ tk => X2.caload hx (j := (1 : Int32)) (v := (.int c1)) (by rw [e2]; exact Ar3.1) (State.isArrayOf_alike hZ.alike Ar3.2.1) Ar3.2.2 hin3 hat3 (g := (mkF m 12 #[vr x, vi 1, vr y, vi 1, vi 2, vi 1, vi c0] [(.int 1), (.ref x)])) rfl rfl (hb hby d17_12) _ tk) ?_
 show GG (fT T2 m 13 #[vr x, vi 1, vr y, vi 1, vi 2, vi 1, vi c0] [(.int c1)])
 refine gS X2 hx hby d17_13 #[vr x, vi 1, vr y, vi 1, vi 2, vi 1, vi c1] ?_
 refine gI X2 hx hby d17_15 rfl rfl ?_
 refine Gz (XS.sipush X2.here hx rfl (hb hby d17_17)) ?_
 refine gU X2 hx hby d17_20 (tlt hn_c1).2.2.2 ?_
 refine gI X2 hx hby d17_23 rfl rfl ?_
 refine Goes.ret X2 (some (.int 1)) (fun h => by rw [hret] at h; cases h) hlk (by decide) (by decide) ?_ (fun fs hr => ?_)
 ·rw [e2]; exact ⟨rfl, N2, KP, V_y⟩
 ·exact retI X2 hx hret (hb hby d17_25) hr
theorem own_ef_rs_c3_2_1 (m : MethodId) (x0 : Addr) : entryFrame m #[(.ref x0), (.int 0), (.int 2)] 6 = mkF m 0 #[vr x0, vi 0, vi 2, vu, vu, vu] [] := by first | (simp [entryFrame, mkF, argsToLocals, Value.category]; done) | rfl
def Q_rs_c3_2_1 (Z : State) (x : Addr) (kx : ClassId) (c0 : Int32) (c1 : Int32) (h0 : Heap) (n0 : Nat) (v : Option Value) (h : Heap) (L : List Loc) : Prop := ∃ y : Addr, ∃ ky : ClassId, v = some (.ref y) ∧ Fr n0 L ∧ Keep h0 h [] ∧ Arv Z h y ky .byte 4 [(.int (lo8 c0)), (.int (hi8 c0)), (.int (lo8 c1)), (.int (hi8 c1))] (.int 0) ∧ n0 ≤ y ∧ h0.size ≤ y
theorem rs_c3_2_1 (l : Launch) (Z : State) (a0 : Array Value) (hw : HW a0 Z) (ws : List Jvm.Cond) (x : Addr) (kx : ClassId) (c0 : Int32) (c1 : Int32) (h0 : Heap) (n0 : Nat) (Z0 : n0 ≤ h0.size) (V_x : Arv Z h0 x kx .char 2 [(.int c0), (.int c1)] (.int 0)) (hn_c0 : ¬ ((255 : Int32) < c0)) (hn_c1 : (255 : Int32) < c1) (hC_c0 : Chr c0) (hC_c1 : Chr c1) (sgA : Sta Z h0 "java/lang/StringUTF16" "$assertionsDisabled" "Z" (.int 1)) (sgH : Sta Z h0 "java/lang/StringUTF16" "HI_BYTE_SHIFT" "I" (.int 0)) (sgL : Sta Z h0 "java/lang/StringUTF16" "LO_BYTE_SHIFT" "I" (.int 8)) :
  Met l Z mN18 jdk_52_method_16_code 6 (some (.array .byte)) ({ frames := 3, cells := 2, slots := 6, locals := 40 } : Room) ws #[(.ref x), (.int 0), (.int 2)] h0 (Q_rs_c3_2_1 Z x kx c0 c1 h0 n0) := by
 refine own_met (plainFor_of_name own_pn3) ?_
 intro p e s m below meth c s₁ hret hx hby hlk hml hown hnm X0 e0 hZ hh
 have N0 := Fr.nil n0
 refine Gz (castTop (own_ef_rs_c3_2_1 m x)) ?_
 have KP : Keep h0 h0 [] := Keep.refl _ _
 show GG (fT s₁ m 0 #[vr x, vi 0, vi 2, vu, vu, vu] [])
 refine gN X0 hx hby d18_0 rfl rfl ?_
 obtain ⟨T1, h1, k1, X1, e1, E1, A1, st1⟩ := newP X0 hx hZ (gw hw 22 rfl) e0 (g := (mkF m 1 #[vr x, vi 0, vi 2, vu, vu, vu] [(.int 2)])) rfl (hb hby d18_1) rfl (by decide) (cap := 2) (by decide) (by decide) (by decide) (by decide)
 obtain ⟨b1, gq1⟩ : ∃ z, z = h0.size := ⟨_, rfl⟩
 rw [← gq1] at A1 st1
 have g_b1 : n0 ≤ b1 := by rw [gq1]; exact Z0
 have sz_b1 : h0.size ≤ b1 := by rw [gq1]; exact KP.1
 have ne_x_b1 : x ≠ b1 := by rw [gq1]; exact Nat.ne_of_lt V_x.lt
 replace V_x := V_x.ext E1
 replace sgA := sgA.ext E1
 replace sgH := sgH.ext E1
 replace sgL := sgL.ext E1
 replace KP := KP.ext E1
 replace Z0 : n0 ≤ h1.size := Nat.le_trans Z0 E1.1
 have V_b1 : Arv Z h1 b1 k1 .byte 2 [(.int 0), (.int 0)] (.int 0) := (Arv.new A1 (by decide)).pad (pad_rep [] (.int 0) 2)
 refine Gs st1 ?_
 show GG (fT T1 m 3 #[vr x, vi 0, vi 2, vu, vu, vu] [(.ref b1)])
 refine Gz (XS.astoreN X1.here hx rfl (hb hby d18_3) rfl rfl (l' := #[vr x, vi 0, vi 2, vr b1, vu, vu]) rfl) ?_
 refine gA X1 hx hby d18_4 rfl rfl rfl ?_
 refine gN X1 hx hby d18_5 rfl rfl ?_
 refine gA X1 hx hby d18_6 rfl rfl rfl ?_
 refine gC X1 hx hby d18_7 ?_
 refine gN X1 hx hby d18_8 rfl rfl ?_
 show GG (fT T1 m 9 #[vr x, vi 0, vi 2, vr b1, vu, vu] [(.int 2), (.int 0), (.ref b1), (.int 0), (.ref x)])
 refine cSg X1 hx hZ hw hown hby hml e1 mN17 171 172 173 169 0 (rs_c5_2_1 l Z a0 hw [] x kx b1 k1 c0 c1 h1 n0 Z0 V_x V_b1 g_b1 ne_x_b1 hn_c0 hn_c1) d18_9 (lenOf own_pd11 rfl) (fun _ T2 L2 X2 hQ2 => ?_)
 obtain ⟨rfl, N2q, K2, V_b1_2'⟩ := hQ2
 have N2 := Fr.app N0 N2q
 replace sgA := own_staK sgA K2 (allS (own_obA V_b1) all0)
 replace sgH := own_staK sgH K2 (allS (own_obA V_b1) all0)
 replace sgL := own_staK sgL K2 (allS (own_obA V_b1) all0)
 replace V_x := V_x.keep K2 (ninS ne_x_b1 nin0)
 replace KP := KP.trans K2 (allS (Or.inr sz_b1) all0)
 replace Z0 := Nat.le_trans Z0 K2.1
 have V_b1 := V_b1_2'
 show GG (fT T2 m 12 #[vr x, vi 0, vi 2, vr b1, vu, vu] [(.int 1)])
 refine gS X2 hx hby d18_12 #[vr x, vi 0, vi 2, vr b1, vi 1, vu] ?_
 refine gI X2 hx hby d18_14 rfl rfl ?_
 refine gN X2 hx hby d18_16 rfl rfl ?_
 refine gU X2 hx hby d18_17 (feq (by decide : ¬ ((1 : Int32) = (2 : Int32)))).1 ?_
 refine gA X2 hx hby d18_20 rfl rfl rfl ?_
 refine gN X2 hx hby d18_21 rfl rfl ?_
 show GG (fT T2 m 22 #[vr x, vi 0, vi 2, vr b1, vi 1, vu] [(.int 0), (.ref x)])
 refine gN X2 hx hby d18_22 rfl rfl ?_
 have ltc3_x : x < T2.heap.size := V_x.lt
 have ltc3_b1 : b1 < T2.heap.size := V_b1.lt
 have szs3 : h0.size ≤ T2.heap.size := KP.1
 refine cSg X2 hx hZ hw hown hby hml rfl mN16 275 276 277 169 0 (rs_tb_2 l Z a0 hw [] x kx c0 c1 T2.heap n0 Z0 V_x sgA sgH sgL) d18_23 (lenOf own_pd12 rfl) (fun _ T3 L3 X3 hQ3 => ?_)
 obtain ⟨y3, ky3, rfl, N3q, K3, V_y3_3', g_y3_3', sz_y3_3'⟩ := hQ3
 have N3 := Fr.app N2 N3q
 replace sgA := own_staK sgA K3 all0
 replace sgH := own_staK sgH K3 all0
 replace sgL := own_staK sgL K3 all0
 replace KP := KP.trans K3 all0
 replace Z0 := Nat.le_trans Z0 K3.1
 have V_y3 := V_y3_3'
 have g_y3 := g_y3_3'
 have szc_y3 := sz_y3_3'
 have ne_x_y3 : x ≠ y3 := Nat.ne_of_lt (Nat.lt_of_lt_of_le ltc3_x szc_y3)
 have ne_b1_y3 : b1 ≠ y3 := Nat.ne_of_lt (Nat.lt_of_lt_of_le ltc3_b1 szc_y3)
 have sz_y3 : h0.size ≤ y3 := Nat.le_trans szs3 szc_y3
 show GG (fT T3 m 26 #[vr x, vi 0, vi 2, vr b1, vi 1, vu] [(.ref y3)])
 refine Gz (XS.astore X3.here hx rfl (hb hby d18_26) rfl rfl (l' := #[vr x, vi 0, vi 2, vr b1, vi 1, vr y3]) rfl) ?_
 refine Gz (XS.aload X3.here hx rfl (hb hby d18_28) rfl rfl) ?_
 refine gI X3 hx hby d18_30 rfl rfl ?_
 refine cS X3 hx hZ hw hown hby hml rfl mN8 239 240 241 169 0 (rs_gch l Z a0 hw [] y3 ky3 [c0, c1] (1 : Int32) c1 T3.heap n0 Z0 V_y3 (by first | assumption | decide) (own_il 1 _ (by decide) (by simp) (Nat.le_of_ble_eq_true rfl)) rfl (Nat.le_of_ble_eq_true rfl) hC_c1 sgA sgH sgL) d18_32 (lenOf own_pd5 rfl) N3 (fun T4 L4 X4 e4 N4 => ?_)
 show GG (fT T4 m 35 #[vr x, vi 0, vi 2, vr b1, vi 1, vr y3] [(.int c1)])
 refine Gz (XS.sipush X4.here hx rfl (hb hby d18_35)) ?_
 refine gY X4 hx hby d18_38 38 54 (tlt hn_c1).2.2.1 ?_
 refine Gz (XS.aload X4.here hx rfl (hb hby d18_54) rfl rfl) ?_
 refine Goes.ret X4 (some (.ref y3)) (fun h => by rw [hret] at h; cases h) hlk (by decide) (by decide) ?_ (fun fs hr => ?_)
 ·rw [e4]; exact ⟨y3, ky3, rfl, N4, KP, V_y3, g_y3, sz_y3⟩
 ·exact own_retA X4 hx hret rfl rfl (hb hby d18_56) hr
theorem own_ef_rs_c5_2_2 (m : MethodId) (x0 : Addr) (x2 : Addr) : entryFrame m #[(.ref x0), (.int 0), (.ref x2), (.int 0), (.int 2)] 7 = mkF m 0 #[vr x0, vi 0, vr x2, vi 0, vi 2, vu, vu] [] := by first | (simp [entryFrame, mkF, argsToLocals, Value.category]; done) | rfl
def Q_rs_c5_2_2 (Z : State) (x : Addr) (kx : ClassId) (y : Addr) (ky : ClassId) (c0 : Int32) (c1 : Int32) (h0 : Heap) (n0 : Nat) (v : Option Value) (h : Heap) (L : List Loc) : Prop := v = some (.int 2) ∧ Fr n0 L ∧ Keep h0 h [y] ∧ Arv Z h y ky .byte 2 [(.int (lo8 c0)), (.int (lo8 c1))] (.int 0)
theorem rs_c5_2_2 (l : Launch) (Z : State) (a0 : Array Value) (hw : HW a0 Z) (ws : List Jvm.Cond) (x : Addr) (kx : ClassId) (y : Addr) (ky : ClassId) (c0 : Int32) (c1 : Int32) (h0 : Heap) (n0 : Nat) (Z0 : n0 ≤ h0.size) (V_x : Arv Z h0 x kx .char 2 [(.int c0), (.int c1)] (.int 0)) (V_y : Arv Z h0 y ky .byte 2 [(.int 0), (.int 0)] (.int 0)) (g_y : n0 ≤ y) (ne_x_y : x ≠ y) (hn_c0 : ¬ ((255 : Int32) < c0)) (hn_c1 : ¬ ((255 : Int32) < c1)) :
  Met l Z mN17 jdk_52_method_21_code 7 (some .int) ({ frames := 0, cells := 0, slots := 0, locals := 0 } : Room) ws #[(.ref x), (.int 0), (.ref y), (.int 0), (.int 2)] h0 (Q_rs_c5_2_2 Z x kx y ky c0 c1 h0 n0) := by
 refine own_met (plainFor_of_name own_pn3) ?_
 intro p e s m below meth c s₁ hret hx hby hlk hml hown hnm X0 e0 hZ hh
 have N0 := Fr.nil n0
 refine Gz (castTop (own_ef_rs_c5_2_2 m x y)) ?_
 have KP : Keep h0 h0 [y] := Keep.refl _ _
 show GG (fT s₁ m 0 #[vr x, vi 0, vr y, vi 0, vi 2, vu, vu] [])
 refine gC X0 hx hby d17_0 ?_
 refine gS X0 hx hby d17_1 #[vr x, vi 0, vr y, vi 0, vi 2, vi 0, vu] ?_
 refine gI X0 hx hby d17_3 rfl rfl ?_
 refine gI X0 hx hby d17_5 rfl rfl ?_
 refine gU X0 hx hby d17_7 (tlt (by decide : ((0 : Int32) < (2 : Int32)))).2.1 ?_
 refine gA X0 hx hby d17_10 rfl rfl rfl ?_
 show GG (fT s₁ m 11 #[vr x, vi 0, vr y, vi 0, vi 2, vi 0, vu] [(.ref x)])
 refine gN X0 hx hby d17_11 rfl rfl ?_
 obtain ⟨cl1, Ar1, -, S1, N1z, H1, -⟩ := id V_x
 have hin1 : ¬ ((0 : Int32) < 0 ∨ cl1.slots.size ≤ ((0 : Int32)).toNatClampNeg) := inb_of S1 ⟨by decide, by decide⟩
 have hat1 : cl1.slots[((0 : Int32)).toNatClampNeg]? = some (.int c0) := Has.at H1 hin1 rfl
 refine Gs (fun _ tk => X0.caload hx (j := (0 : Int32)) (v := (.int c0)) (by rw [e0]; exact Ar1.1) (State.isArrayOf_alike hZ.alike Ar1.2.1) Ar1.2.2 hin1 hat1 (g := (mkF m 12 #[vr x, vi 0, vr y, vi 0, vi 2, vi 0, vu] [(.int 0), (.ref x)])) rfl rfl (hb hby d17_12) _ tk) ?_
 show GG (fT s₁ m 13 #[vr x, vi 0, vr y, vi 0, vi 2, vi 0, vu] [(.int c0)])
 refine gS X0 hx hby d17_13 #[vr x, vi 0, vr y, vi 0, vi 2, vi 0, vi c0] ?_
 refine gI X0 hx hby d17_15 rfl rfl ?_
 refine Gz (XS.sipush X0.here hx rfl (hb hby d17_17)) ?_
 refine gY X0 hx hby d17_20 20 26 (flt hn_c0).2.2.2 ?_
 refine gA X0 hx hby d17_26 rfl rfl rfl ?_
 refine gN X0 hx hby d17_27 rfl rfl ?_
 show GG (fT s₁ m 28 #[vr x, vi 0, vr y, vi 0, vi 2, vi 0, vi c0] [(.int 0), (.ref y)])
 refine gI X0 hx hby d17_28 rfl rfl ?_
 show GG (fT s₁ m 30 #[vr x, vi 0, vr y, vi 0, vi 2, vi 0, vi c0] [(.int c0), (.int 0), (.ref y)])
 refine Gz (XS.i2b X0.here hx rfl (hb hby d17_30) rfl) ?_
 show GG (fT s₁ m 31 #[vr x, vi 0, vr y, vi 0, vi 2, vi 0, vi c0] [(.int (c0.toInt8.toInt32)), (.int 0), (.ref y)])
 obtain ⟨cl2, Ar2, q2, S2, N2z, H2, G2⟩ := V_y
 have hin2 : ¬ ((0 : Int32) < 0 ∨ cl2.slots.size ≤ ((0 : Int32)).toNatClampNeg) := inb_of S2 ⟨by decide, by decide⟩
 obtain ⟨T2, h2, X2, e2, W2, st2⟩ := stB X0 hx hZ e0 Ar2 (j := (0 : Int32)) hin2 (g := (mkF m 31 #[vr x, vi 0, vr y, vi 0, vi 2, vi 0, vi c0] [(.int (c0.toInt8.toInt32)), (.int 0), (.ref y)])) rfl rfl (hb hby d17_31)
 have Vn2 := Arv.set Ar2 q2 S2 N2z H2 G2 (fits_nar_byte _) W2 0 rfl (Nat.le_of_ble_eq_true rfl)
 have N2 := Fr.snoc X2 N0 g_y
 replace V_x := V_x.other W2 ne_x_y
 replace KP := KP.wr W2 (Or.inl (List.mem_of_getElem? (i := 0) rfl))
 have V_y : Arv Z h2 y ky .byte 2 [(.int (lo8 c0)), (.int 0)] (.int 0) := by have q := Vn2; rw [own_nb2] at q; exact q
 replace Z0 : n0 ≤ h2.size := by rw [W2.size]; exact Z0
 refine Gs st2 ?_
 show GG (fT T2 m 32 #[vr x, vi 0, vr y, vi 0, vi 2, vi 0, vi c0] [])
 refine Gz (XS.iinc X2.here hx rfl (hb hby d17_32) rfl (l' := #[vr x, vi ((0 : Int32) + (1 : Int32)), vr y, vi 0, vi 2, vi 0, vi c0]) rfl) ?_
 show GG (fT T2 m 35 #[vr x, vi 1, vr y, vi 0, vi 2, vi 0, vi c0] [])
 refine Gz (XS.iinc X2.here hx rfl (hb hby d17_35) rfl (l' := #[vr x, vi 1, vr y, vi ((0 : Int32) + (1 : Int32)), vi 2, vi 0, vi c0]) rfl) ?_
 show GG (fT T2 m 38 #[vr x, vi 1, vr y, vi 1, vi 2, vi 0, vi c0] [])
 refine Gz (XS.iinc X2.here hx rfl (hb hby d17_38) rfl (l' := #[vr x, vi 1, vr y, vi 1, vi 2, vi ((0 : Int32) + (1 : Int32)), vi c0]) rfl) ?_
 show GG (fT T2 m 41 #[vr x, vi 1, vr y, vi 1, vi 2, vi 1, vi c0] [])
 refine gG X2 hx hby d17_41 41 3 ?_
 refine gI X2 hx hby d17_3 rfl rfl ?_
 refine gI X2 hx hby d17_5 rfl rfl ?_
 refine gU X2 hx hby d17_7 (tlt (by decide : ((1 : Int32) < (2 : Int32)))).2.1 ?_
 refine gA X2 hx hby d17_10 rfl rfl rfl ?_
 refine gN X2 hx hby d17_11 rfl rfl ?_
 show GG (fT T2 m 12 #[vr x, vi 1, vr y, vi 1, vi 2, vi 1, vi c0] [(.int 1), (.ref x)])
 obtain ⟨cl3, Ar3, -, S3, N3z, H3, -⟩ := id V_x
 have hin3 : ¬ ((1 : Int32) < 0 ∨ cl3.slots.size ≤ ((1 : Int32)).toNatClampNeg) := inb_of S3 ⟨by decide, by decide⟩
 have hat3 : cl3.slots[((1 : Int32)).toNatClampNeg]? = some (.int c1) := Has.at H3 hin3 rfl
 refine Gs (fun _ tk => X2.caload hx (j := (1 : Int32)) (v := (.int c1)) (by rw [e2]; exact Ar3.1) (State.isArrayOf_alike hZ.alike Ar3.2.1) Ar3.2.2 hin3 hat3 (g := (mkF m 12 #[vr x, vi 1, vr y, vi 1, vi 2, vi 1, vi c0] [(.int 1), (.ref x)])) rfl rfl (hb hby d17_12) _ tk) ?_
 show GG (fT T2 m 13 #[vr x, vi 1, vr y, vi 1, vi 2, vi 1, vi c0] [(.int c1)])
 refine gS X2 hx hby d17_13 #[vr x, vi 1, vr y, vi 1, vi 2, vi 1, vi c1] ?_
 refine gI X2 hx hby d17_15 rfl rfl ?_
 refine Gz (XS.sipush X2.here hx rfl (hb hby d17_17)) ?_
 refine gY X2 hx hby d17_20 20 26 (flt hn_c1).2.2.2 ?_
 refine gA X2 hx hby d17_26 rfl rfl rfl ?_
 refine gN X2 hx hby d17_27 rfl rfl ?_
 show GG (fT T2 m 28 #[vr x, vi 1, vr y, vi 1, vi 2, vi 1, vi c1] [(.int 1), (.ref y)])
 refine gI X2 hx hby d17_28 rfl rfl ?_
 show GG (fT T2 m 30 #[vr x, vi 1, vr y, vi 1, vi 2, vi 1, vi c1] [(.int c1), (.int 1), (.ref y)])
 refine Gz (XS.i2b X2.here hx rfl (hb hby d17_30) rfl) ?_
 show GG (fT T2 m 31 #[vr x, vi 1, vr y, vi 1, vi 2, vi 1, vi c1] [(.int (c1.toInt8.toInt32)), (.int 1), (.ref y)])
 obtain ⟨cl4, Ar4, q4, S4, N4z, H4, G4⟩ := V_y
 have hin4 : ¬ ((1 : Int32) < 0 ∨ cl4.slots.size ≤ ((1 : Int32)).toNatClampNeg) := inb_of S4 ⟨by decide, by decide⟩
 obtain ⟨T4, h4, X4, e4, W4, st4⟩ := stB X2 hx hZ e2 Ar4 (j := (1 : Int32)) hin4 (g := (mkF m 31 #[vr x, vi 1, vr y, vi 1, vi 2, vi 1, vi c1] [(.int (c1.toInt8.toInt32)), (.int 1), (.ref y)])) rfl rfl (hb hby d17_31)
 have Vn4 := Arv.set Ar4 q4 S4 N4z H4 G4 (fits_nar_byte _) W4 1 rfl (Nat.le_of_ble_eq_true rfl)
 have N4 := Fr.snoc X4 N2 g_y
 replace KP := KP.wr W4 (Or.inl (List.mem_of_getElem? (i := 0) rfl))
 have V_y : Arv Z h4 y ky .byte 2 [(.int (lo8 c0)), (.int (lo8 c1))] (.int 0) := by have q := Vn4; rw [own_nb2] at q; exact q
 replace Z0 : n0 ≤ h4.size := by rw [W4.size]; exact Z0
 refine Gs st4 ?_
 show GG (fT T4 m 32 #[vr x, vi 1, vr y, vi 1, vi 2, vi 1, vi c1] [])
 refine Gz (XS.iinc X4.here hx rfl (hb hby d17_32) rfl (l' := #[vr x, vi ((1 : Int32) + (1 : Int32)), vr y, vi 1, vi 2, vi 1, vi c1]) rfl) ?_
 show GG (fT T4 m 35 #[vr x, vi 2, vr y, vi 1, vi 2, vi 1, vi c1] [])
 refine Gz (XS.iinc X4.here hx rfl (hb hby d17_35) rfl (l' := #[vr x, vi 2, vr y, vi ((1 : Int32) + (1 : Int32)), vi 2, vi 1, vi c1]) rfl) ?_
 show GG (fT T4 m 38 #[vr x, vi 2, vr y, vi 2, vi 2, vi 1, vi c1] [])
 refine Gz (XS.iinc X4.here hx rfl (hb hby d17_38) rfl (l' := #[vr x, vi 2, vr y, vi 2, vi 2, vi ((1 : Int32) + (1 : Int32)), vi c1]) rfl) ?_
 show GG (fT T4 m 41 #[vr x, vi 2, vr y, vi 2, vi 2, vi 2, vi c1] [])
 refine gG X4 hx hby d17_41 41 3 ?_
 refine gI X4 hx hby d17_3 rfl rfl ?_
 refine gI X4 hx hby d17_5 rfl rfl ?_
 refine gY X4 hx hby d17_7 7 44 (flt (by decide : ¬ ((2 : Int32) < (2 : Int32)))).2.1 ?_
 refine gI X4 hx hby d17_44 rfl rfl ?_
 refine Goes.ret X4 (some (.int 2)) (fun h => by rw [hret] at h; cases h) hlk (by decide) (by decide) ?_ (fun fs hr => ?_)
 ·rw [e4]; exact ⟨rfl, N4, KP, V_y⟩
 ·exact retI X4 hx hret (hb hby d17_46) hr
theorem own_ef_rs_c3_2_2 (m : MethodId) (x0 : Addr) : entryFrame m #[(.ref x0), (.int 0), (.int 2)] 6 = mkF m 0 #[vr x0, vi 0, vi 2, vu, vu, vu] [] := by first | (simp [entryFrame, mkF, argsToLocals, Value.category]; done) | rfl
def Q_rs_c3_2_2 (Z : State) (x : Addr) (kx : ClassId) (c0 : Int32) (c1 : Int32) (h0 : Heap) (n0 : Nat) (v : Option Value) (h : Heap) (L : List Loc) : Prop := ∃ y : Addr, ∃ ky : ClassId, v = some (.ref y) ∧ Fr n0 L ∧ Keep h0 h [] ∧ Arv Z h y ky .byte 2 [(.int (lo8 c0)), (.int (lo8 c1))] (.int 0) ∧ n0 ≤ y ∧ h0.size ≤ y
theorem rs_c3_2_2 (l : Launch) (Z : State) (a0 : Array Value) (hw : HW a0 Z) (ws : List Jvm.Cond) (x : Addr) (kx : ClassId) (c0 : Int32) (c1 : Int32) (h0 : Heap) (n0 : Nat) (Z0 : n0 ≤ h0.size) (V_x : Arv Z h0 x kx .char 2 [(.int c0), (.int c1)] (.int 0)) (hn_c0 : ¬ ((255 : Int32) < c0)) (hn_c1 : ¬ ((255 : Int32) < c1)) :
  Met l Z mN18 jdk_52_method_16_code 6 (some (.array .byte)) ({ frames := 1, cells := 1, slots := 2, locals := 18 } : Room) ws #[(.ref x), (.int 0), (.int 2)] h0 (Q_rs_c3_2_2 Z x kx c0 c1 h0 n0) := by
 refine own_met (plainFor_of_name own_pn3) ?_
 intro p e s m below meth c s₁ hret hx hby hlk hml hown hnm X0 e0 hZ hh
 have N0 := Fr.nil n0
 refine Gz (castTop (own_ef_rs_c3_2_2 m x)) ?_
 have KP : Keep h0 h0 [] := Keep.refl _ _
 show GG (fT s₁ m 0 #[vr x, vi 0, vi 2, vu, vu, vu] [])
 refine gN X0 hx hby d18_0 rfl rfl ?_
 obtain ⟨T1, h1, k1, X1, e1, E1, A1, st1⟩ := newP X0 hx hZ (gw hw 22 rfl) e0 (g := (mkF m 1 #[vr x, vi 0, vi 2, vu, vu, vu] [(.int 2)])) rfl (hb hby d18_1) rfl (by decide) (cap := 2) (by decide) (by decide) (by decide) (by decide)
 obtain ⟨b1, gq1⟩ : ∃ z, z = h0.size := ⟨_, rfl⟩
 rw [← gq1] at A1 st1
 have g_b1 : n0 ≤ b1 := by rw [gq1]; exact Z0
 have sz_b1 : h0.size ≤ b1 := by rw [gq1]; exact KP.1
 have ne_x_b1 : x ≠ b1 := by rw [gq1]; exact Nat.ne_of_lt V_x.lt
 replace V_x := V_x.ext E1
 replace KP := KP.ext E1
 replace Z0 : n0 ≤ h1.size := Nat.le_trans Z0 E1.1
 have V_b1 : Arv Z h1 b1 k1 .byte 2 [(.int 0), (.int 0)] (.int 0) := (Arv.new A1 (by decide)).pad (pad_rep [] (.int 0) 2)
 refine Gs st1 ?_
 show GG (fT T1 m 3 #[vr x, vi 0, vi 2, vu, vu, vu] [(.ref b1)])
 refine Gz (XS.astoreN X1.here hx rfl (hb hby d18_3) rfl rfl (l' := #[vr x, vi 0, vi 2, vr b1, vu, vu]) rfl) ?_
 refine gA X1 hx hby d18_4 rfl rfl rfl ?_
 refine gN X1 hx hby d18_5 rfl rfl ?_
 refine gA X1 hx hby d18_6 rfl rfl rfl ?_
 refine gC X1 hx hby d18_7 ?_
 refine gN X1 hx hby d18_8 rfl rfl ?_
 show GG (fT T1 m 9 #[vr x, vi 0, vi 2, vr b1, vu, vu] [(.int 2), (.int 0), (.ref b1), (.int 0), (.ref x)])
 refine cSg X1 hx hZ hw hown hby hml e1 mN17 171 172 173 169 0 (rs_c5_2_2 l Z a0 hw [] x kx b1 k1 c0 c1 h1 n0 Z0 V_x V_b1 g_b1 ne_x_b1 hn_c0 hn_c1) d18_9 (lenOf own_pd11 rfl) (fun _ T2 L2 X2 hQ2 => ?_)
 obtain ⟨rfl, N2q, K2, V_b1_2'⟩ := hQ2
 have N2 := Fr.app N0 N2q
 replace KP := KP.trans K2 (allS (Or.inr sz_b1) all0)
 replace Z0 := Nat.le_trans Z0 K2.1
 have V_b1 := V_b1_2'
 show GG (fT T2 m 12 #[vr x, vi 0, vi 2, vr b1, vu, vu] [(.int 2)])
 refine gS X2 hx hby d18_12 #[vr x, vi 0, vi 2, vr b1, vi 2, vu] ?_
 refine gI X2 hx hby d18_14 rfl rfl ?_
 refine gN X2 hx hby d18_16 rfl rfl ?_
 refine gY X2 hx hby d18_17 17 57 (teq (by decide : ((2 : Int32) = (2 : Int32)))).1 ?_
 refine gA X2 hx hby d18_57 rfl rfl rfl ?_
 refine Goes.ret X2 (some (.ref b1)) (fun h => by rw [hret] at h; cases h) hlk (by decide) (by decide) ?_ (fun fs hr => ?_)
 ·exact ⟨b1, k1, rfl, N2, KP, V_b1, g_b1, sz_b1⟩
 ·exact own_retA X2 hx hret rfl rfl (hb hby d18_58) hr
theorem own_ef_rs_cf_2_2 (m : MethodId) (x0 : Addr) : entryFrame m #[(.ref x0), (.int 2)] 2 = mkF m 0 #[vr x0, vi 2] [] := by first | (simp [entryFrame, mkF, argsToLocals, Value.category]; done) | rfl
def Q_rs_cf_2_2 (Z : State) (y : Addr) (ky : ClassId) (vs : List Value) (h0 : Heap) (n0 : Nat) (v : Option Value) (h : Heap) (L : List Loc) : Prop := v = some (.int 0) ∧ Fr n0 L ∧ h = h0
theorem rs_cf_2_2 (l : Launch) (Z : State) (a0 : Array Value) (hw : HW a0 Z) (ws : List Jvm.Cond) (y : Addr) (ky : ClassId) (vs : List Value) (h0 : Heap) (n0 : Nat) (Z0 : n0 ≤ h0.size) (V_y : Arv Z h0 y ky .byte 2 vs (.int 0)) :
  Met l Z mN19 jdk_52_method_15_code 2 (some .byte) ({ frames := 0, cells := 0, slots := 0, locals := 0 } : Room) ws #[(.ref y), (.int 2)] h0 (Q_rs_cf_2_2 Z y ky vs h0 n0) := by
 refine own_met (plainFor_of_name own_pn3) ?_
 intro p e s m below meth c s₁ hret hx hby hlk hml hown hnm X0 e0 hZ hh
 have N0 := Fr.nil n0
 refine Gz (castTop (own_ef_rs_cf_2_2 m y)) ?_
 show GG (fT s₁ m 0 #[vr y, vi 2] [])
 refine gN X0 hx hby d19_0 rfl rfl ?_
 refine gA X0 hx hby d19_1 rfl rfl rfl ?_
 obtain ⟨cl1, Ar1, -, S1, N1z, -, -⟩ := id V_y
 refine Gs (fun _ tk => X0.arraylength hx (by rw [e0]; exact Ar1.1) (State.isArrayOf_alike hZ.alike Ar1.2.1) (g := (mkF m 2 #[vr y, vi 2] [(.ref y), (.int 2)])) rfl rfl (hb hby d19_2) _ tk) ?_
 rw [len_of S1 N1z]
 show GG (fT s₁ m 3 #[vr y, vi 2] [(.int 2), (.int 2)])
 refine Gz (XS.isub X0.here hx rfl (hb hby d19_3) rfl) ?_
 show GG (fT s₁ m 4 #[vr y, vi 2] [(.int 0)])
 refine gB X0 hx hby d19_4 ?_
 show GG (fT s₁ m 6 #[vr y, vi 2] [(.int 31), (.int 0)])
 refine Gz (XS.iushr X0.here hx rfl (hb hby d19_6) rfl) ?_
 rw [show (((0 : Int32).toUInt32 >>> ((31 : Int32) &&& 31).toUInt32).toInt32) = (0 : Int32) from by decide]
 show GG (fT s₁ m 7 #[vr y, vi 2] [(.int 0)])
 refine Gz (XS.i2b X0.here hx rfl (hb hby d19_7) rfl) ?_
 rw [show ((0 : Int32).toInt8.toInt32) = (0 : Int32) from by decide]
 show GG (fT s₁ m 8 #[vr y, vi 2] [(.int 0)])
 refine Goes.ret X0 (some (.int 0)) (fun h => by rw [hret] at h; cases h) hlk (by decide) (by decide) ?_ (fun fs hr => ?_)
 ·exact ⟨rfl, N0, e0⟩
 ·exact own_retN X0 hx (t := .byte) hret (by simp) rfl (hb hby d19_8) hr
theorem own_ef_rs_cf_2_4 (m : MethodId) (x0 : Addr) : entryFrame m #[(.ref x0), (.int 2)] 2 = mkF m 0 #[vr x0, vi 2] [] := by first | (simp [entryFrame, mkF, argsToLocals, Value.category]; done) | rfl
def Q_rs_cf_2_4 (Z : State) (y : Addr) (ky : ClassId) (vs : List Value) (h0 : Heap) (n0 : Nat) (v : Option Value) (h : Heap) (L : List Loc) : Prop := v = some (.int 1) ∧ Fr n0 L ∧ h = h0
theorem rs_cf_2_4 (l : Launch) (Z : State) (a0 : Array Value) (hw : HW a0 Z) (ws : List Jvm.Cond) (y : Addr) (ky : ClassId) (vs : List Value) (h0 : Heap) (n0 : Nat) (Z0 : n0 ≤ h0.size) (V_y : Arv Z h0 y ky .byte 4 vs (.int 0)) :
  Met l Z mN19 jdk_52_method_15_code 2 (some .byte) ({ frames := 0, cells := 0, slots := 0, locals := 0 } : Room) ws #[(.ref y), (.int 2)] h0 (Q_rs_cf_2_4 Z y ky vs h0 n0) := by
 refine own_met (plainFor_of_name own_pn3) ?_
 intro p e s m below meth c s₁ hret hx hby hlk hml hown hnm X0 e0 hZ hh
 have N0 := Fr.nil n0
 refine Gz (castTop (own_ef_rs_cf_2_4 m y)) ?_
 show GG (fT s₁ m 0 #[vr y, vi 2] [])
 refine gN X0 hx hby d19_0 rfl rfl ?_
 refine gA X0 hx hby d19_1 rfl rfl rfl ?_
 obtain ⟨cl1, Ar1, -, S1, N1z, -, -⟩ := id V_y
 refine Gs (fun _ tk => X0.arraylength hx (by rw [e0]; exact Ar1.1) (State.isArrayOf_alike hZ.alike Ar1.2.1) (g := (mkF m 2 #[vr y, vi 2] [(.ref y), (.int 2)])) rfl rfl (hb hby d19_2) _ tk) ?_
 rw [len_of S1 N1z]
 show GG (fT s₁ m 3 #[vr y, vi 2] [(.int 4), (.int 2)])
 refine Gz (XS.isub X0.here hx rfl (hb hby d19_3) rfl) ?_
 rw [show ((2 : Int32) - (4 : Int32)) = (-2 : Int32) from by decide]
 show GG (fT s₁ m 4 #[vr y, vi 2] [(.int (-2 : Int32))])
 refine gB X0 hx hby d19_4 ?_
 show GG (fT s₁ m 6 #[vr y, vi 2] [(.int 31), (.int (-2 : Int32))])
 refine Gz (XS.iushr X0.here hx rfl (hb hby d19_6) rfl) ?_
 rw [show (((-2 : Int32).toUInt32 >>> ((31 : Int32) &&& 31).toUInt32).toInt32) = (1 : Int32) from by decide]
 show GG (fT s₁ m 7 #[vr y, vi 2] [(.int 1)])
 refine Gz (XS.i2b X0.here hx rfl (hb hby d19_7) rfl) ?_
 rw [show ((1 : Int32).toInt8.toInt32) = (1 : Int32) from by decide]
 show GG (fT s₁ m 8 #[vr y, vi 2] [(.int 1)])
 refine Goes.ret X0 (some (.int 1)) (fun h => by rw [hret] at h; cases h) hlk (by decide) (by decide) ?_ (fun fs hr => ?_)
 ·exact ⟨rfl, N0, e0⟩
 ·exact own_retN X0 hx (t := .byte) hret (by simp) rfl (hb hby d19_8) hr
theorem own_ef_rs_i4_2 (m : MethodId) (x0 : Addr) (x1 : Addr) : entryFrame m #[(.ref x0), (.ref x1), (.int 0), (.int 2), .null] 6 = mkF m 0 #[vr x0, vr x1, vi 0, vi 2, .val .null, vu] [] := by first | (simp [entryFrame, mkF, argsToLocals, Value.category]; done) | rfl
def Q_rs_i4_2 (Z : State) (a : Addr) (x : Addr) (kx : ClassId) (c0 : Int32) (c1 : Int32) (cz : Int32) (h0 : Heap) (n0 : Nat) (v : Option Value) (h : Heap) (L : List Loc) : Prop := v = none ∧ Fr n0 L ∧ Keep h0 h [a] ∧ StrOf Z h a [c0, c1]
theorem rs_i4_2 (l : Launch) (Z : State) (a0 : Array Value) (hw : HW a0 Z) (ws : List Jvm.Cond) (a : Addr) (x : Addr) (kx : ClassId) (c0 : Int32) (c1 : Int32) (cz : Int32) (h0 : Heap) (n0 : Nat) (Z0 : n0 ≤ h0.size) (A_a : Exa Z h0 a "java/lang/String") (F_value_a : Fld Z h0 a "java/lang/String" "value" "[B" .null) (F_coder_a : Fld Z h0 a "java/lang/String" "coder" "B" (.int 0)) (V_x : Arv Z h0 x kx .char 2 [(.int c0), (.int c1)] (.int 0)) (g_a : n0 ≤ a) (ne_x_a : x ≠ a) (sgC : Sta Z h0 "java/lang/String" "COMPACT_STRINGS" "Z" (.int cz)) (hcz : ¬ (cz = 0)) (hC_c0 : Chr c0) (hC_c1 : Chr c1) (sgA : Sta Z h0 "java/lang/StringUTF16" "$assertionsDisabled" "Z" (.int 1)) (sgH : Sta Z h0 "java/lang/StringUTF16" "HI_BYTE_SHIFT" "I" (.int 0)) (sgL : Sta Z h0 "java/lang/StringUTF16" "LO_BYTE_SHIFT" "I" (.int 8)) :
  Met l Z mN11 jdk_42_method_149_code 6 none ({ frames := 4, cells := 2, slots := 6, locals := 57 } : Room) ws #[(.ref a), (.ref x), (.int 0), (.int 2), .null] h0 (Q_rs_i4_2 Z a x kx c0 c1 cz h0 n0) := by
 refine own_met (plainFor_of_name own_pn0) ?_
 intro p e s m below meth c s₁ hret hx hby hlk hml hown hnm X0 e0 hZ hh
 have N0 := Fr.nil n0
 refine Gz (castTop (own_ef_rs_i4_2 m a x)) ?_
 have KP : Keep h0 h0 [a] := Keep.refl _ _
 show GG (fT s₁ m 0 #[vr a, vr x, vi 0, vi 2, .val .null, vu] [])
 by_cases hn_c0 : (255 : Int32) < c0
 ·show GG (fT s₁ m 0 #[vr a, vr x, vi 0, vi 2, .val .null, vu] [])
  refine gA X0 hx hby d11_0 rfl rfl rfl ?_
  obtain ⟨T1, X1, e1, st1⟩ := initO X0 hx hZ hown (gw hw 18 rfl) (gw hw 19 rfl) (gw hw 20 rfl) e0 (g := (mkF m 1 #[vr a, vr x, vi 0, vi 2, .val .null, vu] [(.ref a)])) rfl hml.symm rfl (hb hby d11_1) (by decide) (W := 0) (wz rfl) (by decide)
  refine Gs st1 ?_
  show GG (fT T1 m 4 #[vr a, vr x, vi 0, vi 2, .val .null, vu] [])
  refine gN X1 hx hby d11_4 rfl rfl ?_
  refine gy X1 hx hby d11_5 5 27 ((if0 _ _).trans (feq (by decide : ¬ ((2 : Int32) = (0 : Int32)))).2) ?_
  obtain ⟨T2, X2, e2, st2⟩ := getS2 X1 hx hZ hown (host := "") (Or.inl (gw hw 135 rfl)) Via.refl e1 sgC (g := (mkF m 27 #[vr a, vr x, vi 0, vi 2, .val .null, vu] [])) rfl (hb hby d11_27)
  refine Gs st2 ?_
  show GG (fT T2 m 30 #[vr a, vr x, vi 0, vi 2, .val .null, vu] [(.int cz)])
  refine gu X2 hx hby d11_30 ((if0 _ _).trans (feq hcz).1) ?_
  refine gA X2 hx hby d11_33 rfl rfl rfl ?_
  refine gN X2 hx hby d11_34 rfl rfl ?_
  refine gN X2 hx hby d11_35 rfl rfl ?_
  have ltc3_a : a < h0.size := A_a.lt
  have ltc3_x : x < h0.size := V_x.lt
  refine cSg X2 hx hZ hw hown hby hml e2 mN18 167 168 170 169 0 (rs_c3_2_0 l Z a0 hw [] x kx c0 c1 h0 n0 Z0 V_x (by first | assumption | decide) hC_c0 hC_c1 sgA sgH sgL) d11_36 (lenOf own_pd12 rfl) (fun _ T3 L3 X3 hQ3 => ?_)
  obtain ⟨y3, ky3, rfl, N3q, K3, V_y3_3', g_y3_3', sz_y3_3'⟩ := hQ3
  have N3 := Fr.app N0 N3q
  replace sgC := own_staK sgC K3 all0
  replace sgA := own_staK sgA K3 all0
  replace sgH := own_staK sgH K3 all0
  replace sgL := own_staK sgL K3 all0
  replace A_a := A_a.keep K3
  replace F_value_a := F_value_a.keep K3 nin0
  replace F_coder_a := F_coder_a.keep K3 nin0
  replace V_x := V_x.keep K3 nin0
  replace KP := KP.trans K3 all0
  replace Z0 := Nat.le_trans Z0 K3.1
  have V_y3 := V_y3_3'
  have g_y3 := g_y3_3'
  have szc_y3 := sz_y3_3'
  have ne_a_y3 : a ≠ y3 := Nat.ne_of_lt (Nat.lt_of_lt_of_le ltc3_a szc_y3)
  have ne_x_y3 : x ≠ y3 := Nat.ne_of_lt (Nat.lt_of_lt_of_le ltc3_x szc_y3)
  show GG (fT T3 m 39 #[vr a, vr x, vi 0, vi 2, .val .null, vu] [(.ref y3)])
  refine Gz (XS.astore X3.here hx rfl (hb hby d11_39) rfl rfl (l' := #[vr a, vr x, vi 0, vi 2, .val .null, vr y3]) rfl) ?_
  refine gA X3 hx hby d11_41 rfl rfl rfl ?_
  refine Gz (XS.aload X3.here hx rfl (hb hby d11_42) rfl rfl) ?_
  refine gN X3 hx hby d11_44 rfl rfl ?_
  refine cS X3 hx hZ hw hown hby hml rfl mN19 174 175 176 169 1 (rs_cf_2_4 l Z a0 hw [] y3 ky3 [(.int (lo8 c0)), (.int (hi8 c0)), (.int (lo8 c1)), (.int (hi8 c1))] T3.heap n0 Z0 V_y3) d11_45 (lenOf own_pd13 rfl) N3 (fun T4 L4 X4 e4 N4 => ?_)
  show GG (fT T4 m 48 #[vr a, vr x, vi 0, vi 2, .val .null, vr y3] [(.int 1), (.ref a)])
  obtain ⟨T5, h5, X5, e5, W5, st5⟩ := putFN X4 hx hZ hown (gw hw 28 rfl) Via.refl e4 F_coder_a A_a (Or.inr ⟨(gw hw 24 rfl), rfl, hnm⟩) (gw hw 8 rfl) (ty := .byte) (v' := .int 1) (by decide) rfl rfl (g := (mkF m 48 #[vr a, vr x, vi 0, vi 2, .val .null, vr y3] [(.int 1), (.ref a)])) rfl rfl (hb hby d11_48)
  have N5 := Fr.snoc X5 N4 g_a
  replace A_a := A_a.wr W5
  replace F_value_a := F_value_a.other W5 (Or.inr (slot_ne (Or.inr (gw hw 23 rfl)) (Or.inr (gw hw 24 rfl)) (by decide) (t := (.array .byte)) (t' := .byte) (by decide) (by decide)))
  replace V_x := V_x.other W5 ne_x_a
  replace sgC := sgC.wr W5
  replace sgA := sgA.wr W5
  replace sgH := sgH.wr W5
  replace sgL := sgL.wr W5
  replace V_y3 := V_y3.other W5 (Ne.symm ne_a_y3)
  replace KP := KP.wr W5 (Or.inl (List.mem_of_getElem? (i := 0) rfl))
  replace F_coder_a := F_coder_a.same W5
  replace Z0 : n0 ≤ h5.size := by rw [W5.size]; exact Z0
  refine Gs st5 ?_
  show GG (fT T5 m 51 #[vr a, vr x, vi 0, vi 2, .val .null, vr y3] [])
  refine gA X5 hx hby d11_51 rfl rfl rfl ?_
  refine Gz (XS.aload X5.here hx rfl (hb hby d11_52) rfl rfl) ?_
  obtain ⟨T6, h6, X6, e6, W6, st6⟩ := putF X5 hx hZ hown (host := "") (Or.inl (gw hw 27 rfl)) Via.refl e5 F_value_a A_a (Or.inr ⟨(gw hw 23 rfl), rfl, hnm⟩) (gw hw 8 rfl) (ty := (.array .byte)) (by decide) rfl rfl (g := (mkF m 54 #[vr a, vr x, vi 0, vi 2, .val .null, vr y3] [(.ref y3), (.ref a)])) rfl rfl (hb hby d11_54)
  have N6 := Fr.snoc X6 N5 g_a
  replace A_a := A_a.wr W6
  replace F_coder_a := F_coder_a.other W6 (Or.inr (slot_ne (Or.inr (gw hw 24 rfl)) (Or.inr (gw hw 23 rfl)) (by decide) (t := .byte) (t' := (.array .byte)) (by decide) (by decide)))
  replace V_x := V_x.other W6 ne_x_a
  replace sgC := sgC.wr W6
  replace sgA := sgA.wr W6
  replace sgH := sgH.wr W6
  replace sgL := sgL.wr W6
  replace V_y3 := V_y3.other W6 (Ne.symm ne_a_y3)
  replace KP := KP.wr W6 (Or.inl (List.mem_of_getElem? (i := 0) rfl))
  replace F_value_a := F_value_a.same W6
  replace Z0 : n0 ≤ h6.size := by rw [W6.size]; exact Z0
  refine Gs st6 ?_
  show GG (fT T6 m 57 #[vr a, vr x, vi 0, vi 2, .val .null, vr y3] [])
  have T_a : StrOf Z h6 a [c0, c1] := StrOf.utf A_a F_value_a F_coder_a V_y3 (by intro c hc; simp only [List.mem_cons, List.not_mem_nil, or_false] at hc; rcases hc with rfl | rfl <;> first | assumption | (exact own_toLat (by assumption) (by assumption))) rfl rfl (Nat.le_of_ble_eq_true rfl)
  refine Goes.ret X6 none (fun _ => rfl) hlk (by decide) (by decide) ?_ (fun fs hr => ?_)
  ·rw [e6]; exact ⟨rfl, N6, KP, T_a⟩
  ·exact X6.returnOut hx hret (hb hby d11_57) hr
 ·show GG (fT s₁ m 0 #[vr a, vr x, vi 0, vi 2, .val .null, vu] [])
  by_cases hn_c1 : (255 : Int32) < c1
  ·show GG (fT s₁ m 0 #[vr a, vr x, vi 0, vi 2, .val .null, vu] [])
   refine gA X0 hx hby d11_0 rfl rfl rfl ?_
   obtain ⟨T7, X7, e7, st7⟩ := initO X0 hx hZ hown (gw hw 18 rfl) (gw hw 19 rfl) (gw hw 20 rfl) e0 (g := (mkF m 1 #[vr a, vr x, vi 0, vi 2, .val .null, vu] [(.ref a)])) rfl hml.symm rfl (hb hby d11_1) (by decide) (W := 0) (wz rfl) (by decide)
   refine Gs st7 ?_
   show GG (fT T7 m 4 #[vr a, vr x, vi 0, vi 2, .val .null, vu] [])
   refine gN X7 hx hby d11_4 rfl rfl ?_
   refine gy X7 hx hby d11_5 5 27 ((if0 _ _).trans (feq (by decide : ¬ ((2 : Int32) = (0 : Int32)))).2) ?_
   obtain ⟨T8, X8, e8, st8⟩ := getS2 X7 hx hZ hown (host := "") (Or.inl (gw hw 135 rfl)) Via.refl e7 sgC (g := (mkF m 27 #[vr a, vr x, vi 0, vi 2, .val .null, vu] [])) rfl (hb hby d11_27)
   refine Gs st8 ?_
   show GG (fT T8 m 30 #[vr a, vr x, vi 0, vi 2, .val .null, vu] [(.int cz)])
   refine gu X8 hx hby d11_30 ((if0 _ _).trans (feq hcz).1) ?_
   refine gA X8 hx hby d11_33 rfl rfl rfl ?_
   refine gN X8 hx hby d11_34 rfl rfl ?_
   refine gN X8 hx hby d11_35 rfl rfl ?_
   have ltc9_a : a < h0.size := A_a.lt
   have ltc9_x : x < h0.size := V_x.lt
   refine cSg X8 hx hZ hw hown hby hml e8 mN18 167 168 170 169 0 (rs_c3_2_1 l Z a0 hw [] x kx c0 c1 h0 n0 Z0 V_x (by first | assumption | decide) (by first | assumption | decide) hC_c0 hC_c1 sgA sgH sgL) d11_36 (lenOf own_pd12 rfl) (fun _ T9 L9 X9 hQ9 => ?_)
   obtain ⟨y9, ky9, rfl, N9q, K9, V_y9_9', g_y9_9', sz_y9_9'⟩ := hQ9
   have N9 := Fr.app N0 N9q
   replace sgC := own_staK sgC K9 all0
   replace A_a := A_a.keep K9
   replace F_value_a := F_value_a.keep K9 nin0
   replace F_coder_a := F_coder_a.keep K9 nin0
   replace V_x := V_x.keep K9 nin0
   replace KP := KP.trans K9 all0
   replace Z0 := Nat.le_trans Z0 K9.1
   have V_y9 := V_y9_9'
   have g_y9 := g_y9_9'
   have szc_y9 := sz_y9_9'
   have ne_a_y9 : a ≠ y9 := Nat.ne_of_lt (Nat.lt_of_lt_of_le ltc9_a szc_y9)
   have ne_x_y9 : x ≠ y9 := Nat.ne_of_lt (Nat.lt_of_lt_of_le ltc9_x szc_y9)
   show GG (fT T9 m 39 #[vr a, vr x, vi 0, vi 2, .val .null, vu] [(.ref y9)])
   refine Gz (XS.astore X9.here hx rfl (hb hby d11_39) rfl rfl (l' := #[vr a, vr x, vi 0, vi 2, .val .null, vr y9]) rfl) ?_
   refine gA X9 hx hby d11_41 rfl rfl rfl ?_
   refine Gz (XS.aload X9.here hx rfl (hb hby d11_42) rfl rfl) ?_
   refine gN X9 hx hby d11_44 rfl rfl ?_
   refine cS X9 hx hZ hw hown hby hml rfl mN19 174 175 176 169 1 (rs_cf_2_4 l Z a0 hw [] y9 ky9 [(.int (lo8 c0)), (.int (hi8 c0)), (.int (lo8 c1)), (.int (hi8 c1))] T9.heap n0 Z0 V_y9) d11_45 (lenOf own_pd13 rfl) N9 (fun T10 L10 X10 e10 N10 => ?_)
   show GG (fT T10 m 48 #[vr a, vr x, vi 0, vi 2, .val .null, vr y9] [(.int 1), (.ref a)])
   obtain ⟨T11, h11, X11, e11, W11, st11⟩ := putFN X10 hx hZ hown (gw hw 28 rfl) Via.refl e10 F_coder_a A_a (Or.inr ⟨(gw hw 24 rfl), rfl, hnm⟩) (gw hw 8 rfl) (ty := .byte) (v' := .int 1) (by decide) rfl rfl (g := (mkF m 48 #[vr a, vr x, vi 0, vi 2, .val .null, vr y9] [(.int 1), (.ref a)])) rfl rfl (hb hby d11_48)
   have N11 := Fr.snoc X11 N10 g_a
   replace A_a := A_a.wr W11
   replace F_value_a := F_value_a.other W11 (Or.inr (slot_ne (Or.inr (gw hw 23 rfl)) (Or.inr (gw hw 24 rfl)) (by decide) (t := (.array .byte)) (t' := .byte) (by decide) (by decide)))
   replace V_x := V_x.other W11 ne_x_a
   replace sgC := sgC.wr W11
   replace V_y9 := V_y9.other W11 (Ne.symm ne_a_y9)
   replace KP := KP.wr W11 (Or.inl (List.mem_of_getElem? (i := 0) rfl))
   replace F_coder_a := F_coder_a.same W11
   replace Z0 : n0 ≤ h11.size := by rw [W11.size]; exact Z0
   refine Gs st11 ?_
   show GG (fT T11 m 51 #[vr a, vr x, vi 0, vi 2, .val .null, vr y9] [])
   refine gA X11 hx hby d11_51 rfl rfl rfl ?_
   refine Gz (XS.aload X11.here hx rfl (hb hby d11_52) rfl rfl) ?_
   obtain ⟨T12, h12, X12, e12, W12, st12⟩ := putF X11 hx hZ hown (host := "") (Or.inl (gw hw 27 rfl)) Via.refl e11 F_value_a A_a (Or.inr ⟨(gw hw 23 rfl), rfl, hnm⟩) (gw hw 8 rfl) (ty := (.array .byte)) (by decide) rfl rfl (g := (mkF m 54 #[vr a, vr x, vi 0, vi 2, .val .null, vr y9] [(.ref y9), (.ref a)])) rfl rfl (hb hby d11_54)
   have N12 := Fr.snoc X12 N11 g_a
   replace A_a := A_a.wr W12
   replace F_coder_a := F_coder_a.other W12 (Or.inr (slot_ne (Or.inr (gw hw 24 rfl)) (Or.inr (gw hw 23 rfl)) (by decide) (t := .byte) (t' := (.array .byte)) (by decide) (by decide)))
   replace V_x := V_x.other W12 ne_x_a
   replace sgC := sgC.wr W12
   replace V_y9 := V_y9.other W12 (Ne.symm ne_a_y9)
   replace KP := KP.wr W12 (Or.inl (List.mem_of_getElem? (i := 0) rfl))
   replace F_value_a := F_value_a.same W12
   replace Z0 : n0 ≤ h12.size := by rw [W12.size]; exact Z0
   refine Gs st12 ?_
   show GG (fT T12 m 57 #[vr a, vr x, vi 0, vi 2, .val .null, vr y9] [])
   have T_a : StrOf Z h12 a [c0, c1] := StrOf.utf A_a F_value_a F_coder_a V_y9 (by intro c hc; simp only [List.mem_cons, List.not_mem_nil, or_false] at hc; rcases hc with rfl | rfl <;> first | assumption | (exact own_toLat (by assumption) (by assumption))) rfl rfl (Nat.le_of_ble_eq_true rfl)
   refine Goes.ret X12 none (fun _ => rfl) hlk (by decide) (by decide) ?_ (fun fs hr => ?_)
   ·rw [e12]; exact ⟨rfl, N12, KP, T_a⟩
   ·exact X12.returnOut hx hret (hb hby d11_57) hr
  ·show GG (fT s₁ m 0 #[vr a, vr x, vi 0, vi 2, .val .null, vu] [])
   refine gA X0 hx hby d11_0 rfl rfl rfl ?_
   obtain ⟨T13, X13, e13, st13⟩ := initO X0 hx hZ hown (gw hw 18 rfl) (gw hw 19 rfl) (gw hw 20 rfl) e0 (g := (mkF m 1 #[vr a, vr x, vi 0, vi 2, .val .null, vu] [(.ref a)])) rfl hml.symm rfl (hb hby d11_1) (by decide) (W := 0) (wz rfl) (by decide)
   refine Gs st13 ?_
   show GG (fT T13 m 4 #[vr a, vr x, vi 0, vi 2, .val .null, vu] [])
   refine gN X13 hx hby d11_4 rfl rfl ?_
   refine gy X13 hx hby d11_5 5 27 ((if0 _ _).trans (feq (by decide : ¬ ((2 : Int32) = (0 : Int32)))).2) ?_
   obtain ⟨T14, X14, e14, st14⟩ := getS2 X13 hx hZ hown (host := "") (Or.inl (gw hw 135 rfl)) Via.refl e13 sgC (g := (mkF m 27 #[vr a, vr x, vi 0, vi 2, .val .null, vu] [])) rfl (hb hby d11_27)
   refine Gs st14 ?_
   show GG (fT T14 m 30 #[vr a, vr x, vi 0, vi 2, .val .null, vu] [(.int cz)])
   refine gu X14 hx hby d11_30 ((if0 _ _).trans (feq hcz).1) ?_
   refine gA X14 hx hby d11_33 rfl rfl rfl ?_
   refine gN X14 hx hby d11_34 rfl rfl ?_
   refine gN X14 hx hby d11_35 rfl rfl ?_
   have ltc15_a : a < h0.size := A_a.lt
   have ltc15_x : x < h0.size := V_x.lt
   refine cSg X14 hx hZ hw hown hby hml e14 mN18 167 168 170 169 0 (rs_c3_2_2 l Z a0 hw [] x kx c0 c1 h0 n0 Z0 V_x (by first | assumption | decide) (by first | assumption | decide)) d11_36 (lenOf own_pd12 rfl) (fun _ T15 L15 X15 hQ15 => ?_)
   obtain ⟨y15, ky15, rfl, N15q, K15, V_y15_15', g_y15_15', sz_y15_15'⟩ := hQ15
   have N15 := Fr.app N0 N15q
   replace A_a := A_a.keep K15
   replace F_value_a := F_value_a.keep K15 nin0
   replace F_coder_a := F_coder_a.keep K15 nin0
   replace KP := KP.trans K15 all0
   replace Z0 := Nat.le_trans Z0 K15.1
   have V_y15 := V_y15_15'
   have g_y15 := g_y15_15'
   have szc_y15 := sz_y15_15'
   have ne_a_y15 : a ≠ y15 := Nat.ne_of_lt (Nat.lt_of_lt_of_le ltc15_a szc_y15)
   have ne_x_y15 : x ≠ y15 := Nat.ne_of_lt (Nat.lt_of_lt_of_le ltc15_x szc_y15)
   show GG (fT T15 m 39 #[vr a, vr x, vi 0, vi 2, .val .null, vu] [(.ref y15)])
   refine Gz (XS.astore X15.here hx rfl (hb hby d11_39) rfl rfl (l' := #[vr a, vr x, vi 0, vi 2, .val .null, vr y15]) rfl) ?_
   refine gA X15 hx hby d11_41 rfl rfl rfl ?_
   refine Gz (XS.aload X15.here hx rfl (hb hby d11_42) rfl rfl) ?_
   refine gN X15 hx hby d11_44 rfl rfl ?_
   refine cS X15 hx hZ hw hown hby hml rfl mN19 174 175 176 169 1 (rs_cf_2_2 l Z a0 hw [] y15 ky15 [(.int (lo8 c0)), (.int (lo8 c1))] T15.heap n0 Z0 V_y15) d11_45 (lenOf own_pd13 rfl) N15 (fun T16 L16 X16 e16 N16 => ?_)
   show GG (fT T16 m 48 #[vr a, vr x, vi 0, vi 2, .val .null, vr y15] [(.int 0), (.ref a)])
   obtain ⟨T17, h17, X17, e17, W17, st17⟩ := putFN X16 hx hZ hown (gw hw 28 rfl) Via.refl e16 F_coder_a A_a (Or.inr ⟨(gw hw 24 rfl), rfl, hnm⟩) (gw hw 8 rfl) (ty := .byte) (v' := .int 0) (by decide) rfl rfl (g := (mkF m 48 #[vr a, vr x, vi 0, vi 2, .val .null, vr y15] [(.int 0), (.ref a)])) rfl rfl (hb hby d11_48)
   have N17 := Fr.snoc X17 N16 g_a
   replace A_a := A_a.wr W17
   replace F_value_a := F_value_a.other W17 (Or.inr (slot_ne (Or.inr (gw hw 23 rfl)) (Or.inr (gw hw 24 rfl)) (by decide) (t := (.array .byte)) (t' := .byte) (by decide) (by decide)))
   replace V_y15 := V_y15.other W17 (Ne.symm ne_a_y15)
   replace KP := KP.wr W17 (Or.inl (List.mem_of_getElem? (i := 0) rfl))
   replace F_coder_a := F_coder_a.same W17
   replace Z0 : n0 ≤ h17.size := by rw [W17.size]; exact Z0
   refine Gs st17 ?_
   show GG (fT T17 m 51 #[vr a, vr x, vi 0, vi 2, .val .null, vr y15] [])
   refine gA X17 hx hby d11_51 rfl rfl rfl ?_
   refine Gz (XS.aload X17.here hx rfl (hb hby d11_52) rfl rfl) ?_
   obtain ⟨T18, h18, X18, e18, W18, st18⟩ := putF X17 hx hZ hown (host := "") (Or.inl (gw hw 27 rfl)) Via.refl e17 F_value_a A_a (Or.inr ⟨(gw hw 23 rfl), rfl, hnm⟩) (gw hw 8 rfl) (ty := (.array .byte)) (by decide) rfl rfl (g := (mkF m 54 #[vr a, vr x, vi 0, vi 2, .val .null, vr y15] [(.ref y15), (.ref a)])) rfl rfl (hb hby d11_54)
   have N18 := Fr.snoc X18 N17 g_a
   replace A_a := A_a.wr W18
   replace F_coder_a := F_coder_a.other W18 (Or.inr (slot_ne (Or.inr (gw hw 24 rfl)) (Or.inr (gw hw 23 rfl)) (by decide) (t := .byte) (t' := (.array .byte)) (by decide) (by decide)))
   replace V_y15 := V_y15.other W18 (Ne.symm ne_a_y15)
   replace KP := KP.wr W18 (Or.inl (List.mem_of_getElem? (i := 0) rfl))
   replace F_value_a := F_value_a.same W18
   replace Z0 : n0 ≤ h18.size := by rw [W18.size]; exact Z0
   refine Gs st18 ?_
   show GG (fT T18 m 57 #[vr a, vr x, vi 0, vi 2, .val .null, vr y15] [])
   have T_a : StrOf Z h18 a [c0, c1] := StrOf.latin A_a F_value_a F_coder_a V_y15 (by intro c hc; simp only [List.mem_cons, List.not_mem_nil, or_false] at hc; rcases hc with rfl | rfl <;> first | assumption | (exact own_toLat (by assumption) (by assumption))) rfl rfl (Nat.le_of_ble_eq_true rfl)
   refine Goes.ret X18 none (fun _ => rfl) hlk (by decide) (by decide) ?_ (fun fs hr => ?_)
   ·rw [e18]; exact ⟨rfl, N18, KP, T_a⟩
   ·exact X18.returnOut hx hret (hb hby d11_57) hr
theorem own_ef_rs_i1_2 (m : MethodId) (x0 : Addr) (x1 : Addr) : entryFrame m #[(.ref x0), (.ref x1)] 2 = mkF m 0 #[vr x0, vr x1] [] := by first | (simp [entryFrame, mkF, argsToLocals, Value.category]; done) | rfl
def Q_rs_i1_2 (Z : State) (a : Addr) (x : Addr) (kx : ClassId) (c0 : Int32) (c1 : Int32) (cz : Int32) (h0 : Heap) (n0 : Nat) (v : Option Value) (h : Heap) (L : List Loc) : Prop := v = none ∧ Fr n0 L ∧ Keep h0 h [a] ∧ StrOf Z h a [c0, c1]
theorem rs_i1_2 (l : Launch) (Z : State) (a0 : Array Value) (hw : HW a0 Z) (ws : List Jvm.Cond) (a : Addr) (x : Addr) (kx : ClassId) (c0 : Int32) (c1 : Int32) (cz : Int32) (h0 : Heap) (n0 : Nat) (Z0 : n0 ≤ h0.size) (A_a : Exa Z h0 a "java/lang/String") (F_value_a : Fld Z h0 a "java/lang/String" "value" "[B" .null) (F_coder_a : Fld Z h0 a "java/lang/String" "coder" "B" (.int 0)) (V_x : Arv Z h0 x kx .char 2 [(.int c0), (.int c1)] (.int 0)) (g_a : n0 ≤ a) (ne_x_a : x ≠ a) (sgC : Sta Z h0 "java/lang/String" "COMPACT_STRINGS" "Z" (.int cz)) (hcz : ¬ (cz = 0)) (hC_c0 : Chr c0) (hC_c1 : Chr c1) (sgA : Sta Z h0 "java/lang/StringUTF16" "$assertionsDisabled" "Z" (.int 1)) (sgH : Sta Z h0 "java/lang/StringUTF16" "HI_BYTE_SHIFT" "I" (.int 0)) (sgL : Sta Z h0 "java/lang/StringUTF16" "LO_BYTE_SHIFT" "I" (.int 8)) :
  Met l Z mN12 jdk_42_method_3_code 2 none ({ frames := 5, cells := 2, slots := 6, locals := 74 } : Room) ws #[(.ref a), (.ref x)] h0 (Q_rs_i1_2 Z a x kx c0 c1 cz h0 n0) := by
 refine own_met (plainFor_of_name own_pn0) ?_
 intro p e s m below meth c s₁ hret hx hby hlk hml hown hnm X0 e0 hZ hh
 have N0 := Fr.nil n0
 refine Gz (castTop (own_ef_rs_i1_2 m a x)) ?_
 have KP : Keep h0 h0 [a] := Keep.refl _ _
 show GG (fT s₁ m 0 #[vr a, vr x] [])
 refine gA X0 hx hby d12_0 rfl rfl rfl ?_
 refine gA X0 hx hby d12_1 rfl rfl rfl ?_
 refine gC X0 hx hby d12_2 ?_
 refine gA X0 hx hby d12_3 rfl rfl rfl ?_
 obtain ⟨cl1, Ar1, -, S1, N1z, -, -⟩ := id V_x
 refine Gs (fun _ tk => X0.arraylength hx (by rw [e0]; exact Ar1.1) (State.isArrayOf_alike hZ.alike Ar1.2.1) (g := (mkF m 4 #[vr a, vr x] [(.ref x), (.int 0), (.ref x), (.ref a)])) rfl rfl (hb hby d12_4) _ tk) ?_
 rw [len_of S1 N1z]
 show GG (fT s₁ m 5 #[vr a, vr x] [(.int 2), (.int 0), (.ref x), (.ref a)])
 refine Gz (XS.aconstNull X0.here hx rfl (hb hby d12_5)) ?_
 refine cIg X0 hx hZ hw hown hby hml e0 mN11 14 15 17 9 0 (rs_i4_2 l Z a0 hw [] a x kx c0 c1 cz h0 n0 Z0 A_a F_value_a F_coder_a V_x g_a ne_x_a sgC hcz hC_c0 hC_c1 sgA sgH sgL) d12_6 (lenOf own_pd7 rfl) (fun _ T2 L2 X2 hQ2 => ?_)
 obtain ⟨rfl, N2q, K2, T_a_2'⟩ := hQ2
 have N2 := Fr.app N0 N2q
 replace KP := KP.trans K2 (allS (Or.inl (List.mem_of_getElem? (i := 0) rfl)) all0)
 replace Z0 := Nat.le_trans Z0 K2.1
 have T_a := T_a_2'
 show GG (fT T2 m 9 #[vr a, vr x] [])
 refine Goes.ret X2 none (fun _ => rfl) hlk (by decide) (by decide) ?_ (fun fs hr => ?_)
 ·exact ⟨rfl, N2, KP, T_a⟩
 ·exact X2.returnOut hx hret (hb hby d12_9) hr
theorem d20_0 : DK kc17 0 (.iload_n 0) 1 := by decide +kernel
theorem d20_1 : DK kc17 1 (.sipush 255) 3 := by decide +kernel
theorem d20_4 : DK kc17 4 (.if_icmp .gt 7) 3 := by decide +kernel
theorem d20_11 : DK kc17 11 (.iconst 0) 1 := by decide +kernel
theorem d20_12 : DK kc17 12 .ireturn 1 := by decide +kernel
theorem own_ef_rs_enc1 (m : MethodId) (x0 : Int32) : entryFrame m #[(.int x0)] 1 = mkF m 0 #[vi x0] [] := by first | (simp [entryFrame, mkF, argsToLocals, Value.category]; done) | rfl
def Q_rs_enc1 (Z : State) (c0 : Int32) (h0 : Heap) (n0 : Nat) (v : Option Value) (h : Heap) (L : List Loc) : Prop := v = some (.int 0) ∧ Fr n0 L ∧ h = h0
theorem rs_enc1 (l : Launch) (Z : State) (a0 : Array Value) (hw : HW a0 Z) (ws : List Jvm.Cond) (c0 : Int32) (h0 : Heap) (n0 : Nat) (Z0 : n0 ≤ h0.size) (hn_c0 : (255 : Int32) < c0) :
  Met l Z mN20 jdk_43_method_3_code 1 (some .boolean) ({ frames := 0, cells := 0, slots := 0, locals := 0 } : Room) ws #[(.int c0)] h0 (Q_rs_enc1 Z c0 h0 n0) := by
 refine own_met (plainFor_of_name own_pn2) ?_
 intro p e s m below meth c s₁ hret hx hby hlk hml hown hnm X0 e0 hZ hh
 have N0 := Fr.nil n0
 refine Gz (castTop (own_ef_rs_enc1 m c0)) ?_
 show GG (fT s₁ m 0 #[vi c0] [])
 refine gN X0 hx hby d20_0 rfl rfl ?_
 refine Gz (XS.sipush X0.here hx rfl (hb hby d20_1)) ?_
 refine gY X0 hx hby d20_4 4 11 (tlt hn_c0).2.2.1 ?_
 refine gC X0 hx hby d20_11 ?_
 refine Goes.ret X0 (some (.int 0)) (fun h => by rw [hret] at h; cases h) hlk (by decide) (by decide) ?_ (fun fs hr => ?_)
 ·exact ⟨rfl, N0, e0⟩
 ·exact own_retN X0 hx (t := .boolean) hret (by simp) rfl (hb hby d20_12) hr
theorem d20_7 : DK kc17 7 (.iconst 1) 1 := by decide +kernel
theorem d20_8 : DK kc17 8 (.goto 4) 3 := by decide +kernel
theorem own_ef_rs_enc0 (m : MethodId) (x0 : Int32) : entryFrame m #[(.int x0)] 1 = mkF m 0 #[vi x0] [] := by first | (simp [entryFrame, mkF, argsToLocals, Value.category]; done) | rfl
def Q_rs_enc0 (Z : State) (c0 : Int32) (h0 : Heap) (n0 : Nat) (v : Option Value) (h : Heap) (L : List Loc) : Prop := v = some (.int 1) ∧ Fr n0 L ∧ h = h0
theorem rs_enc0 (l : Launch) (Z : State) (a0 : Array Value) (hw : HW a0 Z) (ws : List Jvm.Cond) (c0 : Int32) (h0 : Heap) (n0 : Nat) (Z0 : n0 ≤ h0.size) (hn_c0 : ¬ ((255 : Int32) < c0)) :
  Met l Z mN20 jdk_43_method_3_code 1 (some .boolean) ({ frames := 0, cells := 0, slots := 0, locals := 0 } : Room) ws #[(.int c0)] h0 (Q_rs_enc0 Z c0 h0 n0) := by
 refine own_met (plainFor_of_name own_pn2) ?_
 intro p e s m below meth c s₁ hret hx hby hlk hml hown hnm X0 e0 hZ hh
 have N0 := Fr.nil n0
 refine Gz (castTop (own_ef_rs_enc0 m c0)) ?_
 show GG (fT s₁ m 0 #[vi c0] [])
 refine gN X0 hx hby d20_0 rfl rfl ?_
 refine Gz (XS.sipush X0.here hx rfl (hb hby d20_1)) ?_
 refine gU X0 hx hby d20_4 (flt hn_c0).2.2.1 ?_
 refine gC X0 hx hby d20_7 ?_
 refine gG X0 hx hby d20_8 8 12 ?_
 refine Goes.ret X0 (some (.int 1)) (fun h => by rw [hret] at h; cases h) hlk (by decide) (by decide) ?_ (fun fs hr => ?_)
 ·exact ⟨rfl, N0, e0⟩
 ·exact own_retN X0 hx (t := .boolean) hret (by simp) rfl (hb hby d20_12) hr
theorem d21_0 : DK kc18 0 (.iconst 1) 1 := by decide +kernel
theorem d21_1 : DK kc18 1 (.newarray .byte) 2 := by decide +kernel
theorem d21_3 : DK kc18 3 .dup 1 := by decide +kernel
theorem d21_4 : DK kc18 4 (.iconst 0) 1 := by decide +kernel
theorem d21_5 : DK kc18 5 (.iload_n 0) 1 := by decide +kernel
theorem d21_6 : DK kc18 6 .i2b 1 := by decide +kernel
theorem d21_7 : DK kc18 7 .bastore 1 := by decide +kernel
theorem d21_8 : DK kc18 8 .areturn 1 := by decide +kernel
theorem own_ef_rs_ltb (m : MethodId) (x0 : Int32) : entryFrame m #[(.int x0)] 1 = mkF m 0 #[vi x0] [] := by first | (simp [entryFrame, mkF, argsToLocals, Value.category]; done) | rfl
def Q_rs_ltb (Z : State) (c0 : Int32) (h0 : Heap) (n0 : Nat) (v : Option Value) (h : Heap) (L : List Loc) : Prop := ∃ y : Addr, ∃ ky : ClassId, v = some (.ref y) ∧ Fr n0 L ∧ Keep h0 h [] ∧ Arv Z h y ky .byte 1 [(.int (lo8 c0))] (.int 0) ∧ n0 ≤ y ∧ h0.size ≤ y
theorem rs_ltb (l : Launch) (Z : State) (a0 : Array Value) (hw : HW a0 Z) (ws : List Jvm.Cond) (c0 : Int32) (h0 : Heap) (n0 : Nat) (Z0 : n0 ≤ h0.size) :
  Met l Z mN21 jdk_43_method_46_code 1 (some (.array .byte)) ({ frames := 0, cells := 1, slots := 1, locals := 0 } : Room) ws #[(.int c0)] h0 (Q_rs_ltb Z c0 h0 n0) := by
 refine own_met (plainFor_of_name own_pn2) ?_
 intro p e s m below meth c s₁ hret hx hby hlk hml hown hnm X0 e0 hZ hh
 have N0 := Fr.nil n0
 refine Gz (castTop (own_ef_rs_ltb m c0)) ?_
 have KP : Keep h0 h0 [] := Keep.refl _ _
 show GG (fT s₁ m 0 #[vi c0] [])
 refine gC X0 hx hby d21_0 ?_
 obtain ⟨T1, h1, k1, X1, e1, E1, A1, st1⟩ := newP X0 hx hZ (gw hw 22 rfl) e0 (g := (mkF m 1 #[vi c0] [(.int 1)])) rfl (hb hby d21_1) rfl (by decide) (cap := 1) (by decide) (by decide) (by decide) (by decide)
 obtain ⟨b1, gq1⟩ : ∃ z, z = h0.size := ⟨_, rfl⟩
 rw [← gq1] at A1 st1
 have g_b1 : n0 ≤ b1 := by rw [gq1]; exact Z0
 have sz_b1 : h0.size ≤ b1 := by rw [gq1]; exact KP.1
 replace KP := KP.ext E1
 replace Z0 : n0 ≤ h1.size := Nat.le_trans Z0 E1.1
 have V_b1 : Arv Z h1 b1 k1 .byte 1 [(.int 0)] (.int 0) := (Arv.new A1 (by decide)).pad (pad_rep [] (.int 0) 1)
 refine Gs st1 ?_
 show GG (fT T1 m 3 #[vi c0] [(.ref b1)])
 refine Gz (XS.dup X1.here hx rfl (hb hby d21_3) rfl rfl) ?_
 refine gC X1 hx hby d21_4 ?_
 refine gN X1 hx hby d21_5 rfl rfl ?_
 show GG (fT T1 m 6 #[vi c0] [(.int c0), (.int 0), (.ref b1), (.ref b1)])
 refine Gz (XS.i2b X1.here hx rfl (hb hby d21_6) rfl) ?_
 show GG (fT T1 m 7 #[vi c0] [(.int (c0.toInt8.toInt32)), (.int 0), (.ref b1), (.ref b1)])
 obtain ⟨cl2, Ar2, q2, S2, N2z, H2, G2⟩ := V_b1
 have hin2 : ¬ ((0 : Int32) < 0 ∨ cl2.slots.size ≤ ((0 : Int32)).toNatClampNeg) := inb_of S2 ⟨by decide, by decide⟩
 obtain ⟨T2, h2, X2, e2, W2, st2⟩ := stB X1 hx hZ e1 Ar2 (j := (0 : Int32)) hin2 (g := (mkF m 7 #[vi c0] [(.int (c0.toInt8.toInt32)), (.int 0), (.ref b1), (.ref b1)])) rfl rfl (hb hby d21_7)
 have Vn2 := Arv.set Ar2 q2 S2 N2z H2 G2 (fits_nar_byte _) W2 0 rfl (Nat.le_of_ble_eq_true rfl)
 have N2 := Fr.snoc X2 N0 g_b1
 replace KP := KP.wr W2 (Or.inr sz_b1)
 have V_b1 : Arv Z h2 b1 k1 .byte 1 [(.int (lo8 c0))] (.int 0) := by have q := Vn2; rw [own_nb2] at q; exact q
 replace Z0 : n0 ≤ h2.size := by rw [W2.size]; exact Z0
 refine Gs st2 ?_
 show GG (fT T2 m 8 #[vi c0] [(.ref b1)])
 refine Goes.ret X2 (some (.ref b1)) (fun h => by rw [hret] at h; cases h) hlk (by decide) (by decide) ?_ (fun fs hr => ?_)
 ·rw [e2]; exact ⟨b1, k1, rfl, N2, KP, V_b1, g_b1, sz_b1⟩
 ·exact own_retA X2 hx hret rfl rfl (hb hby d21_8) hr
theorem d22_0 : DK kc24 0 (.iconst 2) 1 := by decide +kernel
theorem d22_1 : DK kc24 1 (.newarray .byte) 2 := by decide +kernel
theorem d22_3 : DK kc24 3 (.astore_n 1) 1 := by decide +kernel
theorem d22_4 : DK kc24 4 (.aload_n 1) 1 := by decide +kernel
theorem d22_5 : DK kc24 5 (.iconst 0) 1 := by decide +kernel
theorem d22_6 : DK kc24 6 (.iload_n 0) 1 := by decide +kernel
theorem d22_7 : DK kc24 7 (.invokestatic 111) 3 := by decide +kernel
theorem d22_10 : DK kc24 10 (.aload_n 1) 1 := by decide +kernel
theorem d22_11 : DK kc24 11 .areturn 1 := by decide +kernel
theorem own_ef_rs_utb (m : MethodId) (x0 : Int32) : entryFrame m #[(.int x0)] 2 = mkF m 0 #[vi x0, vu] [] := by first | (simp [entryFrame, mkF, argsToLocals, Value.category]; done) | rfl
def Q_rs_utb (Z : State) (c0 : Int32) (h0 : Heap) (n0 : Nat) (v : Option Value) (h : Heap) (L : List Loc) : Prop := ∃ y : Addr, ∃ ky : ClassId, v = some (.ref y) ∧ Fr n0 L ∧ Keep h0 h [] ∧ Arv Z h y ky .byte 2 [(.int (lo8 c0)), (.int (hi8 c0))] (.int 0) ∧ n0 ≤ y ∧ h0.size ≤ y
theorem rs_utb (l : Launch) (Z : State) (a0 : Array Value) (hw : HW a0 Z) (ws : List Jvm.Cond) (c0 : Int32) (h0 : Heap) (n0 : Nat) (Z0 : n0 ≤ h0.size) (sgA : Sta Z h0 "java/lang/StringUTF16" "$assertionsDisabled" "Z" (.int 1)) (sgH : Sta Z h0 "java/lang/StringUTF16" "HI_BYTE_SHIFT" "I" (.int 0)) (sgL : Sta Z h0 "java/lang/StringUTF16" "LO_BYTE_SHIFT" "I" (.int 8)) :
  Met l Z mN22 jdk_52_method_24_code 2 (some (.array .byte)) ({ frames := 1, cells := 1, slots := 2, locals := 14 } : Room) ws #[(.int c0)] h0 (Q_rs_utb Z c0 h0 n0) := by
 refine own_met (plainFor_of_name own_pn3) ?_
 intro p e s m below meth c s₁ hret hx hby hlk hml hown hnm X0 e0 hZ hh
 have N0 := Fr.nil n0
 refine Gz (castTop (own_ef_rs_utb m c0)) ?_
 have KP : Keep h0 h0 [] := Keep.refl _ _
 show GG (fT s₁ m 0 #[vi c0, vu] [])
 refine gC X0 hx hby d22_0 ?_
 obtain ⟨T1, h1, k1, X1, e1, E1, A1, st1⟩ := newP X0 hx hZ (gw hw 22 rfl) e0 (g := (mkF m 1 #[vi c0, vu] [(.int 2)])) rfl (hb hby d22_1) rfl (by decide) (cap := 2) (by decide) (by decide) (by decide) (by decide)
 obtain ⟨b1, gq1⟩ : ∃ z, z = h0.size := ⟨_, rfl⟩
 rw [← gq1] at A1 st1
 have g_b1 : n0 ≤ b1 := by rw [gq1]; exact Z0
 have sz_b1 : h0.size ≤ b1 := by rw [gq1]; exact KP.1
 replace sgA := sgA.ext E1
 replace sgH := sgH.ext E1
 replace sgL := sgL.ext E1
 replace KP := KP.ext E1
 replace Z0 : n0 ≤ h1.size := Nat.le_trans Z0 E1.1
 have V_b1 : Arv Z h1 b1 k1 .byte 2 [(.int 0), (.int 0)] (.int 0) := (Arv.new A1 (by decide)).pad (pad_rep [] (.int 0) 2)
 refine Gs st1 ?_
 show GG (fT T1 m 3 #[vi c0, vu] [(.ref b1)])
 refine Gz (XS.astoreN X1.here hx rfl (hb hby d22_3) rfl rfl (l' := #[vi c0, vr b1]) rfl) ?_
 refine gA X1 hx hby d22_4 rfl rfl rfl ?_
 refine gC X1 hx hby d22_5 ?_
 refine gN X1 hx hby d22_6 rfl rfl ?_
 refine cSg X1 hx hZ hw hown hby hml e1 mN13 223 224 225 169 0 (rs_pc_1_0 l Z a0 hw [] b1 k1 c0 h1 n0 Z0 V_b1 g_b1 sgA sgH sgL) d22_7 (lenOf own_pd10 rfl) (fun _ T2 L2 X2 hQ2 => ?_)
 obtain ⟨rfl, N2q, K2, V_b1_2'⟩ := hQ2
 have N2 := Fr.app N0 N2q
 replace KP := KP.trans K2 (allS (Or.inr sz_b1) all0)
 replace Z0 := Nat.le_trans Z0 K2.1
 have V_b1 := V_b1_2'
 show GG (fT T2 m 10 #[vi c0, vr b1] [])
 refine gA X2 hx hby d22_10 rfl rfl rfl ?_
 refine Goes.ret X2 (some (.ref b1)) (fun h => by rw [hret] at h; cases h) hlk (by decide) (by decide) ?_ (fun fs hr => ?_)
 ·exact ⟨b1, k1, rfl, N2, KP, V_b1, g_b1, sz_b1⟩
 ·exact own_retA X2 hx hret rfl rfl (hb hby d22_11) hr
theorem d23_0 : DK kc7 0 (.aload_n 0) 1 := by decide +kernel
theorem d23_1 : DK kc7 1 (.invokespecial 1) 3 := by decide +kernel
theorem d23_4 : DK kc7 4 (.aload_n 0) 1 := by decide +kernel
theorem d23_5 : DK kc7 5 (.aload_n 1) 1 := by decide +kernel
theorem d23_6 : DK kc7 6 (.putfield 9) 3 := by decide +kernel
theorem d23_9 : DK kc7 9 (.aload_n 0) 1 := by decide +kernel
theorem d23_10 : DK kc7 10 (.iload_n 2) 1 := by decide +kernel
theorem d23_11 : DK kc7 11 (.putfield 15) 3 := by decide +kernel
theorem d23_14 : DK kc7 14 .return_ 1 := by decide +kernel
theorem own_ef_rs_ibb0 (m : MethodId) (x0 : Addr) (x1 : Addr) : entryFrame m #[(.ref x0), (.ref x1), (.int 0)] 3 = mkF m 0 #[vr x0, vr x1, vi 0] [] := by first | (simp [entryFrame, mkF, argsToLocals, Value.category]; done) | rfl
def Q_rs_ibb0 (Z : State) (a : Addr) (y : Addr) (h0 : Heap) (n0 : Nat) (v : Option Value) (h : Heap) (L : List Loc) : Prop := v = none ∧ Fr n0 L ∧ Keep h0 h [a] ∧ Fld Z h a "java/lang/String" "value" "[B" (.ref y) ∧ Fld Z h a "java/lang/String" "coder" "B" (.int 0)
theorem rs_ibb0 (l : Launch) (Z : State) (a0 : Array Value) (hw : HW a0 Z) (ws : List Jvm.Cond) (a : Addr) (y : Addr) (h0 : Heap) (n0 : Nat) (Z0 : n0 ≤ h0.size) (A_a : Exa Z h0 a "java/lang/String") (F_value_a : Fld Z h0 a "java/lang/String" "value" "[B" .null) (F_coder_a : Fld Z h0 a "java/lang/String" "coder" "B" (.int 0)) (g_a : n0 ≤ a) :
  Met l Z mN23 jdk_42_method_151_code 3 none ({ frames := 1, cells := 0, slots := 0, locals := 12 } : Room) ws #[(.ref a), (.ref y), (.int 0)] h0 (Q_rs_ibb0 Z a y h0 n0) := by
 refine own_met (plainFor_of_name own_pn0) ?_
 intro p e s m below meth c s₁ hret hx hby hlk hml hown hnm X0 e0 hZ hh
 have N0 := Fr.nil n0
 refine Gz (castTop (own_ef_rs_ibb0 m a y)) ?_
 have KP : Keep h0 h0 [a] := Keep.refl _ _
 show GG (fT s₁ m 0 #[vr a, vr y, vi 0] [])
 refine gA X0 hx hby d23_0 rfl rfl rfl ?_
 obtain ⟨T1, X1, e1, st1⟩ := initO X0 hx hZ hown (gw hw 18 rfl) (gw hw 19 rfl) (gw hw 20 rfl) e0 (g := (mkF m 1 #[vr a, vr y, vi 0] [(.ref a)])) rfl hml.symm rfl (hb hby d23_1) (by decide) (W := 0) (wz rfl) (by decide)
 refine Gs st1 ?_
 show GG (fT T1 m 4 #[vr a, vr y, vi 0] [])
 refine gA X1 hx hby d23_4 rfl rfl rfl ?_
 refine gA X1 hx hby d23_5 rfl rfl rfl ?_
 obtain ⟨T2, h2, X2, e2, W2, st2⟩ := putF X1 hx hZ hown (host := "") (Or.inl (gw hw 27 rfl)) Via.refl e1 F_value_a A_a (Or.inr ⟨(gw hw 23 rfl), rfl, hnm⟩) (gw hw 8 rfl) (ty := (.array .byte)) (by decide) rfl rfl (g := (mkF m 6 #[vr a, vr y, vi 0] [(.ref y), (.ref a)])) rfl rfl (hb hby d23_6)
 have N2 := Fr.snoc X2 N0 g_a
 replace A_a := A_a.wr W2
 replace F_coder_a := F_coder_a.other W2 (Or.inr (slot_ne (Or.inr (gw hw 24 rfl)) (Or.inr (gw hw 23 rfl)) (by decide) (t := .byte) (t' := (.array .byte)) (by decide) (by decide)))
 replace KP := KP.wr W2 (Or.inl (List.mem_of_getElem? (i := 0) rfl))
 replace F_value_a := F_value_a.same W2
 replace Z0 : n0 ≤ h2.size := by rw [W2.size]; exact Z0
 refine Gs st2 ?_
 show GG (fT T2 m 9 #[vr a, vr y, vi 0] [])
 refine gA X2 hx hby d23_9 rfl rfl rfl ?_
 refine gN X2 hx hby d23_10 rfl rfl ?_
 obtain ⟨T3, h3, X3, e3, W3, st3⟩ := putFN X2 hx hZ hown (gw hw 28 rfl) Via.refl e2 F_coder_a A_a (Or.inr ⟨(gw hw 24 rfl), rfl, hnm⟩) (gw hw 8 rfl) (ty := .byte) (v' := .int 0) (by decide) rfl rfl (g := (mkF m 11 #[vr a, vr y, vi 0] [(.int 0), (.ref a)])) rfl rfl (hb hby d23_11)
 have N3 := Fr.snoc X3 N2 g_a
 replace F_value_a := F_value_a.other W3 (Or.inr (slot_ne (Or.inr (gw hw 23 rfl)) (Or.inr (gw hw 24 rfl)) (by decide) (t := (.array .byte)) (t' := .byte) (by decide) (by decide)))
 replace KP := KP.wr W3 (Or.inl (List.mem_of_getElem? (i := 0) rfl))
 replace F_coder_a := F_coder_a.same W3
 replace Z0 : n0 ≤ h3.size := by rw [W3.size]; exact Z0
 refine Gs st3 ?_
 show GG (fT T3 m 14 #[vr a, vr y, vi 0] [])
 refine Goes.ret X3 none (fun _ => rfl) hlk (by decide) (by decide) ?_ (fun fs hr => ?_)
 ·rw [e3]; exact ⟨rfl, N3, KP, F_value_a, F_coder_a⟩
 ·exact X3.returnOut hx hret (hb hby d23_14) hr
theorem own_ef_rs_ibb1 (m : MethodId) (x0 : Addr) (x1 : Addr) : entryFrame m #[(.ref x0), (.ref x1), (.int 1)] 3 = mkF m 0 #[vr x0, vr x1, vi 1] [] := by first | (simp [entryFrame, mkF, argsToLocals, Value.category]; done) | rfl
def Q_rs_ibb1 (Z : State) (a : Addr) (y : Addr) (h0 : Heap) (n0 : Nat) (v : Option Value) (h : Heap) (L : List Loc) : Prop := v = none ∧ Fr n0 L ∧ Keep h0 h [a] ∧ Fld Z h a "java/lang/String" "value" "[B" (.ref y) ∧ Fld Z h a "java/lang/String" "coder" "B" (.int 1)
theorem rs_ibb1 (l : Launch) (Z : State) (a0 : Array Value) (hw : HW a0 Z) (ws : List Jvm.Cond) (a : Addr) (y : Addr) (h0 : Heap) (n0 : Nat) (Z0 : n0 ≤ h0.size) (A_a : Exa Z h0 a "java/lang/String") (F_value_a : Fld Z h0 a "java/lang/String" "value" "[B" .null) (F_coder_a : Fld Z h0 a "java/lang/String" "coder" "B" (.int 0)) (g_a : n0 ≤ a) :
  Met l Z mN23 jdk_42_method_151_code 3 none ({ frames := 1, cells := 0, slots := 0, locals := 12 } : Room) ws #[(.ref a), (.ref y), (.int 1)] h0 (Q_rs_ibb1 Z a y h0 n0) := by
 refine own_met (plainFor_of_name own_pn0) ?_
 intro p e s m below meth c s₁ hret hx hby hlk hml hown hnm X0 e0 hZ hh
 have N0 := Fr.nil n0
 refine Gz (castTop (own_ef_rs_ibb1 m a y)) ?_
 have KP : Keep h0 h0 [a] := Keep.refl _ _
 show GG (fT s₁ m 0 #[vr a, vr y, vi 1] [])
 refine gA X0 hx hby d23_0 rfl rfl rfl ?_
 obtain ⟨T1, X1, e1, st1⟩ := initO X0 hx hZ hown (gw hw 18 rfl) (gw hw 19 rfl) (gw hw 20 rfl) e0 (g := (mkF m 1 #[vr a, vr y, vi 1] [(.ref a)])) rfl hml.symm rfl (hb hby d23_1) (by decide) (W := 0) (wz rfl) (by decide)
 refine Gs st1 ?_
 show GG (fT T1 m 4 #[vr a, vr y, vi 1] [])
 refine gA X1 hx hby d23_4 rfl rfl rfl ?_
 refine gA X1 hx hby d23_5 rfl rfl rfl ?_
 obtain ⟨T2, h2, X2, e2, W2, st2⟩ := putF X1 hx hZ hown (host := "") (Or.inl (gw hw 27 rfl)) Via.refl e1 F_value_a A_a (Or.inr ⟨(gw hw 23 rfl), rfl, hnm⟩) (gw hw 8 rfl) (ty := (.array .byte)) (by decide) rfl rfl (g := (mkF m 6 #[vr a, vr y, vi 1] [(.ref y), (.ref a)])) rfl rfl (hb hby d23_6)
 have N2 := Fr.snoc X2 N0 g_a
 replace A_a := A_a.wr W2
 replace F_coder_a := F_coder_a.other W2 (Or.inr (slot_ne (Or.inr (gw hw 24 rfl)) (Or.inr (gw hw 23 rfl)) (by decide) (t := .byte) (t' := (.array .byte)) (by decide) (by decide)))
 replace KP := KP.wr W2 (Or.inl (List.mem_of_getElem? (i := 0) rfl))
 replace F_value_a := F_value_a.same W2
 replace Z0 : n0 ≤ h2.size := by rw [W2.size]; exact Z0
 refine Gs st2 ?_
 show GG (fT T2 m 9 #[vr a, vr y, vi 1] [])
 refine gA X2 hx hby d23_9 rfl rfl rfl ?_
 refine gN X2 hx hby d23_10 rfl rfl ?_
 obtain ⟨T3, h3, X3, e3, W3, st3⟩ := putFN X2 hx hZ hown (gw hw 28 rfl) Via.refl e2 F_coder_a A_a (Or.inr ⟨(gw hw 24 rfl), rfl, hnm⟩) (gw hw 8 rfl) (ty := .byte) (v' := .int 1) (by decide) rfl rfl (g := (mkF m 11 #[vr a, vr y, vi 1] [(.int 1), (.ref a)])) rfl rfl (hb hby d23_11)
 have N3 := Fr.snoc X3 N2 g_a
 replace F_value_a := F_value_a.other W3 (Or.inr (slot_ne (Or.inr (gw hw 23 rfl)) (Or.inr (gw hw 24 rfl)) (by decide) (t := (.array .byte)) (t' := .byte) (by decide) (by decide)))
 replace KP := KP.wr W3 (Or.inl (List.mem_of_getElem? (i := 0) rfl))
 replace F_coder_a := F_coder_a.same W3
 replace Z0 : n0 ≤ h3.size := by rw [W3.size]; exact Z0
 refine Gs st3 ?_
 show GG (fT T3 m 14 #[vr a, vr y, vi 1] [])
 refine Goes.ret X3 none (fun _ => rfl) hlk (by decide) (by decide) ?_ (fun fs hr => ?_)
 ·rw [e3]; exact ⟨rfl, N3, KP, F_value_a, F_coder_a⟩
 ·exact X3.returnOut hx hret (hb hby d23_14) hr
theorem d24_0 : DK kc3 0 (.getstatic 38) 3 := by decide +kernel
theorem d24_3 : DK kc3 3 (.ifCond .eq 23) 3 := by decide +kernel
theorem d24_6 : DK kc3 6 (.iload_n 0) 1 := by decide +kernel
theorem d24_7 : DK kc3 7 (.invokestatic 1015) 3 := by decide +kernel
theorem own_pd14 : parseMethodDescriptor "(C)Z" = some ⟨[.char], some .boolean⟩ := by decide +kernel
theorem d24_10 : DK kc3 10 (.ifCond .eq 16) 3 := by decide +kernel
theorem d24_26 : DK kc3 26 (.new 10) 3 := by decide +kernel
theorem d24_29 : DK kc3 29 .dup 1 := by decide +kernel
theorem d24_30 : DK kc3 30 (.iload_n 0) 1 := by decide +kernel
theorem d24_31 : DK kc3 31 (.invokestatic 1021) 3 := by decide +kernel
theorem own_pd15 : parseMethodDescriptor "(C)[B" = some ⟨[.char], some (.array .byte)⟩ := by decide +kernel
theorem d24_34 : DK kc3 34 (.iconst 1) 1 := by decide +kernel
theorem d24_35 : DK kc3 35 (.invokespecial 209) 3 := by decide +kernel
theorem own_pd16 : parseMethodDescriptor "([BB)V" = some ⟨[(.array .byte), .byte], none⟩ := by decide +kernel
theorem d24_38 : DK kc3 38 .areturn 1 := by decide +kernel
theorem d24_13 : DK kc3 13 (.new 10) 3 := by decide +kernel
theorem d24_16 : DK kc3 16 .dup 1 := by decide +kernel
theorem d24_17 : DK kc3 17 (.iload_n 0) 1 := by decide +kernel
theorem d24_18 : DK kc3 18 (.invokestatic 1018) 3 := by decide +kernel
theorem d24_21 : DK kc3 21 (.iconst 0) 1 := by decide +kernel
theorem d24_22 : DK kc3 22 (.invokespecial 209) 3 := by decide +kernel
theorem d24_25 : DK kc3 25 .areturn 1 := by decide +kernel
theorem own_ef_rs_vo (m : MethodId) (x0 : Int32) : entryFrame m #[(.int x0)] 1 = mkF m 0 #[vi x0] [] := by first | (simp [entryFrame, mkF, argsToLocals, Value.category]; done) | rfl
def Q_rs_vo (Z : State) (c0 : Int32) (cz : Int32) (h0 : Heap) (n0 : Nat) (v : Option Value) (h : Heap) (L : List Loc) : Prop := ∃ u : Addr, v = some (.ref u) ∧ Fr n0 L ∧ Keep h0 h [] ∧ StrOf Z h u [c0]
theorem rs_vo (l : Launch) (Z : State) (a0 : Array Value) (hw : HW a0 Z) (ws : List Jvm.Cond) (c0 : Int32) (cz : Int32) (h0 : Heap) (n0 : Nat) (Z0 : n0 ≤ h0.size) (hC_c0 : Chr c0) (sgC : Sta Z h0 "java/lang/String" "COMPACT_STRINGS" "Z" (.int cz)) (hcz : ¬ (cz = 0)) (sgA : Sta Z h0 "java/lang/StringUTF16" "$assertionsDisabled" "Z" (.int 1)) (sgH : Sta Z h0 "java/lang/StringUTF16" "HI_BYTE_SHIFT" "I" (.int 0)) (sgL : Sta Z h0 "java/lang/StringUTF16" "LO_BYTE_SHIFT" "I" (.int 8)) :
  Met l Z mN24 jdk_42_method_139_code 1 (some (.object "java/lang/String")) ({ frames := 2, cells := 2, slots := 6, locals := 29 } : Room) ws #[(.int c0)] h0 (Q_rs_vo Z c0 cz h0 n0) := by
 refine own_met (plainFor_of_name own_pn0) ?_
 intro p e s m below meth c s₁ hret hx hby hlk hml hown hnm X0 e0 hZ hh
 have N0 := Fr.nil n0
 refine Gz (castTop (own_ef_rs_vo m c0)) ?_
 have KP : Keep h0 h0 [] := Keep.refl _ _
 show GG (fT s₁ m 0 #[vi c0] [])
 by_cases hn_c0 : (255 : Int32) < c0
 ·show GG (fT s₁ m 0 #[vi c0] [])
  obtain ⟨T1, X1, e1, st1⟩ := getS2 X0 hx hZ hown (host := "") (Or.inl (gw hw 135 rfl)) Via.refl e0 sgC (g := (mkF m 0 #[vi c0] [])) rfl (hb hby d24_0)
  refine Gs st1 ?_
  show GG (fT T1 m 3 #[vi c0] [(.int cz)])
  refine gu X1 hx hby d24_3 ((if0 _ _).trans (feq hcz).1) ?_
  refine gN X1 hx hby d24_6 rfl rfl ?_
  refine cS X1 hx hZ hw hown hby hml e1 mN20 180 75 77 76 0 (rs_enc1 l Z a0 hw [] c0 h0 n0 Z0 (by first | assumption | decide)) d24_7 (lenOf own_pd14 rfl) N0 (fun T2 L2 X2 e2 N2 => ?_)
  show GG (fT T2 m 10 #[vi c0] [(.int 0)])
  refine gy X2 hx hby d24_10 10 26 ((if0 _ _).trans (teq (by decide : ((0 : Int32) = (0 : Int32)))).1) ?_
  obtain ⟨T3, h3, X3, e3, E3, A3, D3, U3, st3⟩ := newO X2 hx hZ hown (gw hw 181 rfl) (gw hw 8 rfl) (gw hw 9 rfl) e2 (g := (mkF m 26 #[vi c0] [])) rfl (hb hby d24_26) (by decide) (by decide)
  obtain ⟨b3, gq3⟩ : ∃ z, z = h0.size := ⟨_, rfl⟩
  rw [← gq3] at A3 st3 D3
  have g_b3 : n0 ≤ b3 := by rw [gq3]; exact Z0
  have sz_b3 : h0.size ≤ b3 := by rw [gq3]; exact KP.1
  replace sgC := sgC.ext E3
  replace sgA := sgA.ext E3
  replace sgH := sgH.ext E3
  replace sgL := sgL.ext E3
  replace KP := KP.ext E3
  replace Z0 : n0 ≤ h3.size := Nat.le_trans Z0 E3.1
  have A_b3 : Exa Z h3 b3 "java/lang/String" := A3
  have F_value_b3 : Fld Z h3 b3 "java/lang/String" "value" "[B" .null := D3 (Or.inr (gw hw 23 rfl)) (ty := (.array .byte)) (by decide)
  have F_coder_b3 : Fld Z h3 b3 "java/lang/String" "coder" "B" (.int 0) := D3 (Or.inr (gw hw 24 rfl)) (ty := .byte) (by decide)
  refine Gs st3 ?_
  show GG (fT T3 m 29 #[vi c0] [(.ref b3)])
  refine Gz (XS.dup X3.here hx rfl (hb hby d24_29) rfl rfl) ?_
  refine gN X3 hx hby d24_30 rfl rfl ?_
  have ltc4_b3 : b3 < h3.size := A_b3.lt
  refine cSg X3 hx hZ hw hown hby hml e3 mN22 220 221 222 169 2 (rs_utb l Z a0 hw [] c0 h3 n0 Z0 sgA sgH sgL) d24_31 (lenOf own_pd15 rfl) (fun _ T4 L4 X4 hQ4 => ?_)
  obtain ⟨y4, ky4, rfl, N4q, K4, V_y4_4', g_y4_4', sz_y4_4'⟩ := hQ4
  have N4 := Fr.app N2 N4q
  replace sgC := own_staK sgC K4 all0
  replace A_b3 := A_b3.keep K4
  replace F_value_b3 := F_value_b3.keep K4 nin0
  replace F_coder_b3 := F_coder_b3.keep K4 nin0
  replace KP := KP.trans K4 all0
  replace Z0 := Nat.le_trans Z0 K4.1
  have V_y4 := V_y4_4'
  have g_y4 := g_y4_4'
  have szc_y4 := sz_y4_4'
  have ne_b3_y4 : b3 ≠ y4 := Nat.ne_of_lt (Nat.lt_of_lt_of_le ltc4_b3 szc_y4)
  show GG (fT T4 m 34 #[vi c0] [(.ref y4), (.ref b3), (.ref b3)])
  refine gC X4 hx hby d24_34 ?_
  refine cIg X4 hx hZ hw hown hby hml rfl mN23 185 186 187 9 1 (rs_ibb1 l Z a0 hw [] b3 y4 T4.heap n0 Z0 A_b3 F_value_b3 F_coder_b3 g_b3) d24_35 (lenOf own_pd16 rfl) (fun _ T5 L5 X5 hQ5 => ?_)
  obtain ⟨rfl, N5q, K5, F_value_b3_5', F_coder_b3_5'⟩ := hQ5
  have N5 := Fr.app N4 N5q
  replace sgC := own_staK sgC K5 (allS (own_obE A_b3) all0)
  replace A_b3 := A_b3.keep K5
  replace V_y4 := V_y4.keep K5 (ninS (Ne.symm ne_b3_y4) nin0)
  replace KP := KP.trans K5 (allS (Or.inr sz_b3) all0)
  replace Z0 := Nat.le_trans Z0 K5.1
  have F_value_b3 := F_value_b3_5'
  have F_coder_b3 := F_coder_b3_5'
  show GG (fT T5 m 38 #[vi c0] [(.ref b3)])
  have T_b3 : StrOf Z T5.heap b3 [c0] := StrOf.utf A_b3 F_value_b3 F_coder_b3 V_y4 (by intro c hc; rw [List.mem_singleton.mp hc]; exact hC_c0) rfl rfl (Nat.le_of_ble_eq_true rfl)
  refine Goes.ret X5 (some (.ref b3)) (fun h => by rw [hret] at h; cases h) hlk (by decide) (by decide) ?_ (fun fs hr => ?_)
  ·exact ⟨b3, rfl, N5, KP, T_b3⟩
  ·exact own_retA X5 hx hret rfl rfl (hb hby d24_38) hr
 ·show GG (fT s₁ m 0 #[vi c0] [])
  obtain ⟨T6, X6, e6, st6⟩ := getS2 X0 hx hZ hown (host := "") (Or.inl (gw hw 135 rfl)) Via.refl e0 sgC (g := (mkF m 0 #[vi c0] [])) rfl (hb hby d24_0)
  refine Gs st6 ?_
  show GG (fT T6 m 3 #[vi c0] [(.int cz)])
  refine gu X6 hx hby d24_3 ((if0 _ _).trans (feq hcz).1) ?_
  refine gN X6 hx hby d24_6 rfl rfl ?_
  refine cS X6 hx hZ hw hown hby hml e6 mN20 180 75 77 76 0 (rs_enc0 l Z a0 hw [] c0 h0 n0 Z0 (by first | assumption | decide)) d24_7 (lenOf own_pd14 rfl) N0 (fun T7 L7 X7 e7 N7 => ?_)
  show GG (fT T7 m 10 #[vi c0] [(.int 1)])
  refine gu X7 hx hby d24_10 ((if0 _ _).trans (feq (by decide : ¬ ((1 : Int32) = (0 : Int32)))).1) ?_
  obtain ⟨T8, h8, X8, e8, E8, A8, D8, U8, st8⟩ := newO X7 hx hZ hown (gw hw 181 rfl) (gw hw 8 rfl) (gw hw 9 rfl) e7 (g := (mkF m 13 #[vi c0] [])) rfl (hb hby d24_13) (by decide) (by decide)
  obtain ⟨b8, gq8⟩ : ∃ z, z = h0.size := ⟨_, rfl⟩
  rw [← gq8] at A8 st8 D8
  have g_b8 : n0 ≤ b8 := by rw [gq8]; exact Z0
  have sz_b8 : h0.size ≤ b8 := by rw [gq8]; exact KP.1
  replace KP := KP.ext E8
  replace Z0 : n0 ≤ h8.size := Nat.le_trans Z0 E8.1
  have A_b8 : Exa Z h8 b8 "java/lang/String" := A8
  have F_value_b8 : Fld Z h8 b8 "java/lang/String" "value" "[B" .null := D8 (Or.inr (gw hw 23 rfl)) (ty := (.array .byte)) (by decide)
  have F_coder_b8 : Fld Z h8 b8 "java/lang/String" "coder" "B" (.int 0) := D8 (Or.inr (gw hw 24 rfl)) (ty := .byte) (by decide)
  refine Gs st8 ?_
  show GG (fT T8 m 16 #[vi c0] [(.ref b8)])
  refine Gz (XS.dup X8.here hx rfl (hb hby d24_16) rfl rfl) ?_
  refine gN X8 hx hby d24_17 rfl rfl ?_
  have ltc9_b8 : b8 < h8.size := A_b8.lt
  refine cSg X8 hx hZ hw hown hby hml e8 mN21 182 183 184 76 2 (rs_ltb l Z a0 hw [] c0 h8 n0 Z0) d24_18 (lenOf own_pd15 rfl) (fun _ T9 L9 X9 hQ9 => ?_)
  obtain ⟨y9, ky9, rfl, N9q, K9, V_y9_9', g_y9_9', sz_y9_9'⟩ := hQ9
  have N9 := Fr.app N7 N9q
  replace A_b8 := A_b8.keep K9
  replace F_value_b8 := F_value_b8.keep K9 nin0
  replace F_coder_b8 := F_coder_b8.keep K9 nin0
  replace KP := KP.trans K9 all0
  replace Z0 := Nat.le_trans Z0 K9.1
  have V_y9 := V_y9_9'
  have g_y9 := g_y9_9'
  have szc_y9 := sz_y9_9'
  have ne_b8_y9 : b8 ≠ y9 := Nat.ne_of_lt (Nat.lt_of_lt_of_le ltc9_b8 szc_y9)
  show GG (fT T9 m 21 #[vi c0] [(.ref y9), (.ref b8), (.ref b8)])
  refine gC X9 hx hby d24_21 ?_
  refine cIg X9 hx hZ hw hown hby hml rfl mN23 185 186 187 9 1 (rs_ibb0 l Z a0 hw [] b8 y9 T9.heap n0 Z0 A_b8 F_value_b8 F_coder_b8 g_b8) d24_22 (lenOf own_pd16 rfl) (fun _ T10 L10 X10 hQ10 => ?_)
  obtain ⟨rfl, N10q, K10, F_value_b8_10', F_coder_b8_10'⟩ := hQ10
  have N10 := Fr.app N9 N10q
  replace A_b8 := A_b8.keep K10
  replace V_y9 := V_y9.keep K10 (ninS (Ne.symm ne_b8_y9) nin0)
  replace KP := KP.trans K10 (allS (Or.inr sz_b8) all0)
  replace Z0 := Nat.le_trans Z0 K10.1
  have F_value_b8 := F_value_b8_10'
  have F_coder_b8 := F_coder_b8_10'
  show GG (fT T10 m 25 #[vi c0] [(.ref b8)])
  have T_b8 : StrOf Z T10.heap b8 [c0] := StrOf.latin A_b8 F_value_b8 F_coder_b8 V_y9 (by intro c hc; rw [List.mem_singleton.mp hc]; exact own_toLat hC_c0 hn_c0) rfl rfl (Nat.le_of_ble_eq_true rfl)
  refine Goes.ret X10 (some (.ref b8)) (fun h => by rw [hret] at h; cases h) hlk (by decide) (by decide) ?_ (fun fs hr => ?_)
  ·exact ⟨b8, rfl, N10, KP, T_b8⟩
  ·exact own_retA X10 hx hret rfl rfl (hb hby d24_25) hr
theorem d25_0 : DK kc45 0 (.aload_n 0) 1 := by decide +kernel
theorem d25_1 : DK kc45 1 (.invokespecial 3) 3 := by decide +kernel
theorem d25_4 : DK kc45 4 (.getstatic 18) 3 := by decide +kernel
theorem d25_7 : DK kc45 7 (.ifCond .eq 18) 3 := by decide +kernel
theorem d25_10 : DK kc45 10 (.aload_n 0) 1 := by decide +kernel
theorem d25_11 : DK kc45 11 (.iload_n 1) 1 := by decide +kernel
theorem d25_12 : DK kc45 12 (.newarray .byte) 2 := by decide +kernel
theorem d25_14 : DK kc45 14 (.putfield 15) 3 := by decide +kernel
theorem d25_17 : DK kc45 17 (.aload_n 0) 1 := by decide +kernel
theorem d25_18 : DK kc45 18 (.iconst 0) 1 := by decide +kernel
theorem d25_19 : DK kc45 19 (.putfield 22) 3 := by decide +kernel
theorem d25_22 : DK kc45 22 (.goto 16) 3 := by decide +kernel
theorem d25_38 : DK kc45 38 .return_ 1 := by decide +kernel
theorem own_pn4 : plainName "java/lang/AbstractStringBuilder" = true := by first | (simp [plainName, overriddenIn]; done) | decide +kernel
theorem own_ef_rm_asbi (m : MethodId) (x0 : Addr) : entryFrame m #[(.ref x0), (.int 16)] 2 = mkF m 0 #[vr x0, vi 16] [] := by first | (simp [entryFrame, mkF, argsToLocals, Value.category]; done) | rfl
def Q_rm_asbi (Z : State) (a : Addr) (cz : Int32) (h0 : Heap) (n0 : Nat) (v : Option Value) (h : Heap) (L : List Loc) : Prop := ∃ b : Addr, ∃ kb : ClassId, v = none ∧ Fr n0 L ∧ Keep h0 h [a] ∧ Fld Z h a "java/lang/AbstractStringBuilder" "value" "[B" (.ref b) ∧ Fld Z h a "java/lang/AbstractStringBuilder" "count" "I" (.int 0) ∧ Fld Z h a "java/lang/AbstractStringBuilder" "maybeLatin1" "Z" (.int 0) ∧ Fld Z h a "java/lang/AbstractStringBuilder" "coder" "B" (.int 0) ∧ Arv Z h b kb .byte 16 [] (.int 0) ∧ n0 ≤ b ∧ h0.size ≤ b
theorem rm_asbi (l : Launch) (Z : State) (a0 : Array Value) (hw : HW a0 Z) (ws : List Jvm.Cond) (a : Addr) (cz : Int32) (h0 : Heap) (n0 : Nat) (Z0 : n0 ≤ h0.size) (A_a : Exa Z h0 a "java/lang/StringBuilder") (F_value_a : Fld Z h0 a "java/lang/AbstractStringBuilder" "value" "[B" .null) (F_count_a : Fld Z h0 a "java/lang/AbstractStringBuilder" "count" "I" (.int 0)) (F_maybeLatin1_a : Fld Z h0 a "java/lang/AbstractStringBuilder" "maybeLatin1" "Z" (.int 0)) (F_coder_a : Fld Z h0 a "java/lang/AbstractStringBuilder" "coder" "B" (.int 0)) (g_a : n0 ≤ a) (sgC : Sta Z h0 "java/lang/String" "COMPACT_STRINGS" "Z" (.int cz)) (hcz : ¬ (cz = 0)) :
  Met l Z mN25 jdk_68_method_2_code 2 none ({ frames := 1, cells := 1, slots := 16, locals := 12 } : Room) ws #[(.ref a), (.int 16)] h0 (Q_rm_asbi Z a cz h0 n0) := by
 refine own_met (plainFor_of_name own_pn4) ?_
 intro p e s m below meth c s₁ hret hx hby hlk hml hown hnm X0 e0 hZ hh
 have N0 := Fr.nil n0
 refine Gz (castTop (own_ef_rm_asbi m a)) ?_
 have KP : Keep h0 h0 [a] := Keep.refl _ _
 show GG (fT s₁ m 0 #[vr a, vi 16] [])
 refine gA X0 hx hby d25_0 rfl rfl rfl ?_
 obtain ⟨T1, X1, e1, st1⟩ := initO X0 hx hZ hown (gw hw 46 rfl) (gw hw 19 rfl) (gw hw 20 rfl) e0 (g := (mkF m 1 #[vr a, vi 16] [(.ref a)])) rfl hml.symm rfl (hb hby d25_1) (by decide) (W := 0) (wz rfl) (by decide)
 refine Gs st1 ?_
 show GG (fT T1 m 4 #[vr a, vi 16] [])
 obtain ⟨T2, X2, e2, st2⟩ := getS2 X1 hx hZ hown (host := "") (Or.inl (gw hw 47 rfl)) Via.refl e1 sgC (g := (mkF m 4 #[vr a, vi 16] [])) rfl (hb hby d25_4)
 refine Gs st2 ?_
 show GG (fT T2 m 7 #[vr a, vi 16] [(.int cz)])
 refine gu X2 hx hby d25_7 ((if0 _ _).trans (feq hcz).1) ?_
 refine gA X2 hx hby d25_10 rfl rfl rfl ?_
 refine gN X2 hx hby d25_11 rfl rfl ?_
 obtain ⟨T3, h3, k3, X3, e3, E3, A3, st3⟩ := newP X2 hx hZ (gw hw 22 rfl) e2 (g := (mkF m 12 #[vr a, vi 16] [(.int 16), (.ref a)])) rfl (hb hby d25_12) rfl (by decide) (cap := 16) (by decide) (by decide) (by decide) (by decide)
 obtain ⟨b3, gq3⟩ : ∃ z, z = h0.size := ⟨_, rfl⟩
 rw [← gq3] at A3 st3
 have g_b3 : n0 ≤ b3 := by rw [gq3]; exact Z0
 have sz_b3 : h0.size ≤ b3 := by rw [gq3]; exact KP.1
 have ne_a_b3 : a ≠ b3 := by rw [gq3]; exact Nat.ne_of_lt A_a.lt
 replace A_a := A_a.ext E3
 replace F_value_a := F_value_a.ext E3
 replace F_count_a := F_count_a.ext E3
 replace F_maybeLatin1_a := F_maybeLatin1_a.ext E3
 replace F_coder_a := F_coder_a.ext E3
 replace KP := KP.ext E3
 replace Z0 : n0 ≤ h3.size := Nat.le_trans Z0 E3.1
 have V_b3 : Arv Z h3 b3 k3 .byte 16 [(.int 0), (.int 0), (.int 0), (.int 0), (.int 0), (.int 0), (.int 0), (.int 0), (.int 0), (.int 0), (.int 0), (.int 0), (.int 0), (.int 0), (.int 0), (.int 0)] (.int 0) := (Arv.new A3 (by decide)).pad (pad_rep [] (.int 0) 16)
 refine Gs st3 ?_
 show GG (fT T3 m 14 #[vr a, vi 16] [(.ref b3), (.ref a)])
 obtain ⟨T4, h4, X4, e4, W4, st4⟩ := putF X3 hx hZ hown (host := "") (Or.inl (gw hw 48 rfl)) Via.refl e3 F_value_a A_a (Or.inl (gw hw 49 rfl)) (gw hw 35 rfl) (ty := (.array .byte)) (by decide) rfl rfl (g := (mkF m 14 #[vr a, vi 16] [(.ref b3), (.ref a)])) rfl rfl (hb hby d25_14)
 have N4 := Fr.snoc X4 N0 g_a
 replace A_a := A_a.wr W4
 replace F_count_a := F_count_a.other W4 (Or.inr (slot_ne (Or.inl (gw hw 63 rfl)) (Or.inl (gw hw 49 rfl)) (by decide) (t := .int) (t' := (.array .byte)) (by decide) (by decide)))
 replace F_maybeLatin1_a := F_maybeLatin1_a.other W4 (Or.inr (slot_ne (Or.inl (gw hw 273 rfl)) (Or.inl (gw hw 49 rfl)) (by decide) (t := .boolean) (t' := (.array .byte)) (by decide) (by decide)))
 replace F_coder_a := F_coder_a.other W4 (Or.inr (slot_ne (Or.inl (gw hw 51 rfl)) (Or.inl (gw hw 49 rfl)) (by decide) (t := .byte) (t' := (.array .byte)) (by decide) (by decide)))
 replace V_b3 := V_b3.other W4 (Ne.symm ne_a_b3)
 replace KP := KP.wr W4 (Or.inl (List.mem_of_getElem? (i := 0) rfl))
 replace F_value_a := F_value_a.same W4
 replace Z0 : n0 ≤ h4.size := by rw [W4.size]; exact Z0
 refine Gs st4 ?_
 show GG (fT T4 m 17 #[vr a, vi 16] [])
 refine gA X4 hx hby d25_17 rfl rfl rfl ?_
 refine gC X4 hx hby d25_18 ?_
 obtain ⟨T5, h5, X5, e5, W5, st5⟩ := putFN X4 hx hZ hown (gw hw 50 rfl) Via.refl e4 F_coder_a A_a (Or.inl (gw hw 51 rfl)) (gw hw 35 rfl) (ty := .byte) (v' := .int 0) (by decide) rfl rfl (g := (mkF m 19 #[vr a, vi 16] [(.int 0), (.ref a)])) rfl rfl (hb hby d25_19)
 have N5 := Fr.snoc X5 N4 g_a
 replace F_value_a := F_value_a.other W5 (Or.inr (slot_ne (Or.inl (gw hw 49 rfl)) (Or.inl (gw hw 51 rfl)) (by decide) (t := (.array .byte)) (t' := .byte) (by decide) (by decide)))
 replace F_count_a := F_count_a.other W5 (Or.inr (slot_ne (Or.inl (gw hw 63 rfl)) (Or.inl (gw hw 51 rfl)) (by decide) (t := .int) (t' := .byte) (by decide) (by decide)))
 replace F_maybeLatin1_a := F_maybeLatin1_a.other W5 (Or.inr (slot_ne (Or.inl (gw hw 273 rfl)) (Or.inl (gw hw 51 rfl)) (by decide) (t := .boolean) (t' := .byte) (by decide) (by decide)))
 replace V_b3 := V_b3.other W5 (Ne.symm ne_a_b3)
 replace KP := KP.wr W5 (Or.inl (List.mem_of_getElem? (i := 0) rfl))
 replace F_coder_a := F_coder_a.same W5
 replace Z0 : n0 ≤ h5.size := by rw [W5.size]; exact Z0
 refine Gs st5 ?_
 show GG (fT T5 m 22 #[vr a, vi 16] [])
 refine gG X5 hx hby d25_22 22 38 ?_
 replace V_b3 := own_unp (n := 16) V_b3
 refine Goes.ret X5 none (fun _ => rfl) hlk (by decide) (by decide) ?_ (fun fs hr => ?_)
 ·rw [e5]; exact ⟨b3, k3, rfl, N5, KP, F_value_a, F_count_a, F_maybeLatin1_a, F_coder_a, V_b3, g_b3, sz_b3⟩
 ·exact X5.returnOut hx hret (hb hby d25_38) hr
theorem d26_0 : DK kc39 0 (.aload_n 0) 1 := by decide +kernel
theorem d26_1 : DK kc39 1 (.bipush 16) 2 := by decide +kernel
theorem d26_3 : DK kc39 3 (.invokespecial 1) 3 := by decide +kernel
theorem own_pd17 : parseMethodDescriptor "(I)V" = some ⟨[.int], none⟩ := by decide +kernel
theorem d26_6 : DK kc39 6 .return_ 1 := by decide +kernel
theorem own_pn5 : plainName "java/lang/StringBuilder" = true := by first | (simp [plainName, overriddenIn]; done) | decide +kernel
theorem own_ef_rm_sbi (m : MethodId) (x0 : Addr) : entryFrame m #[(.ref x0)] 1 = mkF m 0 #[vr x0] [] := by first | (simp [entryFrame, mkF, argsToLocals, Value.category]; done) | rfl
def Q_rm_sbi (Z : State) (a : Addr) (cz : Int32) (h0 : Heap) (n0 : Nat) (v : Option Value) (h : Heap) (L : List Loc) : Prop := ∃ b : Addr, ∃ kb : ClassId, v = none ∧ Fr n0 L ∧ Keep h0 h [a] ∧ Fld Z h a "java/lang/AbstractStringBuilder" "value" "[B" (.ref b) ∧ Fld Z h a "java/lang/AbstractStringBuilder" "count" "I" (.int 0) ∧ Fld Z h a "java/lang/AbstractStringBuilder" "maybeLatin1" "Z" (.int 0) ∧ Fld Z h a "java/lang/AbstractStringBuilder" "coder" "B" (.int 0) ∧ Arv Z h b kb .byte 16 [] (.int 0) ∧ n0 ≤ b ∧ h0.size ≤ b
theorem rm_sbi (l : Launch) (Z : State) (a0 : Array Value) (hw : HW a0 Z) (ws : List Jvm.Cond) (a : Addr) (cz : Int32) (h0 : Heap) (n0 : Nat) (Z0 : n0 ≤ h0.size) (A_a : Exa Z h0 a "java/lang/StringBuilder") (F_value_a : Fld Z h0 a "java/lang/AbstractStringBuilder" "value" "[B" .null) (F_count_a : Fld Z h0 a "java/lang/AbstractStringBuilder" "count" "I" (.int 0)) (F_maybeLatin1_a : Fld Z h0 a "java/lang/AbstractStringBuilder" "maybeLatin1" "Z" (.int 0)) (F_coder_a : Fld Z h0 a "java/lang/AbstractStringBuilder" "coder" "B" (.int 0)) (g_a : n0 ≤ a) (sgC : Sta Z h0 "java/lang/String" "COMPACT_STRINGS" "Z" (.int cz)) (hcz : ¬ (cz = 0)) :
  Met l Z mN26 jdk_67_method_1_code 1 none ({ frames := 2, cells := 1, slots := 16, locals := 25 } : Room) ws #[(.ref a)] h0 (Q_rm_sbi Z a cz h0 n0) := by
 refine own_met (plainFor_of_name own_pn5) ?_
 intro p e s m below meth c s₁ hret hx hby hlk hml hown hnm X0 e0 hZ hh
 have N0 := Fr.nil n0
 refine Gz (castTop (own_ef_rm_sbi m a)) ?_
 have KP : Keep h0 h0 [a] := Keep.refl _ _
 show GG (fT s₁ m 0 #[vr a] [])
 refine gA X0 hx hby d26_0 rfl rfl rfl ?_
 refine gB X0 hx hby d26_1 ?_
 have szs1 : h0.size ≤ h0.size := KP.1
 refine cIg X0 hx hZ hw hown hby hml e0 mN25 40 41 45 44 0 (rm_asbi l Z a0 hw [] a cz h0 n0 Z0 A_a F_value_a F_count_a F_maybeLatin1_a F_coder_a g_a sgC hcz) d26_3 (lenOf own_pd17 rfl) (fun _ T1 L1 X1 hQ1 => ?_)
 obtain ⟨b1, kb1, rfl, N1q, K1, F_value_a_1', F_count_a_1', F_maybeLatin1_a_1', F_coder_a_1', V_b1_1', g_b1_1', sz_b1_1'⟩ := hQ1
 have N1 := Fr.app N0 N1q
 replace KP := KP.trans K1 (allS (Or.inl (List.mem_of_getElem? (i := 0) rfl)) all0)
 replace Z0 := Nat.le_trans Z0 K1.1
 have F_value_a := F_value_a_1'
 have F_count_a := F_count_a_1'
 have F_maybeLatin1_a := F_maybeLatin1_a_1'
 have F_coder_a := F_coder_a_1'
 have V_b1 := V_b1_1'
 have g_b1 := g_b1_1'
 have szc_b1 := sz_b1_1'
 have sz_b1 : h0.size ≤ b1 := Nat.le_trans szs1 szc_b1
 show GG (fT T1 m 6 #[vr a] [])
 refine Goes.ret X1 none (fun _ => rfl) hlk (by decide) (by decide) ?_ (fun fs hr => ?_)
 ·exact ⟨b1, kb1, rfl, N1, KP, F_value_a, F_count_a, F_maybeLatin1_a, F_coder_a, V_b1, g_b1, sz_b1⟩
 ·exact X1.returnOut hx hret (hb hby d26_6) hr
theorem d27_0 : DK kc48 0 (.getstatic 18) 3 := by decide +kernel
theorem d27_3 : DK kc48 3 (.ifCond .eq 14) 3 := by decide +kernel
theorem d27_6 : DK kc48 6 (.aload_n 0) 1 := by decide +kernel
theorem d27_7 : DK kc48 7 (.getfield 22) 3 := by decide +kernel
theorem d27_10 : DK kc48 10 (.ifCond .ne 7) 3 := by decide +kernel
theorem d27_13 : DK kc48 13 (.iconst 1) 1 := by decide +kernel
theorem d27_14 : DK kc48 14 (.goto 4) 3 := by decide +kernel
theorem d27_18 : DK kc48 18 .ireturn 1 := by decide +kernel
theorem own_ef_rm_isl0 (m : MethodId) (x0 : Addr) : entryFrame m #[(.ref x0)] 1 = mkF m 0 #[vr x0] [] := by first | (simp [entryFrame, mkF, argsToLocals, Value.category]; done) | rfl
def Q_rm_isl0 (Z : State) (a : Addr) (cz : Int32) (h0 : Heap) (n0 : Nat) (v : Option Value) (h : Heap) (L : List Loc) : Prop := v = some (.int 1) ∧ Fr n0 L ∧ h = h0
theorem rm_isl0 (l : Launch) (Z : State) (a0 : Array Value) (hw : HW a0 Z) (ws : List Jvm.Cond) (a : Addr) (cz : Int32) (h0 : Heap) (n0 : Nat) (Z0 : n0 ≤ h0.size) (F_coder_a : Fld Z h0 a "java/lang/AbstractStringBuilder" "coder" "B" (.int 0)) (sgC : Sta Z h0 "java/lang/String" "COMPACT_STRINGS" "Z" (.int cz)) (hcz : ¬ (cz = 0)) :
  Met l Z mN27 jdk_68_method_68_code 1 (some .boolean) ({ frames := 0, cells := 0, slots := 0, locals := 0 } : Room) ws #[(.ref a)] h0 (Q_rm_isl0 Z a cz h0 n0) := by
 refine own_met (plainFor_of_name own_pn4) ?_
 intro p e s m below meth c s₁ hret hx hby hlk hml hown hnm X0 e0 hZ hh
 have N0 := Fr.nil n0
 refine Gz (castTop (own_ef_rm_isl0 m a)) ?_
 show GG (fT s₁ m 0 #[vr a] [])
 obtain ⟨T1, X1, e1, st1⟩ := getS2 X0 hx hZ hown (host := "") (Or.inl (gw hw 47 rfl)) Via.refl e0 sgC (g := (mkF m 0 #[vr a] [])) rfl (hb hby d27_0)
 refine Gs st1 ?_
 show GG (fT T1 m 3 #[vr a] [(.int cz)])
 refine gu X1 hx hby d27_3 ((if0 _ _).trans (feq hcz).1) ?_
 refine gA X1 hx hby d27_6 rfl rfl rfl ?_
 obtain ⟨T2, X2, e2, st2⟩ := getF X1 hx hZ hown (host := "") (Or.inl (gw hw 50 rfl)) Via.refl e1 F_coder_a (g := (mkF m 7 #[vr a] [(.ref a)])) rfl rfl (hb hby d27_7)
 refine Gs st2 ?_
 show GG (fT T2 m 10 #[vr a] [(.int 0)])
 refine gu X2 hx hby d27_10 ((if0 _ _).trans (teq (by decide : ((0 : Int32) = (0 : Int32)))).2) ?_
 refine gC X2 hx hby d27_13 ?_
 refine gG X2 hx hby d27_14 14 18 ?_
 refine Goes.ret X2 (some (.int 1)) (fun h => by rw [hret] at h; cases h) hlk (by decide) (by decide) ?_ (fun fs hr => ?_)
 ·exact ⟨rfl, N0, e2⟩
 ·exact own_retN X2 hx (t := .boolean) hret (by simp) rfl (hb hby d27_18) hr
theorem d27_17 : DK kc48 17 (.iconst 0) 1 := by decide +kernel
theorem own_ef_rm_isl1 (m : MethodId) (x0 : Addr) : entryFrame m #[(.ref x0)] 1 = mkF m 0 #[vr x0] [] := by first | (simp [entryFrame, mkF, argsToLocals, Value.category]; done) | rfl
def Q_rm_isl1 (Z : State) (a : Addr) (cz : Int32) (h0 : Heap) (n0 : Nat) (v : Option Value) (h : Heap) (L : List Loc) : Prop := v = some (.int 0) ∧ Fr n0 L ∧ h = h0
theorem rm_isl1 (l : Launch) (Z : State) (a0 : Array Value) (hw : HW a0 Z) (ws : List Jvm.Cond) (a : Addr) (cz : Int32) (h0 : Heap) (n0 : Nat) (Z0 : n0 ≤ h0.size) (F_coder_a : Fld Z h0 a "java/lang/AbstractStringBuilder" "coder" "B" (.int 1)) (sgC : Sta Z h0 "java/lang/String" "COMPACT_STRINGS" "Z" (.int cz)) (hcz : ¬ (cz = 0)) :
  Met l Z mN27 jdk_68_method_68_code 1 (some .boolean) ({ frames := 0, cells := 0, slots := 0, locals := 0 } : Room) ws #[(.ref a)] h0 (Q_rm_isl1 Z a cz h0 n0) := by
 refine own_met (plainFor_of_name own_pn4) ?_
 intro p e s m below meth c s₁ hret hx hby hlk hml hown hnm X0 e0 hZ hh
 have N0 := Fr.nil n0
 refine Gz (castTop (own_ef_rm_isl1 m a)) ?_
 show GG (fT s₁ m 0 #[vr a] [])
 obtain ⟨T1, X1, e1, st1⟩ := getS2 X0 hx hZ hown (host := "") (Or.inl (gw hw 47 rfl)) Via.refl e0 sgC (g := (mkF m 0 #[vr a] [])) rfl (hb hby d27_0)
 refine Gs st1 ?_
 show GG (fT T1 m 3 #[vr a] [(.int cz)])
 refine gu X1 hx hby d27_3 ((if0 _ _).trans (feq hcz).1) ?_
 refine gA X1 hx hby d27_6 rfl rfl rfl ?_
 obtain ⟨T2, X2, e2, st2⟩ := getF X1 hx hZ hown (host := "") (Or.inl (gw hw 50 rfl)) Via.refl e1 F_coder_a (g := (mkF m 7 #[vr a] [(.ref a)])) rfl rfl (hb hby d27_7)
 refine Gs st2 ?_
 show GG (fT T2 m 10 #[vr a] [(.int 1)])
 refine gy X2 hx hby d27_10 10 17 ((if0 _ _).trans (feq (by decide : ¬ ((1 : Int32) = (0 : Int32)))).2) ?_
 refine gC X2 hx hby d27_17 ?_
 refine Goes.ret X2 (some (.int 0)) (fun h => by rw [hret] at h; cases h) hlk (by decide) (by decide) ?_ (fun fs hr => ?_)
 ·exact ⟨rfl, N0, e2⟩
 ·exact own_retN X2 hx (t := .boolean) hret (by simp) rfl (hb hby d27_18) hr
theorem d28_0 : DK kc52 0 (.aload_n 0) 1 := by decide +kernel
theorem d28_1 : DK kc52 1 (.getfield 15) 3 := by decide +kernel
theorem d28_4 : DK kc52 4 .arraylength 1 := by decide +kernel
theorem d28_5 : DK kc52 5 (.aload_n 0) 1 := by decide +kernel
theorem d28_6 : DK kc52 6 (.getfield 22) 3 := by decide +kernel
theorem d28_9 : DK kc52 9 .ishr 1 := by decide +kernel
theorem d28_10 : DK kc52 10 (.istore_n 2) 1 := by decide +kernel
theorem d28_11 : DK kc52 11 (.iload_n 1) 1 := by decide +kernel
theorem d28_12 : DK kc52 12 (.iload_n 2) 1 := by decide +kernel
theorem d28_13 : DK kc52 13 .isub 1 := by decide +kernel
theorem d28_14 : DK kc52 14 (.ifCond .le 24) 3 := by decide +kernel
theorem d28_38 : DK kc52 38 .return_ 1 := by decide +kernel
theorem own_ef_rm_ec0 (m : MethodId) (x0 : Addr) (x1 : Int32) : entryFrame m #[(.ref x0), (.int x1)] 3 = mkF m 0 #[vr x0, vi x1, vu] [] := by first | (simp [entryFrame, mkF, argsToLocals, Value.category]; done) | rfl
def Q_rm_ec0 (Z : State) (a : Addr) (b : Addr) (kb : ClassId) (vs : List Value) (mn : Int32) (h0 : Heap) (n0 : Nat) (v : Option Value) (h : Heap) (L : List Loc) : Prop := v = none ∧ Fr n0 L ∧ h = h0
theorem rm_ec0 (l : Launch) (Z : State) (a0 : Array Value) (hw : HW a0 Z) (ws : List Jvm.Cond) (a : Addr) (b : Addr) (kb : ClassId) (vs : List Value) (mn : Int32) (h0 : Heap) (n0 : Nat) (Z0 : n0 ≤ h0.size) (F_value_a : Fld Z h0 a "java/lang/AbstractStringBuilder" "value" "[B" (.ref b)) (F_coder_a : Fld Z h0 a "java/lang/AbstractStringBuilder" "coder" "B" (.int 0)) (V_b : Arv Z h0 b kb .byte 16 vs (.int 0)) (hm : ¬ ((0 : Int32) < mn - 16)) :
  Met l Z mN28 jdk_68_method_9_code 3 none ({ frames := 0, cells := 0, slots := 0, locals := 0 } : Room) ws #[(.ref a), (.int mn)] h0 (Q_rm_ec0 Z a b kb vs mn h0 n0) := by
 refine own_met (plainFor_of_name own_pn4) ?_
 intro p e s m below meth c s₁ hret hx hby hlk hml hown hnm X0 e0 hZ hh
 have N0 := Fr.nil n0
 refine Gz (castTop (own_ef_rm_ec0 m a mn)) ?_
 show GG (fT s₁ m 0 #[vr a, vi mn, vu] [])
 refine gA X0 hx hby d28_0 rfl rfl rfl ?_
 obtain ⟨T1, X1, e1, st1⟩ := getF X0 hx hZ hown (host := "") (Or.inl (gw hw 48 rfl)) Via.refl e0 F_value_a (g := (mkF m 1 #[vr a, vi mn, vu] [(.ref a)])) rfl rfl (hb hby d28_1)
 refine Gs st1 ?_
 show GG (fT T1 m 4 #[vr a, vi mn, vu] [(.ref b)])
 obtain ⟨cl2, Ar2, -, S2, N2z, -, -⟩ := id V_b
 refine Gs (fun _ tk => X1.arraylength hx (by rw [e1]; exact Ar2.1) (State.isArrayOf_alike hZ.alike Ar2.2.1) (g := (mkF m 4 #[vr a, vi mn, vu] [(.ref b)])) rfl rfl (hb hby d28_4) _ tk) ?_
 rw [len_of S2 N2z]
 show GG (fT T1 m 5 #[vr a, vi mn, vu] [(.int 16)])
 refine gA X1 hx hby d28_5 rfl rfl rfl ?_
 obtain ⟨T3, X3, e3, st3⟩ := getF X1 hx hZ hown (host := "") (Or.inl (gw hw 50 rfl)) Via.refl e1 F_coder_a (g := (mkF m 6 #[vr a, vi mn, vu] [(.ref a), (.int 16)])) rfl rfl (hb hby d28_6)
 refine Gs st3 ?_
 show GG (fT T3 m 9 #[vr a, vi mn, vu] [(.int 0), (.int 16)])
 refine Gz (XS.ishr X3.here hx rfl (hb hby d28_9) rfl) ?_
 show GG (fT T3 m 10 #[vr a, vi mn, vu] [(.int 16)])
 refine gs X3 hx hby d28_10 #[vr a, vi mn, vi 16] ?_
 refine gN X3 hx hby d28_11 rfl rfl ?_
 refine gN X3 hx hby d28_12 rfl rfl ?_
 show GG (fT T3 m 13 #[vr a, vi mn, vi 16] [(.int 16), (.int mn)])
 refine Gz (XS.isub X3.here hx rfl (hb hby d28_13) rfl) ?_
 show GG (fT T3 m 14 #[vr a, vi mn, vi 16] [(.int (mn - 16))])
 refine gy X3 hx hby d28_14 14 38 ((if0 _ _).trans (flt hm).2.2.2) ?_
 refine Goes.ret X3 none (fun _ => rfl) hlk (by decide) (by decide) ?_ (fun fs hr => ?_)
 ·exact ⟨rfl, N0, e3⟩
 ·exact X3.returnOut hx hret (hb hby d28_38) hr
theorem own_ef_rm_ec1 (m : MethodId) (x0 : Addr) (x1 : Int32) : entryFrame m #[(.ref x0), (.int x1)] 3 = mkF m 0 #[vr x0, vi x1, vu] [] := by first | (simp [entryFrame, mkF, argsToLocals, Value.category]; done) | rfl
def Q_rm_ec1 (Z : State) (a : Addr) (b : Addr) (kb : ClassId) (vs : List Value) (mn : Int32) (h0 : Heap) (n0 : Nat) (v : Option Value) (h : Heap) (L : List Loc) : Prop := v = none ∧ Fr n0 L ∧ h = h0
theorem rm_ec1 (l : Launch) (Z : State) (a0 : Array Value) (hw : HW a0 Z) (ws : List Jvm.Cond) (a : Addr) (b : Addr) (kb : ClassId) (vs : List Value) (mn : Int32) (h0 : Heap) (n0 : Nat) (Z0 : n0 ≤ h0.size) (F_value_a : Fld Z h0 a "java/lang/AbstractStringBuilder" "value" "[B" (.ref b)) (F_coder_a : Fld Z h0 a "java/lang/AbstractStringBuilder" "coder" "B" (.int 1)) (V_b : Arv Z h0 b kb .byte 32 vs (.int 0)) (hm : ¬ ((0 : Int32) < mn - 16)) :
  Met l Z mN28 jdk_68_method_9_code 3 none ({ frames := 0, cells := 0, slots := 0, locals := 0 } : Room) ws #[(.ref a), (.int mn)] h0 (Q_rm_ec1 Z a b kb vs mn h0 n0) := by
 refine own_met (plainFor_of_name own_pn4) ?_
 intro p e s m below meth c s₁ hret hx hby hlk hml hown hnm X0 e0 hZ hh
 have N0 := Fr.nil n0
 refine Gz (castTop (own_ef_rm_ec1 m a mn)) ?_
 show GG (fT s₁ m 0 #[vr a, vi mn, vu] [])
 refine gA X0 hx hby d28_0 rfl rfl rfl ?_
 obtain ⟨T1, X1, e1, st1⟩ := getF X0 hx hZ hown (host := "") (Or.inl (gw hw 48 rfl)) Via.refl e0 F_value_a (g := (mkF m 1 #[vr a, vi mn, vu] [(.ref a)])) rfl rfl (hb hby d28_1)
 refine Gs st1 ?_
 show GG (fT T1 m 4 #[vr a, vi mn, vu] [(.ref b)])
 obtain ⟨cl2, Ar2, -, S2, N2z, -, -⟩ := id V_b
 refine Gs (fun _ tk => X1.arraylength hx (by rw [e1]; exact Ar2.1) (State.isArrayOf_alike hZ.alike Ar2.2.1) (g := (mkF m 4 #[vr a, vi mn, vu] [(.ref b)])) rfl rfl (hb hby d28_4) _ tk) ?_
 rw [len_of S2 N2z]
 show GG (fT T1 m 5 #[vr a, vi mn, vu] [(.int 32)])
 refine gA X1 hx hby d28_5 rfl rfl rfl ?_
 obtain ⟨T3, X3, e3, st3⟩ := getF X1 hx hZ hown (host := "") (Or.inl (gw hw 50 rfl)) Via.refl e1 F_coder_a (g := (mkF m 6 #[vr a, vi mn, vu] [(.ref a), (.int 32)])) rfl rfl (hb hby d28_6)
 refine Gs st3 ?_
 show GG (fT T3 m 9 #[vr a, vi mn, vu] [(.int 1), (.int 32)])
 refine Gz (XS.ishr X3.here hx rfl (hb hby d28_9) rfl) ?_
 show GG (fT T3 m 10 #[vr a, vi mn, vu] [(.int 16)])
 refine gs X3 hx hby d28_10 #[vr a, vi mn, vi 16] ?_
 refine gN X3 hx hby d28_11 rfl rfl ?_
 refine gN X3 hx hby d28_12 rfl rfl ?_
 show GG (fT T3 m 13 #[vr a, vi mn, vi 16] [(.int 16), (.int mn)])
 refine Gz (XS.isub X3.here hx rfl (hb hby d28_13) rfl) ?_
 show GG (fT T3 m 14 #[vr a, vi mn, vi 16] [(.int (mn - 16))])
 refine gy X3 hx hby d28_14 14 38 ((if0 _ _).trans (flt hm).2.2.2) ?_
 refine Goes.ret X3 none (fun _ => rfl) hlk (by decide) (by decide) ?_ (fun fs hr => ?_)
 ·exact ⟨rfl, N0, e3⟩
 ·exact X3.returnOut hx hret (hb hby d28_38) hr
theorem own_ef_rm_ul (m : MethodId) (x0 : Addr) : entryFrame m #[(.ref x0)] 1 = mkF m 0 #[vr x0] [] := by first | (simp [entryFrame, mkF, argsToLocals, Value.category]; done) | rfl
def Q_rm_ul (Z : State) (b : Addr) (kb : ClassId) (vs : List Value) (h0 : Heap) (n0 : Nat) (v : Option Value) (h : Heap) (L : List Loc) : Prop := v = some (.int 16) ∧ Fr n0 L ∧ h = h0
theorem rm_ul (l : Launch) (Z : State) (a0 : Array Value) (hw : HW a0 Z) (ws : List Jvm.Cond) (b : Addr) (kb : ClassId) (vs : List Value) (h0 : Heap) (n0 : Nat) (Z0 : n0 ≤ h0.size) (V_b : Arv Z h0 b kb .byte 32 vs (.int 0)) :
  Met l Z mN6 jdk_52_method_6_code 1 (some .int) ({ frames := 0, cells := 0, slots := 0, locals := 0 } : Room) ws #[(.ref b)] h0 (Q_rm_ul Z b kb vs h0 n0) := by
 refine own_met (plainFor_of_name own_pn3) ?_
 intro p e s m below meth c s₁ hret hx hby hlk hml hown hnm X0 e0 hZ hh
 have N0 := Fr.nil n0
 refine Gz (castTop (own_ef_rm_ul m b)) ?_
 show GG (fT s₁ m 0 #[vr b] [])
 refine gA X0 hx hby d6_0 rfl rfl rfl ?_
 obtain ⟨cl1, Ar1, -, S1, N1z, -, -⟩ := id V_b
 refine Gs (fun _ tk => X0.arraylength hx (by rw [e0]; exact Ar1.1) (State.isArrayOf_alike hZ.alike Ar1.2.1) (g := (mkF m 1 #[vr b] [(.ref b)])) rfl rfl (hb hby d6_1) _ tk) ?_
 rw [len_of S1 N1z]
 show GG (fT s₁ m 2 #[vr b] [(.int 32)])
 refine gC X0 hx hby d6_2 ?_
 show GG (fT s₁ m 3 #[vr b] [(.int 1), (.int 32)])
 refine Gz (XS.ishr X0.here hx rfl (hb hby d6_3) rfl) ?_
 show GG (fT s₁ m 4 #[vr b] [(.int 16)])
 refine Goes.ret X0 (some (.int 16)) (fun h => by rw [hret] at h; cases h) hlk (by decide) (by decide) ?_ (fun fs hr => ?_)
 ·exact ⟨rfl, N0, e0⟩
 ·exact retI X0 hx hret (hb hby d6_4) hr
theorem own_ef_rm_uci (m : MethodId) (x0 : Int32) (x1 : Addr) : entryFrame m #[(.int x0), (.ref x1)] 2 = mkF m 0 #[vi x0, vr x1] [] := by first | (simp [entryFrame, mkF, argsToLocals, Value.category]; done) | rfl
def Q_rm_uci (Z : State) (j : Int32) (b : Addr) (kb : ClassId) (vs : List Value) (fo : Value) (h0 : Heap) (n0 : Nat) (v : Option Value) (h : Heap) (L : List Loc) : Prop := v = none ∧ Fr n0 L ∧ h = h0
theorem rm_uci (l : Launch) (Z : State) (a0 : Array Value) (hw : HW a0 Z) (ws : List Jvm.Cond) (j : Int32) (b : Addr) (kb : ClassId) (vs : List Value) (fo : Value) (h0 : Heap) (n0 : Nat) (Z0 : n0 ≤ h0.size) (V_b : Arv Z h0 b kb .byte 32 vs (.int 0)) (hj0 : ¬ (j < 0)) (hj1 : j < 16) (sgF : Sta Z h0 "jdk/internal/util/Preconditions" "SIOOBE_FORMATTER" "Ljava/util/function/BiFunction;" fo) (r_fo : fo.isRef = true) :
  Met l Z mN7 jdk_52_method_91_code 2 none ({ frames := 2, cells := 0, slots := 0, locals := 27 } : Room) ws #[(.int j), (.ref b)] h0 (Q_rm_uci Z j b kb vs fo h0 n0) := by
 refine own_met (plainFor_of_name own_pn3) ?_
 intro p e s m below meth c s₁ hret hx hby hlk hml hown hnm X0 e0 hZ hh
 have N0 := Fr.nil n0
 refine Gz (castTop (own_ef_rm_uci m j b)) ?_
 show GG (fT s₁ m 0 #[vi j, vr b] [])
 refine gN X0 hx hby d7_0 rfl rfl ?_
 refine gA X0 hx hby d7_1 rfl rfl rfl ?_
 refine cS X0 hx hZ hw hown hby hml e0 mN6 235 236 237 169 1 (rm_ul l Z a0 hw [] b kb vs h0 n0 Z0 V_b) d7_2 (lenOf own_pd3 rfl) N0 (fun T1 L1 X1 e1 N1 => ?_)
 show GG (fT T1 m 5 #[vi j, vr b] [(.int 16), (.int j)])
 refine cS X1 hx hZ hw hown hby hml e1 mN4 238 153 154 9 0 (rs_sci l Z a0 hw [] j (16 : Int32) fo h0 n0 Z0 hj0 hj1 sgF r_fo) d7_5 (lenOf own_pd2 rfl) N1 (fun T2 L2 X2 e2 N2 => ?_)
 show GG (fT T2 m 8 #[vi j, vr b] [])
 refine Goes.ret X2 none (fun _ => rfl) hlk (by decide) (by decide) ?_ (fun fs hr => ?_)
 ·exact ⟨rfl, N2, e2⟩
 ·exact X2.returnOut hx hret (hb hby d7_8) hr
theorem own_ef_rm_pcg (m : MethodId) (x0 : Addr) (x1 : Int32) (x2 : Int32) : entryFrame m #[(.ref x0), (.int x1), (.int x2)] 3 = mkF m 0 #[vr x0, vi x1, vi x2] [] := by first | (simp [entryFrame, mkF, argsToLocals, Value.category]; done) | rfl
def Q_rm_pcg (Z : State) (b : Addr) (kb : ClassId) (ys : List Int32) (cc : Int32) (h0 : Heap) (n0 : Nat) (v : Option Value) (h : Heap) (L : List Loc) : Prop := v = none ∧ Fr n0 L ∧ Keep h0 h [b] ∧ Arv Z h b kb .byte 32 (utfV (ys ++ [cc])) (.int 0)
theorem rm_pcg (l : Launch) (Z : State) (a0 : Array Value) (hw : HW a0 Z) (ws : List Jvm.Cond) (b : Addr) (kb : ClassId) (ys : List Int32) (cc : Int32) (h0 : Heap) (n0 : Nat) (Z0 : n0 ≤ h0.size) (V_b : Arv Z h0 b kb .byte 32 (utfV ys) (.int 0)) (g_b : n0 ≤ b) (h16 : ys.length < 16) (sgA : Sta Z h0 "java/lang/StringUTF16" "$assertionsDisabled" "Z" (.int 1)) (sgH : Sta Z h0 "java/lang/StringUTF16" "HI_BYTE_SHIFT" "I" (.int 0)) (sgL : Sta Z h0 "java/lang/StringUTF16" "LO_BYTE_SHIFT" "I" (.int 8)) :
  Met l Z mN13 jdk_52_method_4_code 3 none ({ frames := 0, cells := 0, slots := 0, locals := 0 } : Room) ws #[(.ref b), (.int (Int32.ofNat ys.length)), (.int cc)] h0 (Q_rm_pcg Z b kb ys cc h0 n0) := by
 refine own_met (plainFor_of_name own_pn3) ?_
 intro p e s m below meth c s₁ hret hx hby hlk hml hown hnm X0 e0 hZ hh
 have N0 := Fr.nil n0
 refine Gz (castTop (own_ef_rm_pcg m b (Int32.ofNat ys.length) cc)) ?_
 have KP : Keep h0 h0 [b] := Keep.refl _ _
 show GG (fT s₁ m 0 #[vr b, vi (Int32.ofNat ys.length), vi cc] [])
 replace V_b := own_padN V_b 2
 obtain ⟨T1, X1, e1, st1⟩ := getS2 X0 hx hZ hown (host := "") (Or.inl (gw hw 226 rfl)) Via.refl e0 sgA (g := (mkF m 0 #[vr b, vi (Int32.ofNat ys.length), vi cc] [])) rfl (hb hby d13_0)
 refine Gs st1 ?_
 show GG (fT T1 m 3 #[vr b, vi (Int32.ofNat ys.length), vi cc] [(.int 1)])
 refine gy X1 hx hby d13_3 3 28 ((if0 _ _).trans (feq (by decide : ¬ ((1 : Int32) = (0 : Int32)))).2) ?_
 refine gN X1 hx hby d13_28 rfl rfl ?_
 refine gC X1 hx hby d13_29 ?_
 show GG (fT T1 m 30 #[vr b, vi (Int32.ofNat ys.length), vi cc] [(.int 1), (.int (Int32.ofNat ys.length))])
 refine Gz (XS.ishl X1.here hx rfl (hb hby d13_30) rfl) ?_
 show GG (fT T1 m 31 #[vr b, vi (Int32.ofNat ys.length), vi cc] [(.int ((Int32.ofNat ys.length) <<< ((1 : Int32) &&& 31)))])
 rw [own_shl1 (by omega)]
 show GG (fT T1 m 31 #[vr b, vi (Int32.ofNat ys.length), vi cc] [(.int (Int32.ofNat (2 * ys.length)))])
 refine gs X1 hx hby d13_31 #[vr b, vi (Int32.ofNat (2 * ys.length)), vi cc] ?_
 refine gA X1 hx hby d13_32 rfl rfl rfl ?_
 refine gN X1 hx hby d13_33 rfl rfl ?_
 show GG (fT T1 m 34 #[vr b, vi (Int32.ofNat (2 * ys.length)), vi cc] [(.int (Int32.ofNat (2 * ys.length))), (.ref b)])
 refine Gz (XS.iinc X1.here hx rfl (hb hby d13_34) rfl (l' := #[vr b, vi ((Int32.ofNat (2 * ys.length)) + 1), vi cc]) rfl) ?_
 show GG (fT T1 m 37 #[vr b, vi ((Int32.ofNat (2 * ys.length)) + 1), vi cc] [(.int (Int32.ofNat (2 * ys.length))), (.ref b)])
 rw [own_ofS]
 show GG (fT T1 m 37 #[vr b, vi (Int32.ofNat (2 * ys.length + 1)), vi cc] [(.int (Int32.ofNat (2 * ys.length))), (.ref b)])
 refine gN X1 hx hby d13_37 rfl rfl ?_
 obtain ⟨T2, X2, e2, st2⟩ := getS2 X1 hx hZ hown (host := "") (Or.inl (gw hw 227 rfl)) Via.refl e1 sgH (g := (mkF m 38 #[vr b, vi (Int32.ofNat (2 * ys.length + 1)), vi cc] [(.int cc), (.int (Int32.ofNat (2 * ys.length))), (.ref b)])) rfl (hb hby d13_38)
 refine Gs st2 ?_
 show GG (fT T2 m 41 #[vr b, vi (Int32.ofNat (2 * ys.length + 1)), vi cc] [(.int 0), (.int cc), (.int (Int32.ofNat (2 * ys.length))), (.ref b)])
 refine Gz (XS.ishr X2.here hx rfl (hb hby d13_41) rfl) ?_
 show GG (fT T2 m 42 #[vr b, vi (Int32.ofNat (2 * ys.length + 1)), vi cc] [(.int (cc >>> ((0 : Int32) &&& 31))), (.int (Int32.ofNat (2 * ys.length))), (.ref b)])
 rw [own_shr0]
 show GG (fT T2 m 42 #[vr b, vi (Int32.ofNat (2 * ys.length + 1)), vi cc] [(.int cc), (.int (Int32.ofNat (2 * ys.length))), (.ref b)])
 refine Gz (XS.i2b X2.here hx rfl (hb hby d13_42) rfl) ?_
 show GG (fT T2 m 43 #[vr b, vi (Int32.ofNat (2 * ys.length + 1)), vi cc] [(.int (cc.toInt8.toInt32)), (.int (Int32.ofNat (2 * ys.length))), (.ref b)])
 obtain ⟨cl3, Ar3, q3, S3, N3z, H3, G3⟩ := V_b
 have hin3 : ¬ ((Int32.ofNat (2 * ys.length)) < 0 ∨ cl3.slots.size ≤ ((Int32.ofNat (2 * ys.length))).toNatClampNeg) := inb_of S3 ⟨(own_tnO (by omega)).2.1, (own_ltN (L := 32) (by omega) (by decide)).mpr (by omega)⟩
 obtain ⟨T3, h3, X3, e3, W3, st3⟩ := stB X2 hx hZ e2 Ar3 (j := (Int32.ofNat (2 * ys.length))) hin3 (g := (mkF m 43 #[vr b, vi (Int32.ofNat (2 * ys.length + 1)), vi cc] [(.int (cc.toInt8.toInt32)), (.int (Int32.ofNat (2 * ys.length))), (.ref b)])) rfl rfl (hb hby d13_43)
 have Vn3 := Arv.set Ar3 q3 S3 N3z H3 G3 (fits_nar_byte _) W3 (2 * ys.length) (own_tnO (by omega)).1 (by rw [List.length_append, own_utfL, List.length_replicate]; omega)
 have N3 := Fr.snoc X3 N0 g_b
 replace sgL := sgL.wr W3
 replace KP := KP.wr W3 (Or.inl (List.mem_of_getElem? (i := 0) rfl))
 have V_b : Arv Z h3 b kb .byte 32 ((utfV ys ++ List.replicate 2 (Value.int 0)).set (2 * ys.length) (.int (lo8 cc))) (.int 0) := own_arvE Vn3 (by rw [own_nb2])
 replace Z0 : n0 ≤ h3.size := by rw [W3.size]; exact Z0
 refine Gs st3 ?_
 show GG (fT T3 m 44 #[vr b, vi (Int32.ofNat (2 * ys.length + 1)), vi cc] [])
 refine gA X3 hx hby d13_44 rfl rfl rfl ?_
 refine gN X3 hx hby d13_45 rfl rfl ?_
 refine gN X3 hx hby d13_46 rfl rfl ?_
 obtain ⟨T4, X4, e4, st4⟩ := getS2 X3 hx hZ hown (host := "") (Or.inl (gw hw 228 rfl)) Via.refl e3 sgL (g := (mkF m 47 #[vr b, vi (Int32.ofNat (2 * ys.length + 1)), vi cc] [(.int cc), (.int (Int32.ofNat (2 * ys.length + 1))), (.ref b)])) rfl (hb hby d13_47)
 refine Gs st4 ?_
 show GG (fT T4 m 50 #[vr b, vi (Int32.ofNat (2 * ys.length + 1)), vi cc] [(.int 8), (.int cc), (.int (Int32.ofNat (2 * ys.length + 1))), (.ref b)])
 refine Gz (XS.ishr X4.here hx rfl (hb hby d13_50) rfl) ?_
 show GG (fT T4 m 51 #[vr b, vi (Int32.ofNat (2 * ys.length + 1)), vi cc] [(.int (cc >>> ((8 : Int32) &&& 31))), (.int (Int32.ofNat (2 * ys.length + 1))), (.ref b)])
 refine Gz (XS.i2b X4.here hx rfl (hb hby d13_51) rfl) ?_
 show GG (fT T4 m 52 #[vr b, vi (Int32.ofNat (2 * ys.length + 1)), vi cc] [(.int ((cc >>> ((8 : Int32) &&& 31)).toInt8.toInt32)), (.int (Int32.ofNat (2 * ys.length + 1))), (.ref b)])
 obtain ⟨cl5, Ar5, q5, S5, N5z, H5, G5⟩ := V_b
 have hin5 : ¬ ((Int32.ofNat (2 * ys.length + 1)) < 0 ∨ cl5.slots.size ≤ ((Int32.ofNat (2 * ys.length + 1))).toNatClampNeg) := inb_of S5 ⟨(own_tnO (by omega)).2.1, (own_ltN (L := 32) (by omega) (by decide)).mpr (by omega)⟩
 obtain ⟨T5, h5, X5, e5, W5, st5⟩ := stB X4 hx hZ e4 Ar5 (j := (Int32.ofNat (2 * ys.length + 1))) hin5 (g := (mkF m 52 #[vr b, vi (Int32.ofNat (2 * ys.length + 1)), vi cc] [(.int ((cc >>> ((8 : Int32) &&& 31)).toInt8.toInt32)), (.int (Int32.ofNat (2 * ys.length + 1))), (.ref b)])) rfl rfl (hb hby d13_52)
 have Vn5 := Arv.set Ar5 q5 S5 N5z H5 G5 (fits_nar_byte _) W5 (2 * ys.length + 1) (own_tnO (by omega)).1 (by rw [List.length_set, List.length_append, own_utfL, List.length_replicate]; omega)
 have N5 := Fr.snoc X5 N3 g_b
 replace KP := KP.wr W5 (Or.inl (List.mem_of_getElem? (i := 0) rfl))
 have V_b : Arv Z h5 b kb .byte 32 (utfV (ys ++ [cc])) (.int 0) := own_arvE Vn5 (by rw [own_nbh2]; exact own_utfSet ys cc)
 replace Z0 : n0 ≤ h5.size := by rw [W5.size]; exact Z0
 refine Gs st5 ?_
 show GG (fT T5 m 53 #[vr b, vi (Int32.ofNat (2 * ys.length + 1)), vi cc] [])
 refine Goes.ret X5 none (fun _ => rfl) hlk (by decide) (by decide) ?_ (fun fs hr => ?_)
 ·rw [e5]; exact ⟨rfl, N5, KP, V_b⟩
 ·exact X5.returnOut hx hret (hb hby d13_53) hr
theorem d29_0 : DK kc30 0 (.iload_n 1) 1 := by decide +kernel
theorem d29_1 : DK kc30 1 (.aload_n 0) 1 := by decide +kernel
theorem d29_2 : DK kc30 2 (.invokestatic 67) 3 := by decide +kernel
theorem d29_5 : DK kc30 5 (.aload_n 0) 1 := by decide +kernel
theorem d29_6 : DK kc30 6 (.iload_n 1) 1 := by decide +kernel
theorem d29_7 : DK kc30 7 (.iload_n 2) 1 := by decide +kernel
theorem d29_8 : DK kc30 8 (.invokestatic 111) 3 := by decide +kernel
theorem d29_11 : DK kc30 11 .return_ 1 := by decide +kernel
theorem own_ef_rm_pcs (m : MethodId) (x0 : Addr) (x1 : Int32) (x2 : Int32) : entryFrame m #[(.ref x0), (.int x1), (.int x2)] 3 = mkF m 0 #[vr x0, vi x1, vi x2] [] := by first | (simp [entryFrame, mkF, argsToLocals, Value.category]; done) | rfl
def Q_rm_pcs (Z : State) (b : Addr) (kb : ClassId) (ys : List Int32) (cc : Int32) (fo : Value) (h0 : Heap) (n0 : Nat) (v : Option Value) (h : Heap) (L : List Loc) : Prop := v = none ∧ Fr n0 L ∧ Keep h0 h [b] ∧ Arv Z h b kb .byte 32 (utfV (ys ++ [cc])) (.int 0)
theorem rm_pcs (l : Launch) (Z : State) (a0 : Array Value) (hw : HW a0 Z) (ws : List Jvm.Cond) (b : Addr) (kb : ClassId) (ys : List Int32) (cc : Int32) (fo : Value) (h0 : Heap) (n0 : Nat) (Z0 : n0 ≤ h0.size) (V_b : Arv Z h0 b kb .byte 32 (utfV ys) (.int 0)) (g_b : n0 ≤ b) (h16 : ys.length < 16) (sgA : Sta Z h0 "java/lang/StringUTF16" "$assertionsDisabled" "Z" (.int 1)) (sgH : Sta Z h0 "java/lang/StringUTF16" "HI_BYTE_SHIFT" "I" (.int 0)) (sgL : Sta Z h0 "java/lang/StringUTF16" "LO_BYTE_SHIFT" "I" (.int 8)) (sgF : Sta Z h0 "jdk/internal/util/Preconditions" "SIOOBE_FORMATTER" "Ljava/util/function/BiFunction;" fo) (r_fo : fo.isRef = true) :
  Met l Z mN29 jdk_52_method_71_code 3 none ({ frames := 3, cells := 0, slots := 0, locals := 40 } : Room) ws #[(.ref b), (.int (Int32.ofNat ys.length)), (.int cc)] h0 (Q_rm_pcs Z b kb ys cc fo h0 n0) := by
 refine own_met (plainFor_of_name own_pn3) ?_
 intro p e s m below meth c s₁ hret hx hby hlk hml hown hnm X0 e0 hZ hh
 have N0 := Fr.nil n0
 refine Gz (castTop (own_ef_rm_pcs m b (Int32.ofNat ys.length) cc)) ?_
 have KP : Keep h0 h0 [b] := Keep.refl _ _
 show GG (fT s₁ m 0 #[vr b, vi (Int32.ofNat ys.length), vi cc] [])
 refine gN X0 hx hby d29_0 rfl rfl ?_
 refine gA X0 hx hby d29_1 rfl rfl rfl ?_
 refine cS X0 hx hZ hw hown hby hml e0 mN7 232 233 234 169 0 (rm_uci l Z a0 hw [] (Int32.ofNat ys.length) b kb (utfV ys) fo h0 n0 Z0 V_b (own_tnO (by omega)).2.1 ((own_ltN (L := 16) (by omega) (by decide)).mpr h16) sgF r_fo) d29_2 (lenOf own_pd4 rfl) N0 (fun T1 L1 X1 e1 N1 => ?_)
 show GG (fT T1 m 5 #[vr b, vi (Int32.ofNat ys.length), vi cc] [])
 refine gA X1 hx hby d29_5 rfl rfl rfl ?_
 refine gN X1 hx hby d29_6 rfl rfl ?_
 refine gN X1 hx hby d29_7 rfl rfl ?_
 refine cSg X1 hx hZ hw hown hby hml e1 mN13 223 224 225 169 0 (rm_pcg l Z a0 hw [] b kb ys cc h0 n0 Z0 V_b g_b h16 sgA sgH sgL) d29_8 (lenOf own_pd10 rfl) (fun _ T2 L2 X2 hQ2 => ?_)
 obtain ⟨rfl, N2q, K2, V_b_2'⟩ := hQ2
 have N2 := Fr.app N1 N2q
 replace KP := KP.trans K2 (allS (Or.inl (List.mem_of_getElem? (i := 0) rfl)) all0)
 replace Z0 := Nat.le_trans Z0 K2.1
 have V_b := V_b_2'
 show GG (fT T2 m 11 #[vr b, vi (Int32.ofNat ys.length), vi cc] [])
 refine Goes.ret X2 none (fun _ => rfl) hlk (by decide) (by decide) ?_ (fun fs hr => ?_)
 ·exact ⟨rfl, N2, KP, V_b⟩
 ·exact X2.returnOut hx hret (hb hby d29_11) hr
theorem d30_0 : DK kc2 0 (.iload_n 2) 1 := by decide +kernel
theorem d30_1 : DK kc2 1 (.iload_n 0) 1 := by decide +kernel
theorem d30_2 : DK kc2 2 .ior 1 := by decide +kernel
theorem d30_3 : DK kc2 3 (.iload_n 1) 1 := by decide +kernel
theorem d30_4 : DK kc2 4 .ior 1 := by decide +kernel
theorem d30_5 : DK kc2 5 (.ifCond .lt 10) 3 := by decide +kernel
theorem d30_8 : DK kc2 8 (.iload_n 1) 1 := by decide +kernel
theorem d30_9 : DK kc2 9 (.iload_n 2) 1 := by decide +kernel
theorem d30_10 : DK kc2 10 (.iload_n 0) 1 := by decide +kernel
theorem d30_11 : DK kc2 11 .isub 1 := by decide +kernel
theorem d30_12 : DK kc2 12 (.if_icmp .le 11) 3 := by decide +kernel
theorem d30_23 : DK kc2 23 (.iload_n 0) 1 := by decide +kernel
theorem d30_24 : DK kc2 24 .ireturn 1 := by decide +kernel
theorem own_ef_rm_pcf (m : MethodId) (x0 : Int32) (x1 : Int32) (x3 : Value) (hx3 : x3.isRef = true) : entryFrame m #[(.int x0), (.int x1), (.int 16), x3] 4 = mkF m 0 #[vi x0, vi x1, vi 16, .val x3] [] := by first | (simp [entryFrame, mkF, argsToLocals, Value.category]; done) | rfl | (rcases Jvm.Free.XT.refc hx3 with rfl | ⟨r, rfl⟩ <;> rfl)
def Q_rm_pcf (Z : State) (o : Nat) (n : Nat) (fo : Value) (h0 : Heap) (n0 : Nat) (v : Option Value) (h : Heap) (L : List Loc) : Prop := v = some (.int (Int32.ofNat o)) ∧ Fr n0 L ∧ h = h0
theorem rm_pcf (l : Launch) (Z : State) (a0 : Array Value) (hw : HW a0 Z) (ws : List Jvm.Cond) (o : Nat) (n : Nat) (fo : Value) (h0 : Heap) (n0 : Nat) (Z0 : n0 ≤ h0.size) (hon : o + n ≤ 16) (r_fo : fo.isRef = true) :
  Met l Z mN30 jdk_41_method_13_code 4 (some .int) ({ frames := 0, cells := 0, slots := 0, locals := 0 } : Room) ws #[(.int (Int32.ofNat o)), (.int (Int32.ofNat n)), (.int 16), fo] h0 (Q_rm_pcf Z o n fo h0 n0) := by
 refine own_met (plainFor_of_name own_pn1) ?_
 intro p e s m below meth c s₁ hret hx hby hlk hml hown hnm X0 e0 hZ hh
 have N0 := Fr.nil n0
 refine Gz (castTop (own_ef_rm_pcf m (Int32.ofNat o) (Int32.ofNat n) fo r_fo)) ?_
 show GG (fT s₁ m 0 #[vi (Int32.ofNat o), vi (Int32.ofNat n), vi 16, .val fo] [])
 refine gN X0 hx hby d30_0 rfl rfl ?_
 refine gN X0 hx hby d30_1 rfl rfl ?_
 show GG (fT s₁ m 2 #[vi (Int32.ofNat o), vi (Int32.ofNat n), vi 16, .val fo] [(.int (Int32.ofNat o)), (.int 16)])
 refine Gz (XS.ior X0.here hx rfl (hb hby d30_2) rfl) ?_
 show GG (fT s₁ m 3 #[vi (Int32.ofNat o), vi (Int32.ofNat n), vi 16, .val fo] [(.int ((16 : Int32) ||| (Int32.ofNat o)))])
 refine gN X0 hx hby d30_3 rfl rfl ?_
 show GG (fT s₁ m 4 #[vi (Int32.ofNat o), vi (Int32.ofNat n), vi 16, .val fo] [(.int (Int32.ofNat n)), (.int ((16 : Int32) ||| (Int32.ofNat o)))])
 refine Gz (XS.ior X0.here hx rfl (hb hby d30_4) rfl) ?_
 show GG (fT s₁ m 5 #[vi (Int32.ofNat o), vi (Int32.ofNat n), vi 16, .val fo] [(.int (((16 : Int32) ||| (Int32.ofNat o)) ||| (Int32.ofNat n)))])
 refine gu X0 hx hby d30_5 ((if0 _ _).trans (flt (own_or3 (o := o) (n := n) (by omega) (by omega))).1) ?_
 refine gN X0 hx hby d30_8 rfl rfl ?_
 refine gN X0 hx hby d30_9 rfl rfl ?_
 refine gN X0 hx hby d30_10 rfl rfl ?_
 show GG (fT s₁ m 11 #[vi (Int32.ofNat o), vi (Int32.ofNat n), vi 16, .val fo] [(.int (Int32.ofNat o)), (.int 16), (.int (Int32.ofNat n))])
 refine Gz (XS.isub X0.here hx rfl (hb hby d30_11) rfl) ?_
 show GG (fT s₁ m 12 #[vi (Int32.ofNat o), vi (Int32.ofNat n), vi 16, .val fo] [(.int ((16 : Int32) - (Int32.ofNat o))), (.int (Int32.ofNat n))])
 refine gY X0 hx hby d30_12 12 23 (flt (own_sub16 hon)).2.2.2 ?_
 refine gN X0 hx hby d30_23 rfl rfl ?_
 refine Goes.ret X0 (some (.int (Int32.ofNat o))) (fun h => by rw [hret] at h; cases h) hlk (by decide) (by decide) ?_ (fun fs hr => ?_)
 ·exact ⟨rfl, N0, e0⟩
 ·exact retI X0 hx hret (hb hby d30_24) hr
theorem d31_0 : DK kc11 0 (.iload_n 0) 1 := by decide +kernel
theorem d31_1 : DK kc11 1 (.iload_n 1) 1 := by decide +kernel
theorem d31_2 : DK kc11 2 (.iload_n 2) 1 := by decide +kernel
theorem d31_3 : DK kc11 3 (.getstatic 1053) 3 := by decide +kernel
theorem d31_6 : DK kc11 6 (.invokestatic 1065) 3 := by decide +kernel
theorem own_pd18 : parseMethodDescriptor "(IIILjava/util/function/BiFunction;)I" = some ⟨[.int, .int, .int, (.object "java/util/function/BiFunction")], some .int⟩ := by decide +kernel
theorem d31_9 : DK kc11 9 .ireturn 1 := by decide +kernel
theorem own_ef_rm_scb (m : MethodId) (x0 : Int32) (x1 : Int32) : entryFrame m #[(.int x0), (.int x1), (.int 16)] 3 = mkF m 0 #[vi x0, vi x1, vi 16] [] := by first | (simp [entryFrame, mkF, argsToLocals, Value.category]; done) | rfl
def Q_rm_scb (Z : State) (o : Nat) (n : Nat) (fo : Value) (h0 : Heap) (n0 : Nat) (v : Option Value) (h : Heap) (L : List Loc) : Prop := v = some (.int (Int32.ofNat o)) ∧ Fr n0 L ∧ h = h0
theorem rm_scb (l : Launch) (Z : State) (a0 : Array Value) (hw : HW a0 Z) (ws : List Jvm.Cond) (o : Nat) (n : Nat) (fo : Value) (h0 : Heap) (n0 : Nat) (Z0 : n0 ≤ h0.size) (hon : o + n ≤ 16) (sgF : Sta Z h0 "jdk/internal/util/Preconditions" "SIOOBE_FORMATTER" "Ljava/util/function/BiFunction;" fo) (r_fo : fo.isRef = true) :
  Met l Z mN31 jdk_42_method_157_code 3 (some .int) ({ frames := 1, cells := 0, slots := 0, locals := 15 } : Room) ws #[(.int (Int32.ofNat o)), (.int (Int32.ofNat n)), (.int 16)] h0 (Q_rm_scb Z o n fo h0 n0) := by
 refine own_met (plainFor_of_name own_pn0) ?_
 intro p e s m below meth c s₁ hret hx hby hlk hml hown hnm X0 e0 hZ hh
 have N0 := Fr.nil n0
 refine Gz (castTop (own_ef_rm_scb m (Int32.ofNat o) (Int32.ofNat n))) ?_
 show GG (fT s₁ m 0 #[vi (Int32.ofNat o), vi (Int32.ofNat n), vi 16] [])
 refine gN X0 hx hby d31_0 rfl rfl ?_
 refine gN X0 hx hby d31_1 rfl rfl ?_
 refine gN X0 hx hby d31_2 rfl rfl ?_
 obtain ⟨T1, X1, e1, st1⟩ := getS2 X0 hx hZ hown (host := "") (Or.inl (gw hw 155 rfl)) Via.refl e0 sgF (g := (mkF m 3 #[vi (Int32.ofNat o), vi (Int32.ofNat n), vi 16] [(.int 16), (.int (Int32.ofNat n)), (.int (Int32.ofNat o))])) rfl (hb hby d31_3)
 refine Gs st1 ?_
 show GG (fT T1 m 6 #[vi (Int32.ofNat o), vi (Int32.ofNat n), vi 16] [fo, (.int 16), (.int (Int32.ofNat n)), (.int (Int32.ofNat o))])
 refine cS X1 hx hZ hw hown hby hml e1 mN30 266 267 268 156 0 (rm_pcf l Z a0 hw [] o n fo h0 n0 Z0 hon r_fo) d31_6 (lenOf own_pd18 rfl) N0 (fun T2 L2 X2 e2 N2 => ?_)
 show GG (fT T2 m 9 #[vi (Int32.ofNat o), vi (Int32.ofNat n), vi 16] [(.int (Int32.ofNat o))])
 refine Goes.ret X2 (some (.int (Int32.ofNat o))) (fun h => by rw [hret] at h; cases h) hlk (by decide) (by decide) ?_ (fun fs hr => ?_)
 ·exact ⟨rfl, N2, e2⟩
 ·exact retI X2 hx hret (hb hby d31_9) hr
theorem d32_0 : DK kc34 0 (.iload_n 0) 1 := by decide +kernel
theorem d32_1 : DK kc34 1 (.iload_n 1) 1 := by decide +kernel
theorem d32_2 : DK kc34 2 (.aload_n 2) 1 := by decide +kernel
theorem d32_3 : DK kc34 3 (.invokestatic 48) 3 := by decide +kernel
theorem d32_6 : DK kc34 6 (.invokestatic 419) 3 := by decide +kernel
theorem own_pd19 : parseMethodDescriptor "(III)I" = some ⟨[.int, .int, .int], some .int⟩ := by decide +kernel
theorem d32_9 : DK kc34 9 .pop 1 := by decide +kernel
theorem d32_10 : DK kc34 10 .return_ 1 := by decide +kernel
theorem own_ef_rm_ucb (m : MethodId) (x0 : Int32) (x1 : Int32) (x2 : Addr) : entryFrame m #[(.int x0), (.int x1), (.ref x2)] 3 = mkF m 0 #[vi x0, vi x1, vr x2] [] := by first | (simp [entryFrame, mkF, argsToLocals, Value.category]; done) | rfl
def Q_rm_ucb (Z : State) (o : Nat) (n : Nat) (b : Addr) (kb : ClassId) (vs : List Value) (fo : Value) (h0 : Heap) (n0 : Nat) (v : Option Value) (h : Heap) (L : List Loc) : Prop := v = none ∧ Fr n0 L ∧ h = h0
theorem rm_ucb (l : Launch) (Z : State) (a0 : Array Value) (hw : HW a0 Z) (ws : List Jvm.Cond) (o : Nat) (n : Nat) (b : Addr) (kb : ClassId) (vs : List Value) (fo : Value) (h0 : Heap) (n0 : Nat) (Z0 : n0 ≤ h0.size) (hon : o + n ≤ 16) (V_b : Arv Z h0 b kb .byte 32 vs (.int 0)) (sgF : Sta Z h0 "jdk/internal/util/Preconditions" "SIOOBE_FORMATTER" "Ljava/util/function/BiFunction;" fo) (r_fo : fo.isRef = true) :
  Met l Z mN32 jdk_52_method_94_code 3 none ({ frames := 2, cells := 0, slots := 0, locals := 29 } : Room) ws #[(.int (Int32.ofNat o)), (.int (Int32.ofNat n)), (.ref b)] h0 (Q_rm_ucb Z o n b kb vs fo h0 n0) := by
 refine own_met (plainFor_of_name own_pn3) ?_
 intro p e s m below meth c s₁ hret hx hby hlk hml hown hnm X0 e0 hZ hh
 have N0 := Fr.nil n0
 refine Gz (castTop (own_ef_rm_ucb m (Int32.ofNat o) (Int32.ofNat n) b)) ?_
 show GG (fT s₁ m 0 #[vi (Int32.ofNat o), vi (Int32.ofNat n), vr b] [])
 refine gN X0 hx hby d32_0 rfl rfl ?_
 refine gN X0 hx hby d32_1 rfl rfl ?_
 refine gA X0 hx hby d32_2 rfl rfl rfl ?_
 refine cS X0 hx hZ hw hown hby hml e0 mN6 235 236 237 169 2 (rm_ul l Z a0 hw [] b kb vs h0 n0 Z0 V_b) d32_3 (lenOf own_pd3 rfl) N0 (fun T1 L1 X1 e1 N1 => ?_)
 show GG (fT T1 m 6 #[vi (Int32.ofNat o), vi (Int32.ofNat n), vr b] [(.int 16), (.int (Int32.ofNat n)), (.int (Int32.ofNat o))])
 refine cS X1 hx hZ hw hown hby hml e1 mN31 263 264 265 9 0 (rm_scb l Z a0 hw [] o n fo h0 n0 Z0 hon sgF r_fo) d32_6 (lenOf own_pd19 rfl) N1 (fun T2 L2 X2 e2 N2 => ?_)
 show GG (fT T2 m 9 #[vi (Int32.ofNat o), vi (Int32.ofNat n), vr b] [(.int (Int32.ofNat o))])
 refine Gz (XS.pop X2.here hx rfl (hb hby d32_9) rfl rfl) ?_
 refine Goes.ret X2 none (fun _ => rfl) hlk (by decide) (by decide) ?_ (fun fs hr => ?_)
 ·exact ⟨rfl, N2, e2⟩
 ·exact X2.returnOut hx hret (hb hby d32_10) hr
theorem d33_0 : DK kc32 0 (.iload_n 3) 1 := by decide +kernel
theorem d33_1 : DK kc32 1 (.iload 4) 2 := by decide +kernel
theorem d33_3 : DK kc32 3 (.aload_n 2) 1 := by decide +kernel
theorem d33_4 : DK kc32 4 (.invokestatic 173) 3 := by decide +kernel
theorem own_pd20 : parseMethodDescriptor "(II[B)V" = some ⟨[.int, .int, (.array .byte)], none⟩ := by decide +kernel
theorem d33_7 : DK kc32 7 (.iconst 0) 1 := by decide +kernel
theorem d33_8 : DK kc32 8 (.istore 5) 2 := by decide +kernel
theorem d33_10 : DK kc32 10 (.iload 5) 2 := by decide +kernel
theorem d33_12 : DK kc32 12 (.iload 4) 2 := by decide +kernel
theorem d33_14 : DK kc32 14 (.if_icmp .ge 27) 3 := by decide +kernel
theorem d33_17 : DK kc32 17 (.aload_n 2) 1 := by decide +kernel
theorem d33_18 : DK kc32 18 (.iload_n 3) 1 := by decide +kernel
theorem d33_19 : DK kc32 19 (.iinc 3 1) 3 := by decide +kernel
theorem d33_22 : DK kc32 22 (.aload_n 0) 1 := by decide +kernel
theorem d33_23 : DK kc32 23 (.iload_n 1) 1 := by decide +kernel
theorem d33_24 : DK kc32 24 (.iinc 1 1) 3 := by decide +kernel
theorem d33_27 : DK kc32 27 .baload 1 := by decide +kernel
theorem d33_28 : DK kc32 28 (.sipush 255) 3 := by decide +kernel
theorem d33_31 : DK kc32 31 .iand 1 := by decide +kernel
theorem d33_32 : DK kc32 32 (.invokestatic 111) 3 := by decide +kernel
theorem d33_35 : DK kc32 35 (.iinc 5 1) 3 := by decide +kernel
theorem d33_38 : DK kc32 38 (.goto (-28)) 3 := by decide +kernel
theorem d33_41 : DK kc32 41 .return_ 1 := by decide +kernel
theorem own_ef_rm_inf (m : MethodId) (x0 : Addr) (x2 : Addr) (x3 : Int32) (x4 : Int32) : entryFrame m #[(.ref x0), (.int 0), (.ref x2), (.int x3), (.int x4)] 6 = mkF m 0 #[vr x0, vi 0, vr x2, vi x3, vi x4, vu] [] := by first | (simp [entryFrame, mkF, argsToLocals, Value.category]; done) | rfl
def Q_rm_inf (Z : State) (x : Addr) (kx : ClassId) (xz : Int32) (xs : List Int32) (b : Addr) (kb : ClassId) (ys : List Int32) (fo : Value) (h0 : Heap) (n0 : Nat) (v : Option Value) (h : Heap) (L : List Loc) : Prop := v = none ∧ Fr n0 L ∧ Keep h0 h [b] ∧ Arv Z h b kb .byte 32 (utfV (ys ++ xs)) (.int 0)
theorem rm_inf (l : Launch) (Z : State) (a0 : Array Value) (hw : HW a0 Z) (ws : List Jvm.Cond) (x : Addr) (kx : ClassId) (xz : Int32) (xs : List Int32) (b : Addr) (kb : ClassId) (ys : List Int32) (fo : Value) (h0 : Heap) (n0 : Nat) (Z0 : n0 ≤ h0.size) (V_x : Arv Z h0 x kx .byte xz (latV xs) (.int 0)) (V_b : Arv Z h0 b kb .byte 32 (utfV ys) (.int 0)) (g_b : n0 ≤ b) (ne_x_b : x ≠ b) (hxz : xs.length ≤ xz.toNatClampNeg) (hxz2 : xz.toNatClampNeg ≤ 1000) (hxl : ∀ c ∈ xs, Lat c) (h16 : ys.length + xs.length ≤ 16) (sgA : Sta Z h0 "java/lang/StringUTF16" "$assertionsDisabled" "Z" (.int 1)) (sgH : Sta Z h0 "java/lang/StringUTF16" "HI_BYTE_SHIFT" "I" (.int 0)) (sgL : Sta Z h0 "java/lang/StringUTF16" "LO_BYTE_SHIFT" "I" (.int 8)) (sgF : Sta Z h0 "jdk/internal/util/Preconditions" "SIOOBE_FORMATTER" "Ljava/util/function/BiFunction;" fo) (r_fo : fo.isRef = true) :
  Met l Z mN33 jdk_52_method_86_code 6 none ({ frames := 3, cells := 0, slots := 0, locals := 43 } : Room) ws #[(.ref x), (.int 0), (.ref b), (.int (Int32.ofNat ys.length)), (.int (Int32.ofNat xs.length))] h0 (Q_rm_inf Z x kx xz xs b kb ys fo h0 n0) := by
 refine own_met (plainFor_of_name own_pn3) ?_
 intro p e s m below meth c s₁ hret hx hby hlk hml hown hnm X0 e0 hZ hh
 have N0 := Fr.nil n0
 refine Gz (castTop (own_ef_rm_inf m x b (Int32.ofNat ys.length) (Int32.ofNat xs.length))) ?_
 have KP : Keep h0 h0 [b] := Keep.refl _ _
 show GG (fT s₁ m 0 #[vr x, vi 0, vr b, vi (Int32.ofNat ys.length), vi (Int32.ofNat xs.length), vu] [])
 refine gN X0 hx hby d33_0 rfl rfl ?_
 refine gI X0 hx hby d33_1 rfl rfl ?_
 refine gA X0 hx hby d33_3 rfl rfl rfl ?_
 refine cS X0 hx hZ hw hown hby hml e0 mN32 260 261 262 169 0 (rm_ucb l Z a0 hw [] ys.length xs.length b kb (utfV ys) fo h0 n0 Z0 h16 V_b sgF r_fo) d33_4 (lenOf own_pd20 rfl) N0 (fun T1 L1 X1 e1 N1 => ?_)
 show GG (fT T1 m 7 #[vr x, vi 0, vr b, vi (Int32.ofNat ys.length), vi (Int32.ofNat xs.length), vu] [])
 refine gC X1 hx hby d33_7 ?_
 refine gS X1 hx hby d33_8 #[vr x, vi 0, vr b, vi (Int32.ofNat ys.length), vi (Int32.ofNat xs.length), vi 0] ?_
 show GG (fT T1 m 10 #[vr x, vi 0, vr b, vi (Int32.ofNat ys.length), vi (Int32.ofNat xs.length), vi 0] [])
 have hob : Ob h0 b := own_obA V_b
 have V_b' : Arv Z h0 b kb .byte 32 (utfV (ys ++ xs.take 0)) (.int 0) := own_arvE V_b (by rw [List.take_zero, List.append_nil])
 have zsgA := sgA
 have zsgH := sgH
 have zsgL := sgL
 have zsgF := sgF
 have zV_x := V_x
 refine own_loopG (ι := Nat) (μ := fun j => xs.length - j) (I := fun j T L => j ≤ xs.length ∧ Fr n0 L ∧ n0 ≤ T.heap.size ∧ Keep h0 T.heap [b] ∧ Arv Z T.heap b kb .byte 32 (utfV (ys ++ xs.take j)) (.int 0)) (B := fun j T => T.setTop (mkF m 10 #[vr x, vi (Int32.ofNat j), vr b, vi (Int32.ofNat (ys.length + j)), vi (Int32.ofNat xs.length), vi (Int32.ofNat j)] [])) ?_ 0 X1 ⟨Nat.zero_le _, N1, (by rw [e1]; exact Z0), (by rw [e1]; exact KP), (by rw [e1]; exact V_b')⟩
 intro j T L X ⟨hj, N, Z0, KP, V_b⟩ ih
 dsimp only at ih ⊢
 have sgA := own_staK zsgA KP (allS hob all0)
 have sgH := own_staK zsgH KP (allS hob all0)
 have sgL := own_staK zsgL KP (allS hob all0)
 have V_x := zV_x.keep KP (ninS ne_x_b nin0)
 show GG (fT T m 10 #[vr x, vi (Int32.ofNat j), vr b, vi (Int32.ofNat (ys.length + j)), vi (Int32.ofNat xs.length), vi (Int32.ofNat j)] [])
 refine gI X hx hby d33_10 rfl rfl ?_
 refine gI X hx hby d33_12 rfl rfl ?_
 by_cases hc14_2 : (Int32.ofNat j) < (Int32.ofNat xs.length)
 ·refine gU X hx hby d33_14 (tlt hc14_2).2.1 ?_
  have hlt : j < xs.length := (own_ltN (i := j) (L := xs.length) (by omega) (by omega)).mp hc14_2
  have hL := hxl _ (own_getM hlt)
  refine gA X hx hby d33_17 rfl rfl rfl ?_
  refine gN X hx hby d33_18 rfl rfl ?_
  show GG (fT T m 19 #[vr x, vi (Int32.ofNat j), vr b, vi (Int32.ofNat (ys.length + j)), vi (Int32.ofNat xs.length), vi (Int32.ofNat j)] [(.int (Int32.ofNat (ys.length + j))), (.ref b)])
  refine Gz (XS.iinc X.here hx rfl (hb hby d33_19) rfl (l' := #[vr x, vi (Int32.ofNat j), vr b, vi ((Int32.ofNat (ys.length + j)) + 1), vi (Int32.ofNat xs.length), vi (Int32.ofNat j)]) rfl) ?_
  show GG (fT T m 22 #[vr x, vi (Int32.ofNat j), vr b, vi ((Int32.ofNat (ys.length + j)) + 1), vi (Int32.ofNat xs.length), vi (Int32.ofNat j)] [(.int (Int32.ofNat (ys.length + j))), (.ref b)])
  rw [own_ofS]
  show GG (fT T m 22 #[vr x, vi (Int32.ofNat j), vr b, vi (Int32.ofNat (ys.length + j + 1)), vi (Int32.ofNat xs.length), vi (Int32.ofNat j)] [(.int (Int32.ofNat (ys.length + j))), (.ref b)])
  refine gA X hx hby d33_22 rfl rfl rfl ?_
  refine gN X hx hby d33_23 rfl rfl ?_
  show GG (fT T m 24 #[vr x, vi (Int32.ofNat j), vr b, vi (Int32.ofNat (ys.length + j + 1)), vi (Int32.ofNat xs.length), vi (Int32.ofNat j)] [(.int (Int32.ofNat j)), (.ref x), (.int (Int32.ofNat (ys.length + j))), (.ref b)])
  refine Gz (XS.iinc X.here hx rfl (hb hby d33_24) rfl (l' := #[vr x, vi ((Int32.ofNat j) + 1), vr b, vi (Int32.ofNat (ys.length + j + 1)), vi (Int32.ofNat xs.length), vi (Int32.ofNat j)]) rfl) ?_
  show GG (fT T m 27 #[vr x, vi ((Int32.ofNat j) + 1), vr b, vi (Int32.ofNat (ys.length + j + 1)), vi (Int32.ofNat xs.length), vi (Int32.ofNat j)] [(.int (Int32.ofNat j)), (.ref x), (.int (Int32.ofNat (ys.length + j))), (.ref b)])
  rw [own_ofS]
  show GG (fT T m 27 #[vr x, vi (Int32.ofNat (j + 1)), vr b, vi (Int32.ofNat (ys.length + j + 1)), vi (Int32.ofNat xs.length), vi (Int32.ofNat j)] [(.int (Int32.ofNat j)), (.ref x), (.int (Int32.ofNat (ys.length + j))), (.ref b)])
  obtain ⟨cl3, Ar3, -, S3, N3z, H3, -⟩ := id V_x
  have hin3 : ¬ ((Int32.ofNat j) < 0 ∨ cl3.slots.size ≤ ((Int32.ofNat j)).toNatClampNeg) := inb_of S3 ⟨(own_tnO (by omega)).2.1, own_ltZ (own_nz V_x) (by omega) hxz2⟩
  have hat3 : cl3.slots[((Int32.ofNat j)).toNatClampNeg]? = some (.int (lo8 (xs.getD j 0))) := Has.at H3 hin3 (by rw [(own_tnO (n := j) (by omega)).1]; exact own_latD hlt)
  refine Gs (fun _ tk => X.baloadBytes hx (j := (Int32.ofNat j)) (v := (.int (lo8 (xs.getD j 0)))) Ar3.1 (State.isArrayOf_alike hZ.alike Ar3.2.1) Ar3.2.2 hin3 hat3 (g := (mkF m 27 #[vr x, vi (Int32.ofNat (j + 1)), vr b, vi (Int32.ofNat (ys.length + j + 1)), vi (Int32.ofNat xs.length), vi (Int32.ofNat j)] [(.int (Int32.ofNat j)), (.ref x), (.int (Int32.ofNat (ys.length + j))), (.ref b)])) rfl rfl (hb hby d33_27) _ tk) ?_
  show GG (fT T m 28 #[vr x, vi (Int32.ofNat (j + 1)), vr b, vi (Int32.ofNat (ys.length + j + 1)), vi (Int32.ofNat xs.length), vi (Int32.ofNat j)] [(.int (lo8 (xs.getD j 0))), (.int (Int32.ofNat (ys.length + j))), (.ref b)])
  refine Gz (XS.sipush X.here hx rfl (hb hby d33_28)) ?_
  show GG (fT T m 31 #[vr x, vi (Int32.ofNat (j + 1)), vr b, vi (Int32.ofNat (ys.length + j + 1)), vi (Int32.ofNat xs.length), vi (Int32.ofNat j)] [(.int 255), (.int (lo8 (xs.getD j 0))), (.int (Int32.ofNat (ys.length + j))), (.ref b)])
  refine Gz (XS.iand X.here hx rfl (hb hby d33_31) rfl) ?_
  show GG (fT T m 32 #[vr x, vi (Int32.ofNat (j + 1)), vr b, vi (Int32.ofNat (ys.length + j + 1)), vi (Int32.ofNat xs.length), vi (Int32.ofNat j)] [(.int ((lo8 (xs.getD j 0)) &&& 255)), (.int (Int32.ofNat (ys.length + j))), (.ref b)])
  rw [own_backL hL]
  show GG (fT T m 32 #[vr x, vi (Int32.ofNat (j + 1)), vr b, vi (Int32.ofNat (ys.length + j + 1)), vi (Int32.ofNat xs.length), vi (Int32.ofNat j)] [(.int (xs.getD j 0)), (.int (Int32.ofNat (ys.length + j))), (.ref b)])
  rw [show Int32.ofNat (ys.length + j) = Int32.ofNat (ys ++ xs.take j).length from by rw [List.length_append, List.length_take, Nat.min_eq_left hj]]
  show GG (fT T m 32 #[vr x, vi (Int32.ofNat (j + 1)), vr b, vi (Int32.ofNat (ys.length + j + 1)), vi (Int32.ofNat xs.length), vi (Int32.ofNat j)] [(.int (xs.getD j 0)), (.int (Int32.ofNat (ys ++ xs.take j).length)), (.ref b)])
  refine cSg X hx hZ hw hown hby hml rfl mN13 223 224 225 169 0 (rm_pcg l Z a0 hw [] b kb (ys ++ xs.take j) (xs.getD j 0) T.heap n0 Z0 V_b g_b (by rw [List.length_append, List.length_take, Nat.min_eq_left hj]; omega) sgA sgH sgL) d33_32 (lenOf own_pd10 rfl) (fun _ T4 L4 X4 hQ4 => ?_)
  obtain ⟨rfl, N4q, K4, V_b_4'⟩ := hQ4
  have N4 := Fr.app N N4q
  replace KP := KP.trans K4 (allS (Or.inl (List.mem_of_getElem? (i := 0) rfl)) all0)
  replace Z0 := Nat.le_trans Z0 K4.1
  have V_b := V_b_4'
  show GG (fT T4 m 35 #[vr x, vi (Int32.ofNat (j + 1)), vr b, vi (Int32.ofNat (ys.length + j + 1)), vi (Int32.ofNat xs.length), vi (Int32.ofNat j)] [])
  replace V_b := own_arvE V_b (congrArg utfV (own_takeS hlt ys))
  refine Gz (XS.iinc X4.here hx rfl (hb hby d33_35) rfl (l' := #[vr x, vi (Int32.ofNat (j + 1)), vr b, vi (Int32.ofNat (ys.length + j + 1)), vi (Int32.ofNat xs.length), vi ((Int32.ofNat j) + 1)]) rfl) ?_
  show GG (fT T4 m 38 #[vr x, vi (Int32.ofNat (j + 1)), vr b, vi (Int32.ofNat (ys.length + j + 1)), vi (Int32.ofNat xs.length), vi ((Int32.ofNat j) + 1)] [])
  rw [own_ofS]
  show GG (fT T4 m 38 #[vr x, vi (Int32.ofNat (j + 1)), vr b, vi (Int32.ofNat (ys.length + j + 1)), vi (Int32.ofNat xs.length), vi (Int32.ofNat (j + 1))] [])
  refine gG X4 hx hby d33_38 38 10 ?_
  show GG (fT T4 m 10 #[vr x, vi (Int32.ofNat (j + 1)), vr b, vi (Int32.ofNat (ys.length + j + 1)), vi (Int32.ofNat xs.length), vi (Int32.ofNat (j + 1))] [])
  exact ih (j + 1) _ _ (by show xs.length - (j + 1) < xs.length - j; omega) X4 ⟨hlt, N4, Z0, KP, V_b⟩
 ·refine gY X hx hby d33_14 14 41 (flt hc14_2).2.1 ?_
  have hje : j = xs.length := by
   rcases Nat.lt_or_ge j xs.length with z | z
   ·exact absurd ((own_ltN (i := j) (L := xs.length) (by omega) (by omega)).mpr z) hc14_2
   ·omega
  replace V_b := own_arvE V_b (by rw [hje, List.take_length] : utfV (ys ++ xs.take j) = utfV (ys ++ xs))
  refine Goes.ret X none (fun _ => rfl) hlk (by decide) (by decide) ?_ (fun fs hr => ?_)
  ·exact ⟨rfl, N, KP, V_b⟩
  ·exact X.returnOut hx hret (hb hby d33_41) hr
theorem d34_0 : DK kc19 0 (.aload_n 0) 1 := by decide +kernel
theorem d34_1 : DK kc19 1 (.iload_n 1) 1 := by decide +kernel
theorem d34_2 : DK kc19 2 (.aload_n 2) 1 := by decide +kernel
theorem d34_3 : DK kc19 3 (.iload_n 3) 1 := by decide +kernel
theorem d34_4 : DK kc19 4 (.iload 4) 2 := by decide +kernel
theorem d34_6 : DK kc19 6 (.invokestatic 240) 3 := by decide +kernel
theorem own_pd21 : parseMethodDescriptor "([BI[BII)V" = some ⟨[(.array .byte), .int, (.array .byte), .int, .int], none⟩ := by decide +kernel
theorem d34_9 : DK kc19 9 .return_ 1 := by decide +kernel
theorem own_ef_rm_lin (m : MethodId) (x0 : Addr) (x2 : Addr) (x3 : Int32) (x4 : Int32) : entryFrame m #[(.ref x0), (.int 0), (.ref x2), (.int x3), (.int x4)] 5 = mkF m 0 #[vr x0, vi 0, vr x2, vi x3, vi x4] [] := by first | (simp [entryFrame, mkF, argsToLocals, Value.category]; done) | rfl
def Q_rm_lin (Z : State) (x : Addr) (kx : ClassId) (xz : Int32) (xs : List Int32) (b : Addr) (kb : ClassId) (ys : List Int32) (fo : Value) (h0 : Heap) (n0 : Nat) (v : Option Value) (h : Heap) (L : List Loc) : Prop := v = none ∧ Fr n0 L ∧ Keep h0 h [b] ∧ Arv Z h b kb .byte 32 (utfV (ys ++ xs)) (.int 0)
theorem rm_lin (l : Launch) (Z : State) (a0 : Array Value) (hw : HW a0 Z) (ws : List Jvm.Cond) (x : Addr) (kx : ClassId) (xz : Int32) (xs : List Int32) (b : Addr) (kb : ClassId) (ys : List Int32) (fo : Value) (h0 : Heap) (n0 : Nat) (Z0 : n0 ≤ h0.size) (V_x : Arv Z h0 x kx .byte xz (latV xs) (.int 0)) (V_b : Arv Z h0 b kb .byte 32 (utfV ys) (.int 0)) (g_b : n0 ≤ b) (ne_x_b : x ≠ b) (hxz : xs.length ≤ xz.toNatClampNeg) (hxz2 : xz.toNatClampNeg ≤ 1000) (hxl : ∀ c ∈ xs, Lat c) (h16 : ys.length + xs.length ≤ 16) (sgA : Sta Z h0 "java/lang/StringUTF16" "$assertionsDisabled" "Z" (.int 1)) (sgH : Sta Z h0 "java/lang/StringUTF16" "HI_BYTE_SHIFT" "I" (.int 0)) (sgL : Sta Z h0 "java/lang/StringUTF16" "LO_BYTE_SHIFT" "I" (.int 8)) (sgF : Sta Z h0 "jdk/internal/util/Preconditions" "SIOOBE_FORMATTER" "Ljava/util/function/BiFunction;" fo) (r_fo : fo.isRef = true) :
  Met l Z mN34 jdk_43_method_50_code 5 none ({ frames := 4, cells := 0, slots := 0, locals := 60 } : Room) ws #[(.ref x), (.int 0), (.ref b), (.int (Int32.ofNat ys.length)), (.int (Int32.ofNat xs.length))] h0 (Q_rm_lin Z x kx xz xs b kb ys fo h0 n0) := by
 refine own_met (plainFor_of_name own_pn2) ?_
 intro p e s m below meth c s₁ hret hx hby hlk hml hown hnm X0 e0 hZ hh
 have N0 := Fr.nil n0
 refine Gz (castTop (own_ef_rm_lin m x b (Int32.ofNat ys.length) (Int32.ofNat xs.length))) ?_
 have KP : Keep h0 h0 [b] := Keep.refl _ _
 show GG (fT s₁ m 0 #[vr x, vi 0, vr b, vi (Int32.ofNat ys.length), vi (Int32.ofNat xs.length)] [])
 refine gA X0 hx hby d34_0 rfl rfl rfl ?_
 refine gN X0 hx hby d34_1 rfl rfl ?_
 refine gA X0 hx hby d34_2 rfl rfl rfl ?_
 refine gN X0 hx hby d34_3 rfl rfl ?_
 refine gI X0 hx hby d34_4 rfl rfl ?_
 refine cSg X0 hx hZ hw hown hby hml e0 mN33 257 258 259 169 0 (rm_inf l Z a0 hw [] x kx xz xs b kb ys fo h0 n0 Z0 V_x V_b g_b ne_x_b hxz hxz2 hxl h16 sgA sgH sgL sgF r_fo) d34_6 (lenOf own_pd21 rfl) (fun _ T1 L1 X1 hQ1 => ?_)
 obtain ⟨rfl, N1q, K1, V_b_1'⟩ := hQ1
 have N1 := Fr.app N0 N1q
 replace KP := KP.trans K1 (allS (Or.inl (List.mem_of_getElem? (i := 0) rfl)) all0)
 replace Z0 := Nat.le_trans Z0 K1.1
 have V_b := V_b_1'
 show GG (fT T1 m 9 #[vr x, vi 0, vr b, vi (Int32.ofNat ys.length), vi (Int32.ofNat xs.length)] [])
 refine Goes.ret X1 none (fun _ => rfl) hlk (by decide) (by decide) ?_ (fun fs hr => ?_)
 ·exact ⟨rfl, N1, KP, V_b⟩
 ·exact X1.returnOut hx hret (hb hby d34_9) hr
theorem own_ef_rm_nbl (m : MethodId)  : entryFrame m #[(.int 16)] 1 = mkF m 0 #[vi 16] [] := by first | (simp [entryFrame, mkF, argsToLocals, Value.category]; done) | rfl
def Q_rm_nbl (Z : State)  (h0 : Heap) (n0 : Nat) (v : Option Value) (h : Heap) (L : List Loc) : Prop := v = some (.int 32) ∧ Fr n0 L ∧ h = h0
theorem rm_nbl (l : Launch) (Z : State) (a0 : Array Value) (hw : HW a0 Z) (ws : List Jvm.Cond)  (h0 : Heap) (n0 : Nat) (Z0 : n0 ≤ h0.size) :
  Met l Z mN14 jdk_52_method_3_code 1 (some .int) ({ frames := 0, cells := 0, slots := 0, locals := 0 } : Room) ws #[(.int 16)] h0 (Q_rm_nbl Z  h0 n0) := by
 refine own_met (plainFor_of_name own_pn3) ?_
 intro p e s m below meth c s₁ hret hx hby hlk hml hown hnm X0 e0 hZ hh
 have N0 := Fr.nil n0
 refine Gz (castTop (own_ef_rm_nbl m )) ?_
 show GG (fT s₁ m 0 #[vi 16] [])
 refine gN X0 hx hby d14_0 rfl rfl ?_
 refine gy X0 hx hby d14_1 1 12 ((if0 _ _).trans (flt (by decide : ¬ ((16 : Int32) < (0 : Int32)))).2.1) ?_
 refine gN X0 hx hby d14_12 rfl rfl ?_
 refine Gz (Jvm.Stand.ldcI X0 hx hown (gz hZ hw 253 rfl) rfl (hb hby d14_13)) ?_
 show GG (fT s₁ m 15 #[vi 16] [(.int 1073741823), (.int 16)])
 refine gY X0 hx hby d14_15 15 55 (tlt (by decide : ((16 : Int32) < (1073741823 : Int32)))).1 ?_
 refine gN X0 hx hby d14_55 rfl rfl ?_
 refine gC X0 hx hby d14_56 ?_
 show GG (fT s₁ m 57 #[vi 16] [(.int 1), (.int 16)])
 refine Gz (XS.ishl X0.here hx rfl (hb hby d14_57) rfl) ?_
 show GG (fT s₁ m 58 #[vi 16] [(.int 32)])
 refine Goes.ret X0 (some (.int 32)) (fun h => by rw [hret] at h; cases h) hlk (by decide) (by decide) ?_ (fun fs hr => ?_)
 ·exact ⟨rfl, N0, e0⟩
 ·exact retI X0 hx hret (hb hby d14_58) hr
theorem own_ef_rm_nbf (m : MethodId)  : entryFrame m #[(.int 16)] 1 = mkF m 0 #[vi 16] [] := by first | (simp [entryFrame, mkF, argsToLocals, Value.category]; done) | rfl
def Q_rm_nbf (Z : State)  (h0 : Heap) (n0 : Nat) (v : Option Value) (h : Heap) (L : List Loc) : Prop := ∃ y : Addr, ∃ ky : ClassId, v = some (.ref y) ∧ Fr n0 L ∧ Keep h0 h [] ∧ Arv Z h y ky .byte 32 [] (.int 0) ∧ n0 ≤ y ∧ h0.size ≤ y
theorem rm_nbf (l : Launch) (Z : State) (a0 : Array Value) (hw : HW a0 Z) (ws : List Jvm.Cond)  (h0 : Heap) (n0 : Nat) (Z0 : n0 ≤ h0.size) :
  Met l Z mN15 jdk_52_method_2_code 1 (some (.array .byte)) ({ frames := 1, cells := 1, slots := 32, locals := 12 } : Room) ws #[(.int 16)] h0 (Q_rm_nbf Z  h0 n0) := by
 refine own_met (plainFor_of_name own_pn3) ?_
 intro p e s m below meth c s₁ hret hx hby hlk hml hown hnm X0 e0 hZ hh
 have N0 := Fr.nil n0
 refine Gz (castTop (own_ef_rm_nbf m )) ?_
 have KP : Keep h0 h0 [] := Keep.refl _ _
 show GG (fT s₁ m 0 #[vi 16] [])
 refine gN X0 hx hby d15_0 rfl rfl ?_
 refine cS X0 hx hZ hw hown hby hml e0 mN14 250 251 252 169 0 (rm_nbl l Z a0 hw []  h0 n0 Z0) d15_1 (lenOf own_pd8 rfl) N0 (fun T1 L1 X1 e1 N1 => ?_)
 show GG (fT T1 m 4 #[vi 16] [(.int 32)])
 obtain ⟨T2, h2, k2, X2, e2, E2, A2, st2⟩ := newP X1 hx hZ (gw hw 22 rfl) e1 (g := (mkF m 4 #[vi 16] [(.int 32)])) rfl (hb hby d15_4) rfl (by decide) (cap := 32) (by decide) (by decide) (by decide) (by decide)
 obtain ⟨b2, gq2⟩ : ∃ z, z = h0.size := ⟨_, rfl⟩
 rw [← gq2] at A2 st2
 have g_b2 : n0 ≤ b2 := by rw [gq2]; exact Z0
 have sz_b2 : h0.size ≤ b2 := by rw [gq2]; exact KP.1
 replace KP := KP.ext E2
 replace Z0 : n0 ≤ h2.size := Nat.le_trans Z0 E2.1
 have V_b2 : Arv Z h2 b2 k2 .byte 32 [(.int 0), (.int 0), (.int 0), (.int 0), (.int 0), (.int 0), (.int 0), (.int 0), (.int 0), (.int 0), (.int 0), (.int 0), (.int 0), (.int 0), (.int 0), (.int 0), (.int 0), (.int 0), (.int 0), (.int 0), (.int 0), (.int 0), (.int 0), (.int 0), (.int 0), (.int 0), (.int 0), (.int 0), (.int 0), (.int 0), (.int 0), (.int 0)] (.int 0) := (Arv.new A2 (by decide)).pad (pad_rep [] (.int 0) 32)
 refine Gs st2 ?_
 show GG (fT T2 m 6 #[vi 16] [(.ref b2)])
 replace V_b2 := own_unp (n := 32) V_b2
 refine Goes.ret X2 (some (.ref b2)) (fun h => by rw [hret] at h; cases h) hlk (by decide) (by decide) ?_ (fun fs hr => ?_)
 ·rw [e2]; exact ⟨b2, k2, rfl, N1, KP, V_b2, g_b2, sz_b2⟩
 ·exact own_retA X2 hx hret rfl rfl (hb hby d15_6) hr
theorem d35_0 : DK kc43 0 (.aload_n 0) 1 := by decide +kernel
theorem d35_1 : DK kc43 1 (.invokevirtual 83) 3 := by decide +kernel
theorem d35_4 : DK kc43 4 (.ifCond .ne 4) 3 := by decide +kernel
theorem d35_8 : DK kc43 8 (.aload_n 0) 1 := by decide +kernel
theorem d35_9 : DK kc43 9 (.getfield 15) 3 := by decide +kernel
theorem d35_12 : DK kc43 12 .arraylength 1 := by decide +kernel
theorem d35_13 : DK kc43 13 (.invokestatic 26) 3 := by decide +kernel
theorem d35_16 : DK kc43 16 (.astore_n 1) 1 := by decide +kernel
theorem d35_17 : DK kc43 17 (.aload_n 0) 1 := by decide +kernel
theorem d35_18 : DK kc43 18 (.getfield 15) 3 := by decide +kernel
theorem d35_21 : DK kc43 21 (.iconst 0) 1 := by decide +kernel
theorem d35_22 : DK kc43 22 (.aload_n 1) 1 := by decide +kernel
theorem d35_23 : DK kc43 23 (.iconst 0) 1 := by decide +kernel
theorem d35_24 : DK kc43 24 (.aload_n 0) 1 := by decide +kernel
theorem d35_25 : DK kc43 25 (.getfield 79) 3 := by decide +kernel
theorem d35_28 : DK kc43 28 (.invokestatic 125) 3 := by decide +kernel
theorem d35_31 : DK kc43 31 (.aload_n 0) 1 := by decide +kernel
theorem d35_32 : DK kc43 32 (.aload_n 1) 1 := by decide +kernel
theorem d35_33 : DK kc43 33 (.putfield 15) 3 := by decide +kernel
theorem d35_36 : DK kc43 36 (.aload_n 0) 1 := by decide +kernel
theorem d35_37 : DK kc43 37 (.iconst 1) 1 := by decide +kernel
theorem d35_38 : DK kc43 38 (.putfield 22) 3 := by decide +kernel
theorem d35_41 : DK kc43 41 .return_ 1 := by decide +kernel
theorem own_ef_rm_bi (m : MethodId) (x0 : Addr) : entryFrame m #[(.ref x0)] 2 = mkF m 0 #[vr x0, vu] [] := by first | (simp [entryFrame, mkF, argsToLocals, Value.category]; done) | rfl
def Q_rm_bi (Z : State) (a : Addr) (b : Addr) (kb : ClassId) (ys : List Int32) (cz : Int32) (fo : Value) (h0 : Heap) (n0 : Nat) (v : Option Value) (h : Heap) (L : List Loc) : Prop := ∃ y : Addr, ∃ ky : ClassId, v = none ∧ Fr n0 L ∧ Keep h0 h [a] ∧ Fld Z h a "java/lang/AbstractStringBuilder" "value" "[B" (.ref y) ∧ Fld Z h a "java/lang/AbstractStringBuilder" "count" "I" (.int (Int32.ofNat ys.length)) ∧ Fld Z h a "java/lang/AbstractStringBuilder" "maybeLatin1" "Z" (.int 0) ∧ Fld Z h a "java/lang/AbstractStringBuilder" "coder" "B" (.int 1) ∧ Arv Z h y ky .byte 32 (utfV ys) (.int 0) ∧ n0 ≤ y ∧ h0.size ≤ y
theorem rm_bi (l : Launch) (Z : State) (a0 : Array Value) (hw : HW a0 Z) (ws : List Jvm.Cond) (a : Addr) (b : Addr) (kb : ClassId) (ys : List Int32) (cz : Int32) (fo : Value) (h0 : Heap) (n0 : Nat) (Z0 : n0 ≤ h0.size) (A_a : Exa Z h0 a "java/lang/StringBuilder") (F_value_a : Fld Z h0 a "java/lang/AbstractStringBuilder" "value" "[B" (.ref b)) (F_count_a : Fld Z h0 a "java/lang/AbstractStringBuilder" "count" "I" (.int (Int32.ofNat ys.length))) (F_maybeLatin1_a : Fld Z h0 a "java/lang/AbstractStringBuilder" "maybeLatin1" "Z" (.int 0)) (F_coder_a : Fld Z h0 a "java/lang/AbstractStringBuilder" "coder" "B" (.int 0)) (V_b : Arv Z h0 b kb .byte 16 (latV ys) (.int 0)) (g_a : n0 ≤ a) (hall : ∀ c ∈ ys, Lat c) (h16 : ys.length ≤ 16) (sgC : Sta Z h0 "java/lang/String" "COMPACT_STRINGS" "Z" (.int cz)) (hcz : ¬ (cz = 0)) (sgA : Sta Z h0 "java/lang/StringUTF16" "$assertionsDisabled" "Z" (.int 1)) (sgH : Sta Z h0 "java/lang/StringUTF16" "HI_BYTE_SHIFT" "I" (.int 0)) (sgL : Sta Z h0 "java/lang/StringUTF16" "LO_BYTE_SHIFT" "I" (.int 8)) (sgF : Sta Z h0 "jdk/internal/util/Preconditions" "SIOOBE_FORMATTER" "Ljava/util/function/BiFunction;" fo) (r_fo : fo.isRef = true) :
  Met l Z mN35 jdk_68_method_11_code 2 none ({ frames := 5, cells := 1, slots := 32, locals := 76 } : Room) ws #[(.ref a)] h0 (Q_rm_bi Z a b kb ys cz fo h0 n0) := by
 refine own_met (plainFor_of_name own_pn4) ?_
 intro p e s m below meth c s₁ hret hx hby hlk hml hown hnm X0 e0 hZ hh
 have N0 := Fr.nil n0
 refine Gz (castTop (own_ef_rm_bi m a)) ?_
 have KP : Keep h0 h0 [a] := Keep.refl _ _
 show GG (fT s₁ m 0 #[vr a, vu] [])
 refine gA X0 hx hby d35_0 rfl rfl rfl ?_
 refine cV X0 hx hZ hw hown hby hml e0 mN27 69 70 72 71 73 44 0 (rm_isl0 l Z a0 hw [] a cz h0 n0 Z0 F_coder_a sgC hcz) A_a d35_1 (lenOf own_pd6 rfl) N0 (fun T1 L1 X1 e1 N1 => ?_)
 show GG (fT T1 m 4 #[vr a, vu] [(.int 1)])
 refine gy X1 hx hby d35_4 4 8 ((if0 _ _).trans (feq (by decide : ¬ ((1 : Int32) = (0 : Int32)))).2) ?_
 refine gA X1 hx hby d35_8 rfl rfl rfl ?_
 obtain ⟨T2, X2, e2, st2⟩ := getF X1 hx hZ hown (host := "") (Or.inl (gw hw 48 rfl)) Via.refl e1 F_value_a (g := (mkF m 9 #[vr a, vu] [(.ref a)])) rfl rfl (hb hby d35_9)
 refine Gs st2 ?_
 show GG (fT T2 m 12 #[vr a, vu] [(.ref b)])
 obtain ⟨cl3, Ar3, -, S3, N3z, -, -⟩ := id V_b
 refine Gs (fun _ tk => X2.arraylength hx (by rw [e2]; exact Ar3.1) (State.isArrayOf_alike hZ.alike Ar3.2.1) (g := (mkF m 12 #[vr a, vu] [(.ref b)])) rfl rfl (hb hby d35_12) _ tk) ?_
 rw [len_of S3 N3z]
 show GG (fT T2 m 13 #[vr a, vu] [(.int 16)])
 have ltc4_a : a < h0.size := A_a.lt
 have ltc4_b : b < h0.size := V_b.lt
 have szs4 : h0.size ≤ h0.size := KP.1
 refine cSg X2 hx hZ hw hown hby hml e2 mN15 247 248 249 169 0 (rm_nbf l Z a0 hw []  h0 n0 Z0) d35_13 (lenOf own_pd9 rfl) (fun _ T4 L4 X4 hQ4 => ?_)
 obtain ⟨y4, ky4, rfl, N4q, K4, V_y4_4', g_y4_4', sz_y4_4'⟩ := hQ4
 have N4 := Fr.app N1 N4q
 replace sgA := own_staK sgA K4 all0
 replace sgH := own_staK sgH K4 all0
 replace sgL := own_staK sgL K4 all0
 replace sgF := own_staK sgF K4 all0
 replace A_a := A_a.keep K4
 replace F_value_a := F_value_a.keep K4 nin0
 replace F_count_a := F_count_a.keep K4 nin0
 replace F_maybeLatin1_a := F_maybeLatin1_a.keep K4 nin0
 replace F_coder_a := F_coder_a.keep K4 nin0
 replace V_b := V_b.keep K4 nin0
 replace KP := KP.trans K4 all0
 replace Z0 := Nat.le_trans Z0 K4.1
 have V_y4 := V_y4_4'
 have g_y4 := g_y4_4'
 have szc_y4 := sz_y4_4'
 have ne_a_y4 : a ≠ y4 := Nat.ne_of_lt (Nat.lt_of_lt_of_le ltc4_a szc_y4)
 have ne_b_y4 : b ≠ y4 := Nat.ne_of_lt (Nat.lt_of_lt_of_le ltc4_b szc_y4)
 have sz_y4 : h0.size ≤ y4 := Nat.le_trans szs4 szc_y4
 show GG (fT T4 m 16 #[vr a, vu] [(.ref y4)])
 refine Gz (XS.astoreN X4.here hx rfl (hb hby d35_16) rfl rfl (l' := #[vr a, vr y4]) rfl) ?_
 refine gA X4 hx hby d35_17 rfl rfl rfl ?_
 obtain ⟨T5, X5, e5, st5⟩ := getF X4 hx hZ hown (host := "") (Or.inl (gw hw 48 rfl)) Via.refl rfl F_value_a (g := (mkF m 18 #[vr a, vr y4] [(.ref a)])) rfl rfl (hb hby d35_18)
 refine Gs st5 ?_
 show GG (fT T5 m 21 #[vr a, vr y4] [(.ref b)])
 refine gC X5 hx hby d35_21 ?_
 refine gA X5 hx hby d35_22 rfl rfl rfl ?_
 refine gC X5 hx hby d35_23 ?_
 refine gA X5 hx hby d35_24 rfl rfl rfl ?_
 obtain ⟨T6, X6, e6, st6⟩ := getF X5 hx hZ hown (host := "") (Or.inl (gw hw 62 rfl)) Via.refl e5 F_count_a (g := (mkF m 25 #[vr a, vr y4] [(.ref a), (.int 0), (.ref y4), (.int 0), (.ref b)])) rfl rfl (hb hby d35_25)
 refine Gs st6 ?_
 show GG (fT T6 m 28 #[vr a, vr y4] [(.int (Int32.ofNat ys.length)), (.int 0), (.ref y4), (.int 0), (.ref b)])
 have V_y4 : Arv Z T4.heap y4 ky4 .byte 32 (utfV ([] : List Int32)) (.int 0) := V_y4
 show GG (fT T6 m 28 #[vr a, vr y4] [(.int (Int32.ofNat ys.length)), (.int (Int32.ofNat ([] : List Int32).length)), (.ref y4), (.int 0), (.ref b)])
 refine cSg X6 hx hZ hw hown hby hml e6 mN34 254 255 256 76 0 (rm_lin l Z a0 hw [] b kb (16 : Int32) ys y4 ky4 ([] : List Int32) fo T4.heap n0 Z0 V_b V_y4 g_y4 ne_b_y4 h16 (by decide) hall (by rw [List.length_nil, Nat.zero_add]; exact h16) sgA sgH sgL sgF r_fo) d35_28 (lenOf own_pd21 rfl) (fun _ T7 L7 X7 hQ7 => ?_)
 obtain ⟨rfl, N7q, K7, V_y4_7'⟩ := hQ7
 have N7 := Fr.app N4 N7q
 replace A_a := A_a.keep K7
 replace F_value_a := F_value_a.keep K7 (ninS ne_a_y4 nin0)
 replace F_count_a := F_count_a.keep K7 (ninS ne_a_y4 nin0)
 replace F_maybeLatin1_a := F_maybeLatin1_a.keep K7 (ninS ne_a_y4 nin0)
 replace F_coder_a := F_coder_a.keep K7 (ninS ne_a_y4 nin0)
 replace KP := KP.trans K7 (allS (Or.inr sz_y4) all0)
 replace Z0 := Nat.le_trans Z0 K7.1
 have V_y4 := V_y4_7'
 show GG (fT T7 m 31 #[vr a, vr y4] [])
 refine gA X7 hx hby d35_31 rfl rfl rfl ?_
 refine gA X7 hx hby d35_32 rfl rfl rfl ?_
 obtain ⟨T8, h8, X8, e8, W8, st8⟩ := putF X7 hx hZ hown (host := "") (Or.inl (gw hw 48 rfl)) Via.refl rfl F_value_a A_a (Or.inl (gw hw 49 rfl)) (gw hw 35 rfl) (ty := (.array .byte)) (by decide) rfl rfl (g := (mkF m 33 #[vr a, vr y4] [(.ref y4), (.ref a)])) rfl rfl (hb hby d35_33)
 have N8 := Fr.snoc X8 N7 g_a
 replace A_a := A_a.wr W8
 replace F_count_a := F_count_a.other W8 (Or.inr (slot_ne (Or.inl (gw hw 63 rfl)) (Or.inl (gw hw 49 rfl)) (by decide) (t := .int) (t' := (.array .byte)) (by decide) (by decide)))
 replace F_maybeLatin1_a := F_maybeLatin1_a.other W8 (Or.inr (slot_ne (Or.inl (gw hw 273 rfl)) (Or.inl (gw hw 49 rfl)) (by decide) (t := .boolean) (t' := (.array .byte)) (by decide) (by decide)))
 replace F_coder_a := F_coder_a.other W8 (Or.inr (slot_ne (Or.inl (gw hw 51 rfl)) (Or.inl (gw hw 49 rfl)) (by decide) (t := .byte) (t' := (.array .byte)) (by decide) (by decide)))
 replace V_y4 := V_y4.other W8 (Ne.symm ne_a_y4)
 replace KP := KP.wr W8 (Or.inl (List.mem_of_getElem? (i := 0) rfl))
 replace F_value_a := F_value_a.same W8
 replace Z0 : n0 ≤ h8.size := by rw [W8.size]; exact Z0
 refine Gs st8 ?_
 show GG (fT T8 m 36 #[vr a, vr y4] [])
 refine gA X8 hx hby d35_36 rfl rfl rfl ?_
 refine gC X8 hx hby d35_37 ?_
 obtain ⟨T9, h9, X9, e9, W9, st9⟩ := putFN X8 hx hZ hown (gw hw 50 rfl) Via.refl e8 F_coder_a A_a (Or.inl (gw hw 51 rfl)) (gw hw 35 rfl) (ty := .byte) (v' := .int 1) (by decide) rfl rfl (g := (mkF m 38 #[vr a, vr y4] [(.int 1), (.ref a)])) rfl rfl (hb hby d35_38)
 have N9 := Fr.snoc X9 N8 g_a
 replace F_value_a := F_value_a.other W9 (Or.inr (slot_ne (Or.inl (gw hw 49 rfl)) (Or.inl (gw hw 51 rfl)) (by decide) (t := (.array .byte)) (t' := .byte) (by decide) (by decide)))
 replace F_count_a := F_count_a.other W9 (Or.inr (slot_ne (Or.inl (gw hw 63 rfl)) (Or.inl (gw hw 51 rfl)) (by decide) (t := .int) (t' := .byte) (by decide) (by decide)))
 replace F_maybeLatin1_a := F_maybeLatin1_a.other W9 (Or.inr (slot_ne (Or.inl (gw hw 273 rfl)) (Or.inl (gw hw 51 rfl)) (by decide) (t := .boolean) (t' := .byte) (by decide) (by decide)))
 replace V_y4 := V_y4.other W9 (Ne.symm ne_a_y4)
 replace KP := KP.wr W9 (Or.inl (List.mem_of_getElem? (i := 0) rfl))
 replace F_coder_a := F_coder_a.same W9
 replace Z0 : n0 ≤ h9.size := by rw [W9.size]; exact Z0
 refine Gs st9 ?_
 show GG (fT T9 m 41 #[vr a, vr y4] [])
 refine Goes.ret X9 none (fun _ => rfl) hlk (by decide) (by decide) ?_ (fun fs hr => ?_)
 ·rw [e9]; exact ⟨y4, ky4, rfl, N9, KP, F_value_a, F_count_a, F_maybeLatin1_a, F_coder_a, V_y4, g_y4, sz_y4⟩
 ·exact X9.returnOut hx hret (hb hby d35_41) hr
theorem d36_0 : DK kc46 0 (.aload_n 0) 1 := by decide +kernel
theorem d36_1 : DK kc46 1 (.aload_n 0) 1 := by decide +kernel
theorem d36_2 : DK kc46 2 (.getfield 79) 3 := by decide +kernel
theorem d36_5 : DK kc46 5 (.iconst 1) 1 := by decide +kernel
theorem d36_6 : DK kc46 6 .iadd 1 := by decide +kernel
theorem d36_7 : DK kc46 7 (.invokevirtual 100) 3 := by decide +kernel
theorem d36_10 : DK kc46 10 (.aload_n 0) 1 := by decide +kernel
theorem d36_11 : DK kc46 11 (.invokevirtual 83) 3 := by decide +kernel
theorem d36_14 : DK kc46 14 (.ifCond .eq 31) 3 := by decide +kernel
theorem d36_17 : DK kc46 17 (.iload_n 1) 1 := by decide +kernel
theorem d36_18 : DK kc46 18 (.invokestatic 191) 3 := by decide +kernel
theorem d36_21 : DK kc46 21 (.ifCond .eq 24) 3 := by decide +kernel
theorem d36_24 : DK kc46 24 (.aload_n 0) 1 := by decide +kernel
theorem d36_25 : DK kc46 25 (.getfield 15) 3 := by decide +kernel
theorem d36_28 : DK kc46 28 (.aload_n 0) 1 := by decide +kernel
theorem d36_29 : DK kc46 29 .dup 1 := by decide +kernel
theorem d36_30 : DK kc46 30 (.getfield 79) 3 := by decide +kernel
theorem d36_33 : DK kc46 33 .dup_x1 1 := by decide +kernel
theorem d36_34 : DK kc46 34 (.iconst 1) 1 := by decide +kernel
theorem d36_35 : DK kc46 35 .iadd 1 := by decide +kernel
theorem d36_36 : DK kc46 36 (.putfield 79) 3 := by decide +kernel
theorem d36_39 : DK kc46 39 (.iload_n 1) 1 := by decide +kernel
theorem d36_40 : DK kc46 40 .i2b 1 := by decide +kernel
theorem d36_41 : DK kc46 41 .bastore 1 := by decide +kernel
theorem d36_42 : DK kc46 42 (.goto 33) 3 := by decide +kernel
theorem d36_75 : DK kc46 75 (.aload_n 0) 1 := by decide +kernel
theorem d36_76 : DK kc46 76 .areturn 1 := by decide +kernel
theorem d36_45 : DK kc46 45 (.aload_n 0) 1 := by decide +kernel
theorem d36_46 : DK kc46 46 (.invokevirtual 83) 3 := by decide +kernel
theorem d36_49 : DK kc46 49 (.ifCond .eq 7) 3 := by decide +kernel
theorem d36_52 : DK kc46 52 (.aload_n 0) 1 := by decide +kernel
theorem d36_53 : DK kc46 53 (.invokevirtual 195) 3 := by decide +kernel
theorem own_pd22 : parseMethodDescriptor "()V" = some ⟨[], none⟩ := by decide +kernel
theorem d36_56 : DK kc46 56 (.aload_n 0) 1 := by decide +kernel
theorem d36_57 : DK kc46 57 (.getfield 15) 3 := by decide +kernel
theorem d36_60 : DK kc46 60 (.aload_n 0) 1 := by decide +kernel
theorem d36_61 : DK kc46 61 .dup 1 := by decide +kernel
theorem d36_62 : DK kc46 62 (.getfield 79) 3 := by decide +kernel
theorem d36_65 : DK kc46 65 .dup_x1 1 := by decide +kernel
theorem d36_66 : DK kc46 66 (.iconst 1) 1 := by decide +kernel
theorem d36_67 : DK kc46 67 .iadd 1 := by decide +kernel
theorem d36_68 : DK kc46 68 (.putfield 79) 3 := by decide +kernel
theorem d36_71 : DK kc46 71 (.iload_n 1) 1 := by decide +kernel
theorem d36_72 : DK kc46 72 (.invokestatic 197) 3 := by decide +kernel
theorem own_ef_rm_ac (m : MethodId) (x0 : Addr) (x1 : Int32) : entryFrame m #[(.ref x0), (.int x1)] 2 = mkF m 0 #[vr x0, vi x1] [] := by first | (simp [entryFrame, mkF, argsToLocals, Value.category]; done) | rfl
def Q_rm_ac (Z : State) (a : Addr) (b : Addr) (ys : List Int32) (cc : Int32) (cz : Int32) (fo : Value) (h0 : Heap) (n0 : Nat) (v : Option Value) (h : Heap) (L : List Loc) : Prop := ∃ y : Addr, v = some (.ref a) ∧ Fr n0 L ∧ Keep h0 h [a, b] ∧ SbOf Z h a y (ys ++ [cc]) ∧ n0 ≤ y ∧ (y = b ∨ h0.size ≤ y) ∧ a ≠ y
theorem rm_ac (l : Launch) (Z : State) (a0 : Array Value) (hw : HW a0 Z) (ws : List Jvm.Cond) (a : Addr) (b : Addr) (ys : List Int32) (cc : Int32) (cz : Int32) (fo : Value) (h0 : Heap) (n0 : Nat) (Z0 : n0 ≤ h0.size) (B_a : SbOf Z h0 a b ys) (A_a : Exa Z h0 a "java/lang/StringBuilder") (g_a : n0 ≤ a) (g_b : n0 ≤ b) (ne_a_b : a ≠ b) (hC : Chr cc) (h15 : ys.length < 15) (sgC : Sta Z h0 "java/lang/String" "COMPACT_STRINGS" "Z" (.int cz)) (hcz : ¬ (cz = 0)) (sgA : Sta Z h0 "java/lang/StringUTF16" "$assertionsDisabled" "Z" (.int 1)) (sgH : Sta Z h0 "java/lang/StringUTF16" "HI_BYTE_SHIFT" "I" (.int 0)) (sgL : Sta Z h0 "java/lang/StringUTF16" "LO_BYTE_SHIFT" "I" (.int 8)) (sgF : Sta Z h0 "jdk/internal/util/Preconditions" "SIOOBE_FORMATTER" "Ljava/util/function/BiFunction;" fo) (r_fo : fo.isRef = true) :
  Met l Z mN36 jdk_68_method_31_code 2 (some (.object "java/lang/AbstractStringBuilder")) ({ frames := 6, cells := 1, slots := 32, locals := 89 } : Room) ws #[(.ref a), (.int cc)] h0 (Q_rm_ac Z a b ys cc cz fo h0 n0) := by
 refine own_met (plainFor_of_name own_pn4) ?_
 intro p e s m below meth c s₁ hret hx hby hlk hml hown hnm X0 e0 hZ hh
 have N0 := Fr.nil n0
 refine Gz (castTop (own_ef_rm_ac m a cc)) ?_
 have KP : Keep h0 h0 [a, b] := Keep.refl _ _
 show GG (fT s₁ m 0 #[vr a, vi cc] [])
 obtain ⟨kb, -, F_value_a, F_count_a, F_maybeLatin1_a, hrep⟩ := B_a
 rcases hrep with ⟨F_coder_a, hall, V_b⟩ | ⟨F_coder_a, hall, V_b⟩
 ·show GG (fT s₁ m 0 #[vr a, vi cc] [])
  by_cases hLat : Lat cc
  ·have hn := own_latNN hLat
   show GG (fT s₁ m 0 #[vr a, vi cc] [])
   have oc := own_tnO (n := ys.length) (by omega)
   refine gA X0 hx hby d36_0 rfl rfl rfl ?_
   refine gA X0 hx hby d36_1 rfl rfl rfl ?_
   obtain ⟨T1, X1, e1, st1⟩ := getF X0 hx hZ hown (host := "") (Or.inl (gw hw 62 rfl)) Via.refl e0 F_count_a (g := (mkF m 2 #[vr a, vi cc] [(.ref a), (.ref a)])) rfl rfl (hb hby d36_2)
   refine Gs st1 ?_
   show GG (fT T1 m 5 #[vr a, vi cc] [(.int (Int32.ofNat ys.length)), (.ref a)])
   refine gC X1 hx hby d36_5 ?_
   show GG (fT T1 m 6 #[vr a, vi cc] [(.int 1), (.int (Int32.ofNat ys.length)), (.ref a)])
   refine Gz (XS.iadd X1.here hx rfl (hb hby d36_6) rfl) ?_
   show GG (fT T1 m 7 #[vr a, vi cc] [(.int ((Int32.ofNat ys.length) + 1)), (.ref a)])
   rw [own_ofS]
   show GG (fT T1 m 7 #[vr a, vi cc] [(.int (Int32.ofNat (ys.length + 1))), (.ref a)])
   obtain ⟨cq2, q2, q2'⟩ := A_a.cell
   obtain ⟨_, _, ⟨T2, L2, k2, n2⟩, -, X2, ⟨Lc2, hQ2, l2, y2, z2⟩, st2⟩ := X1.privateBack hx (y := mN28) hown (gz hZ hw 64 rfl) (gz hZ hw 65 rfl) (own_selQ hZ (gw hw 67 rfl) (gw hw 66 rfl) (gw hw 65 rfl) (by decide)) (Cond.privateMethod_at (mvP hZ (gw hw 66 rfl) (args := #[]))) (gz hZ hw 68 rfl) (by decide) (backOf (W := 0) (rm_ec0 l Z a0 hw [] a b kb (latV ys) (Int32.ofNat (ys.length + 1)) h0 n0 Z0 F_value_a F_coder_a V_b (own_ecN (by decide) (by show ys.length + 1 ≤ 16; omega) (by decide))) hZ (gw hw 68 rfl) (gw hw 44 rfl) (by decide) (by decide)) (g := (mkF m 7 #[vr a, vi cc] [(.int (Int32.ofNat (ys.length + 1))), (.ref a)])) rfl hml.symm (Steps.refl _) (a := a) (by rw [e1]; exact q2) q2' (argsL := [(.int (Int32.ofNat (ys.length + 1)))]) (rest := []) (lenOf own_pd17 rfl) rfl (wz rfl) (hb hby d36_7) (fun _ _ => ⟨rfl, e1, z0, z0⟩)
   dsimp only [Pt.U, Pt.locs, Pt.cells, Pt.slots] at X2 l2 y2 z2 st2 hQ2
   subst l2 y2 z2
   obtain ⟨rfl, N2q, e2⟩ := hQ2
   have N2 := Fr.app N0 N2q
   refine Gs (fun _ tk => st2.trans tk) ?_
   show GG (fT T2 m 10 #[vr a, vi cc] [])
   refine gA X2 hx hby d36_10 rfl rfl rfl ?_
   refine cV X2 hx hZ hw hown hby hml e2 mN27 69 70 72 71 73 44 0 (rm_isl0 l Z a0 hw [] a cz h0 n0 Z0 F_coder_a sgC hcz) A_a d36_11 (lenOf own_pd6 rfl) N2 (fun T3 L3 X3 e3 N3 => ?_)
   show GG (fT T3 m 14 #[vr a, vi cc] [(.int 1)])
   refine gu X3 hx hby d36_14 ((if0 _ _).trans (feq (by decide : ¬ ((1 : Int32) = (0 : Int32)))).1) ?_
   refine gN X3 hx hby d36_17 rfl rfl ?_
   refine cS X3 hx hZ hw hown hby hml e3 mN20 74 75 77 76 0 (rs_enc0 l Z a0 hw [] cc h0 n0 Z0 hn) d36_18 (lenOf own_pd14 rfl) N3 (fun T4 L4 X4 e4 N4 => ?_)
   show GG (fT T4 m 21 #[vr a, vi cc] [(.int 1)])
   refine gu X4 hx hby d36_21 ((if0 _ _).trans (feq (by decide : ¬ ((1 : Int32) = (0 : Int32)))).1) ?_
   refine gA X4 hx hby d36_24 rfl rfl rfl ?_
   obtain ⟨T5, X5, e5, st5⟩ := getF X4 hx hZ hown (host := "") (Or.inl (gw hw 48 rfl)) Via.refl e4 F_value_a (g := (mkF m 25 #[vr a, vi cc] [(.ref a)])) rfl rfl (hb hby d36_25)
   refine Gs st5 ?_
   show GG (fT T5 m 28 #[vr a, vi cc] [(.ref b)])
   refine gA X5 hx hby d36_28 rfl rfl rfl ?_
   refine Gz (XS.dup X5.here hx rfl (hb hby d36_29) rfl rfl) ?_
   obtain ⟨T6, X6, e6, st6⟩ := getF X5 hx hZ hown (host := "") (Or.inl (gw hw 62 rfl)) Via.refl e5 F_count_a (g := (mkF m 30 #[vr a, vi cc] [(.ref a), (.ref a), (.ref b)])) rfl rfl (hb hby d36_30)
   refine Gs st6 ?_
   show GG (fT T6 m 33 #[vr a, vi cc] [(.int (Int32.ofNat ys.length)), (.ref a), (.ref b)])
   refine Gz (XS.dupX1 X6.here hx rfl (hb hby d36_33) rfl rfl rfl) ?_
   show GG (fT T6 m 34 #[vr a, vi cc] [(.int (Int32.ofNat ys.length)), (.ref a), (.int (Int32.ofNat ys.length)), (.ref b)])
   refine gC X6 hx hby d36_34 ?_
   show GG (fT T6 m 35 #[vr a, vi cc] [(.int 1), (.int (Int32.ofNat ys.length)), (.ref a), (.int (Int32.ofNat ys.length)), (.ref b)])
   refine Gz (XS.iadd X6.here hx rfl (hb hby d36_35) rfl) ?_
   show GG (fT T6 m 36 #[vr a, vi cc] [(.int ((Int32.ofNat ys.length) + 1)), (.ref a), (.int (Int32.ofNat ys.length)), (.ref b)])
   rw [own_ofS]
   show GG (fT T6 m 36 #[vr a, vi cc] [(.int (Int32.ofNat (ys.length + 1))), (.ref a), (.int (Int32.ofNat ys.length)), (.ref b)])
   obtain ⟨T7, h7, X7, e7, W7, st7⟩ := putF X6 hx hZ hown (host := "") (Or.inl (gw hw 62 rfl)) Via.refl e6 F_count_a A_a (Or.inl (gw hw 63 rfl)) (gw hw 35 rfl) (ty := .int) (by decide) rfl rfl (g := (mkF m 36 #[vr a, vi cc] [(.int (Int32.ofNat (ys.length + 1))), (.ref a), (.int (Int32.ofNat ys.length)), (.ref b)])) rfl rfl (hb hby d36_36)
   have N7 := Fr.snoc X7 N4 g_a
   replace A_a := A_a.wr W7
   replace sgC := sgC.wr W7
   replace sgA := sgA.wr W7
   replace sgH := sgH.wr W7
   replace sgL := sgL.wr W7
   replace sgF := sgF.wr W7
   replace F_value_a := F_value_a.other W7 (Or.inr (slot_ne (Or.inl (gw hw 49 rfl)) (Or.inl (gw hw 63 rfl)) (by decide) (t := (.array .byte)) (t' := .int) (by decide) (by decide)))
   replace F_maybeLatin1_a := F_maybeLatin1_a.other W7 (Or.inr (slot_ne (Or.inl (gw hw 273 rfl)) (Or.inl (gw hw 63 rfl)) (by decide) (t := .boolean) (t' := .int) (by decide) (by decide)))
   replace F_coder_a := F_coder_a.other W7 (Or.inr (slot_ne (Or.inl (gw hw 51 rfl)) (Or.inl (gw hw 63 rfl)) (by decide) (t := .byte) (t' := .int) (by decide) (by decide)))
   replace V_b := V_b.other W7 (Ne.symm ne_a_b)
   replace KP := KP.wr W7 (Or.inl (List.mem_of_getElem? (i := 0) rfl))
   replace F_count_a := F_count_a.same W7
   replace Z0 : n0 ≤ h7.size := by rw [W7.size]; exact Z0
   refine Gs st7 ?_
   show GG (fT T7 m 39 #[vr a, vi cc] [(.int (Int32.ofNat ys.length)), (.ref b)])
   refine gN X7 hx hby d36_39 rfl rfl ?_
   show GG (fT T7 m 40 #[vr a, vi cc] [(.int cc), (.int (Int32.ofNat ys.length)), (.ref b)])
   refine Gz (XS.i2b X7.here hx rfl (hb hby d36_40) rfl) ?_
   show GG (fT T7 m 41 #[vr a, vi cc] [(.int (cc.toInt8.toInt32)), (.int (Int32.ofNat ys.length)), (.ref b)])
   replace V_b := own_padN V_b 1
   obtain ⟨cl8, Ar8, q8, S8, N8z, H8, G8⟩ := V_b
   have hin8 : ¬ ((Int32.ofNat ys.length) < 0 ∨ cl8.slots.size ≤ ((Int32.ofNat ys.length)).toNatClampNeg) := inb_of S8 ⟨oc.2.1, (own_ltN (L := 16) (by omega) (by decide)).mpr (by omega)⟩
   obtain ⟨T8, h8, X8, e8, W8, st8⟩ := stB X7 hx hZ e7 Ar8 (j := (Int32.ofNat ys.length)) hin8 (g := (mkF m 41 #[vr a, vi cc] [(.int (cc.toInt8.toInt32)), (.int (Int32.ofNat ys.length)), (.ref b)])) rfl rfl (hb hby d36_41)
   have Vn8 := Arv.set Ar8 q8 S8 N8z H8 G8 (fits_nar_byte _) W8 (ys.length) oc.1 (by rw [List.length_append, own_latLen, List.length_replicate]; omega)
   have N8 := Fr.snoc X8 N7 g_b
   replace A_a := A_a.wr W8
   replace sgC := sgC.wr W8
   replace sgA := sgA.wr W8
   replace sgH := sgH.wr W8
   replace sgL := sgL.wr W8
   replace sgF := sgF.wr W8
   replace F_value_a := F_value_a.other W8 (Or.inl ne_a_b)
   replace F_count_a := F_count_a.other W8 (Or.inl ne_a_b)
   replace F_maybeLatin1_a := F_maybeLatin1_a.other W8 (Or.inl ne_a_b)
   replace F_coder_a := F_coder_a.other W8 (Or.inl ne_a_b)
   replace KP := KP.wr W8 (Or.inl (List.mem_of_getElem? (i := 1) rfl))
   have V_b : Arv Z h8 b kb .byte 16 (latV (ys ++ [cc])) (.int 0) := own_arvE Vn8 (by rw [own_nb2]; exact own_latSet ys cc)
   replace Z0 : n0 ≤ h8.size := by rw [W8.size]; exact Z0
   refine Gs st8 ?_
   show GG (fT T8 m 42 #[vr a, vi cc] [])
   refine gG X8 hx hby d36_42 42 75 ?_
   refine gA X8 hx hby d36_75 rfl rfl rfl ?_
   have B_a : SbOf Z h8 a b (ys ++ [cc]) := ⟨kb, A_a, F_value_a, (by rw [List.length_append]; exact F_count_a), F_maybeLatin1_a, Or.inl ⟨F_coder_a, (own_allA hall (own_all1 hLat)), V_b⟩⟩
   refine Goes.ret X8 (some (.ref a)) (fun h => by rw [hret] at h; cases h) hlk (by decide) (by decide) ?_ (fun fs hr => ?_)
   ·rw [e8]; exact ⟨b, rfl, N8, KP, B_a, g_b, (Or.inl rfl), ne_a_b⟩
   ·exact own_retA X8 hx hret rfl rfl (hb hby d36_76) hr
  ·have hn := own_chrN hC hLat
   show GG (fT s₁ m 0 #[vr a, vi cc] [])
   have oc := own_tnO (n := ys.length) (by omega)
   refine gA X0 hx hby d36_0 rfl rfl rfl ?_
   refine gA X0 hx hby d36_1 rfl rfl rfl ?_
   obtain ⟨T9, X9, e9, st9⟩ := getF X0 hx hZ hown (host := "") (Or.inl (gw hw 62 rfl)) Via.refl e0 F_count_a (g := (mkF m 2 #[vr a, vi cc] [(.ref a), (.ref a)])) rfl rfl (hb hby d36_2)
   refine Gs st9 ?_
   show GG (fT T9 m 5 #[vr a, vi cc] [(.int (Int32.ofNat ys.length)), (.ref a)])
   refine gC X9 hx hby d36_5 ?_
   show GG (fT T9 m 6 #[vr a, vi cc] [(.int 1), (.int (Int32.ofNat ys.length)), (.ref a)])
   refine Gz (XS.iadd X9.here hx rfl (hb hby d36_6) rfl) ?_
   show GG (fT T9 m 7 #[vr a, vi cc] [(.int ((Int32.ofNat ys.length) + 1)), (.ref a)])
   rw [own_ofS]
   show GG (fT T9 m 7 #[vr a, vi cc] [(.int (Int32.ofNat (ys.length + 1))), (.ref a)])
   obtain ⟨cq10, q10, q10'⟩ := A_a.cell
   obtain ⟨_, _, ⟨T10, L10, k10, n10⟩, -, X10, ⟨Lc10, hQ10, l10, y10, z10⟩, st10⟩ := X9.privateBack hx (y := mN28) hown (gz hZ hw 64 rfl) (gz hZ hw 65 rfl) (own_selQ hZ (gw hw 67 rfl) (gw hw 66 rfl) (gw hw 65 rfl) (by decide)) (Cond.privateMethod_at (mvP hZ (gw hw 66 rfl) (args := #[]))) (gz hZ hw 68 rfl) (by decide) (backOf (W := 0) (rm_ec0 l Z a0 hw [] a b kb (latV ys) (Int32.ofNat (ys.length + 1)) h0 n0 Z0 F_value_a F_coder_a V_b (own_ecN (by decide) (by show ys.length + 1 ≤ 16; omega) (by decide))) hZ (gw hw 68 rfl) (gw hw 44 rfl) (by decide) (by decide)) (g := (mkF m 7 #[vr a, vi cc] [(.int (Int32.ofNat (ys.length + 1))), (.ref a)])) rfl hml.symm (Steps.refl _) (a := a) (by rw [e9]; exact q10) q10' (argsL := [(.int (Int32.ofNat (ys.length + 1)))]) (rest := []) (lenOf own_pd17 rfl) rfl (wz rfl) (hb hby d36_7) (fun _ _ => ⟨rfl, e9, z0, z0⟩)
   dsimp only [Pt.U, Pt.locs, Pt.cells, Pt.slots] at X10 l10 y10 z10 st10 hQ10
   subst l10 y10 z10
   obtain ⟨rfl, N10q, e10⟩ := hQ10
   have N10 := Fr.app N0 N10q
   refine Gs (fun _ tk => st10.trans tk) ?_
   show GG (fT T10 m 10 #[vr a, vi cc] [])
   refine gA X10 hx hby d36_10 rfl rfl rfl ?_
   refine cV X10 hx hZ hw hown hby hml e10 mN27 69 70 72 71 73 44 0 (rm_isl0 l Z a0 hw [] a cz h0 n0 Z0 F_coder_a sgC hcz) A_a d36_11 (lenOf own_pd6 rfl) N10 (fun T11 L11 X11 e11 N11 => ?_)
   show GG (fT T11 m 14 #[vr a, vi cc] [(.int 1)])
   refine gu X11 hx hby d36_14 ((if0 _ _).trans (feq (by decide : ¬ ((1 : Int32) = (0 : Int32)))).1) ?_
   refine gN X11 hx hby d36_17 rfl rfl ?_
   refine cS X11 hx hZ hw hown hby hml e11 mN20 74 75 77 76 0 (rs_enc1 l Z a0 hw [] cc h0 n0 Z0 hn) d36_18 (lenOf own_pd14 rfl) N11 (fun T12 L12 X12 e12 N12 => ?_)
   show GG (fT T12 m 21 #[vr a, vi cc] [(.int 0)])
   refine gy X12 hx hby d36_21 21 45 ((if0 _ _).trans (teq (by decide : ((0 : Int32) = (0 : Int32)))).1) ?_
   refine gA X12 hx hby d36_45 rfl rfl rfl ?_
   refine cV X12 hx hZ hw hown hby hml e12 mN27 69 70 72 71 73 44 0 (rm_isl0 l Z a0 hw [] a cz h0 n0 Z0 F_coder_a sgC hcz) A_a d36_46 (lenOf own_pd6 rfl) N12 (fun T13 L13 X13 e13 N13 => ?_)
   show GG (fT T13 m 49 #[vr a, vi cc] [(.int 1)])
   refine gu X13 hx hby d36_49 ((if0 _ _).trans (feq (by decide : ¬ ((1 : Int32) = (0 : Int32)))).1) ?_
   refine gA X13 hx hby d36_52 rfl rfl rfl ?_
   have ltc14_a : a < h0.size := A_a.lt
   have ltc14_b : b < h0.size := V_b.lt
   have szs14 : h0.size ≤ h0.size := KP.1
   obtain ⟨cq14, q14, q14'⟩ := A_a.cell
   obtain ⟨_, _, ⟨T14, L14, k14, n14⟩, -, X14, ⟨Lc14, hQ14, l14, y14, z14⟩, st14⟩ := X13.privateBack hx (y := mN35) hown (gz hZ hw 242 rfl) (gz hZ hw 243 rfl) (own_selQ hZ (gw hw 67 rfl) (gw hw 244 rfl) (gw hw 243 rfl) (by decide)) (Cond.privateMethod_at (mvP hZ (gw hw 244 rfl) (args := #[]))) (gz hZ hw 246 rfl) (by decide) (backOf (W := 0) (rm_bi l Z a0 hw [] a b kb ys cz fo h0 n0 Z0 A_a F_value_a F_count_a F_maybeLatin1_a F_coder_a V_b g_a hall (by omega) sgC hcz sgA sgH sgL sgF r_fo) hZ (gw hw 246 rfl) (gw hw 44 rfl) (by decide) (by decide)) (g := (mkF m 53 #[vr a, vi cc] [(.ref a)])) rfl hml.symm (Steps.refl _) (a := a) (by rw [e13]; exact q14) q14' (argsL := []) (rest := []) (lenOf own_pd22 rfl) rfl (wz rfl) (hb hby d36_53) (fun _ _ => ⟨rfl, e13, (by decide : 0 + 1 ≤ _), (by decide : 0 + 32 ≤ _)⟩)
   dsimp only [Pt.U, Pt.locs, Pt.cells, Pt.slots] at X14 l14 y14 z14 st14 hQ14
   subst l14 y14 z14
   obtain ⟨y14, ky14, rfl, N14q, K14, F_value_a_14', F_count_a_14', F_maybeLatin1_a_14', F_coder_a_14', V_y14_14', g_y14_14', sz_y14_14'⟩ := hQ14
   have N14 := Fr.app N13 N14q
   replace sgC := own_staK sgC K14 (allS (own_obE A_a) all0)
   replace sgA := own_staK sgA K14 (allS (own_obE A_a) all0)
   replace sgH := own_staK sgH K14 (allS (own_obE A_a) all0)
   replace sgL := own_staK sgL K14 (allS (own_obE A_a) all0)
   replace sgF := own_staK sgF K14 (allS (own_obE A_a) all0)
   replace A_a := A_a.keep K14
   replace V_b := V_b.keep K14 (ninS (Ne.symm ne_a_b) nin0)
   replace KP := KP.trans K14 (allS (Or.inl (List.mem_of_getElem? (i := 0) rfl)) all0)
   replace Z0 := Nat.le_trans Z0 K14.1
   have F_value_a := F_value_a_14'
   have F_count_a := F_count_a_14'
   have F_maybeLatin1_a := F_maybeLatin1_a_14'
   have F_coder_a := F_coder_a_14'
   have V_y14 := V_y14_14'
   have g_y14 := g_y14_14'
   have szc_y14 := sz_y14_14'
   have ne_a_y14 : a ≠ y14 := Nat.ne_of_lt (Nat.lt_of_lt_of_le ltc14_a szc_y14)
   have ne_b_y14 : b ≠ y14 := Nat.ne_of_lt (Nat.lt_of_lt_of_le ltc14_b szc_y14)
   have sz_y14 : h0.size ≤ y14 := Nat.le_trans szs14 szc_y14
   refine Gs (fun _ tk => st14.trans tk) ?_
   show GG (fT T14 m 56 #[vr a, vi cc] [])
   refine gA X14 hx hby d36_56 rfl rfl rfl ?_
   obtain ⟨T15, X15, e15, st15⟩ := getF X14 hx hZ hown (host := "") (Or.inl (gw hw 48 rfl)) Via.refl rfl F_value_a (g := (mkF m 57 #[vr a, vi cc] [(.ref a)])) rfl rfl (hb hby d36_57)
   refine Gs st15 ?_
   show GG (fT T15 m 60 #[vr a, vi cc] [(.ref y14)])
   refine gA X15 hx hby d36_60 rfl rfl rfl ?_
   refine Gz (XS.dup X15.here hx rfl (hb hby d36_61) rfl rfl) ?_
   obtain ⟨T16, X16, e16, st16⟩ := getF X15 hx hZ hown (host := "") (Or.inl (gw hw 62 rfl)) Via.refl e15 F_count_a (g := (mkF m 62 #[vr a, vi cc] [(.ref a), (.ref a), (.ref y14)])) rfl rfl (hb hby d36_62)
   refine Gs st16 ?_
   show GG (fT T16 m 65 #[vr a, vi cc] [(.int (Int32.ofNat ys.length)), (.ref a), (.ref y14)])
   refine Gz (XS.dupX1 X16.here hx rfl (hb hby d36_65) rfl rfl rfl) ?_
   show GG (fT T16 m 66 #[vr a, vi cc] [(.int (Int32.ofNat ys.length)), (.ref a), (.int (Int32.ofNat ys.length)), (.ref y14)])
   refine gC X16 hx hby d36_66 ?_
   show GG (fT T16 m 67 #[vr a, vi cc] [(.int 1), (.int (Int32.ofNat ys.length)), (.ref a), (.int (Int32.ofNat ys.length)), (.ref y14)])
   refine Gz (XS.iadd X16.here hx rfl (hb hby d36_67) rfl) ?_
   show GG (fT T16 m 68 #[vr a, vi cc] [(.int ((Int32.ofNat ys.length) + 1)), (.ref a), (.int (Int32.ofNat ys.length)), (.ref y14)])
   rw [own_ofS]
   show GG (fT T16 m 68 #[vr a, vi cc] [(.int (Int32.ofNat (ys.length + 1))), (.ref a), (.int (Int32.ofNat ys.length)), (.ref y14)])
   obtain ⟨T17, h17, X17, e17, W17, st17⟩ := putF X16 hx hZ hown (host := "") (Or.inl (gw hw 62 rfl)) Via.refl e16 F_count_a A_a (Or.inl (gw hw 63 rfl)) (gw hw 35 rfl) (ty := .int) (by decide) rfl rfl (g := (mkF m 68 #[vr a, vi cc] [(.int (Int32.ofNat (ys.length + 1))), (.ref a), (.int (Int32.ofNat ys.length)), (.ref y14)])) rfl rfl (hb hby d36_68)
   have N17 := Fr.snoc X17 N14 g_a
   replace A_a := A_a.wr W17
   replace sgC := sgC.wr W17
   replace sgA := sgA.wr W17
   replace sgH := sgH.wr W17
   replace sgL := sgL.wr W17
   replace sgF := sgF.wr W17
   replace V_b := V_b.other W17 (Ne.symm ne_a_b)
   replace F_value_a := F_value_a.other W17 (Or.inr (slot_ne (Or.inl (gw hw 49 rfl)) (Or.inl (gw hw 63 rfl)) (by decide) (t := (.array .byte)) (t' := .int) (by decide) (by decide)))
   replace F_maybeLatin1_a := F_maybeLatin1_a.other W17 (Or.inr (slot_ne (Or.inl (gw hw 273 rfl)) (Or.inl (gw hw 63 rfl)) (by decide) (t := .boolean) (t' := .int) (by decide) (by decide)))
   replace F_coder_a := F_coder_a.other W17 (Or.inr (slot_ne (Or.inl (gw hw 51 rfl)) (Or.inl (gw hw 63 rfl)) (by decide) (t := .byte) (t' := .int) (by decide) (by decide)))
   replace V_y14 := V_y14.other W17 (Ne.symm ne_a_y14)
   replace KP := KP.wr W17 (Or.inl (List.mem_of_getElem? (i := 0) rfl))
   replace F_count_a := F_count_a.same W17
   replace Z0 : n0 ≤ h17.size := by rw [W17.size]; exact Z0
   refine Gs st17 ?_
   show GG (fT T17 m 71 #[vr a, vi cc] [(.int (Int32.ofNat ys.length)), (.ref y14)])
   refine gN X17 hx hby d36_71 rfl rfl ?_
   refine cSg X17 hx hZ hw hown hby hml e17 mN29 269 270 271 169 0 (rm_pcs l Z a0 hw [] y14 ky14 ys cc fo h17 n0 Z0 V_y14 g_y14 (by omega) sgA sgH sgL sgF r_fo) d36_72 (lenOf own_pd10 rfl) (fun _ T18 L18 X18 hQ18 => ?_)
   obtain ⟨rfl, N18q, K18, V_y14_18'⟩ := hQ18
   have N18 := Fr.app N17 N18q
   replace sgC := own_staK sgC K18 (allS (own_obA V_y14) all0)
   replace sgA := own_staK sgA K18 (allS (own_obA V_y14) all0)
   replace sgH := own_staK sgH K18 (allS (own_obA V_y14) all0)
   replace sgL := own_staK sgL K18 (allS (own_obA V_y14) all0)
   replace sgF := own_staK sgF K18 (allS (own_obA V_y14) all0)
   replace A_a := A_a.keep K18
   replace V_b := V_b.keep K18 (ninS ne_b_y14 nin0)
   replace F_value_a := F_value_a.keep K18 (ninS ne_a_y14 nin0)
   replace F_count_a := F_count_a.keep K18 (ninS ne_a_y14 nin0)
   replace F_maybeLatin1_a := F_maybeLatin1_a.keep K18 (ninS ne_a_y14 nin0)
   replace F_coder_a := F_coder_a.keep K18 (ninS ne_a_y14 nin0)
   replace KP := KP.trans K18 (allS (Or.inr sz_y14) all0)
   replace Z0 := Nat.le_trans Z0 K18.1
   have V_y14 := V_y14_18'
   show GG (fT T18 m 75 #[vr a, vi cc] [])
   refine gA X18 hx hby d36_75 rfl rfl rfl ?_
   have B_a : SbOf Z T18.heap a y14 (ys ++ [cc]) := ⟨ky14, A_a, F_value_a, (by rw [List.length_append]; exact F_count_a), F_maybeLatin1_a, Or.inr ⟨F_coder_a, (own_allA (fun c hc => (hall c hc).chr) (own_all1 hC)), V_y14⟩⟩
   refine Goes.ret X18 (some (.ref a)) (fun h => by rw [hret] at h; cases h) hlk (by decide) (by decide) ?_ (fun fs hr => ?_)
   ·exact ⟨y14, rfl, N18, KP, B_a, g_y14, (Or.inr sz_y14), ne_a_y14⟩
   ·exact own_retA X18 hx hret rfl rfl (hb hby d36_76) hr
 ·show GG (fT s₁ m 0 #[vr a, vi cc] [])
  have oc := own_tnO (n := ys.length) (by omega)
  refine gA X0 hx hby d36_0 rfl rfl rfl ?_
  refine gA X0 hx hby d36_1 rfl rfl rfl ?_
  obtain ⟨T19, X19, e19, st19⟩ := getF X0 hx hZ hown (host := "") (Or.inl (gw hw 62 rfl)) Via.refl e0 F_count_a (g := (mkF m 2 #[vr a, vi cc] [(.ref a), (.ref a)])) rfl rfl (hb hby d36_2)
  refine Gs st19 ?_
  show GG (fT T19 m 5 #[vr a, vi cc] [(.int (Int32.ofNat ys.length)), (.ref a)])
  refine gC X19 hx hby d36_5 ?_
  show GG (fT T19 m 6 #[vr a, vi cc] [(.int 1), (.int (Int32.ofNat ys.length)), (.ref a)])
  refine Gz (XS.iadd X19.here hx rfl (hb hby d36_6) rfl) ?_
  show GG (fT T19 m 7 #[vr a, vi cc] [(.int ((Int32.ofNat ys.length) + 1)), (.ref a)])
  rw [own_ofS]
  show GG (fT T19 m 7 #[vr a, vi cc] [(.int (Int32.ofNat (ys.length + 1))), (.ref a)])
  obtain ⟨cq20, q20, q20'⟩ := A_a.cell
  obtain ⟨_, _, ⟨T20, L20, k20, n20⟩, -, X20, ⟨Lc20, hQ20, l20, y20, z20⟩, st20⟩ := X19.privateBack hx (y := mN28) hown (gz hZ hw 64 rfl) (gz hZ hw 65 rfl) (own_selQ hZ (gw hw 67 rfl) (gw hw 66 rfl) (gw hw 65 rfl) (by decide)) (Cond.privateMethod_at (mvP hZ (gw hw 66 rfl) (args := #[]))) (gz hZ hw 68 rfl) (by decide) (backOf (W := 0) (rm_ec1 l Z a0 hw [] a b kb (utfV ys) (Int32.ofNat (ys.length + 1)) h0 n0 Z0 F_value_a F_coder_a V_b (own_ecN (by decide) (by show ys.length + 1 ≤ 16; omega) (by decide))) hZ (gw hw 68 rfl) (gw hw 44 rfl) (by decide) (by decide)) (g := (mkF m 7 #[vr a, vi cc] [(.int (Int32.ofNat (ys.length + 1))), (.ref a)])) rfl hml.symm (Steps.refl _) (a := a) (by rw [e19]; exact q20) q20' (argsL := [(.int (Int32.ofNat (ys.length + 1)))]) (rest := []) (lenOf own_pd17 rfl) rfl (wz rfl) (hb hby d36_7) (fun _ _ => ⟨rfl, e19, z0, z0⟩)
  dsimp only [Pt.U, Pt.locs, Pt.cells, Pt.slots] at X20 l20 y20 z20 st20 hQ20
  subst l20 y20 z20
  obtain ⟨rfl, N20q, e20⟩ := hQ20
  have N20 := Fr.app N0 N20q
  refine Gs (fun _ tk => st20.trans tk) ?_
  show GG (fT T20 m 10 #[vr a, vi cc] [])
  refine gA X20 hx hby d36_10 rfl rfl rfl ?_
  refine cV X20 hx hZ hw hown hby hml e20 mN27 69 70 72 71 73 44 0 (rm_isl1 l Z a0 hw [] a cz h0 n0 Z0 F_coder_a sgC hcz) A_a d36_11 (lenOf own_pd6 rfl) N20 (fun T21 L21 X21 e21 N21 => ?_)
  show GG (fT T21 m 14 #[vr a, vi cc] [(.int 0)])
  refine gy X21 hx hby d36_14 14 45 ((if0 _ _).trans (teq (by decide : ((0 : Int32) = (0 : Int32)))).1) ?_
  refine gA X21 hx hby d36_45 rfl rfl rfl ?_
  refine cV X21 hx hZ hw hown hby hml e21 mN27 69 70 72 71 73 44 0 (rm_isl1 l Z a0 hw [] a cz h0 n0 Z0 F_coder_a sgC hcz) A_a d36_46 (lenOf own_pd6 rfl) N21 (fun T22 L22 X22 e22 N22 => ?_)
  show GG (fT T22 m 49 #[vr a, vi cc] [(.int 0)])
  refine gy X22 hx hby d36_49 49 56 ((if0 _ _).trans (teq (by decide : ((0 : Int32) = (0 : Int32)))).1) ?_
  refine gA X22 hx hby d36_56 rfl rfl rfl ?_
  obtain ⟨T23, X23, e23, st23⟩ := getF X22 hx hZ hown (host := "") (Or.inl (gw hw 48 rfl)) Via.refl e22 F_value_a (g := (mkF m 57 #[vr a, vi cc] [(.ref a)])) rfl rfl (hb hby d36_57)
  refine Gs st23 ?_
  show GG (fT T23 m 60 #[vr a, vi cc] [(.ref b)])
  refine gA X23 hx hby d36_60 rfl rfl rfl ?_
  refine Gz (XS.dup X23.here hx rfl (hb hby d36_61) rfl rfl) ?_
  obtain ⟨T24, X24, e24, st24⟩ := getF X23 hx hZ hown (host := "") (Or.inl (gw hw 62 rfl)) Via.refl e23 F_count_a (g := (mkF m 62 #[vr a, vi cc] [(.ref a), (.ref a), (.ref b)])) rfl rfl (hb hby d36_62)
  refine Gs st24 ?_
  show GG (fT T24 m 65 #[vr a, vi cc] [(.int (Int32.ofNat ys.length)), (.ref a), (.ref b)])
  refine Gz (XS.dupX1 X24.here hx rfl (hb hby d36_65) rfl rfl rfl) ?_
  show GG (fT T24 m 66 #[vr a, vi cc] [(.int (Int32.ofNat ys.length)), (.ref a), (.int (Int32.ofNat ys.length)), (.ref b)])
  refine gC X24 hx hby d36_66 ?_
  show GG (fT T24 m 67 #[vr a, vi cc] [(.int 1), (.int (Int32.ofNat ys.length)), (.ref a), (.int (Int32.ofNat ys.length)), (.ref b)])
  refine Gz (XS.iadd X24.here hx rfl (hb hby d36_67) rfl) ?_
  show GG (fT T24 m 68 #[vr a, vi cc] [(.int ((Int32.ofNat ys.length) + 1)), (.ref a), (.int (Int32.ofNat ys.length)), (.ref b)])
  rw [own_ofS]
  show GG (fT T24 m 68 #[vr a, vi cc] [(.int (Int32.ofNat (ys.length + 1))), (.ref a), (.int (Int32.ofNat ys.length)), (.ref b)])
  obtain ⟨T25, h25, X25, e25, W25, st25⟩ := putF X24 hx hZ hown (host := "") (Or.inl (gw hw 62 rfl)) Via.refl e24 F_count_a A_a (Or.inl (gw hw 63 rfl)) (gw hw 35 rfl) (ty := .int) (by decide) rfl rfl (g := (mkF m 68 #[vr a, vi cc] [(.int (Int32.ofNat (ys.length + 1))), (.ref a), (.int (Int32.ofNat ys.length)), (.ref b)])) rfl rfl (hb hby d36_68)
  have N25 := Fr.snoc X25 N22 g_a
  replace A_a := A_a.wr W25
  replace sgA := sgA.wr W25
  replace sgH := sgH.wr W25
  replace sgL := sgL.wr W25
  replace sgF := sgF.wr W25
  replace F_value_a := F_value_a.other W25 (Or.inr (slot_ne (Or.inl (gw hw 49 rfl)) (Or.inl (gw hw 63 rfl)) (by decide) (t := (.array .byte)) (t' := .int) (by decide) (by decide)))
  replace F_maybeLatin1_a := F_maybeLatin1_a.other W25 (Or.inr (slot_ne (Or.inl (gw hw 273 rfl)) (Or.inl (gw hw 63 rfl)) (by decide) (t := .boolean) (t' := .int) (by decide) (by decide)))
  replace F_coder_a := F_coder_a.other W25 (Or.inr (slot_ne (Or.inl (gw hw 51 rfl)) (Or.inl (gw hw 63 rfl)) (by decide) (t := .byte) (t' := .int) (by decide) (by decide)))
  replace V_b := V_b.other W25 (Ne.symm ne_a_b)
  replace KP := KP.wr W25 (Or.inl (List.mem_of_getElem? (i := 0) rfl))
  replace F_count_a := F_count_a.same W25
  replace Z0 : n0 ≤ h25.size := by rw [W25.size]; exact Z0
  refine Gs st25 ?_
  show GG (fT T25 m 71 #[vr a, vi cc] [(.int (Int32.ofNat ys.length)), (.ref b)])
  refine gN X25 hx hby d36_71 rfl rfl ?_
  refine cSg X25 hx hZ hw hown hby hml e25 mN29 269 270 271 169 0 (rm_pcs l Z a0 hw [] b kb ys cc fo h25 n0 Z0 V_b g_b (by omega) sgA sgH sgL sgF r_fo) d36_72 (lenOf own_pd10 rfl) (fun _ T26 L26 X26 hQ26 => ?_)
  obtain ⟨rfl, N26q, K26, V_b_26'⟩ := hQ26
  have N26 := Fr.app N25 N26q
  replace A_a := A_a.keep K26
  replace F_value_a := F_value_a.keep K26 (ninS ne_a_b nin0)
  replace F_count_a := F_count_a.keep K26 (ninS ne_a_b nin0)
  replace F_maybeLatin1_a := F_maybeLatin1_a.keep K26 (ninS ne_a_b nin0)
  replace F_coder_a := F_coder_a.keep K26 (ninS ne_a_b nin0)
  replace KP := KP.trans K26 (allS (Or.inl (List.mem_of_getElem? (i := 1) rfl)) all0)
  replace Z0 := Nat.le_trans Z0 K26.1
  have V_b := V_b_26'
  show GG (fT T26 m 75 #[vr a, vi cc] [])
  refine gA X26 hx hby d36_75 rfl rfl rfl ?_
  have B_a : SbOf Z T26.heap a b (ys ++ [cc]) := ⟨kb, A_a, F_value_a, (by rw [List.length_append]; exact F_count_a), F_maybeLatin1_a, Or.inr ⟨F_coder_a, (own_allA hall (own_all1 hC)), V_b⟩⟩
  refine Goes.ret X26 (some (.ref a)) (fun h => by rw [hret] at h; cases h) hlk (by decide) (by decide) ?_ (fun fs hr => ?_)
  ·exact ⟨b, rfl, N26, KP, B_a, g_b, (Or.inl rfl), ne_a_b⟩
  ·exact own_retA X26 hx hret rfl rfl (hb hby d36_76) hr
theorem d37_0 : DK kc38 0 (.aload_n 0) 1 := by decide +kernel
theorem d37_1 : DK kc38 1 (.iload_n 1) 1 := by decide +kernel
theorem d37_2 : DK kc38 2 (.invokespecial 50) 3 := by decide +kernel
theorem own_pd23 : parseMethodDescriptor "(C)Ljava/lang/AbstractStringBuilder;" = some ⟨[.char], some (.object "java/lang/AbstractStringBuilder")⟩ := by decide +kernel
theorem d37_5 : DK kc38 5 .pop 1 := by decide +kernel
theorem d37_6 : DK kc38 6 (.aload_n 0) 1 := by decide +kernel
theorem d37_7 : DK kc38 7 .areturn 1 := by decide +kernel
theorem own_ef_rm_sc (m : MethodId) (x0 : Addr) (x1 : Int32) : entryFrame m #[(.ref x0), (.int x1)] 2 = mkF m 0 #[vr x0, vi x1] [] := by first | (simp [entryFrame, mkF, argsToLocals, Value.category]; done) | rfl
def Q_rm_sc (Z : State) (a : Addr) (b : Addr) (ys : List Int32) (cc : Int32) (cz : Int32) (fo : Value) (h0 : Heap) (n0 : Nat) (v : Option Value) (h : Heap) (L : List Loc) : Prop := ∃ y : Addr, v = some (.ref a) ∧ Fr n0 L ∧ Keep h0 h [a, b] ∧ SbOf Z h a y (ys ++ [cc]) ∧ n0 ≤ y ∧ (y = b ∨ h0.size ≤ y) ∧ a ≠ y
theorem rm_sc (l : Launch) (Z : State) (a0 : Array Value) (hw : HW a0 Z) (ws : List Jvm.Cond) (a : Addr) (b : Addr) (ys : List Int32) (cc : Int32) (cz : Int32) (fo : Value) (h0 : Heap) (n0 : Nat) (Z0 : n0 ≤ h0.size) (B_a : SbOf Z h0 a b ys) (A_a : Exa Z h0 a "java/lang/StringBuilder") (g_a : n0 ≤ a) (g_b : n0 ≤ b) (ne_a_b : a ≠ b) (hC : Chr cc) (h15 : ys.length < 15) (sgC : Sta Z h0 "java/lang/String" "COMPACT_STRINGS" "Z" (.int cz)) (hcz : ¬ (cz = 0)) (sgA : Sta Z h0 "java/lang/StringUTF16" "$assertionsDisabled" "Z" (.int 1)) (sgH : Sta Z h0 "java/lang/StringUTF16" "HI_BYTE_SHIFT" "I" (.int 0)) (sgL : Sta Z h0 "java/lang/StringUTF16" "LO_BYTE_SHIFT" "I" (.int 8)) (sgF : Sta Z h0 "jdk/internal/util/Preconditions" "SIOOBE_FORMATTER" "Ljava/util/function/BiFunction;" fo) (r_fo : fo.isRef = true) :
  Met l Z mN37 jdk_67_method_14_code 2 (some (.object "java/lang/StringBuilder")) ({ frames := 7, cells := 1, slots := 32, locals := 102 } : Room) ws #[(.ref a), (.int cc)] h0 (Q_rm_sc Z a b ys cc cz fo h0 n0) := by
 refine own_met (plainFor_of_name own_pn5) ?_
 intro p e s m below meth c s₁ hret hx hby hlk hml hown hnm X0 e0 hZ hh
 have N0 := Fr.nil n0
 refine Gz (castTop (own_ef_rm_sc m a cc)) ?_
 have KP : Keep h0 h0 [a, b] := Keep.refl _ _
 show GG (fT s₁ m 0 #[vr a, vi cc] [])
 refine gA X0 hx hby d37_0 rfl rfl rfl ?_
 refine gN X0 hx hby d37_1 rfl rfl ?_
 obtain ⟨_, _, ⟨T1, L1, k1, n1⟩, -, X1, ⟨Lc1, hQ1, l1, y1, z1⟩, st1⟩ := superBack X0 hx hZ (K := "java/lang/StringBuilder") (y := mN36) hown (gw hw 57 rfl) (own_sameM (gw hw 58 rfl) (gw hw 67 rfl) (by decide)) (gw hw 58 rfl) (gw hw 59 rfl) (by decide) (backOf (W := 0) (rm_ac l Z a0 hw [] a b ys cc cz fo h0 n0 Z0 B_a A_a g_a g_b ne_a_b hC h15 sgC hcz sgA sgH sgL sgF r_fo) hZ (gw hw 61 rfl) (gw hw 44 rfl) (by decide) (by decide)) e0 (Ins.self A_a) (g := (mkF m 2 #[vr a, vi cc] [(.int cc), (.ref a)])) rfl hml.symm (gw hw 61 rfl) (argsL := [(.int cc)]) (rest := []) (lenOf own_pd23 rfl) rfl (wz rfl) (hb hby d37_2) (fun _ _ => ⟨rfl, e0, (by decide : 0 + 1 ≤ _), (by decide : 0 + 32 ≤ _)⟩)
 dsimp only [Pt.U, Pt.locs, Pt.cells, Pt.slots] at X1 l1 y1 z1 st1 hQ1
 subst l1 y1 z1
 obtain ⟨y1, rfl, N1q, K1, B_a_1', g_y1_1', hyb_1', ne_a_y1_1'⟩ := hQ1
 have N1 := Fr.app N0 N1q
 replace KP := KP.trans K1 (allS (Or.inl (List.mem_of_getElem? (i := 0) rfl)) (allS (Or.inl (List.mem_of_getElem? (i := 1) rfl)) all0))
 replace Z0 := Nat.le_trans Z0 K1.1
 have B_a := B_a_1'
 have g_y1 := g_y1_1'
 have hyb1 := hyb_1'
 have ne_a_y1 := ne_a_y1_1'
 refine Gs (fun _ tk => st1.trans tk) ?_
 show GG (fT T1 m 5 #[vr a, vi cc] [(.ref a)])
 refine Gz (XS.pop X1.here hx rfl (hb hby d37_5) rfl rfl) ?_
 refine gA X1 hx hby d37_6 rfl rfl rfl ?_
 refine Goes.ret X1 (some (.ref a)) (fun h => by rw [hret] at h; cases h) hlk (by decide) (by decide) ?_ (fun fs hr => ?_)
 ·exact ⟨y1, rfl, N1, KP, B_a, g_y1, hyb1, ne_a_y1⟩
 ·exact own_retA X1 hx hret rfl rfl (hb hby d37_7) hr
theorem d35_7 : DK kc43 7 .return_ 1 := by decide +kernel
theorem own_ef_rm_bi1 (m : MethodId) (x0 : Addr) : entryFrame m #[(.ref x0)] 2 = mkF m 0 #[vr x0, vu] [] := by first | (simp [entryFrame, mkF, argsToLocals, Value.category]; done) | rfl
def Q_rm_bi1 (Z : State) (a : Addr) (cz : Int32) (h0 : Heap) (n0 : Nat) (v : Option Value) (h : Heap) (L : List Loc) : Prop := v = none ∧ Fr n0 L ∧ h = h0
theorem rm_bi1 (l : Launch) (Z : State) (a0 : Array Value) (hw : HW a0 Z) (ws : List Jvm.Cond) (a : Addr) (cz : Int32) (h0 : Heap) (n0 : Nat) (Z0 : n0 ≤ h0.size) (A_a : Exa Z h0 a "java/lang/StringBuilder") (F_coder_a : Fld Z h0 a "java/lang/AbstractStringBuilder" "coder" "B" (.int 1)) (sgC : Sta Z h0 "java/lang/String" "COMPACT_STRINGS" "Z" (.int cz)) (hcz : ¬ (cz = 0)) :
  Met l Z mN35 jdk_68_method_11_code 2 none ({ frames := 1, cells := 0, slots := 0, locals := 12 } : Room) ws #[(.ref a)] h0 (Q_rm_bi1 Z a cz h0 n0) := by
 refine own_met (plainFor_of_name own_pn4) ?_
 intro p e s m below meth c s₁ hret hx hby hlk hml hown hnm X0 e0 hZ hh
 have N0 := Fr.nil n0
 refine Gz (castTop (own_ef_rm_bi1 m a)) ?_
 show GG (fT s₁ m 0 #[vr a, vu] [])
 refine gA X0 hx hby d35_0 rfl rfl rfl ?_
 refine cV X0 hx hZ hw hown hby hml e0 mN27 69 70 72 71 73 44 0 (rm_isl1 l Z a0 hw [] a cz h0 n0 Z0 F_coder_a sgC hcz) A_a d35_1 (lenOf own_pd6 rfl) N0 (fun T1 L1 X1 e1 N1 => ?_)
 show GG (fT T1 m 4 #[vr a, vu] [(.int 0)])
 refine gu X1 hx hby d35_4 ((if0 _ _).trans (teq (by decide : ((0 : Int32) = (0 : Int32)))).2) ?_
 refine Goes.ret X1 none (fun _ => rfl) hlk (by decide) (by decide) ?_ (fun fs hr => ?_)
 ·exact ⟨rfl, N1, e1⟩
 ·exact X1.returnOut hx hret (hb hby d35_7) hr
theorem d38_0 : DK kc50 0 (.getstatic 18) 3 := by decide +kernel
theorem d38_3 : DK kc50 3 (.ifCond .eq 18) 3 := by decide +kernel
theorem d38_6 : DK kc50 6 (.aload_n 0) 1 := by decide +kernel
theorem d38_7 : DK kc50 7 (.getfield 22) 3 := by decide +kernel
theorem d38_10 : DK kc50 10 (.aload_n 1) 1 := by decide +kernel
theorem d38_11 : DK kc50 11 (.invokevirtual 40) 3 := by decide +kernel
theorem d38_14 : DK kc50 14 (.if_icmp .eq 7) 3 := by decide +kernel
theorem d38_21 : DK kc50 21 .return_ 1 := by decide +kernel
theorem own_ef_rm_inn0 (m : MethodId) (x0 : Addr) (x1 : Addr) : entryFrame m #[(.ref x0), (.ref x1)] 2 = mkF m 0 #[vr x0, vr x1] [] := by first | (simp [entryFrame, mkF, argsToLocals, Value.category]; done) | rfl
def Q_rm_inn0 (Z : State) (a : Addr) (x : Addr) (cz : Int32) (h0 : Heap) (n0 : Nat) (v : Option Value) (h : Heap) (L : List Loc) : Prop := v = none ∧ Fr n0 L ∧ h = h0
theorem rm_inn0 (l : Launch) (Z : State) (a0 : Array Value) (hw : HW a0 Z) (ws : List Jvm.Cond) (a : Addr) (x : Addr) (cz : Int32) (h0 : Heap) (n0 : Nat) (Z0 : n0 ≤ h0.size) (A_a : Exa Z h0 a "java/lang/StringBuilder") (F_coder_a : Fld Z h0 a "java/lang/AbstractStringBuilder" "coder" "B" (.int 0)) (A_x : Exa Z h0 x "java/lang/String") (F_coder_x : Fld Z h0 x "java/lang/String" "coder" "B" (.int 0)) (sgC : Sta Z h0 "java/lang/String" "COMPACT_STRINGS" "Z" (.int cz)) (hcz : ¬ (cz = 0)) :
  Met l Z mN38 jdk_68_method_71_code 2 none ({ frames := 1, cells := 0, slots := 0, locals := 13 } : Room) ws #[(.ref a), (.ref x)] h0 (Q_rm_inn0 Z a x cz h0 n0) := by
 refine own_met (plainFor_of_name own_pn4) ?_
 intro p e s m below meth c s₁ hret hx hby hlk hml hown hnm X0 e0 hZ hh
 have N0 := Fr.nil n0
 refine Gz (castTop (own_ef_rm_inn0 m a x)) ?_
 show GG (fT s₁ m 0 #[vr a, vr x] [])
 obtain ⟨T1, X1, e1, st1⟩ := getS2 X0 hx hZ hown (host := "") (Or.inl (gw hw 47 rfl)) Via.refl e0 sgC (g := (mkF m 0 #[vr a, vr x] [])) rfl (hb hby d38_0)
 refine Gs st1 ?_
 show GG (fT T1 m 3 #[vr a, vr x] [(.int cz)])
 refine gu X1 hx hby d38_3 ((if0 _ _).trans (feq hcz).1) ?_
 refine gA X1 hx hby d38_6 rfl rfl rfl ?_
 obtain ⟨T2, X2, e2, st2⟩ := getF X1 hx hZ hown (host := "") (Or.inl (gw hw 50 rfl)) Via.refl e1 F_coder_a (g := (mkF m 7 #[vr a, vr x] [(.ref a)])) rfl rfl (hb hby d38_7)
 refine Gs st2 ?_
 show GG (fT T2 m 10 #[vr a, vr x] [(.int 0)])
 refine gA X2 hx hby d38_10 rfl rfl rfl ?_
 refine cV X2 hx hZ hw hown hby hml e2 mN0 210 131 133 132 134 9 1 (rs_coder0 l Z a0 hw [] x cz h0 n0 Z0 F_coder_x sgC hcz) A_x d38_11 (lenOf own_pd0 rfl) N0 (fun T3 L3 X3 e3 N3 => ?_)
 show GG (fT T3 m 14 #[vr a, vr x] [(.int 0), (.int 0)])
 refine gY X3 hx hby d38_14 14 21 (teq (by decide : ((0 : Int32) = (0 : Int32)))).1 ?_
 refine Goes.ret X3 none (fun _ => rfl) hlk (by decide) (by decide) ?_ (fun fs hr => ?_)
 ·exact ⟨rfl, N3, e3⟩
 ·exact X3.returnOut hx hret (hb hby d38_21) hr
theorem d39_0 : DK kc4 0 (.aload_n 0) 1 := by decide +kernel
theorem d39_1 : DK kc4 1 (.invokevirtual 335) 3 := by decide +kernel
theorem d39_4 : DK kc4 4 (.iload_n 3) 1 := by decide +kernel
theorem d39_5 : DK kc4 5 (.if_icmp .ne 23) 3 := by decide +kernel
theorem d39_8 : DK kc4 8 (.aload_n 0) 1 := by decide +kernel
theorem d39_9 : DK kc4 9 (.getfield 9) 3 := by decide +kernel
theorem d39_12 : DK kc4 12 (.iconst 0) 1 := by decide +kernel
theorem d39_13 : DK kc4 13 (.aload_n 1) 1 := by decide +kernel
theorem d39_14 : DK kc4 14 (.iload_n 2) 1 := by decide +kernel
theorem d39_15 : DK kc4 15 (.iload_n 3) 1 := by decide +kernel
theorem d39_16 : DK kc4 16 .ishl 1 := by decide +kernel
theorem d39_17 : DK kc4 17 (.aload_n 0) 1 := by decide +kernel
theorem d39_18 : DK kc4 18 (.getfield 9) 3 := by decide +kernel
theorem d39_21 : DK kc4 21 .arraylength 1 := by decide +kernel
theorem d39_22 : DK kc4 22 (.invokestatic 212) 3 := by decide +kernel
theorem d39_25 : DK kc4 25 (.goto 18) 3 := by decide +kernel
theorem d39_43 : DK kc4 43 .return_ 1 := by decide +kernel
theorem own_ef_rm_gb0 (m : MethodId) (x0 : Addr) (x1 : Addr) (x2 : Int32) : entryFrame m #[(.ref x0), (.ref x1), (.int x2), (.int 0)] 4 = mkF m 0 #[vr x0, vr x1, vi x2, vi 0] [] := by first | (simp [entryFrame, mkF, argsToLocals, Value.category]; done) | rfl
def Q_rm_gb0 (Z : State) (x : Addr) (xs : List Int32) (vx : Addr) (kx : ClassId) (b : Addr) (kb : ClassId) (ys : List Int32) (cz : Int32) (fo : Value) (h0 : Heap) (n0 : Nat) (v : Option Value) (h : Heap) (L : List Loc) : Prop := v = none ∧ Fr n0 L ∧ Keep h0 h [b] ∧ Arv Z h b kb .byte 16 (latV (ys ++ xs)) (.int 0)
theorem rm_gb0 (l : Launch) (Z : State) (a0 : Array Value) (hw : HW a0 Z) (ws : List Jvm.Cond) (x : Addr) (xs : List Int32) (vx : Addr) (kx : ClassId) (b : Addr) (kb : ClassId) (ys : List Int32) (cz : Int32) (fo : Value) (h0 : Heap) (n0 : Nat) (Z0 : n0 ≤ h0.size) (A_x : Exa Z h0 x "java/lang/String") (F_value_x : Fld Z h0 x "java/lang/String" "value" "[B" (.ref vx)) (F_coder_x : Fld Z h0 x "java/lang/String" "coder" "B" (.int 0)) (V_vx : Arv Z h0 vx kx .byte (Int32.ofNat xs.length) (latV xs) (.int 0)) (hxl : ∀ c ∈ xs, Lat c) (V_b : Arv Z h0 b kb .byte 16 (latV ys) (.int 0)) (g_b : n0 ≤ b) (ne_vx_b : vx ≠ b) (ne_x_b : x ≠ b) (htot : ys.length + xs.length ≤ 15) (sgC : Sta Z h0 "java/lang/String" "COMPACT_STRINGS" "Z" (.int cz)) (hcz : ¬ (cz = 0)) (sgA : Sta Z h0 "java/lang/StringUTF16" "$assertionsDisabled" "Z" (.int 1)) (sgH : Sta Z h0 "java/lang/StringUTF16" "HI_BYTE_SHIFT" "I" (.int 0)) (sgL : Sta Z h0 "java/lang/StringUTF16" "LO_BYTE_SHIFT" "I" (.int 8)) (sgF : Sta Z h0 "jdk/internal/util/Preconditions" "SIOOBE_FORMATTER" "Ljava/util/function/BiFunction;" fo) (r_fo : fo.isRef = true) :
  Met l Z mN39 jdk_42_method_147_code 4 none ({ frames := 1, cells := 0, slots := 0, locals := 18 } : Room) ws #[(.ref x), (.ref b), (.int (Int32.ofNat ys.length)), (.int 0)] h0 (Q_rm_gb0 Z x xs vx kx b kb ys cz fo h0 n0) := by
 refine own_met (plainFor_of_name own_pn0) ?_
 intro p e s m below meth c s₁ hret hx hby hlk hml hown hnm X0 e0 hZ hh
 have N0 := Fr.nil n0
 refine Gz (castTop (own_ef_rm_gb0 m x b (Int32.ofNat ys.length))) ?_
 have KP : Keep h0 h0 [b] := Keep.refl _ _
 show GG (fT s₁ m 0 #[vr x, vr b, vi (Int32.ofNat ys.length), vi 0] [])
 refine gA X0 hx hby d39_0 rfl rfl rfl ?_
 refine cV X0 hx hZ hw hown hby hml e0 mN0 130 131 133 132 134 9 0 (rs_coder0 l Z a0 hw [] x cz h0 n0 Z0 F_coder_x sgC hcz) A_x d39_1 (lenOf own_pd0 rfl) N0 (fun T1 L1 X1 e1 N1 => ?_)
 show GG (fT T1 m 4 #[vr x, vr b, vi (Int32.ofNat ys.length), vi 0] [(.int 0)])
 refine gN X1 hx hby d39_4 rfl rfl ?_
 refine gU X1 hx hby d39_5 (teq (by decide : ((0 : Int32) = (0 : Int32)))).2 ?_
 refine gA X1 hx hby d39_8 rfl rfl rfl ?_
 obtain ⟨T2, X2, e2, st2⟩ := getF X1 hx hZ hown (host := "") (Or.inl (gw hw 27 rfl)) Via.refl e1 F_value_x (g := (mkF m 9 #[vr x, vr b, vi (Int32.ofNat ys.length), vi 0] [(.ref x)])) rfl rfl (hb hby d39_9)
 refine Gs st2 ?_
 show GG (fT T2 m 12 #[vr x, vr b, vi (Int32.ofNat ys.length), vi 0] [(.ref vx)])
 refine gC X2 hx hby d39_12 ?_
 refine gA X2 hx hby d39_13 rfl rfl rfl ?_
 refine gN X2 hx hby d39_14 rfl rfl ?_
 refine gN X2 hx hby d39_15 rfl rfl ?_
 show GG (fT T2 m 16 #[vr x, vr b, vi (Int32.ofNat ys.length), vi 0] [(.int 0), (.int (Int32.ofNat ys.length)), (.ref b), (.int 0), (.ref vx)])
 refine Gz (XS.ishl X2.here hx rfl (hb hby d39_16) rfl) ?_
 show GG (fT T2 m 17 #[vr x, vr b, vi (Int32.ofNat ys.length), vi 0] [(.int ((Int32.ofNat ys.length) <<< ((0 : Int32) &&& 31))), (.ref b), (.int 0), (.ref vx)])
 rw [own_shl0]
 show GG (fT T2 m 17 #[vr x, vr b, vi (Int32.ofNat ys.length), vi 0] [(.int (Int32.ofNat ys.length)), (.ref b), (.int 0), (.ref vx)])
 refine gA X2 hx hby d39_17 rfl rfl rfl ?_
 obtain ⟨T3, X3, e3, st3⟩ := getF X2 hx hZ hown (host := "") (Or.inl (gw hw 27 rfl)) Via.refl e2 F_value_x (g := (mkF m 18 #[vr x, vr b, vi (Int32.ofNat ys.length), vi 0] [(.ref x), (.int (Int32.ofNat ys.length)), (.ref b), (.int 0), (.ref vx)])) rfl rfl (hb hby d39_18)
 refine Gs st3 ?_
 show GG (fT T3 m 21 #[vr x, vr b, vi (Int32.ofNat ys.length), vi 0] [(.ref vx), (.int (Int32.ofNat ys.length)), (.ref b), (.int 0), (.ref vx)])
 obtain ⟨cl4, Ar4, -, S4, N4z, -, -⟩ := id V_vx
 refine Gs (fun _ tk => X3.arraylength hx (by rw [e3]; exact Ar4.1) (State.isArrayOf_alike hZ.alike Ar4.2.1) (g := (mkF m 21 #[vr x, vr b, vi (Int32.ofNat ys.length), vi 0] [(.ref vx), (.int (Int32.ofNat ys.length)), (.ref b), (.int 0), (.ref vx)])) rfl rfl (hb hby d39_21) _ tk) ?_
 rw [len_of S4 N4z]
 show GG (fT T3 m 22 #[vr x, vr b, vi (Int32.ofNat ys.length), vi 0] [(.int (Int32.ofNat xs.length)), (.int (Int32.ofNat ys.length)), (.ref b), (.int 0), (.ref vx)])
 replace V_b := own_padN V_b xs.length
 have oc := own_tnO (n := ys.length) (by omega)
 have ox := own_tnO (n := xs.length) (by omega)
 have tn0 : (0 : Int32).toNatClampNeg = 0 := by decide
 obtain ⟨T5, h5, L5, X5, e5, N5, K5, Vn5, st5⟩ := cpA X3 hx hZ hown (gw hw 216 rfl) (gw hw 121 rfl) (gw hw 119 rfl) (gw hw 120 rfl) e3 V_vx V_b (us := (latV xs)) (Or.inl ⟨rfl, rfl⟩) (by decide) oc.2.1 ox.2.1 (by rw [tn0, ox.1]; omega) (by rw [oc.1, ox.1]; show ys.length + xs.length ≤ 16; omega) (by rw [ox.1, tn0]; exact own_rgL xs 0) (by rw [oc.1, ox.1, List.length_append, own_latLen, List.length_replicate]; omega) N1 g_b (g := (mkF m 22 #[vr x, vr b, vi (Int32.ofNat ys.length), vi 0] [(.int (Int32.ofNat xs.length)), (.int (Int32.ofNat ys.length)), (.ref b), (.int 0), (.ref vx)])) rfl hml.symm rfl (hb hby d39_22) (by decide) (W := 0) (wz rfl) (by decide)
 replace KP := KP.trans K5 (allS (Or.inl (List.mem_of_getElem? (i := 0) rfl)) all0)
 replace Z0 := Nat.le_trans Z0 K5.1
 have V_b : Arv Z h5 b _ .byte 16 (latV (ys ++ xs)) (.int 0) := own_arvE Vn5 (by rw [oc.1, ox.1]; exact own_cpL ys xs)
 refine Gs st5 ?_
 show GG (fT T5 m 25 #[vr x, vr b, vi (Int32.ofNat ys.length), vi 0] [])
 refine gG X5 hx hby d39_25 25 43 ?_
 refine Goes.ret X5 none (fun _ => rfl) hlk (by decide) (by decide) ?_ (fun fs hr => ?_)
 ·rw [e5]; exact ⟨rfl, N5, KP, V_b⟩
 ·exact X5.returnOut hx hret (hb hby d39_43) hr
theorem d40_0 : DK kc51 0 (.aload_n 0) 1 := by decide +kernel
theorem d40_1 : DK kc51 1 (.aload_n 2) 1 := by decide +kernel
theorem d40_2 : DK kc51 2 (.invokevirtual 397) 3 := by decide +kernel
theorem own_pd24 : parseMethodDescriptor "(Ljava/lang/String;)V" = some ⟨[(.object "java/lang/String")], none⟩ := by decide +kernel
theorem d40_5 : DK kc51 5 (.aload_n 2) 1 := by decide +kernel
theorem d40_6 : DK kc51 6 (.aload_n 0) 1 := by decide +kernel
theorem d40_7 : DK kc51 7 (.getfield 15) 3 := by decide +kernel
theorem d40_10 : DK kc51 10 (.iload_n 1) 1 := by decide +kernel
theorem d40_11 : DK kc51 11 (.aload_n 0) 1 := by decide +kernel
theorem d40_12 : DK kc51 12 (.getfield 22) 3 := by decide +kernel
theorem d40_15 : DK kc51 15 (.invokevirtual 399) 3 := by decide +kernel
theorem own_pd25 : parseMethodDescriptor "([BIB)V" = some ⟨[(.array .byte), .int, .byte], none⟩ := by decide +kernel
theorem d40_18 : DK kc51 18 .return_ 1 := by decide +kernel
theorem own_ef_rm_psa0 (m : MethodId) (x0 : Addr) (x1 : Int32) (x2 : Addr) : entryFrame m #[(.ref x0), (.int x1), (.ref x2)] 3 = mkF m 0 #[vr x0, vi x1, vr x2] [] := by first | (simp [entryFrame, mkF, argsToLocals, Value.category]; done) | rfl
def Q_rm_psa0 (Z : State) (a : Addr) (x : Addr) (xs : List Int32) (vx : Addr) (kx : ClassId) (b : Addr) (kb : ClassId) (ys : List Int32) (cz : Int32) (fo : Value) (h0 : Heap) (n0 : Nat) (v : Option Value) (h : Heap) (L : List Loc) : Prop := v = none ∧ Fr n0 L ∧ Keep h0 h [b] ∧ Arv Z h b kb .byte 16 (latV (ys ++ xs)) (.int 0)
theorem rm_psa0 (l : Launch) (Z : State) (a0 : Array Value) (hw : HW a0 Z) (ws : List Jvm.Cond) (a : Addr) (x : Addr) (xs : List Int32) (vx : Addr) (kx : ClassId) (b : Addr) (kb : ClassId) (ys : List Int32) (cz : Int32) (fo : Value) (h0 : Heap) (n0 : Nat) (Z0 : n0 ≤ h0.size) (A_a : Exa Z h0 a "java/lang/StringBuilder") (F_value_a : Fld Z h0 a "java/lang/AbstractStringBuilder" "value" "[B" (.ref b)) (F_coder_a : Fld Z h0 a "java/lang/AbstractStringBuilder" "coder" "B" (.int 0)) (A_x : Exa Z h0 x "java/lang/String") (F_value_x : Fld Z h0 x "java/lang/String" "value" "[B" (.ref vx)) (F_coder_x : Fld Z h0 x "java/lang/String" "coder" "B" (.int 0)) (V_vx : Arv Z h0 vx kx .byte (Int32.ofNat xs.length) (latV xs) (.int 0)) (hxl : ∀ c ∈ xs, Lat c) (V_b : Arv Z h0 b kb .byte 16 (latV ys) (.int 0)) (g_b : n0 ≤ b) (ne_vx_b : vx ≠ b) (ne_x_b : x ≠ b) (htot : ys.length + xs.length ≤ 15) (sgC : Sta Z h0 "java/lang/String" "COMPACT_STRINGS" "Z" (.int cz)) (hcz : ¬ (cz = 0)) (sgA : Sta Z h0 "java/lang/StringUTF16" "$assertionsDisabled" "Z" (.int 1)) (sgH : Sta Z h0 "java/lang/StringUTF16" "HI_BYTE_SHIFT" "I" (.int 0)) (sgL : Sta Z h0 "java/lang/StringUTF16" "LO_BYTE_SHIFT" "I" (.int 8)) (sgF : Sta Z h0 "jdk/internal/util/Preconditions" "SIOOBE_FORMATTER" "Ljava/util/function/BiFunction;" fo) (r_fo : fo.isRef = true) (ne_a_b : a ≠ b) :
  Met l Z mN40 jdk_68_method_73_code 3 none ({ frames := 2, cells := 0, slots := 0, locals := 33 } : Room) ws #[(.ref a), (.int (Int32.ofNat ys.length)), (.ref x)] h0 (Q_rm_psa0 Z a x xs vx kx b kb ys cz fo h0 n0) := by
 refine own_met (plainFor_of_name own_pn4) ?_
 intro p e s m below meth c s₁ hret hx hby hlk hml hown hnm X0 e0 hZ hh
 have N0 := Fr.nil n0
 refine Gz (castTop (own_ef_rm_psa0 m a (Int32.ofNat ys.length) x)) ?_
 have KP : Keep h0 h0 [b] := Keep.refl _ _
 show GG (fT s₁ m 0 #[vr a, vi (Int32.ofNat ys.length), vr x] [])
 refine gA X0 hx hby d40_0 rfl rfl rfl ?_
 refine gA X0 hx hby d40_1 rfl rfl rfl ?_
 obtain ⟨cq1, q1, q1'⟩ := A_a.cell
 obtain ⟨_, _, ⟨T1, L1, k1, n1⟩, -, X1, ⟨Lc1, hQ1, l1, y1, z1⟩, st1⟩ := X0.privateBack hx (y := mN38) hown (gz hZ hw 205 rfl) (gz hZ hw 206 rfl) (own_selQ hZ (gw hw 67 rfl) (gw hw 207 rfl) (gw hw 206 rfl) (by decide)) (Cond.privateMethod_at (mvP hZ (gw hw 207 rfl) (args := #[]))) (gz hZ hw 209 rfl) (by decide) (backOf (W := 0) (rm_inn0 l Z a0 hw [] a x cz h0 n0 Z0 A_a F_coder_a A_x F_coder_x sgC hcz) hZ (gw hw 209 rfl) (gw hw 44 rfl) (by decide) (by decide)) (g := (mkF m 2 #[vr a, vi (Int32.ofNat ys.length), vr x] [(.ref x), (.ref a)])) rfl hml.symm (Steps.refl _) (a := a) (by rw [e0]; exact q1) q1' (argsL := [(.ref x)]) (rest := []) (lenOf own_pd24 rfl) rfl (wz rfl) (hb hby d40_2) (fun _ _ => ⟨rfl, e0, z0, z0⟩)
 dsimp only [Pt.U, Pt.locs, Pt.cells, Pt.slots] at X1 l1 y1 z1 st1 hQ1
 subst l1 y1 z1
 obtain ⟨rfl, N1q, e1⟩ := hQ1
 have N1 := Fr.app N0 N1q
 refine Gs (fun _ tk => st1.trans tk) ?_
 show GG (fT T1 m 5 #[vr a, vi (Int32.ofNat ys.length), vr x] [])
 refine gA X1 hx hby d40_5 rfl rfl rfl ?_
 refine gA X1 hx hby d40_6 rfl rfl rfl ?_
 obtain ⟨T2, X2, e2, st2⟩ := getF X1 hx hZ hown (host := "") (Or.inl (gw hw 48 rfl)) Via.refl e1 F_value_a (g := (mkF m 7 #[vr a, vi (Int32.ofNat ys.length), vr x] [(.ref a), (.ref x)])) rfl rfl (hb hby d40_7)
 refine Gs st2 ?_
 show GG (fT T2 m 10 #[vr a, vi (Int32.ofNat ys.length), vr x] [(.ref b), (.ref x)])
 refine gN X2 hx hby d40_10 rfl rfl ?_
 refine gA X2 hx hby d40_11 rfl rfl rfl ?_
 obtain ⟨T3, X3, e3, st3⟩ := getF X2 hx hZ hown (host := "") (Or.inl (gw hw 50 rfl)) Via.refl e2 F_coder_a (g := (mkF m 12 #[vr a, vi (Int32.ofNat ys.length), vr x] [(.ref a), (.int (Int32.ofNat ys.length)), (.ref b), (.ref x)])) rfl rfl (hb hby d40_12)
 refine Gs st3 ?_
 show GG (fT T3 m 15 #[vr a, vi (Int32.ofNat ys.length), vr x] [(.int 0), (.int (Int32.ofNat ys.length)), (.ref b), (.ref x)])
 refine cVg X3 hx hZ hw hown hby hml e3 mN39 211 212 214 213 215 9 0 (rm_gb0 l Z a0 hw [] x xs vx kx b kb ys cz fo h0 n0 Z0 A_x F_value_x F_coder_x V_vx hxl V_b g_b ne_vx_b ne_x_b htot sgC hcz sgA sgH sgL sgF r_fo) A_x d40_15 (lenOf own_pd25 rfl) (fun _ T4 L4 X4 hQ4 => ?_)
 obtain ⟨rfl, N4q, K4, V_b_4'⟩ := hQ4
 have N4 := Fr.app N1 N4q
 replace KP := KP.trans K4 (allS (Or.inl (List.mem_of_getElem? (i := 0) rfl)) all0)
 replace Z0 := Nat.le_trans Z0 K4.1
 have V_b := V_b_4'
 show GG (fT T4 m 18 #[vr a, vi (Int32.ofNat ys.length), vr x] [])
 refine Goes.ret X4 none (fun _ => rfl) hlk (by decide) (by decide) ?_ (fun fs hr => ?_)
 ·exact ⟨rfl, N4, KP, V_b⟩
 ·exact X4.returnOut hx hret (hb hby d40_18) hr
theorem d38_17 : DK kc50 17 (.aload_n 0) 1 := by decide +kernel
theorem d38_18 : DK kc50 18 (.invokevirtual 195) 3 := by decide +kernel
theorem own_ef_rm_inn1 (m : MethodId) (x0 : Addr) (x1 : Addr) : entryFrame m #[(.ref x0), (.ref x1)] 2 = mkF m 0 #[vr x0, vr x1] [] := by first | (simp [entryFrame, mkF, argsToLocals, Value.category]; done) | rfl
def Q_rm_inn1 (Z : State) (a : Addr) (x : Addr) (cz : Int32) (h0 : Heap) (n0 : Nat) (v : Option Value) (h : Heap) (L : List Loc) : Prop := v = none ∧ Fr n0 L ∧ h = h0
theorem rm_inn1 (l : Launch) (Z : State) (a0 : Array Value) (hw : HW a0 Z) (ws : List Jvm.Cond) (a : Addr) (x : Addr) (cz : Int32) (h0 : Heap) (n0 : Nat) (Z0 : n0 ≤ h0.size) (A_a : Exa Z h0 a "java/lang/StringBuilder") (F_coder_a : Fld Z h0 a "java/lang/AbstractStringBuilder" "coder" "B" (.int 1)) (A_x : Exa Z h0 x "java/lang/String") (F_coder_x : Fld Z h0 x "java/lang/String" "coder" "B" (.int 0)) (sgC : Sta Z h0 "java/lang/String" "COMPACT_STRINGS" "Z" (.int cz)) (hcz : ¬ (cz = 0)) :
  Met l Z mN38 jdk_68_method_71_code 2 none ({ frames := 2, cells := 0, slots := 0, locals := 25 } : Room) ws #[(.ref a), (.ref x)] h0 (Q_rm_inn1 Z a x cz h0 n0) := by
 refine own_met (plainFor_of_name own_pn4) ?_
 intro p e s m below meth c s₁ hret hx hby hlk hml hown hnm X0 e0 hZ hh
 have N0 := Fr.nil n0
 refine Gz (castTop (own_ef_rm_inn1 m a x)) ?_
 show GG (fT s₁ m 0 #[vr a, vr x] [])
 obtain ⟨T1, X1, e1, st1⟩ := getS2 X0 hx hZ hown (host := "") (Or.inl (gw hw 47 rfl)) Via.refl e0 sgC (g := (mkF m 0 #[vr a, vr x] [])) rfl (hb hby d38_0)
 refine Gs st1 ?_
 show GG (fT T1 m 3 #[vr a, vr x] [(.int cz)])
 refine gu X1 hx hby d38_3 ((if0 _ _).trans (feq hcz).1) ?_
 refine gA X1 hx hby d38_6 rfl rfl rfl ?_
 obtain ⟨T2, X2, e2, st2⟩ := getF X1 hx hZ hown (host := "") (Or.inl (gw hw 50 rfl)) Via.refl e1 F_coder_a (g := (mkF m 7 #[vr a, vr x] [(.ref a)])) rfl rfl (hb hby d38_7)
 refine Gs st2 ?_
 show GG (fT T2 m 10 #[vr a, vr x] [(.int 1)])
 refine gA X2 hx hby d38_10 rfl rfl rfl ?_
 refine cV X2 hx hZ hw hown hby hml e2 mN0 210 131 133 132 134 9 1 (rs_coder0 l Z a0 hw [] x cz h0 n0 Z0 F_coder_x sgC hcz) A_x d38_11 (lenOf own_pd0 rfl) N0 (fun T3 L3 X3 e3 N3 => ?_)
 show GG (fT T3 m 14 #[vr a, vr x] [(.int 0), (.int 1)])
 refine gU X3 hx hby d38_14 (feq (by decide : ¬ ((1 : Int32) = (0 : Int32)))).1 ?_
 refine gA X3 hx hby d38_17 rfl rfl rfl ?_
 obtain ⟨cq4, q4, q4'⟩ := A_a.cell
 obtain ⟨_, _, ⟨T4, L4, k4, n4⟩, -, X4, ⟨Lc4, hQ4, l4, y4, z4⟩, st4⟩ := X3.privateBack hx (y := mN35) hown (gz hZ hw 242 rfl) (gz hZ hw 243 rfl) (own_selQ hZ (gw hw 67 rfl) (gw hw 244 rfl) (gw hw 243 rfl) (by decide)) (Cond.privateMethod_at (mvP hZ (gw hw 244 rfl) (args := #[]))) (gz hZ hw 246 rfl) (by decide) (backOf (W := 0) (rm_bi1 l Z a0 hw [] a cz h0 n0 Z0 A_a F_coder_a sgC hcz) hZ (gw hw 246 rfl) (gw hw 44 rfl) (by decide) (by decide)) (g := (mkF m 18 #[vr a, vr x] [(.ref a)])) rfl hml.symm (Steps.refl _) (a := a) (by rw [e3]; exact q4) q4' (argsL := []) (rest := []) (lenOf own_pd22 rfl) rfl (wz rfl) (hb hby d38_18) (fun _ _ => ⟨rfl, e3, z0, z0⟩)
 dsimp only [Pt.U, Pt.locs, Pt.cells, Pt.slots] at X4 l4 y4 z4 st4 hQ4
 subst l4 y4 z4
 obtain ⟨rfl, N4q, e4⟩ := hQ4
 have N4 := Fr.app N3 N4q
 refine Gs (fun _ tk => st4.trans tk) ?_
 show GG (fT T4 m 21 #[vr a, vr x] [])
 refine Goes.ret X4 none (fun _ => rfl) hlk (by decide) (by decide) ?_ (fun fs hr => ?_)
 ·exact ⟨rfl, N4, e4⟩
 ·exact X4.returnOut hx hret (hb hby d38_21) hr
theorem d39_28 : DK kc4 28 (.aload_n 0) 1 := by decide +kernel
theorem d39_29 : DK kc4 29 (.getfield 9) 3 := by decide +kernel
theorem d39_32 : DK kc4 32 (.iconst 0) 1 := by decide +kernel
theorem d39_33 : DK kc4 33 (.aload_n 1) 1 := by decide +kernel
theorem d39_34 : DK kc4 34 (.iload_n 2) 1 := by decide +kernel
theorem d39_35 : DK kc4 35 (.aload_n 0) 1 := by decide +kernel
theorem d39_36 : DK kc4 36 (.getfield 9) 3 := by decide +kernel
theorem d39_39 : DK kc4 39 .arraylength 1 := by decide +kernel
theorem d39_40 : DK kc4 40 (.invokestatic 106) 3 := by decide +kernel
theorem own_ef_rm_gb1 (m : MethodId) (x0 : Addr) (x1 : Addr) (x2 : Int32) : entryFrame m #[(.ref x0), (.ref x1), (.int x2), (.int 1)] 4 = mkF m 0 #[vr x0, vr x1, vi x2, vi 1] [] := by first | (simp [entryFrame, mkF, argsToLocals, Value.category]; done) | rfl
def Q_rm_gb1 (Z : State) (x : Addr) (xs : List Int32) (vx : Addr) (kx : ClassId) (b : Addr) (kb : ClassId) (ys : List Int32) (cz : Int32) (fo : Value) (h0 : Heap) (n0 : Nat) (v : Option Value) (h : Heap) (L : List Loc) : Prop := v = none ∧ Fr n0 L ∧ Keep h0 h [b] ∧ Arv Z h b kb .byte 32 (utfV (ys ++ xs)) (.int 0)
theorem rm_gb1 (l : Launch) (Z : State) (a0 : Array Value) (hw : HW a0 Z) (ws : List Jvm.Cond) (x : Addr) (xs : List Int32) (vx : Addr) (kx : ClassId) (b : Addr) (kb : ClassId) (ys : List Int32) (cz : Int32) (fo : Value) (h0 : Heap) (n0 : Nat) (Z0 : n0 ≤ h0.size) (A_x : Exa Z h0 x "java/lang/String") (F_value_x : Fld Z h0 x "java/lang/String" "value" "[B" (.ref vx)) (F_coder_x : Fld Z h0 x "java/lang/String" "coder" "B" (.int 0)) (V_vx : Arv Z h0 vx kx .byte (Int32.ofNat xs.length) (latV xs) (.int 0)) (hxl : ∀ c ∈ xs, Lat c) (V_b : Arv Z h0 b kb .byte 32 (utfV ys) (.int 0)) (g_b : n0 ≤ b) (ne_vx_b : vx ≠ b) (ne_x_b : x ≠ b) (htot : ys.length + xs.length ≤ 15) (sgC : Sta Z h0 "java/lang/String" "COMPACT_STRINGS" "Z" (.int cz)) (hcz : ¬ (cz = 0)) (sgA : Sta Z h0 "java/lang/StringUTF16" "$assertionsDisabled" "Z" (.int 1)) (sgH : Sta Z h0 "java/lang/StringUTF16" "HI_BYTE_SHIFT" "I" (.int 0)) (sgL : Sta Z h0 "java/lang/StringUTF16" "LO_BYTE_SHIFT" "I" (.int 8)) (sgF : Sta Z h0 "jdk/internal/util/Preconditions" "SIOOBE_FORMATTER" "Ljava/util/function/BiFunction;" fo) (r_fo : fo.isRef = true) :
  Met l Z mN39 jdk_42_method_147_code 4 none ({ frames := 5, cells := 0, slots := 0, locals := 76 } : Room) ws #[(.ref x), (.ref b), (.int (Int32.ofNat ys.length)), (.int 1)] h0 (Q_rm_gb1 Z x xs vx kx b kb ys cz fo h0 n0) := by
 refine own_met (plainFor_of_name own_pn0) ?_
 intro p e s m below meth c s₁ hret hx hby hlk hml hown hnm X0 e0 hZ hh
 have N0 := Fr.nil n0
 refine Gz (castTop (own_ef_rm_gb1 m x b (Int32.ofNat ys.length))) ?_
 have KP : Keep h0 h0 [b] := Keep.refl _ _
 show GG (fT s₁ m 0 #[vr x, vr b, vi (Int32.ofNat ys.length), vi 1] [])
 refine gA X0 hx hby d39_0 rfl rfl rfl ?_
 refine cV X0 hx hZ hw hown hby hml e0 mN0 130 131 133 132 134 9 0 (rs_coder0 l Z a0 hw [] x cz h0 n0 Z0 F_coder_x sgC hcz) A_x d39_1 (lenOf own_pd0 rfl) N0 (fun T1 L1 X1 e1 N1 => ?_)
 show GG (fT T1 m 4 #[vr x, vr b, vi (Int32.ofNat ys.length), vi 1] [(.int 0)])
 refine gN X1 hx hby d39_4 rfl rfl ?_
 refine gY X1 hx hby d39_5 5 28 (feq (by decide : ¬ ((0 : Int32) = (1 : Int32)))).2 ?_
 refine gA X1 hx hby d39_28 rfl rfl rfl ?_
 obtain ⟨T2, X2, e2, st2⟩ := getF X1 hx hZ hown (host := "") (Or.inl (gw hw 27 rfl)) Via.refl e1 F_value_x (g := (mkF m 29 #[vr x, vr b, vi (Int32.ofNat ys.length), vi 1] [(.ref x)])) rfl rfl (hb hby d39_29)
 refine Gs st2 ?_
 show GG (fT T2 m 32 #[vr x, vr b, vi (Int32.ofNat ys.length), vi 1] [(.ref vx)])
 refine gC X2 hx hby d39_32 ?_
 refine gA X2 hx hby d39_33 rfl rfl rfl ?_
 refine gN X2 hx hby d39_34 rfl rfl ?_
 refine gA X2 hx hby d39_35 rfl rfl rfl ?_
 obtain ⟨T3, X3, e3, st3⟩ := getF X2 hx hZ hown (host := "") (Or.inl (gw hw 27 rfl)) Via.refl e2 F_value_x (g := (mkF m 36 #[vr x, vr b, vi (Int32.ofNat ys.length), vi 1] [(.ref x), (.int (Int32.ofNat ys.length)), (.ref b), (.int 0), (.ref vx)])) rfl rfl (hb hby d39_36)
 refine Gs st3 ?_
 show GG (fT T3 m 39 #[vr x, vr b, vi (Int32.ofNat ys.length), vi 1] [(.ref vx), (.int (Int32.ofNat ys.length)), (.ref b), (.int 0), (.ref vx)])
 obtain ⟨cl4, Ar4, -, S4, N4z, -, -⟩ := id V_vx
 refine Gs (fun _ tk => X3.arraylength hx (by rw [e3]; exact Ar4.1) (State.isArrayOf_alike hZ.alike Ar4.2.1) (g := (mkF m 39 #[vr x, vr b, vi (Int32.ofNat ys.length), vi 1] [(.ref vx), (.int (Int32.ofNat ys.length)), (.ref b), (.int 0), (.ref vx)])) rfl rfl (hb hby d39_39) _ tk) ?_
 rw [len_of S4 N4z]
 show GG (fT T3 m 40 #[vr x, vr b, vi (Int32.ofNat ys.length), vi 1] [(.int (Int32.ofNat xs.length)), (.int (Int32.ofNat ys.length)), (.ref b), (.int 0), (.ref vx)])
 have ox := own_tnO (n := xs.length) (by omega)
 refine cSg X3 hx hZ hw hown hby hml e3 mN34 280 255 256 76 0 (rm_lin l Z a0 hw [] vx kx (Int32.ofNat xs.length) xs b kb ys fo h0 n0 Z0 V_vx V_b g_b ne_vx_b (Nat.le_of_eq ox.1.symm) (by rw [ox.1]; omega) hxl (by omega) sgA sgH sgL sgF r_fo) d39_40 (lenOf own_pd21 rfl) (fun _ T5 L5 X5 hQ5 => ?_)
 obtain ⟨rfl, N5q, K5, V_b_5'⟩ := hQ5
 have N5 := Fr.app N1 N5q
 replace KP := KP.trans K5 (allS (Or.inl (List.mem_of_getElem? (i := 0) rfl)) all0)
 replace Z0 := Nat.le_trans Z0 K5.1
 have V_b := V_b_5'
 show GG (fT T5 m 43 #[vr x, vr b, vi (Int32.ofNat ys.length), vi 1] [])
 refine Goes.ret X5 none (fun _ => rfl) hlk (by decide) (by decide) ?_ (fun fs hr => ?_)
 ·exact ⟨rfl, N5, KP, V_b⟩
 ·exact X5.returnOut hx hret (hb hby d39_43) hr
theorem own_ef_rm_psa1 (m : MethodId) (x0 : Addr) (x1 : Int32) (x2 : Addr) : entryFrame m #[(.ref x0), (.int x1), (.ref x2)] 3 = mkF m 0 #[vr x0, vi x1, vr x2] [] := by first | (simp [entryFrame, mkF, argsToLocals, Value.category]; done) | rfl
def Q_rm_psa1 (Z : State) (a : Addr) (x : Addr) (xs : List Int32) (vx : Addr) (kx : ClassId) (b : Addr) (kb : ClassId) (ys : List Int32) (cz : Int32) (fo : Value) (h0 : Heap) (n0 : Nat) (v : Option Value) (h : Heap) (L : List Loc) : Prop := v = none ∧ Fr n0 L ∧ Keep h0 h [b] ∧ Arv Z h b kb .byte 32 (utfV (ys ++ xs)) (.int 0)
theorem rm_psa1 (l : Launch) (Z : State) (a0 : Array Value) (hw : HW a0 Z) (ws : List Jvm.Cond) (a : Addr) (x : Addr) (xs : List Int32) (vx : Addr) (kx : ClassId) (b : Addr) (kb : ClassId) (ys : List Int32) (cz : Int32) (fo : Value) (h0 : Heap) (n0 : Nat) (Z0 : n0 ≤ h0.size) (A_a : Exa Z h0 a "java/lang/StringBuilder") (F_value_a : Fld Z h0 a "java/lang/AbstractStringBuilder" "value" "[B" (.ref b)) (F_coder_a : Fld Z h0 a "java/lang/AbstractStringBuilder" "coder" "B" (.int 1)) (A_x : Exa Z h0 x "java/lang/String") (F_value_x : Fld Z h0 x "java/lang/String" "value" "[B" (.ref vx)) (F_coder_x : Fld Z h0 x "java/lang/String" "coder" "B" (.int 0)) (V_vx : Arv Z h0 vx kx .byte (Int32.ofNat xs.length) (latV xs) (.int 0)) (hxl : ∀ c ∈ xs, Lat c) (V_b : Arv Z h0 b kb .byte 32 (utfV ys) (.int 0)) (g_b : n0 ≤ b) (ne_vx_b : vx ≠ b) (ne_x_b : x ≠ b) (htot : ys.length + xs.length ≤ 15) (sgC : Sta Z h0 "java/lang/String" "COMPACT_STRINGS" "Z" (.int cz)) (hcz : ¬ (cz = 0)) (sgA : Sta Z h0 "java/lang/StringUTF16" "$assertionsDisabled" "Z" (.int 1)) (sgH : Sta Z h0 "java/lang/StringUTF16" "HI_BYTE_SHIFT" "I" (.int 0)) (sgL : Sta Z h0 "java/lang/StringUTF16" "LO_BYTE_SHIFT" "I" (.int 8)) (sgF : Sta Z h0 "jdk/internal/util/Preconditions" "SIOOBE_FORMATTER" "Ljava/util/function/BiFunction;" fo) (r_fo : fo.isRef = true) (ne_a_b : a ≠ b) :
  Met l Z mN40 jdk_68_method_73_code 3 none ({ frames := 6, cells := 0, slots := 0, locals := 91 } : Room) ws #[(.ref a), (.int (Int32.ofNat ys.length)), (.ref x)] h0 (Q_rm_psa1 Z a x xs vx kx b kb ys cz fo h0 n0) := by
 refine own_met (plainFor_of_name own_pn4) ?_
 intro p e s m below meth c s₁ hret hx hby hlk hml hown hnm X0 e0 hZ hh
 have N0 := Fr.nil n0
 refine Gz (castTop (own_ef_rm_psa1 m a (Int32.ofNat ys.length) x)) ?_
 have KP : Keep h0 h0 [b] := Keep.refl _ _
 show GG (fT s₁ m 0 #[vr a, vi (Int32.ofNat ys.length), vr x] [])
 refine gA X0 hx hby d40_0 rfl rfl rfl ?_
 refine gA X0 hx hby d40_1 rfl rfl rfl ?_
 obtain ⟨cq1, q1, q1'⟩ := A_a.cell
 obtain ⟨_, _, ⟨T1, L1, k1, n1⟩, -, X1, ⟨Lc1, hQ1, l1, y1, z1⟩, st1⟩ := X0.privateBack hx (y := mN38) hown (gz hZ hw 205 rfl) (gz hZ hw 206 rfl) (own_selQ hZ (gw hw 67 rfl) (gw hw 207 rfl) (gw hw 206 rfl) (by decide)) (Cond.privateMethod_at (mvP hZ (gw hw 207 rfl) (args := #[]))) (gz hZ hw 209 rfl) (by decide) (backOf (W := 0) (rm_inn1 l Z a0 hw [] a x cz h0 n0 Z0 A_a F_coder_a A_x F_coder_x sgC hcz) hZ (gw hw 209 rfl) (gw hw 44 rfl) (by decide) (by decide)) (g := (mkF m 2 #[vr a, vi (Int32.ofNat ys.length), vr x] [(.ref x), (.ref a)])) rfl hml.symm (Steps.refl _) (a := a) (by rw [e0]; exact q1) q1' (argsL := [(.ref x)]) (rest := []) (lenOf own_pd24 rfl) rfl (wz rfl) (hb hby d40_2) (fun _ _ => ⟨rfl, e0, z0, z0⟩)
 dsimp only [Pt.U, Pt.locs, Pt.cells, Pt.slots] at X1 l1 y1 z1 st1 hQ1
 subst l1 y1 z1
 obtain ⟨rfl, N1q, e1⟩ := hQ1
 have N1 := Fr.app N0 N1q
 refine Gs (fun _ tk => st1.trans tk) ?_
 show GG (fT T1 m 5 #[vr a, vi (Int32.ofNat ys.length), vr x] [])
 refine gA X1 hx hby d40_5 rfl rfl rfl ?_
 refine gA X1 hx hby d40_6 rfl rfl rfl ?_
 obtain ⟨T2, X2, e2, st2⟩ := getF X1 hx hZ hown (host := "") (Or.inl (gw hw 48 rfl)) Via.refl e1 F_value_a (g := (mkF m 7 #[vr a, vi (Int32.ofNat ys.length), vr x] [(.ref a), (.ref x)])) rfl rfl (hb hby d40_7)
 refine Gs st2 ?_
 show GG (fT T2 m 10 #[vr a, vi (Int32.ofNat ys.length), vr x] [(.ref b), (.ref x)])
 refine gN X2 hx hby d40_10 rfl rfl ?_
 refine gA X2 hx hby d40_11 rfl rfl rfl ?_
 obtain ⟨T3, X3, e3, st3⟩ := getF X2 hx hZ hown (host := "") (Or.inl (gw hw 50 rfl)) Via.refl e2 F_coder_a (g := (mkF m 12 #[vr a, vi (Int32.ofNat ys.length), vr x] [(.ref a), (.int (Int32.ofNat ys.length)), (.ref b), (.ref x)])) rfl rfl (hb hby d40_12)
 refine Gs st3 ?_
 show GG (fT T3 m 15 #[vr a, vi (Int32.ofNat ys.length), vr x] [(.int 1), (.int (Int32.ofNat ys.length)), (.ref b), (.ref x)])
 refine cVg X3 hx hZ hw hown hby hml e3 mN39 211 212 214 213 215 9 0 (rm_gb1 l Z a0 hw [] x xs vx kx b kb ys cz fo h0 n0 Z0 A_x F_value_x F_coder_x V_vx hxl V_b g_b ne_vx_b ne_x_b htot sgC hcz sgA sgH sgL sgF r_fo) A_x d40_15 (lenOf own_pd25 rfl) (fun _ T4 L4 X4 hQ4 => ?_)
 obtain ⟨rfl, N4q, K4, V_b_4'⟩ := hQ4
 have N4 := Fr.app N1 N4q
 replace KP := KP.trans K4 (allS (Or.inl (List.mem_of_getElem? (i := 0) rfl)) all0)
 replace Z0 := Nat.le_trans Z0 K4.1
 have V_b := V_b_4'
 show GG (fT T4 m 18 #[vr a, vi (Int32.ofNat ys.length), vr x] [])
 refine Goes.ret X4 none (fun _ => rfl) hlk (by decide) (by decide) ?_ (fun fs hr => ?_)
 ·exact ⟨rfl, N4, KP, V_b⟩
 ·exact X4.returnOut hx hret (hb hby d40_18) hr
theorem d41_0 : DK kc44 0 (.aload_n 1) 1 := by decide +kernel
theorem d41_1 : DK kc44 1 (.ifnonnull 8) 3 := by decide +kernel
theorem d41_9 : DK kc44 9 (.aload_n 1) 1 := by decide +kernel
theorem d41_10 : DK kc44 10 (.invokevirtual 32) 3 := by decide +kernel
theorem own_pd26 : parseMethodDescriptor "()I" = some ⟨[], some .int⟩ := by decide +kernel
theorem d41_13 : DK kc44 13 (.istore_n 2) 1 := by decide +kernel
theorem d41_14 : DK kc44 14 (.aload_n 0) 1 := by decide +kernel
theorem d41_15 : DK kc44 15 (.aload_n 0) 1 := by decide +kernel
theorem d41_16 : DK kc44 16 (.getfield 79) 3 := by decide +kernel
theorem d41_19 : DK kc44 19 (.iload_n 2) 1 := by decide +kernel
theorem d41_20 : DK kc44 20 .iadd 1 := by decide +kernel
theorem d41_21 : DK kc44 21 (.invokevirtual 100) 3 := by decide +kernel
theorem d41_24 : DK kc44 24 (.aload_n 0) 1 := by decide +kernel
theorem d41_25 : DK kc44 25 (.aload_n 0) 1 := by decide +kernel
theorem d41_26 : DK kc44 26 (.getfield 79) 3 := by decide +kernel
theorem d41_29 : DK kc44 29 (.aload_n 1) 1 := by decide +kernel
theorem d41_30 : DK kc44 30 (.invokevirtual 208) 3 := by decide +kernel
theorem own_pd27 : parseMethodDescriptor "(ILjava/lang/String;)V" = some ⟨[.int, (.object "java/lang/String")], none⟩ := by decide +kernel
theorem d41_33 : DK kc44 33 (.aload_n 0) 1 := by decide +kernel
theorem d41_34 : DK kc44 34 .dup 1 := by decide +kernel
theorem d41_35 : DK kc44 35 (.getfield 79) 3 := by decide +kernel
theorem d41_38 : DK kc44 38 (.iload_n 2) 1 := by decide +kernel
theorem d41_39 : DK kc44 39 .iadd 1 := by decide +kernel
theorem d41_40 : DK kc44 40 (.putfield 79) 3 := by decide +kernel
theorem d41_43 : DK kc44 43 (.aload_n 0) 1 := by decide +kernel
theorem d41_44 : DK kc44 44 .areturn 1 := by decide +kernel
theorem own_ef_rm_at (m : MethodId) (x0 : Addr) (x1 : Addr) : entryFrame m #[(.ref x0), (.ref x1)] 3 = mkF m 0 #[vr x0, vr x1, vu] [] := by first | (simp [entryFrame, mkF, argsToLocals, Value.category]; done) | rfl
def Q_rm_at (Z : State) (a : Addr) (b : Addr) (ys : List Int32) (x : Addr) (xs : List Int32) (vx : Addr) (kx : ClassId) (cz : Int32) (fo : Value) (h0 : Heap) (n0 : Nat) (v : Option Value) (h : Heap) (L : List Loc) : Prop := v = some (.ref a) ∧ Fr n0 L ∧ Keep h0 h [a, b] ∧ SbOf Z h a b (ys ++ xs)
theorem rm_at (l : Launch) (Z : State) (a0 : Array Value) (hw : HW a0 Z) (ws : List Jvm.Cond) (a : Addr) (b : Addr) (ys : List Int32) (x : Addr) (xs : List Int32) (vx : Addr) (kx : ClassId) (cz : Int32) (fo : Value) (h0 : Heap) (n0 : Nat) (Z0 : n0 ≤ h0.size) (B_a : SbOf Z h0 a b ys) (A_a : Exa Z h0 a "java/lang/StringBuilder") (g_a : n0 ≤ a) (g_b : n0 ≤ b) (ne_a_b : a ≠ b) (T_x : StrOf Z h0 x xs) (A_x : Exa Z h0 x "java/lang/String") (F_value_x : Fld Z h0 x "java/lang/String" "value" "[B" (.ref vx)) (F_coder_x : Fld Z h0 x "java/lang/String" "coder" "B" (.int 0)) (V_vx : Arv Z h0 vx kx .byte (Int32.ofNat xs.length) (latV xs) (.int 0)) (hxl : ∀ c ∈ xs, Lat c) (ne_vx_b : vx ≠ b) (ne_x_b : x ≠ b) (ne_vx_a : vx ≠ a) (ne_x_a : x ≠ a) (htot : ys.length + xs.length ≤ 15) (sgC : Sta Z h0 "java/lang/String" "COMPACT_STRINGS" "Z" (.int cz)) (hcz : ¬ (cz = 0)) (sgA : Sta Z h0 "java/lang/StringUTF16" "$assertionsDisabled" "Z" (.int 1)) (sgH : Sta Z h0 "java/lang/StringUTF16" "HI_BYTE_SHIFT" "I" (.int 0)) (sgL : Sta Z h0 "java/lang/StringUTF16" "LO_BYTE_SHIFT" "I" (.int 8)) (sgF : Sta Z h0 "jdk/internal/util/Preconditions" "SIOOBE_FORMATTER" "Ljava/util/function/BiFunction;" fo) (r_fo : fo.isRef = true) :
  Met l Z mN41 jdk_68_method_22_code 3 (some (.object "java/lang/AbstractStringBuilder")) ({ frames := 7, cells := 0, slots := 0, locals := 105 } : Room) ws #[(.ref a), (.ref x)] h0 (Q_rm_at Z a b ys x xs vx kx cz fo h0 n0) := by
 refine own_met (plainFor_of_name own_pn4) ?_
 intro p e s m below meth c s₁ hret hx hby hlk hml hown hnm X0 e0 hZ hh
 have N0 := Fr.nil n0
 refine Gz (castTop (own_ef_rm_at m a x)) ?_
 have KP : Keep h0 h0 [a, b] := Keep.refl _ _
 show GG (fT s₁ m 0 #[vr a, vr x, vu] [])
 obtain ⟨kb, -, F_value_a, F_count_a, F_maybeLatin1_a, hrep⟩ := B_a
 rcases hrep with ⟨F_coder_a, hall, V_b⟩ | ⟨F_coder_a, hall, V_b⟩
 ·show GG (fT s₁ m 0 #[vr a, vr x, vu] [])
  refine gA X0 hx hby d41_0 rfl rfl rfl ?_
  refine Gz (XS.ifnonnullYes X0.here hx rfl (pc0 := 1) (pc' := 9) rfl (hb hby d41_1) rfl (by decide) (by decide)) ?_
  refine gA X0 hx hby d41_9 rfl rfl rfl ?_
  refine cV X0 hx hZ hw hown hby hml e0 mN2 199 126 128 127 129 9 0 (rs_len l Z a0 hw [] x xs cz h0 n0 Z0 T_x sgC hcz) T_x.exa d41_10 (lenOf own_pd26 rfl) N0 (fun T1 L1 X1 e1 N1 => ?_)
  show GG (fT T1 m 13 #[vr a, vr x, vu] [(.int (Int32.ofNat xs.length))])
  refine gs X1 hx hby d41_13 #[vr a, vr x, vi (Int32.ofNat xs.length)] ?_
  refine gA X1 hx hby d41_14 rfl rfl rfl ?_
  refine gA X1 hx hby d41_15 rfl rfl rfl ?_
  obtain ⟨T2, X2, e2, st2⟩ := getF X1 hx hZ hown (host := "") (Or.inl (gw hw 62 rfl)) Via.refl e1 F_count_a (g := (mkF m 16 #[vr a, vr x, vi (Int32.ofNat xs.length)] [(.ref a), (.ref a)])) rfl rfl (hb hby d41_16)
  refine Gs st2 ?_
  show GG (fT T2 m 19 #[vr a, vr x, vi (Int32.ofNat xs.length)] [(.int (Int32.ofNat ys.length)), (.ref a)])
  refine gN X2 hx hby d41_19 rfl rfl ?_
  show GG (fT T2 m 20 #[vr a, vr x, vi (Int32.ofNat xs.length)] [(.int (Int32.ofNat xs.length)), (.int (Int32.ofNat ys.length)), (.ref a)])
  refine Gz (XS.iadd X2.here hx rfl (hb hby d41_20) rfl) ?_
  show GG (fT T2 m 21 #[vr a, vr x, vi (Int32.ofNat xs.length)] [(.int ((Int32.ofNat ys.length) + (Int32.ofNat xs.length))), (.ref a)])
  rw [own_ofA]
  show GG (fT T2 m 21 #[vr a, vr x, vi (Int32.ofNat xs.length)] [(.int (Int32.ofNat (ys.length + xs.length))), (.ref a)])
  obtain ⟨cq3, q3, q3'⟩ := A_a.cell
  obtain ⟨_, _, ⟨T3, L3, k3, n3⟩, -, X3, ⟨Lc3, hQ3, l3, y3, z3⟩, st3⟩ := X2.privateBack hx (y := mN28) hown (gz hZ hw 64 rfl) (gz hZ hw 65 rfl) (own_selQ hZ (gw hw 67 rfl) (gw hw 66 rfl) (gw hw 65 rfl) (by decide)) (Cond.privateMethod_at (mvP hZ (gw hw 66 rfl) (args := #[]))) (gz hZ hw 68 rfl) (by decide) (backOf (W := 0) (rm_ec0 l Z a0 hw [] a b kb (latV ys) (Int32.ofNat (ys.length + xs.length)) h0 n0 Z0 F_value_a F_coder_a V_b (own_ecN (by decide) (by show ys.length + xs.length ≤ 16; omega) (by decide))) hZ (gw hw 68 rfl) (gw hw 44 rfl) (by decide) (by decide)) (g := (mkF m 21 #[vr a, vr x, vi (Int32.ofNat xs.length)] [(.int (Int32.ofNat (ys.length + xs.length))), (.ref a)])) rfl hml.symm (Steps.refl _) (a := a) (by rw [e2]; exact q3) q3' (argsL := [(.int (Int32.ofNat (ys.length + xs.length)))]) (rest := []) (lenOf own_pd17 rfl) rfl (wz rfl) (hb hby d41_21) (fun _ _ => ⟨rfl, e2, z0, z0⟩)
  dsimp only [Pt.U, Pt.locs, Pt.cells, Pt.slots] at X3 l3 y3 z3 st3 hQ3
  subst l3 y3 z3
  obtain ⟨rfl, N3q, e3⟩ := hQ3
  have N3 := Fr.app N1 N3q
  refine Gs (fun _ tk => st3.trans tk) ?_
  show GG (fT T3 m 24 #[vr a, vr x, vi (Int32.ofNat xs.length)] [])
  refine gA X3 hx hby d41_24 rfl rfl rfl ?_
  refine gA X3 hx hby d41_25 rfl rfl rfl ?_
  obtain ⟨T4, X4, e4, st4⟩ := getF X3 hx hZ hown (host := "") (Or.inl (gw hw 62 rfl)) Via.refl e3 F_count_a (g := (mkF m 26 #[vr a, vr x, vi (Int32.ofNat xs.length)] [(.ref a), (.ref a)])) rfl rfl (hb hby d41_26)
  refine Gs st4 ?_
  show GG (fT T4 m 29 #[vr a, vr x, vi (Int32.ofNat xs.length)] [(.int (Int32.ofNat ys.length)), (.ref a)])
  refine gA X4 hx hby d41_29 rfl rfl rfl ?_
  obtain ⟨cq5, q5, q5'⟩ := A_a.cell
  obtain ⟨_, _, ⟨T5, L5, k5, n5⟩, -, X5, ⟨Lc5, hQ5, l5, y5, z5⟩, st5⟩ := X4.privateBack hx (y := mN40) hown (gz hZ hw 200 rfl) (gz hZ hw 201 rfl) (own_selQ hZ (gw hw 67 rfl) (gw hw 202 rfl) (gw hw 201 rfl) (by decide)) (Cond.privateMethod_at (mvP hZ (gw hw 202 rfl) (args := #[]))) (gz hZ hw 204 rfl) (by decide) (backOf (W := 0) (rm_psa0 l Z a0 hw [] a x xs vx kx b kb ys cz fo h0 n0 Z0 A_a F_value_a F_coder_a T_x.exa F_value_x F_coder_x V_vx hxl V_b g_b ne_vx_b ne_x_b htot sgC hcz sgA sgH sgL sgF r_fo ne_a_b) hZ (gw hw 204 rfl) (gw hw 44 rfl) (by decide) (by decide)) (g := (mkF m 30 #[vr a, vr x, vi (Int32.ofNat xs.length)] [(.ref x), (.int (Int32.ofNat ys.length)), (.ref a)])) rfl hml.symm (Steps.refl _) (a := a) (by rw [e4]; exact q5) q5' (argsL := [(.int (Int32.ofNat ys.length)), (.ref x)]) (rest := []) (lenOf own_pd27 rfl) rfl (wz rfl) (hb hby d41_30) (fun _ _ => ⟨rfl, e4, z0, z0⟩)
  dsimp only [Pt.U, Pt.locs, Pt.cells, Pt.slots] at X5 l5 y5 z5 st5 hQ5
  subst l5 y5 z5
  obtain ⟨rfl, N5q, K5, V_b_5'⟩ := hQ5
  have N5 := Fr.app N3 N5q
  replace sgC := own_staK sgC K5 (allS (own_obA V_b) all0)
  replace sgA := own_staK sgA K5 (allS (own_obA V_b) all0)
  replace sgH := own_staK sgH K5 (allS (own_obA V_b) all0)
  replace sgL := own_staK sgL K5 (allS (own_obA V_b) all0)
  replace sgF := own_staK sgF K5 (allS (own_obA V_b) all0)
  replace A_a := A_a.keep K5
  replace F_value_x := F_value_x.keep K5 (ninS ne_x_b nin0)
  replace F_coder_x := F_coder_x.keep K5 (ninS ne_x_b nin0)
  replace V_vx := V_vx.keep K5 (ninS ne_vx_b nin0)
  replace F_value_a := F_value_a.keep K5 (ninS ne_a_b nin0)
  replace F_count_a := F_count_a.keep K5 (ninS ne_a_b nin0)
  replace F_maybeLatin1_a := F_maybeLatin1_a.keep K5 (ninS ne_a_b nin0)
  replace F_coder_a := F_coder_a.keep K5 (ninS ne_a_b nin0)
  replace KP := KP.trans K5 (allS (Or.inl (List.mem_of_getElem? (i := 1) rfl)) all0)
  replace Z0 := Nat.le_trans Z0 K5.1
  have V_b := V_b_5'
  refine Gs (fun _ tk => st5.trans tk) ?_
  show GG (fT T5 m 33 #[vr a, vr x, vi (Int32.ofNat xs.length)] [])
  refine gA X5 hx hby d41_33 rfl rfl rfl ?_
  refine Gz (XS.dup X5.here hx rfl (hb hby d41_34) rfl rfl) ?_
  obtain ⟨T6, X6, e6, st6⟩ := getF X5 hx hZ hown (host := "") (Or.inl (gw hw 62 rfl)) Via.refl rfl F_count_a (g := (mkF m 35 #[vr a, vr x, vi (Int32.ofNat xs.length)] [(.ref a), (.ref a)])) rfl rfl (hb hby d41_35)
  refine Gs st6 ?_
  show GG (fT T6 m 38 #[vr a, vr x, vi (Int32.ofNat xs.length)] [(.int (Int32.ofNat ys.length)), (.ref a)])
  refine gN X6 hx hby d41_38 rfl rfl ?_
  show GG (fT T6 m 39 #[vr a, vr x, vi (Int32.ofNat xs.length)] [(.int (Int32.ofNat xs.length)), (.int (Int32.ofNat ys.length)), (.ref a)])
  refine Gz (XS.iadd X6.here hx rfl (hb hby d41_39) rfl) ?_
  show GG (fT T6 m 40 #[vr a, vr x, vi (Int32.ofNat xs.length)] [(.int ((Int32.ofNat ys.length) + (Int32.ofNat xs.length))), (.ref a)])
  rw [own_ofA]
  show GG (fT T6 m 40 #[vr a, vr x, vi (Int32.ofNat xs.length)] [(.int (Int32.ofNat (ys.length + xs.length))), (.ref a)])
  obtain ⟨T7, h7, X7, e7, W7, st7⟩ := putF X6 hx hZ hown (host := "") (Or.inl (gw hw 62 rfl)) Via.refl e6 F_count_a A_a (Or.inl (gw hw 63 rfl)) (gw hw 35 rfl) (ty := .int) (by decide) rfl rfl (g := (mkF m 40 #[vr a, vr x, vi (Int32.ofNat xs.length)] [(.int (Int32.ofNat (ys.length + xs.length))), (.ref a)])) rfl rfl (hb hby d41_40)
  have N7 := Fr.snoc X7 N5 g_a
  replace A_a := A_a.wr W7
  replace F_value_x := F_value_x.other W7 (Or.inl ne_x_a)
  replace F_coder_x := F_coder_x.other W7 (Or.inl ne_x_a)
  replace V_vx := V_vx.other W7 ne_vx_a
  replace sgC := sgC.wr W7
  replace sgA := sgA.wr W7
  replace sgH := sgH.wr W7
  replace sgL := sgL.wr W7
  replace sgF := sgF.wr W7
  replace F_value_a := F_value_a.other W7 (Or.inr (slot_ne (Or.inl (gw hw 49 rfl)) (Or.inl (gw hw 63 rfl)) (by decide) (t := (.array .byte)) (t' := .int) (by decide) (by decide)))
  replace F_maybeLatin1_a := F_maybeLatin1_a.other W7 (Or.inr (slot_ne (Or.inl (gw hw 273 rfl)) (Or.inl (gw hw 63 rfl)) (by decide) (t := .boolean) (t' := .int) (by decide) (by decide)))
  replace F_coder_a := F_coder_a.other W7 (Or.inr (slot_ne (Or.inl (gw hw 51 rfl)) (Or.inl (gw hw 63 rfl)) (by decide) (t := .byte) (t' := .int) (by decide) (by decide)))
  replace V_b := V_b.other W7 (Ne.symm ne_a_b)
  replace KP := KP.wr W7 (Or.inl (List.mem_of_getElem? (i := 0) rfl))
  replace F_count_a := F_count_a.same W7
  replace Z0 : n0 ≤ h7.size := by rw [W7.size]; exact Z0
  refine Gs st7 ?_
  show GG (fT T7 m 43 #[vr a, vr x, vi (Int32.ofNat xs.length)] [])
  refine gA X7 hx hby d41_43 rfl rfl rfl ?_
  have B_a : SbOf Z h7 a b (ys ++ xs) := ⟨kb, A_a, F_value_a, (by rw [List.length_append]; exact F_count_a), F_maybeLatin1_a, Or.inl ⟨F_coder_a, (own_allA hall hxl), V_b⟩⟩
  refine Goes.ret X7 (some (.ref a)) (fun h => by rw [hret] at h; cases h) hlk (by decide) (by decide) ?_ (fun fs hr => ?_)
  ·rw [e7]; exact ⟨rfl, N7, KP, B_a⟩
  ·exact own_retA X7 hx hret rfl rfl (hb hby d41_44) hr
 ·show GG (fT s₁ m 0 #[vr a, vr x, vu] [])
  refine gA X0 hx hby d41_0 rfl rfl rfl ?_
  refine Gz (XS.ifnonnullYes X0.here hx rfl (pc0 := 1) (pc' := 9) rfl (hb hby d41_1) rfl (by decide) (by decide)) ?_
  refine gA X0 hx hby d41_9 rfl rfl rfl ?_
  refine cV X0 hx hZ hw hown hby hml e0 mN2 199 126 128 127 129 9 0 (rs_len l Z a0 hw [] x xs cz h0 n0 Z0 T_x sgC hcz) T_x.exa d41_10 (lenOf own_pd26 rfl) N0 (fun T8 L8 X8 e8 N8 => ?_)
  show GG (fT T8 m 13 #[vr a, vr x, vu] [(.int (Int32.ofNat xs.length))])
  refine gs X8 hx hby d41_13 #[vr a, vr x, vi (Int32.ofNat xs.length)] ?_
  refine gA X8 hx hby d41_14 rfl rfl rfl ?_
  refine gA X8 hx hby d41_15 rfl rfl rfl ?_
  obtain ⟨T9, X9, e9, st9⟩ := getF X8 hx hZ hown (host := "") (Or.inl (gw hw 62 rfl)) Via.refl e8 F_count_a (g := (mkF m 16 #[vr a, vr x, vi (Int32.ofNat xs.length)] [(.ref a), (.ref a)])) rfl rfl (hb hby d41_16)
  refine Gs st9 ?_
  show GG (fT T9 m 19 #[vr a, vr x, vi (Int32.ofNat xs.length)] [(.int (Int32.ofNat ys.length)), (.ref a)])
  refine gN X9 hx hby d41_19 rfl rfl ?_
  show GG (fT T9 m 20 #[vr a, vr x, vi (Int32.ofNat xs.length)] [(.int (Int32.ofNat xs.length)), (.int (Int32.ofNat ys.length)), (.ref a)])
  refine Gz (XS.iadd X9.here hx rfl (hb hby d41_20) rfl) ?_
  show GG (fT T9 m 21 #[vr a, vr x, vi (Int32.ofNat xs.length)] [(.int ((Int32.ofNat ys.length) + (Int32.ofNat xs.length))), (.ref a)])
  rw [own_ofA]
  show GG (fT T9 m 21 #[vr a, vr x, vi (Int32.ofNat xs.length)] [(.int (Int32.ofNat (ys.length + xs.length))), (.ref a)])
  obtain ⟨cq10, q10, q10'⟩ := A_a.cell
  obtain ⟨_, _, ⟨T10, L10, k10, n10⟩, -, X10, ⟨Lc10, hQ10, l10, y10, z10⟩, st10⟩ := X9.privateBack hx (y := mN28) hown (gz hZ hw 64 rfl) (gz hZ hw 65 rfl) (own_selQ hZ (gw hw 67 rfl) (gw hw 66 rfl) (gw hw 65 rfl) (by decide)) (Cond.privateMethod_at (mvP hZ (gw hw 66 rfl) (args := #[]))) (gz hZ hw 68 rfl) (by decide) (backOf (W := 0) (rm_ec1 l Z a0 hw [] a b kb (utfV ys) (Int32.ofNat (ys.length + xs.length)) h0 n0 Z0 F_value_a F_coder_a V_b (own_ecN (by decide) (by show ys.length + xs.length ≤ 16; omega) (by decide))) hZ (gw hw 68 rfl) (gw hw 44 rfl) (by decide) (by decide)) (g := (mkF m 21 #[vr a, vr x, vi (Int32.ofNat xs.length)] [(.int (Int32.ofNat (ys.length + xs.length))), (.ref a)])) rfl hml.symm (Steps.refl _) (a := a) (by rw [e9]; exact q10) q10' (argsL := [(.int (Int32.ofNat (ys.length + xs.length)))]) (rest := []) (lenOf own_pd17 rfl) rfl (wz rfl) (hb hby d41_21) (fun _ _ => ⟨rfl, e9, z0, z0⟩)
  dsimp only [Pt.U, Pt.locs, Pt.cells, Pt.slots] at X10 l10 y10 z10 st10 hQ10
  subst l10 y10 z10
  obtain ⟨rfl, N10q, e10⟩ := hQ10
  have N10 := Fr.app N8 N10q
  refine Gs (fun _ tk => st10.trans tk) ?_
  show GG (fT T10 m 24 #[vr a, vr x, vi (Int32.ofNat xs.length)] [])
  refine gA X10 hx hby d41_24 rfl rfl rfl ?_
  refine gA X10 hx hby d41_25 rfl rfl rfl ?_
  obtain ⟨T11, X11, e11, st11⟩ := getF X10 hx hZ hown (host := "") (Or.inl (gw hw 62 rfl)) Via.refl e10 F_count_a (g := (mkF m 26 #[vr a, vr x, vi (Int32.ofNat xs.length)] [(.ref a), (.ref a)])) rfl rfl (hb hby d41_26)
  refine Gs st11 ?_
  show GG (fT T11 m 29 #[vr a, vr x, vi (Int32.ofNat xs.length)] [(.int (Int32.ofNat ys.length)), (.ref a)])
  refine gA X11 hx hby d41_29 rfl rfl rfl ?_
  obtain ⟨cq12, q12, q12'⟩ := A_a.cell
  obtain ⟨_, _, ⟨T12, L12, k12, n12⟩, -, X12, ⟨Lc12, hQ12, l12, y12, z12⟩, st12⟩ := X11.privateBack hx (y := mN40) hown (gz hZ hw 200 rfl) (gz hZ hw 201 rfl) (own_selQ hZ (gw hw 67 rfl) (gw hw 202 rfl) (gw hw 201 rfl) (by decide)) (Cond.privateMethod_at (mvP hZ (gw hw 202 rfl) (args := #[]))) (gz hZ hw 204 rfl) (by decide) (backOf (W := 0) (rm_psa1 l Z a0 hw [] a x xs vx kx b kb ys cz fo h0 n0 Z0 A_a F_value_a F_coder_a T_x.exa F_value_x F_coder_x V_vx hxl V_b g_b ne_vx_b ne_x_b htot sgC hcz sgA sgH sgL sgF r_fo ne_a_b) hZ (gw hw 204 rfl) (gw hw 44 rfl) (by decide) (by decide)) (g := (mkF m 30 #[vr a, vr x, vi (Int32.ofNat xs.length)] [(.ref x), (.int (Int32.ofNat ys.length)), (.ref a)])) rfl hml.symm (Steps.refl _) (a := a) (by rw [e11]; exact q12) q12' (argsL := [(.int (Int32.ofNat ys.length)), (.ref x)]) (rest := []) (lenOf own_pd27 rfl) rfl (wz rfl) (hb hby d41_30) (fun _ _ => ⟨rfl, e11, z0, z0⟩)
  dsimp only [Pt.U, Pt.locs, Pt.cells, Pt.slots] at X12 l12 y12 z12 st12 hQ12
  subst l12 y12 z12
  obtain ⟨rfl, N12q, K12, V_b_12'⟩ := hQ12
  have N12 := Fr.app N10 N12q
  replace A_a := A_a.keep K12
  replace F_value_a := F_value_a.keep K12 (ninS ne_a_b nin0)
  replace F_count_a := F_count_a.keep K12 (ninS ne_a_b nin0)
  replace F_maybeLatin1_a := F_maybeLatin1_a.keep K12 (ninS ne_a_b nin0)
  replace F_coder_a := F_coder_a.keep K12 (ninS ne_a_b nin0)
  replace KP := KP.trans K12 (allS (Or.inl (List.mem_of_getElem? (i := 1) rfl)) all0)
  replace Z0 := Nat.le_trans Z0 K12.1
  have V_b := V_b_12'
  refine Gs (fun _ tk => st12.trans tk) ?_
  show GG (fT T12 m 33 #[vr a, vr x, vi (Int32.ofNat xs.length)] [])
  refine gA X12 hx hby d41_33 rfl rfl rfl ?_
  refine Gz (XS.dup X12.here hx rfl (hb hby d41_34) rfl rfl) ?_
  obtain ⟨T13, X13, e13, st13⟩ := getF X12 hx hZ hown (host := "") (Or.inl (gw hw 62 rfl)) Via.refl rfl F_count_a (g := (mkF m 35 #[vr a, vr x, vi (Int32.ofNat xs.length)] [(.ref a), (.ref a)])) rfl rfl (hb hby d41_35)
  refine Gs st13 ?_
  show GG (fT T13 m 38 #[vr a, vr x, vi (Int32.ofNat xs.length)] [(.int (Int32.ofNat ys.length)), (.ref a)])
  refine gN X13 hx hby d41_38 rfl rfl ?_
  show GG (fT T13 m 39 #[vr a, vr x, vi (Int32.ofNat xs.length)] [(.int (Int32.ofNat xs.length)), (.int (Int32.ofNat ys.length)), (.ref a)])
  refine Gz (XS.iadd X13.here hx rfl (hb hby d41_39) rfl) ?_
  show GG (fT T13 m 40 #[vr a, vr x, vi (Int32.ofNat xs.length)] [(.int ((Int32.ofNat ys.length) + (Int32.ofNat xs.length))), (.ref a)])
  rw [own_ofA]
  show GG (fT T13 m 40 #[vr a, vr x, vi (Int32.ofNat xs.length)] [(.int (Int32.ofNat (ys.length + xs.length))), (.ref a)])
  obtain ⟨T14, h14, X14, e14, W14, st14⟩ := putF X13 hx hZ hown (host := "") (Or.inl (gw hw 62 rfl)) Via.refl e13 F_count_a A_a (Or.inl (gw hw 63 rfl)) (gw hw 35 rfl) (ty := .int) (by decide) rfl rfl (g := (mkF m 40 #[vr a, vr x, vi (Int32.ofNat xs.length)] [(.int (Int32.ofNat (ys.length + xs.length))), (.ref a)])) rfl rfl (hb hby d41_40)
  have N14 := Fr.snoc X14 N12 g_a
  replace A_a := A_a.wr W14
  replace F_value_a := F_value_a.other W14 (Or.inr (slot_ne (Or.inl (gw hw 49 rfl)) (Or.inl (gw hw 63 rfl)) (by decide) (t := (.array .byte)) (t' := .int) (by decide) (by decide)))
  replace F_maybeLatin1_a := F_maybeLatin1_a.other W14 (Or.inr (slot_ne (Or.inl (gw hw 273 rfl)) (Or.inl (gw hw 63 rfl)) (by decide) (t := .boolean) (t' := .int) (by decide) (by decide)))
  replace F_coder_a := F_coder_a.other W14 (Or.inr (slot_ne (Or.inl (gw hw 51 rfl)) (Or.inl (gw hw 63 rfl)) (by decide) (t := .byte) (t' := .int) (by decide) (by decide)))
  replace V_b := V_b.other W14 (Ne.symm ne_a_b)
  replace KP := KP.wr W14 (Or.inl (List.mem_of_getElem? (i := 0) rfl))
  replace F_count_a := F_count_a.same W14
  replace Z0 : n0 ≤ h14.size := by rw [W14.size]; exact Z0
  refine Gs st14 ?_
  show GG (fT T14 m 43 #[vr a, vr x, vi (Int32.ofNat xs.length)] [])
  refine gA X14 hx hby d41_43 rfl rfl rfl ?_
  have B_a : SbOf Z h14 a b (ys ++ xs) := ⟨kb, A_a, F_value_a, (by rw [List.length_append]; exact F_count_a), F_maybeLatin1_a, Or.inr ⟨F_coder_a, (own_allA hall (fun c hc => (hxl c hc).chr)), V_b⟩⟩
  refine Goes.ret X14 (some (.ref a)) (fun h => by rw [hret] at h; cases h) hlk (by decide) (by decide) ?_ (fun fs hr => ?_)
  ·rw [e14]; exact ⟨rfl, N14, KP, B_a⟩
  ·exact own_retA X14 hx hret rfl rfl (hb hby d41_44) hr
theorem d42_0 : DK kc41 0 (.aload_n 0) 1 := by decide +kernel
theorem d42_1 : DK kc41 1 (.aload_n 1) 1 := by decide +kernel
theorem d42_2 : DK kc41 2 (.invokespecial 29) 3 := by decide +kernel
theorem own_pd28 : parseMethodDescriptor "(Ljava/lang/String;)Ljava/lang/AbstractStringBuilder;" = some ⟨[(.object "java/lang/String")], some (.object "java/lang/AbstractStringBuilder")⟩ := by decide +kernel
theorem d42_5 : DK kc41 5 .pop 1 := by decide +kernel
theorem d42_6 : DK kc41 6 (.aload_n 0) 1 := by decide +kernel
theorem d42_7 : DK kc41 7 .areturn 1 := by decide +kernel
theorem own_ef_rm_st (m : MethodId) (x0 : Addr) (x1 : Addr) : entryFrame m #[(.ref x0), (.ref x1)] 2 = mkF m 0 #[vr x0, vr x1] [] := by first | (simp [entryFrame, mkF, argsToLocals, Value.category]; done) | rfl
def Q_rm_st (Z : State) (a : Addr) (b : Addr) (ys : List Int32) (x : Addr) (xs : List Int32) (vx : Addr) (kx : ClassId) (cz : Int32) (fo : Value) (h0 : Heap) (n0 : Nat) (v : Option Value) (h : Heap) (L : List Loc) : Prop := v = some (.ref a) ∧ Fr n0 L ∧ Keep h0 h [a, b] ∧ SbOf Z h a b (ys ++ xs)
theorem rm_st (l : Launch) (Z : State) (a0 : Array Value) (hw : HW a0 Z) (ws : List Jvm.Cond) (a : Addr) (b : Addr) (ys : List Int32) (x : Addr) (xs : List Int32) (vx : Addr) (kx : ClassId) (cz : Int32) (fo : Value) (h0 : Heap) (n0 : Nat) (Z0 : n0 ≤ h0.size) (B_a : SbOf Z h0 a b ys) (A_a : Exa Z h0 a "java/lang/StringBuilder") (g_a : n0 ≤ a) (g_b : n0 ≤ b) (ne_a_b : a ≠ b) (T_x : StrOf Z h0 x xs) (A_x : Exa Z h0 x "java/lang/String") (F_value_x : Fld Z h0 x "java/lang/String" "value" "[B" (.ref vx)) (F_coder_x : Fld Z h0 x "java/lang/String" "coder" "B" (.int 0)) (V_vx : Arv Z h0 vx kx .byte (Int32.ofNat xs.length) (latV xs) (.int 0)) (hxl : ∀ c ∈ xs, Lat c) (ne_vx_b : vx ≠ b) (ne_x_b : x ≠ b) (ne_vx_a : vx ≠ a) (ne_x_a : x ≠ a) (htot : ys.length + xs.length ≤ 15) (sgC : Sta Z h0 "java/lang/String" "COMPACT_STRINGS" "Z" (.int cz)) (hcz : ¬ (cz = 0)) (sgA : Sta Z h0 "java/lang/StringUTF16" "$assertionsDisabled" "Z" (.int 1)) (sgH : Sta Z h0 "java/lang/StringUTF16" "HI_BYTE_SHIFT" "I" (.int 0)) (sgL : Sta Z h0 "java/lang/StringUTF16" "LO_BYTE_SHIFT" "I" (.int 8)) (sgF : Sta Z h0 "jdk/internal/util/Preconditions" "SIOOBE_FORMATTER" "Ljava/util/function/BiFunction;" fo) (r_fo : fo.isRef = true) :
  Met l Z mN42 jdk_67_method_7_code 2 (some (.object "java/lang/StringBuilder")) ({ frames := 8, cells := 0, slots := 0, locals := 119 } : Room) ws #[(.ref a), (.ref x)] h0 (Q_rm_st Z a b ys x xs vx kx cz fo h0 n0) := by
 refine own_met (plainFor_of_name own_pn5) ?_
 intro p e s m below meth c s₁ hret hx hby hlk hml hown hnm X0 e0 hZ hh
 have N0 := Fr.nil n0
 refine Gz (castTop (own_ef_rm_st m a x)) ?_
 have KP : Keep h0 h0 [a, b] := Keep.refl _ _
 show GG (fT s₁ m 0 #[vr a, vr x] [])
 refine gA X0 hx hby d42_0 rfl rfl rfl ?_
 refine gA X0 hx hby d42_1 rfl rfl rfl ?_
 obtain ⟨_, _, ⟨T1, L1, k1, n1⟩, -, X1, ⟨Lc1, hQ1, l1, y1, z1⟩, st1⟩ := superBack X0 hx hZ (K := "java/lang/StringBuilder") (y := mN41) hown (gw hw 195 rfl) (own_sameM (gw hw 196 rfl) (gw hw 67 rfl) (by decide)) (gw hw 196 rfl) (gw hw 59 rfl) (by decide) (backOf (W := 0) (rm_at l Z a0 hw [] a b ys x xs vx kx cz fo h0 n0 Z0 B_a A_a g_a g_b ne_a_b T_x T_x.exa F_value_x F_coder_x V_vx hxl ne_vx_b ne_x_b ne_vx_a ne_x_a htot sgC hcz sgA sgH sgL sgF r_fo) hZ (gw hw 198 rfl) (gw hw 44 rfl) (by decide) (by decide)) e0 (Ins.self A_a) (g := (mkF m 2 #[vr a, vr x] [(.ref x), (.ref a)])) rfl hml.symm (gw hw 198 rfl) (argsL := [(.ref x)]) (rest := []) (lenOf own_pd28 rfl) rfl (wz rfl) (hb hby d42_2) (fun _ _ => ⟨rfl, e0, z0, z0⟩)
 dsimp only [Pt.U, Pt.locs, Pt.cells, Pt.slots] at X1 l1 y1 z1 st1 hQ1
 subst l1 y1 z1
 obtain ⟨rfl, N1q, K1, B_a_1'⟩ := hQ1
 have N1 := Fr.app N0 N1q
 replace KP := KP.trans K1 (allS (Or.inl (List.mem_of_getElem? (i := 0) rfl)) (allS (Or.inl (List.mem_of_getElem? (i := 1) rfl)) all0))
 replace Z0 := Nat.le_trans Z0 K1.1
 have B_a := B_a_1'
 refine Gs (fun _ tk => st1.trans tk) ?_
 show GG (fT T1 m 5 #[vr a, vr x] [(.ref a)])
 refine Gz (XS.pop X1.here hx rfl (hb hby d42_5) rfl rfl) ?_
 refine gA X1 hx hby d42_6 rfl rfl rfl ?_
 refine Goes.ret X1 (some (.ref a)) (fun h => by rw [hret] at h; cases h) hlk (by decide) (by decide) ?_ (fun fs hr => ?_)
 ·exact ⟨rfl, N1, KP, B_a⟩
 ·exact own_retA X1 hx hret rfl rfl (hb hby d42_7) hr
theorem d43_0 : DK kc35 0 (.iload_n 1) 1 := by decide +kernel
theorem d43_1 : DK kc35 1 (.iload_n 0) 1 := by decide +kernel
theorem d43_2 : DK kc35 2 (.if_icmp .ge 35) 3 := by decide +kernel
theorem d43_37 : DK kc35 37 .return_ 1 := by decide +kernel
theorem own_pn6 : plainName "java/util/Arrays" = true := by first | (simp [plainName, overriddenIn]; done) | decide +kernel
theorem own_ef_rm_ckl (m : MethodId) (x0 : Int32) (x1 : Int32) : entryFrame m #[(.int x0), (.int x1)] 2 = mkF m 0 #[vi x0, vi x1] [] := by first | (simp [entryFrame, mkF, argsToLocals, Value.category]; done) | rfl
def Q_rm_ckl (Z : State) (f : Int32) (t : Int32) (h0 : Heap) (n0 : Nat) (v : Option Value) (h : Heap) (L : List Loc) : Prop := v = none ∧ Fr n0 L ∧ h = h0
theorem rm_ckl (l : Launch) (Z : State) (a0 : Array Value) (hw : HW a0 Z) (ws : List Jvm.Cond) (f : Int32) (t : Int32) (h0 : Heap) (n0 : Nat) (Z0 : n0 ≤ h0.size) (ht : ¬ (t < f)) :
  Met l Z mN43 jdk_65_method_131_code 2 none ({ frames := 0, cells := 0, slots := 0, locals := 0 } : Room) ws #[(.int f), (.int t)] h0 (Q_rm_ckl Z f t h0 n0) := by
 refine own_met (plainFor_of_name own_pn6) ?_
 intro p e s m below meth c s₁ hret hx hby hlk hml hown hnm X0 e0 hZ hh
 have N0 := Fr.nil n0
 refine Gz (castTop (own_ef_rm_ckl m f t)) ?_
 show GG (fT s₁ m 0 #[vi f, vi t] [])
 refine gN X0 hx hby d43_0 rfl rfl ?_
 refine gN X0 hx hby d43_1 rfl rfl ?_
 refine gY X0 hx hby d43_2 2 37 (flt ht).2.1 ?_
 refine Goes.ret X0 none (fun _ => rfl) hlk (by decide) (by decide) ?_ (fun fs hr => ?_)
 ·exact ⟨rfl, N0, e0⟩
 ·exact X0.returnOut hx hret (hb hby d43_37) hr
theorem d44_0 : DK kc0 0 (.iload_n 0) 1 := by decide +kernel
theorem d44_1 : DK kc0 1 (.iload_n 1) 1 := by decide +kernel
theorem d44_2 : DK kc0 2 (.if_icmp .gt 7) 3 := by decide +kernel
theorem d44_9 : DK kc0 9 (.iload_n 1) 1 := by decide +kernel
theorem d44_10 : DK kc0 10 .ireturn 1 := by decide +kernel
theorem own_ef_rm_mnl (m : MethodId) (x0 : Int32) (x1 : Int32) : entryFrame m #[(.int x0), (.int x1)] 2 = mkF m 0 #[vi x0, vi x1] [] := by first | (simp [entryFrame, mkF, argsToLocals, Value.category]; done) | rfl
def Q_rm_mnl (Z : State) (x : Int32) (y : Int32) (h0 : Heap) (n0 : Nat) (v : Option Value) (h : Heap) (L : List Loc) : Prop := v = some (.int y) ∧ Fr n0 L ∧ h = h0
theorem rm_mnl (l : Launch) (Z : State) (a0 : Array Value) (hw : HW a0 Z) (ws : List Jvm.Cond) (x : Int32) (y : Int32) (h0 : Heap) (n0 : Nat) (Z0 : n0 ≤ h0.size) (hlt : y < x) :
  Met l Z mN44 jdk_29_method_69_code 2 (some .int) ({ frames := 0, cells := 0, slots := 0, locals := 0 } : Room) ws #[(.int x), (.int y)] h0 (Q_rm_mnl Z x y h0 n0) := by
 refine own_met (Jvm.Free.JP.mathPlain rfl (by decide +kernel)) ?_
 intro p e s m below meth c s₁ hret hx hby hlk hml hown hnm X0 e0 hZ hh
 have N0 := Fr.nil n0
 refine Gz (castTop (own_ef_rm_mnl m x y)) ?_
 show GG (fT s₁ m 0 #[vi x, vi y] [])
 refine gN X0 hx hby d44_0 rfl rfl ?_
 refine gN X0 hx hby d44_1 rfl rfl ?_
 refine gY X0 hx hby d44_2 2 9 (tlt hlt).2.2.1 ?_
 refine gN X0 hx hby d44_9 rfl rfl ?_
 refine Goes.ret X0 (some (.int y)) (fun h => by rw [hret] at h; cases h) hlk (by decide) (by decide) ?_ (fun fs hr => ?_)
 ·exact ⟨rfl, N0, e0⟩
 ·exact retI X0 hx hret (hb hby d44_10) hr
theorem d45_0 : DK kc37 0 (.iload_n 1) 1 := by decide +kernel
theorem d45_1 : DK kc37 1 (.iload_n 2) 1 := by decide +kernel
theorem d45_2 : DK kc37 2 (.invokestatic 343) 3 := by decide +kernel
theorem d45_5 : DK kc37 5 (.iload_n 2) 1 := by decide +kernel
theorem d45_6 : DK kc37 6 (.iload_n 1) 1 := by decide +kernel
theorem d45_7 : DK kc37 7 .isub 1 := by decide +kernel
theorem d45_8 : DK kc37 8 (.istore_n 3) 1 := by decide +kernel
theorem d45_9 : DK kc37 9 (.iload_n 3) 1 := by decide +kernel
theorem d45_10 : DK kc37 10 (.newarray .byte) 2 := by decide +kernel
theorem d45_12 : DK kc37 12 (.astore 4) 2 := by decide +kernel
theorem d45_14 : DK kc37 14 (.aload_n 0) 1 := by decide +kernel
theorem d45_15 : DK kc37 15 (.iload_n 1) 1 := by decide +kernel
theorem d45_16 : DK kc37 16 (.aload 4) 2 := by decide +kernel
theorem d45_18 : DK kc37 18 (.iconst 0) 1 := by decide +kernel
theorem d45_19 : DK kc37 19 (.aload_n 0) 1 := by decide +kernel
theorem d45_20 : DK kc37 20 .arraylength 1 := by decide +kernel
theorem d45_21 : DK kc37 21 (.iload_n 1) 1 := by decide +kernel
theorem d45_22 : DK kc37 22 .isub 1 := by decide +kernel
theorem d45_23 : DK kc37 23 (.iload_n 3) 1 := by decide +kernel
theorem d45_24 : DK kc37 24 (.invokestatic 304) 3 := by decide +kernel
theorem own_pd29 : parseMethodDescriptor "(II)I" = some ⟨[.int, .int], some .int⟩ := by decide +kernel
theorem d45_27 : DK kc37 27 (.invokestatic 150) 3 := by decide +kernel
theorem d45_30 : DK kc37 30 (.aload 4) 2 := by decide +kernel
theorem d45_32 : DK kc37 32 .areturn 1 := by decide +kernel
theorem own_ef_rm_crb (m : MethodId) (x0 : Addr) (x2 : Int32) : entryFrame m #[(.ref x0), (.int 0), (.int x2)] 5 = mkF m 0 #[vr x0, vi 0, vi x2, vu, vu] [] := by first | (simp [entryFrame, mkF, argsToLocals, Value.category]; done) | rfl
def Q_rm_crb (Z : State) (b : Addr) (kb : ClassId) (vs : List Value) (cn : Nat) (z : Int32) (h0 : Heap) (n0 : Nat) (v : Option Value) (h : Heap) (L : List Loc) : Prop := ∃ y : Addr, ∃ ky : ClassId, v = some (.ref y) ∧ Fr n0 L ∧ Keep h0 h [] ∧ Arv Z h y ky .byte (Int32.ofNat cn) vs (.int 0) ∧ n0 ≤ y ∧ h0.size ≤ y
theorem rm_crb (l : Launch) (Z : State) (a0 : Array Value) (hw : HW a0 Z) (ws : List Jvm.Cond) (b : Addr) (kb : ClassId) (vs : List Value) (cn : Nat) (z : Int32) (h0 : Heap) (n0 : Nat) (Z0 : n0 ≤ h0.size) (V_b : Arv Z h0 b kb .byte z vs (.int 0)) (hcn : cn = vs.length) (hlt : cn < z.toNatClampNeg) (hz : z.toNatClampNeg ≤ 32) :
  Met l Z mN45 jdk_65_method_133_code 5 (some (.array .byte)) ({ frames := 1, cells := 1, slots := 32, locals := 18 } : Room) ws #[(.ref b), (.int 0), (.int (Int32.ofNat cn))] h0 (Q_rm_crb Z b kb vs cn z h0 n0) := by
 refine own_met (plainFor_of_name own_pn6) ?_
 intro p e s m below meth c s₁ hret hx hby hlk hml hown hnm X0 e0 hZ hh
 have N0 := Fr.nil n0
 refine Gz (castTop (own_ef_rm_crb m b (Int32.ofNat cn))) ?_
 have KP : Keep h0 h0 [] := Keep.refl _ _
 show GG (fT s₁ m 0 #[vr b, vi 0, vi (Int32.ofNat cn), vu, vu] [])
 have oc := own_tnO (n := cn) (by omega)
 have hltz := own_ltZ (own_nz V_b) hlt (by omega)
 have tn0 : (0 : Int32).toNatClampNeg = 0 := by decide
 refine gN X0 hx hby d45_0 rfl rfl ?_
 refine gN X0 hx hby d45_1 rfl rfl ?_
 refine cS X0 hx hZ hw hown hby hml e0 mN43 111 112 113 106 0 (rm_ckl l Z a0 hw [] (0 : Int32) (Int32.ofNat cn) h0 n0 Z0 oc.2.1) d45_2 (lenOf own_pd2 rfl) N0 (fun T1 L1 X1 e1 N1 => ?_)
 show GG (fT T1 m 5 #[vr b, vi 0, vi (Int32.ofNat cn), vu, vu] [])
 refine gN X1 hx hby d45_5 rfl rfl ?_
 refine gN X1 hx hby d45_6 rfl rfl ?_
 show GG (fT T1 m 7 #[vr b, vi 0, vi (Int32.ofNat cn), vu, vu] [(.int 0), (.int (Int32.ofNat cn))])
 refine Gz (XS.isub X1.here hx rfl (hb hby d45_7) rfl) ?_
 show GG (fT T1 m 8 #[vr b, vi 0, vi (Int32.ofNat cn), vu, vu] [(.int ((Int32.ofNat cn) - 0))])
 rw [Int32.sub_zero]
 show GG (fT T1 m 8 #[vr b, vi 0, vi (Int32.ofNat cn), vu, vu] [(.int (Int32.ofNat cn))])
 refine gs X1 hx hby d45_8 #[vr b, vi 0, vi (Int32.ofNat cn), vi (Int32.ofNat cn), vu] ?_
 refine gN X1 hx hby d45_9 rfl rfl ?_
 obtain ⟨T2, h2, k2, X2, e2, E2, A2, st2⟩ := newP X1 hx hZ (gw hw 22 rfl) e1 (g := (mkF m 10 #[vr b, vi 0, vi (Int32.ofNat cn), vi (Int32.ofNat cn), vu] [(.int (Int32.ofNat cn))])) rfl (hb hby d45_10) rfl oc.2.1 (cap := 32) (by rw [oc.1]; omega) (by decide) (by decide) (by decide)
 obtain ⟨b2, gq2⟩ : ∃ z, z = h0.size := ⟨_, rfl⟩
 rw [← gq2] at A2 st2
 have g_b2 : n0 ≤ b2 := by rw [gq2]; exact Z0
 have sz_b2 : h0.size ≤ b2 := by rw [gq2]; exact KP.1
 have ne_b_b2 : b ≠ b2 := by rw [gq2]; exact Nat.ne_of_lt V_b.lt
 replace V_b := V_b.ext E2
 replace KP := KP.ext E2
 replace Z0 : n0 ≤ h2.size := Nat.le_trans Z0 E2.1
 have V_b2 : Arv Z h2 b2 k2 .byte (Int32.ofNat cn) [] (.int 0) := Arv.new A2 oc.2.1
 refine Gs st2 ?_
 show GG (fT T2 m 12 #[vr b, vi 0, vi (Int32.ofNat cn), vi (Int32.ofNat cn), vu] [(.ref b2)])
 refine Gz (XS.astore X2.here hx rfl (hb hby d45_12) rfl rfl (l' := #[vr b, vi 0, vi (Int32.ofNat cn), vi (Int32.ofNat cn), vr b2]) rfl) ?_
 refine gA X2 hx hby d45_14 rfl rfl rfl ?_
 refine gN X2 hx hby d45_15 rfl rfl ?_
 refine Gz (XS.aload X2.here hx rfl (hb hby d45_16) rfl rfl) ?_
 refine gC X2 hx hby d45_18 ?_
 refine gA X2 hx hby d45_19 rfl rfl rfl ?_
 show GG (fT T2 m 20 #[vr b, vi 0, vi (Int32.ofNat cn), vi (Int32.ofNat cn), vr b2] [(.ref b), (.int 0), (.ref b2), (.int 0), (.ref b)])
 obtain ⟨cl3, Ar3, -, S3, N3z, -, -⟩ := id V_b
 refine Gs (fun _ tk => X2.arraylength hx (by rw [e2]; exact Ar3.1) (State.isArrayOf_alike hZ.alike Ar3.2.1) (g := (mkF m 20 #[vr b, vi 0, vi (Int32.ofNat cn), vi (Int32.ofNat cn), vr b2] [(.ref b), (.int 0), (.ref b2), (.int 0), (.ref b)])) rfl rfl (hb hby d45_20) _ tk) ?_
 rw [len_of S3 N3z]
 show GG (fT T2 m 21 #[vr b, vi 0, vi (Int32.ofNat cn), vi (Int32.ofNat cn), vr b2] [(.int z), (.int 0), (.ref b2), (.int 0), (.ref b)])
 refine gN X2 hx hby d45_21 rfl rfl ?_
 show GG (fT T2 m 22 #[vr b, vi 0, vi (Int32.ofNat cn), vi (Int32.ofNat cn), vr b2] [(.int 0), (.int z), (.int 0), (.ref b2), (.int 0), (.ref b)])
 refine Gz (XS.isub X2.here hx rfl (hb hby d45_22) rfl) ?_
 show GG (fT T2 m 23 #[vr b, vi 0, vi (Int32.ofNat cn), vi (Int32.ofNat cn), vr b2] [(.int (z - 0)), (.int 0), (.ref b2), (.int 0), (.ref b)])
 rw [Int32.sub_zero]
 show GG (fT T2 m 23 #[vr b, vi 0, vi (Int32.ofNat cn), vi (Int32.ofNat cn), vr b2] [(.int z), (.int 0), (.ref b2), (.int 0), (.ref b)])
 refine gN X2 hx hby d45_23 rfl rfl ?_
 refine cS X2 hx hZ hw hown hby hml e2 mN44 114 115 117 116 4 (rm_mnl l Z a0 hw [] z (Int32.ofNat cn) h2 n0 Z0 hltz) d45_24 (lenOf own_pd29 rfl) N1 (fun T4 L4 X4 e4 N4 => ?_)
 show GG (fT T4 m 27 #[vr b, vi 0, vi (Int32.ofNat cn), vi (Int32.ofNat cn), vr b2] [(.int (Int32.ofNat cn)), (.int 0), (.ref b2), (.int 0), (.ref b)])
 replace V_b2 := own_padN V_b2 cn
 rw [List.nil_append] at V_b2
 obtain ⟨T5, h5, L5, X5, e5, N5, K5, Vn5, st5⟩ := cpA X4 hx hZ hown (gw hw 118 rfl) (gw hw 121 rfl) (gw hw 119 rfl) (gw hw 120 rfl) e4 V_b V_b2 (us := vs) (Or.inl ⟨rfl, rfl⟩) (by decide) (by decide) oc.2.1 (by rw [tn0, oc.1]; omega) (by rw [tn0, oc.1]; omega) (by rw [tn0, oc.1, hcn]; exact own_rgV vs _) (by rw [tn0, oc.1, List.length_replicate]; omega) N4 g_b2 (g := (mkF m 27 #[vr b, vi 0, vi (Int32.ofNat cn), vi (Int32.ofNat cn), vr b2] [(.int (Int32.ofNat cn)), (.int 0), (.ref b2), (.int 0), (.ref b)])) rfl hml.symm rfl (hb hby d45_27) (by decide) (W := 0) (wz rfl) (by decide)
 replace KP := KP.trans K5 (allS (Or.inr sz_b2) all0)
 replace Z0 := Nat.le_trans Z0 K5.1
 have V_b2 : Arv Z h5 b2 _ .byte (Int32.ofNat cn) vs (.int 0) := own_arvE Vn5 (by rw [tn0, oc.1]; exact own_cpV vs hcn)
 refine Gs st5 ?_
 show GG (fT T5 m 30 #[vr b, vi 0, vi (Int32.ofNat cn), vi (Int32.ofNat cn), vr b2] [])
 refine Gz (XS.aload X5.here hx rfl (hb hby d45_30) rfl rfl) ?_
 refine Goes.ret X5 (some (.ref b2)) (fun h => by rw [hret] at h; cases h) hlk (by decide) (by decide) ?_ (fun fs hr => ?_)
 ·rw [e5]; exact ⟨b2, k2, rfl, N5, KP, V_b2, g_b2, sz_b2⟩
 ·exact own_retA X5 hx hret rfl rfl (hb hby d45_32) hr
theorem d46_0 : DK kc36 0 (.iload_n 1) 1 := by decide +kernel
theorem d46_1 : DK kc36 1 (.ifCond .ne 9) 3 := by decide +kernel
theorem d46_4 : DK kc36 4 (.iload_n 2) 1 := by decide +kernel
theorem d46_5 : DK kc36 5 (.aload_n 0) 1 := by decide +kernel
theorem d46_6 : DK kc36 6 .arraylength 1 := by decide +kernel
theorem d46_7 : DK kc36 7 (.if_icmp .eq 10) 3 := by decide +kernel
theorem d46_10 : DK kc36 10 (.aload_n 0) 1 := by decide +kernel
theorem d46_11 : DK kc36 11 (.iload_n 1) 1 := by decide +kernel
theorem d46_12 : DK kc36 12 (.iload_n 2) 1 := by decide +kernel
theorem d46_13 : DK kc36 13 (.invokestatic 339) 3 := by decide +kernel
theorem own_pd30 : parseMethodDescriptor "([BII)[B" = some ⟨[(.array .byte), .int, .int], some (.array .byte)⟩ := by decide +kernel
theorem d46_16 : DK kc36 16 .areturn 1 := by decide +kernel
theorem own_ef_rm_cor (m : MethodId) (x0 : Addr) (x2 : Int32) : entryFrame m #[(.ref x0), (.int 0), (.int x2)] 3 = mkF m 0 #[vr x0, vi 0, vi x2] [] := by first | (simp [entryFrame, mkF, argsToLocals, Value.category]; done) | rfl
def Q_rm_cor (Z : State) (b : Addr) (kb : ClassId) (vs : List Value) (cn : Nat) (z : Int32) (h0 : Heap) (n0 : Nat) (v : Option Value) (h : Heap) (L : List Loc) : Prop := ∃ y : Addr, ∃ ky : ClassId, v = some (.ref y) ∧ Fr n0 L ∧ Keep h0 h [] ∧ Arv Z h y ky .byte (Int32.ofNat cn) vs (.int 0) ∧ n0 ≤ y ∧ h0.size ≤ y
theorem rm_cor (l : Launch) (Z : State) (a0 : Array Value) (hw : HW a0 Z) (ws : List Jvm.Cond) (b : Addr) (kb : ClassId) (vs : List Value) (cn : Nat) (z : Int32) (h0 : Heap) (n0 : Nat) (Z0 : n0 ≤ h0.size) (V_b : Arv Z h0 b kb .byte z vs (.int 0)) (hcn : cn = vs.length) (hlt : cn < z.toNatClampNeg) (hz : z.toNatClampNeg ≤ 32) :
  Met l Z mN46 jdk_65_method_132_code 3 (some (.array .byte)) ({ frames := 2, cells := 1, slots := 32, locals := 34 } : Room) ws #[(.ref b), (.int 0), (.int (Int32.ofNat cn))] h0 (Q_rm_cor Z b kb vs cn z h0 n0) := by
 refine own_met (plainFor_of_name own_pn6) ?_
 intro p e s m below meth c s₁ hret hx hby hlk hml hown hnm X0 e0 hZ hh
 have N0 := Fr.nil n0
 refine Gz (castTop (own_ef_rm_cor m b (Int32.ofNat cn))) ?_
 have KP : Keep h0 h0 [] := Keep.refl _ _
 show GG (fT s₁ m 0 #[vr b, vi 0, vi (Int32.ofNat cn)] [])
 have hltz := own_neZ (own_ltZ (own_nz V_b) hlt (by omega))
 refine gN X0 hx hby d46_0 rfl rfl ?_
 refine gu X0 hx hby d46_1 ((if0 _ _).trans (teq (by decide : ((0 : Int32) = (0 : Int32)))).2) ?_
 refine gN X0 hx hby d46_4 rfl rfl ?_
 refine gA X0 hx hby d46_5 rfl rfl rfl ?_
 obtain ⟨cl1, Ar1, -, S1, N1z, -, -⟩ := id V_b
 refine Gs (fun _ tk => X0.arraylength hx (by rw [e0]; exact Ar1.1) (State.isArrayOf_alike hZ.alike Ar1.2.1) (g := (mkF m 6 #[vr b, vi 0, vi (Int32.ofNat cn)] [(.ref b), (.int (Int32.ofNat cn))])) rfl rfl (hb hby d46_6) _ tk) ?_
 rw [len_of S1 N1z]
 show GG (fT s₁ m 7 #[vr b, vi 0, vi (Int32.ofNat cn)] [(.int z), (.int (Int32.ofNat cn))])
 refine gU X0 hx hby d46_7 (feq hltz).1 ?_
 refine gA X0 hx hby d46_10 rfl rfl rfl ?_
 refine gN X0 hx hby d46_11 rfl rfl ?_
 refine gN X0 hx hby d46_12 rfl rfl ?_
 have ltc2_b : b < h0.size := V_b.lt
 have szs2 : h0.size ≤ h0.size := KP.1
 refine cSg X0 hx hZ hw hown hby hml e0 mN45 108 109 110 106 0 (rm_crb l Z a0 hw [] b kb vs cn z h0 n0 Z0 V_b hcn hlt hz) d46_13 (lenOf own_pd30 rfl) (fun _ T2 L2 X2 hQ2 => ?_)
 obtain ⟨y2, ky2, rfl, N2q, K2, V_y2_2', g_y2_2', sz_y2_2'⟩ := hQ2
 have N2 := Fr.app N0 N2q
 replace KP := KP.trans K2 all0
 replace Z0 := Nat.le_trans Z0 K2.1
 have V_y2 := V_y2_2'
 have g_y2 := g_y2_2'
 have szc_y2 := sz_y2_2'
 have ne_b_y2 : b ≠ y2 := Nat.ne_of_lt (Nat.lt_of_lt_of_le ltc2_b szc_y2)
 have sz_y2 : h0.size ≤ y2 := Nat.le_trans szs2 szc_y2
 show GG (fT T2 m 16 #[vr b, vi 0, vi (Int32.ofNat cn)] [(.ref y2)])
 refine Goes.ret X2 (some (.ref y2)) (fun h => by rw [hret] at h; cases h) hlk (by decide) (by decide) ?_ (fun fs hr => ?_)
 ·exact ⟨y2, ky2, rfl, N2, KP, V_y2, g_y2, sz_y2⟩
 ·exact own_retA X2 hx hret rfl rfl (hb hby d46_16) hr
theorem d47_0 : DK kc47 0 (.aload_n 0) 1 := by decide +kernel
theorem d47_1 : DK kc47 1 (.getfield 15) 3 := by decide +kernel
theorem d47_4 : DK kc47 4 .areturn 1 := by decide +kernel
theorem own_ef_rm_gv (m : MethodId) (x0 : Addr) : entryFrame m #[(.ref x0)] 1 = mkF m 0 #[vr x0] [] := by first | (simp [entryFrame, mkF, argsToLocals, Value.category]; done) | rfl
def Q_rm_gv (Z : State) (a : Addr) (b : Addr) (h0 : Heap) (n0 : Nat) (v : Option Value) (h : Heap) (L : List Loc) : Prop := v = some (.ref b) ∧ Fr n0 L ∧ h = h0
theorem rm_gv (l : Launch) (Z : State) (a0 : Array Value) (hw : HW a0 Z) (ws : List Jvm.Cond) (a : Addr) (b : Addr) (h0 : Heap) (n0 : Nat) (Z0 : n0 ≤ h0.size) (F_value_a : Fld Z h0 a "java/lang/AbstractStringBuilder" "value" "[B" (.ref b)) :
  Met l Z mN47 jdk_68_method_64_code 1 (some (.array .byte)) ({ frames := 0, cells := 0, slots := 0, locals := 0 } : Room) ws #[(.ref a)] h0 (Q_rm_gv Z a b h0 n0) := by
 refine own_met (plainFor_of_name own_pn4) ?_
 intro p e s m below meth c s₁ hret hx hby hlk hml hown hnm X0 e0 hZ hh
 have N0 := Fr.nil n0
 refine Gz (castTop (own_ef_rm_gv m a)) ?_
 show GG (fT s₁ m 0 #[vr a] [])
 refine gA X0 hx hby d47_0 rfl rfl rfl ?_
 obtain ⟨T1, X1, e1, st1⟩ := getF X0 hx hZ hown (host := "") (Or.inl (gw hw 48 rfl)) Via.refl e0 F_value_a (g := (mkF m 1 #[vr a] [(.ref a)])) rfl rfl (hb hby d47_1)
 refine Gs st1 ?_
 show GG (fT T1 m 4 #[vr a] [(.ref b)])
 refine Goes.ret X1 (some (.ref b)) (fun h => by rw [hret] at h; cases h) hlk (by decide) (by decide) ?_ (fun fs hr => ?_)
 ·exact ⟨rfl, N0, e1⟩
 ·exact own_retA X1 hx hret rfl rfl (hb hby d47_4) hr
theorem d48_0 : DK kc49 0 (.aload_n 0) 1 := by decide +kernel
theorem d48_1 : DK kc49 1 (.getfield 79) 3 := by decide +kernel
theorem d48_4 : DK kc49 4 .ireturn 1 := by decide +kernel
theorem own_ef_rm_al (m : MethodId) (x0 : Addr) : entryFrame m #[(.ref x0)] 1 = mkF m 0 #[vr x0] [] := by first | (simp [entryFrame, mkF, argsToLocals, Value.category]; done) | rfl
def Q_rm_al (Z : State) (a : Addr) (ys : List Int32) (h0 : Heap) (n0 : Nat) (v : Option Value) (h : Heap) (L : List Loc) : Prop := v = some (.int (Int32.ofNat ys.length)) ∧ Fr n0 L ∧ h = h0
theorem rm_al (l : Launch) (Z : State) (a0 : Array Value) (hw : HW a0 Z) (ws : List Jvm.Cond) (a : Addr) (ys : List Int32) (h0 : Heap) (n0 : Nat) (Z0 : n0 ≤ h0.size) (F_count_a : Fld Z h0 a "java/lang/AbstractStringBuilder" "count" "I" (.int (Int32.ofNat ys.length))) :
  Met l Z mN48 jdk_68_method_6_code 1 (some .int) ({ frames := 0, cells := 0, slots := 0, locals := 0 } : Room) ws #[(.ref a)] h0 (Q_rm_al Z a ys h0 n0) := by
 refine own_met (plainFor_of_name own_pn4) ?_
 intro p e s m below meth c s₁ hret hx hby hlk hml hown hnm X0 e0 hZ hh
 have N0 := Fr.nil n0
 refine Gz (castTop (own_ef_rm_al m a)) ?_
 show GG (fT s₁ m 0 #[vr a] [])
 refine gA X0 hx hby d48_0 rfl rfl rfl ?_
 obtain ⟨T1, X1, e1, st1⟩ := getF X0 hx hZ hown (host := "") (Or.inl (gw hw 62 rfl)) Via.refl e0 F_count_a (g := (mkF m 1 #[vr a] [(.ref a)])) rfl rfl (hb hby d48_1)
 refine Gs st1 ?_
 show GG (fT T1 m 4 #[vr a] [(.int (Int32.ofNat ys.length))])
 refine Goes.ret X1 (some (.int (Int32.ofNat ys.length))) (fun h => by rw [hret] at h; cases h) hlk (by decide) (by decide) ?_ (fun fs hr => ?_)
 ·exact ⟨rfl, N0, e1⟩
 ·exact retI X1 hx hret (hb hby d48_4) hr
theorem d49_0 : DK kc42 0 (.aload_n 0) 1 := by decide +kernel
theorem d49_1 : DK kc42 1 (.invokespecial 343) 3 := by decide +kernel
theorem d49_4 : DK kc42 4 .ireturn 1 := by decide +kernel
theorem own_ef_rm_sl (m : MethodId) (x0 : Addr) : entryFrame m #[(.ref x0)] 1 = mkF m 0 #[vr x0] [] := by first | (simp [entryFrame, mkF, argsToLocals, Value.category]; done) | rfl
def Q_rm_sl (Z : State) (a : Addr) (ys : List Int32) (h0 : Heap) (n0 : Nat) (v : Option Value) (h : Heap) (L : List Loc) : Prop := v = some (.int (Int32.ofNat ys.length)) ∧ Fr n0 L ∧ h = h0
theorem rm_sl (l : Launch) (Z : State) (a0 : Array Value) (hw : HW a0 Z) (ws : List Jvm.Cond) (a : Addr) (ys : List Int32) (h0 : Heap) (n0 : Nat) (Z0 : n0 ≤ h0.size) (A_a : Exa Z h0 a "java/lang/StringBuilder") (F_count_a : Fld Z h0 a "java/lang/AbstractStringBuilder" "count" "I" (.int (Int32.ofNat ys.length))) :
  Met l Z mN49 jdk_67_method_93_code 1 (some .int) ({ frames := 1, cells := 0, slots := 0, locals := 12 } : Room) ws #[(.ref a)] h0 (Q_rm_sl Z a ys h0 n0) := by
 refine own_met (plainFor_of_name own_pn5) ?_
 intro p e s m below meth c s₁ hret hx hby hlk hml hown hnm X0 e0 hZ hh
 have N0 := Fr.nil n0
 refine Gz (castTop (own_ef_rm_sl m a)) ?_
 show GG (fT s₁ m 0 #[vr a] [])
 refine gA X0 hx hby d49_0 rfl rfl rfl ?_
 obtain ⟨_, _, ⟨T1, L1, k1, n1⟩, -, X1, ⟨Lc1, hQ1, l1, y1, z1⟩, st1⟩ := superBack X0 hx hZ (K := "java/lang/StringBuilder") (y := mN48) hown (gw hw 101 rfl) (own_sameM (gw hw 97 rfl) (gw hw 67 rfl) (by decide)) (gw hw 97 rfl) (gw hw 59 rfl) (by decide) (backOf (W := 0) (rm_al l Z a0 hw [] a ys h0 n0 Z0 F_count_a) hZ (gw hw 102 rfl) (gw hw 44 rfl) (by decide) (by decide)) e0 (Ins.self A_a) (g := (mkF m 1 #[vr a] [(.ref a)])) rfl hml.symm (gw hw 102 rfl) (argsL := []) (rest := []) (lenOf own_pd26 rfl) rfl (wz rfl) (hb hby d49_1) (fun _ _ => ⟨rfl, e0, z0, z0⟩)
 dsimp only [Pt.U, Pt.locs, Pt.cells, Pt.slots] at X1 l1 y1 z1 st1 hQ1
 subst l1 y1 z1
 obtain ⟨rfl, N1q, e1⟩ := hQ1
 have N1 := Fr.app N0 N1q
 refine Gs (fun _ tk => st1.trans tk) ?_
 show GG (fT T1 m 4 #[vr a] [(.int (Int32.ofNat ys.length))])
 refine Goes.ret X1 (some (.int (Int32.ofNat ys.length))) (fun h => by rw [hret] at h; cases h) hlk (by decide) (by decide) ?_ (fun fs hr => ?_)
 ·exact ⟨rfl, N1, e1⟩
 ·exact retI X1 hx hret (hb hby d49_4) hr
theorem d50_0 : DK kc6 0 (.aload_n 0) 1 := by decide +kernel
theorem d50_1 : DK kc6 1 (.invokespecial 1) 3 := by decide +kernel
theorem d50_4 : DK kc6 4 (.aload_n 1) 1 := by decide +kernel
theorem d50_5 : DK kc6 5 (.invokevirtual 552) 3 := by decide +kernel
theorem own_pd31 : parseMethodDescriptor "()[B" = some ⟨[], some (.array .byte)⟩ := by decide +kernel
theorem d50_8 : DK kc6 8 (.astore_n 3) 1 := by decide +kernel
theorem d50_9 : DK kc6 9 (.aload_n 1) 1 := by decide +kernel
theorem d50_10 : DK kc6 10 (.invokevirtual 549) 3 := by decide +kernel
theorem d50_13 : DK kc6 13 (.istore 4) 2 := by decide +kernel
theorem d50_15 : DK kc6 15 (.aload_n 1) 1 := by decide +kernel
theorem d50_16 : DK kc6 16 (.invokevirtual 1047) 3 := by decide +kernel
theorem d50_19 : DK kc6 19 (.ifCond .eq 22) 3 := by decide +kernel
theorem d50_22 : DK kc6 22 (.aload_n 0) 1 := by decide +kernel
theorem d50_23 : DK kc6 23 (.iconst 0) 1 := by decide +kernel
theorem d50_24 : DK kc6 24 (.putfield 15) 3 := by decide +kernel
theorem d50_27 : DK kc6 27 (.aload_n 0) 1 := by decide +kernel
theorem d50_28 : DK kc6 28 (.aload_n 3) 1 := by decide +kernel
theorem d50_29 : DK kc6 29 (.iconst 0) 1 := by decide +kernel
theorem d50_30 : DK kc6 30 (.iload 4) 2 := by decide +kernel
theorem d50_32 : DK kc6 32 (.invokestatic 54) 3 := by decide +kernel
theorem d50_35 : DK kc6 35 (.putfield 9) 3 := by decide +kernel
theorem d50_38 : DK kc6 38 (.goto 59) 3 := by decide +kernel
theorem d50_97 : DK kc6 97 .return_ 1 := by decide +kernel
theorem own_ef_rm_tsi0 (m : MethodId) (x0 : Addr) (x1 : Addr) : entryFrame m #[(.ref x0), (.ref x1), .null] 5 = mkF m 0 #[vr x0, vr x1, .val .null, vu, vu] [] := by first | (simp [entryFrame, mkF, argsToLocals, Value.category]; done) | rfl
def Q_rm_tsi0 (Z : State) (u : Addr) (a : Addr) (b : Addr) (kb : ClassId) (ys : List Int32) (cz : Int32) (h0 : Heap) (n0 : Nat) (v : Option Value) (h : Heap) (L : List Loc) : Prop := v = none ∧ Fr n0 L ∧ Keep h0 h [u] ∧ StrOf Z h u ys
theorem rm_tsi0 (l : Launch) (Z : State) (a0 : Array Value) (hw : HW a0 Z) (ws : List Jvm.Cond) (u : Addr) (a : Addr) (b : Addr) (kb : ClassId) (ys : List Int32) (cz : Int32) (h0 : Heap) (n0 : Nat) (Z0 : n0 ≤ h0.size) (A_u : Exa Z h0 u "java/lang/String") (F_value_u : Fld Z h0 u "java/lang/String" "value" "[B" .null) (F_coder_u : Fld Z h0 u "java/lang/String" "coder" "B" (.int 0)) (g_u : n0 ≤ u) (A_a : Exa Z h0 a "java/lang/StringBuilder") (F_value_a : Fld Z h0 a "java/lang/AbstractStringBuilder" "value" "[B" (.ref b)) (F_count_a : Fld Z h0 a "java/lang/AbstractStringBuilder" "count" "I" (.int (Int32.ofNat ys.length))) (F_maybeLatin1_a : Fld Z h0 a "java/lang/AbstractStringBuilder" "maybeLatin1" "Z" (.int 0)) (F_coder_a : Fld Z h0 a "java/lang/AbstractStringBuilder" "coder" "B" (.int 0)) (V_b : Arv Z h0 b kb .byte 16 (latV ys) (.int 0)) (h15 : ys.length ≤ 15) (hall : ∀ c ∈ ys, Lat c) (sgC : Sta Z h0 "java/lang/String" "COMPACT_STRINGS" "Z" (.int cz)) (hcz : ¬ (cz = 0)) (ne_a_u : a ≠ u) (ne_b_u : b ≠ u) :
  Met l Z mN50 jdk_42_method_150_code 5 none ({ frames := 3, cells := 1, slots := 32, locals := 49 } : Room) ws #[(.ref u), (.ref a), .null] h0 (Q_rm_tsi0 Z u a b kb ys cz h0 n0) := by
 refine own_met (plainFor_of_name own_pn0) ?_
 intro p e s m below meth c s₁ hret hx hby hlk hml hown hnm X0 e0 hZ hh
 have N0 := Fr.nil n0
 refine Gz (castTop (own_ef_rm_tsi0 m u a)) ?_
 have KP : Keep h0 h0 [u] := Keep.refl _ _
 show GG (fT s₁ m 0 #[vr u, vr a, .val .null, vu, vu] [])
 refine gA X0 hx hby d50_0 rfl rfl rfl ?_
 obtain ⟨T1, X1, e1, st1⟩ := initO X0 hx hZ hown (gw hw 18 rfl) (gw hw 19 rfl) (gw hw 20 rfl) e0 (g := (mkF m 1 #[vr u, vr a, .val .null, vu, vu] [(.ref u)])) rfl hml.symm rfl (hb hby d50_1) (by decide) (W := 0) (wz rfl) (by decide)
 refine Gs st1 ?_
 show GG (fT T1 m 4 #[vr u, vr a, .val .null, vu, vu] [])
 refine gA X1 hx hby d50_4 rfl rfl rfl ?_
 refine cV X1 hx hZ hw hown hby hml e1 mN47 90 91 93 92 94 44 0 (rm_gv l Z a0 hw [] a b h0 n0 Z0 F_value_a) A_a d50_5 (lenOf own_pd31 rfl) N0 (fun T2 L2 X2 e2 N2 => ?_)
 show GG (fT T2 m 8 #[vr u, vr a, .val .null, vu, vu] [(.ref b)])
 refine Gz (XS.astoreN X2.here hx rfl (hb hby d50_8) rfl rfl (l' := #[vr u, vr a, .val .null, vr b, vu]) rfl) ?_
 refine gA X2 hx hby d50_9 rfl rfl rfl ?_
 obtain ⟨cq3, kq3, q3a, q3b, q3c⟩ := isOf hZ e2 A_a
 obtain ⟨_, _, ⟨T3, L3, k3, n3⟩, -, X3, ⟨Lc3, hQ3, l3, y3, z3⟩, st3⟩ := X2.virtualBack hx (y := mN48) (z := mN49) hown (gz hZ hw 95 rfl) (gz hZ hw 96 rfl) (own_nf2 (mvT hZ (gw hw 67 rfl) (args := #[]))) (gz hZ hw 98 rfl) (gz hZ hw 99 rfl) (by decide) (backOf (W := 0) (rm_sl l Z a0 hw [] a ys h0 n0 Z0 A_a F_count_a) hZ (gw hw 100 rfl) (gw hw 36 rfl) (by decide) (by decide)) q3a q3c (g := (mkF m 10 #[vr u, vr a, .val .null, vr b, vu] [(.ref a)])) rfl hml.symm (Steps.refl _) (argsL := []) (rest := []) (lenOf own_pd26 rfl) rfl (wz rfl) (hb hby d50_10) (fun _ _ => ⟨rfl, e2, z0, z0⟩)
 dsimp only [Pt.U, Pt.locs, Pt.cells, Pt.slots] at X3 l3 y3 z3 st3 hQ3
 subst l3 y3 z3
 obtain ⟨rfl, N3q, e3⟩ := hQ3
 have N3 := Fr.app N2 N3q
 refine Gs (fun _ tk => st3.trans tk) ?_
 show GG (fT T3 m 13 #[vr u, vr a, .val .null, vr b, vu] [(.int (Int32.ofNat ys.length))])
 refine gS X3 hx hby d50_13 #[vr u, vr a, .val .null, vr b, vi (Int32.ofNat ys.length)] ?_
 refine gA X3 hx hby d50_15 rfl rfl rfl ?_
 refine cV X3 hx hZ hw hown hby hml e3 mN27 103 70 72 71 73 44 0 (rm_isl0 l Z a0 hw [] a cz h0 n0 Z0 F_coder_a sgC hcz) A_a d50_16 (lenOf own_pd6 rfl) N3 (fun T4 L4 X4 e4 N4 => ?_)
 show GG (fT T4 m 19 #[vr u, vr a, .val .null, vr b, vi (Int32.ofNat ys.length)] [(.int 1)])
 refine gu X4 hx hby d50_19 ((if0 _ _).trans (feq (by decide : ¬ ((1 : Int32) = (0 : Int32)))).1) ?_
 refine gA X4 hx hby d50_22 rfl rfl rfl ?_
 refine gC X4 hx hby d50_23 ?_
 obtain ⟨T5, h5, X5, e5, W5, st5⟩ := putFN X4 hx hZ hown (gw hw 28 rfl) Via.refl e4 F_coder_u A_u (Or.inr ⟨(gw hw 24 rfl), rfl, hnm⟩) (gw hw 8 rfl) (ty := .byte) (v' := .int 0) (by decide) rfl rfl (g := (mkF m 24 #[vr u, vr a, .val .null, vr b, vi (Int32.ofNat ys.length)] [(.int 0), (.ref u)])) rfl rfl (hb hby d50_24)
 have N5 := Fr.snoc X5 N4 g_u
 replace A_u := A_u.wr W5
 replace F_value_u := F_value_u.other W5 (Or.inr (slot_ne (Or.inr (gw hw 23 rfl)) (Or.inr (gw hw 24 rfl)) (by decide) (t := (.array .byte)) (t' := .byte) (by decide) (by decide)))
 replace A_a := A_a.wr W5
 replace V_b := V_b.other W5 ne_b_u
 replace KP := KP.wr W5 (Or.inl (List.mem_of_getElem? (i := 0) rfl))
 replace F_coder_u := F_coder_u.same W5
 replace Z0 : n0 ≤ h5.size := by rw [W5.size]; exact Z0
 refine Gs st5 ?_
 show GG (fT T5 m 27 #[vr u, vr a, .val .null, vr b, vi (Int32.ofNat ys.length)] [])
 refine gA X5 hx hby d50_27 rfl rfl rfl ?_
 refine gA X5 hx hby d50_28 rfl rfl rfl ?_
 refine gC X5 hx hby d50_29 ?_
 refine gI X5 hx hby d50_30 rfl rfl ?_
 have ltc6_u : u < h5.size := A_u.lt
 have ltc6_a : a < h5.size := A_a.lt
 have ltc6_b : b < h5.size := V_b.lt
 refine cSg X5 hx hZ hw hown hby hml e5 mN46 104 105 107 106 1 (rm_cor l Z a0 hw [] b kb (latV ys) ys.length (16 : Int32) h5 n0 Z0 V_b (own_latLen ys).symm (by show ys.length < 16; omega) (by decide)) d50_32 (lenOf own_pd30 rfl) (fun _ T6 L6 X6 hQ6 => ?_)
 obtain ⟨y6, ky6, rfl, N6q, K6, V_y6_6', g_y6_6', sz_y6_6'⟩ := hQ6
 have N6 := Fr.app N5 N6q
 replace A_u := A_u.keep K6
 replace F_value_u := F_value_u.keep K6 nin0
 replace F_coder_u := F_coder_u.keep K6 nin0
 replace KP := KP.trans K6 all0
 replace Z0 := Nat.le_trans Z0 K6.1
 have V_y6 := V_y6_6'
 have g_y6 := g_y6_6'
 have szc_y6 := sz_y6_6'
 have ne_u_y6 : u ≠ y6 := Nat.ne_of_lt (Nat.lt_of_lt_of_le ltc6_u szc_y6)
 have ne_a_y6 : a ≠ y6 := Nat.ne_of_lt (Nat.lt_of_lt_of_le ltc6_a szc_y6)
 have ne_b_y6 : b ≠ y6 := Nat.ne_of_lt (Nat.lt_of_lt_of_le ltc6_b szc_y6)
 show GG (fT T6 m 35 #[vr u, vr a, .val .null, vr b, vi (Int32.ofNat ys.length)] [(.ref y6), (.ref u)])
 obtain ⟨T7, h7, X7, e7, W7, st7⟩ := putF X6 hx hZ hown (host := "") (Or.inl (gw hw 27 rfl)) Via.refl rfl F_value_u A_u (Or.inr ⟨(gw hw 23 rfl), rfl, hnm⟩) (gw hw 8 rfl) (ty := (.array .byte)) (by decide) rfl rfl (g := (mkF m 35 #[vr u, vr a, .val .null, vr b, vi (Int32.ofNat ys.length)] [(.ref y6), (.ref u)])) rfl rfl (hb hby d50_35)
 have N7 := Fr.snoc X7 N6 g_u
 replace A_u := A_u.wr W7
 replace F_coder_u := F_coder_u.other W7 (Or.inr (slot_ne (Or.inr (gw hw 24 rfl)) (Or.inr (gw hw 23 rfl)) (by decide) (t := .byte) (t' := (.array .byte)) (by decide) (by decide)))
 replace V_y6 := V_y6.other W7 (Ne.symm ne_u_y6)
 replace KP := KP.wr W7 (Or.inl (List.mem_of_getElem? (i := 0) rfl))
 replace F_value_u := F_value_u.same W7
 replace Z0 : n0 ≤ h7.size := by rw [W7.size]; exact Z0
 refine Gs st7 ?_
 show GG (fT T7 m 38 #[vr u, vr a, .val .null, vr b, vi (Int32.ofNat ys.length)] [])
 refine gG X7 hx hby d50_38 38 97 ?_
 have T_u : StrOf Z h7 u ys := StrOf.latin A_u F_value_u F_coder_u V_y6 hall rfl rfl (by omega)
 refine Goes.ret X7 none (fun _ => rfl) hlk (by decide) (by decide) ?_ (fun fs hr => ?_)
 ·rw [e7]; exact ⟨rfl, N7, KP, T_u⟩
 ·exact X7.returnOut hx hret (hb hby d50_97) hr
theorem d51_0 : DK kc13 0 (.aload_n 0) 1 := by decide +kernel
theorem d51_1 : DK kc13 1 (.aload_n 1) 1 := by decide +kernel
theorem d51_2 : DK kc13 2 .aconst_null 1 := by decide +kernel
theorem d51_3 : DK kc13 3 (.invokespecial 489) 3 := by decide +kernel
theorem own_pd32 : parseMethodDescriptor "(Ljava/lang/AbstractStringBuilder;Ljava/lang/Void;)V" = some ⟨[(.object "java/lang/AbstractStringBuilder"), (.object "java/lang/Void")], none⟩ := by decide +kernel
theorem d51_6 : DK kc13 6 .return_ 1 := by decide +kernel
theorem own_ef_rm_tss0 (m : MethodId) (x0 : Addr) (x1 : Addr) : entryFrame m #[(.ref x0), (.ref x1)] 2 = mkF m 0 #[vr x0, vr x1] [] := by first | (simp [entryFrame, mkF, argsToLocals, Value.category]; done) | rfl
def Q_rm_tss0 (Z : State) (u : Addr) (a : Addr) (b : Addr) (kb : ClassId) (ys : List Int32) (cz : Int32) (h0 : Heap) (n0 : Nat) (v : Option Value) (h : Heap) (L : List Loc) : Prop := v = none ∧ Fr n0 L ∧ Keep h0 h [u] ∧ StrOf Z h u ys
theorem rm_tss0 (l : Launch) (Z : State) (a0 : Array Value) (hw : HW a0 Z) (ws : List Jvm.Cond) (u : Addr) (a : Addr) (b : Addr) (kb : ClassId) (ys : List Int32) (cz : Int32) (h0 : Heap) (n0 : Nat) (Z0 : n0 ≤ h0.size) (A_u : Exa Z h0 u "java/lang/String") (F_value_u : Fld Z h0 u "java/lang/String" "value" "[B" .null) (F_coder_u : Fld Z h0 u "java/lang/String" "coder" "B" (.int 0)) (g_u : n0 ≤ u) (A_a : Exa Z h0 a "java/lang/StringBuilder") (F_value_a : Fld Z h0 a "java/lang/AbstractStringBuilder" "value" "[B" (.ref b)) (F_count_a : Fld Z h0 a "java/lang/AbstractStringBuilder" "count" "I" (.int (Int32.ofNat ys.length))) (F_maybeLatin1_a : Fld Z h0 a "java/lang/AbstractStringBuilder" "maybeLatin1" "Z" (.int 0)) (F_coder_a : Fld Z h0 a "java/lang/AbstractStringBuilder" "coder" "B" (.int 0)) (V_b : Arv Z h0 b kb .byte 16 (latV ys) (.int 0)) (h15 : ys.length ≤ 15) (hall : ∀ c ∈ ys, Lat c) (sgC : Sta Z h0 "java/lang/String" "COMPACT_STRINGS" "Z" (.int cz)) (hcz : ¬ (cz = 0)) (ne_a_u : a ≠ u) (ne_b_u : b ≠ u) :
  Met l Z mN51 jdk_42_method_53_code 2 none ({ frames := 4, cells := 1, slots := 32, locals := 65 } : Room) ws #[(.ref u), (.ref a)] h0 (Q_rm_tss0 Z u a b kb ys cz h0 n0) := by
 refine own_met (plainFor_of_name own_pn0) ?_
 intro p e s m below meth c s₁ hret hx hby hlk hml hown hnm X0 e0 hZ hh
 have N0 := Fr.nil n0
 refine Gz (castTop (own_ef_rm_tss0 m u a)) ?_
 have KP : Keep h0 h0 [u] := Keep.refl _ _
 show GG (fT s₁ m 0 #[vr u, vr a] [])
 refine gA X0 hx hby d51_0 rfl rfl rfl ?_
 refine gA X0 hx hby d51_1 rfl rfl rfl ?_
 refine Gz (XS.aconstNull X0.here hx rfl (hb hby d51_2)) ?_
 refine cIg X0 hx hZ hw hown hby hml e0 mN50 87 88 89 9 0 (rm_tsi0 l Z a0 hw [] u a b kb ys cz h0 n0 Z0 A_u F_value_u F_coder_u g_u A_a F_value_a F_count_a F_maybeLatin1_a F_coder_a V_b h15 hall sgC hcz ne_a_u ne_b_u) d51_3 (lenOf own_pd32 rfl) (fun _ T1 L1 X1 hQ1 => ?_)
 obtain ⟨rfl, N1q, K1, T_u_1'⟩ := hQ1
 have N1 := Fr.app N0 N1q
 replace KP := KP.trans K1 (allS (Or.inl (List.mem_of_getElem? (i := 0) rfl)) all0)
 replace Z0 := Nat.le_trans Z0 K1.1
 have T_u := T_u_1'
 show GG (fT T1 m 6 #[vr u, vr a] [])
 refine Goes.ret X1 none (fun _ => rfl) hlk (by decide) (by decide) ?_ (fun fs hr => ?_)
 ·exact ⟨rfl, N1, KP, T_u⟩
 ·exact X1.returnOut hx hret (hb hby d51_6) hr
theorem d50_41 : DK kc6 41 (.getstatic 38) 3 := by decide +kernel
theorem d50_44 : DK kc6 44 (.ifCond .eq 35) 3 := by decide +kernel
theorem d50_47 : DK kc6 47 (.aload_n 1) 1 := by decide +kernel
theorem d50_48 : DK kc6 48 (.getfield 1048) 3 := by decide +kernel
theorem d50_51 : DK kc6 51 (.ifCond .eq 28) 3 := by decide +kernel
theorem d50_79 : DK kc6 79 (.aload_n 0) 1 := by decide +kernel
theorem d50_80 : DK kc6 80 (.iconst 1) 1 := by decide +kernel
theorem d50_81 : DK kc6 81 (.putfield 15) 3 := by decide +kernel
theorem d50_84 : DK kc6 84 (.aload_n 0) 1 := by decide +kernel
theorem d50_85 : DK kc6 85 (.aload_n 3) 1 := by decide +kernel
theorem d50_86 : DK kc6 86 (.iconst 0) 1 := by decide +kernel
theorem d50_87 : DK kc6 87 (.iload 4) 2 := by decide +kernel
theorem d50_89 : DK kc6 89 (.iconst 1) 1 := by decide +kernel
theorem d50_90 : DK kc6 90 .ishl 1 := by decide +kernel
theorem d50_91 : DK kc6 91 (.invokestatic 54) 3 := by decide +kernel
theorem d50_94 : DK kc6 94 (.putfield 9) 3 := by decide +kernel
theorem own_ef_rm_tsi1 (m : MethodId) (x0 : Addr) (x1 : Addr) : entryFrame m #[(.ref x0), (.ref x1), .null] 5 = mkF m 0 #[vr x0, vr x1, .val .null, vu, vu] [] := by first | (simp [entryFrame, mkF, argsToLocals, Value.category]; done) | rfl
def Q_rm_tsi1 (Z : State) (u : Addr) (a : Addr) (b : Addr) (kb : ClassId) (ys : List Int32) (cz : Int32) (h0 : Heap) (n0 : Nat) (v : Option Value) (h : Heap) (L : List Loc) : Prop := v = none ∧ Fr n0 L ∧ Keep h0 h [u] ∧ StrOf Z h u ys
theorem rm_tsi1 (l : Launch) (Z : State) (a0 : Array Value) (hw : HW a0 Z) (ws : List Jvm.Cond) (u : Addr) (a : Addr) (b : Addr) (kb : ClassId) (ys : List Int32) (cz : Int32) (h0 : Heap) (n0 : Nat) (Z0 : n0 ≤ h0.size) (A_u : Exa Z h0 u "java/lang/String") (F_value_u : Fld Z h0 u "java/lang/String" "value" "[B" .null) (F_coder_u : Fld Z h0 u "java/lang/String" "coder" "B" (.int 0)) (g_u : n0 ≤ u) (A_a : Exa Z h0 a "java/lang/StringBuilder") (F_value_a : Fld Z h0 a "java/lang/AbstractStringBuilder" "value" "[B" (.ref b)) (F_count_a : Fld Z h0 a "java/lang/AbstractStringBuilder" "count" "I" (.int (Int32.ofNat ys.length))) (F_maybeLatin1_a : Fld Z h0 a "java/lang/AbstractStringBuilder" "maybeLatin1" "Z" (.int 0)) (F_coder_a : Fld Z h0 a "java/lang/AbstractStringBuilder" "coder" "B" (.int 1)) (V_b : Arv Z h0 b kb .byte 32 (utfV ys) (.int 0)) (h15 : ys.length ≤ 15) (hall : ∀ c ∈ ys, Chr c) (sgC : Sta Z h0 "java/lang/String" "COMPACT_STRINGS" "Z" (.int cz)) (hcz : ¬ (cz = 0)) (ne_a_u : a ≠ u) (ne_b_u : b ≠ u) :
  Met l Z mN50 jdk_42_method_150_code 5 none ({ frames := 3, cells := 1, slots := 32, locals := 49 } : Room) ws #[(.ref u), (.ref a), .null] h0 (Q_rm_tsi1 Z u a b kb ys cz h0 n0) := by
 refine own_met (plainFor_of_name own_pn0) ?_
 intro p e s m below meth c s₁ hret hx hby hlk hml hown hnm X0 e0 hZ hh
 have N0 := Fr.nil n0
 refine Gz (castTop (own_ef_rm_tsi1 m u a)) ?_
 have KP : Keep h0 h0 [u] := Keep.refl _ _
 show GG (fT s₁ m 0 #[vr u, vr a, .val .null, vu, vu] [])
 refine gA X0 hx hby d50_0 rfl rfl rfl ?_
 obtain ⟨T1, X1, e1, st1⟩ := initO X0 hx hZ hown (gw hw 18 rfl) (gw hw 19 rfl) (gw hw 20 rfl) e0 (g := (mkF m 1 #[vr u, vr a, .val .null, vu, vu] [(.ref u)])) rfl hml.symm rfl (hb hby d50_1) (by decide) (W := 0) (wz rfl) (by decide)
 refine Gs st1 ?_
 show GG (fT T1 m 4 #[vr u, vr a, .val .null, vu, vu] [])
 refine gA X1 hx hby d50_4 rfl rfl rfl ?_
 refine cV X1 hx hZ hw hown hby hml e1 mN47 90 91 93 92 94 44 0 (rm_gv l Z a0 hw [] a b h0 n0 Z0 F_value_a) A_a d50_5 (lenOf own_pd31 rfl) N0 (fun T2 L2 X2 e2 N2 => ?_)
 show GG (fT T2 m 8 #[vr u, vr a, .val .null, vu, vu] [(.ref b)])
 refine Gz (XS.astoreN X2.here hx rfl (hb hby d50_8) rfl rfl (l' := #[vr u, vr a, .val .null, vr b, vu]) rfl) ?_
 refine gA X2 hx hby d50_9 rfl rfl rfl ?_
 obtain ⟨cq3, kq3, q3a, q3b, q3c⟩ := isOf hZ e2 A_a
 obtain ⟨_, _, ⟨T3, L3, k3, n3⟩, -, X3, ⟨Lc3, hQ3, l3, y3, z3⟩, st3⟩ := X2.virtualBack hx (y := mN48) (z := mN49) hown (gz hZ hw 95 rfl) (gz hZ hw 96 rfl) (own_nf2 (mvT hZ (gw hw 67 rfl) (args := #[]))) (gz hZ hw 98 rfl) (gz hZ hw 99 rfl) (by decide) (backOf (W := 0) (rm_sl l Z a0 hw [] a ys h0 n0 Z0 A_a F_count_a) hZ (gw hw 100 rfl) (gw hw 36 rfl) (by decide) (by decide)) q3a q3c (g := (mkF m 10 #[vr u, vr a, .val .null, vr b, vu] [(.ref a)])) rfl hml.symm (Steps.refl _) (argsL := []) (rest := []) (lenOf own_pd26 rfl) rfl (wz rfl) (hb hby d50_10) (fun _ _ => ⟨rfl, e2, z0, z0⟩)
 dsimp only [Pt.U, Pt.locs, Pt.cells, Pt.slots] at X3 l3 y3 z3 st3 hQ3
 subst l3 y3 z3
 obtain ⟨rfl, N3q, e3⟩ := hQ3
 have N3 := Fr.app N2 N3q
 refine Gs (fun _ tk => st3.trans tk) ?_
 show GG (fT T3 m 13 #[vr u, vr a, .val .null, vr b, vu] [(.int (Int32.ofNat ys.length))])
 refine gS X3 hx hby d50_13 #[vr u, vr a, .val .null, vr b, vi (Int32.ofNat ys.length)] ?_
 refine gA X3 hx hby d50_15 rfl rfl rfl ?_
 refine cV X3 hx hZ hw hown hby hml e3 mN27 103 70 72 71 73 44 0 (rm_isl1 l Z a0 hw [] a cz h0 n0 Z0 F_coder_a sgC hcz) A_a d50_16 (lenOf own_pd6 rfl) N3 (fun T4 L4 X4 e4 N4 => ?_)
 show GG (fT T4 m 19 #[vr u, vr a, .val .null, vr b, vi (Int32.ofNat ys.length)] [(.int 0)])
 refine gy X4 hx hby d50_19 19 41 ((if0 _ _).trans (teq (by decide : ((0 : Int32) = (0 : Int32)))).1) ?_
 obtain ⟨T5, X5, e5, st5⟩ := getS2 X4 hx hZ hown (host := "") (Or.inl (gw hw 135 rfl)) Via.refl e4 sgC (g := (mkF m 41 #[vr u, vr a, .val .null, vr b, vi (Int32.ofNat ys.length)] [])) rfl (hb hby d50_41)
 refine Gs st5 ?_
 show GG (fT T5 m 44 #[vr u, vr a, .val .null, vr b, vi (Int32.ofNat ys.length)] [(.int cz)])
 refine gu X5 hx hby d50_44 ((if0 _ _).trans (feq hcz).1) ?_
 refine gA X5 hx hby d50_47 rfl rfl rfl ?_
 obtain ⟨T6, X6, e6, st6⟩ := getF X5 hx hZ hown (host := "") (Or.inl (gw hw 272 rfl)) Via.refl e5 F_maybeLatin1_a (g := (mkF m 48 #[vr u, vr a, .val .null, vr b, vi (Int32.ofNat ys.length)] [(.ref a)])) rfl rfl (hb hby d50_48)
 refine Gs st6 ?_
 show GG (fT T6 m 51 #[vr u, vr a, .val .null, vr b, vi (Int32.ofNat ys.length)] [(.int 0)])
 refine gy X6 hx hby d50_51 51 79 ((if0 _ _).trans (teq (by decide : ((0 : Int32) = (0 : Int32)))).1) ?_
 refine gA X6 hx hby d50_79 rfl rfl rfl ?_
 refine gC X6 hx hby d50_80 ?_
 obtain ⟨T7, h7, X7, e7, W7, st7⟩ := putFN X6 hx hZ hown (gw hw 28 rfl) Via.refl e6 F_coder_u A_u (Or.inr ⟨(gw hw 24 rfl), rfl, hnm⟩) (gw hw 8 rfl) (ty := .byte) (v' := .int 1) (by decide) rfl rfl (g := (mkF m 81 #[vr u, vr a, .val .null, vr b, vi (Int32.ofNat ys.length)] [(.int 1), (.ref u)])) rfl rfl (hb hby d50_81)
 have N7 := Fr.snoc X7 N4 g_u
 replace A_u := A_u.wr W7
 replace F_value_u := F_value_u.other W7 (Or.inr (slot_ne (Or.inr (gw hw 23 rfl)) (Or.inr (gw hw 24 rfl)) (by decide) (t := (.array .byte)) (t' := .byte) (by decide) (by decide)))
 replace A_a := A_a.wr W7
 replace V_b := V_b.other W7 ne_b_u
 replace KP := KP.wr W7 (Or.inl (List.mem_of_getElem? (i := 0) rfl))
 replace F_coder_u := F_coder_u.same W7
 replace Z0 : n0 ≤ h7.size := by rw [W7.size]; exact Z0
 refine Gs st7 ?_
 show GG (fT T7 m 84 #[vr u, vr a, .val .null, vr b, vi (Int32.ofNat ys.length)] [])
 refine gA X7 hx hby d50_84 rfl rfl rfl ?_
 refine gA X7 hx hby d50_85 rfl rfl rfl ?_
 refine gC X7 hx hby d50_86 ?_
 refine gI X7 hx hby d50_87 rfl rfl ?_
 refine gC X7 hx hby d50_89 ?_
 show GG (fT T7 m 90 #[vr u, vr a, .val .null, vr b, vi (Int32.ofNat ys.length)] [(.int 1), (.int (Int32.ofNat ys.length)), (.int 0), (.ref b), (.ref u)])
 refine Gz (XS.ishl X7.here hx rfl (hb hby d50_90) rfl) ?_
 show GG (fT T7 m 91 #[vr u, vr a, .val .null, vr b, vi (Int32.ofNat ys.length)] [(.int ((Int32.ofNat ys.length) <<< ((1 : Int32) &&& 31))), (.int 0), (.ref b), (.ref u)])
 rw [own_shl1 (by omega)]
 show GG (fT T7 m 91 #[vr u, vr a, .val .null, vr b, vi (Int32.ofNat ys.length)] [(.int (Int32.ofNat (2 * ys.length))), (.int 0), (.ref b), (.ref u)])
 have ltc8_u : u < h7.size := A_u.lt
 have ltc8_a : a < h7.size := A_a.lt
 have ltc8_b : b < h7.size := V_b.lt
 refine cSg X7 hx hZ hw hown hby hml e7 mN46 104 105 107 106 1 (rm_cor l Z a0 hw [] b kb (utfV ys) (2 * ys.length) (32 : Int32) h7 n0 Z0 V_b (own_utfL ys).symm (by show (2 * ys.length) < 32; omega) (by decide)) d50_91 (lenOf own_pd30 rfl) (fun _ T8 L8 X8 hQ8 => ?_)
 obtain ⟨y8, ky8, rfl, N8q, K8, V_y8_8', g_y8_8', sz_y8_8'⟩ := hQ8
 have N8 := Fr.app N7 N8q
 replace A_u := A_u.keep K8
 replace F_value_u := F_value_u.keep K8 nin0
 replace F_coder_u := F_coder_u.keep K8 nin0
 replace KP := KP.trans K8 all0
 replace Z0 := Nat.le_trans Z0 K8.1
 have V_y8 := V_y8_8'
 have g_y8 := g_y8_8'
 have szc_y8 := sz_y8_8'
 have ne_u_y8 : u ≠ y8 := Nat.ne_of_lt (Nat.lt_of_lt_of_le ltc8_u szc_y8)
 have ne_a_y8 : a ≠ y8 := Nat.ne_of_lt (Nat.lt_of_lt_of_le ltc8_a szc_y8)
 have ne_b_y8 : b ≠ y8 := Nat.ne_of_lt (Nat.lt_of_lt_of_le ltc8_b szc_y8)
 show GG (fT T8 m 94 #[vr u, vr a, .val .null, vr b, vi (Int32.ofNat ys.length)] [(.ref y8), (.ref u)])
 obtain ⟨T9, h9, X9, e9, W9, st9⟩ := putF X8 hx hZ hown (host := "") (Or.inl (gw hw 27 rfl)) Via.refl rfl F_value_u A_u (Or.inr ⟨(gw hw 23 rfl), rfl, hnm⟩) (gw hw 8 rfl) (ty := (.array .byte)) (by decide) rfl rfl (g := (mkF m 94 #[vr u, vr a, .val .null, vr b, vi (Int32.ofNat ys.length)] [(.ref y8), (.ref u)])) rfl rfl (hb hby d50_94)
 have N9 := Fr.snoc X9 N8 g_u
 replace A_u := A_u.wr W9
 replace F_coder_u := F_coder_u.other W9 (Or.inr (slot_ne (Or.inr (gw hw 24 rfl)) (Or.inr (gw hw 23 rfl)) (by decide) (t := .byte) (t' := (.array .byte)) (by decide) (by decide)))
 replace V_y8 := V_y8.other W9 (Ne.symm ne_u_y8)
 replace KP := KP.wr W9 (Or.inl (List.mem_of_getElem? (i := 0) rfl))
 replace F_value_u := F_value_u.same W9
 replace Z0 : n0 ≤ h9.size := by rw [W9.size]; exact Z0
 refine Gs st9 ?_
 show GG (fT T9 m 97 #[vr u, vr a, .val .null, vr b, vi (Int32.ofNat ys.length)] [])
 have T_u : StrOf Z h9 u ys := StrOf.utf A_u F_value_u F_coder_u V_y8 hall rfl rfl (by omega)
 refine Goes.ret X9 none (fun _ => rfl) hlk (by decide) (by decide) ?_ (fun fs hr => ?_)
 ·rw [e9]; exact ⟨rfl, N9, KP, T_u⟩
 ·exact X9.returnOut hx hret (hb hby d50_97) hr
theorem own_ef_rm_tss1 (m : MethodId) (x0 : Addr) (x1 : Addr) : entryFrame m #[(.ref x0), (.ref x1)] 2 = mkF m 0 #[vr x0, vr x1] [] := by first | (simp [entryFrame, mkF, argsToLocals, Value.category]; done) | rfl
def Q_rm_tss1 (Z : State) (u : Addr) (a : Addr) (b : Addr) (kb : ClassId) (ys : List Int32) (cz : Int32) (h0 : Heap) (n0 : Nat) (v : Option Value) (h : Heap) (L : List Loc) : Prop := v = none ∧ Fr n0 L ∧ Keep h0 h [u] ∧ StrOf Z h u ys
theorem rm_tss1 (l : Launch) (Z : State) (a0 : Array Value) (hw : HW a0 Z) (ws : List Jvm.Cond) (u : Addr) (a : Addr) (b : Addr) (kb : ClassId) (ys : List Int32) (cz : Int32) (h0 : Heap) (n0 : Nat) (Z0 : n0 ≤ h0.size) (A_u : Exa Z h0 u "java/lang/String") (F_value_u : Fld Z h0 u "java/lang/String" "value" "[B" .null) (F_coder_u : Fld Z h0 u "java/lang/String" "coder" "B" (.int 0)) (g_u : n0 ≤ u) (A_a : Exa Z h0 a "java/lang/StringBuilder") (F_value_a : Fld Z h0 a "java/lang/AbstractStringBuilder" "value" "[B" (.ref b)) (F_count_a : Fld Z h0 a "java/lang/AbstractStringBuilder" "count" "I" (.int (Int32.ofNat ys.length))) (F_maybeLatin1_a : Fld Z h0 a "java/lang/AbstractStringBuilder" "maybeLatin1" "Z" (.int 0)) (F_coder_a : Fld Z h0 a "java/lang/AbstractStringBuilder" "coder" "B" (.int 1)) (V_b : Arv Z h0 b kb .byte 32 (utfV ys) (.int 0)) (h15 : ys.length ≤ 15) (hall : ∀ c ∈ ys, Chr c) (sgC : Sta Z h0 "java/lang/String" "COMPACT_STRINGS" "Z" (.int cz)) (hcz : ¬ (cz = 0)) (ne_a_u : a ≠ u) (ne_b_u : b ≠ u) :
  Met l Z mN51 jdk_42_method_53_code 2 none ({ frames := 4, cells := 1, slots := 32, locals := 65 } : Room) ws #[(.ref u), (.ref a)] h0 (Q_rm_tss1 Z u a b kb ys cz h0 n0) := by
 refine own_met (plainFor_of_name own_pn0) ?_
 intro p e s m below meth c s₁ hret hx hby hlk hml hown hnm X0 e0 hZ hh
 have N0 := Fr.nil n0
 refine Gz (castTop (own_ef_rm_tss1 m u a)) ?_
 have KP : Keep h0 h0 [u] := Keep.refl _ _
 show GG (fT s₁ m 0 #[vr u, vr a] [])
 refine gA X0 hx hby d51_0 rfl rfl rfl ?_
 refine gA X0 hx hby d51_1 rfl rfl rfl ?_
 refine Gz (XS.aconstNull X0.here hx rfl (hb hby d51_2)) ?_
 refine cIg X0 hx hZ hw hown hby hml e0 mN50 87 88 89 9 0 (rm_tsi1 l Z a0 hw [] u a b kb ys cz h0 n0 Z0 A_u F_value_u F_coder_u g_u A_a F_value_a F_count_a F_maybeLatin1_a F_coder_a V_b h15 hall sgC hcz ne_a_u ne_b_u) d51_3 (lenOf own_pd32 rfl) (fun _ T1 L1 X1 hQ1 => ?_)
 obtain ⟨rfl, N1q, K1, T_u_1'⟩ := hQ1
 have N1 := Fr.app N0 N1q
 replace KP := KP.trans K1 (allS (Or.inl (List.mem_of_getElem? (i := 0) rfl)) all0)
 replace Z0 := Nat.le_trans Z0 K1.1
 have T_u := T_u_1'
 show GG (fT T1 m 6 #[vr u, vr a] [])
 refine Goes.ret X1 none (fun _ => rfl) hlk (by decide) (by decide) ?_ (fun fs hr => ?_)
 ·exact ⟨rfl, N1, KP, T_u⟩
 ·exact X1.returnOut hx hret (hb hby d51_6) hr
theorem d52_0 : DK kc40 0 (.new 18) 3 := by decide +kernel
theorem d52_3 : DK kc40 3 .dup 1 := by decide +kernel
theorem d52_4 : DK kc40 4 (.aload_n 0) 1 := by decide +kernel
theorem d52_5 : DK kc40 5 (.invokespecial 137) 3 := by decide +kernel
theorem own_pd33 : parseMethodDescriptor "(Ljava/lang/StringBuilder;)V" = some ⟨[(.object "java/lang/StringBuilder")], none⟩ := by decide +kernel
theorem d52_8 : DK kc40 8 .areturn 1 := by decide +kernel
theorem own_ef_rm_tt (m : MethodId) (x0 : Addr) : entryFrame m #[(.ref x0)] 1 = mkF m 0 #[vr x0] [] := by first | (simp [entryFrame, mkF, argsToLocals, Value.category]; done) | rfl
def Q_rm_tt (Z : State) (a : Addr) (b : Addr) (ys : List Int32) (cz : Int32) (h0 : Heap) (n0 : Nat) (v : Option Value) (h : Heap) (L : List Loc) : Prop := ∃ u : Addr, v = some (.ref u) ∧ Fr n0 L ∧ Keep h0 h [] ∧ StrOf Z h u ys
theorem rm_tt (l : Launch) (Z : State) (a0 : Array Value) (hw : HW a0 Z) (ws : List Jvm.Cond) (a : Addr) (b : Addr) (ys : List Int32) (cz : Int32) (h0 : Heap) (n0 : Nat) (Z0 : n0 ≤ h0.size) (B_a : SbOf Z h0 a b ys) (A_a : Exa Z h0 a "java/lang/StringBuilder") (h15 : ys.length ≤ 15) (sgC : Sta Z h0 "java/lang/String" "COMPACT_STRINGS" "Z" (.int cz)) (hcz : ¬ (cz = 0)) :
  Met l Z mN52 jdk_67_method_42_code 1 (some (.object "java/lang/String")) ({ frames := 5, cells := 2, slots := 36, locals := 79 } : Room) ws #[(.ref a)] h0 (Q_rm_tt Z a b ys cz h0 n0) := by
 refine own_met (plainFor_of_name own_pn5) ?_
 intro p e s m below meth c s₁ hret hx hby hlk hml hown hnm X0 e0 hZ hh
 have N0 := Fr.nil n0
 refine Gz (castTop (own_ef_rm_tt m a)) ?_
 have KP : Keep h0 h0 [] := Keep.refl _ _
 show GG (fT s₁ m 0 #[vr a] [])
 obtain ⟨kb, -, F_value_a, F_count_a, F_maybeLatin1_a, hrep⟩ := B_a
 rcases hrep with ⟨F_coder_a, hall, V_b⟩ | ⟨F_coder_a, hall, V_b⟩
 ·show GG (fT s₁ m 0 #[vr a] [])
  obtain ⟨T1, h1, X1, e1, E1, A1, D1, U1, st1⟩ := newO X0 hx hZ hown (gw hw 83 rfl) (gw hw 8 rfl) (gw hw 9 rfl) e0 (g := (mkF m 0 #[vr a] [])) rfl (hb hby d52_0) (by decide) (by decide)
  obtain ⟨b1, gq1⟩ : ∃ z, z = h0.size := ⟨_, rfl⟩
  rw [← gq1] at A1 st1 D1
  have g_b1 : n0 ≤ b1 := by rw [gq1]; exact Z0
  have sz_b1 : h0.size ≤ b1 := by rw [gq1]; exact KP.1
  have ne_a_b1 : a ≠ b1 := by rw [gq1]; exact Nat.ne_of_lt A_a.lt
  have ne_b_b1 : b ≠ b1 := by rw [gq1]; exact Nat.ne_of_lt V_b.lt
  replace A_a := A_a.ext E1
  replace sgC := sgC.ext E1
  replace F_value_a := F_value_a.ext E1
  replace F_count_a := F_count_a.ext E1
  replace F_maybeLatin1_a := F_maybeLatin1_a.ext E1
  replace F_coder_a := F_coder_a.ext E1
  replace V_b := V_b.ext E1
  replace KP := KP.ext E1
  replace Z0 : n0 ≤ h1.size := Nat.le_trans Z0 E1.1
  have A_b1 : Exa Z h1 b1 "java/lang/String" := A1
  have F_value_b1 : Fld Z h1 b1 "java/lang/String" "value" "[B" .null := D1 (Or.inr (gw hw 23 rfl)) (ty := (.array .byte)) (by decide)
  have F_coder_b1 : Fld Z h1 b1 "java/lang/String" "coder" "B" (.int 0) := D1 (Or.inr (gw hw 24 rfl)) (ty := .byte) (by decide)
  refine Gs st1 ?_
  show GG (fT T1 m 3 #[vr a] [(.ref b1)])
  refine Gz (XS.dup X1.here hx rfl (hb hby d52_3) rfl rfl) ?_
  refine gA X1 hx hby d52_4 rfl rfl rfl ?_
  refine cIg X1 hx hZ hw hown hby hml e1 mN51 84 85 86 9 1 (rm_tss0 l Z a0 hw [] b1 a b kb ys cz h1 n0 Z0 A_b1 F_value_b1 F_coder_b1 g_b1 A_a F_value_a F_count_a F_maybeLatin1_a F_coder_a V_b h15 hall sgC hcz ne_a_b1 ne_b_b1) d52_5 (lenOf own_pd33 rfl) (fun _ T2 L2 X2 hQ2 => ?_)
  obtain ⟨rfl, N2q, K2, T_b1_2'⟩ := hQ2
  have N2 := Fr.app N0 N2q
  replace sgC := own_staK sgC K2 (allS (own_obE A_b1) all0)
  replace A_a := A_a.keep K2
  replace F_value_a := F_value_a.keep K2 (ninS ne_a_b1 nin0)
  replace F_count_a := F_count_a.keep K2 (ninS ne_a_b1 nin0)
  replace F_maybeLatin1_a := F_maybeLatin1_a.keep K2 (ninS ne_a_b1 nin0)
  replace F_coder_a := F_coder_a.keep K2 (ninS ne_a_b1 nin0)
  replace V_b := V_b.keep K2 (ninS ne_b_b1 nin0)
  replace KP := KP.trans K2 (allS (Or.inr sz_b1) all0)
  replace Z0 := Nat.le_trans Z0 K2.1
  have T_b1 := T_b1_2'
  show GG (fT T2 m 8 #[vr a] [(.ref b1)])
  refine Goes.ret X2 (some (.ref b1)) (fun h => by rw [hret] at h; cases h) hlk (by decide) (by decide) ?_ (fun fs hr => ?_)
  ·exact ⟨b1, rfl, N2, KP, T_b1⟩
  ·exact own_retA X2 hx hret rfl rfl (hb hby d52_8) hr
 ·show GG (fT s₁ m 0 #[vr a] [])
  obtain ⟨T3, h3, X3, e3, E3, A3, D3, U3, st3⟩ := newO X0 hx hZ hown (gw hw 83 rfl) (gw hw 8 rfl) (gw hw 9 rfl) e0 (g := (mkF m 0 #[vr a] [])) rfl (hb hby d52_0) (by decide) (by decide)
  obtain ⟨b3, gq3⟩ : ∃ z, z = h0.size := ⟨_, rfl⟩
  rw [← gq3] at A3 st3 D3
  have g_b3 : n0 ≤ b3 := by rw [gq3]; exact Z0
  have sz_b3 : h0.size ≤ b3 := by rw [gq3]; exact KP.1
  have ne_a_b3 : a ≠ b3 := by rw [gq3]; exact Nat.ne_of_lt A_a.lt
  have ne_b_b3 : b ≠ b3 := by rw [gq3]; exact Nat.ne_of_lt V_b.lt
  replace A_a := A_a.ext E3
  replace sgC := sgC.ext E3
  replace F_value_a := F_value_a.ext E3
  replace F_count_a := F_count_a.ext E3
  replace F_maybeLatin1_a := F_maybeLatin1_a.ext E3
  replace F_coder_a := F_coder_a.ext E3
  replace V_b := V_b.ext E3
  replace KP := KP.ext E3
  replace Z0 : n0 ≤ h3.size := Nat.le_trans Z0 E3.1
  have A_b3 : Exa Z h3 b3 "java/lang/String" := A3
  have F_value_b3 : Fld Z h3 b3 "java/lang/String" "value" "[B" .null := D3 (Or.inr (gw hw 23 rfl)) (ty := (.array .byte)) (by decide)
  have F_coder_b3 : Fld Z h3 b3 "java/lang/String" "coder" "B" (.int 0) := D3 (Or.inr (gw hw 24 rfl)) (ty := .byte) (by decide)
  refine Gs st3 ?_
  show GG (fT T3 m 3 #[vr a] [(.ref b3)])
  refine Gz (XS.dup X3.here hx rfl (hb hby d52_3) rfl rfl) ?_
  refine gA X3 hx hby d52_4 rfl rfl rfl ?_
  refine cIg X3 hx hZ hw hown hby hml e3 mN51 84 85 86 9 1 (rm_tss1 l Z a0 hw [] b3 a b kb ys cz h3 n0 Z0 A_b3 F_value_b3 F_coder_b3 g_b3 A_a F_value_a F_count_a F_maybeLatin1_a F_coder_a V_b h15 hall sgC hcz ne_a_b3 ne_b_b3) d52_5 (lenOf own_pd33 rfl) (fun _ T4 L4 X4 hQ4 => ?_)
  obtain ⟨rfl, N4q, K4, T_b3_4'⟩ := hQ4
  have N4 := Fr.app N0 N4q
  replace KP := KP.trans K4 (allS (Or.inr sz_b3) all0)
  replace Z0 := Nat.le_trans Z0 K4.1
  have T_b3 := T_b3_4'
  show GG (fT T4 m 8 #[vr a] [(.ref b3)])
  refine Goes.ret X4 (some (.ref b3)) (fun h => by rw [hret] at h; cases h) hlk (by decide) (by decide) ?_ (fun fs hr => ?_)
  ·exact ⟨b3, rfl, N4, KP, T_b3⟩
  ·exact own_retA X4 hx hret rfl rfl (hb hby d52_8) hr
theorem own_EW2 {a0 : Array Value} {Z : State} (hw : HW a0 Z) : EW2 Z a0 consts_1 := (EW2.cons (gw hw 274 rfl) (by decide) (EW2.cons (gw hw 189 rfl) (by decide) (EW2.cons (gw hw 279 rfl) (by decide) (EW2.cons (gw hw 281 rfl) (by decide) (EW2.cons (gw hw 21 rfl) (by decide) EW2.nil)))))
theorem d53_0 : DK kc54 0 (.iconst 0) 1 := by decide +kernel
theorem d53_1 : DK kc54 1 (.istore_n 2) 1 := by decide +kernel
theorem d53_2 : DK kc54 2 (.iload_n 2) 1 := by decide +kernel
theorem d53_3 : DK kc54 3 (.aload_n 0) 1 := by decide +kernel
theorem d53_4 : DK kc54 4 (.invokevirtual 24) 3 := by decide +kernel
theorem d53_7 : DK kc54 7 (.if_icmp .ge 105) 3 := by decide +kernel
theorem d53_112 : DK kc54 112 .return_ 1 := by decide +kernel
theorem d53_10 : DK kc54 10 (.aload_n 0) 1 := by decide +kernel
theorem d53_11 : DK kc54 11 (.iload_n 2) 1 := by decide +kernel
theorem d53_12 : DK kc54 12 (.invokevirtual 30) 3 := by decide +kernel
theorem own_pd34 : parseMethodDescriptor "(I)C" = some ⟨[.int], some .char⟩ := by decide +kernel
theorem d53_15 : DK kc54 15 (.istore_n 3) 1 := by decide +kernel
theorem d53_16 : DK kc54 16 (.iload_n 3) 1 := by decide +kernel
theorem d53_106 : DK kc54 106 (.iinc 2 1) 3 := by decide +kernel
theorem d53_109 : DK kc54 109 (.goto (-107)) 3 := by decide +kernel
theorem d53_17 : DK kc54 17 (.lookupswitch 83 #[(9, 53), (10, 63), (13, 73), (92, 43)]) 43 := by decide +kernel
theorem d53_60 : DK kc54 60 (.aload_n 1) 1 := by decide +kernel
theorem d53_61 : DK kc54 61 (.ldc 34) 2 := by decide +kernel
theorem d53_63 : DK kc54 63 (.invokevirtual 36) 3 := by decide +kernel
theorem own_pd35 : parseMethodDescriptor "(Ljava/lang/String;)Ljava/lang/StringBuilder;" = some ⟨[(.object "java/lang/String")], some (.object "java/lang/StringBuilder")⟩ := by decide +kernel
theorem d53_66 : DK kc54 66 .pop 1 := by decide +kernel
theorem d53_67 : DK kc54 67 (.goto 39) 3 := by decide +kernel
theorem d53_70 : DK kc54 70 (.aload_n 1) 1 := by decide +kernel
theorem d53_71 : DK kc54 71 (.ldc 39) 2 := by decide +kernel
theorem d53_73 : DK kc54 73 (.invokevirtual 36) 3 := by decide +kernel
theorem d53_76 : DK kc54 76 .pop 1 := by decide +kernel
theorem d53_77 : DK kc54 77 (.goto 29) 3 := by decide +kernel
theorem d53_80 : DK kc54 80 (.aload_n 1) 1 := by decide +kernel
theorem d53_81 : DK kc54 81 (.ldc 41) 2 := by decide +kernel
theorem d53_83 : DK kc54 83 (.invokevirtual 36) 3 := by decide +kernel
theorem d53_86 : DK kc54 86 .pop 1 := by decide +kernel
theorem d53_87 : DK kc54 87 (.goto 19) 3 := by decide +kernel
theorem d53_90 : DK kc54 90 (.aload_n 1) 1 := by decide +kernel
theorem d53_91 : DK kc54 91 (.ldc 43) 2 := by decide +kernel
theorem d53_93 : DK kc54 93 (.invokevirtual 36) 3 := by decide +kernel
theorem d53_96 : DK kc54 96 .pop 1 := by decide +kernel
theorem d53_97 : DK kc54 97 (.goto 9) 3 := by decide +kernel
theorem d53_100 : DK kc54 100 (.aload_n 1) 1 := by decide +kernel
theorem d53_101 : DK kc54 101 (.iload_n 3) 1 := by decide +kernel
theorem d53_102 : DK kc54 102 (.invokevirtual 10) 3 := by decide +kernel
theorem own_pd36 : parseMethodDescriptor "(C)Ljava/lang/StringBuilder;" = some ⟨[.char], some (.object "java/lang/StringBuilder")⟩ := by decide +kernel
theorem d53_105 : DK kc54 105 .pop 1 := by decide +kernel
theorem own_pn7 : plainName "com/example/surfacemap/surfacemap/cli/Tsv" = true := by first | (simp [plainName, overriddenIn]; done) | decide +kernel
theorem own_ef_rm_ae (m : MethodId) (x0 : Addr) (x1 : Addr) : entryFrame m #[(.ref x0), (.ref x1)] 4 = mkF m 0 #[vr x0, vr x1, vu, vu] [] := by first | (simp [entryFrame, mkF, argsToLocals, Value.category]; done) | rfl
def Q_rm_ae (Z : State) (a : Addr) (b : Addr) (ys : List Int32) (x : Addr) (xs : List Int32) (hL : Heap) (cz : Int32) (fo : Value) (h0 : Heap) (n0 : Nat) (v : Option Value) (h : Heap) (L : List Loc) : Prop := ∃ y : Addr, v = none ∧ Fr n0 L ∧ Keep h0 h [a, b] ∧ SbOf Z h a y (ys ++ own_escs xs) ∧ n0 ≤ y ∧ (y = b ∨ h0.size ≤ y) ∧ a ≠ y
theorem rm_ae (l : Launch) (Z : State) (a0 : Array Value) (hw : HW a0 Z) (ws : List Jvm.Cond) (a : Addr) (b : Addr) (ys : List Int32) (x : Addr) (xs : List Int32) (hL : Heap) (cz : Int32) (fo : Value) (h0 : Heap) (n0 : Nat) (Z0 : n0 ≤ h0.size) (B_a : SbOf Z h0 a b ys) (A_a : Exa Z h0 a "java/lang/StringBuilder") (g_a : n0 ≤ a) (g_b : n0 ≤ b) (ne_a_b : a ≠ b) (hTL : StrOf Z hL x xs) (hKL : Keep hL h0 []) (szL_a : hL.size ≤ a) (szL_b : hL.size ≤ b) (hx2 : xs.length ≤ 2) (htot : ys.length + (own_escs xs).length ≤ 14) (sgC : Sta Z h0 "java/lang/String" "COMPACT_STRINGS" "Z" (.int cz)) (hcz : ¬ (cz = 0)) (sgA : Sta Z h0 "java/lang/StringUTF16" "$assertionsDisabled" "Z" (.int 1)) (sgH : Sta Z h0 "java/lang/StringUTF16" "HI_BYTE_SHIFT" "I" (.int 0)) (sgL : Sta Z h0 "java/lang/StringUTF16" "LO_BYTE_SHIFT" "I" (.int 8)) (sgF : Sta Z h0 "jdk/internal/util/Preconditions" "SIOOBE_FORMATTER" "Ljava/util/function/BiFunction;" fo) (r_fo : fo.isRef = true) :
  MetH l Z mN53 prog_3_method_3_code 4 none ({ frames := 9, cells := 4, slots := 64, locals := 132 } : Room) ws #[(.ref x), (.ref a)] h0 (Q_rm_ae Z a b ys x xs hL cz fo h0 n0) := by
 refine own_metH (plainFor_of_name own_pn7) ?_
 intro p e s m below meth c s₁ hret hx hby hlk hml hown hnm X0 e0 hZ hh hC0
 have N0 := Fr.nil n0
 have hS : s.Since s.vm h0.size := (State.WarmedH.refl s).since _
 have hk : h0.size ≤ h0.size := Nat.le_refl _
 replace hZ : Z.Warmed39 (s.setVm s.vm).vm := hZ
 have hR : CHr Z consts_1 s.vm h0 s.vm h0 := CHr.refl hC0
 refine Gz (castTop (own_ef_rm_ae m x a)) ?_
 have KP : Keep h0 h0 [a, b] := Keep.refl _ _
 show GG (fT s₁ m 0 #[vr x, vr a, vu, vu] [])
 have KL := hKL
 have hxC := hTL.chrs
 have hoba : Ob h0 a := own_obE A_a
 have hobb : Ob h0 b := SbOf.obb B_a
 have zsgC := sgC
 have zsgA := sgA
 have zsgH := sgH
 have zsgL := sgL
 have zsgF := sgF
 have zA_a := A_a
 have hyb_b : b = b ∨ h0.size ≤ b := Or.inl rfl
 obtain rfl | ⟨c0, rfl⟩ | ⟨c0, c1, rfl⟩ := own_le2 hx2
 ·show GG (fT s₁ m 0 #[vr x, vr a, vu, vu] [])
  have T_x : StrOf Z h0 x ([] : List Int32) := hTL.keep KL all0
  refine gC X0 hx hby d53_0 ?_
  refine gs X0 hx hby d53_1 #[vr x, vr a, vi 0, vu] ?_
  refine gN X0 hx hby d53_2 rfl rfl ?_
  refine gA X0 hx hby d53_3 rfl rfl rfl ?_
  refine cV X0 hx hZ hw hown hby hml e0 mN2 163 126 128 127 129 9 1 (rs_len l Z a0 hw [] x ([] : List Int32) cz h0 n0 Z0 T_x sgC hcz) T_x.exa d53_4 (lenOf own_pd26 rfl) N0 (fun T1 L1 X1 e1 N1 => ?_)
  show GG (fT T1 m 7 #[vr x, vr a, vi 0, vu] [(.int 0), (.int 0)])
  refine gY X1 hx hby d53_7 7 112 (flt (by decide : ¬ ((0 : Int32) < (0 : Int32)))).2.1 ?_
  show GG (fT T1 m 112 #[vr x, vr a, vi 0, vu] [])
  have B_a : SbOf Z h0 a b (ys ++ own_escs ([] : List Int32)) := by rw [show own_escs [] = [] from rfl, List.append_nil]; exact B_a
  refine Goes.retH X1 hS e1 hk hZ (own_EW hw) hh hR none (fun _ => rfl) hlk (by decide) (by decide) ?_ (fun fs hr => ?_)
  ·rw [e1]; exact ⟨b, rfl, N1, KP, B_a, g_b, hyb_b, ne_a_b⟩
  ·exact X1.returnOut hx hret (hb hby d53_112) hr
 ·have hC0 : Chr c0 := hxC c0 (by simp)
  have hE0 := own_esc1 c0
  rw [own_escs1] at htot
  show GG (fT s₁ m 0 #[vr x, vr a, vu, vu] [])
  have T_x : StrOf Z h0 x [c0] := hTL.keep KL all0
  refine gC X0 hx hby d53_0 ?_
  refine gs X0 hx hby d53_1 #[vr x, vr a, vi 0, vu] ?_
  refine gN X0 hx hby d53_2 rfl rfl ?_
  refine gA X0 hx hby d53_3 rfl rfl rfl ?_
  refine cV X0 hx hZ hw hown hby hml e0 mN2 163 126 128 127 129 9 1 (rs_len l Z a0 hw [] x [c0] cz h0 n0 Z0 T_x sgC hcz) T_x.exa d53_4 (lenOf own_pd26 rfl) N0 (fun T2 L2 X2 e2 N2 => ?_)
  show GG (fT T2 m 7 #[vr x, vr a, vi 0, vu] [(.int 1), (.int 0)])
  refine gU X2 hx hby d53_7 (tlt (by decide : ((0 : Int32) < (1 : Int32)))).2.1 ?_
  refine gA X2 hx hby d53_10 rfl rfl rfl ?_
  refine gN X2 hx hby d53_11 rfl rfl ?_
  refine cV X2 hx hZ hw hown hby hml e2 mN10 188 140 142 141 143 9 0 (rs_chr l Z a0 hw [] x [c0] (0 : Int32) c0 cz fo h0 n0 Z0 T_x sgC hcz (by first | assumption | decide) (own_il 0 _ (by decide) (by simp) T_x.len) rfl sgF r_fo sgA sgH sgL) T_x.exa d53_12 (lenOf own_pd34 rfl) N2 (fun T3 L3 X3 e3 N3 => ?_)
  show GG (fT T3 m 15 #[vr x, vr a, vi 0, vu] [(.int c0)])
  refine gs X3 hx hby d53_15 #[vr x, vr a, vi 0, vi c0] ?_
  refine gN X3 hx hby d53_16 rfl rfl ?_
  show GG (fT T3 m 17 #[vr x, vr a, vi 0, vi c0] [(.int c0)])
  have hb0 : ys.length ≤ 13 := by omega
  have J1_0 : ∀ (T : State) (L : List Loc) (y0 : Addr) (kk : Nat) (vM : Vm), Stand p l e ({ frames := 9, cells := 4, slots := 64, locals := 132 } : Room) (s.setVm vM) m #[(.ref x), (.ref a)] below meth c T L 2 32 → s.Since vM kk → kk ≤ T.heap.size → Z.Warmed39 (s.setVm vM).vm → (s.setVm vM).vm.findClass mN53.cls = some m.cls → CHr Z consts_1 s.vm h0 vM T.heap → Fr n0 L → n0 ≤ T.heap.size → Keep h0 T.heap [a, b] → Keep hL T.heap [] → SbOf Z T.heap a y0 (ys ++ own_esc c0) → n0 ≤ y0 → hL.size ≤ y0 → (y0 = b ∨ h0.size ≤ y0) → a ≠ y0 → Goes p e below (fun o u L => CHr Z consts_1 s.vm s.heap u.vm u.heap ∧ ReturnedEndW s o u L ({ frames := 9, cells := 4, slots := 64, locals := 132 } : Room).cells ({ frames := 9, cells := 4, slots := 64, locals := 132 } : Room).slots) (Q_rm_ae Z a b ys x [c0] hL cz fo h0 n0) (T.setTop (mkF m 106 #[vr x, vr a, vi 0, vi c0] [])) := by
   intro T L y0 kk vM X hS hk hZ hown hR N Z0 KP KL B_a g_y0 szL_y0 hyb_y0 ne_a_y0
   have sgC := own_staK zsgC KP (allS hoba (allS hobb all0))
   have sgA := own_staK zsgA KP (allS hoba (allS hobb all0))
   have sgH := own_staK zsgH KP (allS hoba (allS hobb all0))
   have sgL := own_staK zsgL KP (allS hoba (allS hobb all0))
   have sgF := own_staK zsgF KP (allS hoba (allS hobb all0))
   have A_a := zA_a.keep KP
   have mem_y0 : y0 ∈ [a, b] ∨ h0.size ≤ y0 := hyb_y0.elim (fun e => Or.inl (by rw [e]; exact List.mem_of_getElem? (i := 1) rfl)) Or.inr
   show GG (fT T m 106 #[vr x, vr a, vi 0, vi c0] [])
   refine Gz (XS.iinc X.here hx rfl (hb hby d53_106) rfl (l' := #[vr x, vr a, vi ((0 : Int32) + (1 : Int32)), vi c0]) rfl) ?_
   show GG (fT T m 109 #[vr x, vr a, vi 1, vi c0] [])
   refine gG X hx hby d53_109 109 2 ?_
   show GG (fT T m 2 #[vr x, vr a, vi 1, vi c0] [])
   have T_x : StrOf Z T.heap x [c0] := hTL.keep KL all0
   refine gN X hx hby d53_2 rfl rfl ?_
   refine gA X hx hby d53_3 rfl rfl rfl ?_
   refine cV X hx hZ hw hown hby hml rfl mN2 163 126 128 127 129 9 1 (rs_len l Z a0 hw [] x [c0] cz T.heap n0 Z0 T_x sgC hcz) T_x.exa d53_4 (lenOf own_pd26 rfl) N (fun T4 L4 X4 e4 N4 => ?_)
   show GG (fT T4 m 7 #[vr x, vr a, vi 1, vi c0] [(.int 1), (.int 1)])
   refine gY X4 hx hby d53_7 7 112 (flt (by decide : ¬ ((1 : Int32) < (1 : Int32)))).2.1 ?_
   show GG (fT T4 m 112 #[vr x, vr a, vi 1, vi c0] [])
   have B_a : SbOf Z T.heap a y0 (ys ++ own_escs [c0]) := by rw [own_escs1]; exact B_a
   refine Goes.retH X4 hS e4 hk hZ (own_EW hw) hh hR none (fun _ => rfl) hlk (by decide) (by decide) ?_ (fun fs hr => ?_)
   ·rw [e4]; exact ⟨y0, rfl, N4, KP, B_a, g_y0, hyb_y0, ne_a_y0⟩
   ·exact X4.returnOut hx hret (hb hby d53_112) hr
  by_cases hq92_0 : c0 = 92
  ·show GG (fT T3 m 17 #[vr x, vr a, vi 0, vi c0] [(.int c0)])
   refine Gs (fun _ tk => own_lsw (g := (mkF m 17 #[vr x, vr a, vi 0, vi c0] [(.int c0)])) X3.here hx rfl (o := 43) (pc0 := 17) (pc' := 60) rfl (hb hby d53_17) rfl (by decide) (by rw [hq92_0]; decide) (by decide) (by decide) tk) ?_
   show GG (fT T3 m 60 #[vr x, vr a, vi 0, vi c0] [])
   have Sf_a : Safe Z consts_1 s.vm h0 a := Safe.exa hZ.alike A_a (by decide) (by decide)
   have Sf_b : Safe Z consts_1 s.vm h0 b := SbOf.safe hZ (own_EW2 hw) B_a
   refine gA X3 hx hby d53_60 rfl rfl rfl ?_
   have lt_a : a < h0.size := A_a.lt
   have lt_b : b < h0.size := B_a.ltb
   obtain ⟨c5, T5, h5, kk5, cb5, kc5, X5, e5, E5, hS, hk5, hZ, hown, A_c5, F_coder_c5, F_value_c5, V_cb5, -, -, hC5, hL5, hsf5, st5⟩ := ldcCH X3 hx hZ hown (gw hw 274 rfl) (own_strW hw) e3 hS hk (own_EW hw) (List.mem_of_getElem? (i := 0) rfl) hR.1 (vs := [(.int 92), (.int 92)]) (z := (2 : Int32)) ⟨by first | decide | rfl, by first | decide | rfl⟩ (by decide) (by decide) (g := (mkF m 61 #[vr x, vr a, vi 0, vi c0] [(.ref a)])) rfl (hb hby d53_61) (n := 8) (by decide) (by decide) (by decide) (by decide)
   replace B_a := B_a.ext E5
   replace A_a := A_a.ext E5
   replace sgC := sgC.ext E5
   replace sgA := sgA.ext E5
   replace sgH := sgH.ext E5
   replace sgL := sgL.ext E5
   replace sgF := sgF.ext E5
   replace T_x := T_x.ext E5
   replace KP := KP.ext E5
   replace KL := KL.ext E5
   replace Sf_a := hC5.safe lt_a Sf_a
   replace Sf_b := hC5.safe lt_b Sf_b
   replace hR := hR.trans hC5
   replace Z0 : n0 ≤ h5.size := Nat.le_trans Z0 E5.1
   replace hk := hk5
   have ne_a_c5 : a ≠ c5 := (hsf5 _ Sf_a).1
   have ne_a_cb5 : a ≠ cb5 := (hsf5 _ Sf_a).2
   have ne_b_c5 : b ≠ c5 := (hsf5 _ Sf_b).1
   have ne_b_cb5 : b ≠ cb5 := (hsf5 _ Sf_b).2
   refine Gs st5 ?_
   show GG (fT T5 m 63 #[vr x, vr a, vi 0, vi c0] [(.ref c5), (.ref a)])
   have T_c5 : StrOf Z h5 c5 [(92 : Int32), (92 : Int32)] := StrOf.latin A_c5 F_value_c5 F_coder_c5 V_cb5 (own_all2 ⟨by decide, by decide⟩ ⟨by decide, by decide⟩) rfl rfl (by decide)
   have V_cb5 : Arv Z h5 cb5 kc5 .byte (Int32.ofNat [(92 : Int32), (92 : Int32)].length) (latV [(92 : Int32), (92 : Int32)]) (.int 0) := V_cb5
   refine cVg X5 hx hZ hw hown hby hml e5 mN42 190 191 193 192 194 36 0 (rm_st l Z a0 hw [] a b ys c5 [(92 : Int32), (92 : Int32)] cb5 kc5 cz fo h5 n0 Z0 B_a A_a g_a g_b ne_a_b T_c5 A_c5 F_value_c5 F_coder_c5 V_cb5 (own_all2 ⟨by decide, by decide⟩ ⟨by decide, by decide⟩) (Ne.symm ne_b_cb5) (Ne.symm ne_b_c5) (Ne.symm ne_a_cb5) (Ne.symm ne_a_c5) (by show ys.length + 2 ≤ 15; omega) sgC hcz sgA sgH sgL sgF r_fo) A_a d53_63 (lenOf own_pd35 rfl) (fun _ T6 L6 X6 hQ6 => ?_)
   obtain ⟨rfl, N6q, K6, B_a_6'⟩ := hQ6
   have N6 := Fr.app N3 N6q
   replace sgC := own_staK sgC K6 (allS (own_obE B_a.exa) (allS (SbOf.obb B_a) all0))
   replace sgA := own_staK sgA K6 (allS (own_obE B_a.exa) (allS (SbOf.obb B_a) all0))
   replace sgH := own_staK sgH K6 (allS (own_obE B_a.exa) (allS (SbOf.obb B_a) all0))
   replace sgL := own_staK sgL K6 (allS (own_obE B_a.exa) (allS (SbOf.obb B_a) all0))
   replace sgF := own_staK sgF K6 (allS (own_obE B_a.exa) (allS (SbOf.obb B_a) all0))
   have Sf_a' := Safe.keep K6 (allS Sf_a (allS Sf_b all0)) hR.1 Sf_a
   have Sf_b' := Safe.keep K6 (allS Sf_a (allS Sf_b all0)) hR.1 Sf_b
   replace hR := hR.trans (CHr.keep K6 (allS Sf_a (allS Sf_b all0)) hR.1)
   replace Sf_a := Sf_a'
   replace Sf_b := Sf_b'
   replace A_a := A_a.keep K6
   replace KP := KP.trans K6 (allS (Or.inl (List.mem_of_getElem? (i := 0) rfl)) (allS (Or.inl (List.mem_of_getElem? (i := 1) rfl)) all0))
   replace KL := KL.trans K6 (allS (Or.inr szL_a) (allS (Or.inr szL_b) all0))
   replace Z0 := Nat.le_trans Z0 K6.1
   replace hk := Nat.le_trans hk K6.1
   have B_a := B_a_6'
   show GG (fT T6 m 66 #[vr x, vr a, vi 0, vi c0] [(.ref a)])
   refine Gz (XS.pop X6.here hx rfl (hb hby d53_66) rfl rfl) ?_
   refine gG X6 hx hby d53_67 67 106 ?_
   show GG (fT T6 m 106 #[vr x, vr a, vi 0, vi c0] [])
   rw [← (show own_esc c0 = [(92 : Int32), (92 : Int32)] from by rw [hq92_0]; rfl)] at B_a
   exact J1_0 _ _ b _ _ (X6.mono (by decide) (by decide)) hS hk hZ hown hR N6 Z0 KP KL B_a g_b szL_b hyb_b ne_a_b
  ·show GG (fT T3 m 17 #[vr x, vr a, vi 0, vi c0] [(.int c0)])
   by_cases hq9_0 : c0 = 9
   ·show GG (fT T3 m 17 #[vr x, vr a, vi 0, vi c0] [(.int c0)])
    refine Gs (fun _ tk => own_lsw (g := (mkF m 17 #[vr x, vr a, vi 0, vi c0] [(.int c0)])) X3.here hx rfl (o := 53) (pc0 := 17) (pc' := 70) rfl (hb hby d53_17) rfl (by decide) (by rw [hq9_0]; decide) (by decide) (by decide) tk) ?_
    show GG (fT T3 m 70 #[vr x, vr a, vi 0, vi c0] [])
    have Sf_a : Safe Z consts_1 s.vm h0 a := Safe.exa hZ.alike A_a (by decide) (by decide)
    have Sf_b : Safe Z consts_1 s.vm h0 b := SbOf.safe hZ (own_EW2 hw) B_a
    refine gA X3 hx hby d53_70 rfl rfl rfl ?_
    have lt_a : a < h0.size := A_a.lt
    have lt_b : b < h0.size := B_a.ltb
    obtain ⟨c7, T7, h7, kk7, cb7, kc7, X7, e7, E7, hS, hk7, hZ, hown, A_c7, F_coder_c7, F_value_c7, V_cb7, -, -, hC7, hL7, hsf7, st7⟩ := ldcCH X3 hx hZ hown (gw hw 189 rfl) (own_strW hw) e3 hS hk (own_EW hw) (List.mem_of_getElem? (i := 1) rfl) hR.1 (vs := [(.int 92), (.int 116)]) (z := (2 : Int32)) ⟨by first | decide | rfl, by first | decide | rfl⟩ (by decide) (by decide) (g := (mkF m 71 #[vr x, vr a, vi 0, vi c0] [(.ref a)])) rfl (hb hby d53_71) (n := 8) (by decide) (by decide) (by decide) (by decide)
    replace B_a := B_a.ext E7
    replace A_a := A_a.ext E7
    replace sgC := sgC.ext E7
    replace sgA := sgA.ext E7
    replace sgH := sgH.ext E7
    replace sgL := sgL.ext E7
    replace sgF := sgF.ext E7
    replace T_x := T_x.ext E7
    replace KP := KP.ext E7
    replace KL := KL.ext E7
    replace Sf_a := hC7.safe lt_a Sf_a
    replace Sf_b := hC7.safe lt_b Sf_b
    replace hR := hR.trans hC7
    replace Z0 : n0 ≤ h7.size := Nat.le_trans Z0 E7.1
    replace hk := hk7
    have ne_a_c7 : a ≠ c7 := (hsf7 _ Sf_a).1
    have ne_a_cb7 : a ≠ cb7 := (hsf7 _ Sf_a).2
    have ne_b_c7 : b ≠ c7 := (hsf7 _ Sf_b).1
    have ne_b_cb7 : b ≠ cb7 := (hsf7 _ Sf_b).2
    refine Gs st7 ?_
    show GG (fT T7 m 73 #[vr x, vr a, vi 0, vi c0] [(.ref c7), (.ref a)])
    have T_c7 : StrOf Z h7 c7 [(92 : Int32), (116 : Int32)] := StrOf.latin A_c7 F_value_c7 F_coder_c7 V_cb7 (own_all2 ⟨by decide, by decide⟩ ⟨by decide, by decide⟩) rfl rfl (by decide)
    have V_cb7 : Arv Z h7 cb7 kc7 .byte (Int32.ofNat [(92 : Int32), (116 : Int32)].length) (latV [(92 : Int32), (116 : Int32)]) (.int 0) := V_cb7
    refine cVg X7 hx hZ hw hown hby hml e7 mN42 190 191 193 192 194 36 0 (rm_st l Z a0 hw [] a b ys c7 [(92 : Int32), (116 : Int32)] cb7 kc7 cz fo h7 n0 Z0 B_a A_a g_a g_b ne_a_b T_c7 A_c7 F_value_c7 F_coder_c7 V_cb7 (own_all2 ⟨by decide, by decide⟩ ⟨by decide, by decide⟩) (Ne.symm ne_b_cb7) (Ne.symm ne_b_c7) (Ne.symm ne_a_cb7) (Ne.symm ne_a_c7) (by show ys.length + 2 ≤ 15; omega) sgC hcz sgA sgH sgL sgF r_fo) A_a d53_73 (lenOf own_pd35 rfl) (fun _ T8 L8 X8 hQ8 => ?_)
    obtain ⟨rfl, N8q, K8, B_a_8'⟩ := hQ8
    have N8 := Fr.app N3 N8q
    replace sgC := own_staK sgC K8 (allS (own_obE B_a.exa) (allS (SbOf.obb B_a) all0))
    replace sgA := own_staK sgA K8 (allS (own_obE B_a.exa) (allS (SbOf.obb B_a) all0))
    replace sgH := own_staK sgH K8 (allS (own_obE B_a.exa) (allS (SbOf.obb B_a) all0))
    replace sgL := own_staK sgL K8 (allS (own_obE B_a.exa) (allS (SbOf.obb B_a) all0))
    replace sgF := own_staK sgF K8 (allS (own_obE B_a.exa) (allS (SbOf.obb B_a) all0))
    have Sf_a' := Safe.keep K8 (allS Sf_a (allS Sf_b all0)) hR.1 Sf_a
    have Sf_b' := Safe.keep K8 (allS Sf_a (allS Sf_b all0)) hR.1 Sf_b
    replace hR := hR.trans (CHr.keep K8 (allS Sf_a (allS Sf_b all0)) hR.1)
    replace Sf_a := Sf_a'
    replace Sf_b := Sf_b'
    replace A_a := A_a.keep K8
    replace KP := KP.trans K8 (allS (Or.inl (List.mem_of_getElem? (i := 0) rfl)) (allS (Or.inl (List.mem_of_getElem? (i := 1) rfl)) all0))
    replace KL := KL.trans K8 (allS (Or.inr szL_a) (allS (Or.inr szL_b) all0))
    replace Z0 := Nat.le_trans Z0 K8.1
    replace hk := Nat.le_trans hk K8.1
    have B_a := B_a_8'
    show GG (fT T8 m 76 #[vr x, vr a, vi 0, vi c0] [(.ref a)])
    refine Gz (XS.pop X8.here hx rfl (hb hby d53_76) rfl rfl) ?_
    refine gG X8 hx hby d53_77 77 106 ?_
    show GG (fT T8 m 106 #[vr x, vr a, vi 0, vi c0] [])
    rw [← (show own_esc c0 = [(92 : Int32), (116 : Int32)] from by rw [hq9_0]; rfl)] at B_a
    exact J1_0 _ _ b _ _ (X8.mono (by decide) (by decide)) hS hk hZ hown hR N8 Z0 KP KL B_a g_b szL_b hyb_b ne_a_b
   ·show GG (fT T3 m 17 #[vr x, vr a, vi 0, vi c0] [(.int c0)])
    by_cases hq10_0 : c0 = 10
    ·show GG (fT T3 m 17 #[vr x, vr a, vi 0, vi c0] [(.int c0)])
     refine Gs (fun _ tk => own_lsw (g := (mkF m 17 #[vr x, vr a, vi 0, vi c0] [(.int c0)])) X3.here hx rfl (o := 63) (pc0 := 17) (pc' := 80) rfl (hb hby d53_17) rfl (by decide) (by rw [hq10_0]; decide) (by decide) (by decide) tk) ?_
     show GG (fT T3 m 80 #[vr x, vr a, vi 0, vi c0] [])
     have Sf_a : Safe Z consts_1 s.vm h0 a := Safe.exa hZ.alike A_a (by decide) (by decide)
     have Sf_b : Safe Z consts_1 s.vm h0 b := SbOf.safe hZ (own_EW2 hw) B_a
     refine gA X3 hx hby d53_80 rfl rfl rfl ?_
     have lt_a : a < h0.size := A_a.lt
     have lt_b : b < h0.size := B_a.ltb
     obtain ⟨c9, T9, h9, kk9, cb9, kc9, X9, e9, E9, hS, hk9, hZ, hown, A_c9, F_coder_c9, F_value_c9, V_cb9, -, -, hC9, hL9, hsf9, st9⟩ := ldcCH X3 hx hZ hown (gw hw 279 rfl) (own_strW hw) e3 hS hk (own_EW hw) (List.mem_of_getElem? (i := 2) rfl) hR.1 (vs := [(.int 92), (.int 110)]) (z := (2 : Int32)) ⟨by first | decide | rfl, by first | decide | rfl⟩ (by decide) (by decide) (g := (mkF m 81 #[vr x, vr a, vi 0, vi c0] [(.ref a)])) rfl (hb hby d53_81) (n := 8) (by decide) (by decide) (by decide) (by decide)
     replace B_a := B_a.ext E9
     replace A_a := A_a.ext E9
     replace sgC := sgC.ext E9
     replace sgA := sgA.ext E9
     replace sgH := sgH.ext E9
     replace sgL := sgL.ext E9
     replace sgF := sgF.ext E9
     replace T_x := T_x.ext E9
     replace KP := KP.ext E9
     replace KL := KL.ext E9
     replace Sf_a := hC9.safe lt_a Sf_a
     replace Sf_b := hC9.safe lt_b Sf_b
     replace hR := hR.trans hC9
     replace Z0 : n0 ≤ h9.size := Nat.le_trans Z0 E9.1
     replace hk := hk9
     have ne_a_c9 : a ≠ c9 := (hsf9 _ Sf_a).1
     have ne_a_cb9 : a ≠ cb9 := (hsf9 _ Sf_a).2
     have ne_b_c9 : b ≠ c9 := (hsf9 _ Sf_b).1
     have ne_b_cb9 : b ≠ cb9 := (hsf9 _ Sf_b).2
     refine Gs st9 ?_
     show GG (fT T9 m 83 #[vr x, vr a, vi 0, vi c0] [(.ref c9), (.ref a)])
     have T_c9 : StrOf Z h9 c9 [(92 : Int32), (110 : Int32)] := StrOf.latin A_c9 F_value_c9 F_coder_c9 V_cb9 (own_all2 ⟨by decide, by decide⟩ ⟨by decide, by decide⟩) rfl rfl (by decide)
     have V_cb9 : Arv Z h9 cb9 kc9 .byte (Int32.ofNat [(92 : Int32), (110 : Int32)].length) (latV [(92 : Int32), (110 : Int32)]) (.int 0) := V_cb9
     refine cVg X9 hx hZ hw hown hby hml e9 mN42 190 191 193 192 194 36 0 (rm_st l Z a0 hw [] a b ys c9 [(92 : Int32), (110 : Int32)] cb9 kc9 cz fo h9 n0 Z0 B_a A_a g_a g_b ne_a_b T_c9 A_c9 F_value_c9 F_coder_c9 V_cb9 (own_all2 ⟨by decide, by decide⟩ ⟨by decide, by decide⟩) (Ne.symm ne_b_cb9) (Ne.symm ne_b_c9) (Ne.symm ne_a_cb9) (Ne.symm ne_a_c9) (by show ys.length + 2 ≤ 15; omega) sgC hcz sgA sgH sgL sgF r_fo) A_a d53_83 (lenOf own_pd35 rfl) (fun _ T10 L10 X10 hQ10 => ?_)
     obtain ⟨rfl, N10q, K10, B_a_10'⟩ := hQ10
     have N10 := Fr.app N3 N10q
     replace sgC := own_staK sgC K10 (allS (own_obE B_a.exa) (allS (SbOf.obb B_a) all0))
     replace sgA := own_staK sgA K10 (allS (own_obE B_a.exa) (allS (SbOf.obb B_a) all0))
     replace sgH := own_staK sgH K10 (allS (own_obE B_a.exa) (allS (SbOf.obb B_a) all0))
     replace sgL := own_staK sgL K10 (allS (own_obE B_a.exa) (allS (SbOf.obb B_a) all0))
     replace sgF := own_staK sgF K10 (allS (own_obE B_a.exa) (allS (SbOf.obb B_a) all0))
     have Sf_a' := Safe.keep K10 (allS Sf_a (allS Sf_b all0)) hR.1 Sf_a
     have Sf_b' := Safe.keep K10 (allS Sf_a (allS Sf_b all0)) hR.1 Sf_b
     replace hR := hR.trans (CHr.keep K10 (allS Sf_a (allS Sf_b all0)) hR.1)
     replace Sf_a := Sf_a'
     replace Sf_b := Sf_b'
     replace A_a := A_a.keep K10
     replace KP := KP.trans K10 (allS (Or.inl (List.mem_of_getElem? (i := 0) rfl)) (allS (Or.inl (List.mem_of_getElem? (i := 1) rfl)) all0))
     replace KL := KL.trans K10 (allS (Or.inr szL_a) (allS (Or.inr szL_b) all0))
     replace Z0 := Nat.le_trans Z0 K10.1
     replace hk := Nat.le_trans hk K10.1
     have B_a := B_a_10'
     show GG (fT T10 m 86 #[vr x, vr a, vi 0, vi c0] [(.ref a)])
     refine Gz (XS.pop X10.here hx rfl (hb hby d53_86) rfl rfl) ?_
     refine gG X10 hx hby d53_87 87 106 ?_
     show GG (fT T10 m 106 #[vr x, vr a, vi 0, vi c0] [])
     rw [← (show own_esc c0 = [(92 : Int32), (110 : Int32)] from by rw [hq10_0]; rfl)] at B_a
     exact J1_0 _ _ b _ _ (X10.mono (by decide) (by decide)) hS hk hZ hown hR N10 Z0 KP KL B_a g_b szL_b hyb_b ne_a_b
    ·show GG (fT T3 m 17 #[vr x, vr a, vi 0, vi c0] [(.int c0)])
     by_cases hq13_0 : c0 = 13
     ·show GG (fT T3 m 17 #[vr x, vr a, vi 0, vi c0] [(.int c0)])
      refine Gs (fun _ tk => own_lsw (g := (mkF m 17 #[vr x, vr a, vi 0, vi c0] [(.int c0)])) X3.here hx rfl (o := 73) (pc0 := 17) (pc' := 90) rfl (hb hby d53_17) rfl (by decide) (by rw [hq13_0]; decide) (by decide) (by decide) tk) ?_
      show GG (fT T3 m 90 #[vr x, vr a, vi 0, vi c0] [])
      have Sf_a : Safe Z consts_1 s.vm h0 a := Safe.exa hZ.alike A_a (by decide) (by decide)
      have Sf_b : Safe Z consts_1 s.vm h0 b := SbOf.safe hZ (own_EW2 hw) B_a
      refine gA X3 hx hby d53_90 rfl rfl rfl ?_
      have lt_a : a < h0.size := A_a.lt
      have lt_b : b < h0.size := B_a.ltb
      obtain ⟨c11, T11, h11, kk11, cb11, kc11, X11, e11, E11, hS, hk11, hZ, hown, A_c11, F_coder_c11, F_value_c11, V_cb11, -, -, hC11, hL11, hsf11, st11⟩ := ldcCH X3 hx hZ hown (gw hw 281 rfl) (own_strW hw) e3 hS hk (own_EW hw) (List.mem_of_getElem? (i := 3) rfl) hR.1 (vs := [(.int 92), (.int 114)]) (z := (2 : Int32)) ⟨by first | decide | rfl, by first | decide | rfl⟩ (by decide) (by decide) (g := (mkF m 91 #[vr x, vr a, vi 0, vi c0] [(.ref a)])) rfl (hb hby d53_91) (n := 8) (by decide) (by decide) (by decide) (by decide)
      replace B_a := B_a.ext E11
      replace A_a := A_a.ext E11
      replace sgC := sgC.ext E11
      replace sgA := sgA.ext E11
      replace sgH := sgH.ext E11
      replace sgL := sgL.ext E11
      replace sgF := sgF.ext E11
      replace T_x := T_x.ext E11
      replace KP := KP.ext E11
      replace KL := KL.ext E11
      replace Sf_a := hC11.safe lt_a Sf_a
      replace Sf_b := hC11.safe lt_b Sf_b
      replace hR := hR.trans hC11
      replace Z0 : n0 ≤ h11.size := Nat.le_trans Z0 E11.1
      replace hk := hk11
      have ne_a_c11 : a ≠ c11 := (hsf11 _ Sf_a).1
      have ne_a_cb11 : a ≠ cb11 := (hsf11 _ Sf_a).2
      have ne_b_c11 : b ≠ c11 := (hsf11 _ Sf_b).1
      have ne_b_cb11 : b ≠ cb11 := (hsf11 _ Sf_b).2
      refine Gs st11 ?_
      show GG (fT T11 m 93 #[vr x, vr a, vi 0, vi c0] [(.ref c11), (.ref a)])
      have T_c11 : StrOf Z h11 c11 [(92 : Int32), (114 : Int32)] := StrOf.latin A_c11 F_value_c11 F_coder_c11 V_cb11 (own_all2 ⟨by decide, by decide⟩ ⟨by decide, by decide⟩) rfl rfl (by decide)
      have V_cb11 : Arv Z h11 cb11 kc11 .byte (Int32.ofNat [(92 : Int32), (114 : Int32)].length) (latV [(92 : Int32), (114 : Int32)]) (.int 0) := V_cb11
      refine cVg X11 hx hZ hw hown hby hml e11 mN42 190 191 193 192 194 36 0 (rm_st l Z a0 hw [] a b ys c11 [(92 : Int32), (114 : Int32)] cb11 kc11 cz fo h11 n0 Z0 B_a A_a g_a g_b ne_a_b T_c11 A_c11 F_value_c11 F_coder_c11 V_cb11 (own_all2 ⟨by decide, by decide⟩ ⟨by decide, by decide⟩) (Ne.symm ne_b_cb11) (Ne.symm ne_b_c11) (Ne.symm ne_a_cb11) (Ne.symm ne_a_c11) (by show ys.length + 2 ≤ 15; omega) sgC hcz sgA sgH sgL sgF r_fo) A_a d53_93 (lenOf own_pd35 rfl) (fun _ T12 L12 X12 hQ12 => ?_)
      obtain ⟨rfl, N12q, K12, B_a_12'⟩ := hQ12
      have N12 := Fr.app N3 N12q
      replace sgC := own_staK sgC K12 (allS (own_obE B_a.exa) (allS (SbOf.obb B_a) all0))
      replace sgA := own_staK sgA K12 (allS (own_obE B_a.exa) (allS (SbOf.obb B_a) all0))
      replace sgH := own_staK sgH K12 (allS (own_obE B_a.exa) (allS (SbOf.obb B_a) all0))
      replace sgL := own_staK sgL K12 (allS (own_obE B_a.exa) (allS (SbOf.obb B_a) all0))
      replace sgF := own_staK sgF K12 (allS (own_obE B_a.exa) (allS (SbOf.obb B_a) all0))
      have Sf_a' := Safe.keep K12 (allS Sf_a (allS Sf_b all0)) hR.1 Sf_a
      have Sf_b' := Safe.keep K12 (allS Sf_a (allS Sf_b all0)) hR.1 Sf_b
      replace hR := hR.trans (CHr.keep K12 (allS Sf_a (allS Sf_b all0)) hR.1)
      replace Sf_a := Sf_a'
      replace Sf_b := Sf_b'
      replace A_a := A_a.keep K12
      replace KP := KP.trans K12 (allS (Or.inl (List.mem_of_getElem? (i := 0) rfl)) (allS (Or.inl (List.mem_of_getElem? (i := 1) rfl)) all0))
      replace KL := KL.trans K12 (allS (Or.inr szL_a) (allS (Or.inr szL_b) all0))
      replace Z0 := Nat.le_trans Z0 K12.1
      replace hk := Nat.le_trans hk K12.1
      have B_a := B_a_12'
      show GG (fT T12 m 96 #[vr x, vr a, vi 0, vi c0] [(.ref a)])
      refine Gz (XS.pop X12.here hx rfl (hb hby d53_96) rfl rfl) ?_
      refine gG X12 hx hby d53_97 97 106 ?_
      show GG (fT T12 m 106 #[vr x, vr a, vi 0, vi c0] [])
      rw [← (show own_esc c0 = [(92 : Int32), (114 : Int32)] from by rw [hq13_0]; rfl)] at B_a
      exact J1_0 _ _ b _ _ (X12.mono (by decide) (by decide)) hS hk hZ hown hR N12 Z0 KP KL B_a g_b szL_b hyb_b ne_a_b
     ·show GG (fT T3 m 17 #[vr x, vr a, vi 0, vi c0] [(.int c0)])
      refine Gs (fun _ tk => own_lsw (g := (mkF m 17 #[vr x, vr a, vi 0, vi c0] [(.int c0)])) X3.here hx rfl (o := 83) (pc0 := 17) (pc' := 100) rfl (hb hby d53_17) rfl (by decide) (own_lswD hq9_0 hq10_0 hq13_0 hq92_0) (by decide) (by decide) tk) ?_
      show GG (fT T3 m 100 #[vr x, vr a, vi 0, vi c0] [])
      refine gA X3 hx hby d53_100 rfl rfl rfl ?_
      refine gN X3 hx hby d53_101 rfl rfl ?_
      have kl1 := KL.1
      have kp1 := KP.1
      refine cVg X3 hx hZ hw hown hby hml e3 mN37 52 53 55 54 56 36 0 (rm_sc l Z a0 hw [] a b ys c0 cz fo h0 n0 Z0 B_a A_a g_a g_b ne_a_b hC0 (by omega) sgC hcz sgA sgH sgL sgF r_fo) A_a d53_102 (lenOf own_pd36 rfl) (fun _ T13 L13 X13 hQ13 => ?_)
      obtain ⟨y13, rfl, N13q, K13, B_a_13', g_y13_13', hyb_13', ne_a_y13_13'⟩ := hQ13
      have N13 := Fr.app N3 N13q
      replace sgC := own_staK sgC K13 (allS (own_obE B_a.exa) (allS (SbOf.obb B_a) all0))
      replace sgA := own_staK sgA K13 (allS (own_obE B_a.exa) (allS (SbOf.obb B_a) all0))
      replace sgH := own_staK sgH K13 (allS (own_obE B_a.exa) (allS (SbOf.obb B_a) all0))
      replace sgL := own_staK sgL K13 (allS (own_obE B_a.exa) (allS (SbOf.obb B_a) all0))
      replace sgF := own_staK sgF K13 (allS (own_obE B_a.exa) (allS (SbOf.obb B_a) all0))
      replace hR := hR.trans (CHr.keep K13 (allS (Safe.exa hZ.alike A_a (by decide) (by decide)) (allS (SbOf.safe hZ (own_EW2 hw) B_a) all0)) hR.1)
      replace A_a := A_a.keep K13
      replace KP := KP.trans K13 (allS (Or.inl (List.mem_of_getElem? (i := 0) rfl)) (allS (Or.inl (List.mem_of_getElem? (i := 1) rfl)) all0))
      replace KL := KL.trans K13 (allS (Or.inr szL_a) (allS (Or.inr szL_b) all0))
      replace Z0 := Nat.le_trans Z0 K13.1
      replace hk := Nat.le_trans hk K13.1
      have B_a := B_a_13'
      have g_y13 := g_y13_13'
      have hyb13 := hyb_13'
      have ne_a_y13 := ne_a_y13_13'
      show GG (fT T13 m 105 #[vr x, vr a, vi 0, vi c0] [(.ref a)])
      have szL_y13 : hL.size ≤ y13 := hyb13.elim (fun e => by rw [e]; exact szL_b) (fun q => Nat.le_trans kl1 q)
      have hyb_y13 : y13 = b ∨ h0.size ≤ y13 := hyb13.elim (fun e => by rw [e]; exact hyb_b) (fun q => Or.inr (Nat.le_trans kp1 q))
      refine Gz (XS.pop X13.here hx rfl (hb hby d53_105) rfl rfl) ?_
      show GG (fT T13 m 106 #[vr x, vr a, vi 0, vi c0] [])
      rw [← (show own_esc c0 = [c0] from by rw [own_esc, if_neg hq92_0, if_neg hq9_0, if_neg hq10_0, if_neg hq13_0])] at B_a
      exact J1_0 _ _ y13 _ _ (X13.mono (by decide) (by decide)) hS hk hZ hown hR N13 Z0 KP KL B_a g_y13 szL_y13 hyb_y13 ne_a_y13
 ·have hC0 : Chr c0 := hxC c0 (by simp)
  have hE0 := own_esc1 c0
  have hC1 : Chr c1 := hxC c1 (by simp)
  have hE1 := own_esc1 c1
  rw [own_escs2, List.length_append] at htot
  show GG (fT s₁ m 0 #[vr x, vr a, vu, vu] [])
  have T_x : StrOf Z h0 x [c0, c1] := hTL.keep KL all0
  refine gC X0 hx hby d53_0 ?_
  refine gs X0 hx hby d53_1 #[vr x, vr a, vi 0, vu] ?_
  refine gN X0 hx hby d53_2 rfl rfl ?_
  refine gA X0 hx hby d53_3 rfl rfl rfl ?_
  refine cV X0 hx hZ hw hown hby hml e0 mN2 163 126 128 127 129 9 1 (rs_len l Z a0 hw [] x [c0, c1] cz h0 n0 Z0 T_x sgC hcz) T_x.exa d53_4 (lenOf own_pd26 rfl) N0 (fun T14 L14 X14 e14 N14 => ?_)
  show GG (fT T14 m 7 #[vr x, vr a, vi 0, vu] [(.int 2), (.int 0)])
  refine gU X14 hx hby d53_7 (tlt (by decide : ((0 : Int32) < (2 : Int32)))).2.1 ?_
  refine gA X14 hx hby d53_10 rfl rfl rfl ?_
  refine gN X14 hx hby d53_11 rfl rfl ?_
  refine cV X14 hx hZ hw hown hby hml e14 mN10 188 140 142 141 143 9 0 (rs_chr l Z a0 hw [] x [c0, c1] (0 : Int32) c0 cz fo h0 n0 Z0 T_x sgC hcz (by first | assumption | decide) (own_il 0 _ (by decide) (by simp) T_x.len) rfl sgF r_fo sgA sgH sgL) T_x.exa d53_12 (lenOf own_pd34 rfl) N14 (fun T15 L15 X15 e15 N15 => ?_)
  show GG (fT T15 m 15 #[vr x, vr a, vi 0, vu] [(.int c0)])
  refine gs X15 hx hby d53_15 #[vr x, vr a, vi 0, vi c0] ?_
  refine gN X15 hx hby d53_16 rfl rfl ?_
  show GG (fT T15 m 17 #[vr x, vr a, vi 0, vi c0] [(.int c0)])
  have hb0 : ys.length ≤ 13 := by omega
  have J2_0 : ∀ (T : State) (L : List Loc) (y0 : Addr) (kk : Nat) (vM : Vm), Stand p l e ({ frames := 9, cells := 4, slots := 64, locals := 132 } : Room) (s.setVm vM) m #[(.ref x), (.ref a)] below meth c T L 2 32 → s.Since vM kk → kk ≤ T.heap.size → Z.Warmed39 (s.setVm vM).vm → (s.setVm vM).vm.findClass mN53.cls = some m.cls → CHr Z consts_1 s.vm h0 vM T.heap → Fr n0 L → n0 ≤ T.heap.size → Keep h0 T.heap [a, b] → Keep hL T.heap [] → SbOf Z T.heap a y0 (ys ++ own_esc c0) → n0 ≤ y0 → hL.size ≤ y0 → (y0 = b ∨ h0.size ≤ y0) → a ≠ y0 → Goes p e below (fun o u L => CHr Z consts_1 s.vm s.heap u.vm u.heap ∧ ReturnedEndW s o u L ({ frames := 9, cells := 4, slots := 64, locals := 132 } : Room).cells ({ frames := 9, cells := 4, slots := 64, locals := 132 } : Room).slots) (Q_rm_ae Z a b ys x [c0, c1] hL cz fo h0 n0) (T.setTop (mkF m 106 #[vr x, vr a, vi 0, vi c0] [])) := by
   intro T L y0 kk vM X hS hk hZ hown hR N Z0 KP KL B_a g_y0 szL_y0 hyb_y0 ne_a_y0
   have sgC := own_staK zsgC KP (allS hoba (allS hobb all0))
   have sgA := own_staK zsgA KP (allS hoba (allS hobb all0))
   have sgH := own_staK zsgH KP (allS hoba (allS hobb all0))
   have sgL := own_staK zsgL KP (allS hoba (allS hobb all0))
   have sgF := own_staK zsgF KP (allS hoba (allS hobb all0))
   have A_a := zA_a.keep KP
   have mem_y0 : y0 ∈ [a, b] ∨ h0.size ≤ y0 := hyb_y0.elim (fun e => Or.inl (by rw [e]; exact List.mem_of_getElem? (i := 1) rfl)) Or.inr
   show GG (fT T m 106 #[vr x, vr a, vi 0, vi c0] [])
   refine Gz (XS.iinc X.here hx rfl (hb hby d53_106) rfl (l' := #[vr x, vr a, vi ((0 : Int32) + (1 : Int32)), vi c0]) rfl) ?_
   show GG (fT T m 109 #[vr x, vr a, vi 1, vi c0] [])
   refine gG X hx hby d53_109 109 2 ?_
   show GG (fT T m 2 #[vr x, vr a, vi 1, vi c0] [])
   have T_x : StrOf Z T.heap x [c0, c1] := hTL.keep KL all0
   refine gN X hx hby d53_2 rfl rfl ?_
   refine gA X hx hby d53_3 rfl rfl rfl ?_
   refine cV X hx hZ hw hown hby hml rfl mN2 163 126 128 127 129 9 1 (rs_len l Z a0 hw [] x [c0, c1] cz T.heap n0 Z0 T_x sgC hcz) T_x.exa d53_4 (lenOf own_pd26 rfl) N (fun T16 L16 X16 e16 N16 => ?_)
   show GG (fT T16 m 7 #[vr x, vr a, vi 1, vi c0] [(.int 2), (.int 1)])
   refine gU X16 hx hby d53_7 (tlt (by decide : ((1 : Int32) < (2 : Int32)))).2.1 ?_
   refine gA X16 hx hby d53_10 rfl rfl rfl ?_
   refine gN X16 hx hby d53_11 rfl rfl ?_
   refine cV X16 hx hZ hw hown hby hml e16 mN10 188 140 142 141 143 9 0 (rs_chr l Z a0 hw [] x [c0, c1] (1 : Int32) c1 cz fo T.heap n0 Z0 T_x sgC hcz (by first | assumption | decide) (own_il 1 _ (by decide) (by simp) T_x.len) rfl sgF r_fo sgA sgH sgL) T_x.exa d53_12 (lenOf own_pd34 rfl) N16 (fun T17 L17 X17 e17 N17 => ?_)
   show GG (fT T17 m 15 #[vr x, vr a, vi 1, vi c0] [(.int c1)])
   refine gs X17 hx hby d53_15 #[vr x, vr a, vi 1, vi c1] ?_
   refine gN X17 hx hby d53_16 rfl rfl ?_
   show GG (fT T17 m 17 #[vr x, vr a, vi 1, vi c1] [(.int c1)])
   have hb1 : (ys ++ own_esc c0).length ≤ 13 := by rw [List.length_append]; omega
   have J2_1 : ∀ (T : State) (L : List Loc) (y1 : Addr) (kk : Nat) (vM : Vm), Stand p l e ({ frames := 9, cells := 4, slots := 64, locals := 132 } : Room) (s.setVm vM) m #[(.ref x), (.ref a)] below meth c T L 4 64 → s.Since vM kk → kk ≤ T.heap.size → Z.Warmed39 (s.setVm vM).vm → (s.setVm vM).vm.findClass mN53.cls = some m.cls → CHr Z consts_1 s.vm h0 vM T.heap → Fr n0 L → n0 ≤ T.heap.size → Keep h0 T.heap [a, b] → Keep hL T.heap [] → SbOf Z T.heap a y1 ((ys ++ own_esc c0) ++ own_esc c1) → n0 ≤ y1 → hL.size ≤ y1 → (y1 = b ∨ h0.size ≤ y1) → a ≠ y1 → Goes p e below (fun o u L => CHr Z consts_1 s.vm s.heap u.vm u.heap ∧ ReturnedEndW s o u L ({ frames := 9, cells := 4, slots := 64, locals := 132 } : Room).cells ({ frames := 9, cells := 4, slots := 64, locals := 132 } : Room).slots) (Q_rm_ae Z a b ys x [c0, c1] hL cz fo h0 n0) (T.setTop (mkF m 106 #[vr x, vr a, vi 1, vi c1] [])) := by
    intro T L y1 kk vM X hS hk hZ hown hR N Z0 KP KL B_a g_y1 szL_y1 hyb_y1 ne_a_y1
    have sgC := own_staK zsgC KP (allS hoba (allS hobb all0))
    have sgA := own_staK zsgA KP (allS hoba (allS hobb all0))
    have sgH := own_staK zsgH KP (allS hoba (allS hobb all0))
    have sgL := own_staK zsgL KP (allS hoba (allS hobb all0))
    have sgF := own_staK zsgF KP (allS hoba (allS hobb all0))
    have A_a := zA_a.keep KP
    have mem_y1 : y1 ∈ [a, b] ∨ h0.size ≤ y1 := hyb_y1.elim (fun e => Or.inl (by rw [e]; exact List.mem_of_getElem? (i := 1) rfl)) Or.inr
    show GG (fT T m 106 #[vr x, vr a, vi 1, vi c1] [])
    refine Gz (XS.iinc X.here hx rfl (hb hby d53_106) rfl (l' := #[vr x, vr a, vi ((1 : Int32) + (1 : Int32)), vi c1]) rfl) ?_
    show GG (fT T m 109 #[vr x, vr a, vi 2, vi c1] [])
    refine gG X hx hby d53_109 109 2 ?_
    show GG (fT T m 2 #[vr x, vr a, vi 2, vi c1] [])
    have T_x : StrOf Z T.heap x [c0, c1] := hTL.keep KL all0
    refine gN X hx hby d53_2 rfl rfl ?_
    refine gA X hx hby d53_3 rfl rfl rfl ?_
    refine cV X hx hZ hw hown hby hml rfl mN2 163 126 128 127 129 9 1 (rs_len l Z a0 hw [] x [c0, c1] cz T.heap n0 Z0 T_x sgC hcz) T_x.exa d53_4 (lenOf own_pd26 rfl) N (fun T18 L18 X18 e18 N18 => ?_)
    show GG (fT T18 m 7 #[vr x, vr a, vi 2, vi c1] [(.int 2), (.int 2)])
    refine gY X18 hx hby d53_7 7 112 (flt (by decide : ¬ ((2 : Int32) < (2 : Int32)))).2.1 ?_
    show GG (fT T18 m 112 #[vr x, vr a, vi 2, vi c1] [])
    have B_a : SbOf Z T.heap a y1 (ys ++ own_escs [c0, c1]) := by rw [own_escs2, ← List.append_assoc]; exact B_a
    refine Goes.retH X18 hS e18 hk hZ (own_EW hw) hh hR none (fun _ => rfl) hlk (by decide) (by decide) ?_ (fun fs hr => ?_)
    ·rw [e18]; exact ⟨y1, rfl, N18, KP, B_a, g_y1, hyb_y1, ne_a_y1⟩
    ·exact X18.returnOut hx hret (hb hby d53_112) hr
   by_cases hq92_1 : c1 = 92
   ·show GG (fT T17 m 17 #[vr x, vr a, vi 1, vi c1] [(.int c1)])
    refine Gs (fun _ tk => own_lsw (g := (mkF m 17 #[vr x, vr a, vi 1, vi c1] [(.int c1)])) X17.here hx rfl (o := 43) (pc0 := 17) (pc' := 60) rfl (hb hby d53_17) rfl (by decide) (by rw [hq92_1]; decide) (by decide) (by decide) tk) ?_
    show GG (fT T17 m 60 #[vr x, vr a, vi 1, vi c1] [])
    have Sf_a : Safe Z consts_1 vM T.heap a := Safe.exa hZ.alike A_a (by decide) (by decide)
    have Sf_y0 : Safe Z consts_1 vM T.heap y0 := SbOf.safe hZ (own_EW2 hw) B_a
    refine gA X17 hx hby d53_60 rfl rfl rfl ?_
    have lt_a : a < T.heap.size := A_a.lt
    have lt_y0 : y0 < T.heap.size := B_a.ltb
    obtain ⟨c19, T19, h19, kk19, cb19, kc19, X19, e19, E19, hS, hk19, hZ, hown, A_c19, F_coder_c19, F_value_c19, V_cb19, -, -, hC19, hL19, hsf19, st19⟩ := ldcCH X17 hx hZ hown (gw hw 274 rfl) (own_strW hw) e17 hS hk (own_EW hw) (List.mem_of_getElem? (i := 0) rfl) hR.1 (vs := [(.int 92), (.int 92)]) (z := (2 : Int32)) ⟨by first | decide | rfl, by first | decide | rfl⟩ (by decide) (by decide) (g := (mkF m 61 #[vr x, vr a, vi 1, vi c1] [(.ref a)])) rfl (hb hby d53_61) (n := 8) (by decide) (by decide) (by decide) (by decide)
    replace A_a := A_a.ext E19
    replace sgC := sgC.ext E19
    replace sgA := sgA.ext E19
    replace sgH := sgH.ext E19
    replace sgL := sgL.ext E19
    replace sgF := sgF.ext E19
    replace B_a := B_a.ext E19
    replace T_x := T_x.ext E19
    replace KP := KP.ext E19
    replace KL := KL.ext E19
    replace Sf_a := hC19.safe lt_a Sf_a
    replace Sf_y0 := hC19.safe lt_y0 Sf_y0
    replace hR := hR.trans hC19
    replace Z0 : n0 ≤ h19.size := Nat.le_trans Z0 E19.1
    replace hk := hk19
    have ne_a_c19 : a ≠ c19 := (hsf19 _ Sf_a).1
    have ne_a_cb19 : a ≠ cb19 := (hsf19 _ Sf_a).2
    have ne_y0_c19 : y0 ≠ c19 := (hsf19 _ Sf_y0).1
    have ne_y0_cb19 : y0 ≠ cb19 := (hsf19 _ Sf_y0).2
    refine Gs st19 ?_
    show GG (fT T19 m 63 #[vr x, vr a, vi 1, vi c1] [(.ref c19), (.ref a)])
    have T_c19 : StrOf Z h19 c19 [(92 : Int32), (92 : Int32)] := StrOf.latin A_c19 F_value_c19 F_coder_c19 V_cb19 (own_all2 ⟨by decide, by decide⟩ ⟨by decide, by decide⟩) rfl rfl (by decide)
    have V_cb19 : Arv Z h19 cb19 kc19 .byte (Int32.ofNat [(92 : Int32), (92 : Int32)].length) (latV [(92 : Int32), (92 : Int32)]) (.int 0) := V_cb19
    refine cVg X19 hx hZ hw hown hby hml e19 mN42 190 191 193 192 194 36 0 (rm_st l Z a0 hw [] a y0 (ys ++ own_esc c0) c19 [(92 : Int32), (92 : Int32)] cb19 kc19 cz fo h19 n0 Z0 B_a A_a g_a g_y0 ne_a_y0 T_c19 A_c19 F_value_c19 F_coder_c19 V_cb19 (own_all2 ⟨by decide, by decide⟩ ⟨by decide, by decide⟩) (Ne.symm ne_y0_cb19) (Ne.symm ne_y0_c19) (Ne.symm ne_a_cb19) (Ne.symm ne_a_c19) (by show (ys ++ own_esc c0).length + 2 ≤ 15; omega) sgC hcz sgA sgH sgL sgF r_fo) A_a d53_63 (lenOf own_pd35 rfl) (fun _ T20 L20 X20 hQ20 => ?_)
    obtain ⟨rfl, N20q, K20, B_a_20'⟩ := hQ20
    have N20 := Fr.app N17 N20q
    replace sgC := own_staK sgC K20 (allS (own_obE A_a) (allS (SbOf.obb B_a) all0))
    replace sgA := own_staK sgA K20 (allS (own_obE A_a) (allS (SbOf.obb B_a) all0))
    replace sgH := own_staK sgH K20 (allS (own_obE A_a) (allS (SbOf.obb B_a) all0))
    replace sgL := own_staK sgL K20 (allS (own_obE A_a) (allS (SbOf.obb B_a) all0))
    replace sgF := own_staK sgF K20 (allS (own_obE A_a) (allS (SbOf.obb B_a) all0))
    have Sf_a' := Safe.keep K20 (allS Sf_a (allS Sf_y0 all0)) hR.1 Sf_a
    have Sf_y0' := Safe.keep K20 (allS Sf_a (allS Sf_y0 all0)) hR.1 Sf_y0
    replace hR := hR.trans (CHr.keep K20 (allS Sf_a (allS Sf_y0 all0)) hR.1)
    replace Sf_a := Sf_a'
    replace Sf_y0 := Sf_y0'
    replace A_a := A_a.keep K20
    replace KP := KP.trans K20 (allS (Or.inl (List.mem_of_getElem? (i := 0) rfl)) (allS mem_y0 all0))
    replace KL := KL.trans K20 (allS (Or.inr szL_a) (allS (Or.inr szL_y0) all0))
    replace Z0 := Nat.le_trans Z0 K20.1
    replace hk := Nat.le_trans hk K20.1
    have B_a := B_a_20'
    show GG (fT T20 m 66 #[vr x, vr a, vi 1, vi c1] [(.ref a)])
    refine Gz (XS.pop X20.here hx rfl (hb hby d53_66) rfl rfl) ?_
    refine gG X20 hx hby d53_67 67 106 ?_
    show GG (fT T20 m 106 #[vr x, vr a, vi 1, vi c1] [])
    rw [← (show own_esc c1 = [(92 : Int32), (92 : Int32)] from by rw [hq92_1]; rfl)] at B_a
    exact J2_1 _ _ y0 _ _ (X20.mono (by decide) (by decide)) hS hk hZ hown hR N20 Z0 KP KL B_a g_y0 szL_y0 hyb_y0 ne_a_y0
   ·show GG (fT T17 m 17 #[vr x, vr a, vi 1, vi c1] [(.int c1)])
    by_cases hq9_1 : c1 = 9
    ·show GG (fT T17 m 17 #[vr x, vr a, vi 1, vi c1] [(.int c1)])
     refine Gs (fun _ tk => own_lsw (g := (mkF m 17 #[vr x, vr a, vi 1, vi c1] [(.int c1)])) X17.here hx rfl (o := 53) (pc0 := 17) (pc' := 70) rfl (hb hby d53_17) rfl (by decide) (by rw [hq9_1]; decide) (by decide) (by decide) tk) ?_
     show GG (fT T17 m 70 #[vr x, vr a, vi 1, vi c1] [])
     have Sf_a : Safe Z consts_1 vM T.heap a := Safe.exa hZ.alike A_a (by decide) (by decide)
     have Sf_y0 : Safe Z consts_1 vM T.heap y0 := SbOf.safe hZ (own_EW2 hw) B_a
     refine gA X17 hx hby d53_70 rfl rfl rfl ?_
     have lt_a : a < T.heap.size := A_a.lt
     have lt_y0 : y0 < T.heap.size := B_a.ltb
     obtain ⟨c21, T21, h21, kk21, cb21, kc21, X21, e21, E21, hS, hk21, hZ, hown, A_c21, F_coder_c21, F_value_c21, V_cb21, -, -, hC21, hL21, hsf21, st21⟩ := ldcCH X17 hx hZ hown (gw hw 189 rfl) (own_strW hw) e17 hS hk (own_EW hw) (List.mem_of_getElem? (i := 1) rfl) hR.1 (vs := [(.int 92), (.int 116)]) (z := (2 : Int32)) ⟨by first | decide | rfl, by first | decide | rfl⟩ (by decide) (by decide) (g := (mkF m 71 #[vr x, vr a, vi 1, vi c1] [(.ref a)])) rfl (hb hby d53_71) (n := 8) (by decide) (by decide) (by decide) (by decide)
     replace A_a := A_a.ext E21
     replace sgC := sgC.ext E21
     replace sgA := sgA.ext E21
     replace sgH := sgH.ext E21
     replace sgL := sgL.ext E21
     replace sgF := sgF.ext E21
     replace B_a := B_a.ext E21
     replace T_x := T_x.ext E21
     replace KP := KP.ext E21
     replace KL := KL.ext E21
     replace Sf_a := hC21.safe lt_a Sf_a
     replace Sf_y0 := hC21.safe lt_y0 Sf_y0
     replace hR := hR.trans hC21
     replace Z0 : n0 ≤ h21.size := Nat.le_trans Z0 E21.1
     replace hk := hk21
     have ne_a_c21 : a ≠ c21 := (hsf21 _ Sf_a).1
     have ne_a_cb21 : a ≠ cb21 := (hsf21 _ Sf_a).2
     have ne_y0_c21 : y0 ≠ c21 := (hsf21 _ Sf_y0).1
     have ne_y0_cb21 : y0 ≠ cb21 := (hsf21 _ Sf_y0).2
     refine Gs st21 ?_
     show GG (fT T21 m 73 #[vr x, vr a, vi 1, vi c1] [(.ref c21), (.ref a)])
     have T_c21 : StrOf Z h21 c21 [(92 : Int32), (116 : Int32)] := StrOf.latin A_c21 F_value_c21 F_coder_c21 V_cb21 (own_all2 ⟨by decide, by decide⟩ ⟨by decide, by decide⟩) rfl rfl (by decide)
     have V_cb21 : Arv Z h21 cb21 kc21 .byte (Int32.ofNat [(92 : Int32), (116 : Int32)].length) (latV [(92 : Int32), (116 : Int32)]) (.int 0) := V_cb21
     refine cVg X21 hx hZ hw hown hby hml e21 mN42 190 191 193 192 194 36 0 (rm_st l Z a0 hw [] a y0 (ys ++ own_esc c0) c21 [(92 : Int32), (116 : Int32)] cb21 kc21 cz fo h21 n0 Z0 B_a A_a g_a g_y0 ne_a_y0 T_c21 A_c21 F_value_c21 F_coder_c21 V_cb21 (own_all2 ⟨by decide, by decide⟩ ⟨by decide, by decide⟩) (Ne.symm ne_y0_cb21) (Ne.symm ne_y0_c21) (Ne.symm ne_a_cb21) (Ne.symm ne_a_c21) (by show (ys ++ own_esc c0).length + 2 ≤ 15; omega) sgC hcz sgA sgH sgL sgF r_fo) A_a d53_73 (lenOf own_pd35 rfl) (fun _ T22 L22 X22 hQ22 => ?_)
     obtain ⟨rfl, N22q, K22, B_a_22'⟩ := hQ22
     have N22 := Fr.app N17 N22q
     replace sgC := own_staK sgC K22 (allS (own_obE A_a) (allS (SbOf.obb B_a) all0))
     replace sgA := own_staK sgA K22 (allS (own_obE A_a) (allS (SbOf.obb B_a) all0))
     replace sgH := own_staK sgH K22 (allS (own_obE A_a) (allS (SbOf.obb B_a) all0))
     replace sgL := own_staK sgL K22 (allS (own_obE A_a) (allS (SbOf.obb B_a) all0))
     replace sgF := own_staK sgF K22 (allS (own_obE A_a) (allS (SbOf.obb B_a) all0))
     have Sf_a' := Safe.keep K22 (allS Sf_a (allS Sf_y0 all0)) hR.1 Sf_a
     have Sf_y0' := Safe.keep K22 (allS Sf_a (allS Sf_y0 all0)) hR.1 Sf_y0
     replace hR := hR.trans (CHr.keep K22 (allS Sf_a (allS Sf_y0 all0)) hR.1)
     replace Sf_a := Sf_a'
     replace Sf_y0 := Sf_y0'
     replace A_a := A_a.keep K22
     replace KP := KP.trans K22 (allS (Or.inl (List.mem_of_getElem? (i := 0) rfl)) (allS mem_y0 all0))
     replace KL := KL.trans K22 (allS (Or.inr szL_a) (allS (Or.inr szL_y0) all0))
     replace Z0 := Nat.le_trans Z0 K22.1
     replace hk := Nat.le_trans hk K22.1
     have B_a := B_a_22'
     show GG (fT T22 m 76 #[vr x, vr a, vi 1, vi c1] [(.ref a)])
     refine Gz (XS.pop X22.here hx rfl (hb hby d53_76) rfl rfl) ?_
     refine gG X22 hx hby d53_77 77 106 ?_
     show GG (fT T22 m 106 #[vr x, vr a, vi 1, vi c1] [])
     rw [← (show own_esc c1 = [(92 : Int32), (116 : Int32)] from by rw [hq9_1]; rfl)] at B_a
     exact J2_1 _ _ y0 _ _ (X22.mono (by decide) (by decide)) hS hk hZ hown hR N22 Z0 KP KL B_a g_y0 szL_y0 hyb_y0 ne_a_y0
    ·show GG (fT T17 m 17 #[vr x, vr a, vi 1, vi c1] [(.int c1)])
     by_cases hq10_1 : c1 = 10
     ·show GG (fT T17 m 17 #[vr x, vr a, vi 1, vi c1] [(.int c1)])
      refine Gs (fun _ tk => own_lsw (g := (mkF m 17 #[vr x, vr a, vi 1, vi c1] [(.int c1)])) X17.here hx rfl (o := 63) (pc0 := 17) (pc' := 80) rfl (hb hby d53_17) rfl (by decide) (by rw [hq10_1]; decide) (by decide) (by decide) tk) ?_
      show GG (fT T17 m 80 #[vr x, vr a, vi 1, vi c1] [])
      have Sf_a : Safe Z consts_1 vM T.heap a := Safe.exa hZ.alike A_a (by decide) (by decide)
      have Sf_y0 : Safe Z consts_1 vM T.heap y0 := SbOf.safe hZ (own_EW2 hw) B_a
      refine gA X17 hx hby d53_80 rfl rfl rfl ?_
      have lt_a : a < T.heap.size := A_a.lt
      have lt_y0 : y0 < T.heap.size := B_a.ltb
      obtain ⟨c23, T23, h23, kk23, cb23, kc23, X23, e23, E23, hS, hk23, hZ, hown, A_c23, F_coder_c23, F_value_c23, V_cb23, -, -, hC23, hL23, hsf23, st23⟩ := ldcCH X17 hx hZ hown (gw hw 279 rfl) (own_strW hw) e17 hS hk (own_EW hw) (List.mem_of_getElem? (i := 2) rfl) hR.1 (vs := [(.int 92), (.int 110)]) (z := (2 : Int32)) ⟨by first | decide | rfl, by first | decide | rfl⟩ (by decide) (by decide) (g := (mkF m 81 #[vr x, vr a, vi 1, vi c1] [(.ref a)])) rfl (hb hby d53_81) (n := 8) (by decide) (by decide) (by decide) (by decide)
      replace A_a := A_a.ext E23
      replace sgC := sgC.ext E23
      replace sgA := sgA.ext E23
      replace sgH := sgH.ext E23
      replace sgL := sgL.ext E23
      replace sgF := sgF.ext E23
      replace B_a := B_a.ext E23
      replace T_x := T_x.ext E23
      replace KP := KP.ext E23
      replace KL := KL.ext E23
      replace Sf_a := hC23.safe lt_a Sf_a
      replace Sf_y0 := hC23.safe lt_y0 Sf_y0
      replace hR := hR.trans hC23
      replace Z0 : n0 ≤ h23.size := Nat.le_trans Z0 E23.1
      replace hk := hk23
      have ne_a_c23 : a ≠ c23 := (hsf23 _ Sf_a).1
      have ne_a_cb23 : a ≠ cb23 := (hsf23 _ Sf_a).2
      have ne_y0_c23 : y0 ≠ c23 := (hsf23 _ Sf_y0).1
      have ne_y0_cb23 : y0 ≠ cb23 := (hsf23 _ Sf_y0).2
      refine Gs st23 ?_
      show GG (fT T23 m 83 #[vr x, vr a, vi 1, vi c1] [(.ref c23), (.ref a)])
      have T_c23 : StrOf Z h23 c23 [(92 : Int32), (110 : Int32)] := StrOf.latin A_c23 F_value_c23 F_coder_c23 V_cb23 (own_all2 ⟨by decide, by decide⟩ ⟨by decide, by decide⟩) rfl rfl (by decide)
      have V_cb23 : Arv Z h23 cb23 kc23 .byte (Int32.ofNat [(92 : Int32), (110 : Int32)].length) (latV [(92 : Int32), (110 : Int32)]) (.int 0) := V_cb23
      refine cVg X23 hx hZ hw hown hby hml e23 mN42 190 191 193 192 194 36 0 (rm_st l Z a0 hw [] a y0 (ys ++ own_esc c0) c23 [(92 : Int32), (110 : Int32)] cb23 kc23 cz fo h23 n0 Z0 B_a A_a g_a g_y0 ne_a_y0 T_c23 A_c23 F_value_c23 F_coder_c23 V_cb23 (own_all2 ⟨by decide, by decide⟩ ⟨by decide, by decide⟩) (Ne.symm ne_y0_cb23) (Ne.symm ne_y0_c23) (Ne.symm ne_a_cb23) (Ne.symm ne_a_c23) (by show (ys ++ own_esc c0).length + 2 ≤ 15; omega) sgC hcz sgA sgH sgL sgF r_fo) A_a d53_83 (lenOf own_pd35 rfl) (fun _ T24 L24 X24 hQ24 => ?_)
      obtain ⟨rfl, N24q, K24, B_a_24'⟩ := hQ24
      have N24 := Fr.app N17 N24q
      replace sgC := own_staK sgC K24 (allS (own_obE A_a) (allS (SbOf.obb B_a) all0))
      replace sgA := own_staK sgA K24 (allS (own_obE A_a) (allS (SbOf.obb B_a) all0))
      replace sgH := own_staK sgH K24 (allS (own_obE A_a) (allS (SbOf.obb B_a) all0))
      replace sgL := own_staK sgL K24 (allS (own_obE A_a) (allS (SbOf.obb B_a) all0))
      replace sgF := own_staK sgF K24 (allS (own_obE A_a) (allS (SbOf.obb B_a) all0))
      have Sf_a' := Safe.keep K24 (allS Sf_a (allS Sf_y0 all0)) hR.1 Sf_a
      have Sf_y0' := Safe.keep K24 (allS Sf_a (allS Sf_y0 all0)) hR.1 Sf_y0
      replace hR := hR.trans (CHr.keep K24 (allS Sf_a (allS Sf_y0 all0)) hR.1)
      replace Sf_a := Sf_a'
      replace Sf_y0 := Sf_y0'
      replace A_a := A_a.keep K24
      replace KP := KP.trans K24 (allS (Or.inl (List.mem_of_getElem? (i := 0) rfl)) (allS mem_y0 all0))
      replace KL := KL.trans K24 (allS (Or.inr szL_a) (allS (Or.inr szL_y0) all0))
      replace Z0 := Nat.le_trans Z0 K24.1
      replace hk := Nat.le_trans hk K24.1
      have B_a := B_a_24'
      show GG (fT T24 m 86 #[vr x, vr a, vi 1, vi c1] [(.ref a)])
      refine Gz (XS.pop X24.here hx rfl (hb hby d53_86) rfl rfl) ?_
      refine gG X24 hx hby d53_87 87 106 ?_
      show GG (fT T24 m 106 #[vr x, vr a, vi 1, vi c1] [])
      rw [← (show own_esc c1 = [(92 : Int32), (110 : Int32)] from by rw [hq10_1]; rfl)] at B_a
      exact J2_1 _ _ y0 _ _ (X24.mono (by decide) (by decide)) hS hk hZ hown hR N24 Z0 KP KL B_a g_y0 szL_y0 hyb_y0 ne_a_y0
     ·show GG (fT T17 m 17 #[vr x, vr a, vi 1, vi c1] [(.int c1)])
      by_cases hq13_1 : c1 = 13
      ·show GG (fT T17 m 17 #[vr x, vr a, vi 1, vi c1] [(.int c1)])
       refine Gs (fun _ tk => own_lsw (g := (mkF m 17 #[vr x, vr a, vi 1, vi c1] [(.int c1)])) X17.here hx rfl (o := 73) (pc0 := 17) (pc' := 90) rfl (hb hby d53_17) rfl (by decide) (by rw [hq13_1]; decide) (by decide) (by decide) tk) ?_
       show GG (fT T17 m 90 #[vr x, vr a, vi 1, vi c1] [])
       have Sf_a : Safe Z consts_1 vM T.heap a := Safe.exa hZ.alike A_a (by decide) (by decide)
       have Sf_y0 : Safe Z consts_1 vM T.heap y0 := SbOf.safe hZ (own_EW2 hw) B_a
       refine gA X17 hx hby d53_90 rfl rfl rfl ?_
       have lt_a : a < T.heap.size := A_a.lt
       have lt_y0 : y0 < T.heap.size := B_a.ltb
       obtain ⟨c25, T25, h25, kk25, cb25, kc25, X25, e25, E25, hS, hk25, hZ, hown, A_c25, F_coder_c25, F_value_c25, V_cb25, -, -, hC25, hL25, hsf25, st25⟩ := ldcCH X17 hx hZ hown (gw hw 281 rfl) (own_strW hw) e17 hS hk (own_EW hw) (List.mem_of_getElem? (i := 3) rfl) hR.1 (vs := [(.int 92), (.int 114)]) (z := (2 : Int32)) ⟨by first | decide | rfl, by first | decide | rfl⟩ (by decide) (by decide) (g := (mkF m 91 #[vr x, vr a, vi 1, vi c1] [(.ref a)])) rfl (hb hby d53_91) (n := 8) (by decide) (by decide) (by decide) (by decide)
       replace A_a := A_a.ext E25
       replace sgC := sgC.ext E25
       replace sgA := sgA.ext E25
       replace sgH := sgH.ext E25
       replace sgL := sgL.ext E25
       replace sgF := sgF.ext E25
       replace B_a := B_a.ext E25
       replace T_x := T_x.ext E25
       replace KP := KP.ext E25
       replace KL := KL.ext E25
       replace Sf_a := hC25.safe lt_a Sf_a
       replace Sf_y0 := hC25.safe lt_y0 Sf_y0
       replace hR := hR.trans hC25
       replace Z0 : n0 ≤ h25.size := Nat.le_trans Z0 E25.1
       replace hk := hk25
       have ne_a_c25 : a ≠ c25 := (hsf25 _ Sf_a).1
       have ne_a_cb25 : a ≠ cb25 := (hsf25 _ Sf_a).2
       have ne_y0_c25 : y0 ≠ c25 := (hsf25 _ Sf_y0).1
       have ne_y0_cb25 : y0 ≠ cb25 := (hsf25 _ Sf_y0).2
       refine Gs st25 ?_
       show GG (fT T25 m 93 #[vr x, vr a, vi 1, vi c1] [(.ref c25), (.ref a)])
       have T_c25 : StrOf Z h25 c25 [(92 : Int32), (114 : Int32)] := StrOf.latin A_c25 F_value_c25 F_coder_c25 V_cb25 (own_all2 ⟨by decide, by decide⟩ ⟨by decide, by decide⟩) rfl rfl (by decide)
       have V_cb25 : Arv Z h25 cb25 kc25 .byte (Int32.ofNat [(92 : Int32), (114 : Int32)].length) (latV [(92 : Int32), (114 : Int32)]) (.int 0) := V_cb25
       refine cVg X25 hx hZ hw hown hby hml e25 mN42 190 191 193 192 194 36 0 (rm_st l Z a0 hw [] a y0 (ys ++ own_esc c0) c25 [(92 : Int32), (114 : Int32)] cb25 kc25 cz fo h25 n0 Z0 B_a A_a g_a g_y0 ne_a_y0 T_c25 A_c25 F_value_c25 F_coder_c25 V_cb25 (own_all2 ⟨by decide, by decide⟩ ⟨by decide, by decide⟩) (Ne.symm ne_y0_cb25) (Ne.symm ne_y0_c25) (Ne.symm ne_a_cb25) (Ne.symm ne_a_c25) (by show (ys ++ own_esc c0).length + 2 ≤ 15; omega) sgC hcz sgA sgH sgL sgF r_fo) A_a d53_93 (lenOf own_pd35 rfl) (fun _ T26 L26 X26 hQ26 => ?_)
       obtain ⟨rfl, N26q, K26, B_a_26'⟩ := hQ26
       have N26 := Fr.app N17 N26q
       replace sgC := own_staK sgC K26 (allS (own_obE A_a) (allS (SbOf.obb B_a) all0))
       replace sgA := own_staK sgA K26 (allS (own_obE A_a) (allS (SbOf.obb B_a) all0))
       replace sgH := own_staK sgH K26 (allS (own_obE A_a) (allS (SbOf.obb B_a) all0))
       replace sgL := own_staK sgL K26 (allS (own_obE A_a) (allS (SbOf.obb B_a) all0))
       replace sgF := own_staK sgF K26 (allS (own_obE A_a) (allS (SbOf.obb B_a) all0))
       have Sf_a' := Safe.keep K26 (allS Sf_a (allS Sf_y0 all0)) hR.1 Sf_a
       replace hR := hR.trans (CHr.keep K26 (allS Sf_a (allS Sf_y0 all0)) hR.1)
       replace Sf_a := Sf_a'
       replace A_a := A_a.keep K26
       replace KP := KP.trans K26 (allS (Or.inl (List.mem_of_getElem? (i := 0) rfl)) (allS mem_y0 all0))
       replace KL := KL.trans K26 (allS (Or.inr szL_a) (allS (Or.inr szL_y0) all0))
       replace Z0 := Nat.le_trans Z0 K26.1
       replace hk := Nat.le_trans hk K26.1
       have B_a := B_a_26'
       show GG (fT T26 m 96 #[vr x, vr a, vi 1, vi c1] [(.ref a)])
       refine Gz (XS.pop X26.here hx rfl (hb hby d53_96) rfl rfl) ?_
       refine gG X26 hx hby d53_97 97 106 ?_
       show GG (fT T26 m 106 #[vr x, vr a, vi 1, vi c1] [])
       rw [← (show own_esc c1 = [(92 : Int32), (114 : Int32)] from by rw [hq13_1]; rfl)] at B_a
       exact J2_1 _ _ y0 _ _ (X26.mono (by decide) (by decide)) hS hk hZ hown hR N26 Z0 KP KL B_a g_y0 szL_y0 hyb_y0 ne_a_y0
      ·show GG (fT T17 m 17 #[vr x, vr a, vi 1, vi c1] [(.int c1)])
       refine Gs (fun _ tk => own_lsw (g := (mkF m 17 #[vr x, vr a, vi 1, vi c1] [(.int c1)])) X17.here hx rfl (o := 83) (pc0 := 17) (pc' := 100) rfl (hb hby d53_17) rfl (by decide) (own_lswD hq9_1 hq10_1 hq13_1 hq92_1) (by decide) (by decide) tk) ?_
       show GG (fT T17 m 100 #[vr x, vr a, vi 1, vi c1] [])
       refine gA X17 hx hby d53_100 rfl rfl rfl ?_
       refine gN X17 hx hby d53_101 rfl rfl ?_
       have kl1 := KL.1
       have kp1 := KP.1
       refine cVg X17 hx hZ hw hown hby hml e17 mN37 52 53 55 54 56 36 0 (rm_sc l Z a0 hw [] a y0 (ys ++ own_esc c0) c1 cz fo T.heap n0 Z0 B_a A_a g_a g_y0 ne_a_y0 hC1 (by omega) sgC hcz sgA sgH sgL sgF r_fo) A_a d53_102 (lenOf own_pd36 rfl) (fun _ T27 L27 X27 hQ27 => ?_)
       obtain ⟨y27, rfl, N27q, K27, B_a_27', g_y27_27', hyb_27', ne_a_y27_27'⟩ := hQ27
       have N27 := Fr.app N17 N27q
       replace sgC := own_staK sgC K27 (allS (own_obE A_a) (allS (SbOf.obb B_a) all0))
       replace sgA := own_staK sgA K27 (allS (own_obE A_a) (allS (SbOf.obb B_a) all0))
       replace sgH := own_staK sgH K27 (allS (own_obE A_a) (allS (SbOf.obb B_a) all0))
       replace sgL := own_staK sgL K27 (allS (own_obE A_a) (allS (SbOf.obb B_a) all0))
       replace sgF := own_staK sgF K27 (allS (own_obE A_a) (allS (SbOf.obb B_a) all0))
       replace hR := hR.trans (CHr.keep K27 (allS (Safe.exa hZ.alike A_a (by decide) (by decide)) (allS (SbOf.safe hZ (own_EW2 hw) B_a) all0)) hR.1)
       replace A_a := A_a.keep K27
       replace KP := KP.trans K27 (allS (Or.inl (List.mem_of_getElem? (i := 0) rfl)) (allS mem_y0 all0))
       replace KL := KL.trans K27 (allS (Or.inr szL_a) (allS (Or.inr szL_y0) all0))
       replace Z0 := Nat.le_trans Z0 K27.1
       replace hk := Nat.le_trans hk K27.1
       have B_a := B_a_27'
       have g_y27 := g_y27_27'
       have hyb27 := hyb_27'
       have ne_a_y27 := ne_a_y27_27'
       show GG (fT T27 m 105 #[vr x, vr a, vi 1, vi c1] [(.ref a)])
       have szL_y27 : hL.size ≤ y27 := hyb27.elim (fun e => by rw [e]; exact szL_y0) (fun q => Nat.le_trans kl1 q)
       have hyb_y27 : y27 = b ∨ h0.size ≤ y27 := hyb27.elim (fun e => by rw [e]; exact hyb_y0) (fun q => Or.inr (Nat.le_trans kp1 q))
       refine Gz (XS.pop X27.here hx rfl (hb hby d53_105) rfl rfl) ?_
       show GG (fT T27 m 106 #[vr x, vr a, vi 1, vi c1] [])
       rw [← (show own_esc c1 = [c1] from by rw [own_esc, if_neg hq92_1, if_neg hq9_1, if_neg hq10_1, if_neg hq13_1])] at B_a
       exact J2_1 _ _ y27 _ _ (X27.mono (by decide) (by decide)) hS hk hZ hown hR N27 Z0 KP KL B_a g_y27 szL_y27 hyb_y27 ne_a_y27
  by_cases hq92_0 : c0 = 92
  ·show GG (fT T15 m 17 #[vr x, vr a, vi 0, vi c0] [(.int c0)])
   refine Gs (fun _ tk => own_lsw (g := (mkF m 17 #[vr x, vr a, vi 0, vi c0] [(.int c0)])) X15.here hx rfl (o := 43) (pc0 := 17) (pc' := 60) rfl (hb hby d53_17) rfl (by decide) (by rw [hq92_0]; decide) (by decide) (by decide) tk) ?_
   show GG (fT T15 m 60 #[vr x, vr a, vi 0, vi c0] [])
   have Sf_a : Safe Z consts_1 s.vm h0 a := Safe.exa hZ.alike A_a (by decide) (by decide)
   have Sf_b : Safe Z consts_1 s.vm h0 b := SbOf.safe hZ (own_EW2 hw) B_a
   refine gA X15 hx hby d53_60 rfl rfl rfl ?_
   have lt_a : a < h0.size := A_a.lt
   have lt_b : b < h0.size := B_a.ltb
   obtain ⟨c28, T28, h28, kk28, cb28, kc28, X28, e28, E28, hS, hk28, hZ, hown, A_c28, F_coder_c28, F_value_c28, V_cb28, -, -, hC28, hL28, hsf28, st28⟩ := ldcCH X15 hx hZ hown (gw hw 274 rfl) (own_strW hw) e15 hS hk (own_EW hw) (List.mem_of_getElem? (i := 0) rfl) hR.1 (vs := [(.int 92), (.int 92)]) (z := (2 : Int32)) ⟨by first | decide | rfl, by first | decide | rfl⟩ (by decide) (by decide) (g := (mkF m 61 #[vr x, vr a, vi 0, vi c0] [(.ref a)])) rfl (hb hby d53_61) (n := 8) (by decide) (by decide) (by decide) (by decide)
   replace B_a := B_a.ext E28
   replace A_a := A_a.ext E28
   replace sgC := sgC.ext E28
   replace sgA := sgA.ext E28
   replace sgH := sgH.ext E28
   replace sgL := sgL.ext E28
   replace sgF := sgF.ext E28
   replace T_x := T_x.ext E28
   replace KP := KP.ext E28
   replace KL := KL.ext E28
   replace Sf_a := hC28.safe lt_a Sf_a
   replace Sf_b := hC28.safe lt_b Sf_b
   replace hR := hR.trans hC28
   replace Z0 : n0 ≤ h28.size := Nat.le_trans Z0 E28.1
   replace hk := hk28
   have ne_a_c28 : a ≠ c28 := (hsf28 _ Sf_a).1
   have ne_a_cb28 : a ≠ cb28 := (hsf28 _ Sf_a).2
   have ne_b_c28 : b ≠ c28 := (hsf28 _ Sf_b).1
   have ne_b_cb28 : b ≠ cb28 := (hsf28 _ Sf_b).2
   refine Gs st28 ?_
   show GG (fT T28 m 63 #[vr x, vr a, vi 0, vi c0] [(.ref c28), (.ref a)])
   have T_c28 : StrOf Z h28 c28 [(92 : Int32), (92 : Int32)] := StrOf.latin A_c28 F_value_c28 F_coder_c28 V_cb28 (own_all2 ⟨by decide, by decide⟩ ⟨by decide, by decide⟩) rfl rfl (by decide)
   have V_cb28 : Arv Z h28 cb28 kc28 .byte (Int32.ofNat [(92 : Int32), (92 : Int32)].length) (latV [(92 : Int32), (92 : Int32)]) (.int 0) := V_cb28
   refine cVg X28 hx hZ hw hown hby hml e28 mN42 190 191 193 192 194 36 0 (rm_st l Z a0 hw [] a b ys c28 [(92 : Int32), (92 : Int32)] cb28 kc28 cz fo h28 n0 Z0 B_a A_a g_a g_b ne_a_b T_c28 A_c28 F_value_c28 F_coder_c28 V_cb28 (own_all2 ⟨by decide, by decide⟩ ⟨by decide, by decide⟩) (Ne.symm ne_b_cb28) (Ne.symm ne_b_c28) (Ne.symm ne_a_cb28) (Ne.symm ne_a_c28) (by show ys.length + 2 ≤ 15; omega) sgC hcz sgA sgH sgL sgF r_fo) A_a d53_63 (lenOf own_pd35 rfl) (fun _ T29 L29 X29 hQ29 => ?_)
   obtain ⟨rfl, N29q, K29, B_a_29'⟩ := hQ29
   have N29 := Fr.app N15 N29q
   replace sgC := own_staK sgC K29 (allS (own_obE B_a.exa) (allS (SbOf.obb B_a) all0))
   replace sgA := own_staK sgA K29 (allS (own_obE B_a.exa) (allS (SbOf.obb B_a) all0))
   replace sgH := own_staK sgH K29 (allS (own_obE B_a.exa) (allS (SbOf.obb B_a) all0))
   replace sgL := own_staK sgL K29 (allS (own_obE B_a.exa) (allS (SbOf.obb B_a) all0))
   replace sgF := own_staK sgF K29 (allS (own_obE B_a.exa) (allS (SbOf.obb B_a) all0))
   have Sf_a' := Safe.keep K29 (allS Sf_a (allS Sf_b all0)) hR.1 Sf_a
   have Sf_b' := Safe.keep K29 (allS Sf_a (allS Sf_b all0)) hR.1 Sf_b
   replace hR := hR.trans (CHr.keep K29 (allS Sf_a (allS Sf_b all0)) hR.1)
   replace Sf_a := Sf_a'
   replace Sf_b := Sf_b'
   replace A_a := A_a.keep K29
   replace KP := KP.trans K29 (allS (Or.inl (List.mem_of_getElem? (i := 0) rfl)) (allS (Or.inl (List.mem_of_getElem? (i := 1) rfl)) all0))
   replace KL := KL.trans K29 (allS (Or.inr szL_a) (allS (Or.inr szL_b) all0))
   replace Z0 := Nat.le_trans Z0 K29.1
   replace hk := Nat.le_trans hk K29.1
   have B_a := B_a_29'
   show GG (fT T29 m 66 #[vr x, vr a, vi 0, vi c0] [(.ref a)])
   refine Gz (XS.pop X29.here hx rfl (hb hby d53_66) rfl rfl) ?_
   refine gG X29 hx hby d53_67 67 106 ?_
   show GG (fT T29 m 106 #[vr x, vr a, vi 0, vi c0] [])
   rw [← (show own_esc c0 = [(92 : Int32), (92 : Int32)] from by rw [hq92_0]; rfl)] at B_a
   exact J2_0 _ _ b _ _ (X29.mono (by decide) (by decide)) hS hk hZ hown hR N29 Z0 KP KL B_a g_b szL_b hyb_b ne_a_b
  ·show GG (fT T15 m 17 #[vr x, vr a, vi 0, vi c0] [(.int c0)])
   by_cases hq9_0 : c0 = 9
   ·show GG (fT T15 m 17 #[vr x, vr a, vi 0, vi c0] [(.int c0)])
    refine Gs (fun _ tk => own_lsw (g := (mkF m 17 #[vr x, vr a, vi 0, vi c0] [(.int c0)])) X15.here hx rfl (o := 53) (pc0 := 17) (pc' := 70) rfl (hb hby d53_17) rfl (by decide) (by rw [hq9_0]; decide) (by decide) (by decide) tk) ?_
    show GG (fT T15 m 70 #[vr x, vr a, vi 0, vi c0] [])
    have Sf_a : Safe Z consts_1 s.vm h0 a := Safe.exa hZ.alike A_a (by decide) (by decide)
    have Sf_b : Safe Z consts_1 s.vm h0 b := SbOf.safe hZ (own_EW2 hw) B_a
    refine gA X15 hx hby d53_70 rfl rfl rfl ?_
    have lt_a : a < h0.size := A_a.lt
    have lt_b : b < h0.size := B_a.ltb
    obtain ⟨c30, T30, h30, kk30, cb30, kc30, X30, e30, E30, hS, hk30, hZ, hown, A_c30, F_coder_c30, F_value_c30, V_cb30, -, -, hC30, hL30, hsf30, st30⟩ := ldcCH X15 hx hZ hown (gw hw 189 rfl) (own_strW hw) e15 hS hk (own_EW hw) (List.mem_of_getElem? (i := 1) rfl) hR.1 (vs := [(.int 92), (.int 116)]) (z := (2 : Int32)) ⟨by first | decide | rfl, by first | decide | rfl⟩ (by decide) (by decide) (g := (mkF m 71 #[vr x, vr a, vi 0, vi c0] [(.ref a)])) rfl (hb hby d53_71) (n := 8) (by decide) (by decide) (by decide) (by decide)
    replace B_a := B_a.ext E30
    replace A_a := A_a.ext E30
    replace sgC := sgC.ext E30
    replace sgA := sgA.ext E30
    replace sgH := sgH.ext E30
    replace sgL := sgL.ext E30
    replace sgF := sgF.ext E30
    replace T_x := T_x.ext E30
    replace KP := KP.ext E30
    replace KL := KL.ext E30
    replace Sf_a := hC30.safe lt_a Sf_a
    replace Sf_b := hC30.safe lt_b Sf_b
    replace hR := hR.trans hC30
    replace Z0 : n0 ≤ h30.size := Nat.le_trans Z0 E30.1
    replace hk := hk30
    have ne_a_c30 : a ≠ c30 := (hsf30 _ Sf_a).1
    have ne_a_cb30 : a ≠ cb30 := (hsf30 _ Sf_a).2
    have ne_b_c30 : b ≠ c30 := (hsf30 _ Sf_b).1
    have ne_b_cb30 : b ≠ cb30 := (hsf30 _ Sf_b).2
    refine Gs st30 ?_
    show GG (fT T30 m 73 #[vr x, vr a, vi 0, vi c0] [(.ref c30), (.ref a)])
    have T_c30 : StrOf Z h30 c30 [(92 : Int32), (116 : Int32)] := StrOf.latin A_c30 F_value_c30 F_coder_c30 V_cb30 (own_all2 ⟨by decide, by decide⟩ ⟨by decide, by decide⟩) rfl rfl (by decide)
    have V_cb30 : Arv Z h30 cb30 kc30 .byte (Int32.ofNat [(92 : Int32), (116 : Int32)].length) (latV [(92 : Int32), (116 : Int32)]) (.int 0) := V_cb30
    refine cVg X30 hx hZ hw hown hby hml e30 mN42 190 191 193 192 194 36 0 (rm_st l Z a0 hw [] a b ys c30 [(92 : Int32), (116 : Int32)] cb30 kc30 cz fo h30 n0 Z0 B_a A_a g_a g_b ne_a_b T_c30 A_c30 F_value_c30 F_coder_c30 V_cb30 (own_all2 ⟨by decide, by decide⟩ ⟨by decide, by decide⟩) (Ne.symm ne_b_cb30) (Ne.symm ne_b_c30) (Ne.symm ne_a_cb30) (Ne.symm ne_a_c30) (by show ys.length + 2 ≤ 15; omega) sgC hcz sgA sgH sgL sgF r_fo) A_a d53_73 (lenOf own_pd35 rfl) (fun _ T31 L31 X31 hQ31 => ?_)
    obtain ⟨rfl, N31q, K31, B_a_31'⟩ := hQ31
    have N31 := Fr.app N15 N31q
    replace sgC := own_staK sgC K31 (allS (own_obE B_a.exa) (allS (SbOf.obb B_a) all0))
    replace sgA := own_staK sgA K31 (allS (own_obE B_a.exa) (allS (SbOf.obb B_a) all0))
    replace sgH := own_staK sgH K31 (allS (own_obE B_a.exa) (allS (SbOf.obb B_a) all0))
    replace sgL := own_staK sgL K31 (allS (own_obE B_a.exa) (allS (SbOf.obb B_a) all0))
    replace sgF := own_staK sgF K31 (allS (own_obE B_a.exa) (allS (SbOf.obb B_a) all0))
    have Sf_a' := Safe.keep K31 (allS Sf_a (allS Sf_b all0)) hR.1 Sf_a
    have Sf_b' := Safe.keep K31 (allS Sf_a (allS Sf_b all0)) hR.1 Sf_b
    replace hR := hR.trans (CHr.keep K31 (allS Sf_a (allS Sf_b all0)) hR.1)
    replace Sf_a := Sf_a'
    replace Sf_b := Sf_b'
    replace A_a := A_a.keep K31
    replace KP := KP.trans K31 (allS (Or.inl (List.mem_of_getElem? (i := 0) rfl)) (allS (Or.inl (List.mem_of_getElem? (i := 1) rfl)) all0))
    replace KL := KL.trans K31 (allS (Or.inr szL_a) (allS (Or.inr szL_b) all0))
    replace Z0 := Nat.le_trans Z0 K31.1
    replace hk := Nat.le_trans hk K31.1
    have B_a := B_a_31'
    show GG (fT T31 m 76 #[vr x, vr a, vi 0, vi c0] [(.ref a)])
    refine Gz (XS.pop X31.here hx rfl (hb hby d53_76) rfl rfl) ?_
    refine gG X31 hx hby d53_77 77 106 ?_
    show GG (fT T31 m 106 #[vr x, vr a, vi 0, vi c0] [])
    rw [← (show own_esc c0 = [(92 : Int32), (116 : Int32)] from by rw [hq9_0]; rfl)] at B_a
    exact J2_0 _ _ b _ _ (X31.mono (by decide) (by decide)) hS hk hZ hown hR N31 Z0 KP KL B_a g_b szL_b hyb_b ne_a_b
   ·show GG (fT T15 m 17 #[vr x, vr a, vi 0, vi c0] [(.int c0)])
    by_cases hq10_0 : c0 = 10
    ·show GG (fT T15 m 17 #[vr x, vr a, vi 0, vi c0] [(.int c0)])
     refine Gs (fun _ tk => own_lsw (g := (mkF m 17 #[vr x, vr a, vi 0, vi c0] [(.int c0)])) X15.here hx rfl (o := 63) (pc0 := 17) (pc' := 80) rfl (hb hby d53_17) rfl (by decide) (by rw [hq10_0]; decide) (by decide) (by decide) tk) ?_
     show GG (fT T15 m 80 #[vr x, vr a, vi 0, vi c0] [])
     have Sf_a : Safe Z consts_1 s.vm h0 a := Safe.exa hZ.alike A_a (by decide) (by decide)
     have Sf_b : Safe Z consts_1 s.vm h0 b := SbOf.safe hZ (own_EW2 hw) B_a
     refine gA X15 hx hby d53_80 rfl rfl rfl ?_
     have lt_a : a < h0.size := A_a.lt
     have lt_b : b < h0.size := B_a.ltb
     obtain ⟨c32, T32, h32, kk32, cb32, kc32, X32, e32, E32, hS, hk32, hZ, hown, A_c32, F_coder_c32, F_value_c32, V_cb32, -, -, hC32, hL32, hsf32, st32⟩ := ldcCH X15 hx hZ hown (gw hw 279 rfl) (own_strW hw) e15 hS hk (own_EW hw) (List.mem_of_getElem? (i := 2) rfl) hR.1 (vs := [(.int 92), (.int 110)]) (z := (2 : Int32)) ⟨by first | decide | rfl, by first | decide | rfl⟩ (by decide) (by decide) (g := (mkF m 81 #[vr x, vr a, vi 0, vi c0] [(.ref a)])) rfl (hb hby d53_81) (n := 8) (by decide) (by decide) (by decide) (by decide)
     replace B_a := B_a.ext E32
     replace A_a := A_a.ext E32
     replace sgC := sgC.ext E32
     replace sgA := sgA.ext E32
     replace sgH := sgH.ext E32
     replace sgL := sgL.ext E32
     replace sgF := sgF.ext E32
     replace T_x := T_x.ext E32
     replace KP := KP.ext E32
     replace KL := KL.ext E32
     replace Sf_a := hC32.safe lt_a Sf_a
     replace Sf_b := hC32.safe lt_b Sf_b
     replace hR := hR.trans hC32
     replace Z0 : n0 ≤ h32.size := Nat.le_trans Z0 E32.1
     replace hk := hk32
     have ne_a_c32 : a ≠ c32 := (hsf32 _ Sf_a).1
     have ne_a_cb32 : a ≠ cb32 := (hsf32 _ Sf_a).2
     have ne_b_c32 : b ≠ c32 := (hsf32 _ Sf_b).1
     have ne_b_cb32 : b ≠ cb32 := (hsf32 _ Sf_b).2
     refine Gs st32 ?_
     show GG (fT T32 m 83 #[vr x, vr a, vi 0, vi c0] [(.ref c32), (.ref a)])
     have T_c32 : StrOf Z h32 c32 [(92 : Int32), (110 : Int32)] := StrOf.latin A_c32 F_value_c32 F_coder_c32 V_cb32 (own_all2 ⟨by decide, by decide⟩ ⟨by decide, by decide⟩) rfl rfl (by decide)
     have V_cb32 : Arv Z h32 cb32 kc32 .byte (Int32.ofNat [(92 : Int32), (110 : Int32)].length) (latV [(92 : Int32), (110 : Int32)]) (.int 0) := V_cb32
     refine cVg X32 hx hZ hw hown hby hml e32 mN42 190 191 193 192 194 36 0 (rm_st l Z a0 hw [] a b ys c32 [(92 : Int32), (110 : Int32)] cb32 kc32 cz fo h32 n0 Z0 B_a A_a g_a g_b ne_a_b T_c32 A_c32 F_value_c32 F_coder_c32 V_cb32 (own_all2 ⟨by decide, by decide⟩ ⟨by decide, by decide⟩) (Ne.symm ne_b_cb32) (Ne.symm ne_b_c32) (Ne.symm ne_a_cb32) (Ne.symm ne_a_c32) (by show ys.length + 2 ≤ 15; omega) sgC hcz sgA sgH sgL sgF r_fo) A_a d53_83 (lenOf own_pd35 rfl) (fun _ T33 L33 X33 hQ33 => ?_)
     obtain ⟨rfl, N33q, K33, B_a_33'⟩ := hQ33
     have N33 := Fr.app N15 N33q
     replace sgC := own_staK sgC K33 (allS (own_obE B_a.exa) (allS (SbOf.obb B_a) all0))
     replace sgA := own_staK sgA K33 (allS (own_obE B_a.exa) (allS (SbOf.obb B_a) all0))
     replace sgH := own_staK sgH K33 (allS (own_obE B_a.exa) (allS (SbOf.obb B_a) all0))
     replace sgL := own_staK sgL K33 (allS (own_obE B_a.exa) (allS (SbOf.obb B_a) all0))
     replace sgF := own_staK sgF K33 (allS (own_obE B_a.exa) (allS (SbOf.obb B_a) all0))
     have Sf_a' := Safe.keep K33 (allS Sf_a (allS Sf_b all0)) hR.1 Sf_a
     have Sf_b' := Safe.keep K33 (allS Sf_a (allS Sf_b all0)) hR.1 Sf_b
     replace hR := hR.trans (CHr.keep K33 (allS Sf_a (allS Sf_b all0)) hR.1)
     replace Sf_a := Sf_a'
     replace Sf_b := Sf_b'
     replace A_a := A_a.keep K33
     replace KP := KP.trans K33 (allS (Or.inl (List.mem_of_getElem? (i := 0) rfl)) (allS (Or.inl (List.mem_of_getElem? (i := 1) rfl)) all0))
     replace KL := KL.trans K33 (allS (Or.inr szL_a) (allS (Or.inr szL_b) all0))
     replace Z0 := Nat.le_trans Z0 K33.1
     replace hk := Nat.le_trans hk K33.1
     have B_a := B_a_33'
     show GG (fT T33 m 86 #[vr x, vr a, vi 0, vi c0] [(.ref a)])
     refine Gz (XS.pop X33.here hx rfl (hb hby d53_86) rfl rfl) ?_
     refine gG X33 hx hby d53_87 87 106 ?_
     show GG (fT T33 m 106 #[vr x, vr a, vi 0, vi c0] [])
     rw [← (show own_esc c0 = [(92 : Int32), (110 : Int32)] from by rw [hq10_0]; rfl)] at B_a
     exact J2_0 _ _ b _ _ (X33.mono (by decide) (by decide)) hS hk hZ hown hR N33 Z0 KP KL B_a g_b szL_b hyb_b ne_a_b
    ·show GG (fT T15 m 17 #[vr x, vr a, vi 0, vi c0] [(.int c0)])
     by_cases hq13_0 : c0 = 13
     ·show GG (fT T15 m 17 #[vr x, vr a, vi 0, vi c0] [(.int c0)])
      refine Gs (fun _ tk => own_lsw (g := (mkF m 17 #[vr x, vr a, vi 0, vi c0] [(.int c0)])) X15.here hx rfl (o := 73) (pc0 := 17) (pc' := 90) rfl (hb hby d53_17) rfl (by decide) (by rw [hq13_0]; decide) (by decide) (by decide) tk) ?_
      show GG (fT T15 m 90 #[vr x, vr a, vi 0, vi c0] [])
      have Sf_a : Safe Z consts_1 s.vm h0 a := Safe.exa hZ.alike A_a (by decide) (by decide)
      have Sf_b : Safe Z consts_1 s.vm h0 b := SbOf.safe hZ (own_EW2 hw) B_a
      refine gA X15 hx hby d53_90 rfl rfl rfl ?_
      have lt_a : a < h0.size := A_a.lt
      have lt_b : b < h0.size := B_a.ltb
      obtain ⟨c34, T34, h34, kk34, cb34, kc34, X34, e34, E34, hS, hk34, hZ, hown, A_c34, F_coder_c34, F_value_c34, V_cb34, -, -, hC34, hL34, hsf34, st34⟩ := ldcCH X15 hx hZ hown (gw hw 281 rfl) (own_strW hw) e15 hS hk (own_EW hw) (List.mem_of_getElem? (i := 3) rfl) hR.1 (vs := [(.int 92), (.int 114)]) (z := (2 : Int32)) ⟨by first | decide | rfl, by first | decide | rfl⟩ (by decide) (by decide) (g := (mkF m 91 #[vr x, vr a, vi 0, vi c0] [(.ref a)])) rfl (hb hby d53_91) (n := 8) (by decide) (by decide) (by decide) (by decide)
      replace B_a := B_a.ext E34
      replace A_a := A_a.ext E34
      replace sgC := sgC.ext E34
      replace sgA := sgA.ext E34
      replace sgH := sgH.ext E34
      replace sgL := sgL.ext E34
      replace sgF := sgF.ext E34
      replace T_x := T_x.ext E34
      replace KP := KP.ext E34
      replace KL := KL.ext E34
      replace Sf_a := hC34.safe lt_a Sf_a
      replace Sf_b := hC34.safe lt_b Sf_b
      replace hR := hR.trans hC34
      replace Z0 : n0 ≤ h34.size := Nat.le_trans Z0 E34.1
      replace hk := hk34
      have ne_a_c34 : a ≠ c34 := (hsf34 _ Sf_a).1
      have ne_a_cb34 : a ≠ cb34 := (hsf34 _ Sf_a).2
      have ne_b_c34 : b ≠ c34 := (hsf34 _ Sf_b).1
      have ne_b_cb34 : b ≠ cb34 := (hsf34 _ Sf_b).2
      refine Gs st34 ?_
      show GG (fT T34 m 93 #[vr x, vr a, vi 0, vi c0] [(.ref c34), (.ref a)])
      have T_c34 : StrOf Z h34 c34 [(92 : Int32), (114 : Int32)] := StrOf.latin A_c34 F_value_c34 F_coder_c34 V_cb34 (own_all2 ⟨by decide, by decide⟩ ⟨by decide, by decide⟩) rfl rfl (by decide)
      have V_cb34 : Arv Z h34 cb34 kc34 .byte (Int32.ofNat [(92 : Int32), (114 : Int32)].length) (latV [(92 : Int32), (114 : Int32)]) (.int 0) := V_cb34
      refine cVg X34 hx hZ hw hown hby hml e34 mN42 190 191 193 192 194 36 0 (rm_st l Z a0 hw [] a b ys c34 [(92 : Int32), (114 : Int32)] cb34 kc34 cz fo h34 n0 Z0 B_a A_a g_a g_b ne_a_b T_c34 A_c34 F_value_c34 F_coder_c34 V_cb34 (own_all2 ⟨by decide, by decide⟩ ⟨by decide, by decide⟩) (Ne.symm ne_b_cb34) (Ne.symm ne_b_c34) (Ne.symm ne_a_cb34) (Ne.symm ne_a_c34) (by show ys.length + 2 ≤ 15; omega) sgC hcz sgA sgH sgL sgF r_fo) A_a d53_93 (lenOf own_pd35 rfl) (fun _ T35 L35 X35 hQ35 => ?_)
      obtain ⟨rfl, N35q, K35, B_a_35'⟩ := hQ35
      have N35 := Fr.app N15 N35q
      replace sgC := own_staK sgC K35 (allS (own_obE B_a.exa) (allS (SbOf.obb B_a) all0))
      replace sgA := own_staK sgA K35 (allS (own_obE B_a.exa) (allS (SbOf.obb B_a) all0))
      replace sgH := own_staK sgH K35 (allS (own_obE B_a.exa) (allS (SbOf.obb B_a) all0))
      replace sgL := own_staK sgL K35 (allS (own_obE B_a.exa) (allS (SbOf.obb B_a) all0))
      replace sgF := own_staK sgF K35 (allS (own_obE B_a.exa) (allS (SbOf.obb B_a) all0))
      replace hR := hR.trans (CHr.keep K35 (allS Sf_a (allS Sf_b all0)) hR.1)
      replace A_a := A_a.keep K35
      replace KP := KP.trans K35 (allS (Or.inl (List.mem_of_getElem? (i := 0) rfl)) (allS (Or.inl (List.mem_of_getElem? (i := 1) rfl)) all0))
      replace KL := KL.trans K35 (allS (Or.inr szL_a) (allS (Or.inr szL_b) all0))
      replace Z0 := Nat.le_trans Z0 K35.1
      replace hk := Nat.le_trans hk K35.1
      have B_a := B_a_35'
      show GG (fT T35 m 96 #[vr x, vr a, vi 0, vi c0] [(.ref a)])
      refine Gz (XS.pop X35.here hx rfl (hb hby d53_96) rfl rfl) ?_
      refine gG X35 hx hby d53_97 97 106 ?_
      show GG (fT T35 m 106 #[vr x, vr a, vi 0, vi c0] [])
      rw [← (show own_esc c0 = [(92 : Int32), (114 : Int32)] from by rw [hq13_0]; rfl)] at B_a
      exact J2_0 _ _ b _ _ (X35.mono (by decide) (by decide)) hS hk hZ hown hR N35 Z0 KP KL B_a g_b szL_b hyb_b ne_a_b
     ·show GG (fT T15 m 17 #[vr x, vr a, vi 0, vi c0] [(.int c0)])
      refine Gs (fun _ tk => own_lsw (g := (mkF m 17 #[vr x, vr a, vi 0, vi c0] [(.int c0)])) X15.here hx rfl (o := 83) (pc0 := 17) (pc' := 100) rfl (hb hby d53_17) rfl (by decide) (own_lswD hq9_0 hq10_0 hq13_0 hq92_0) (by decide) (by decide) tk) ?_
      show GG (fT T15 m 100 #[vr x, vr a, vi 0, vi c0] [])
      refine gA X15 hx hby d53_100 rfl rfl rfl ?_
      refine gN X15 hx hby d53_101 rfl rfl ?_
      have kl1 := KL.1
      have kp1 := KP.1
      refine cVg X15 hx hZ hw hown hby hml e15 mN37 52 53 55 54 56 36 0 (rm_sc l Z a0 hw [] a b ys c0 cz fo h0 n0 Z0 B_a A_a g_a g_b ne_a_b hC0 (by omega) sgC hcz sgA sgH sgL sgF r_fo) A_a d53_102 (lenOf own_pd36 rfl) (fun _ T36 L36 X36 hQ36 => ?_)
      obtain ⟨y36, rfl, N36q, K36, B_a_36', g_y36_36', hyb_36', ne_a_y36_36'⟩ := hQ36
      have N36 := Fr.app N15 N36q
      replace hR := hR.trans (CHr.keep K36 (allS (Safe.exa hZ.alike A_a (by decide) (by decide)) (allS (SbOf.safe hZ (own_EW2 hw) B_a) all0)) hR.1)
      replace KP := KP.trans K36 (allS (Or.inl (List.mem_of_getElem? (i := 0) rfl)) (allS (Or.inl (List.mem_of_getElem? (i := 1) rfl)) all0))
      replace KL := KL.trans K36 (allS (Or.inr szL_a) (allS (Or.inr szL_b) all0))
      replace Z0 := Nat.le_trans Z0 K36.1
      replace hk := Nat.le_trans hk K36.1
      have B_a := B_a_36'
      have g_y36 := g_y36_36'
      have hyb36 := hyb_36'
      have ne_a_y36 := ne_a_y36_36'
      show GG (fT T36 m 105 #[vr x, vr a, vi 0, vi c0] [(.ref a)])
      have szL_y36 : hL.size ≤ y36 := hyb36.elim (fun e => by rw [e]; exact szL_b) (fun q => Nat.le_trans kl1 q)
      have hyb_y36 : y36 = b ∨ h0.size ≤ y36 := hyb36.elim (fun e => by rw [e]; exact hyb_b) (fun q => Or.inr (Nat.le_trans kp1 q))
      refine Gz (XS.pop X36.here hx rfl (hb hby d53_105) rfl rfl) ?_
      show GG (fT T36 m 106 #[vr x, vr a, vi 0, vi c0] [])
      rw [← (show own_esc c0 = [c0] from by rw [own_esc, if_neg hq92_0, if_neg hq9_0, if_neg hq10_0, if_neg hq13_0])] at B_a
      exact J2_0 _ _ y36 _ _ (X36.mono (by decide) (by decide)) hS hk hZ hown hR N36 Z0 KP KL B_a g_y36 szL_y36 hyb_y36 ne_a_y36
theorem d54_0 : DK kc53 0 (.new 7) 3 := by decide +kernel
theorem d54_3 : DK kc53 3 .dup 1 := by decide +kernel
theorem d54_4 : DK kc53 4 (.invokespecial 9) 3 := by decide +kernel
theorem d54_7 : DK kc53 7 (.astore_n 1) 1 := by decide +kernel
theorem d54_8 : DK kc53 8 (.iconst 0) 1 := by decide +kernel
theorem d54_9 : DK kc53 9 (.istore_n 2) 1 := by decide +kernel
theorem d54_10 : DK kc53 10 (.iload_n 2) 1 := by decide +kernel
theorem d54_11 : DK kc53 11 (.aload_n 0) 1 := by decide +kernel
theorem d54_12 : DK kc53 12 .arraylength 1 := by decide +kernel
theorem d54_13 : DK kc53 13 (.if_icmp .ge 27) 3 := by decide +kernel
theorem d54_40 : DK kc53 40 (.aload_n 1) 1 := by decide +kernel
theorem d54_41 : DK kc53 41 (.bipush 10) 2 := by decide +kernel
theorem d54_43 : DK kc53 43 (.invokevirtual 10) 3 := by decide +kernel
theorem d54_46 : DK kc53 46 (.invokevirtual 20) 3 := by decide +kernel
theorem own_pd37 : parseMethodDescriptor "()Ljava/lang/String;" = some ⟨[], some (.object "java/lang/String")⟩ := by decide +kernel
theorem d54_49 : DK kc53 49 .areturn 1 := by decide +kernel
theorem own_ef_rm_ln0 (m : MethodId) (x0 : Addr) : entryFrame m #[(.ref x0)] 3 = mkF m 0 #[vr x0, vu, vu] [] := by first | (simp [entryFrame, mkF, argsToLocals, Value.category]; done) | rfl
def Q_rm_ln0 (Z : State) (fs : Addr) (kf : ClassId) (cz : Int32) (fo : Value) (h0 : Heap) (n0 : Nat) (v : Option Value) (h : Heap) (L : List Loc) : Prop := ∃ u : Addr, v = some (.ref u) ∧ Fr n0 L ∧ Keep h0 h [] ∧ StrOf Z h u (([] : List Int32) ++ [(10 : Int32)])
theorem rm_ln0 (l : Launch) (Z : State) (a0 : Array Value) (hw : HW a0 Z) (ws : List Jvm.Cond) (fs : Addr) (kf : ClassId) (cz : Int32) (fo : Value) (h0 : Heap) (n0 : Nat) (Z0 : n0 ≤ h0.size) (V_fs : Arv Z h0 fs kf (.object "java/lang/String") (0 : Int32) [] .null) (sgC : Sta Z h0 "java/lang/String" "COMPACT_STRINGS" "Z" (.int cz)) (hcz : ¬ (cz = 0)) (sgA : Sta Z h0 "java/lang/StringUTF16" "$assertionsDisabled" "Z" (.int 1)) (sgH : Sta Z h0 "java/lang/StringUTF16" "HI_BYTE_SHIFT" "I" (.int 0)) (sgL : Sta Z h0 "java/lang/StringUTF16" "LO_BYTE_SHIFT" "I" (.int 8)) (sgF : Sta Z h0 "jdk/internal/util/Preconditions" "SIOOBE_FORMATTER" "Ljava/util/function/BiFunction;" fo) (r_fo : fo.isRef = true) :
  MetH l Z mN54 prog_3_method_2_code 3 (some (.object "java/lang/String")) ({ frames := 8, cells := 5, slots := 88, locals := 115 } : Room) ws #[(.ref fs)] h0 (Q_rm_ln0 Z fs kf cz fo h0 n0) := by
 refine own_metH (plainFor_of_name own_pn7) ?_
 intro p e s m below meth c s₁ hret hx hby hlk hml hown hnm X0 e0 hZ hh hC0
 have N0 := Fr.nil n0
 have hS : s.Since s.vm h0.size := (State.WarmedH.refl s).since _
 have hk : h0.size ≤ h0.size := Nat.le_refl _
 replace hZ : Z.Warmed39 (s.setVm s.vm).vm := hZ
 have hR : CHr Z consts_1 s.vm h0 s.vm h0 := CHr.refl hC0
 refine Gz (castTop (own_ef_rm_ln0 m fs)) ?_
 have KP : Keep h0 h0 [] := Keep.refl _ _
 show GG (fT s₁ m 0 #[vr fs, vu, vu] [])
 have zlt_fs : fs < h0.size := V_fs.lt
 obtain ⟨T1, h1, X1, e1, E1, A1, D1, U1, st1⟩ := newO X0 hx hZ hown (gw hw 34 rfl) (gw hw 35 rfl) (gw hw 36 rfl) e0 (g := (mkF m 0 #[vr fs, vu, vu] [])) rfl (hb hby d54_0) (by decide) (by decide)
 obtain ⟨b1, gq1⟩ : ∃ z, z = h0.size := ⟨_, rfl⟩
 rw [← gq1] at A1 st1 D1
 have g_b1 : n0 ≤ b1 := by rw [gq1]; exact Z0
 have sz_b1 : h0.size ≤ b1 := by rw [gq1]; exact KP.1
 have ne_fs_b1 : fs ≠ b1 := by rw [gq1]; exact Nat.ne_of_lt V_fs.lt
 have Sf_b1 : Safe Z consts_1 s.vm h0 b1 := Safe.new (Nat.le_of_eq gq1.symm)
 replace Sf_b1 := Safe.ext E1 hR.1 Sf_b1
 replace hR := hR.trans (CHr.ext E1 hR.1)
 replace V_fs := V_fs.ext E1
 replace sgC := sgC.ext E1
 replace sgA := sgA.ext E1
 replace sgH := sgH.ext E1
 replace sgL := sgL.ext E1
 replace sgF := sgF.ext E1
 replace KP := KP.ext E1
 replace Z0 : n0 ≤ h1.size := Nat.le_trans Z0 E1.1
 replace hk := Nat.le_trans hk E1.1
 have A_b1 : Exa Z h1 b1 "java/lang/StringBuilder" := A1
 have F_value_b1 : Fld Z h1 b1 "java/lang/AbstractStringBuilder" "value" "[B" .null := D1 (Or.inl (gw hw 49 rfl)) (ty := (.array .byte)) (by decide)
 have F_coder_b1 : Fld Z h1 b1 "java/lang/AbstractStringBuilder" "coder" "B" (.int 0) := D1 (Or.inl (gw hw 51 rfl)) (ty := .byte) (by decide)
 have F_count_b1 : Fld Z h1 b1 "java/lang/AbstractStringBuilder" "count" "I" (.int 0) := D1 (Or.inl (gw hw 63 rfl)) (ty := .int) (by decide)
 have F_maybeLatin1_b1 : Fld Z h1 b1 "java/lang/AbstractStringBuilder" "maybeLatin1" "Z" (.int 0) := D1 (Or.inl (gw hw 273 rfl)) (ty := .boolean) (by decide)
 refine Gs st1 ?_
 show GG (fT T1 m 3 #[vr fs, vu, vu] [(.ref b1)])
 refine Gz (XS.dup X1.here hx rfl (hb hby d54_3) rfl rfl) ?_
 have ltc2_fs : fs < h1.size := V_fs.lt
 have ltc2_b1 : b1 < h1.size := A_b1.lt
 have szs2 : h0.size ≤ h1.size := KP.1
 refine cIg X1 hx hZ hw hown hby hml e1 mN26 37 38 39 36 1 (rm_sbi l Z a0 hw [] b1 cz h1 n0 Z0 A_b1 F_value_b1 F_count_b1 F_maybeLatin1_b1 F_coder_b1 g_b1 sgC hcz) d54_4 (lenOf own_pd22 rfl) (fun _ T2 L2 X2 hQ2 => ?_)
 obtain ⟨b2, kb2, rfl, N2q, K2, F_value_b1_2', F_count_b1_2', F_maybeLatin1_b1_2', F_coder_b1_2', V_b2_2', g_b2_2', sz_b2_2'⟩ := hQ2
 have N2 := Fr.app N0 N2q
 replace sgC := own_staK sgC K2 (allS (own_obE A_b1) all0)
 replace sgA := own_staK sgA K2 (allS (own_obE A_b1) all0)
 replace sgH := own_staK sgH K2 (allS (own_obE A_b1) all0)
 replace sgL := own_staK sgL K2 (allS (own_obE A_b1) all0)
 replace sgF := own_staK sgF K2 (allS (own_obE A_b1) all0)
 have Sf_b1' := Safe.keep K2 (allS Sf_b1 all0) hR.1 Sf_b1
 replace hR := hR.trans (CHr.keep K2 (allS Sf_b1 all0) hR.1)
 replace Sf_b1 := Sf_b1'
 replace V_fs := V_fs.keep K2 (ninS ne_fs_b1 nin0)
 replace A_b1 := A_b1.keep K2
 replace KP := KP.trans K2 (allS (Or.inr sz_b1) all0)
 replace Z0 := Nat.le_trans Z0 K2.1
 replace hk := Nat.le_trans hk K2.1
 have F_value_b1 := F_value_b1_2'
 have F_count_b1 := F_count_b1_2'
 have F_maybeLatin1_b1 := F_maybeLatin1_b1_2'
 have F_coder_b1 := F_coder_b1_2'
 have V_b2 := V_b2_2'
 have g_b2 := g_b2_2'
 have szc_b2 := sz_b2_2'
 have ne_fs_b2 : fs ≠ b2 := Nat.ne_of_lt (Nat.lt_of_lt_of_le ltc2_fs szc_b2)
 have ne_b1_b2 : b1 ≠ b2 := Nat.ne_of_lt (Nat.lt_of_lt_of_le ltc2_b1 szc_b2)
 have sz_b2 : h0.size ≤ b2 := Nat.le_trans szs2 szc_b2
 show GG (fT T2 m 7 #[vr fs, vu, vu] [(.ref b1)])
 have B_b1 : SbOf Z T2.heap b1 b2 ([] : List Int32) := ⟨kb2, A_b1, F_value_b1, F_count_b1, F_maybeLatin1_b1, Or.inl ⟨F_coder_b1, (by simp), V_b2⟩⟩
 refine Gz (XS.astoreN X2.here hx rfl (hb hby d54_7) rfl rfl (l' := #[vr fs, vr b1, vu]) rfl) ?_
 refine gC X2 hx hby d54_8 ?_
 refine gs X2 hx hby d54_9 #[vr fs, vr b1, vi 0] ?_
 refine gN X2 hx hby d54_10 rfl rfl ?_
 refine gA X2 hx hby d54_11 rfl rfl rfl ?_
 obtain ⟨cl3, Ar3, -, S3, N3z, -, -⟩ := id V_fs
 refine Gs (fun _ tk => X2.arraylength hx Ar3.1 (State.isArrayOf_alike hZ.alike Ar3.2.1) (g := (mkF m 12 #[vr fs, vr b1, vi 0] [(.ref fs), (.int 0)])) rfl rfl (hb hby d54_12) _ tk) ?_
 rw [len_of S3 N3z]
 show GG (fT T2 m 13 #[vr fs, vr b1, vi 0] [(.int 0), (.int 0)])
 refine gY X2 hx hby d54_13 13 40 (flt (by decide : ¬ ((0 : Int32) < (0 : Int32)))).2.1 ?_
 refine gA X2 hx hby d54_40 rfl rfl rfl ?_
 refine gB X2 hx hby d54_41 ?_
 have kp1 := KP.1
 refine cVg X2 hx hZ hw hown hby hml rfl mN37 52 53 55 54 56 36 0 (rm_sc l Z a0 hw [] b1 b2 ([] : List Int32) (10 : Int32) cz fo T2.heap n0 Z0 B_b1 A_b1 g_b1 g_b2 ne_b1_b2 ⟨by decide, by decide⟩ (by simp only [List.length_append, List.length_cons, List.length_nil]; omega) sgC hcz sgA sgH sgL sgF r_fo) A_b1 d54_43 (lenOf own_pd36 rfl) (fun _ T4 L4 X4 hQ4 => ?_)
 obtain ⟨y4, rfl, N4q, K4, B_b1_4', g_y4_4', hyb_4', ne_b1_y4_4'⟩ := hQ4
 have N4 := Fr.app N2 N4q
 replace sgC := own_staK sgC K4 (allS (own_obE A_b1) (allS (SbOf.obb B_b1) all0))
 replace hR := hR.trans (CHr.keep K4 (allS Sf_b1 (allS (SbOf.safe hZ (own_EW2 hw) B_b1) all0)) hR.1)
 replace A_b1 := A_b1.keep K4
 replace KP := KP.trans K4 (allS (Or.inr sz_b1) (allS (Or.inr sz_b2) all0))
 replace Z0 := Nat.le_trans Z0 K4.1
 replace hk := Nat.le_trans hk K4.1
 have B_b1 := B_b1_4'
 have g_y4 := g_y4_4'
 have hyb4 := hyb_4'
 have ne_b1_y4 := ne_b1_y4_4'
 show GG (fT T4 m 46 #[vr fs, vr b1, vi 0] [(.ref b1)])
 have sz_y4 : h0.size ≤ y4 := hyb4.elim (fun e => by rw [e]; exact sz_b2) (fun q => Nat.le_trans kp1 q)
 have ne_fs_y4 : fs ≠ y4 := Nat.ne_of_lt (Nat.lt_of_lt_of_le zlt_fs sz_y4)
 refine cVg X4 hx hZ hw hown hby hml rfl mN52 78 79 81 80 82 36 0 (rm_tt l Z a0 hw [] b1 y4 (([] : List Int32) ++ [(10 : Int32)]) cz T4.heap n0 Z0 B_b1 A_b1 (by simp only [List.length_append, List.length_cons, List.length_nil]; omega) sgC hcz) A_b1 d54_46 (lenOf own_pd37 rfl) (fun _ T5 L5 X5 hQ5 => ?_)
 obtain ⟨u5, rfl, N5q, K5, T_u5_5'⟩ := hQ5
 have N5 := Fr.app N4 N5q
 replace hR := hR.trans (CHr.keep K5 all0 hR.1)
 replace KP := KP.trans K5 all0
 replace Z0 := Nat.le_trans Z0 K5.1
 replace hk := Nat.le_trans hk K5.1
 have T_u5 := T_u5_5'
 show GG (fT T5 m 49 #[vr fs, vr b1, vi 0] [(.ref u5)])
 refine Goes.retH X5 hS rfl hk hZ (own_EW hw) hh hR (some (.ref u5)) (fun h => by rw [hret] at h; cases h) hlk (by decide) (by decide) ?_ (fun fs hr => ?_)
 ·exact ⟨u5, rfl, N5, KP, T_u5⟩
 ·exact own_retA X5 hx hret rfl rfl (hb hby d54_49) hr
theorem d54_16 : DK kc53 16 (.iload_n 2) 1 := by decide +kernel
theorem d54_17 : DK kc53 17 (.ifCond .le 10) 3 := by decide +kernel
theorem d54_27 : DK kc53 27 (.aload_n 0) 1 := by decide +kernel
theorem d54_28 : DK kc53 28 (.iload_n 2) 1 := by decide +kernel
theorem d54_29 : DK kc53 29 .aaload 1 := by decide +kernel
theorem d54_30 : DK kc53 30 (.aload_n 1) 1 := by decide +kernel
theorem d54_31 : DK kc53 31 (.invokestatic 14) 3 := by decide +kernel
theorem own_pd38 : parseMethodDescriptor "(Ljava/lang/String;Ljava/lang/StringBuilder;)V" = some ⟨[(.object "java/lang/String"), (.object "java/lang/StringBuilder")], none⟩ := by decide +kernel
theorem d54_34 : DK kc53 34 (.iinc 2 1) 3 := by decide +kernel
theorem d54_37 : DK kc53 37 (.goto (-27)) 3 := by decide +kernel
theorem own_ef_rm_ln1 (m : MethodId) (x0 : Addr) : entryFrame m #[(.ref x0)] 3 = mkF m 0 #[vr x0, vu, vu] [] := by first | (simp [entryFrame, mkF, argsToLocals, Value.category]; done) | rfl
def Q_rm_ln1 (Z : State) (fs : Addr) (kf : ClassId) (f0 : Addr) (x0 : List Int32) (cz : Int32) (fo : Value) (h0 : Heap) (n0 : Nat) (v : Option Value) (h : Heap) (L : List Loc) : Prop := ∃ u : Addr, v = some (.ref u) ∧ Fr n0 L ∧ Keep h0 h [] ∧ StrOf Z h u ((([] : List Int32) ++ own_escs x0) ++ [(10 : Int32)])
theorem rm_ln1 (l : Launch) (Z : State) (a0 : Array Value) (hw : HW a0 Z) (ws : List Jvm.Cond) (fs : Addr) (kf : ClassId) (f0 : Addr) (x0 : List Int32) (cz : Int32) (fo : Value) (h0 : Heap) (n0 : Nat) (Z0 : n0 ≤ h0.size) (V_fs : Arv Z h0 fs kf (.object "java/lang/String") (1 : Int32) [(.ref f0)] .null) (T_f0 : StrOf Z h0 f0 x0) (hl0 : x0.length ≤ 2) (sgC : Sta Z h0 "java/lang/String" "COMPACT_STRINGS" "Z" (.int cz)) (hcz : ¬ (cz = 0)) (sgA : Sta Z h0 "java/lang/StringUTF16" "$assertionsDisabled" "Z" (.int 1)) (sgH : Sta Z h0 "java/lang/StringUTF16" "HI_BYTE_SHIFT" "I" (.int 0)) (sgL : Sta Z h0 "java/lang/StringUTF16" "LO_BYTE_SHIFT" "I" (.int 8)) (sgF : Sta Z h0 "jdk/internal/util/Preconditions" "SIOOBE_FORMATTER" "Ljava/util/function/BiFunction;" fo) (r_fo : fo.isRef = true) :
  MetH l Z mN54 prog_3_method_2_code 3 (some (.object "java/lang/String")) ({ frames := 10, cells := 9, slots := 152, locals := 147 } : Room) ws #[(.ref fs)] h0 (Q_rm_ln1 Z fs kf f0 x0 cz fo h0 n0) := by
 refine own_metH (plainFor_of_name own_pn7) ?_
 intro p e s m below meth c s₁ hret hx hby hlk hml hown hnm X0 e0 hZ hh hC0
 have N0 := Fr.nil n0
 have hS : s.Since s.vm h0.size := (State.WarmedH.refl s).since _
 have hk : h0.size ≤ h0.size := Nat.le_refl _
 replace hZ : Z.Warmed39 (s.setVm s.vm).vm := hZ
 have hR : CHr Z consts_1 s.vm h0 s.vm h0 := CHr.refl hC0
 refine Gz (castTop (own_ef_rm_ln1 m fs)) ?_
 have KP : Keep h0 h0 [] := Keep.refl _ _
 show GG (fT s₁ m 0 #[vr fs, vu, vu] [])
 have zlt_fs : fs < h0.size := V_fs.lt
 have zT_f0 := T_f0
 have hs0 := own_escsL x0
 obtain ⟨T1, h1, X1, e1, E1, A1, D1, U1, st1⟩ := newO X0 hx hZ hown (gw hw 34 rfl) (gw hw 35 rfl) (gw hw 36 rfl) e0 (g := (mkF m 0 #[vr fs, vu, vu] [])) rfl (hb hby d54_0) (by decide) (by decide)
 obtain ⟨b1, gq1⟩ : ∃ z, z = h0.size := ⟨_, rfl⟩
 rw [← gq1] at A1 st1 D1
 have g_b1 : n0 ≤ b1 := by rw [gq1]; exact Z0
 have sz_b1 : h0.size ≤ b1 := by rw [gq1]; exact KP.1
 have ne_fs_b1 : fs ≠ b1 := by rw [gq1]; exact Nat.ne_of_lt V_fs.lt
 have Sf_b1 : Safe Z consts_1 s.vm h0 b1 := Safe.new (Nat.le_of_eq gq1.symm)
 replace Sf_b1 := Safe.ext E1 hR.1 Sf_b1
 replace hR := hR.trans (CHr.ext E1 hR.1)
 replace V_fs := V_fs.ext E1
 replace sgC := sgC.ext E1
 replace sgA := sgA.ext E1
 replace sgH := sgH.ext E1
 replace sgL := sgL.ext E1
 replace sgF := sgF.ext E1
 replace KP := KP.ext E1
 replace Z0 : n0 ≤ h1.size := Nat.le_trans Z0 E1.1
 replace hk := Nat.le_trans hk E1.1
 have A_b1 : Exa Z h1 b1 "java/lang/StringBuilder" := A1
 have F_value_b1 : Fld Z h1 b1 "java/lang/AbstractStringBuilder" "value" "[B" .null := D1 (Or.inl (gw hw 49 rfl)) (ty := (.array .byte)) (by decide)
 have F_coder_b1 : Fld Z h1 b1 "java/lang/AbstractStringBuilder" "coder" "B" (.int 0) := D1 (Or.inl (gw hw 51 rfl)) (ty := .byte) (by decide)
 have F_count_b1 : Fld Z h1 b1 "java/lang/AbstractStringBuilder" "count" "I" (.int 0) := D1 (Or.inl (gw hw 63 rfl)) (ty := .int) (by decide)
 have F_maybeLatin1_b1 : Fld Z h1 b1 "java/lang/AbstractStringBuilder" "maybeLatin1" "Z" (.int 0) := D1 (Or.inl (gw hw 273 rfl)) (ty := .boolean) (by decide)
 refine Gs st1 ?_
 show GG (fT T1 m 3 #[vr fs, vu, vu] [(.ref b1)])
 refine Gz (XS.dup X1.here hx rfl (hb hby d54_3) rfl rfl) ?_
 have ltc2_fs : fs < h1.size := V_fs.lt
 have ltc2_b1 : b1 < h1.size := A_b1.lt
 have szs2 : h0.size ≤ h1.size := KP.1
 refine cIg X1 hx hZ hw hown hby hml e1 mN26 37 38 39 36 1 (rm_sbi l Z a0 hw [] b1 cz h1 n0 Z0 A_b1 F_value_b1 F_count_b1 F_maybeLatin1_b1 F_coder_b1 g_b1 sgC hcz) d54_4 (lenOf own_pd22 rfl) (fun _ T2 L2 X2 hQ2 => ?_)
 obtain ⟨b2, kb2, rfl, N2q, K2, F_value_b1_2', F_count_b1_2', F_maybeLatin1_b1_2', F_coder_b1_2', V_b2_2', g_b2_2', sz_b2_2'⟩ := hQ2
 have N2 := Fr.app N0 N2q
 replace sgC := own_staK sgC K2 (allS (own_obE A_b1) all0)
 replace sgA := own_staK sgA K2 (allS (own_obE A_b1) all0)
 replace sgH := own_staK sgH K2 (allS (own_obE A_b1) all0)
 replace sgL := own_staK sgL K2 (allS (own_obE A_b1) all0)
 replace sgF := own_staK sgF K2 (allS (own_obE A_b1) all0)
 have Sf_b1' := Safe.keep K2 (allS Sf_b1 all0) hR.1 Sf_b1
 replace hR := hR.trans (CHr.keep K2 (allS Sf_b1 all0) hR.1)
 replace Sf_b1 := Sf_b1'
 replace V_fs := V_fs.keep K2 (ninS ne_fs_b1 nin0)
 replace A_b1 := A_b1.keep K2
 replace KP := KP.trans K2 (allS (Or.inr sz_b1) all0)
 replace Z0 := Nat.le_trans Z0 K2.1
 replace hk := Nat.le_trans hk K2.1
 have F_value_b1 := F_value_b1_2'
 have F_count_b1 := F_count_b1_2'
 have F_maybeLatin1_b1 := F_maybeLatin1_b1_2'
 have F_coder_b1 := F_coder_b1_2'
 have V_b2 := V_b2_2'
 have g_b2 := g_b2_2'
 have szc_b2 := sz_b2_2'
 have ne_fs_b2 : fs ≠ b2 := Nat.ne_of_lt (Nat.lt_of_lt_of_le ltc2_fs szc_b2)
 have ne_b1_b2 : b1 ≠ b2 := Nat.ne_of_lt (Nat.lt_of_lt_of_le ltc2_b1 szc_b2)
 have sz_b2 : h0.size ≤ b2 := Nat.le_trans szs2 szc_b2
 show GG (fT T2 m 7 #[vr fs, vu, vu] [(.ref b1)])
 have B_b1 : SbOf Z T2.heap b1 b2 ([] : List Int32) := ⟨kb2, A_b1, F_value_b1, F_count_b1, F_maybeLatin1_b1, Or.inl ⟨F_coder_b1, (by simp), V_b2⟩⟩
 refine Gz (XS.astoreN X2.here hx rfl (hb hby d54_7) rfl rfl (l' := #[vr fs, vr b1, vu]) rfl) ?_
 refine gC X2 hx hby d54_8 ?_
 refine gs X2 hx hby d54_9 #[vr fs, vr b1, vi 0] ?_
 refine gN X2 hx hby d54_10 rfl rfl ?_
 refine gA X2 hx hby d54_11 rfl rfl rfl ?_
 obtain ⟨cl3, Ar3, -, S3, N3z, -, -⟩ := id V_fs
 refine Gs (fun _ tk => X2.arraylength hx Ar3.1 (State.isArrayOf_alike hZ.alike Ar3.2.1) (g := (mkF m 12 #[vr fs, vr b1, vi 0] [(.ref fs), (.int 0)])) rfl rfl (hb hby d54_12) _ tk) ?_
 rw [len_of S3 N3z]
 show GG (fT T2 m 13 #[vr fs, vr b1, vi 0] [(.int 1), (.int 0)])
 refine gU X2 hx hby d54_13 (tlt (by decide : ((0 : Int32) < (1 : Int32)))).2.1 ?_
 refine gN X2 hx hby d54_16 rfl rfl ?_
 refine gy X2 hx hby d54_17 17 27 ((if0 _ _).trans (flt (by decide : ¬ ((0 : Int32) < (0 : Int32)))).2.2.2) ?_
 refine gA X2 hx hby d54_27 rfl rfl rfl ?_
 refine gN X2 hx hby d54_28 rfl rfl ?_
 obtain ⟨cl4, Ar4, -, S4, N4z, H4, -⟩ := id V_fs
 have hin4 : ¬ ((0 : Int32) < 0 ∨ cl4.slots.size ≤ ((0 : Int32)).toNatClampNeg) := inb_of S4 ⟨by decide, by decide⟩
 have hat4 : cl4.slots[((0 : Int32)).toNatClampNeg]? = some (.ref f0) := Has.at H4 hin4 rfl
 refine Gs (fun _ tk => X2.aaload hx (j := (0 : Int32)) (v := (.ref f0)) Ar4.1 (State.isArrayOf_alike hZ.alike Ar4.2.1) rfl Ar4.2.2 hin4 hat4 (g := (mkF m 29 #[vr fs, vr b1, vi 0] [(.int 0), (.ref fs)])) rfl rfl (hb hby d54_29) _ tk) ?_
 show GG (fT T2 m 30 #[vr fs, vr b1, vi 0] [(.ref f0)])
 refine gA X2 hx hby d54_30 rfl rfl rfl ?_
 have kp1 := KP.1
 have lt_b1 : b1 < T2.heap.size := A_b1.lt
 obtain ⟨_, _, ⟨T5, L5, k5, n5⟩, -, X5, hS5, gr5, ⟨Lc5, hQ5, l5, y5, z5, hC5⟩, st5⟩ := callSS X2 hx (y := mN53) hown (gz hZ hw 160 rfl) (gz hZ hw 161 rfl) (gz hZ hw 32 rfl) (gz hZ hw 162 rfl) (by decide) (backOfSH (W := 0) (rm_ae l Z a0 hw [] b1 b2 ([] : List Int32) f0 x0 h0 cz fo T2.heap n0 Z0 B_b1 A_b1 g_b1 g_b2 ne_b1_b2 zT_f0 KP sz_b1 sz_b2 hl0 (by simp only [List.length_append, List.length_cons, List.length_nil]; omega) sgC hcz sgA sgH sgL sgF r_fo) hZ (gw hw 162 rfl) (gw hw 32 rfl) (by decide) (by decide) (own_EW hw) hR.1) (g := (mkF m 31 #[vr fs, vr b1, vi 0] [(.ref b1), (.ref f0)])) rfl hml.symm (argsL := [(.ref f0), (.ref b1)]) (rest := []) (lenOf own_pd38 rfl) rfl (wz rfl) (hb hby d54_31) (fun _ _ => ⟨rfl, rfl, (by decide : 2 + 4 ≤ _), (by decide : 20 + 64 ≤ _)⟩)
 dsimp only [Pt.U, Pt.locs, Pt.cells, Pt.slots] at X5 l5 y5 z5 st5 hQ5 hS5 gr5 hC5
 subst l5 y5 z5
 obtain ⟨X5, hS, hZ, hown⟩ := rebS hS hk X5 hS5 gr5 hZ hown
 replace hk : T5.heap.size ≤ T5.heap.size := Nat.le_refl _
 obtain ⟨y5, rfl, N5q, K5, B_b1_5', g_y5_5', hyb_5', ne_b1_y5_5'⟩ := hQ5
 have N5 := Fr.app N2 N5q
 replace Sf_b1 := hC5.safe lt_b1 Sf_b1
 replace hR := hR.trans hC5
 replace sgC := own_staK sgC K5 (allS (own_obE A_b1) (allS (SbOf.obb B_b1) all0))
 replace sgA := own_staK sgA K5 (allS (own_obE A_b1) (allS (SbOf.obb B_b1) all0))
 replace sgH := own_staK sgH K5 (allS (own_obE A_b1) (allS (SbOf.obb B_b1) all0))
 replace sgL := own_staK sgL K5 (allS (own_obE A_b1) (allS (SbOf.obb B_b1) all0))
 replace sgF := own_staK sgF K5 (allS (own_obE A_b1) (allS (SbOf.obb B_b1) all0))
 replace V_fs := V_fs.keep K5 (ninS ne_fs_b1 (ninS ne_fs_b2 nin0))
 replace A_b1 := A_b1.keep K5
 replace KP := KP.trans K5 (allS (Or.inr sz_b1) (allS (Or.inr sz_b2) all0))
 replace Z0 := Nat.le_trans Z0 K5.1
 have B_b1 := B_b1_5'
 have g_y5 := g_y5_5'
 have hyb5 := hyb_5'
 have ne_b1_y5 := ne_b1_y5_5'
 refine Gs (fun _ tk => st5.trans tk) ?_
 show GG (fT T5 m 34 #[vr fs, vr b1, vi 0] [])
 have sz_y5 : h0.size ≤ y5 := hyb5.elim (fun e => by rw [e]; exact sz_b2) (fun q => Nat.le_trans kp1 q)
 have ne_fs_y5 : fs ≠ y5 := Nat.ne_of_lt (Nat.lt_of_lt_of_le zlt_fs sz_y5)
 refine Gz (XS.iinc X5.here hx rfl (hb hby d54_34) rfl (l' := #[vr fs, vr b1, vi ((0 : Int32) + (1 : Int32))]) rfl) ?_
 show GG (fT T5 m 37 #[vr fs, vr b1, vi 1] [])
 refine gG X5 hx hby d54_37 37 10 ?_
 refine gN X5 hx hby d54_10 rfl rfl ?_
 refine gA X5 hx hby d54_11 rfl rfl rfl ?_
 obtain ⟨cl6, Ar6, -, S6, N6z, -, -⟩ := id V_fs
 refine Gs (fun _ tk => X5.arraylength hx Ar6.1 (State.isArrayOf_alike hZ.alike Ar6.2.1) (g := (mkF m 12 #[vr fs, vr b1, vi 1] [(.ref fs), (.int 1)])) rfl rfl (hb hby d54_12) _ tk) ?_
 rw [len_of S6 N6z]
 show GG (fT T5 m 13 #[vr fs, vr b1, vi 1] [(.int 1), (.int 1)])
 refine gY X5 hx hby d54_13 13 40 (flt (by decide : ¬ ((1 : Int32) < (1 : Int32)))).2.1 ?_
 refine gA X5 hx hby d54_40 rfl rfl rfl ?_
 refine gB X5 hx hby d54_41 ?_
 have kp1 := KP.1
 refine cVg X5 hx hZ hw hown hby hml rfl mN37 52 53 55 54 56 36 0 (rm_sc l Z a0 hw [] b1 y5 (([] : List Int32) ++ own_escs x0) (10 : Int32) cz fo T5.heap n0 Z0 B_b1 A_b1 g_b1 g_y5 ne_b1_y5 ⟨by decide, by decide⟩ (by simp only [List.length_append, List.length_cons, List.length_nil]; omega) sgC hcz sgA sgH sgL sgF r_fo) A_b1 d54_43 (lenOf own_pd36 rfl) (fun _ T7 L7 X7 hQ7 => ?_)
 obtain ⟨y7, rfl, N7q, K7, B_b1_7', g_y7_7', hyb_7', ne_b1_y7_7'⟩ := hQ7
 have N7 := Fr.app N5 N7q
 replace sgC := own_staK sgC K7 (allS (own_obE A_b1) (allS (SbOf.obb B_b1) all0))
 replace hR := hR.trans (CHr.keep K7 (allS Sf_b1 (allS (SbOf.safe hZ (own_EW2 hw) B_b1) all0)) hR.1)
 replace A_b1 := A_b1.keep K7
 replace KP := KP.trans K7 (allS (Or.inr sz_b1) (allS (Or.inr sz_y5) all0))
 replace Z0 := Nat.le_trans Z0 K7.1
 replace hk := Nat.le_trans hk K7.1
 have B_b1 := B_b1_7'
 have g_y7 := g_y7_7'
 have hyb7 := hyb_7'
 have ne_b1_y7 := ne_b1_y7_7'
 show GG (fT T7 m 46 #[vr fs, vr b1, vi 1] [(.ref b1)])
 have sz_y7 : h0.size ≤ y7 := hyb7.elim (fun e => by rw [e]; exact sz_y5) (fun q => Nat.le_trans kp1 q)
 have ne_fs_y7 : fs ≠ y7 := Nat.ne_of_lt (Nat.lt_of_lt_of_le zlt_fs sz_y7)
 refine cVg X7 hx hZ hw hown hby hml rfl mN52 78 79 81 80 82 36 0 (rm_tt l Z a0 hw [] b1 y7 ((([] : List Int32) ++ own_escs x0) ++ [(10 : Int32)]) cz T7.heap n0 Z0 B_b1 A_b1 (by simp only [List.length_append, List.length_cons, List.length_nil]; omega) sgC hcz) A_b1 d54_46 (lenOf own_pd37 rfl) (fun _ T8 L8 X8 hQ8 => ?_)
 obtain ⟨u8, rfl, N8q, K8, T_u8_8'⟩ := hQ8
 have N8 := Fr.app N7 N8q
 replace hR := hR.trans (CHr.keep K8 all0 hR.1)
 replace KP := KP.trans K8 all0
 replace Z0 := Nat.le_trans Z0 K8.1
 replace hk := Nat.le_trans hk K8.1
 have T_u8 := T_u8_8'
 show GG (fT T8 m 49 #[vr fs, vr b1, vi 1] [(.ref u8)])
 refine Goes.retH X8 hS rfl hk hZ (own_EW hw) hh hR (some (.ref u8)) (fun h => by rw [hret] at h; cases h) hlk (by decide) (by decide) ?_ (fun fs hr => ?_)
 ·exact ⟨u8, rfl, N8, KP, T_u8⟩
 ·exact own_retA X8 hx hret rfl rfl (hb hby d54_49) hr
theorem d54_20 : DK kc53 20 (.aload_n 1) 1 := by decide +kernel
theorem d54_21 : DK kc53 21 (.bipush 9) 2 := by decide +kernel
theorem d54_23 : DK kc53 23 (.invokevirtual 10) 3 := by decide +kernel
theorem d54_26 : DK kc53 26 .pop 1 := by decide +kernel
theorem own_ef_rm_ln2 (m : MethodId) (x0 : Addr) : entryFrame m #[(.ref x0)] 3 = mkF m 0 #[vr x0, vu, vu] [] := by first | (simp [entryFrame, mkF, argsToLocals, Value.category]; done) | rfl
def Q_rm_ln2 (Z : State) (fs : Addr) (kf : ClassId) (f0 : Addr) (x0 : List Int32) (f1 : Addr) (x1 : List Int32) (cz : Int32) (fo : Value) (h0 : Heap) (n0 : Nat) (v : Option Value) (h : Heap) (L : List Loc) : Prop := ∃ u : Addr, v = some (.ref u) ∧ Fr n0 L ∧ Keep h0 h [] ∧ StrOf Z h u ((((([] : List Int32) ++ own_escs x0) ++ [(9 : Int32)]) ++ own_escs x1) ++ [(10 : Int32)])
theorem rm_ln2 (l : Launch) (Z : State) (a0 : Array Value) (hw : HW a0 Z) (ws : List Jvm.Cond) (fs : Addr) (kf : ClassId) (f0 : Addr) (x0 : List Int32) (f1 : Addr) (x1 : List Int32) (cz : Int32) (fo : Value) (h0 : Heap) (n0 : Nat) (Z0 : n0 ≤ h0.size) (V_fs : Arv Z h0 fs kf (.object "java/lang/String") (2 : Int32) [(.ref f0), (.ref f1)] .null) (T_f0 : StrOf Z h0 f0 x0) (hl0 : x0.length ≤ 2) (T_f1 : StrOf Z h0 f1 x1) (hl1 : x1.length ≤ 2) (sgC : Sta Z h0 "java/lang/String" "COMPACT_STRINGS" "Z" (.int cz)) (hcz : ¬ (cz = 0)) (sgA : Sta Z h0 "java/lang/StringUTF16" "$assertionsDisabled" "Z" (.int 1)) (sgH : Sta Z h0 "java/lang/StringUTF16" "HI_BYTE_SHIFT" "I" (.int 0)) (sgL : Sta Z h0 "java/lang/StringUTF16" "LO_BYTE_SHIFT" "I" (.int 8)) (sgF : Sta Z h0 "jdk/internal/util/Preconditions" "SIOOBE_FORMATTER" "Ljava/util/function/BiFunction;" fo) (r_fo : fo.isRef = true) :
  MetH l Z mN54 prog_3_method_2_code 3 (some (.object "java/lang/String")) ({ frames := 10, cells := 14, slots := 248, locals := 147 } : Room) ws #[(.ref fs)] h0 (Q_rm_ln2 Z fs kf f0 x0 f1 x1 cz fo h0 n0) := by
 refine own_metH (plainFor_of_name own_pn7) ?_
 intro p e s m below meth c s₁ hret hx hby hlk hml hown hnm X0 e0 hZ hh hC0
 have N0 := Fr.nil n0
 have hS : s.Since s.vm h0.size := (State.WarmedH.refl s).since _
 have hk : h0.size ≤ h0.size := Nat.le_refl _
 replace hZ : Z.Warmed39 (s.setVm s.vm).vm := hZ
 have hR : CHr Z consts_1 s.vm h0 s.vm h0 := CHr.refl hC0
 refine Gz (castTop (own_ef_rm_ln2 m fs)) ?_
 have KP : Keep h0 h0 [] := Keep.refl _ _
 show GG (fT s₁ m 0 #[vr fs, vu, vu] [])
 have zlt_fs : fs < h0.size := V_fs.lt
 have zT_f0 := T_f0
 have hs0 := own_escsL x0
 have zT_f1 := T_f1
 have hs1 := own_escsL x1
 obtain ⟨T1, h1, X1, e1, E1, A1, D1, U1, st1⟩ := newO X0 hx hZ hown (gw hw 34 rfl) (gw hw 35 rfl) (gw hw 36 rfl) e0 (g := (mkF m 0 #[vr fs, vu, vu] [])) rfl (hb hby d54_0) (by decide) (by decide)
 obtain ⟨b1, gq1⟩ : ∃ z, z = h0.size := ⟨_, rfl⟩
 rw [← gq1] at A1 st1 D1
 have g_b1 : n0 ≤ b1 := by rw [gq1]; exact Z0
 have sz_b1 : h0.size ≤ b1 := by rw [gq1]; exact KP.1
 have ne_fs_b1 : fs ≠ b1 := by rw [gq1]; exact Nat.ne_of_lt V_fs.lt
 have Sf_b1 : Safe Z consts_1 s.vm h0 b1 := Safe.new (Nat.le_of_eq gq1.symm)
 replace Sf_b1 := Safe.ext E1 hR.1 Sf_b1
 replace hR := hR.trans (CHr.ext E1 hR.1)
 replace V_fs := V_fs.ext E1
 replace sgC := sgC.ext E1
 replace sgA := sgA.ext E1
 replace sgH := sgH.ext E1
 replace sgL := sgL.ext E1
 replace sgF := sgF.ext E1
 replace KP := KP.ext E1
 replace Z0 : n0 ≤ h1.size := Nat.le_trans Z0 E1.1
 replace hk := Nat.le_trans hk E1.1
 have A_b1 : Exa Z h1 b1 "java/lang/StringBuilder" := A1
 have F_value_b1 : Fld Z h1 b1 "java/lang/AbstractStringBuilder" "value" "[B" .null := D1 (Or.inl (gw hw 49 rfl)) (ty := (.array .byte)) (by decide)
 have F_coder_b1 : Fld Z h1 b1 "java/lang/AbstractStringBuilder" "coder" "B" (.int 0) := D1 (Or.inl (gw hw 51 rfl)) (ty := .byte) (by decide)
 have F_count_b1 : Fld Z h1 b1 "java/lang/AbstractStringBuilder" "count" "I" (.int 0) := D1 (Or.inl (gw hw 63 rfl)) (ty := .int) (by decide)
 have F_maybeLatin1_b1 : Fld Z h1 b1 "java/lang/AbstractStringBuilder" "maybeLatin1" "Z" (.int 0) := D1 (Or.inl (gw hw 273 rfl)) (ty := .boolean) (by decide)
 refine Gs st1 ?_
 show GG (fT T1 m 3 #[vr fs, vu, vu] [(.ref b1)])
 refine Gz (XS.dup X1.here hx rfl (hb hby d54_3) rfl rfl) ?_
 have ltc2_fs : fs < h1.size := V_fs.lt
 have ltc2_b1 : b1 < h1.size := A_b1.lt
 have szs2 : h0.size ≤ h1.size := KP.1
 refine cIg X1 hx hZ hw hown hby hml e1 mN26 37 38 39 36 1 (rm_sbi l Z a0 hw [] b1 cz h1 n0 Z0 A_b1 F_value_b1 F_count_b1 F_maybeLatin1_b1 F_coder_b1 g_b1 sgC hcz) d54_4 (lenOf own_pd22 rfl) (fun _ T2 L2 X2 hQ2 => ?_)
 obtain ⟨b2, kb2, rfl, N2q, K2, F_value_b1_2', F_count_b1_2', F_maybeLatin1_b1_2', F_coder_b1_2', V_b2_2', g_b2_2', sz_b2_2'⟩ := hQ2
 have N2 := Fr.app N0 N2q
 replace sgC := own_staK sgC K2 (allS (own_obE A_b1) all0)
 replace sgA := own_staK sgA K2 (allS (own_obE A_b1) all0)
 replace sgH := own_staK sgH K2 (allS (own_obE A_b1) all0)
 replace sgL := own_staK sgL K2 (allS (own_obE A_b1) all0)
 replace sgF := own_staK sgF K2 (allS (own_obE A_b1) all0)
 have Sf_b1' := Safe.keep K2 (allS Sf_b1 all0) hR.1 Sf_b1
 replace hR := hR.trans (CHr.keep K2 (allS Sf_b1 all0) hR.1)
 replace Sf_b1 := Sf_b1'
 replace V_fs := V_fs.keep K2 (ninS ne_fs_b1 nin0)
 replace A_b1 := A_b1.keep K2
 replace KP := KP.trans K2 (allS (Or.inr sz_b1) all0)
 replace Z0 := Nat.le_trans Z0 K2.1
 replace hk := Nat.le_trans hk K2.1
 have F_value_b1 := F_value_b1_2'
 have F_count_b1 := F_count_b1_2'
 have F_maybeLatin1_b1 := F_maybeLatin1_b1_2'
 have F_coder_b1 := F_coder_b1_2'
 have V_b2 := V_b2_2'
 have g_b2 := g_b2_2'
 have szc_b2 := sz_b2_2'
 have ne_fs_b2 : fs ≠ b2 := Nat.ne_of_lt (Nat.lt_of_lt_of_le ltc2_fs szc_b2)
 have ne_b1_b2 : b1 ≠ b2 := Nat.ne_of_lt (Nat.lt_of_lt_of_le ltc2_b1 szc_b2)
 have sz_b2 : h0.size ≤ b2 := Nat.le_trans szs2 szc_b2
 show GG (fT T2 m 7 #[vr fs, vu, vu] [(.ref b1)])
 have B_b1 : SbOf Z T2.heap b1 b2 ([] : List Int32) := ⟨kb2, A_b1, F_value_b1, F_count_b1, F_maybeLatin1_b1, Or.inl ⟨F_coder_b1, (by simp), V_b2⟩⟩
 refine Gz (XS.astoreN X2.here hx rfl (hb hby d54_7) rfl rfl (l' := #[vr fs, vr b1, vu]) rfl) ?_
 refine gC X2 hx hby d54_8 ?_
 refine gs X2 hx hby d54_9 #[vr fs, vr b1, vi 0] ?_
 refine gN X2 hx hby d54_10 rfl rfl ?_
 refine gA X2 hx hby d54_11 rfl rfl rfl ?_
 obtain ⟨cl3, Ar3, -, S3, N3z, -, -⟩ := id V_fs
 refine Gs (fun _ tk => X2.arraylength hx Ar3.1 (State.isArrayOf_alike hZ.alike Ar3.2.1) (g := (mkF m 12 #[vr fs, vr b1, vi 0] [(.ref fs), (.int 0)])) rfl rfl (hb hby d54_12) _ tk) ?_
 rw [len_of S3 N3z]
 show GG (fT T2 m 13 #[vr fs, vr b1, vi 0] [(.int 2), (.int 0)])
 refine gU X2 hx hby d54_13 (tlt (by decide : ((0 : Int32) < (2 : Int32)))).2.1 ?_
 refine gN X2 hx hby d54_16 rfl rfl ?_
 refine gy X2 hx hby d54_17 17 27 ((if0 _ _).trans (flt (by decide : ¬ ((0 : Int32) < (0 : Int32)))).2.2.2) ?_
 refine gA X2 hx hby d54_27 rfl rfl rfl ?_
 refine gN X2 hx hby d54_28 rfl rfl ?_
 obtain ⟨cl4, Ar4, -, S4, N4z, H4, -⟩ := id V_fs
 have hin4 : ¬ ((0 : Int32) < 0 ∨ cl4.slots.size ≤ ((0 : Int32)).toNatClampNeg) := inb_of S4 ⟨by decide, by decide⟩
 have hat4 : cl4.slots[((0 : Int32)).toNatClampNeg]? = some (.ref f0) := Has.at H4 hin4 rfl
 refine Gs (fun _ tk => X2.aaload hx (j := (0 : Int32)) (v := (.ref f0)) Ar4.1 (State.isArrayOf_alike hZ.alike Ar4.2.1) rfl Ar4.2.2 hin4 hat4 (g := (mkF m 29 #[vr fs, vr b1, vi 0] [(.int 0), (.ref fs)])) rfl rfl (hb hby d54_29) _ tk) ?_
 show GG (fT T2 m 30 #[vr fs, vr b1, vi 0] [(.ref f0)])
 refine gA X2 hx hby d54_30 rfl rfl rfl ?_
 have kp1 := KP.1
 have lt_b1 : b1 < T2.heap.size := A_b1.lt
 obtain ⟨_, _, ⟨T5, L5, k5, n5⟩, -, X5, hS5, gr5, ⟨Lc5, hQ5, l5, y5, z5, hC5⟩, st5⟩ := callSS X2 hx (y := mN53) hown (gz hZ hw 160 rfl) (gz hZ hw 161 rfl) (gz hZ hw 32 rfl) (gz hZ hw 162 rfl) (by decide) (backOfSH (W := 0) (rm_ae l Z a0 hw [] b1 b2 ([] : List Int32) f0 x0 h0 cz fo T2.heap n0 Z0 B_b1 A_b1 g_b1 g_b2 ne_b1_b2 zT_f0 KP sz_b1 sz_b2 hl0 (by simp only [List.length_append, List.length_cons, List.length_nil]; omega) sgC hcz sgA sgH sgL sgF r_fo) hZ (gw hw 162 rfl) (gw hw 32 rfl) (by decide) (by decide) (own_EW hw) hR.1) (g := (mkF m 31 #[vr fs, vr b1, vi 0] [(.ref b1), (.ref f0)])) rfl hml.symm (argsL := [(.ref f0), (.ref b1)]) (rest := []) (lenOf own_pd38 rfl) rfl (wz rfl) (hb hby d54_31) (fun _ _ => ⟨rfl, rfl, (by decide : 2 + 4 ≤ _), (by decide : 20 + 64 ≤ _)⟩)
 dsimp only [Pt.U, Pt.locs, Pt.cells, Pt.slots] at X5 l5 y5 z5 st5 hQ5 hS5 gr5 hC5
 subst l5 y5 z5
 obtain ⟨X5, hS, hZ, hown⟩ := rebS hS hk X5 hS5 gr5 hZ hown
 replace hk : T5.heap.size ≤ T5.heap.size := Nat.le_refl _
 obtain ⟨y5, rfl, N5q, K5, B_b1_5', g_y5_5', hyb_5', ne_b1_y5_5'⟩ := hQ5
 have N5 := Fr.app N2 N5q
 replace Sf_b1 := hC5.safe lt_b1 Sf_b1
 replace hR := hR.trans hC5
 replace sgC := own_staK sgC K5 (allS (own_obE A_b1) (allS (SbOf.obb B_b1) all0))
 replace sgA := own_staK sgA K5 (allS (own_obE A_b1) (allS (SbOf.obb B_b1) all0))
 replace sgH := own_staK sgH K5 (allS (own_obE A_b1) (allS (SbOf.obb B_b1) all0))
 replace sgL := own_staK sgL K5 (allS (own_obE A_b1) (allS (SbOf.obb B_b1) all0))
 replace sgF := own_staK sgF K5 (allS (own_obE A_b1) (allS (SbOf.obb B_b1) all0))
 replace V_fs := V_fs.keep K5 (ninS ne_fs_b1 (ninS ne_fs_b2 nin0))
 replace A_b1 := A_b1.keep K5
 replace KP := KP.trans K5 (allS (Or.inr sz_b1) (allS (Or.inr sz_b2) all0))
 replace Z0 := Nat.le_trans Z0 K5.1
 have B_b1 := B_b1_5'
 have g_y5 := g_y5_5'
 have hyb5 := hyb_5'
 have ne_b1_y5 := ne_b1_y5_5'
 refine Gs (fun _ tk => st5.trans tk) ?_
 show GG (fT T5 m 34 #[vr fs, vr b1, vi 0] [])
 have sz_y5 : h0.size ≤ y5 := hyb5.elim (fun e => by rw [e]; exact sz_b2) (fun q => Nat.le_trans kp1 q)
 have ne_fs_y5 : fs ≠ y5 := Nat.ne_of_lt (Nat.lt_of_lt_of_le zlt_fs sz_y5)
 refine Gz (XS.iinc X5.here hx rfl (hb hby d54_34) rfl (l' := #[vr fs, vr b1, vi ((0 : Int32) + (1 : Int32))]) rfl) ?_
 show GG (fT T5 m 37 #[vr fs, vr b1, vi 1] [])
 refine gG X5 hx hby d54_37 37 10 ?_
 refine gN X5 hx hby d54_10 rfl rfl ?_
 refine gA X5 hx hby d54_11 rfl rfl rfl ?_
 obtain ⟨cl6, Ar6, -, S6, N6z, -, -⟩ := id V_fs
 refine Gs (fun _ tk => X5.arraylength hx Ar6.1 (State.isArrayOf_alike hZ.alike Ar6.2.1) (g := (mkF m 12 #[vr fs, vr b1, vi 1] [(.ref fs), (.int 1)])) rfl rfl (hb hby d54_12) _ tk) ?_
 rw [len_of S6 N6z]
 show GG (fT T5 m 13 #[vr fs, vr b1, vi 1] [(.int 2), (.int 1)])
 refine gU X5 hx hby d54_13 (tlt (by decide : ((1 : Int32) < (2 : Int32)))).2.1 ?_
 refine gN X5 hx hby d54_16 rfl rfl ?_
 refine gu X5 hx hby d54_17 ((if0 _ _).trans (tlt (by decide : ((0 : Int32) < (1 : Int32)))).2.2.2) ?_
 refine gA X5 hx hby d54_20 rfl rfl rfl ?_
 refine gB X5 hx hby d54_21 ?_
 have kp1 := KP.1
 refine cVg X5 hx hZ hw hown hby hml rfl mN37 52 53 55 54 56 36 0 (rm_sc l Z a0 hw [] b1 y5 (([] : List Int32) ++ own_escs x0) (9 : Int32) cz fo T5.heap n0 Z0 B_b1 A_b1 g_b1 g_y5 ne_b1_y5 ⟨by decide, by decide⟩ (by simp only [List.length_append, List.length_cons, List.length_nil]; omega) sgC hcz sgA sgH sgL sgF r_fo) A_b1 d54_23 (lenOf own_pd36 rfl) (fun _ T7 L7 X7 hQ7 => ?_)
 obtain ⟨y7, rfl, N7q, K7, B_b1_7', g_y7_7', hyb_7', ne_b1_y7_7'⟩ := hQ7
 have N7 := Fr.app N5 N7q
 replace sgC := own_staK sgC K7 (allS (own_obE A_b1) (allS (SbOf.obb B_b1) all0))
 replace sgA := own_staK sgA K7 (allS (own_obE A_b1) (allS (SbOf.obb B_b1) all0))
 replace sgH := own_staK sgH K7 (allS (own_obE A_b1) (allS (SbOf.obb B_b1) all0))
 replace sgL := own_staK sgL K7 (allS (own_obE A_b1) (allS (SbOf.obb B_b1) all0))
 replace sgF := own_staK sgF K7 (allS (own_obE A_b1) (allS (SbOf.obb B_b1) all0))
 have Sf_b1' := Safe.keep K7 (allS Sf_b1 (allS (SbOf.safe hZ (own_EW2 hw) B_b1) all0)) hR.1 Sf_b1
 replace hR := hR.trans (CHr.keep K7 (allS Sf_b1 (allS (SbOf.safe hZ (own_EW2 hw) B_b1) all0)) hR.1)
 replace Sf_b1 := Sf_b1'
 replace V_fs := V_fs.keep K7 (ninS ne_fs_b1 (ninS ne_fs_y5 nin0))
 replace A_b1 := A_b1.keep K7
 replace KP := KP.trans K7 (allS (Or.inr sz_b1) (allS (Or.inr sz_y5) all0))
 replace Z0 := Nat.le_trans Z0 K7.1
 replace hk := Nat.le_trans hk K7.1
 have B_b1 := B_b1_7'
 have g_y7 := g_y7_7'
 have hyb7 := hyb_7'
 have ne_b1_y7 := ne_b1_y7_7'
 show GG (fT T7 m 26 #[vr fs, vr b1, vi 1] [(.ref b1)])
 have sz_y7 : h0.size ≤ y7 := hyb7.elim (fun e => by rw [e]; exact sz_y5) (fun q => Nat.le_trans kp1 q)
 have ne_fs_y7 : fs ≠ y7 := Nat.ne_of_lt (Nat.lt_of_lt_of_le zlt_fs sz_y7)
 refine Gz (XS.pop X7.here hx rfl (hb hby d54_26) rfl rfl) ?_
 refine gA X7 hx hby d54_27 rfl rfl rfl ?_
 refine gN X7 hx hby d54_28 rfl rfl ?_
 obtain ⟨cl8, Ar8, -, S8, N8z, H8, -⟩ := id V_fs
 have hin8 : ¬ ((1 : Int32) < 0 ∨ cl8.slots.size ≤ ((1 : Int32)).toNatClampNeg) := inb_of S8 ⟨by decide, by decide⟩
 have hat8 : cl8.slots[((1 : Int32)).toNatClampNeg]? = some (.ref f1) := Has.at H8 hin8 rfl
 refine Gs (fun _ tk => X7.aaload hx (j := (1 : Int32)) (v := (.ref f1)) Ar8.1 (State.isArrayOf_alike hZ.alike Ar8.2.1) rfl Ar8.2.2 hin8 hat8 (g := (mkF m 29 #[vr fs, vr b1, vi 1] [(.int 1), (.ref fs)])) rfl rfl (hb hby d54_29) _ tk) ?_
 show GG (fT T7 m 30 #[vr fs, vr b1, vi 1] [(.ref f1)])
 refine gA X7 hx hby d54_30 rfl rfl rfl ?_
 have kp1 := KP.1
 have lt_b1 : b1 < T7.heap.size := A_b1.lt
 obtain ⟨_, _, ⟨T9, L9, k9, n9⟩, -, X9, hS9, gr9, ⟨Lc9, hQ9, l9, y9, z9, hC9⟩, st9⟩ := callSS X7 hx (y := mN53) hown (gz hZ hw 160 rfl) (gz hZ hw 161 rfl) (gz hZ hw 32 rfl) (gz hZ hw 162 rfl) (by decide) (backOfSH (W := 0) (rm_ae l Z a0 hw [] b1 y7 ((([] : List Int32) ++ own_escs x0) ++ [(9 : Int32)]) f1 x1 h0 cz fo T7.heap n0 Z0 B_b1 A_b1 g_b1 g_y7 ne_b1_y7 zT_f1 KP sz_b1 sz_y7 hl1 (by simp only [List.length_append, List.length_cons, List.length_nil]; omega) sgC hcz sgA sgH sgL sgF r_fo) hZ (gw hw 162 rfl) (gw hw 32 rfl) (by decide) (by decide) (own_EW hw) hR.1) (g := (mkF m 31 #[vr fs, vr b1, vi 1] [(.ref b1), (.ref f1)])) rfl hml.symm (argsL := [(.ref f1), (.ref b1)]) (rest := []) (lenOf own_pd38 rfl) rfl (wz rfl) (hb hby d54_31) (fun _ _ => ⟨rfl, rfl, (by decide : 7 + 4 ≤ _), (by decide : 116 + 64 ≤ _)⟩)
 dsimp only [Pt.U, Pt.locs, Pt.cells, Pt.slots] at X9 l9 y9 z9 st9 hQ9 hS9 gr9 hC9
 subst l9 y9 z9
 obtain ⟨X9, hS, hZ, hown⟩ := rebS hS hk X9 hS9 gr9 hZ hown
 replace hk : T9.heap.size ≤ T9.heap.size := Nat.le_refl _
 obtain ⟨y9, rfl, N9q, K9, B_b1_9', g_y9_9', hyb_9', ne_b1_y9_9'⟩ := hQ9
 have N9 := Fr.app N7 N9q
 replace Sf_b1 := hC9.safe lt_b1 Sf_b1
 replace hR := hR.trans hC9
 replace sgC := own_staK sgC K9 (allS (own_obE A_b1) (allS (SbOf.obb B_b1) all0))
 replace sgA := own_staK sgA K9 (allS (own_obE A_b1) (allS (SbOf.obb B_b1) all0))
 replace sgH := own_staK sgH K9 (allS (own_obE A_b1) (allS (SbOf.obb B_b1) all0))
 replace sgL := own_staK sgL K9 (allS (own_obE A_b1) (allS (SbOf.obb B_b1) all0))
 replace sgF := own_staK sgF K9 (allS (own_obE A_b1) (allS (SbOf.obb B_b1) all0))
 replace V_fs := V_fs.keep K9 (ninS ne_fs_b1 (ninS ne_fs_y7 nin0))
 replace A_b1 := A_b1.keep K9
 replace KP := KP.trans K9 (allS (Or.inr sz_b1) (allS (Or.inr sz_y7) all0))
 replace Z0 := Nat.le_trans Z0 K9.1
 have B_b1 := B_b1_9'
 have g_y9 := g_y9_9'
 have hyb9 := hyb_9'
 have ne_b1_y9 := ne_b1_y9_9'
 refine Gs (fun _ tk => st9.trans tk) ?_
 show GG (fT T9 m 34 #[vr fs, vr b1, vi 1] [])
 have sz_y9 : h0.size ≤ y9 := hyb9.elim (fun e => by rw [e]; exact sz_y7) (fun q => Nat.le_trans kp1 q)
 have ne_fs_y9 : fs ≠ y9 := Nat.ne_of_lt (Nat.lt_of_lt_of_le zlt_fs sz_y9)
 refine Gz (XS.iinc X9.here hx rfl (hb hby d54_34) rfl (l' := #[vr fs, vr b1, vi ((1 : Int32) + (1 : Int32))]) rfl) ?_
 show GG (fT T9 m 37 #[vr fs, vr b1, vi 2] [])
 refine gG X9 hx hby d54_37 37 10 ?_
 refine gN X9 hx hby d54_10 rfl rfl ?_
 refine gA X9 hx hby d54_11 rfl rfl rfl ?_
 obtain ⟨cl10, Ar10, -, S10, N10z, -, -⟩ := id V_fs
 refine Gs (fun _ tk => X9.arraylength hx Ar10.1 (State.isArrayOf_alike hZ.alike Ar10.2.1) (g := (mkF m 12 #[vr fs, vr b1, vi 2] [(.ref fs), (.int 2)])) rfl rfl (hb hby d54_12) _ tk) ?_
 rw [len_of S10 N10z]
 show GG (fT T9 m 13 #[vr fs, vr b1, vi 2] [(.int 2), (.int 2)])
 refine gY X9 hx hby d54_13 13 40 (flt (by decide : ¬ ((2 : Int32) < (2 : Int32)))).2.1 ?_
 refine gA X9 hx hby d54_40 rfl rfl rfl ?_
 refine gB X9 hx hby d54_41 ?_
 have kp1 := KP.1
 refine cVg X9 hx hZ hw hown hby hml rfl mN37 52 53 55 54 56 36 0 (rm_sc l Z a0 hw [] b1 y9 (((([] : List Int32) ++ own_escs x0) ++ [(9 : Int32)]) ++ own_escs x1) (10 : Int32) cz fo T9.heap n0 Z0 B_b1 A_b1 g_b1 g_y9 ne_b1_y9 ⟨by decide, by decide⟩ (by simp only [List.length_append, List.length_cons, List.length_nil]; omega) sgC hcz sgA sgH sgL sgF r_fo) A_b1 d54_43 (lenOf own_pd36 rfl) (fun _ T11 L11 X11 hQ11 => ?_)
 obtain ⟨y11, rfl, N11q, K11, B_b1_11', g_y11_11', hyb_11', ne_b1_y11_11'⟩ := hQ11
 have N11 := Fr.app N9 N11q
 replace sgC := own_staK sgC K11 (allS (own_obE A_b1) (allS (SbOf.obb B_b1) all0))
 replace hR := hR.trans (CHr.keep K11 (allS Sf_b1 (allS (SbOf.safe hZ (own_EW2 hw) B_b1) all0)) hR.1)
 replace A_b1 := A_b1.keep K11
 replace KP := KP.trans K11 (allS (Or.inr sz_b1) (allS (Or.inr sz_y9) all0))
 replace Z0 := Nat.le_trans Z0 K11.1
 replace hk := Nat.le_trans hk K11.1
 have B_b1 := B_b1_11'
 have g_y11 := g_y11_11'
 have hyb11 := hyb_11'
 have ne_b1_y11 := ne_b1_y11_11'
 show GG (fT T11 m 46 #[vr fs, vr b1, vi 2] [(.ref b1)])
 have sz_y11 : h0.size ≤ y11 := hyb11.elim (fun e => by rw [e]; exact sz_y9) (fun q => Nat.le_trans kp1 q)
 have ne_fs_y11 : fs ≠ y11 := Nat.ne_of_lt (Nat.lt_of_lt_of_le zlt_fs sz_y11)
 refine cVg X11 hx hZ hw hown hby hml rfl mN52 78 79 81 80 82 36 0 (rm_tt l Z a0 hw [] b1 y11 ((((([] : List Int32) ++ own_escs x0) ++ [(9 : Int32)]) ++ own_escs x1) ++ [(10 : Int32)]) cz T11.heap n0 Z0 B_b1 A_b1 (by simp only [List.length_append, List.length_cons, List.length_nil]; omega) sgC hcz) A_b1 d54_46 (lenOf own_pd37 rfl) (fun _ T12 L12 X12 hQ12 => ?_)
 obtain ⟨u12, rfl, N12q, K12, T_u12_12'⟩ := hQ12
 have N12 := Fr.app N11 N12q
 replace hR := hR.trans (CHr.keep K12 all0 hR.1)
 replace KP := KP.trans K12 all0
 replace Z0 := Nat.le_trans Z0 K12.1
 replace hk := Nat.le_trans hk K12.1
 have T_u12 := T_u12_12'
 show GG (fT T12 m 49 #[vr fs, vr b1, vi 2] [(.ref u12)])
 refine Goes.retH X12 hS rfl hk hZ (own_EW hw) hh hR (some (.ref u12)) (fun h => by rw [hret] at h; cases h) hlk (by decide) (by decide) ?_ (fun fs hr => ?_)
 ·exact ⟨u12, rfl, N12, KP, T_u12⟩
 ·exact own_retA X12 hx hret rfl rfl (hb hby d54_49) hr
theorem own_ef_rm_ln3 (m : MethodId) (x0 : Addr) : entryFrame m #[(.ref x0)] 3 = mkF m 0 #[vr x0, vu, vu] [] := by first | (simp [entryFrame, mkF, argsToLocals, Value.category]; done) | rfl
def Q_rm_ln3 (Z : State) (fs : Addr) (kf : ClassId) (f0 : Addr) (x0 : List Int32) (f1 : Addr) (x1 : List Int32) (f2 : Addr) (x2 : List Int32) (cz : Int32) (fo : Value) (h0 : Heap) (n0 : Nat) (v : Option Value) (h : Heap) (L : List Loc) : Prop := ∃ u : Addr, v = some (.ref u) ∧ Fr n0 L ∧ Keep h0 h [] ∧ StrOf Z h u ((((((([] : List Int32) ++ own_escs x0) ++ [(9 : Int32)]) ++ own_escs x1) ++ [(9 : Int32)]) ++ own_escs x2) ++ [(10 : Int32)])
theorem rm_ln3 (l : Launch) (Z : State) (a0 : Array Value) (hw : HW a0 Z) (ws : List Jvm.Cond) (fs : Addr) (kf : ClassId) (f0 : Addr) (x0 : List Int32) (f1 : Addr) (x1 : List Int32) (f2 : Addr) (x2 : List Int32) (cz : Int32) (fo : Value) (h0 : Heap) (n0 : Nat) (Z0 : n0 ≤ h0.size) (V_fs : Arv Z h0 fs kf (.object "java/lang/String") (3 : Int32) [(.ref f0), (.ref f1), (.ref f2)] .null) (T_f0 : StrOf Z h0 f0 x0) (hl0 : x0.length ≤ 2) (T_f1 : StrOf Z h0 f1 x1) (hl1 : x1.length ≤ 2) (T_f2 : StrOf Z h0 f2 x2) (hl2 : x2.length ≤ 2) (sgC : Sta Z h0 "java/lang/String" "COMPACT_STRINGS" "Z" (.int cz)) (hcz : ¬ (cz = 0)) (sgA : Sta Z h0 "java/lang/StringUTF16" "$assertionsDisabled" "Z" (.int 1)) (sgH : Sta Z h0 "java/lang/StringUTF16" "HI_BYTE_SHIFT" "I" (.int 0)) (sgL : Sta Z h0 "java/lang/StringUTF16" "LO_BYTE_SHIFT" "I" (.int 8)) (sgF : Sta Z h0 "jdk/internal/util/Preconditions" "SIOOBE_FORMATTER" "Ljava/util/function/BiFunction;" fo) (r_fo : fo.isRef = true) :
  MetH l Z mN54 prog_3_method_2_code 3 (some (.object "java/lang/String")) ({ frames := 10, cells := 19, slots := 344, locals := 147 } : Room) ws #[(.ref fs)] h0 (Q_rm_ln3 Z fs kf f0 x0 f1 x1 f2 x2 cz fo h0 n0) := by
 refine own_metH (plainFor_of_name own_pn7) ?_
 intro p e s m below meth c s₁ hret hx hby hlk hml hown hnm X0 e0 hZ hh hC0
 have N0 := Fr.nil n0
 have hS : s.Since s.vm h0.size := (State.WarmedH.refl s).since _
 have hk : h0.size ≤ h0.size := Nat.le_refl _
 replace hZ : Z.Warmed39 (s.setVm s.vm).vm := hZ
 have hR : CHr Z consts_1 s.vm h0 s.vm h0 := CHr.refl hC0
 refine Gz (castTop (own_ef_rm_ln3 m fs)) ?_
 have KP : Keep h0 h0 [] := Keep.refl _ _
 show GG (fT s₁ m 0 #[vr fs, vu, vu] [])
 have zlt_fs : fs < h0.size := V_fs.lt
 have zT_f0 := T_f0
 have hs0 := own_escsL x0
 have zT_f1 := T_f1
 have hs1 := own_escsL x1
 have zT_f2 := T_f2
 have hs2 := own_escsL x2
 obtain ⟨T1, h1, X1, e1, E1, A1, D1, U1, st1⟩ := newO X0 hx hZ hown (gw hw 34 rfl) (gw hw 35 rfl) (gw hw 36 rfl) e0 (g := (mkF m 0 #[vr fs, vu, vu] [])) rfl (hb hby d54_0) (by decide) (by decide)
 obtain ⟨b1, gq1⟩ : ∃ z, z = h0.size := ⟨_, rfl⟩
 rw [← gq1] at A1 st1 D1
 have g_b1 : n0 ≤ b1 := by rw [gq1]; exact Z0
 have sz_b1 : h0.size ≤ b1 := by rw [gq1]; exact KP.1
 have ne_fs_b1 : fs ≠ b1 := by rw [gq1]; exact Nat.ne_of_lt V_fs.lt
 have Sf_b1 : Safe Z consts_1 s.vm h0 b1 := Safe.new (Nat.le_of_eq gq1.symm)
 replace Sf_b1 := Safe.ext E1 hR.1 Sf_b1
 replace hR := hR.trans (CHr.ext E1 hR.1)
 replace V_fs := V_fs.ext E1
 replace sgC := sgC.ext E1
 replace sgA := sgA.ext E1
 replace sgH := sgH.ext E1
 replace sgL := sgL.ext E1
 replace sgF := sgF.ext E1
 replace KP := KP.ext E1
 replace Z0 : n0 ≤ h1.size := Nat.le_trans Z0 E1.1
 replace hk := Nat.le_trans hk E1.1
 have A_b1 : Exa Z h1 b1 "java/lang/StringBuilder" := A1
 have F_value_b1 : Fld Z h1 b1 "java/lang/AbstractStringBuilder" "value" "[B" .null := D1 (Or.inl (gw hw 49 rfl)) (ty := (.array .byte)) (by decide)
 have F_coder_b1 : Fld Z h1 b1 "java/lang/AbstractStringBuilder" "coder" "B" (.int 0) := D1 (Or.inl (gw hw 51 rfl)) (ty := .byte) (by decide)
 have F_count_b1 : Fld Z h1 b1 "java/lang/AbstractStringBuilder" "count" "I" (.int 0) := D1 (Or.inl (gw hw 63 rfl)) (ty := .int) (by decide)
 have F_maybeLatin1_b1 : Fld Z h1 b1 "java/lang/AbstractStringBuilder" "maybeLatin1" "Z" (.int 0) := D1 (Or.inl (gw hw 273 rfl)) (ty := .boolean) (by decide)
 refine Gs st1 ?_
 show GG (fT T1 m 3 #[vr fs, vu, vu] [(.ref b1)])
 refine Gz (XS.dup X1.here hx rfl (hb hby d54_3) rfl rfl) ?_
 have ltc2_fs : fs < h1.size := V_fs.lt
 have ltc2_b1 : b1 < h1.size := A_b1.lt
 have szs2 : h0.size ≤ h1.size := KP.1
 refine cIg X1 hx hZ hw hown hby hml e1 mN26 37 38 39 36 1 (rm_sbi l Z a0 hw [] b1 cz h1 n0 Z0 A_b1 F_value_b1 F_count_b1 F_maybeLatin1_b1 F_coder_b1 g_b1 sgC hcz) d54_4 (lenOf own_pd22 rfl) (fun _ T2 L2 X2 hQ2 => ?_)
 obtain ⟨b2, kb2, rfl, N2q, K2, F_value_b1_2', F_count_b1_2', F_maybeLatin1_b1_2', F_coder_b1_2', V_b2_2', g_b2_2', sz_b2_2'⟩ := hQ2
 have N2 := Fr.app N0 N2q
 replace sgC := own_staK sgC K2 (allS (own_obE A_b1) all0)
 replace sgA := own_staK sgA K2 (allS (own_obE A_b1) all0)
 replace sgH := own_staK sgH K2 (allS (own_obE A_b1) all0)
 replace sgL := own_staK sgL K2 (allS (own_obE A_b1) all0)
 replace sgF := own_staK sgF K2 (allS (own_obE A_b1) all0)
 have Sf_b1' := Safe.keep K2 (allS Sf_b1 all0) hR.1 Sf_b1
 replace hR := hR.trans (CHr.keep K2 (allS Sf_b1 all0) hR.1)
 replace Sf_b1 := Sf_b1'
 replace V_fs := V_fs.keep K2 (ninS ne_fs_b1 nin0)
 replace A_b1 := A_b1.keep K2
 replace KP := KP.trans K2 (allS (Or.inr sz_b1) all0)
 replace Z0 := Nat.le_trans Z0 K2.1
 replace hk := Nat.le_trans hk K2.1
 have F_value_b1 := F_value_b1_2'
 have F_count_b1 := F_count_b1_2'
 have F_maybeLatin1_b1 := F_maybeLatin1_b1_2'
 have F_coder_b1 := F_coder_b1_2'
 have V_b2 := V_b2_2'
 have g_b2 := g_b2_2'
 have szc_b2 := sz_b2_2'
 have ne_fs_b2 : fs ≠ b2 := Nat.ne_of_lt (Nat.lt_of_lt_of_le ltc2_fs szc_b2)
 have ne_b1_b2 : b1 ≠ b2 := Nat.ne_of_lt (Nat.lt_of_lt_of_le ltc2_b1 szc_b2)
 have sz_b2 : h0.size ≤ b2 := Nat.le_trans szs2 szc_b2
 show GG (fT T2 m 7 #[vr fs, vu, vu] [(.ref b1)])
 have B_b1 : SbOf Z T2.heap b1 b2 ([] : List Int32) := ⟨kb2, A_b1, F_value_b1, F_count_b1, F_maybeLatin1_b1, Or.inl ⟨F_coder_b1, (by simp), V_b2⟩⟩
 refine Gz (XS.astoreN X2.here hx rfl (hb hby d54_7) rfl rfl (l' := #[vr fs, vr b1, vu]) rfl) ?_
 refine gC X2 hx hby d54_8 ?_
 refine gs X2 hx hby d54_9 #[vr fs, vr b1, vi 0] ?_
 refine gN X2 hx hby d54_10 rfl rfl ?_
 refine gA X2 hx hby d54_11 rfl rfl rfl ?_
 obtain ⟨cl3, Ar3, -, S3, N3z, -, -⟩ := id V_fs
 refine Gs (fun _ tk => X2.arraylength hx Ar3.1 (State.isArrayOf_alike hZ.alike Ar3.2.1) (g := (mkF m 12 #[vr fs, vr b1, vi 0] [(.ref fs), (.int 0)])) rfl rfl (hb hby d54_12) _ tk) ?_
 rw [len_of S3 N3z]
 show GG (fT T2 m 13 #[vr fs, vr b1, vi 0] [(.int 3), (.int 0)])
 refine gU X2 hx hby d54_13 (tlt (by decide : ((0 : Int32) < (3 : Int32)))).2.1 ?_
 refine gN X2 hx hby d54_16 rfl rfl ?_
 refine gy X2 hx hby d54_17 17 27 ((if0 _ _).trans (flt (by decide : ¬ ((0 : Int32) < (0 : Int32)))).2.2.2) ?_
 refine gA X2 hx hby d54_27 rfl rfl rfl ?_
 refine gN X2 hx hby d54_28 rfl rfl ?_
 obtain ⟨cl4, Ar4, -, S4, N4z, H4, -⟩ := id V_fs
 have hin4 : ¬ ((0 : Int32) < 0 ∨ cl4.slots.size ≤ ((0 : Int32)).toNatClampNeg) := inb_of S4 ⟨by decide, by decide⟩
 have hat4 : cl4.slots[((0 : Int32)).toNatClampNeg]? = some (.ref f0) := Has.at H4 hin4 rfl
 refine Gs (fun _ tk => X2.aaload hx (j := (0 : Int32)) (v := (.ref f0)) Ar4.1 (State.isArrayOf_alike hZ.alike Ar4.2.1) rfl Ar4.2.2 hin4 hat4 (g := (mkF m 29 #[vr fs, vr b1, vi 0] [(.int 0), (.ref fs)])) rfl rfl (hb hby d54_29) _ tk) ?_
 show GG (fT T2 m 30 #[vr fs, vr b1, vi 0] [(.ref f0)])
 refine gA X2 hx hby d54_30 rfl rfl rfl ?_
 have kp1 := KP.1
 have lt_b1 : b1 < T2.heap.size := A_b1.lt
 obtain ⟨_, _, ⟨T5, L5, k5, n5⟩, -, X5, hS5, gr5, ⟨Lc5, hQ5, l5, y5, z5, hC5⟩, st5⟩ := callSS X2 hx (y := mN53) hown (gz hZ hw 160 rfl) (gz hZ hw 161 rfl) (gz hZ hw 32 rfl) (gz hZ hw 162 rfl) (by decide) (backOfSH (W := 0) (rm_ae l Z a0 hw [] b1 b2 ([] : List Int32) f0 x0 h0 cz fo T2.heap n0 Z0 B_b1 A_b1 g_b1 g_b2 ne_b1_b2 zT_f0 KP sz_b1 sz_b2 hl0 (by simp only [List.length_append, List.length_cons, List.length_nil]; omega) sgC hcz sgA sgH sgL sgF r_fo) hZ (gw hw 162 rfl) (gw hw 32 rfl) (by decide) (by decide) (own_EW hw) hR.1) (g := (mkF m 31 #[vr fs, vr b1, vi 0] [(.ref b1), (.ref f0)])) rfl hml.symm (argsL := [(.ref f0), (.ref b1)]) (rest := []) (lenOf own_pd38 rfl) rfl (wz rfl) (hb hby d54_31) (fun _ _ => ⟨rfl, rfl, (by decide : 2 + 4 ≤ _), (by decide : 20 + 64 ≤ _)⟩)
 dsimp only [Pt.U, Pt.locs, Pt.cells, Pt.slots] at X5 l5 y5 z5 st5 hQ5 hS5 gr5 hC5
 subst l5 y5 z5
 obtain ⟨X5, hS, hZ, hown⟩ := rebS hS hk X5 hS5 gr5 hZ hown
 replace hk : T5.heap.size ≤ T5.heap.size := Nat.le_refl _
 obtain ⟨y5, rfl, N5q, K5, B_b1_5', g_y5_5', hyb_5', ne_b1_y5_5'⟩ := hQ5
 have N5 := Fr.app N2 N5q
 replace Sf_b1 := hC5.safe lt_b1 Sf_b1
 replace hR := hR.trans hC5
 replace sgC := own_staK sgC K5 (allS (own_obE A_b1) (allS (SbOf.obb B_b1) all0))
 replace sgA := own_staK sgA K5 (allS (own_obE A_b1) (allS (SbOf.obb B_b1) all0))
 replace sgH := own_staK sgH K5 (allS (own_obE A_b1) (allS (SbOf.obb B_b1) all0))
 replace sgL := own_staK sgL K5 (allS (own_obE A_b1) (allS (SbOf.obb B_b1) all0))
 replace sgF := own_staK sgF K5 (allS (own_obE A_b1) (allS (SbOf.obb B_b1) all0))
 replace V_fs := V_fs.keep K5 (ninS ne_fs_b1 (ninS ne_fs_b2 nin0))
 replace A_b1 := A_b1.keep K5
 replace KP := KP.trans K5 (allS (Or.inr sz_b1) (allS (Or.inr sz_b2) all0))
 replace Z0 := Nat.le_trans Z0 K5.1
 have B_b1 := B_b1_5'
 have g_y5 := g_y5_5'
 have hyb5 := hyb_5'
 have ne_b1_y5 := ne_b1_y5_5'
 refine Gs (fun _ tk => st5.trans tk) ?_
 show GG (fT T5 m 34 #[vr fs, vr b1, vi 0] [])
 have sz_y5 : h0.size ≤ y5 := hyb5.elim (fun e => by rw [e]; exact sz_b2) (fun q => Nat.le_trans kp1 q)
 have ne_fs_y5 : fs ≠ y5 := Nat.ne_of_lt (Nat.lt_of_lt_of_le zlt_fs sz_y5)
 refine Gz (XS.iinc X5.here hx rfl (hb hby d54_34) rfl (l' := #[vr fs, vr b1, vi ((0 : Int32) + (1 : Int32))]) rfl) ?_
 show GG (fT T5 m 37 #[vr fs, vr b1, vi 1] [])
 refine gG X5 hx hby d54_37 37 10 ?_
 refine gN X5 hx hby d54_10 rfl rfl ?_
 refine gA X5 hx hby d54_11 rfl rfl rfl ?_
 obtain ⟨cl6, Ar6, -, S6, N6z, -, -⟩ := id V_fs
 refine Gs (fun _ tk => X5.arraylength hx Ar6.1 (State.isArrayOf_alike hZ.alike Ar6.2.1) (g := (mkF m 12 #[vr fs, vr b1, vi 1] [(.ref fs), (.int 1)])) rfl rfl (hb hby d54_12) _ tk) ?_
 rw [len_of S6 N6z]
 show GG (fT T5 m 13 #[vr fs, vr b1, vi 1] [(.int 3), (.int 1)])
 refine gU X5 hx hby d54_13 (tlt (by decide : ((1 : Int32) < (3 : Int32)))).2.1 ?_
 refine gN X5 hx hby d54_16 rfl rfl ?_
 refine gu X5 hx hby d54_17 ((if0 _ _).trans (tlt (by decide : ((0 : Int32) < (1 : Int32)))).2.2.2) ?_
 refine gA X5 hx hby d54_20 rfl rfl rfl ?_
 refine gB X5 hx hby d54_21 ?_
 have kp1 := KP.1
 refine cVg X5 hx hZ hw hown hby hml rfl mN37 52 53 55 54 56 36 0 (rm_sc l Z a0 hw [] b1 y5 (([] : List Int32) ++ own_escs x0) (9 : Int32) cz fo T5.heap n0 Z0 B_b1 A_b1 g_b1 g_y5 ne_b1_y5 ⟨by decide, by decide⟩ (by simp only [List.length_append, List.length_cons, List.length_nil]; omega) sgC hcz sgA sgH sgL sgF r_fo) A_b1 d54_23 (lenOf own_pd36 rfl) (fun _ T7 L7 X7 hQ7 => ?_)
 obtain ⟨y7, rfl, N7q, K7, B_b1_7', g_y7_7', hyb_7', ne_b1_y7_7'⟩ := hQ7
 have N7 := Fr.app N5 N7q
 replace sgC := own_staK sgC K7 (allS (own_obE A_b1) (allS (SbOf.obb B_b1) all0))
 replace sgA := own_staK sgA K7 (allS (own_obE A_b1) (allS (SbOf.obb B_b1) all0))
 replace sgH := own_staK sgH K7 (allS (own_obE A_b1) (allS (SbOf.obb B_b1) all0))
 replace sgL := own_staK sgL K7 (allS (own_obE A_b1) (allS (SbOf.obb B_b1) all0))
 replace sgF := own_staK sgF K7 (allS (own_obE A_b1) (allS (SbOf.obb B_b1) all0))
 have Sf_b1' := Safe.keep K7 (allS Sf_b1 (allS (SbOf.safe hZ (own_EW2 hw) B_b1) all0)) hR.1 Sf_b1
 replace hR := hR.trans (CHr.keep K7 (allS Sf_b1 (allS (SbOf.safe hZ (own_EW2 hw) B_b1) all0)) hR.1)
 replace Sf_b1 := Sf_b1'
 replace V_fs := V_fs.keep K7 (ninS ne_fs_b1 (ninS ne_fs_y5 nin0))
 replace A_b1 := A_b1.keep K7
 replace KP := KP.trans K7 (allS (Or.inr sz_b1) (allS (Or.inr sz_y5) all0))
 replace Z0 := Nat.le_trans Z0 K7.1
 replace hk := Nat.le_trans hk K7.1
 have B_b1 := B_b1_7'
 have g_y7 := g_y7_7'
 have hyb7 := hyb_7'
 have ne_b1_y7 := ne_b1_y7_7'
 show GG (fT T7 m 26 #[vr fs, vr b1, vi 1] [(.ref b1)])
 have sz_y7 : h0.size ≤ y7 := hyb7.elim (fun e => by rw [e]; exact sz_y5) (fun q => Nat.le_trans kp1 q)
 have ne_fs_y7 : fs ≠ y7 := Nat.ne_of_lt (Nat.lt_of_lt_of_le zlt_fs sz_y7)
 refine Gz (XS.pop X7.here hx rfl (hb hby d54_26) rfl rfl) ?_
 refine gA X7 hx hby d54_27 rfl rfl rfl ?_
 refine gN X7 hx hby d54_28 rfl rfl ?_
 obtain ⟨cl8, Ar8, -, S8, N8z, H8, -⟩ := id V_fs
 have hin8 : ¬ ((1 : Int32) < 0 ∨ cl8.slots.size ≤ ((1 : Int32)).toNatClampNeg) := inb_of S8 ⟨by decide, by decide⟩
 have hat8 : cl8.slots[((1 : Int32)).toNatClampNeg]? = some (.ref f1) := Has.at H8 hin8 rfl
 refine Gs (fun _ tk => X7.aaload hx (j := (1 : Int32)) (v := (.ref f1)) Ar8.1 (State.isArrayOf_alike hZ.alike Ar8.2.1) rfl Ar8.2.2 hin8 hat8 (g := (mkF m 29 #[vr fs, vr b1, vi 1] [(.int 1), (.ref fs)])) rfl rfl (hb hby d54_29) _ tk) ?_
 show GG (fT T7 m 30 #[vr fs, vr b1, vi 1] [(.ref f1)])
 refine gA X7 hx hby d54_30 rfl rfl rfl ?_
 have kp1 := KP.1
 have lt_b1 : b1 < T7.heap.size := A_b1.lt
 obtain ⟨_, _, ⟨T9, L9, k9, n9⟩, -, X9, hS9, gr9, ⟨Lc9, hQ9, l9, y9, z9, hC9⟩, st9⟩ := callSS X7 hx (y := mN53) hown (gz hZ hw 160 rfl) (gz hZ hw 161 rfl) (gz hZ hw 32 rfl) (gz hZ hw 162 rfl) (by decide) (backOfSH (W := 0) (rm_ae l Z a0 hw [] b1 y7 ((([] : List Int32) ++ own_escs x0) ++ [(9 : Int32)]) f1 x1 h0 cz fo T7.heap n0 Z0 B_b1 A_b1 g_b1 g_y7 ne_b1_y7 zT_f1 KP sz_b1 sz_y7 hl1 (by simp only [List.length_append, List.length_cons, List.length_nil]; omega) sgC hcz sgA sgH sgL sgF r_fo) hZ (gw hw 162 rfl) (gw hw 32 rfl) (by decide) (by decide) (own_EW hw) hR.1) (g := (mkF m 31 #[vr fs, vr b1, vi 1] [(.ref b1), (.ref f1)])) rfl hml.symm (argsL := [(.ref f1), (.ref b1)]) (rest := []) (lenOf own_pd38 rfl) rfl (wz rfl) (hb hby d54_31) (fun _ _ => ⟨rfl, rfl, (by decide : 7 + 4 ≤ _), (by decide : 116 + 64 ≤ _)⟩)
 dsimp only [Pt.U, Pt.locs, Pt.cells, Pt.slots] at X9 l9 y9 z9 st9 hQ9 hS9 gr9 hC9
 subst l9 y9 z9
 obtain ⟨X9, hS, hZ, hown⟩ := rebS hS hk X9 hS9 gr9 hZ hown
 replace hk : T9.heap.size ≤ T9.heap.size := Nat.le_refl _
 obtain ⟨y9, rfl, N9q, K9, B_b1_9', g_y9_9', hyb_9', ne_b1_y9_9'⟩ := hQ9
 have N9 := Fr.app N7 N9q
 replace Sf_b1 := hC9.safe lt_b1 Sf_b1
 replace hR := hR.trans hC9
 replace sgC := own_staK sgC K9 (allS (own_obE A_b1) (allS (SbOf.obb B_b1) all0))
 replace sgA := own_staK sgA K9 (allS (own_obE A_b1) (allS (SbOf.obb B_b1) all0))
 replace sgH := own_staK sgH K9 (allS (own_obE A_b1) (allS (SbOf.obb B_b1) all0))
 replace sgL := own_staK sgL K9 (allS (own_obE A_b1) (allS (SbOf.obb B_b1) all0))
 replace sgF := own_staK sgF K9 (allS (own_obE A_b1) (allS (SbOf.obb B_b1) all0))
 replace V_fs := V_fs.keep K9 (ninS ne_fs_b1 (ninS ne_fs_y7 nin0))
 replace A_b1 := A_b1.keep K9
 replace KP := KP.trans K9 (allS (Or.inr sz_b1) (allS (Or.inr sz_y7) all0))
 replace Z0 := Nat.le_trans Z0 K9.1
 have B_b1 := B_b1_9'
 have g_y9 := g_y9_9'
 have hyb9 := hyb_9'
 have ne_b1_y9 := ne_b1_y9_9'
 refine Gs (fun _ tk => st9.trans tk) ?_
 show GG (fT T9 m 34 #[vr fs, vr b1, vi 1] [])
 have sz_y9 : h0.size ≤ y9 := hyb9.elim (fun e => by rw [e]; exact sz_y7) (fun q => Nat.le_trans kp1 q)
 have ne_fs_y9 : fs ≠ y9 := Nat.ne_of_lt (Nat.lt_of_lt_of_le zlt_fs sz_y9)
 refine Gz (XS.iinc X9.here hx rfl (hb hby d54_34) rfl (l' := #[vr fs, vr b1, vi ((1 : Int32) + (1 : Int32))]) rfl) ?_
 show GG (fT T9 m 37 #[vr fs, vr b1, vi 2] [])
 refine gG X9 hx hby d54_37 37 10 ?_
 refine gN X9 hx hby d54_10 rfl rfl ?_
 refine gA X9 hx hby d54_11 rfl rfl rfl ?_
 obtain ⟨cl10, Ar10, -, S10, N10z, -, -⟩ := id V_fs
 refine Gs (fun _ tk => X9.arraylength hx Ar10.1 (State.isArrayOf_alike hZ.alike Ar10.2.1) (g := (mkF m 12 #[vr fs, vr b1, vi 2] [(.ref fs), (.int 2)])) rfl rfl (hb hby d54_12) _ tk) ?_
 rw [len_of S10 N10z]
 show GG (fT T9 m 13 #[vr fs, vr b1, vi 2] [(.int 3), (.int 2)])
 refine gU X9 hx hby d54_13 (tlt (by decide : ((2 : Int32) < (3 : Int32)))).2.1 ?_
 refine gN X9 hx hby d54_16 rfl rfl ?_
 refine gu X9 hx hby d54_17 ((if0 _ _).trans (tlt (by decide : ((0 : Int32) < (2 : Int32)))).2.2.2) ?_
 refine gA X9 hx hby d54_20 rfl rfl rfl ?_
 refine gB X9 hx hby d54_21 ?_
 have kp1 := KP.1
 refine cVg X9 hx hZ hw hown hby hml rfl mN37 52 53 55 54 56 36 0 (rm_sc l Z a0 hw [] b1 y9 (((([] : List Int32) ++ own_escs x0) ++ [(9 : Int32)]) ++ own_escs x1) (9 : Int32) cz fo T9.heap n0 Z0 B_b1 A_b1 g_b1 g_y9 ne_b1_y9 ⟨by decide, by decide⟩ (by simp only [List.length_append, List.length_cons, List.length_nil]; omega) sgC hcz sgA sgH sgL sgF r_fo) A_b1 d54_23 (lenOf own_pd36 rfl) (fun _ T11 L11 X11 hQ11 => ?_)
 obtain ⟨y11, rfl, N11q, K11, B_b1_11', g_y11_11', hyb_11', ne_b1_y11_11'⟩ := hQ11
 have N11 := Fr.app N9 N11q
 replace sgC := own_staK sgC K11 (allS (own_obE A_b1) (allS (SbOf.obb B_b1) all0))
 replace sgA := own_staK sgA K11 (allS (own_obE A_b1) (allS (SbOf.obb B_b1) all0))
 replace sgH := own_staK sgH K11 (allS (own_obE A_b1) (allS (SbOf.obb B_b1) all0))
 replace sgL := own_staK sgL K11 (allS (own_obE A_b1) (allS (SbOf.obb B_b1) all0))
 replace sgF := own_staK sgF K11 (allS (own_obE A_b1) (allS (SbOf.obb B_b1) all0))
 have Sf_b1' := Safe.keep K11 (allS Sf_b1 (allS (SbOf.safe hZ (own_EW2 hw) B_b1) all0)) hR.1 Sf_b1
 replace hR := hR.trans (CHr.keep K11 (allS Sf_b1 (allS (SbOf.safe hZ (own_EW2 hw) B_b1) all0)) hR.1)
 replace Sf_b1 := Sf_b1'
 replace V_fs := V_fs.keep K11 (ninS ne_fs_b1 (ninS ne_fs_y9 nin0))
 replace A_b1 := A_b1.keep K11
 replace KP := KP.trans K11 (allS (Or.inr sz_b1) (allS (Or.inr sz_y9) all0))
 replace Z0 := Nat.le_trans Z0 K11.1
 replace hk := Nat.le_trans hk K11.1
 have B_b1 := B_b1_11'
 have g_y11 := g_y11_11'
 have hyb11 := hyb_11'
 have ne_b1_y11 := ne_b1_y11_11'
 show GG (fT T11 m 26 #[vr fs, vr b1, vi 2] [(.ref b1)])
 have sz_y11 : h0.size ≤ y11 := hyb11.elim (fun e => by rw [e]; exact sz_y9) (fun q => Nat.le_trans kp1 q)
 have ne_fs_y11 : fs ≠ y11 := Nat.ne_of_lt (Nat.lt_of_lt_of_le zlt_fs sz_y11)
 refine Gz (XS.pop X11.here hx rfl (hb hby d54_26) rfl rfl) ?_
 refine gA X11 hx hby d54_27 rfl rfl rfl ?_
 refine gN X11 hx hby d54_28 rfl rfl ?_
 obtain ⟨cl12, Ar12, -, S12, N12z, H12, -⟩ := id V_fs
 have hin12 : ¬ ((2 : Int32) < 0 ∨ cl12.slots.size ≤ ((2 : Int32)).toNatClampNeg) := inb_of S12 ⟨by decide, by decide⟩
 have hat12 : cl12.slots[((2 : Int32)).toNatClampNeg]? = some (.ref f2) := Has.at H12 hin12 rfl
 refine Gs (fun _ tk => X11.aaload hx (j := (2 : Int32)) (v := (.ref f2)) Ar12.1 (State.isArrayOf_alike hZ.alike Ar12.2.1) rfl Ar12.2.2 hin12 hat12 (g := (mkF m 29 #[vr fs, vr b1, vi 2] [(.int 2), (.ref fs)])) rfl rfl (hb hby d54_29) _ tk) ?_
 show GG (fT T11 m 30 #[vr fs, vr b1, vi 2] [(.ref f2)])
 refine gA X11 hx hby d54_30 rfl rfl rfl ?_
 have kp1 := KP.1
 have lt_b1 : b1 < T11.heap.size := A_b1.lt
 obtain ⟨_, _, ⟨T13, L13, k13, n13⟩, -, X13, hS13, gr13, ⟨Lc13, hQ13, l13, y13, z13, hC13⟩, st13⟩ := callSS X11 hx (y := mN53) hown (gz hZ hw 160 rfl) (gz hZ hw 161 rfl) (gz hZ hw 32 rfl) (gz hZ hw 162 rfl) (by decide) (backOfSH (W := 0) (rm_ae l Z a0 hw [] b1 y11 ((((([] : List Int32) ++ own_escs x0) ++ [(9 : Int32)]) ++ own_escs x1) ++ [(9 : Int32)]) f2 x2 h0 cz fo T11.heap n0 Z0 B_b1 A_b1 g_b1 g_y11 ne_b1_y11 zT_f2 KP sz_b1 sz_y11 hl2 (by simp only [List.length_append, List.length_cons, List.length_nil]; omega) sgC hcz sgA sgH sgL sgF r_fo) hZ (gw hw 162 rfl) (gw hw 32 rfl) (by decide) (by decide) (own_EW hw) hR.1) (g := (mkF m 31 #[vr fs, vr b1, vi 2] [(.ref b1), (.ref f2)])) rfl hml.symm (argsL := [(.ref f2), (.ref b1)]) (rest := []) (lenOf own_pd38 rfl) rfl (wz rfl) (hb hby d54_31) (fun _ _ => ⟨rfl, rfl, (by decide : 12 + 4 ≤ _), (by decide : 212 + 64 ≤ _)⟩)
 dsimp only [Pt.U, Pt.locs, Pt.cells, Pt.slots] at X13 l13 y13 z13 st13 hQ13 hS13 gr13 hC13
 subst l13 y13 z13
 obtain ⟨X13, hS, hZ, hown⟩ := rebS hS hk X13 hS13 gr13 hZ hown
 replace hk : T13.heap.size ≤ T13.heap.size := Nat.le_refl _
 obtain ⟨y13, rfl, N13q, K13, B_b1_13', g_y13_13', hyb_13', ne_b1_y13_13'⟩ := hQ13
 have N13 := Fr.app N11 N13q
 replace Sf_b1 := hC13.safe lt_b1 Sf_b1
 replace hR := hR.trans hC13
 replace sgC := own_staK sgC K13 (allS (own_obE A_b1) (allS (SbOf.obb B_b1) all0))
 replace sgA := own_staK sgA K13 (allS (own_obE A_b1) (allS (SbOf.obb B_b1) all0))
 replace sgH := own_staK sgH K13 (allS (own_obE A_b1) (allS (SbOf.obb B_b1) all0))
 replace sgL := own_staK sgL K13 (allS (own_obE A_b1) (allS (SbOf.obb B_b1) all0))
 replace sgF := own_staK sgF K13 (allS (own_obE A_b1) (allS (SbOf.obb B_b1) all0))
 replace V_fs := V_fs.keep K13 (ninS ne_fs_b1 (ninS ne_fs_y11 nin0))
 replace A_b1 := A_b1.keep K13
 replace KP := KP.trans K13 (allS (Or.inr sz_b1) (allS (Or.inr sz_y11) all0))
 replace Z0 := Nat.le_trans Z0 K13.1
 have B_b1 := B_b1_13'
 have g_y13 := g_y13_13'
 have hyb13 := hyb_13'
 have ne_b1_y13 := ne_b1_y13_13'
 refine Gs (fun _ tk => st13.trans tk) ?_
 show GG (fT T13 m 34 #[vr fs, vr b1, vi 2] [])
 have sz_y13 : h0.size ≤ y13 := hyb13.elim (fun e => by rw [e]; exact sz_y11) (fun q => Nat.le_trans kp1 q)
 have ne_fs_y13 : fs ≠ y13 := Nat.ne_of_lt (Nat.lt_of_lt_of_le zlt_fs sz_y13)
 refine Gz (XS.iinc X13.here hx rfl (hb hby d54_34) rfl (l' := #[vr fs, vr b1, vi ((2 : Int32) + (1 : Int32))]) rfl) ?_
 show GG (fT T13 m 37 #[vr fs, vr b1, vi 3] [])
 refine gG X13 hx hby d54_37 37 10 ?_
 refine gN X13 hx hby d54_10 rfl rfl ?_
 refine gA X13 hx hby d54_11 rfl rfl rfl ?_
 obtain ⟨cl14, Ar14, -, S14, N14z, -, -⟩ := id V_fs
 refine Gs (fun _ tk => X13.arraylength hx Ar14.1 (State.isArrayOf_alike hZ.alike Ar14.2.1) (g := (mkF m 12 #[vr fs, vr b1, vi 3] [(.ref fs), (.int 3)])) rfl rfl (hb hby d54_12) _ tk) ?_
 rw [len_of S14 N14z]
 show GG (fT T13 m 13 #[vr fs, vr b1, vi 3] [(.int 3), (.int 3)])
 refine gY X13 hx hby d54_13 13 40 (flt (by decide : ¬ ((3 : Int32) < (3 : Int32)))).2.1 ?_
 refine gA X13 hx hby d54_40 rfl rfl rfl ?_
 refine gB X13 hx hby d54_41 ?_
 have kp1 := KP.1
 refine cVg X13 hx hZ hw hown hby hml rfl mN37 52 53 55 54 56 36 0 (rm_sc l Z a0 hw [] b1 y13 (((((([] : List Int32) ++ own_escs x0) ++ [(9 : Int32)]) ++ own_escs x1) ++ [(9 : Int32)]) ++ own_escs x2) (10 : Int32) cz fo T13.heap n0 Z0 B_b1 A_b1 g_b1 g_y13 ne_b1_y13 ⟨by decide, by decide⟩ (by simp only [List.length_append, List.length_cons, List.length_nil]; omega) sgC hcz sgA sgH sgL sgF r_fo) A_b1 d54_43 (lenOf own_pd36 rfl) (fun _ T15 L15 X15 hQ15 => ?_)
 obtain ⟨y15, rfl, N15q, K15, B_b1_15', g_y15_15', hyb_15', ne_b1_y15_15'⟩ := hQ15
 have N15 := Fr.app N13 N15q
 replace sgC := own_staK sgC K15 (allS (own_obE A_b1) (allS (SbOf.obb B_b1) all0))
 replace hR := hR.trans (CHr.keep K15 (allS Sf_b1 (allS (SbOf.safe hZ (own_EW2 hw) B_b1) all0)) hR.1)
 replace A_b1 := A_b1.keep K15
 replace KP := KP.trans K15 (allS (Or.inr sz_b1) (allS (Or.inr sz_y13) all0))
 replace Z0 := Nat.le_trans Z0 K15.1
 replace hk := Nat.le_trans hk K15.1
 have B_b1 := B_b1_15'
 have g_y15 := g_y15_15'
 have hyb15 := hyb_15'
 have ne_b1_y15 := ne_b1_y15_15'
 show GG (fT T15 m 46 #[vr fs, vr b1, vi 3] [(.ref b1)])
 have sz_y15 : h0.size ≤ y15 := hyb15.elim (fun e => by rw [e]; exact sz_y13) (fun q => Nat.le_trans kp1 q)
 have ne_fs_y15 : fs ≠ y15 := Nat.ne_of_lt (Nat.lt_of_lt_of_le zlt_fs sz_y15)
 refine cVg X15 hx hZ hw hown hby hml rfl mN52 78 79 81 80 82 36 0 (rm_tt l Z a0 hw [] b1 y15 ((((((([] : List Int32) ++ own_escs x0) ++ [(9 : Int32)]) ++ own_escs x1) ++ [(9 : Int32)]) ++ own_escs x2) ++ [(10 : Int32)]) cz T15.heap n0 Z0 B_b1 A_b1 (by simp only [List.length_append, List.length_cons, List.length_nil]; omega) sgC hcz) A_b1 d54_46 (lenOf own_pd37 rfl) (fun _ T16 L16 X16 hQ16 => ?_)
 obtain ⟨u16, rfl, N16q, K16, T_u16_16'⟩ := hQ16
 have N16 := Fr.app N15 N16q
 replace hR := hR.trans (CHr.keep K16 all0 hR.1)
 replace KP := KP.trans K16 all0
 replace Z0 := Nat.le_trans Z0 K16.1
 replace hk := Nat.le_trans hk K16.1
 have T_u16 := T_u16_16'
 show GG (fT T16 m 49 #[vr fs, vr b1, vi 3] [(.ref u16)])
 refine Goes.retH X16 hS rfl hk hZ (own_EW hw) hh hR (some (.ref u16)) (fun h => by rw [hret] at h; cases h) hlk (by decide) (by decide) ?_ (fun fs hr => ?_)
 ·exact ⟨u16, rfl, N16, KP, T_u16⟩
 ·exact own_retA X16 hx hret rfl rfl (hb hby d54_49) hr
theorem d55_0 : decode method_3_code 0 = .ok (.lload_n 0, 1) := by decide +kernel
theorem d55_1 : decode method_3_code 1 = .ok (.bipush 16, 2) := by decide +kernel
theorem d55_3 : decode method_3_code 3 = .ok (.lushr, 1) := by decide +kernel
theorem d55_4 : decode method_3_code 4 = .ok (.l2i, 1) := by decide +kernel
theorem d55_5 : decode method_3_code 5 = .ok (.iconst 1, 1) := by decide +kernel
theorem d55_6 : decode method_3_code 6 = .ok (.iand, 1) := by decide +kernel
theorem d55_7 : decode method_3_code 7 = .ok (.ifCond .ne 34, 3) := by decide +kernel
theorem d55_10 : decode method_3_code 10 = .ok (.lload_n 0, 1) := by decide +kernel
theorem d55_11 : decode method_3_code 11 = .ok (.l2i, 1) := by decide +kernel
theorem d55_12 : decode method_3_code 12 = .ok (.iconst 3, 1) := by decide +kernel
theorem d55_13 : decode method_3_code 13 = .ok (.iand, 1) := by decide +kernel
theorem d55_14 : decode method_3_code 14 = .ok (.istore_n 2, 1) := by decide +kernel
theorem d55_15 : decode method_3_code 15 = .ok (.iload_n 2, 1) := by decide +kernel
theorem d55_16 : decode method_3_code 16 = .ok (.ifCond .ne 6, 3) := by decide +kernel
theorem d55_19 : decode method_3_code 19 = .ok (.bipush 92, 2) := by decide +kernel
theorem d55_21 : decode method_3_code 21 = .ok (.ireturn, 1) := by decide +kernel
theorem d55_22 : decode method_3_code 22 = .ok (.iload_n 2, 1) := by decide +kernel
theorem d55_23 : decode method_3_code 23 = .ok (.iconst 1, 1) := by decide +kernel
theorem d55_24 : decode method_3_code 24 = .ok (.if_icmp .ne 6, 3) := by decide +kernel
theorem d55_27 : decode method_3_code 27 = .ok (.bipush 9, 2) := by decide +kernel
theorem d55_29 : decode method_3_code 29 = .ok (.ireturn, 1) := by decide +kernel
theorem d55_30 : decode method_3_code 30 = .ok (.iload_n 2, 1) := by decide +kernel
theorem d55_31 : decode method_3_code 31 = .ok (.iconst 2, 1) := by decide +kernel
theorem d55_32 : decode method_3_code 32 = .ok (.if_icmp .ne 6, 3) := by decide +kernel
theorem d55_35 : decode method_3_code 35 = .ok (.bipush 10, 2) := by decide +kernel
theorem d55_37 : decode method_3_code 37 = .ok (.ireturn, 1) := by decide +kernel
theorem d55_38 : decode method_3_code 38 = .ok (.bipush 13, 2) := by decide +kernel
theorem d55_40 : decode method_3_code 40 = .ok (.ireturn, 1) := by decide +kernel
theorem d55_41 : decode method_3_code 41 = .ok (.lload_n 0, 1) := by decide +kernel
theorem d55_42 : decode method_3_code 42 = .ok (.l2i, 1) := by decide +kernel
theorem d55_43 : decode method_3_code 43 = .ok (.i2c, 1) := by decide +kernel
theorem d55_44 : decode method_3_code 44 = .ok (.ireturn, 1) := by decide +kernel
theorem own_pn8 : plainName "com/example/surfacemap/surfacemap/cli/TsvLinePinLaw" = true := by first | (simp [plainName, overriddenIn]; done) | decide +kernel
theorem own_ef_rm_pick (m : MethodId) (x0 : Int64) : entryFrame m #[(.long x0)] 3 = mkF m 0 #[vj x0, vS, vu] [] := by first | (simp [entryFrame, mkF, argsToLocals, Value.category]; done) | rfl
def Q_rm_pick (Z : State) (q : Int64) (h0 : Heap) (n0 : Nat) (v : Option Value) (h : Heap) (L : List Loc) : Prop := ∃ r : Int32, v = some (.int r) ∧ Fr n0 L ∧ h = h0 ∧ Chr r
theorem rm_pick (l : Launch) (Z : State) (a0 : Array Value) (hw : HW a0 Z) (ws : List Jvm.Cond) (q : Int64) (h0 : Heap) (n0 : Nat) (Z0 : n0 ≤ h0.size) :
  Met l Z mN55 method_3_code 3 (some .char) ({ frames := 0, cells := 0, slots := 0, locals := 0 } : Room) ws #[(.long q)] h0 (Q_rm_pick Z q h0 n0) := by
 refine own_met (plainFor_of_name own_pn8) ?_
 intro p e s m below meth c s₁ hret hx hby hlk hml hown hnm X0 e0 hZ hh
 have N0 := Fr.nil n0
 refine Gz (castTop (own_ef_rm_pick m q)) ?_
 show GG (fT s₁ m 0 #[vj q, vS, vu] [])
 refine Gz (XS.lloadN X0.here hx rfl (hb hby d55_0) rfl) ?_
 refine gB X0 hx hby d55_1 ?_
 show GG (fT s₁ m 3 #[vj q, vS, vu] [(.int 16), (.long q)])
 refine Gz (XS.lushr X0.here hx rfl (hb hby d55_3) rfl) ?_
 show GG (fT s₁ m 4 #[vj q, vS, vu] [(.long ((q.toUInt64 >>> ((16 : Int32) &&& 0x3f).toInt64.toUInt64).toInt64))])
 refine Gz (XS.l2i X0.here hx rfl (hb hby d55_4) rfl) ?_
 show GG (fT s₁ m 5 #[vj q, vS, vu] [(.int (((q.toUInt64 >>> ((16 : Int32) &&& 0x3f).toInt64.toUInt64).toInt64).toInt32))])
 refine gC X0 hx hby d55_5 ?_
 show GG (fT s₁ m 6 #[vj q, vS, vu] [(.int 1), (.int (((q.toUInt64 >>> ((16 : Int32) &&& 0x3f).toInt64.toUInt64).toInt64).toInt32))])
 refine Gz (XS.iand X0.here hx rfl (hb hby d55_6) rfl) ?_
 show GG (fT s₁ m 7 #[vj q, vS, vu] [(.int ((((q.toUInt64 >>> ((16 : Int32) &&& 0x3f).toInt64.toUInt64).toInt64).toInt32) &&& (1 : Int32)))])
 by_cases hc7_1 : ((((q.toUInt64 >>> ((16 : Int32) &&& 0x3f).toInt64.toUInt64).toInt64).toInt32) &&& (1 : Int32)) = 0
 ·refine gu X0 hx hby d55_7 ((if0 _ _).trans (teq hc7_1).2) ?_
  refine Gz (XS.lloadN X0.here hx rfl (hb hby d55_10) rfl) ?_
  show GG (fT s₁ m 11 #[vj q, vS, vu] [(.long q)])
  refine Gz (XS.l2i X0.here hx rfl (hb hby d55_11) rfl) ?_
  show GG (fT s₁ m 12 #[vj q, vS, vu] [(.int (q.toInt32))])
  refine gC X0 hx hby d55_12 ?_
  show GG (fT s₁ m 13 #[vj q, vS, vu] [(.int 3), (.int (q.toInt32))])
  refine Gz (XS.iand X0.here hx rfl (hb hby d55_13) rfl) ?_
  show GG (fT s₁ m 14 #[vj q, vS, vu] [(.int ((q.toInt32) &&& (3 : Int32)))])
  refine gs X0 hx hby d55_14 #[vj q, vS, vi ((q.toInt32) &&& (3 : Int32))] ?_
  refine gN X0 hx hby d55_15 rfl rfl ?_
  by_cases hc16_2 : ((q.toInt32) &&& (3 : Int32)) = 0
  ·refine gu X0 hx hby d55_16 ((if0 _ _).trans (teq hc16_2).2) ?_
   refine gB X0 hx hby d55_19 ?_
   refine Goes.ret X0 (some (.int 92)) (fun h => by rw [hret] at h; cases h) hlk (by decide) (by decide) ?_ (fun fs hr => ?_)
   ·exact ⟨(92 : Int32), rfl, N0, e0, ⟨by decide, by decide⟩⟩
   ·exact own_retN X0 hx (t := .char) hret (by simp) rfl (hb hby d55_21) hr
  ·refine gy X0 hx hby d55_16 16 22 ((if0 _ _).trans (feq hc16_2).2) ?_
   refine gN X0 hx hby d55_22 rfl rfl ?_
   refine gC X0 hx hby d55_23 ?_
   by_cases hc24_3 : ((q.toInt32) &&& (3 : Int32)) = 1
   ·refine gU X0 hx hby d55_24 (teq hc24_3).2 ?_
    show GG (fT s₁ m 27 #[vj q, vS, vi ((q.toInt32) &&& (3 : Int32))] [])
    refine gB X0 hx hby d55_27 ?_
    refine Goes.ret X0 (some (.int 9)) (fun h => by rw [hret] at h; cases h) hlk (by decide) (by decide) ?_ (fun fs hr => ?_)
    ·exact ⟨(9 : Int32), rfl, N0, e0, ⟨by decide, by decide⟩⟩
    ·exact own_retN X0 hx (t := .char) hret (by simp) rfl (hb hby d55_29) hr
   ·refine gY X0 hx hby d55_24 24 30 (feq hc24_3).2 ?_
    show GG (fT s₁ m 30 #[vj q, vS, vi ((q.toInt32) &&& (3 : Int32))] [])
    refine gN X0 hx hby d55_30 rfl rfl ?_
    refine gC X0 hx hby d55_31 ?_
    by_cases hc32_4 : ((q.toInt32) &&& (3 : Int32)) = 2
    ·refine gU X0 hx hby d55_32 (teq hc32_4).2 ?_
     refine gB X0 hx hby d55_35 ?_
     refine Goes.ret X0 (some (.int 10)) (fun h => by rw [hret] at h; cases h) hlk (by decide) (by decide) ?_ (fun fs hr => ?_)
     ·exact ⟨(10 : Int32), rfl, N0, e0, ⟨by decide, by decide⟩⟩
     ·exact own_retN X0 hx (t := .char) hret (by simp) rfl (hb hby d55_37) hr
    ·refine gY X0 hx hby d55_32 32 38 (feq hc32_4).2 ?_
     refine gB X0 hx hby d55_38 ?_
     refine Goes.ret X0 (some (.int 13)) (fun h => by rw [hret] at h; cases h) hlk (by decide) (by decide) ?_ (fun fs hr => ?_)
     ·exact ⟨(13 : Int32), rfl, N0, e0, ⟨by decide, by decide⟩⟩
     ·exact own_retN X0 hx (t := .char) hret (by simp) rfl (hb hby d55_40) hr
 ·refine gy X0 hx hby d55_7 7 41 ((if0 _ _).trans (feq hc7_1).2) ?_
  refine Gz (XS.lloadN X0.here hx rfl (hb hby d55_41) rfl) ?_
  show GG (fT s₁ m 42 #[vj q, vS, vu] [(.long q)])
  refine Gz (XS.l2i X0.here hx rfl (hb hby d55_42) rfl) ?_
  show GG (fT s₁ m 43 #[vj q, vS, vu] [(.int (q.toInt32))])
  refine Gz (XS.i2c X0.here hx rfl (hb hby d55_43) rfl) ?_
  show GG (fT s₁ m 44 #[vj q, vS, vu] [(.int ((q.toInt32).toUInt32.toUInt16.toUInt32.toInt32))])
  refine Goes.ret X0 (some (.int ((q.toInt32).toUInt32.toUInt16.toUInt32.toInt32))) (fun h => by rw [hret] at h; cases h) hlk (by decide) (by decide) ?_ (fun fs hr => ?_)
  ·exact ⟨((q.toInt32).toUInt32.toUInt16.toUInt32.toInt32), rfl, N0, e0, (own_i2cC _)⟩
  ·exact own_retN X0 hx (t := .char) hret (by simp) (own_nc (own_i2cC _)) (hb hby d55_44) hr
theorem d56_0 : decode method_4_code 0 = .ok (.iload_n 0, 1) := by decide +kernel
theorem d56_1 : decode method_4_code 1 = .ok (.ifCond .ne 14, 3) := by decide +kernel
theorem d56_4 : decode method_4_code 4 = .ok (.new 17, 3) := by decide +kernel
theorem d56_7 : decode method_4_code 7 = .ok (.dup, 1) := by decide +kernel
theorem d56_8 : decode method_4_code 8 = .ok (.iconst 0, 1) := by decide +kernel
theorem d56_9 : decode method_4_code 9 = .ok (.newarray .char, 2) := by decide +kernel
theorem d56_11 : decode method_4_code 11 = .ok (.invokespecial 33, 3) := by decide +kernel
theorem own_pd39 : parseMethodDescriptor "([C)V" = some ⟨[(.array .char)], none⟩ := by decide +kernel
theorem d56_14 : decode method_4_code 14 = .ok (.areturn, 1) := by decide +kernel
theorem d56_15 : decode method_4_code 15 = .ok (.iload_n 0, 1) := by decide +kernel
theorem d56_16 : decode method_4_code 16 = .ok (.iconst 1, 1) := by decide +kernel
theorem d56_17 : decode method_4_code 17 = .ok (.if_icmp .ne 8, 3) := by decide +kernel
theorem d56_20 : decode method_4_code 20 = .ok (.iload_n 1, 1) := by decide +kernel
theorem d56_21 : decode method_4_code 21 = .ok (.invokestatic 36, 3) := by decide +kernel
theorem own_pd40 : parseMethodDescriptor "(C)Ljava/lang/String;" = some ⟨[.char], some (.object "java/lang/String")⟩ := by decide +kernel
theorem d56_24 : decode method_4_code 24 = .ok (.areturn, 1) := by decide +kernel
theorem d56_25 : decode method_4_code 25 = .ok (.new 17, 3) := by decide +kernel
theorem d56_28 : decode method_4_code 28 = .ok (.dup, 1) := by decide +kernel
theorem d56_29 : decode method_4_code 29 = .ok (.iconst 2, 1) := by decide +kernel
theorem d56_30 : decode method_4_code 30 = .ok (.newarray .char, 2) := by decide +kernel
theorem d56_32 : decode method_4_code 32 = .ok (.dup, 1) := by decide +kernel
theorem d56_33 : decode method_4_code 33 = .ok (.iconst 0, 1) := by decide +kernel
theorem d56_34 : decode method_4_code 34 = .ok (.iload_n 1, 1) := by decide +kernel
theorem d56_35 : decode method_4_code 35 = .ok (.castore, 1) := by decide +kernel
theorem d56_36 : decode method_4_code 36 = .ok (.dup, 1) := by decide +kernel
theorem d56_37 : decode method_4_code 37 = .ok (.iconst 1, 1) := by decide +kernel
theorem d56_38 : decode method_4_code 38 = .ok (.iload_n 2, 1) := by decide +kernel
theorem d56_39 : decode method_4_code 39 = .ok (.castore, 1) := by decide +kernel
theorem d56_40 : decode method_4_code 40 = .ok (.invokespecial 33, 3) := by decide +kernel
theorem d56_43 : decode method_4_code 43 = .ok (.areturn, 1) := by decide +kernel
theorem own_ef_rm_fi (m : MethodId) (x0 : Int32) (x1 : Int32) (x2 : Int32) : entryFrame m #[(.int x0), (.int x1), (.int x2)] 3 = mkF m 0 #[vi x0, vi x1, vi x2] [] := by first | (simp [entryFrame, mkF, argsToLocals, Value.category]; done) | rfl
def Q_rm_fi (Z : State) (q : Int32) (c0 : Int32) (c1 : Int32) (cz : Int32) (h0 : Heap) (n0 : Nat) (v : Option Value) (h : Heap) (L : List Loc) : Prop := ∃ u : Addr, v = some (.ref u) ∧ Fr n0 L ∧ Keep h0 h [] ∧ StrOf Z h u (own_fl q c0 c1)
theorem rm_fi (l : Launch) (Z : State) (a0 : Array Value) (hw : HW a0 Z) (ws : List Jvm.Cond) (q : Int32) (c0 : Int32) (c1 : Int32) (cz : Int32) (h0 : Heap) (n0 : Nat) (Z0 : n0 ≤ h0.size) (hC_c0 : Chr c0) (hC_c1 : Chr c1) (sgC : Sta Z h0 "java/lang/String" "COMPACT_STRINGS" "Z" (.int cz)) (hcz : ¬ (cz = 0)) (sgA : Sta Z h0 "java/lang/StringUTF16" "$assertionsDisabled" "Z" (.int 1)) (sgH : Sta Z h0 "java/lang/StringUTF16" "HI_BYTE_SHIFT" "I" (.int 0)) (sgL : Sta Z h0 "java/lang/StringUTF16" "LO_BYTE_SHIFT" "I" (.int 8)) :
  MetH l Z mN56 method_4_code 3 (some (.object "java/lang/String")) ({ frames := 6, cells := 6, slots := 12, locals := 88 } : Room) ws #[(.int q), (.int c0), (.int c1)] h0 (Q_rm_fi Z q c0 c1 cz h0 n0) := by
 refine own_metH (plainFor_of_name own_pn8) ?_
 intro p e s m below meth c s₁ hret hx hby hlk hml hown hnm X0 e0 hZ hh hC0
 have N0 := Fr.nil n0
 have hS : s.Since s.vm h0.size := (State.WarmedH.refl s).since _
 have hk : h0.size ≤ h0.size := Nat.le_refl _
 replace hZ : Z.Warmed39 (s.setVm s.vm).vm := hZ
 have hR : CHr Z consts_1 s.vm h0 s.vm h0 := CHr.refl hC0
 refine Gz (castTop (own_ef_rm_fi m q c0 c1)) ?_
 have KP : Keep h0 h0 [] := Keep.refl _ _
 show GG (fT s₁ m 0 #[vi q, vi c0, vi c1] [])
 have zq : (1 : Int32) ≠ 0 := by decide
 refine gN X0 hx hby d56_0 rfl rfl ?_
 by_cases hc1_1 : q = 0
 ·refine gu X0 hx hby d56_1 ((if0 _ _).trans (teq hc1_1).2) ?_
  obtain ⟨T2, h2, X2, e2, E2, A2, D2, U2, st2⟩ := newO X0 hx hZ hown (gw hw 7 rfl) (gw hw 8 rfl) (gw hw 9 rfl) e0 (g := (mkF m 4 #[vi q, vi c0, vi c1] [])) rfl (hb hby d56_4) (by decide) (by decide)
  obtain ⟨b2, gq2⟩ : ∃ z, z = h0.size := ⟨_, rfl⟩
  rw [← gq2] at A2 st2 D2
  have g_b2 : n0 ≤ b2 := by rw [gq2]; exact Z0
  have sz_b2 : h0.size ≤ b2 := by rw [gq2]; exact KP.1
  replace hR := hR.trans (CHr.ext E2 hR.1)
  replace sgC := sgC.ext E2
  replace sgA := sgA.ext E2
  replace sgH := sgH.ext E2
  replace sgL := sgL.ext E2
  replace KP := KP.ext E2
  replace Z0 : n0 ≤ h2.size := Nat.le_trans Z0 E2.1
  replace hk := Nat.le_trans hk E2.1
  have A_b2 : Exa Z h2 b2 "java/lang/String" := A2
  have F_value_b2 : Fld Z h2 b2 "java/lang/String" "value" "[B" .null := D2 (Or.inr (gw hw 23 rfl)) (ty := (.array .byte)) (by decide)
  have F_coder_b2 : Fld Z h2 b2 "java/lang/String" "coder" "B" (.int 0) := D2 (Or.inr (gw hw 24 rfl)) (ty := .byte) (by decide)
  refine Gs st2 ?_
  show GG (fT T2 m 7 #[vi q, vi c0, vi c1] [(.ref b2)])
  refine Gz (XS.dup X2.here hx rfl (hb hby d56_7) rfl rfl) ?_
  refine gC X2 hx hby d56_8 ?_
  obtain ⟨T3, h3, k3, X3, e3, E3, A3, st3⟩ := newP X2 hx hZ (gw hw 10 rfl) e2 (g := (mkF m 9 #[vi q, vi c0, vi c1] [(.int 0), (.ref b2), (.ref b2)])) rfl (hb hby d56_9) rfl (by decide) (cap := 0) (by decide) (by decide) (by decide) (by decide)
  obtain ⟨b3, gq3⟩ : ∃ z, z = h2.size := ⟨_, rfl⟩
  rw [← gq3] at A3 st3
  have ne_b2_b3 : b2 ≠ b3 := by rw [gq3]; exact Nat.ne_of_lt A_b2.lt
  replace hR := hR.trans (CHr.ext E3 hR.1)
  replace sgC := sgC.ext E3
  replace sgA := sgA.ext E3
  replace sgH := sgH.ext E3
  replace sgL := sgL.ext E3
  replace A_b2 := A_b2.ext E3
  replace F_value_b2 := F_value_b2.ext E3
  replace F_coder_b2 := F_coder_b2.ext E3
  replace KP := KP.ext E3
  replace Z0 : n0 ≤ h3.size := Nat.le_trans Z0 E3.1
  replace hk := Nat.le_trans hk E3.1
  have V_b3 : Arv Z h3 b3 k3 .char 0 [] (.int 0) := Arv.new A3 (by decide)
  refine Gs st3 ?_
  show GG (fT T3 m 11 #[vi q, vi c0, vi c1] [(.ref b3), (.ref b2), (.ref b2)])
  obtain ⟨_, _, ⟨T4, L4, k4, n4⟩, -, X4, hS4, gr4, ⟨Lc4, hQ4, l4, y4, z4, hC4⟩, st4⟩ := X3.specialBackS hx (y := mN12) rfl hown (gz hZ hw 11 rfl) (gz hZ hw 12 rfl) (gz hZ hw 13 rfl) (by decide) (backOfSH (W := 1) (rs_i1_0 l Z a0 hw [] b2 b3 k3 h3 n0 Z0 A_b2 F_value_b2 F_coder_b2 V_b3 g_b2 (Ne.symm ne_b2_b3)) hZ (gw hw 13 rfl) (gw hw 9 rfl) (by decide) (by decide) (own_EW hw) hR.1) (g := (mkF m 11 #[vi q, vi c0, vi c1] [(.ref b3), (.ref b2), (.ref b2)])) rfl hml.symm (Steps.refl _) (a := b2) (argsL := [(.ref b3)]) (rest := [(.ref b2)]) (lenOf own_pd39 rfl) rfl (wz rfl) (hb hby d56_11) (fun _ _ => ⟨rfl, e3, (by decide : 2 + 4 ≤ _), (by decide : 4 + 8 ≤ _)⟩)
  dsimp only [Pt.U, Pt.locs, Pt.cells, Pt.slots] at X4 l4 y4 z4 st4 hQ4 hS4 gr4 hC4
  subst l4 y4 z4
  obtain ⟨X4, hS, hZ, hown⟩ := rebS hS hk X4 hS4 (by have q := gr4; rw [e3] at q; exact q) hZ hown
  replace hk : T4.heap.size ≤ T4.heap.size := Nat.le_refl _
  obtain ⟨rfl, N4q, K4, T_b2_4'⟩ := hQ4
  have N4 := Fr.app N0 N4q
  replace hR := hR.trans hC4
  replace sgC := own_staK sgC K4 (allS (own_obE A_b2) all0)
  replace sgA := own_staK sgA K4 (allS (own_obE A_b2) all0)
  replace sgH := own_staK sgH K4 (allS (own_obE A_b2) all0)
  replace sgL := own_staK sgL K4 (allS (own_obE A_b2) all0)
  replace KP := KP.trans K4 (allS (Or.inr sz_b2) all0)
  replace Z0 := Nat.le_trans Z0 K4.1
  have T_b2 := T_b2_4'
  refine Gs (fun _ tk => st4.trans tk) ?_
  show GG (fT T4 m 14 #[vi q, vi c0, vi c1] [(.ref b2)])
  have T_b2 : StrOf Z T4.heap b2 (own_fl q c0 c1) := by rw [own_fl, if_pos hc1_1]; exact T_b2
  refine Goes.retH X4 hS rfl hk hZ (own_EW hw) hh hR (some (.ref b2)) (fun h => by rw [hret] at h; cases h) hlk (by decide) (by decide) ?_ (fun fs hr => ?_)
  ·exact ⟨b2, rfl, N4, KP, T_b2⟩
  ·exact own_retA X4 hx hret rfl rfl (hb hby d56_14) hr
 ·refine gy X0 hx hby d56_1 1 15 ((if0 _ _).trans (feq hc1_1).2) ?_
  refine gN X0 hx hby d56_15 rfl rfl ?_
  refine gC X0 hx hby d56_16 ?_
  by_cases hc17_5 : q = 1
  ·refine gU X0 hx hby d56_17 (teq hc17_5).2 ?_
   refine gN X0 hx hby d56_20 rfl rfl ?_
   show GG (fT s₁ m 21 #[vi q, vi c0, vi c1] [(.int c0)])
   refine cSg X0 hx hZ hw hown hby hml e0 mN24 177 178 179 9 0 (rs_vo l Z a0 hw [] c0 cz h0 n0 Z0 hC_c0 sgC hcz sgA sgH sgL) d56_21 (lenOf own_pd40 rfl) (fun _ T6 L6 X6 hQ6 => ?_)
   obtain ⟨u6, rfl, N6q, K6, T_u6_6'⟩ := hQ6
   have N6 := Fr.app N0 N6q
   replace sgC := own_staK sgC K6 all0
   replace sgA := own_staK sgA K6 all0
   replace sgH := own_staK sgH K6 all0
   replace sgL := own_staK sgL K6 all0
   replace hR := hR.trans (CHr.keep K6 all0 hR.1)
   replace KP := KP.trans K6 all0
   replace Z0 := Nat.le_trans Z0 K6.1
   replace hk := Nat.le_trans hk K6.1
   have T_u6 := T_u6_6'
   show GG (fT T6 m 24 #[vi q, vi c0, vi c1] [(.ref u6)])
   have T_u6 : StrOf Z T6.heap u6 (own_fl q c0 c1) := by rw [own_fl, if_neg hc1_1, if_pos hc17_5]; exact T_u6
   refine Goes.retH X6 hS rfl hk hZ (own_EW hw) hh hR (some (.ref u6)) (fun h => by rw [hret] at h; cases h) hlk (by decide) (by decide) ?_ (fun fs hr => ?_)
   ·exact ⟨u6, rfl, N6, KP, T_u6⟩
   ·exact own_retA X6 hx hret rfl rfl (hb hby d56_24) hr
  ·refine gY X0 hx hby d56_17 17 25 (feq hc17_5).2 ?_
   obtain ⟨T7, h7, X7, e7, E7, A7, D7, U7, st7⟩ := newO X0 hx hZ hown (gw hw 7 rfl) (gw hw 8 rfl) (gw hw 9 rfl) e0 (g := (mkF m 25 #[vi q, vi c0, vi c1] [])) rfl (hb hby d56_25) (by decide) (by decide)
   obtain ⟨b7, gq7⟩ : ∃ z, z = h0.size := ⟨_, rfl⟩
   rw [← gq7] at A7 st7 D7
   have g_b7 : n0 ≤ b7 := by rw [gq7]; exact Z0
   have sz_b7 : h0.size ≤ b7 := by rw [gq7]; exact KP.1
   have Sf_b7 : Safe Z consts_1 s.vm h0 b7 := Safe.new (Nat.le_of_eq gq7.symm)
   replace Sf_b7 := Safe.ext E7 hR.1 Sf_b7
   replace hR := hR.trans (CHr.ext E7 hR.1)
   replace sgC := sgC.ext E7
   replace sgA := sgA.ext E7
   replace sgH := sgH.ext E7
   replace sgL := sgL.ext E7
   replace KP := KP.ext E7
   replace Z0 : n0 ≤ h7.size := Nat.le_trans Z0 E7.1
   replace hk := Nat.le_trans hk E7.1
   have A_b7 : Exa Z h7 b7 "java/lang/String" := A7
   have F_value_b7 : Fld Z h7 b7 "java/lang/String" "value" "[B" .null := D7 (Or.inr (gw hw 23 rfl)) (ty := (.array .byte)) (by decide)
   have F_coder_b7 : Fld Z h7 b7 "java/lang/String" "coder" "B" (.int 0) := D7 (Or.inr (gw hw 24 rfl)) (ty := .byte) (by decide)
   refine Gs st7 ?_
   show GG (fT T7 m 28 #[vi q, vi c0, vi c1] [(.ref b7)])
   refine Gz (XS.dup X7.here hx rfl (hb hby d56_28) rfl rfl) ?_
   refine gC X7 hx hby d56_29 ?_
   obtain ⟨T8, h8, k8, X8, e8, E8, A8, st8⟩ := newP X7 hx hZ (gw hw 10 rfl) e7 (g := (mkF m 30 #[vi q, vi c0, vi c1] [(.int 2), (.ref b7), (.ref b7)])) rfl (hb hby d56_30) rfl (by decide) (cap := 2) (by decide) (by decide) (by decide) (by decide)
   obtain ⟨b8, gq8⟩ : ∃ z, z = h7.size := ⟨_, rfl⟩
   rw [← gq8] at A8 st8
   have g_b8 : n0 ≤ b8 := by rw [gq8]; exact Z0
   have sz_b8 : h0.size ≤ b8 := by rw [gq8]; exact KP.1
   have ne_b7_b8 : b7 ≠ b8 := by rw [gq8]; exact Nat.ne_of_lt A_b7.lt
   have Sf_b8 : Safe Z consts_1 s.vm h7 b8 := Safe.new (Nat.le_of_eq gq8.symm)
   replace Sf_b7 := Safe.ext E8 hR.1 Sf_b7
   replace Sf_b8 := Safe.ext E8 hR.1 Sf_b8
   replace hR := hR.trans (CHr.ext E8 hR.1)
   replace sgC := sgC.ext E8
   replace sgA := sgA.ext E8
   replace sgH := sgH.ext E8
   replace sgL := sgL.ext E8
   replace A_b7 := A_b7.ext E8
   replace F_value_b7 := F_value_b7.ext E8
   replace F_coder_b7 := F_coder_b7.ext E8
   replace KP := KP.ext E8
   replace Z0 : n0 ≤ h8.size := Nat.le_trans Z0 E8.1
   replace hk := Nat.le_trans hk E8.1
   have V_b8 : Arv Z h8 b8 k8 .char 2 [(.int 0), (.int 0)] (.int 0) := (Arv.new A8 (by decide)).pad (pad_rep [] (.int 0) 2)
   refine Gs st8 ?_
   show GG (fT T8 m 32 #[vi q, vi c0, vi c1] [(.ref b8), (.ref b7), (.ref b7)])
   refine Gz (XS.dup X8.here hx rfl (hb hby d56_32) rfl rfl) ?_
   refine gC X8 hx hby d56_33 ?_
   refine gN X8 hx hby d56_34 rfl rfl ?_
   obtain ⟨cl9, Ar9, q9, S9, N9z, H9, G9⟩ := V_b8
   have hin9 : ¬ ((0 : Int32) < 0 ∨ cl9.slots.size ≤ ((0 : Int32)).toNatClampNeg) := inb_of S9 ⟨by decide, by decide⟩
   obtain ⟨T9, h9, X9, e9, W9, st9⟩ := stC X8 hx hZ e8 Ar9 (j := (0 : Int32)) hin9 (g := (mkF m 35 #[vi q, vi c0, vi c1] [(.int c0), (.int 0), (.ref b8), (.ref b8), (.ref b7), (.ref b7)])) rfl rfl (hb hby d56_35)
   have Vn9 := Arv.set Ar9 q9 S9 N9z H9 G9 (fits_nar_char _) W9 0 rfl (Nat.le_of_ble_eq_true rfl)
   have N9 := Fr.snoc X9 N0 g_b8
   have Sf_b7' := Safe.wr W9 Sf_b8 hR.1 Sf_b7
   have Sf_b8' := Safe.wr W9 Sf_b8 hR.1 Sf_b8
   replace hR := hR.trans (CHr.wr W9 Sf_b8 hR.1)
   replace Sf_b7 := Sf_b7'
   replace Sf_b8 := Sf_b8'
   replace sgC := sgC.wr W9
   replace sgA := sgA.wr W9
   replace sgH := sgH.wr W9
   replace sgL := sgL.wr W9
   replace A_b7 := A_b7.wr W9
   replace F_value_b7 := F_value_b7.other W9 (Or.inl ne_b7_b8)
   replace F_coder_b7 := F_coder_b7.other W9 (Or.inl ne_b7_b8)
   replace KP := KP.wr W9 (Or.inr sz_b8)
   have V_b8 : Arv Z h9 b8 k8 .char 2 [(.int c0), (.int 0)] (.int 0) := by have q := Vn9; rw [own_nc hC_c0] at q; exact q
   replace Z0 : n0 ≤ h9.size := by rw [W9.size]; exact Z0
   replace hk := Nat.le_trans hk (Nat.le_of_eq W9.size.symm)
   refine Gs st9 ?_
   show GG (fT T9 m 36 #[vi q, vi c0, vi c1] [(.ref b8), (.ref b7), (.ref b7)])
   refine Gz (XS.dup X9.here hx rfl (hb hby d56_36) rfl rfl) ?_
   refine gC X9 hx hby d56_37 ?_
   refine gN X9 hx hby d56_38 rfl rfl ?_
   obtain ⟨cl10, Ar10, q10, S10, N10z, H10, G10⟩ := V_b8
   have hin10 : ¬ ((1 : Int32) < 0 ∨ cl10.slots.size ≤ ((1 : Int32)).toNatClampNeg) := inb_of S10 ⟨by decide, by decide⟩
   obtain ⟨T10, h10, X10, e10, W10, st10⟩ := stC X9 hx hZ e9 Ar10 (j := (1 : Int32)) hin10 (g := (mkF m 39 #[vi q, vi c0, vi c1] [(.int c1), (.int 1), (.ref b8), (.ref b8), (.ref b7), (.ref b7)])) rfl rfl (hb hby d56_39)
   have Vn10 := Arv.set Ar10 q10 S10 N10z H10 G10 (fits_nar_char _) W10 1 rfl (Nat.le_of_ble_eq_true rfl)
   have N10 := Fr.snoc X10 N9 g_b8
   have Sf_b7' := Safe.wr W10 Sf_b8 hR.1 Sf_b7
   replace hR := hR.trans (CHr.wr W10 Sf_b8 hR.1)
   replace Sf_b7 := Sf_b7'
   replace sgC := sgC.wr W10
   replace sgA := sgA.wr W10
   replace sgH := sgH.wr W10
   replace sgL := sgL.wr W10
   replace A_b7 := A_b7.wr W10
   replace F_value_b7 := F_value_b7.other W10 (Or.inl ne_b7_b8)
   replace F_coder_b7 := F_coder_b7.other W10 (Or.inl ne_b7_b8)
   replace KP := KP.wr W10 (Or.inr sz_b8)
   have V_b8 : Arv Z h10 b8 k8 .char 2 [(.int c0), (.int c1)] (.int 0) := by have q := Vn10; rw [own_nc hC_c1] at q; exact q
   replace Z0 : n0 ≤ h10.size := by rw [W10.size]; exact Z0
   replace hk := Nat.le_trans hk (Nat.le_of_eq W10.size.symm)
   refine Gs st10 ?_
   show GG (fT T10 m 40 #[vi q, vi c0, vi c1] [(.ref b8), (.ref b7), (.ref b7)])
   refine cIg X10 hx hZ hw hown hby hml e10 mN12 11 12 13 9 1 (rs_i1_2 l Z a0 hw [] b7 b8 k8 c0 c1 cz h10 n0 Z0 A_b7 F_value_b7 F_coder_b7 V_b8 g_b7 (Ne.symm ne_b7_b8) sgC hcz hC_c0 hC_c1 sgA sgH sgL) d56_40 (lenOf own_pd39 rfl) (fun _ T11 L11 X11 hQ11 => ?_)
   obtain ⟨rfl, N11q, K11, T_b7_11'⟩ := hQ11
   have N11 := Fr.app N10 N11q
   replace hR := hR.trans (CHr.keep K11 (allS Sf_b7 all0) hR.1)
   replace KP := KP.trans K11 (allS (Or.inr sz_b7) all0)
   replace Z0 := Nat.le_trans Z0 K11.1
   replace hk := Nat.le_trans hk K11.1
   have T_b7 := T_b7_11'
   show GG (fT T11 m 43 #[vi q, vi c0, vi c1] [(.ref b7)])
   have T_b7 : StrOf Z T11.heap b7 (own_fl q c0 c1) := by rw [own_fl, if_neg hc1_1, if_neg hc17_5]; exact T_b7
   refine Goes.retH X11 hS rfl hk hZ (own_EW hw) hh hR (some (.ref b7)) (fun h => by rw [hret] at h; cases h) hlk (by decide) (by decide) ?_ (fun fs hr => ?_)
   ·exact ⟨b7, rfl, N11, KP, T_b7⟩
   ·exact own_retA X11 hx hret rfl rfl (hb hby d56_43) hr
theorem d57_0 : decode method_5_code 0 = .ok (.iload_n 2, 1) := by decide +kernel
theorem d57_1 : decode method_5_code 1 = .ok (.bipush 92, 2) := by decide +kernel
theorem d57_3 : decode method_5_code 3 = .ok (.if_icmp .ne 19, 3) := by decide +kernel
theorem d57_6 : decode method_5_code 6 = .ok (.aload_n 0, 1) := by decide +kernel
theorem d57_7 : decode method_5_code 7 = .ok (.iload_n 1, 1) := by decide +kernel
theorem d57_8 : decode method_5_code 8 = .ok (.bipush 92, 2) := by decide +kernel
theorem d57_10 : decode method_5_code 10 = .ok (.castore, 1) := by decide +kernel
theorem d57_11 : decode method_5_code 11 = .ok (.aload_n 0, 1) := by decide +kernel
theorem d57_12 : decode method_5_code 12 = .ok (.iload_n 1, 1) := by decide +kernel
theorem d57_13 : decode method_5_code 13 = .ok (.iconst 1, 1) := by decide +kernel
theorem d57_14 : decode method_5_code 14 = .ok (.iadd, 1) := by decide +kernel
theorem d57_15 : decode method_5_code 15 = .ok (.bipush 92, 2) := by decide +kernel
theorem d57_17 : decode method_5_code 17 = .ok (.castore, 1) := by decide +kernel
theorem d57_18 : decode method_5_code 18 = .ok (.iload_n 1, 1) := by decide +kernel
theorem d57_19 : decode method_5_code 19 = .ok (.iconst 2, 1) := by decide +kernel
theorem d57_20 : decode method_5_code 20 = .ok (.iadd, 1) := by decide +kernel
theorem d57_21 : decode method_5_code 21 = .ok (.ireturn, 1) := by decide +kernel
theorem d57_22 : decode method_5_code 22 = .ok (.iload_n 2, 1) := by decide +kernel
theorem d57_23 : decode method_5_code 23 = .ok (.bipush 9, 2) := by decide +kernel
theorem d57_25 : decode method_5_code 25 = .ok (.if_icmp .ne 19, 3) := by decide +kernel
theorem d57_28 : decode method_5_code 28 = .ok (.aload_n 0, 1) := by decide +kernel
theorem d57_29 : decode method_5_code 29 = .ok (.iload_n 1, 1) := by decide +kernel
theorem d57_30 : decode method_5_code 30 = .ok (.bipush 92, 2) := by decide +kernel
theorem d57_32 : decode method_5_code 32 = .ok (.castore, 1) := by decide +kernel
theorem d57_33 : decode method_5_code 33 = .ok (.aload_n 0, 1) := by decide +kernel
theorem d57_34 : decode method_5_code 34 = .ok (.iload_n 1, 1) := by decide +kernel
theorem d57_35 : decode method_5_code 35 = .ok (.iconst 1, 1) := by decide +kernel
theorem d57_36 : decode method_5_code 36 = .ok (.iadd, 1) := by decide +kernel
theorem d57_37 : decode method_5_code 37 = .ok (.bipush 116, 2) := by decide +kernel
theorem d57_39 : decode method_5_code 39 = .ok (.castore, 1) := by decide +kernel
theorem d57_40 : decode method_5_code 40 = .ok (.iload_n 1, 1) := by decide +kernel
theorem d57_41 : decode method_5_code 41 = .ok (.iconst 2, 1) := by decide +kernel
theorem d57_42 : decode method_5_code 42 = .ok (.iadd, 1) := by decide +kernel
theorem d57_43 : decode method_5_code 43 = .ok (.ireturn, 1) := by decide +kernel
theorem d57_44 : decode method_5_code 44 = .ok (.iload_n 2, 1) := by decide +kernel
theorem d57_45 : decode method_5_code 45 = .ok (.bipush 10, 2) := by decide +kernel
theorem d57_47 : decode method_5_code 47 = .ok (.if_icmp .ne 19, 3) := by decide +kernel
theorem d57_50 : decode method_5_code 50 = .ok (.aload_n 0, 1) := by decide +kernel
theorem d57_51 : decode method_5_code 51 = .ok (.iload_n 1, 1) := by decide +kernel
theorem d57_52 : decode method_5_code 52 = .ok (.bipush 92, 2) := by decide +kernel
theorem d57_54 : decode method_5_code 54 = .ok (.castore, 1) := by decide +kernel
theorem d57_55 : decode method_5_code 55 = .ok (.aload_n 0, 1) := by decide +kernel
theorem d57_56 : decode method_5_code 56 = .ok (.iload_n 1, 1) := by decide +kernel
theorem d57_57 : decode method_5_code 57 = .ok (.iconst 1, 1) := by decide +kernel
theorem d57_58 : decode method_5_code 58 = .ok (.iadd, 1) := by decide +kernel
theorem d57_59 : decode method_5_code 59 = .ok (.bipush 110, 2) := by decide +kernel
theorem d57_61 : decode method_5_code 61 = .ok (.castore, 1) := by decide +kernel
theorem d57_62 : decode method_5_code 62 = .ok (.iload_n 1, 1) := by decide +kernel
theorem d57_63 : decode method_5_code 63 = .ok (.iconst 2, 1) := by decide +kernel
theorem d57_64 : decode method_5_code 64 = .ok (.iadd, 1) := by decide +kernel
theorem d57_65 : decode method_5_code 65 = .ok (.ireturn, 1) := by decide +kernel
theorem d57_66 : decode method_5_code 66 = .ok (.iload_n 2, 1) := by decide +kernel
theorem d57_67 : decode method_5_code 67 = .ok (.bipush 13, 2) := by decide +kernel
theorem d57_69 : decode method_5_code 69 = .ok (.if_icmp .ne 19, 3) := by decide +kernel
theorem d57_72 : decode method_5_code 72 = .ok (.aload_n 0, 1) := by decide +kernel
theorem d57_73 : decode method_5_code 73 = .ok (.iload_n 1, 1) := by decide +kernel
theorem d57_74 : decode method_5_code 74 = .ok (.bipush 92, 2) := by decide +kernel
theorem d57_76 : decode method_5_code 76 = .ok (.castore, 1) := by decide +kernel
theorem d57_77 : decode method_5_code 77 = .ok (.aload_n 0, 1) := by decide +kernel
theorem d57_78 : decode method_5_code 78 = .ok (.iload_n 1, 1) := by decide +kernel
theorem d57_79 : decode method_5_code 79 = .ok (.iconst 1, 1) := by decide +kernel
theorem d57_80 : decode method_5_code 80 = .ok (.iadd, 1) := by decide +kernel
theorem d57_81 : decode method_5_code 81 = .ok (.bipush 114, 2) := by decide +kernel
theorem d57_83 : decode method_5_code 83 = .ok (.castore, 1) := by decide +kernel
theorem d57_84 : decode method_5_code 84 = .ok (.iload_n 1, 1) := by decide +kernel
theorem d57_85 : decode method_5_code 85 = .ok (.iconst 2, 1) := by decide +kernel
theorem d57_86 : decode method_5_code 86 = .ok (.iadd, 1) := by decide +kernel
theorem d57_87 : decode method_5_code 87 = .ok (.ireturn, 1) := by decide +kernel
theorem d57_88 : decode method_5_code 88 = .ok (.aload_n 0, 1) := by decide +kernel
theorem d57_89 : decode method_5_code 89 = .ok (.iload_n 1, 1) := by decide +kernel
theorem d57_90 : decode method_5_code 90 = .ok (.iload_n 2, 1) := by decide +kernel
theorem d57_91 : decode method_5_code 91 = .ok (.castore, 1) := by decide +kernel
theorem d57_92 : decode method_5_code 92 = .ok (.iload_n 1, 1) := by decide +kernel
theorem d57_93 : decode method_5_code 93 = .ok (.iconst 1, 1) := by decide +kernel
theorem d57_94 : decode method_5_code 94 = .ok (.iadd, 1) := by decide +kernel
theorem d57_95 : decode method_5_code 95 = .ok (.ireturn, 1) := by decide +kernel
theorem own_ef_rm_es (m : MethodId) (x0 : Addr) (x1 : Int32) (x2 : Int32) : entryFrame m #[(.ref x0), (.int x1), (.int x2)] 3 = mkF m 0 #[vr x0, vi x1, vi x2] [] := by first | (simp [entryFrame, mkF, argsToLocals, Value.category]; done) | rfl
def Q_rm_es (Z : State) (b : Addr) (kb : ClassId) (zs : List Int32) (cc : Int32) (h0 : Heap) (n0 : Nat) (v : Option Value) (h : Heap) (L : List Loc) : Prop := v = some (.int (Int32.ofNat (zs ++ own_esc cc).length)) ∧ Fr n0 L ∧ Keep h0 h [b] ∧ Arv Z h b kb .char 15 (chV (zs ++ own_esc cc)) (.int 0)
theorem rm_es (l : Launch) (Z : State) (a0 : Array Value) (hw : HW a0 Z) (ws : List Jvm.Cond) (b : Addr) (kb : ClassId) (zs : List Int32) (cc : Int32) (h0 : Heap) (n0 : Nat) (Z0 : n0 ≤ h0.size) (V_b : Arv Z h0 b kb .char 15 (chV zs) (.int 0)) (g_b : n0 ≤ b) (hC : Chr cc) (htot : zs.length + (own_esc cc).length ≤ 15) :
  Met l Z mN57 method_5_code 3 (some .int) ({ frames := 0, cells := 0, slots := 0, locals := 0 } : Room) ws #[(.ref b), (.int (Int32.ofNat zs.length)), (.int cc)] h0 (Q_rm_es Z b kb zs cc h0 n0) := by
 refine own_met (plainFor_of_name own_pn8) ?_
 intro p e s m below meth c s₁ hret hx hby hlk hml hown hnm X0 e0 hZ hh
 have N0 := Fr.nil n0
 refine Gz (castTop (own_ef_rm_es m b (Int32.ofNat zs.length) cc)) ?_
 have KP : Keep h0 h0 [b] := Keep.refl _ _
 show GG (fT s₁ m 0 #[vr b, vi (Int32.ofNat zs.length), vi cc] [])
 refine gN X0 hx hby d57_0 rfl rfl ?_
 refine gB X0 hx hby d57_1 ?_
 by_cases hc3_1 : cc = 92
 ·refine gU X0 hx hby d57_3 (teq hc3_1).2 ?_
  have hes : own_esc cc = [(92 : Int32), (92 : Int32)] := by rw [hc3_1]; rfl
  rw [hes] at htot
  replace htot : zs.length + 2 ≤ 15 := htot
  replace V_b := own_padN V_b 2
  refine gA X0 hx hby d57_6 rfl rfl rfl ?_
  refine gN X0 hx hby d57_7 rfl rfl ?_
  refine gB X0 hx hby d57_8 ?_
  show GG (fT s₁ m 10 #[vr b, vi (Int32.ofNat zs.length), vi cc] [(.int 92), (.int (Int32.ofNat zs.length)), (.ref b)])
  obtain ⟨cl2, Ar2, q2, S2, N2z, H2, G2⟩ := V_b
  have hin2 : ¬ ((Int32.ofNat zs.length) < 0 ∨ cl2.slots.size ≤ ((Int32.ofNat zs.length)).toNatClampNeg) := inb_of S2 ⟨(own_tnO (by omega)).2.1, (own_ltN (L := 15) (by omega) (by decide)).mpr (by omega)⟩
  obtain ⟨T2, h2, X2, e2, W2, st2⟩ := stC X0 hx hZ e0 Ar2 (j := (Int32.ofNat zs.length)) hin2 (g := (mkF m 10 #[vr b, vi (Int32.ofNat zs.length), vi cc] [(.int 92), (.int (Int32.ofNat zs.length)), (.ref b)])) rfl rfl (hb hby d57_10)
  have Vn2 := Arv.set Ar2 q2 S2 N2z H2 G2 (fits_nar_char _) W2 (zs.length) (own_tnO (by omega)).1 (by rw [List.length_append, own_chL, List.length_replicate]; omega)
  have N2 := Fr.snoc X2 N0 g_b
  replace KP := KP.wr W2 (Or.inl (List.mem_of_getElem? (i := 0) rfl))
  have V_b : Arv Z h2 b kb .char 15 ((chV zs ++ List.replicate 2 (Value.int 0)).set zs.length (.int 92)) (.int 0) := own_arvE Vn2 (by rw [own_nc (⟨by decide, by decide⟩ : Chr (92 : Int32))])
  replace Z0 : n0 ≤ h2.size := by rw [W2.size]; exact Z0
  refine Gs st2 ?_
  show GG (fT T2 m 11 #[vr b, vi (Int32.ofNat zs.length), vi cc] [])
  refine gA X2 hx hby d57_11 rfl rfl rfl ?_
  refine gN X2 hx hby d57_12 rfl rfl ?_
  refine gC X2 hx hby d57_13 ?_
  show GG (fT T2 m 14 #[vr b, vi (Int32.ofNat zs.length), vi cc] [(.int 1), (.int (Int32.ofNat zs.length)), (.ref b)])
  refine Gz (XS.iadd X2.here hx rfl (hb hby d57_14) rfl) ?_
  show GG (fT T2 m 15 #[vr b, vi (Int32.ofNat zs.length), vi cc] [(.int ((Int32.ofNat zs.length) + 1)), (.ref b)])
  rw [own_ofS]
  show GG (fT T2 m 15 #[vr b, vi (Int32.ofNat zs.length), vi cc] [(.int (Int32.ofNat (zs.length + 1))), (.ref b)])
  refine gB X2 hx hby d57_15 ?_
  obtain ⟨cl3, Ar3, q3, S3, N3z, H3, G3⟩ := V_b
  have hin3 : ¬ ((Int32.ofNat (zs.length + 1)) < 0 ∨ cl3.slots.size ≤ ((Int32.ofNat (zs.length + 1))).toNatClampNeg) := inb_of S3 ⟨(own_tnO (by omega)).2.1, (own_ltN (L := 15) (by omega) (by decide)).mpr (by omega)⟩
  obtain ⟨T3, h3, X3, e3, W3, st3⟩ := stC X2 hx hZ e2 Ar3 (j := (Int32.ofNat (zs.length + 1))) hin3 (g := (mkF m 17 #[vr b, vi (Int32.ofNat zs.length), vi cc] [(.int 92), (.int (Int32.ofNat (zs.length + 1))), (.ref b)])) rfl rfl (hb hby d57_17)
  have Vn3 := Arv.set Ar3 q3 S3 N3z H3 G3 (fits_nar_char _) W3 (zs.length + 1) (own_tnO (by omega)).1 (by rw [List.length_set, List.length_append, own_chL, List.length_replicate]; omega)
  have N3 := Fr.snoc X3 N2 g_b
  replace KP := KP.wr W3 (Or.inl (List.mem_of_getElem? (i := 0) rfl))
  have V_b : Arv Z h3 b kb .char 15 (chV (zs ++ own_esc cc)) (.int 0) := own_arvE Vn3 (by rw [own_nc (⟨by decide, by decide⟩ : Chr (92 : Int32)), hes]; exact own_chSet2 zs 92 92)
  replace Z0 : n0 ≤ h3.size := by rw [W3.size]; exact Z0
  refine Gs st3 ?_
  show GG (fT T3 m 18 #[vr b, vi (Int32.ofNat zs.length), vi cc] [])
  refine gN X3 hx hby d57_18 rfl rfl ?_
  refine gC X3 hx hby d57_19 ?_
  show GG (fT T3 m 20 #[vr b, vi (Int32.ofNat zs.length), vi cc] [(.int 2), (.int (Int32.ofNat zs.length))])
  refine Gz (XS.iadd X3.here hx rfl (hb hby d57_20) rfl) ?_
  show GG (fT T3 m 21 #[vr b, vi (Int32.ofNat zs.length), vi cc] [(.int ((Int32.ofNat zs.length) + 2))])
  rw [show ((Int32.ofNat zs.length) + 2) = (Int32.ofNat (zs ++ own_esc cc).length) from by rw [hes]; exact own_ofA2 _ _ _]
  show GG (fT T3 m 21 #[vr b, vi (Int32.ofNat zs.length), vi cc] [(.int (Int32.ofNat (zs ++ own_esc cc).length))])
  refine Goes.ret X3 (some (.int (Int32.ofNat (zs ++ own_esc cc).length))) (fun h => by rw [hret] at h; cases h) hlk (by decide) (by decide) ?_ (fun fs hr => ?_)
  ·rw [e3]; exact ⟨rfl, N3, KP, V_b⟩
  ·exact retI X3 hx hret (hb hby d57_21) hr
 ·refine gY X0 hx hby d57_3 3 22 (feq hc3_1).2 ?_
  refine gN X0 hx hby d57_22 rfl rfl ?_
  refine gB X0 hx hby d57_23 ?_
  by_cases hc25_4 : cc = 9
  ·refine gU X0 hx hby d57_25 (teq hc25_4).2 ?_
   show GG (fT s₁ m 28 #[vr b, vi (Int32.ofNat zs.length), vi cc] [])
   have hes : own_esc cc = [(92 : Int32), (116 : Int32)] := by rw [hc25_4]; rfl
   rw [hes] at htot
   replace htot : zs.length + 2 ≤ 15 := htot
   replace V_b := own_padN V_b 2
   refine gA X0 hx hby d57_28 rfl rfl rfl ?_
   refine gN X0 hx hby d57_29 rfl rfl ?_
   refine gB X0 hx hby d57_30 ?_
   obtain ⟨cl5, Ar5, q5, S5, N5z, H5, G5⟩ := V_b
   have hin5 : ¬ ((Int32.ofNat zs.length) < 0 ∨ cl5.slots.size ≤ ((Int32.ofNat zs.length)).toNatClampNeg) := inb_of S5 ⟨(own_tnO (by omega)).2.1, (own_ltN (L := 15) (by omega) (by decide)).mpr (by omega)⟩
   obtain ⟨T5, h5, X5, e5, W5, st5⟩ := stC X0 hx hZ e0 Ar5 (j := (Int32.ofNat zs.length)) hin5 (g := (mkF m 32 #[vr b, vi (Int32.ofNat zs.length), vi cc] [(.int 92), (.int (Int32.ofNat zs.length)), (.ref b)])) rfl rfl (hb hby d57_32)
   have Vn5 := Arv.set Ar5 q5 S5 N5z H5 G5 (fits_nar_char _) W5 (zs.length) (own_tnO (by omega)).1 (by rw [List.length_append, own_chL, List.length_replicate]; omega)
   have N5 := Fr.snoc X5 N0 g_b
   replace KP := KP.wr W5 (Or.inl (List.mem_of_getElem? (i := 0) rfl))
   have V_b : Arv Z h5 b kb .char 15 ((chV zs ++ List.replicate 2 (Value.int 0)).set zs.length (.int 92)) (.int 0) := own_arvE Vn5 (by rw [own_nc (⟨by decide, by decide⟩ : Chr (92 : Int32))])
   replace Z0 : n0 ≤ h5.size := by rw [W5.size]; exact Z0
   refine Gs st5 ?_
   show GG (fT T5 m 33 #[vr b, vi (Int32.ofNat zs.length), vi cc] [])
   refine gA X5 hx hby d57_33 rfl rfl rfl ?_
   refine gN X5 hx hby d57_34 rfl rfl ?_
   refine gC X5 hx hby d57_35 ?_
   show GG (fT T5 m 36 #[vr b, vi (Int32.ofNat zs.length), vi cc] [(.int 1), (.int (Int32.ofNat zs.length)), (.ref b)])
   refine Gz (XS.iadd X5.here hx rfl (hb hby d57_36) rfl) ?_
   show GG (fT T5 m 37 #[vr b, vi (Int32.ofNat zs.length), vi cc] [(.int ((Int32.ofNat zs.length) + 1)), (.ref b)])
   rw [own_ofS]
   show GG (fT T5 m 37 #[vr b, vi (Int32.ofNat zs.length), vi cc] [(.int (Int32.ofNat (zs.length + 1))), (.ref b)])
   refine gB X5 hx hby d57_37 ?_
   obtain ⟨cl6, Ar6, q6, S6, N6z, H6, G6⟩ := V_b
   have hin6 : ¬ ((Int32.ofNat (zs.length + 1)) < 0 ∨ cl6.slots.size ≤ ((Int32.ofNat (zs.length + 1))).toNatClampNeg) := inb_of S6 ⟨(own_tnO (by omega)).2.1, (own_ltN (L := 15) (by omega) (by decide)).mpr (by omega)⟩
   obtain ⟨T6, h6, X6, e6, W6, st6⟩ := stC X5 hx hZ e5 Ar6 (j := (Int32.ofNat (zs.length + 1))) hin6 (g := (mkF m 39 #[vr b, vi (Int32.ofNat zs.length), vi cc] [(.int 116), (.int (Int32.ofNat (zs.length + 1))), (.ref b)])) rfl rfl (hb hby d57_39)
   have Vn6 := Arv.set Ar6 q6 S6 N6z H6 G6 (fits_nar_char _) W6 (zs.length + 1) (own_tnO (by omega)).1 (by rw [List.length_set, List.length_append, own_chL, List.length_replicate]; omega)
   have N6 := Fr.snoc X6 N5 g_b
   replace KP := KP.wr W6 (Or.inl (List.mem_of_getElem? (i := 0) rfl))
   have V_b : Arv Z h6 b kb .char 15 (chV (zs ++ own_esc cc)) (.int 0) := own_arvE Vn6 (by rw [own_nc (⟨by decide, by decide⟩ : Chr (116 : Int32)), hes]; exact own_chSet2 zs 92 116)
   replace Z0 : n0 ≤ h6.size := by rw [W6.size]; exact Z0
   refine Gs st6 ?_
   show GG (fT T6 m 40 #[vr b, vi (Int32.ofNat zs.length), vi cc] [])
   refine gN X6 hx hby d57_40 rfl rfl ?_
   refine gC X6 hx hby d57_41 ?_
   show GG (fT T6 m 42 #[vr b, vi (Int32.ofNat zs.length), vi cc] [(.int 2), (.int (Int32.ofNat zs.length))])
   refine Gz (XS.iadd X6.here hx rfl (hb hby d57_42) rfl) ?_
   show GG (fT T6 m 43 #[vr b, vi (Int32.ofNat zs.length), vi cc] [(.int ((Int32.ofNat zs.length) + 2))])
   rw [show ((Int32.ofNat zs.length) + 2) = (Int32.ofNat (zs ++ own_esc cc).length) from by rw [hes]; exact own_ofA2 _ _ _]
   show GG (fT T6 m 43 #[vr b, vi (Int32.ofNat zs.length), vi cc] [(.int (Int32.ofNat (zs ++ own_esc cc).length))])
   refine Goes.ret X6 (some (.int (Int32.ofNat (zs ++ own_esc cc).length))) (fun h => by rw [hret] at h; cases h) hlk (by decide) (by decide) ?_ (fun fs hr => ?_)
   ·rw [e6]; exact ⟨rfl, N6, KP, V_b⟩
   ·exact retI X6 hx hret (hb hby d57_43) hr
  ·refine gY X0 hx hby d57_25 25 44 (feq hc25_4).2 ?_
   show GG (fT s₁ m 44 #[vr b, vi (Int32.ofNat zs.length), vi cc] [])
   refine gN X0 hx hby d57_44 rfl rfl ?_
   refine gB X0 hx hby d57_45 ?_
   by_cases hc47_7 : cc = 10
   ·refine gU X0 hx hby d57_47 (teq hc47_7).2 ?_
    have hes : own_esc cc = [(92 : Int32), (110 : Int32)] := by rw [hc47_7]; rfl
    rw [hes] at htot
    replace htot : zs.length + 2 ≤ 15 := htot
    replace V_b := own_padN V_b 2
    refine gA X0 hx hby d57_50 rfl rfl rfl ?_
    refine gN X0 hx hby d57_51 rfl rfl ?_
    refine gB X0 hx hby d57_52 ?_
    show GG (fT s₁ m 54 #[vr b, vi (Int32.ofNat zs.length), vi cc] [(.int 92), (.int (Int32.ofNat zs.length)), (.ref b)])
    obtain ⟨cl8, Ar8, q8, S8, N8z, H8, G8⟩ := V_b
    have hin8 : ¬ ((Int32.ofNat zs.length) < 0 ∨ cl8.slots.size ≤ ((Int32.ofNat zs.length)).toNatClampNeg) := inb_of S8 ⟨(own_tnO (by omega)).2.1, (own_ltN (L := 15) (by omega) (by decide)).mpr (by omega)⟩
    obtain ⟨T8, h8, X8, e8, W8, st8⟩ := stC X0 hx hZ e0 Ar8 (j := (Int32.ofNat zs.length)) hin8 (g := (mkF m 54 #[vr b, vi (Int32.ofNat zs.length), vi cc] [(.int 92), (.int (Int32.ofNat zs.length)), (.ref b)])) rfl rfl (hb hby d57_54)
    have Vn8 := Arv.set Ar8 q8 S8 N8z H8 G8 (fits_nar_char _) W8 (zs.length) (own_tnO (by omega)).1 (by rw [List.length_append, own_chL, List.length_replicate]; omega)
    have N8 := Fr.snoc X8 N0 g_b
    replace KP := KP.wr W8 (Or.inl (List.mem_of_getElem? (i := 0) rfl))
    have V_b : Arv Z h8 b kb .char 15 ((chV zs ++ List.replicate 2 (Value.int 0)).set zs.length (.int 92)) (.int 0) := own_arvE Vn8 (by rw [own_nc (⟨by decide, by decide⟩ : Chr (92 : Int32))])
    replace Z0 : n0 ≤ h8.size := by rw [W8.size]; exact Z0
    refine Gs st8 ?_
    show GG (fT T8 m 55 #[vr b, vi (Int32.ofNat zs.length), vi cc] [])
    refine gA X8 hx hby d57_55 rfl rfl rfl ?_
    refine gN X8 hx hby d57_56 rfl rfl ?_
    refine gC X8 hx hby d57_57 ?_
    show GG (fT T8 m 58 #[vr b, vi (Int32.ofNat zs.length), vi cc] [(.int 1), (.int (Int32.ofNat zs.length)), (.ref b)])
    refine Gz (XS.iadd X8.here hx rfl (hb hby d57_58) rfl) ?_
    show GG (fT T8 m 59 #[vr b, vi (Int32.ofNat zs.length), vi cc] [(.int ((Int32.ofNat zs.length) + 1)), (.ref b)])
    rw [own_ofS]
    show GG (fT T8 m 59 #[vr b, vi (Int32.ofNat zs.length), vi cc] [(.int (Int32.ofNat (zs.length + 1))), (.ref b)])
    refine gB X8 hx hby d57_59 ?_
    obtain ⟨cl9, Ar9, q9, S9, N9z, H9, G9⟩ := V_b
    have hin9 : ¬ ((Int32.ofNat (zs.length + 1)) < 0 ∨ cl9.slots.size ≤ ((Int32.ofNat (zs.length + 1))).toNatClampNeg) := inb_of S9 ⟨(own_tnO (by omega)).2.1, (own_ltN (L := 15) (by omega) (by decide)).mpr (by omega)⟩
    obtain ⟨T9, h9, X9, e9, W9, st9⟩ := stC X8 hx hZ e8 Ar9 (j := (Int32.ofNat (zs.length + 1))) hin9 (g := (mkF m 61 #[vr b, vi (Int32.ofNat zs.length), vi cc] [(.int 110), (.int (Int32.ofNat (zs.length + 1))), (.ref b)])) rfl rfl (hb hby d57_61)
    have Vn9 := Arv.set Ar9 q9 S9 N9z H9 G9 (fits_nar_char _) W9 (zs.length + 1) (own_tnO (by omega)).1 (by rw [List.length_set, List.length_append, own_chL, List.length_replicate]; omega)
    have N9 := Fr.snoc X9 N8 g_b
    replace KP := KP.wr W9 (Or.inl (List.mem_of_getElem? (i := 0) rfl))
    have V_b : Arv Z h9 b kb .char 15 (chV (zs ++ own_esc cc)) (.int 0) := own_arvE Vn9 (by rw [own_nc (⟨by decide, by decide⟩ : Chr (110 : Int32)), hes]; exact own_chSet2 zs 92 110)
    replace Z0 : n0 ≤ h9.size := by rw [W9.size]; exact Z0
    refine Gs st9 ?_
    show GG (fT T9 m 62 #[vr b, vi (Int32.ofNat zs.length), vi cc] [])
    refine gN X9 hx hby d57_62 rfl rfl ?_
    refine gC X9 hx hby d57_63 ?_
    show GG (fT T9 m 64 #[vr b, vi (Int32.ofNat zs.length), vi cc] [(.int 2), (.int (Int32.ofNat zs.length))])
    refine Gz (XS.iadd X9.here hx rfl (hb hby d57_64) rfl) ?_
    show GG (fT T9 m 65 #[vr b, vi (Int32.ofNat zs.length), vi cc] [(.int ((Int32.ofNat zs.length) + 2))])
    rw [show ((Int32.ofNat zs.length) + 2) = (Int32.ofNat (zs ++ own_esc cc).length) from by rw [hes]; exact own_ofA2 _ _ _]
    show GG (fT T9 m 65 #[vr b, vi (Int32.ofNat zs.length), vi cc] [(.int (Int32.ofNat (zs ++ own_esc cc).length))])
    refine Goes.ret X9 (some (.int (Int32.ofNat (zs ++ own_esc cc).length))) (fun h => by rw [hret] at h; cases h) hlk (by decide) (by decide) ?_ (fun fs hr => ?_)
    ·rw [e9]; exact ⟨rfl, N9, KP, V_b⟩
    ·exact retI X9 hx hret (hb hby d57_65) hr
   ·refine gY X0 hx hby d57_47 47 66 (feq hc47_7).2 ?_
    refine gN X0 hx hby d57_66 rfl rfl ?_
    refine gB X0 hx hby d57_67 ?_
    by_cases hc69_10 : cc = 13
    ·refine gU X0 hx hby d57_69 (teq hc69_10).2 ?_
     show GG (fT s₁ m 72 #[vr b, vi (Int32.ofNat zs.length), vi cc] [])
     have hes : own_esc cc = [(92 : Int32), (114 : Int32)] := by rw [hc69_10]; rfl
     rw [hes] at htot
     replace htot : zs.length + 2 ≤ 15 := htot
     replace V_b := own_padN V_b 2
     refine gA X0 hx hby d57_72 rfl rfl rfl ?_
     refine gN X0 hx hby d57_73 rfl rfl ?_
     refine gB X0 hx hby d57_74 ?_
     obtain ⟨cl11, Ar11, q11, S11, N11z, H11, G11⟩ := V_b
     have hin11 : ¬ ((Int32.ofNat zs.length) < 0 ∨ cl11.slots.size ≤ ((Int32.ofNat zs.length)).toNatClampNeg) := inb_of S11 ⟨(own_tnO (by omega)).2.1, (own_ltN (L := 15) (by omega) (by decide)).mpr (by omega)⟩
     obtain ⟨T11, h11, X11, e11, W11, st11⟩ := stC X0 hx hZ e0 Ar11 (j := (Int32.ofNat zs.length)) hin11 (g := (mkF m 76 #[vr b, vi (Int32.ofNat zs.length), vi cc] [(.int 92), (.int (Int32.ofNat zs.length)), (.ref b)])) rfl rfl (hb hby d57_76)
     have Vn11 := Arv.set Ar11 q11 S11 N11z H11 G11 (fits_nar_char _) W11 (zs.length) (own_tnO (by omega)).1 (by rw [List.length_append, own_chL, List.length_replicate]; omega)
     have N11 := Fr.snoc X11 N0 g_b
     replace KP := KP.wr W11 (Or.inl (List.mem_of_getElem? (i := 0) rfl))
     have V_b : Arv Z h11 b kb .char 15 ((chV zs ++ List.replicate 2 (Value.int 0)).set zs.length (.int 92)) (.int 0) := own_arvE Vn11 (by rw [own_nc (⟨by decide, by decide⟩ : Chr (92 : Int32))])
     replace Z0 : n0 ≤ h11.size := by rw [W11.size]; exact Z0
     refine Gs st11 ?_
     show GG (fT T11 m 77 #[vr b, vi (Int32.ofNat zs.length), vi cc] [])
     refine gA X11 hx hby d57_77 rfl rfl rfl ?_
     refine gN X11 hx hby d57_78 rfl rfl ?_
     refine gC X11 hx hby d57_79 ?_
     show GG (fT T11 m 80 #[vr b, vi (Int32.ofNat zs.length), vi cc] [(.int 1), (.int (Int32.ofNat zs.length)), (.ref b)])
     refine Gz (XS.iadd X11.here hx rfl (hb hby d57_80) rfl) ?_
     show GG (fT T11 m 81 #[vr b, vi (Int32.ofNat zs.length), vi cc] [(.int ((Int32.ofNat zs.length) + 1)), (.ref b)])
     rw [own_ofS]
     show GG (fT T11 m 81 #[vr b, vi (Int32.ofNat zs.length), vi cc] [(.int (Int32.ofNat (zs.length + 1))), (.ref b)])
     refine gB X11 hx hby d57_81 ?_
     obtain ⟨cl12, Ar12, q12, S12, N12z, H12, G12⟩ := V_b
     have hin12 : ¬ ((Int32.ofNat (zs.length + 1)) < 0 ∨ cl12.slots.size ≤ ((Int32.ofNat (zs.length + 1))).toNatClampNeg) := inb_of S12 ⟨(own_tnO (by omega)).2.1, (own_ltN (L := 15) (by omega) (by decide)).mpr (by omega)⟩
     obtain ⟨T12, h12, X12, e12, W12, st12⟩ := stC X11 hx hZ e11 Ar12 (j := (Int32.ofNat (zs.length + 1))) hin12 (g := (mkF m 83 #[vr b, vi (Int32.ofNat zs.length), vi cc] [(.int 114), (.int (Int32.ofNat (zs.length + 1))), (.ref b)])) rfl rfl (hb hby d57_83)
     have Vn12 := Arv.set Ar12 q12 S12 N12z H12 G12 (fits_nar_char _) W12 (zs.length + 1) (own_tnO (by omega)).1 (by rw [List.length_set, List.length_append, own_chL, List.length_replicate]; omega)
     have N12 := Fr.snoc X12 N11 g_b
     replace KP := KP.wr W12 (Or.inl (List.mem_of_getElem? (i := 0) rfl))
     have V_b : Arv Z h12 b kb .char 15 (chV (zs ++ own_esc cc)) (.int 0) := own_arvE Vn12 (by rw [own_nc (⟨by decide, by decide⟩ : Chr (114 : Int32)), hes]; exact own_chSet2 zs 92 114)
     replace Z0 : n0 ≤ h12.size := by rw [W12.size]; exact Z0
     refine Gs st12 ?_
     show GG (fT T12 m 84 #[vr b, vi (Int32.ofNat zs.length), vi cc] [])
     refine gN X12 hx hby d57_84 rfl rfl ?_
     refine gC X12 hx hby d57_85 ?_
     show GG (fT T12 m 86 #[vr b, vi (Int32.ofNat zs.length), vi cc] [(.int 2), (.int (Int32.ofNat zs.length))])
     refine Gz (XS.iadd X12.here hx rfl (hb hby d57_86) rfl) ?_
     show GG (fT T12 m 87 #[vr b, vi (Int32.ofNat zs.length), vi cc] [(.int ((Int32.ofNat zs.length) + 2))])
     rw [show ((Int32.ofNat zs.length) + 2) = (Int32.ofNat (zs ++ own_esc cc).length) from by rw [hes]; exact own_ofA2 _ _ _]
     show GG (fT T12 m 87 #[vr b, vi (Int32.ofNat zs.length), vi cc] [(.int (Int32.ofNat (zs ++ own_esc cc).length))])
     refine Goes.ret X12 (some (.int (Int32.ofNat (zs ++ own_esc cc).length))) (fun h => by rw [hret] at h; cases h) hlk (by decide) (by decide) ?_ (fun fs hr => ?_)
     ·rw [e12]; exact ⟨rfl, N12, KP, V_b⟩
     ·exact retI X12 hx hret (hb hby d57_87) hr
    ·refine gY X0 hx hby d57_69 69 88 (feq hc69_10).2 ?_
     show GG (fT s₁ m 88 #[vr b, vi (Int32.ofNat zs.length), vi cc] [])
     have hes : own_esc cc = [cc] := by rw [own_esc, if_neg hc3_1, if_neg hc25_4, if_neg hc47_7, if_neg hc69_10]
     rw [hes] at htot
     replace htot : zs.length + 1 ≤ 15 := htot
     replace V_b := own_padN V_b 1
     refine gA X0 hx hby d57_88 rfl rfl rfl ?_
     refine gN X0 hx hby d57_89 rfl rfl ?_
     refine gN X0 hx hby d57_90 rfl rfl ?_
     obtain ⟨cl13, Ar13, q13, S13, N13z, H13, G13⟩ := V_b
     have hin13 : ¬ ((Int32.ofNat zs.length) < 0 ∨ cl13.slots.size ≤ ((Int32.ofNat zs.length)).toNatClampNeg) := inb_of S13 ⟨(own_tnO (by omega)).2.1, (own_ltN (L := 15) (by omega) (by decide)).mpr (by omega)⟩
     obtain ⟨T13, h13, X13, e13, W13, st13⟩ := stC X0 hx hZ e0 Ar13 (j := (Int32.ofNat zs.length)) hin13 (g := (mkF m 91 #[vr b, vi (Int32.ofNat zs.length), vi cc] [(.int cc), (.int (Int32.ofNat zs.length)), (.ref b)])) rfl rfl (hb hby d57_91)
     have Vn13 := Arv.set Ar13 q13 S13 N13z H13 G13 (fits_nar_char _) W13 (zs.length) (own_tnO (by omega)).1 (by rw [List.length_append, own_chL, List.length_replicate]; omega)
     have N13 := Fr.snoc X13 N0 g_b
     replace KP := KP.wr W13 (Or.inl (List.mem_of_getElem? (i := 0) rfl))
     have V_b : Arv Z h13 b kb .char 15 (chV (zs ++ own_esc cc)) (.int 0) := own_arvE Vn13 (by rw [own_nc hC, hes]; exact own_chSetO zs cc)
     replace Z0 : n0 ≤ h13.size := by rw [W13.size]; exact Z0
     refine Gs st13 ?_
     show GG (fT T13 m 92 #[vr b, vi (Int32.ofNat zs.length), vi cc] [])
     refine gN X13 hx hby d57_92 rfl rfl ?_
     refine gC X13 hx hby d57_93 ?_
     show GG (fT T13 m 94 #[vr b, vi (Int32.ofNat zs.length), vi cc] [(.int 1), (.int (Int32.ofNat zs.length))])
     refine Gz (XS.iadd X13.here hx rfl (hb hby d57_94) rfl) ?_
     show GG (fT T13 m 95 #[vr b, vi (Int32.ofNat zs.length), vi cc] [(.int ((Int32.ofNat zs.length) + 1))])
     rw [show ((Int32.ofNat zs.length) + 1) = (Int32.ofNat (zs ++ own_esc cc).length) from by rw [hes]; exact own_snoc _ _]
     show GG (fT T13 m 95 #[vr b, vi (Int32.ofNat zs.length), vi cc] [(.int (Int32.ofNat (zs ++ own_esc cc).length))])
     refine Goes.ret X13 (some (.int (Int32.ofNat (zs ++ own_esc cc).length))) (fun h => by rw [hret] at h; cases h) hlk (by decide) (by decide) ?_ (fun fs hr => ?_)
     ·rw [e13]; exact ⟨rfl, N13, KP, V_b⟩
     ·exact retI X13 hx hret (hb hby d57_95) hr
theorem d58_0 : decode method_6_code 0 = .ok (.iload_n 1, 1) := by decide +kernel
theorem d58_1 : decode method_6_code 1 = .ok (.istore 5, 2) := by decide +kernel
theorem d58_3 : decode method_6_code 3 = .ok (.iload_n 2, 1) := by decide +kernel
theorem d58_4 : decode method_6_code 4 = .ok (.iconst 1, 1) := by decide +kernel
theorem d58_5 : decode method_6_code 5 = .ok (.if_icmp .lt 12, 3) := by decide +kernel
theorem d58_17 : decode method_6_code 17 = .ok (.iload_n 2, 1) := by decide +kernel
theorem d58_18 : decode method_6_code 18 = .ok (.iconst 2, 1) := by decide +kernel
theorem d58_19 : decode method_6_code 19 = .ok (.if_icmp .lt 13, 3) := by decide +kernel
theorem d58_32 : decode method_6_code 32 = .ok (.iload 5, 2) := by decide +kernel
theorem d58_34 : decode method_6_code 34 = .ok (.ireturn, 1) := by decide +kernel
theorem d58_8 : decode method_6_code 8 = .ok (.aload_n 0, 1) := by decide +kernel
theorem d58_9 : decode method_6_code 9 = .ok (.iload 5, 2) := by decide +kernel
theorem d58_11 : decode method_6_code 11 = .ok (.iload_n 3, 1) := by decide +kernel
theorem d58_12 : decode method_6_code 12 = .ok (.invokestatic 40, 3) := by decide +kernel
theorem own_pd41 : parseMethodDescriptor "([CIC)I" = some ⟨[(.array .char), .int, .char], some .int⟩ := by decide +kernel
theorem d58_15 : decode method_6_code 15 = .ok (.istore 5, 2) := by decide +kernel
theorem d58_22 : decode method_6_code 22 = .ok (.aload_n 0, 1) := by decide +kernel
theorem d58_23 : decode method_6_code 23 = .ok (.iload 5, 2) := by decide +kernel
theorem d58_25 : decode method_6_code 25 = .ok (.iload 4, 2) := by decide +kernel
theorem d58_27 : decode method_6_code 27 = .ok (.invokestatic 40, 3) := by decide +kernel
theorem d58_30 : decode method_6_code 30 = .ok (.istore 5, 2) := by decide +kernel
theorem own_ef_rm_ef (m : MethodId) (x0 : Addr) (x1 : Int32) (x2 : Int32) (x3 : Int32) (x4 : Int32) : entryFrame m #[(.ref x0), (.int x1), (.int x2), (.int x3), (.int x4)] 6 = mkF m 0 #[vr x0, vi x1, vi x2, vi x3, vi x4, vu] [] := by first | (simp [entryFrame, mkF, argsToLocals, Value.category]; done) | rfl
def Q_rm_ef (Z : State) (b : Addr) (kb : ClassId) (zs : List Int32) (q : Int32) (c0 : Int32) (c1 : Int32) (h0 : Heap) (n0 : Nat) (v : Option Value) (h : Heap) (L : List Loc) : Prop := v = some (.int (Int32.ofNat (zs ++ own_escs (own_fl q c0 c1)).length)) ∧ Fr n0 L ∧ Keep h0 h [b] ∧ Arv Z h b kb .char 15 (chV (zs ++ own_escs (own_fl q c0 c1))) (.int 0)
theorem rm_ef (l : Launch) (Z : State) (a0 : Array Value) (hw : HW a0 Z) (ws : List Jvm.Cond) (b : Addr) (kb : ClassId) (zs : List Int32) (q : Int32) (c0 : Int32) (c1 : Int32) (h0 : Heap) (n0 : Nat) (Z0 : n0 ≤ h0.size) (V_b : Arv Z h0 b kb .char 15 (chV zs) (.int 0)) (g_b : n0 ≤ b) (hC_c0 : Chr c0) (hC_c1 : Chr c1) (hq : q = 0 ∨ q = 1 ∨ q = 2) (htot : zs.length + (own_escs (own_fl q c0 c1)).length ≤ 15) :
  Met l Z mN58 method_6_code 6 (some .int) ({ frames := 1, cells := 0, slots := 0, locals := 14 } : Room) ws #[(.ref b), (.int (Int32.ofNat zs.length)), (.int q), (.int c0), (.int c1)] h0 (Q_rm_ef Z b kb zs q c0 c1 h0 n0) := by
 refine own_met (plainFor_of_name own_pn8) ?_
 intro p e s m below meth c s₁ hret hx hby hlk hml hown hnm X0 e0 hZ hh
 have N0 := Fr.nil n0
 refine Gz (castTop (own_ef_rm_ef m b (Int32.ofNat zs.length) q c0 c1)) ?_
 have KP : Keep h0 h0 [b] := Keep.refl _ _
 show GG (fT s₁ m 0 #[vr b, vi (Int32.ofNat zs.length), vi q, vi c0, vi c1, vu] [])
 rcases hq with rfl | rfl | rfl
 ·show GG (fT s₁ m 0 #[vr b, vi (Int32.ofNat zs.length), vi 0, vi c0, vi c1, vu] [])
  refine gN X0 hx hby d58_0 rfl rfl ?_
  refine gS X0 hx hby d58_1 #[vr b, vi (Int32.ofNat zs.length), vi 0, vi c0, vi c1, vi (Int32.ofNat zs.length)] ?_
  refine gN X0 hx hby d58_3 rfl rfl ?_
  refine gC X0 hx hby d58_4 ?_
  refine gY X0 hx hby d58_5 5 17 (tlt (by decide : ((0 : Int32) < (1 : Int32)))).1 ?_
  refine gN X0 hx hby d58_17 rfl rfl ?_
  show GG (fT s₁ m 18 #[vr b, vi (Int32.ofNat zs.length), vi 0, vi c0, vi c1, vi (Int32.ofNat zs.length)] [(.int 0)])
  refine gC X0 hx hby d58_18 ?_
  refine gY X0 hx hby d58_19 19 32 (tlt (by decide : ((0 : Int32) < (2 : Int32)))).1 ?_
  refine gI X0 hx hby d58_32 rfl rfl ?_
  replace V_b := own_arvE V_b (show chV zs = chV (zs ++ own_escs (own_fl 0 c0 c1)) from by rw [own_fl0, show own_escs [] = [] from rfl, List.append_nil])
  refine Goes.ret X0 (some (.int (Int32.ofNat zs.length))) (fun h => by rw [hret] at h; cases h) hlk (by decide) (by decide) ?_ (fun fs hr => ?_)
  ·rw [e0]; exact ⟨(by rw [own_fl0, show own_escs [] = [] from rfl, List.append_nil]), N0, KP, V_b⟩
  ·exact retI X0 hx hret (hb hby d58_34) hr
 ·show GG (fT s₁ m 0 #[vr b, vi (Int32.ofNat zs.length), vi 1, vi c0, vi c1, vu] [])
  rw [own_fl1, own_escs1] at htot
  refine gN X0 hx hby d58_0 rfl rfl ?_
  refine gS X0 hx hby d58_1 #[vr b, vi (Int32.ofNat zs.length), vi 1, vi c0, vi c1, vi (Int32.ofNat zs.length)] ?_
  refine gN X0 hx hby d58_3 rfl rfl ?_
  refine gC X0 hx hby d58_4 ?_
  refine gU X0 hx hby d58_5 (flt (by decide : ¬ ((1 : Int32) < (1 : Int32)))).1 ?_
  refine gA X0 hx hby d58_8 rfl rfl rfl ?_
  show GG (fT s₁ m 9 #[vr b, vi (Int32.ofNat zs.length), vi 1, vi c0, vi c1, vi (Int32.ofNat zs.length)] [(.ref b)])
  refine gI X0 hx hby d58_9 rfl rfl ?_
  refine gN X0 hx hby d58_11 rfl rfl ?_
  refine cSg X0 hx hZ hw hown hby hml e0 mN57 217 218 219 2 0 (rm_es l Z a0 hw [] b kb zs c0 h0 n0 Z0 V_b g_b hC_c0 (by omega)) d58_12 (lenOf own_pd41 rfl) (fun _ T1 L1 X1 hQ1 => ?_)
  obtain ⟨rfl, N1q, K1, V_b_1'⟩ := hQ1
  have N1 := Fr.app N0 N1q
  replace KP := KP.trans K1 (allS (Or.inl (List.mem_of_getElem? (i := 0) rfl)) all0)
  replace Z0 := Nat.le_trans Z0 K1.1
  have V_b := V_b_1'
  show GG (fT T1 m 15 #[vr b, vi (Int32.ofNat zs.length), vi 1, vi c0, vi c1, vi (Int32.ofNat zs.length)] [(.int (Int32.ofNat (zs ++ own_esc c0).length))])
  refine gS X1 hx hby d58_15 #[vr b, vi (Int32.ofNat zs.length), vi 1, vi c0, vi c1, vi (Int32.ofNat (zs ++ own_esc c0).length)] ?_
  refine gN X1 hx hby d58_17 rfl rfl ?_
  refine gC X1 hx hby d58_18 ?_
  refine gY X1 hx hby d58_19 19 32 (tlt (by decide : ((1 : Int32) < (2 : Int32)))).1 ?_
  refine gI X1 hx hby d58_32 rfl rfl ?_
  replace V_b := own_arvE V_b (show chV (zs ++ own_esc c0) = chV (zs ++ own_escs (own_fl 1 c0 c1)) from by rw [own_fl1, own_escs1])
  refine Goes.ret X1 (some (.int (Int32.ofNat (zs ++ own_esc c0).length))) (fun h => by rw [hret] at h; cases h) hlk (by decide) (by decide) ?_ (fun fs hr => ?_)
  ·exact ⟨(by rw [own_fl1, own_escs1]), N1, KP, V_b⟩
  ·exact retI X1 hx hret (hb hby d58_34) hr
 ·show GG (fT s₁ m 0 #[vr b, vi (Int32.ofNat zs.length), vi 2, vi c0, vi c1, vu] [])
  rw [own_fl2, own_escs2, List.length_append] at htot
  refine gN X0 hx hby d58_0 rfl rfl ?_
  refine gS X0 hx hby d58_1 #[vr b, vi (Int32.ofNat zs.length), vi 2, vi c0, vi c1, vi (Int32.ofNat zs.length)] ?_
  refine gN X0 hx hby d58_3 rfl rfl ?_
  refine gC X0 hx hby d58_4 ?_
  refine gU X0 hx hby d58_5 (flt (by decide : ¬ ((2 : Int32) < (1 : Int32)))).1 ?_
  refine gA X0 hx hby d58_8 rfl rfl rfl ?_
  show GG (fT s₁ m 9 #[vr b, vi (Int32.ofNat zs.length), vi 2, vi c0, vi c1, vi (Int32.ofNat zs.length)] [(.ref b)])
  refine gI X0 hx hby d58_9 rfl rfl ?_
  refine gN X0 hx hby d58_11 rfl rfl ?_
  refine cSg X0 hx hZ hw hown hby hml e0 mN57 217 218 219 2 0 (rm_es l Z a0 hw [] b kb zs c0 h0 n0 Z0 V_b g_b hC_c0 (by omega)) d58_12 (lenOf own_pd41 rfl) (fun _ T2 L2 X2 hQ2 => ?_)
  obtain ⟨rfl, N2q, K2, V_b_2'⟩ := hQ2
  have N2 := Fr.app N0 N2q
  replace KP := KP.trans K2 (allS (Or.inl (List.mem_of_getElem? (i := 0) rfl)) all0)
  replace Z0 := Nat.le_trans Z0 K2.1
  have V_b := V_b_2'
  show GG (fT T2 m 15 #[vr b, vi (Int32.ofNat zs.length), vi 2, vi c0, vi c1, vi (Int32.ofNat zs.length)] [(.int (Int32.ofNat (zs ++ own_esc c0).length))])
  refine gS X2 hx hby d58_15 #[vr b, vi (Int32.ofNat zs.length), vi 2, vi c0, vi c1, vi (Int32.ofNat (zs ++ own_esc c0).length)] ?_
  refine gN X2 hx hby d58_17 rfl rfl ?_
  refine gC X2 hx hby d58_18 ?_
  refine gU X2 hx hby d58_19 (flt (by decide : ¬ ((2 : Int32) < (2 : Int32)))).1 ?_
  refine gA X2 hx hby d58_22 rfl rfl rfl ?_
  refine gI X2 hx hby d58_23 rfl rfl ?_
  show GG (fT T2 m 25 #[vr b, vi (Int32.ofNat zs.length), vi 2, vi c0, vi c1, vi (Int32.ofNat (zs ++ own_esc c0).length)] [(.int (Int32.ofNat (zs ++ own_esc c0).length)), (.ref b)])
  refine gI X2 hx hby d58_25 rfl rfl ?_
  refine cSg X2 hx hZ hw hown hby hml rfl mN57 217 218 219 2 0 (rm_es l Z a0 hw [] b kb (zs ++ own_esc c0) c1 T2.heap n0 Z0 V_b g_b hC_c1 (by rw [List.length_append]; omega)) d58_27 (lenOf own_pd41 rfl) (fun _ T3 L3 X3 hQ3 => ?_)
  obtain ⟨rfl, N3q, K3, V_b_3'⟩ := hQ3
  have N3 := Fr.app N2 N3q
  replace KP := KP.trans K3 (allS (Or.inl (List.mem_of_getElem? (i := 0) rfl)) all0)
  replace Z0 := Nat.le_trans Z0 K3.1
  have V_b := V_b_3'
  show GG (fT T3 m 30 #[vr b, vi (Int32.ofNat zs.length), vi 2, vi c0, vi c1, vi (Int32.ofNat (zs ++ own_esc c0).length)] [(.int (Int32.ofNat ((zs ++ own_esc c0) ++ own_esc c1).length))])
  refine gS X3 hx hby d58_30 #[vr b, vi (Int32.ofNat zs.length), vi 2, vi c0, vi c1, vi (Int32.ofNat ((zs ++ own_esc c0) ++ own_esc c1).length)] ?_
  refine gI X3 hx hby d58_32 rfl rfl ?_
  replace V_b := own_arvE V_b (show chV ((zs ++ own_esc c0) ++ own_esc c1) = chV (zs ++ own_escs (own_fl 2 c0 c1)) from by rw [own_fl2, own_escs2, ← List.append_assoc])
  refine Goes.ret X3 (some (.int (Int32.ofNat ((zs ++ own_esc c0) ++ own_esc c1).length))) (fun h => by rw [hret] at h; cases h) hlk (by decide) (by decide) ?_ (fun fs hr => ?_)
  ·exact ⟨(by rw [own_fl2, own_escs2, ← List.append_assoc]), N3, KP, V_b⟩
  ·exact retI X3 hx hret (hb hby d58_34) hr
theorem d59_0 : decode method_7_code 0 = .ok (.iload_n 3, 1) := by decide +kernel
theorem d59_1 : decode method_7_code 1 = .ok (.iload_n 2, 1) := by decide +kernel
theorem d59_2 : decode method_7_code 2 = .ok (.if_icmp .ge 14, 3) := by decide +kernel
theorem d59_5 : decode method_7_code 5 = .ok (.aload_n 0, 1) := by decide +kernel
theorem d59_6 : decode method_7_code 6 = .ok (.iload_n 3, 1) := by decide +kernel
theorem d59_7 : decode method_7_code 7 = .ok (.invokevirtual 44, 3) := by decide +kernel
theorem d59_10 : decode method_7_code 10 = .ok (.aload_n 1, 1) := by decide +kernel
theorem d59_11 : decode method_7_code 11 = .ok (.iload_n 3, 1) := by decide +kernel
theorem d59_12 : decode method_7_code 12 = .ok (.caload, 1) := by decide +kernel
theorem d59_13 : decode method_7_code 13 = .ok (.if_icmp .ne 7, 3) := by decide +kernel
theorem d59_16 : decode method_7_code 16 = .ok (.iconst 1, 1) := by decide +kernel
theorem d59_17 : decode method_7_code 17 = .ok (.goto 4, 3) := by decide +kernel
theorem d59_21 : decode method_7_code 21 = .ok (.ireturn, 1) := by decide +kernel
theorem own_ef_rm_atc (m : MethodId) (x0 : Addr) (x1 : Addr) (x2 : Int32) (x3 : Int32) : entryFrame m #[(.ref x0), (.ref x1), (.int x2), (.int x3)] 4 = mkF m 0 #[vr x0, vr x1, vi x2, vi x3] [] := by first | (simp [entryFrame, mkF, argsToLocals, Value.category]; done) | rfl
def Q_rm_atc (Z : State) (a : Addr) (xs : List Int32) (b : Addr) (kb : ClassId) (j : Int32) (jj : Nat) (cz : Int32) (fo : Value) (h0 : Heap) (n0 : Nat) (v : Option Value) (h : Heap) (L : List Loc) : Prop := v = some (.int 1) ∧ Fr n0 L ∧ h = h0
theorem rm_atc (l : Launch) (Z : State) (a0 : Array Value) (hw : HW a0 Z) (ws : List Jvm.Cond) (a : Addr) (xs : List Int32) (b : Addr) (kb : ClassId) (j : Int32) (jj : Nat) (cz : Int32) (fo : Value) (h0 : Heap) (n0 : Nat) (Z0 : n0 ≤ h0.size) (T_a : StrOf Z h0 a xs) (V_b : Arv Z h0 b kb .char 15 (chV xs) (.int 0)) (h15 : xs.length ≤ 15) (sgC : Sta Z h0 "java/lang/String" "COMPACT_STRINGS" "Z" (.int cz)) (hcz : ¬ (cz = 0)) (sgF : Sta Z h0 "jdk/internal/util/Preconditions" "SIOOBE_FORMATTER" "Ljava/util/function/BiFunction;" fo) (r_fo : fo.isRef = true) (sgA : Sta Z h0 "java/lang/StringUTF16" "$assertionsDisabled" "Z" (.int 1)) (sgH : Sta Z h0 "java/lang/StringUTF16" "HI_BYTE_SHIFT" "I" (.int 0)) (sgL : Sta Z h0 "java/lang/StringUTF16" "LO_BYTE_SHIFT" "I" (.int 8)) (hj : j.toInt = ((jj : Nat) : Int)) :
  Met l Z mN59 method_7_code 4 (some .boolean) ({ frames := 5, cells := 0, slots := 0, locals := 66 } : Room) ws #[(.ref a), (.ref b), (.int (Int32.ofNat xs.length)), (.int j)] h0 (Q_rm_atc Z a xs b kb j jj cz fo h0 n0) := by
 refine own_met (plainFor_of_name own_pn8) ?_
 intro p e s m below meth c s₁ hret hx hby hlk hml hown hnm X0 e0 hZ hh
 have N0 := Fr.nil n0
 refine Gz (castTop (own_ef_rm_atc m a b (Int32.ofNat xs.length) j)) ?_
 show GG (fT s₁ m 0 #[vr a, vr b, vi (Int32.ofNat xs.length), vi j] [])
 refine gN X0 hx hby d59_0 rfl rfl ?_
 refine gN X0 hx hby d59_1 rfl rfl ?_
 by_cases hc2_1 : j < (Int32.ofNat xs.length)
 ·refine gU X0 hx hby d59_2 (tlt hc2_1).2.1 ?_
  have hlt : jj < xs.length := (own_ltO hj (by omega)).mp hc2_1
  have oj := own_tnJ hj
  refine gA X0 hx hby d59_5 rfl rfl rfl ?_
  refine gN X0 hx hby d59_6 rfl rfl ?_
  refine cV X0 hx hZ hw hown hby hml e0 mN10 139 140 142 141 143 9 0 (rs_chr l Z a0 hw [] a xs j (xs.getD jj 0) cz fo h0 n0 Z0 T_a sgC hcz oj.2 hc2_1 (by rw [oj.1]) sgF r_fo sgA sgH sgL) T_a.exa d59_7 (lenOf own_pd34 rfl) N0 (fun T2 L2 X2 e2 N2 => ?_)
  show GG (fT T2 m 10 #[vr a, vr b, vi (Int32.ofNat xs.length), vi j] [(.int (xs.getD jj 0))])
  refine gA X2 hx hby d59_10 rfl rfl rfl ?_
  refine gN X2 hx hby d59_11 rfl rfl ?_
  obtain ⟨cl3, Ar3, -, S3, N3z, H3, -⟩ := id V_b
  have hin3 : ¬ (j < 0 ∨ cl3.slots.size ≤ (j).toNatClampNeg) := inb_of S3 ⟨oj.2, (own_ltO hj (L := 15) (by decide)).mpr (by omega)⟩
  have hat3 : cl3.slots[(j).toNatClampNeg]? = some (.int (xs.getD jj 0)) := Has.at H3 hin3 (by rw [oj.1]; exact own_chAt hlt)
  refine Gs (fun _ tk => X2.caload hx (j := j) (v := (.int (xs.getD jj 0))) (by rw [e2]; exact Ar3.1) (State.isArrayOf_alike hZ.alike Ar3.2.1) Ar3.2.2 hin3 hat3 (g := (mkF m 12 #[vr a, vr b, vi (Int32.ofNat xs.length), vi j] [(.int j), (.ref b), (.int (xs.getD jj 0))])) rfl rfl (hb hby d59_12) _ tk) ?_
  show GG (fT T2 m 13 #[vr a, vr b, vi (Int32.ofNat xs.length), vi j] [(.int (xs.getD jj 0)), (.int (xs.getD jj 0))])
  refine gU X2 hx hby d59_13 (teq (rfl : (xs.getD jj 0) = (xs.getD jj 0))).2 ?_
  refine gC X2 hx hby d59_16 ?_
  refine gG X2 hx hby d59_17 17 21 ?_
  refine Goes.ret X2 (some (.int 1)) (fun h => by rw [hret] at h; cases h) hlk (by decide) (by decide) ?_ (fun fs hr => ?_)
  ·exact ⟨rfl, N2, e2⟩
  ·exact own_retN X2 hx (t := .boolean) hret (by simp) rfl (hb hby d59_21) hr
 ·refine gY X0 hx hby d59_2 2 16 (flt hc2_1).2.1 ?_
  refine gC X0 hx hby d59_16 ?_
  refine gG X0 hx hby d59_17 17 21 ?_
  refine Goes.ret X0 (some (.int 1)) (fun h => by rw [hret] at h; cases h) hlk (by decide) (by decide) ?_ (fun fs hr => ?_)
  ·exact ⟨rfl, N0, e0⟩
  ·exact own_retN X0 hx (t := .boolean) hret (by simp) rfl (hb hby d59_21) hr
theorem d60_0 : decode method_8_code 0 = .ok (.aload_n 0, 1) := by decide +kernel
theorem d60_1 : decode method_8_code 1 = .ok (.invokevirtual 48, 3) := by decide +kernel
theorem d60_4 : decode method_8_code 4 = .ok (.iload_n 2, 1) := by decide +kernel
theorem d60_5 : decode method_8_code 5 = .ok (.if_icmp .eq 5, 3) := by decide +kernel
theorem d60_10 : decode method_8_code 10 = .ok (.aload_n 0, 1) := by decide +kernel
theorem d60_11 : decode method_8_code 11 = .ok (.aload_n 1, 1) := by decide +kernel
theorem d60_12 : decode method_8_code 12 = .ok (.iload_n 2, 1) := by decide +kernel
theorem d60_13 : decode method_8_code 13 = .ok (.iconst 0, 1) := by decide +kernel
theorem d60_14 : decode method_8_code 14 = .ok (.invokestatic 52, 3) := by decide +kernel
theorem own_pd42 : parseMethodDescriptor "(Ljava/lang/String;[CII)Z" = some ⟨[(.object "java/lang/String"), (.array .char), .int, .int], some .boolean⟩ := by decide +kernel
theorem d60_17 : decode method_8_code 17 = .ok (.ifCond .eq 156, 3) := by decide +kernel
theorem d60_20 : decode method_8_code 20 = .ok (.aload_n 0, 1) := by decide +kernel
theorem d60_21 : decode method_8_code 21 = .ok (.aload_n 1, 1) := by decide +kernel
theorem d60_22 : decode method_8_code 22 = .ok (.iload_n 2, 1) := by decide +kernel
theorem d60_23 : decode method_8_code 23 = .ok (.iconst 1, 1) := by decide +kernel
theorem d60_24 : decode method_8_code 24 = .ok (.invokestatic 52, 3) := by decide +kernel
theorem d60_27 : decode method_8_code 27 = .ok (.ifCond .eq 146, 3) := by decide +kernel
theorem d60_30 : decode method_8_code 30 = .ok (.aload_n 0, 1) := by decide +kernel
theorem d60_31 : decode method_8_code 31 = .ok (.aload_n 1, 1) := by decide +kernel
theorem d60_32 : decode method_8_code 32 = .ok (.iload_n 2, 1) := by decide +kernel
theorem d60_33 : decode method_8_code 33 = .ok (.iconst 2, 1) := by decide +kernel
theorem d60_34 : decode method_8_code 34 = .ok (.invokestatic 52, 3) := by decide +kernel
theorem d60_37 : decode method_8_code 37 = .ok (.ifCond .eq 136, 3) := by decide +kernel
theorem d60_40 : decode method_8_code 40 = .ok (.aload_n 0, 1) := by decide +kernel
theorem d60_41 : decode method_8_code 41 = .ok (.aload_n 1, 1) := by decide +kernel
theorem d60_42 : decode method_8_code 42 = .ok (.iload_n 2, 1) := by decide +kernel
theorem d60_43 : decode method_8_code 43 = .ok (.iconst 3, 1) := by decide +kernel
theorem d60_44 : decode method_8_code 44 = .ok (.invokestatic 52, 3) := by decide +kernel
theorem d60_47 : decode method_8_code 47 = .ok (.ifCond .eq 126, 3) := by decide +kernel
theorem d60_50 : decode method_8_code 50 = .ok (.aload_n 0, 1) := by decide +kernel
theorem d60_51 : decode method_8_code 51 = .ok (.aload_n 1, 1) := by decide +kernel
theorem d60_52 : decode method_8_code 52 = .ok (.iload_n 2, 1) := by decide +kernel
theorem d60_53 : decode method_8_code 53 = .ok (.iconst 4, 1) := by decide +kernel
theorem d60_54 : decode method_8_code 54 = .ok (.invokestatic 52, 3) := by decide +kernel
theorem d60_57 : decode method_8_code 57 = .ok (.ifCond .eq 116, 3) := by decide +kernel
theorem d60_60 : decode method_8_code 60 = .ok (.aload_n 0, 1) := by decide +kernel
theorem d60_61 : decode method_8_code 61 = .ok (.aload_n 1, 1) := by decide +kernel
theorem d60_62 : decode method_8_code 62 = .ok (.iload_n 2, 1) := by decide +kernel
theorem d60_63 : decode method_8_code 63 = .ok (.iconst 5, 1) := by decide +kernel
theorem d60_64 : decode method_8_code 64 = .ok (.invokestatic 52, 3) := by decide +kernel
theorem d60_67 : decode method_8_code 67 = .ok (.ifCond .eq 106, 3) := by decide +kernel
theorem d60_70 : decode method_8_code 70 = .ok (.aload_n 0, 1) := by decide +kernel
theorem d60_71 : decode method_8_code 71 = .ok (.aload_n 1, 1) := by decide +kernel
theorem d60_72 : decode method_8_code 72 = .ok (.iload_n 2, 1) := by decide +kernel
theorem d60_73 : decode method_8_code 73 = .ok (.bipush 6, 2) := by decide +kernel
theorem d60_75 : decode method_8_code 75 = .ok (.invokestatic 52, 3) := by decide +kernel
theorem d60_78 : decode method_8_code 78 = .ok (.ifCond .eq 95, 3) := by decide +kernel
theorem d60_81 : decode method_8_code 81 = .ok (.aload_n 0, 1) := by decide +kernel
theorem d60_82 : decode method_8_code 82 = .ok (.aload_n 1, 1) := by decide +kernel
theorem d60_83 : decode method_8_code 83 = .ok (.iload_n 2, 1) := by decide +kernel
theorem d60_84 : decode method_8_code 84 = .ok (.bipush 7, 2) := by decide +kernel
theorem d60_86 : decode method_8_code 86 = .ok (.invokestatic 52, 3) := by decide +kernel
theorem d60_89 : decode method_8_code 89 = .ok (.ifCond .eq 84, 3) := by decide +kernel
theorem d60_92 : decode method_8_code 92 = .ok (.aload_n 0, 1) := by decide +kernel
theorem d60_93 : decode method_8_code 93 = .ok (.aload_n 1, 1) := by decide +kernel
theorem d60_94 : decode method_8_code 94 = .ok (.iload_n 2, 1) := by decide +kernel
theorem d60_95 : decode method_8_code 95 = .ok (.bipush 8, 2) := by decide +kernel
theorem d60_97 : decode method_8_code 97 = .ok (.invokestatic 52, 3) := by decide +kernel
theorem d60_100 : decode method_8_code 100 = .ok (.ifCond .eq 73, 3) := by decide +kernel
theorem d60_103 : decode method_8_code 103 = .ok (.aload_n 0, 1) := by decide +kernel
theorem d60_104 : decode method_8_code 104 = .ok (.aload_n 1, 1) := by decide +kernel
theorem d60_105 : decode method_8_code 105 = .ok (.iload_n 2, 1) := by decide +kernel
theorem d60_106 : decode method_8_code 106 = .ok (.bipush 9, 2) := by decide +kernel
theorem d60_108 : decode method_8_code 108 = .ok (.invokestatic 52, 3) := by decide +kernel
theorem d60_111 : decode method_8_code 111 = .ok (.ifCond .eq 62, 3) := by decide +kernel
theorem d60_114 : decode method_8_code 114 = .ok (.aload_n 0, 1) := by decide +kernel
theorem d60_115 : decode method_8_code 115 = .ok (.aload_n 1, 1) := by decide +kernel
theorem d60_116 : decode method_8_code 116 = .ok (.iload_n 2, 1) := by decide +kernel
theorem d60_117 : decode method_8_code 117 = .ok (.bipush 10, 2) := by decide +kernel
theorem d60_119 : decode method_8_code 119 = .ok (.invokestatic 52, 3) := by decide +kernel
theorem d60_122 : decode method_8_code 122 = .ok (.ifCond .eq 51, 3) := by decide +kernel
theorem d60_125 : decode method_8_code 125 = .ok (.aload_n 0, 1) := by decide +kernel
theorem d60_126 : decode method_8_code 126 = .ok (.aload_n 1, 1) := by decide +kernel
theorem d60_127 : decode method_8_code 127 = .ok (.iload_n 2, 1) := by decide +kernel
theorem d60_128 : decode method_8_code 128 = .ok (.bipush 11, 2) := by decide +kernel
theorem d60_130 : decode method_8_code 130 = .ok (.invokestatic 52, 3) := by decide +kernel
theorem d60_133 : decode method_8_code 133 = .ok (.ifCond .eq 40, 3) := by decide +kernel
theorem d60_136 : decode method_8_code 136 = .ok (.aload_n 0, 1) := by decide +kernel
theorem d60_137 : decode method_8_code 137 = .ok (.aload_n 1, 1) := by decide +kernel
theorem d60_138 : decode method_8_code 138 = .ok (.iload_n 2, 1) := by decide +kernel
theorem d60_139 : decode method_8_code 139 = .ok (.bipush 12, 2) := by decide +kernel
theorem d60_141 : decode method_8_code 141 = .ok (.invokestatic 52, 3) := by decide +kernel
theorem d60_144 : decode method_8_code 144 = .ok (.ifCond .eq 29, 3) := by decide +kernel
theorem d60_147 : decode method_8_code 147 = .ok (.aload_n 0, 1) := by decide +kernel
theorem d60_148 : decode method_8_code 148 = .ok (.aload_n 1, 1) := by decide +kernel
theorem d60_149 : decode method_8_code 149 = .ok (.iload_n 2, 1) := by decide +kernel
theorem d60_150 : decode method_8_code 150 = .ok (.bipush 13, 2) := by decide +kernel
theorem d60_152 : decode method_8_code 152 = .ok (.invokestatic 52, 3) := by decide +kernel
theorem d60_155 : decode method_8_code 155 = .ok (.ifCond .eq 18, 3) := by decide +kernel
theorem d60_158 : decode method_8_code 158 = .ok (.aload_n 0, 1) := by decide +kernel
theorem d60_159 : decode method_8_code 159 = .ok (.aload_n 1, 1) := by decide +kernel
theorem d60_160 : decode method_8_code 160 = .ok (.iload_n 2, 1) := by decide +kernel
theorem d60_161 : decode method_8_code 161 = .ok (.bipush 14, 2) := by decide +kernel
theorem d60_163 : decode method_8_code 163 = .ok (.invokestatic 52, 3) := by decide +kernel
theorem d60_166 : decode method_8_code 166 = .ok (.ifCond .eq 7, 3) := by decide +kernel
theorem d60_169 : decode method_8_code 169 = .ok (.iconst 1, 1) := by decide +kernel
theorem d60_170 : decode method_8_code 170 = .ok (.goto 4, 3) := by decide +kernel
theorem d60_174 : decode method_8_code 174 = .ok (.ireturn, 1) := by decide +kernel
theorem own_ef_rm_same (m : MethodId) (x0 : Addr) (x1 : Addr) (x2 : Int32) : entryFrame m #[(.ref x0), (.ref x1), (.int x2)] 3 = mkF m 0 #[vr x0, vr x1, vi x2] [] := by first | (simp [entryFrame, mkF, argsToLocals, Value.category]; done) | rfl
def Q_rm_same (Z : State) (a : Addr) (xs : List Int32) (b : Addr) (kb : ClassId) (cz : Int32) (fo : Value) (h0 : Heap) (n0 : Nat) (v : Option Value) (h : Heap) (L : List Loc) : Prop := v = some (.int 1) ∧ Fr n0 L ∧ h = h0
theorem rm_same (l : Launch) (Z : State) (a0 : Array Value) (hw : HW a0 Z) (ws : List Jvm.Cond) (a : Addr) (xs : List Int32) (b : Addr) (kb : ClassId) (cz : Int32) (fo : Value) (h0 : Heap) (n0 : Nat) (Z0 : n0 ≤ h0.size) (T_a : StrOf Z h0 a xs) (V_b : Arv Z h0 b kb .char 15 (chV xs) (.int 0)) (h15 : xs.length ≤ 15) (sgC : Sta Z h0 "java/lang/String" "COMPACT_STRINGS" "Z" (.int cz)) (hcz : ¬ (cz = 0)) (sgF : Sta Z h0 "jdk/internal/util/Preconditions" "SIOOBE_FORMATTER" "Ljava/util/function/BiFunction;" fo) (r_fo : fo.isRef = true) (sgA : Sta Z h0 "java/lang/StringUTF16" "$assertionsDisabled" "Z" (.int 1)) (sgH : Sta Z h0 "java/lang/StringUTF16" "HI_BYTE_SHIFT" "I" (.int 0)) (sgL : Sta Z h0 "java/lang/StringUTF16" "LO_BYTE_SHIFT" "I" (.int 8)) :
  Met l Z mN60 method_8_code 3 (some .boolean) ({ frames := 6, cells := 0, slots := 0, locals := 81 } : Room) ws #[(.ref a), (.ref b), (.int (Int32.ofNat xs.length))] h0 (Q_rm_same Z a xs b kb cz fo h0 n0) := by
 refine own_met (plainFor_of_name own_pn8) ?_
 intro p e s m below meth c s₁ hret hx hby hlk hml hown hnm X0 e0 hZ hh
 have N0 := Fr.nil n0
 refine Gz (castTop (own_ef_rm_same m a b (Int32.ofNat xs.length))) ?_
 show GG (fT s₁ m 0 #[vr a, vr b, vi (Int32.ofNat xs.length)] [])
 refine gA X0 hx hby d60_0 rfl rfl rfl ?_
 refine cV X0 hx hZ hw hown hby hml e0 mN2 125 126 128 127 129 9 0 (rs_len l Z a0 hw [] a xs cz h0 n0 Z0 T_a sgC hcz) T_a.exa d60_1 (lenOf own_pd26 rfl) N0 (fun T1 L1 X1 e1 N1 => ?_)
 show GG (fT T1 m 4 #[vr a, vr b, vi (Int32.ofNat xs.length)] [(.int (Int32.ofNat xs.length))])
 refine gN X1 hx hby d60_4 rfl rfl ?_
 refine gY X1 hx hby d60_5 5 10 (teq (rfl : (Int32.ofNat xs.length) = (Int32.ofNat xs.length))).1 ?_
 refine gA X1 hx hby d60_10 rfl rfl rfl ?_
 refine gA X1 hx hby d60_11 rfl rfl rfl ?_
 refine gN X1 hx hby d60_12 rfl rfl ?_
 refine gC X1 hx hby d60_13 ?_
 show GG (fT T1 m 14 #[vr a, vr b, vi (Int32.ofNat xs.length)] [(.int 0), (.int (Int32.ofNat xs.length)), (.ref b), (.ref a)])
 refine cS X1 hx hZ hw hown hby hml e1 mN59 136 137 138 2 0 (rm_atc l Z a0 hw [] a xs b kb (0 : Int32) 0 cz fo h0 n0 Z0 T_a V_b h15 sgC hcz sgF r_fo sgA sgH sgL (by decide)) d60_14 (lenOf own_pd42 rfl) N1 (fun T2 L2 X2 e2 N2 => ?_)
 show GG (fT T2 m 17 #[vr a, vr b, vi (Int32.ofNat xs.length)] [(.int 1)])
 refine gu X2 hx hby d60_17 ((if0 _ _).trans (feq (by decide : ¬ ((1 : Int32) = (0 : Int32)))).1) ?_
 refine gA X2 hx hby d60_20 rfl rfl rfl ?_
 refine gA X2 hx hby d60_21 rfl rfl rfl ?_
 refine gN X2 hx hby d60_22 rfl rfl ?_
 refine gC X2 hx hby d60_23 ?_
 refine cS X2 hx hZ hw hown hby hml e2 mN59 136 137 138 2 0 (rm_atc l Z a0 hw [] a xs b kb (1 : Int32) 1 cz fo h0 n0 Z0 T_a V_b h15 sgC hcz sgF r_fo sgA sgH sgL (by decide)) d60_24 (lenOf own_pd42 rfl) N2 (fun T3 L3 X3 e3 N3 => ?_)
 show GG (fT T3 m 27 #[vr a, vr b, vi (Int32.ofNat xs.length)] [(.int 1)])
 refine gu X3 hx hby d60_27 ((if0 _ _).trans (feq (by decide : ¬ ((1 : Int32) = (0 : Int32)))).1) ?_
 refine gA X3 hx hby d60_30 rfl rfl rfl ?_
 refine gA X3 hx hby d60_31 rfl rfl rfl ?_
 refine gN X3 hx hby d60_32 rfl rfl ?_
 refine gC X3 hx hby d60_33 ?_
 refine cS X3 hx hZ hw hown hby hml e3 mN59 136 137 138 2 0 (rm_atc l Z a0 hw [] a xs b kb (2 : Int32) 2 cz fo h0 n0 Z0 T_a V_b h15 sgC hcz sgF r_fo sgA sgH sgL (by decide)) d60_34 (lenOf own_pd42 rfl) N3 (fun T4 L4 X4 e4 N4 => ?_)
 show GG (fT T4 m 37 #[vr a, vr b, vi (Int32.ofNat xs.length)] [(.int 1)])
 refine gu X4 hx hby d60_37 ((if0 _ _).trans (feq (by decide : ¬ ((1 : Int32) = (0 : Int32)))).1) ?_
 refine gA X4 hx hby d60_40 rfl rfl rfl ?_
 refine gA X4 hx hby d60_41 rfl rfl rfl ?_
 refine gN X4 hx hby d60_42 rfl rfl ?_
 refine gC X4 hx hby d60_43 ?_
 refine cS X4 hx hZ hw hown hby hml e4 mN59 136 137 138 2 0 (rm_atc l Z a0 hw [] a xs b kb (3 : Int32) 3 cz fo h0 n0 Z0 T_a V_b h15 sgC hcz sgF r_fo sgA sgH sgL (by decide)) d60_44 (lenOf own_pd42 rfl) N4 (fun T5 L5 X5 e5 N5 => ?_)
 show GG (fT T5 m 47 #[vr a, vr b, vi (Int32.ofNat xs.length)] [(.int 1)])
 refine gu X5 hx hby d60_47 ((if0 _ _).trans (feq (by decide : ¬ ((1 : Int32) = (0 : Int32)))).1) ?_
 refine gA X5 hx hby d60_50 rfl rfl rfl ?_
 refine gA X5 hx hby d60_51 rfl rfl rfl ?_
 refine gN X5 hx hby d60_52 rfl rfl ?_
 refine gC X5 hx hby d60_53 ?_
 refine cS X5 hx hZ hw hown hby hml e5 mN59 136 137 138 2 0 (rm_atc l Z a0 hw [] a xs b kb (4 : Int32) 4 cz fo h0 n0 Z0 T_a V_b h15 sgC hcz sgF r_fo sgA sgH sgL (by decide)) d60_54 (lenOf own_pd42 rfl) N5 (fun T6 L6 X6 e6 N6 => ?_)
 show GG (fT T6 m 57 #[vr a, vr b, vi (Int32.ofNat xs.length)] [(.int 1)])
 refine gu X6 hx hby d60_57 ((if0 _ _).trans (feq (by decide : ¬ ((1 : Int32) = (0 : Int32)))).1) ?_
 refine gA X6 hx hby d60_60 rfl rfl rfl ?_
 refine gA X6 hx hby d60_61 rfl rfl rfl ?_
 refine gN X6 hx hby d60_62 rfl rfl ?_
 refine gC X6 hx hby d60_63 ?_
 refine cS X6 hx hZ hw hown hby hml e6 mN59 136 137 138 2 0 (rm_atc l Z a0 hw [] a xs b kb (5 : Int32) 5 cz fo h0 n0 Z0 T_a V_b h15 sgC hcz sgF r_fo sgA sgH sgL (by decide)) d60_64 (lenOf own_pd42 rfl) N6 (fun T7 L7 X7 e7 N7 => ?_)
 show GG (fT T7 m 67 #[vr a, vr b, vi (Int32.ofNat xs.length)] [(.int 1)])
 refine gu X7 hx hby d60_67 ((if0 _ _).trans (feq (by decide : ¬ ((1 : Int32) = (0 : Int32)))).1) ?_
 refine gA X7 hx hby d60_70 rfl rfl rfl ?_
 refine gA X7 hx hby d60_71 rfl rfl rfl ?_
 refine gN X7 hx hby d60_72 rfl rfl ?_
 refine gB X7 hx hby d60_73 ?_
 refine cS X7 hx hZ hw hown hby hml e7 mN59 136 137 138 2 0 (rm_atc l Z a0 hw [] a xs b kb (6 : Int32) 6 cz fo h0 n0 Z0 T_a V_b h15 sgC hcz sgF r_fo sgA sgH sgL (by decide)) d60_75 (lenOf own_pd42 rfl) N7 (fun T8 L8 X8 e8 N8 => ?_)
 show GG (fT T8 m 78 #[vr a, vr b, vi (Int32.ofNat xs.length)] [(.int 1)])
 refine gu X8 hx hby d60_78 ((if0 _ _).trans (feq (by decide : ¬ ((1 : Int32) = (0 : Int32)))).1) ?_
 refine gA X8 hx hby d60_81 rfl rfl rfl ?_
 refine gA X8 hx hby d60_82 rfl rfl rfl ?_
 refine gN X8 hx hby d60_83 rfl rfl ?_
 refine gB X8 hx hby d60_84 ?_
 refine cS X8 hx hZ hw hown hby hml e8 mN59 136 137 138 2 0 (rm_atc l Z a0 hw [] a xs b kb (7 : Int32) 7 cz fo h0 n0 Z0 T_a V_b h15 sgC hcz sgF r_fo sgA sgH sgL (by decide)) d60_86 (lenOf own_pd42 rfl) N8 (fun T9 L9 X9 e9 N9 => ?_)
 show GG (fT T9 m 89 #[vr a, vr b, vi (Int32.ofNat xs.length)] [(.int 1)])
 refine gu X9 hx hby d60_89 ((if0 _ _).trans (feq (by decide : ¬ ((1 : Int32) = (0 : Int32)))).1) ?_
 refine gA X9 hx hby d60_92 rfl rfl rfl ?_
 refine gA X9 hx hby d60_93 rfl rfl rfl ?_
 refine gN X9 hx hby d60_94 rfl rfl ?_
 refine gB X9 hx hby d60_95 ?_
 refine cS X9 hx hZ hw hown hby hml e9 mN59 136 137 138 2 0 (rm_atc l Z a0 hw [] a xs b kb (8 : Int32) 8 cz fo h0 n0 Z0 T_a V_b h15 sgC hcz sgF r_fo sgA sgH sgL (by decide)) d60_97 (lenOf own_pd42 rfl) N9 (fun T10 L10 X10 e10 N10 => ?_)
 show GG (fT T10 m 100 #[vr a, vr b, vi (Int32.ofNat xs.length)] [(.int 1)])
 refine gu X10 hx hby d60_100 ((if0 _ _).trans (feq (by decide : ¬ ((1 : Int32) = (0 : Int32)))).1) ?_
 refine gA X10 hx hby d60_103 rfl rfl rfl ?_
 refine gA X10 hx hby d60_104 rfl rfl rfl ?_
 refine gN X10 hx hby d60_105 rfl rfl ?_
 refine gB X10 hx hby d60_106 ?_
 refine cS X10 hx hZ hw hown hby hml e10 mN59 136 137 138 2 0 (rm_atc l Z a0 hw [] a xs b kb (9 : Int32) 9 cz fo h0 n0 Z0 T_a V_b h15 sgC hcz sgF r_fo sgA sgH sgL (by decide)) d60_108 (lenOf own_pd42 rfl) N10 (fun T11 L11 X11 e11 N11 => ?_)
 show GG (fT T11 m 111 #[vr a, vr b, vi (Int32.ofNat xs.length)] [(.int 1)])
 refine gu X11 hx hby d60_111 ((if0 _ _).trans (feq (by decide : ¬ ((1 : Int32) = (0 : Int32)))).1) ?_
 refine gA X11 hx hby d60_114 rfl rfl rfl ?_
 refine gA X11 hx hby d60_115 rfl rfl rfl ?_
 refine gN X11 hx hby d60_116 rfl rfl ?_
 refine gB X11 hx hby d60_117 ?_
 refine cS X11 hx hZ hw hown hby hml e11 mN59 136 137 138 2 0 (rm_atc l Z a0 hw [] a xs b kb (10 : Int32) 10 cz fo h0 n0 Z0 T_a V_b h15 sgC hcz sgF r_fo sgA sgH sgL (by decide)) d60_119 (lenOf own_pd42 rfl) N11 (fun T12 L12 X12 e12 N12 => ?_)
 show GG (fT T12 m 122 #[vr a, vr b, vi (Int32.ofNat xs.length)] [(.int 1)])
 refine gu X12 hx hby d60_122 ((if0 _ _).trans (feq (by decide : ¬ ((1 : Int32) = (0 : Int32)))).1) ?_
 refine gA X12 hx hby d60_125 rfl rfl rfl ?_
 refine gA X12 hx hby d60_126 rfl rfl rfl ?_
 refine gN X12 hx hby d60_127 rfl rfl ?_
 refine gB X12 hx hby d60_128 ?_
 refine cS X12 hx hZ hw hown hby hml e12 mN59 136 137 138 2 0 (rm_atc l Z a0 hw [] a xs b kb (11 : Int32) 11 cz fo h0 n0 Z0 T_a V_b h15 sgC hcz sgF r_fo sgA sgH sgL (by decide)) d60_130 (lenOf own_pd42 rfl) N12 (fun T13 L13 X13 e13 N13 => ?_)
 show GG (fT T13 m 133 #[vr a, vr b, vi (Int32.ofNat xs.length)] [(.int 1)])
 refine gu X13 hx hby d60_133 ((if0 _ _).trans (feq (by decide : ¬ ((1 : Int32) = (0 : Int32)))).1) ?_
 refine gA X13 hx hby d60_136 rfl rfl rfl ?_
 refine gA X13 hx hby d60_137 rfl rfl rfl ?_
 refine gN X13 hx hby d60_138 rfl rfl ?_
 refine gB X13 hx hby d60_139 ?_
 refine cS X13 hx hZ hw hown hby hml e13 mN59 136 137 138 2 0 (rm_atc l Z a0 hw [] a xs b kb (12 : Int32) 12 cz fo h0 n0 Z0 T_a V_b h15 sgC hcz sgF r_fo sgA sgH sgL (by decide)) d60_141 (lenOf own_pd42 rfl) N13 (fun T14 L14 X14 e14 N14 => ?_)
 show GG (fT T14 m 144 #[vr a, vr b, vi (Int32.ofNat xs.length)] [(.int 1)])
 refine gu X14 hx hby d60_144 ((if0 _ _).trans (feq (by decide : ¬ ((1 : Int32) = (0 : Int32)))).1) ?_
 refine gA X14 hx hby d60_147 rfl rfl rfl ?_
 refine gA X14 hx hby d60_148 rfl rfl rfl ?_
 refine gN X14 hx hby d60_149 rfl rfl ?_
 refine gB X14 hx hby d60_150 ?_
 refine cS X14 hx hZ hw hown hby hml e14 mN59 136 137 138 2 0 (rm_atc l Z a0 hw [] a xs b kb (13 : Int32) 13 cz fo h0 n0 Z0 T_a V_b h15 sgC hcz sgF r_fo sgA sgH sgL (by decide)) d60_152 (lenOf own_pd42 rfl) N14 (fun T15 L15 X15 e15 N15 => ?_)
 show GG (fT T15 m 155 #[vr a, vr b, vi (Int32.ofNat xs.length)] [(.int 1)])
 refine gu X15 hx hby d60_155 ((if0 _ _).trans (feq (by decide : ¬ ((1 : Int32) = (0 : Int32)))).1) ?_
 refine gA X15 hx hby d60_158 rfl rfl rfl ?_
 refine gA X15 hx hby d60_159 rfl rfl rfl ?_
 refine gN X15 hx hby d60_160 rfl rfl ?_
 refine gB X15 hx hby d60_161 ?_
 refine cS X15 hx hZ hw hown hby hml e15 mN59 136 137 138 2 0 (rm_atc l Z a0 hw [] a xs b kb (14 : Int32) 14 cz fo h0 n0 Z0 T_a V_b h15 sgC hcz sgF r_fo sgA sgH sgL (by decide)) d60_163 (lenOf own_pd42 rfl) N15 (fun T16 L16 X16 e16 N16 => ?_)
 show GG (fT T16 m 166 #[vr a, vr b, vi (Int32.ofNat xs.length)] [(.int 1)])
 refine gu X16 hx hby d60_166 ((if0 _ _).trans (feq (by decide : ¬ ((1 : Int32) = (0 : Int32)))).1) ?_
 refine gC X16 hx hby d60_169 ?_
 refine gG X16 hx hby d60_170 170 174 ?_
 refine Goes.ret X16 (some (.int 1)) (fun h => by rw [hret] at h; cases h) hlk (by decide) (by decide) ?_ (fun fs hr => ?_)
 ·exact ⟨rfl, N16, e16⟩
 ·exact own_retN X16 hx (t := .boolean) hret (by simp) rfl (hb hby d60_174) hr
theorem own_pd43 : parseMethodDescriptor "(J)C" = some ⟨[.long], some .char⟩ := by decide +kernel
theorem own_pd44 : parseMethodDescriptor "(ICC)Ljava/lang/String;" = some ⟨[.int, .char, .char], some (.object "java/lang/String")⟩ := by decide +kernel
theorem own_pd45 : parseMethodDescriptor "([Ljava/lang/String;)Ljava/lang/String;" = some ⟨[(.array (.object "java/lang/String"))], some (.object "java/lang/String")⟩ := by decide +kernel
theorem own_pd46 : parseMethodDescriptor "(Ljava/lang/String;[CI)Z" = some ⟨[(.object "java/lang/String"), (.array .char), .int], some .boolean⟩ := by decide +kernel
theorem own_pd47 : parseMethodDescriptor "([CIICC)I" = some ⟨[(.array .char), .int, .int, .char, .char], some .int⟩ := by decide +kernel
theorem own_ef_rm_law (m : MethodId) (x0 : Int32) (x1 : Int64) (x2 : Int64) (x3 : Int64) : entryFrame m #[(.int x0), (.long x1), (.long x2), (.long x3)] maxLocals = mkF m 0 #[vi x0, vj x1, vS, vj x2, vS, vj x3, vS, vu, vu, vu, vu, vu, vu, vu, vu, vu, vu, vu, vu, vu, vu, vu, vu] [] := by first | (simp [entryFrame, mkF, argsToLocals, Value.category, maxLocals]; done) | rfl
def Q_rm_law (Z : State) (x0 : Int32) (x1 : Int64) (x2 : Int64) (x3 : Int64) (cz : Int32) (fo : Value) (h0 : Heap) (n0 : Nat) (v : Option Value) (h : Heap) (L : List Loc) : Prop := v = some (.int 1) ∧ Fr n0 L
theorem rm_law (l : Launch) (Z : State) (a0 : Array Value) (hw : HW a0 Z) (ws : List Jvm.Cond) (x0 : Int32) (x1 : Int64) (x2 : Int64) (x3 : Int64) (cz : Int32) (fo : Value) (h0 : Heap) (n0 : Nat) (Z0 : n0 ≤ h0.size) (sgC : Sta Z h0 "java/lang/String" "COMPACT_STRINGS" "Z" (.int cz)) (hcz : ¬ (cz = 0)) (sgF : Sta Z h0 "jdk/internal/util/Preconditions" "SIOOBE_FORMATTER" "Ljava/util/function/BiFunction;" fo) (r_fo : fo.isRef = true) (sgA : Sta Z h0 "java/lang/StringUTF16" "$assertionsDisabled" "Z" (.int 1)) (sgH : Sta Z h0 "java/lang/StringUTF16" "HI_BYTE_SHIFT" "I" (.int 0)) (sgL : Sta Z h0 "java/lang/StringUTF16" "LO_BYTE_SHIFT" "I" (.int 8)) :
  MetH l Z x code maxLocals ret room_1 ws #[(.int x0), (.long x1), (.long x2), (.long x3)] h0 (Q_rm_law Z x0 x1 x2 x3 cz fo h0 n0) := by
 refine own_metH (plainFor_of_name own_pn8) ?_
 intro p e s m below meth c s₁ hret hx hby hlk hml hown hnm X0 e0 hZ hh hC0
 have N0 := Fr.nil n0
 have hS : s.Since s.vm h0.size := (State.WarmedH.refl s).since _
 have hk : h0.size ≤ h0.size := Nat.le_refl _
 replace hZ : Z.Warmed39 (s.setVm s.vm).vm := hZ
 have hR : CHr Z consts_1 s.vm h0 s.vm h0 := CHr.refl hC0
 refine Gz (castTop (own_ef_rm_law m x0 x1 x2 x3)) ?_
 show GG (fT s₁ m 0 #[vi x0, vj x1, vS, vj x2, vS, vj x3, vS, vu, vu, vu, vu, vu, vu, vu, vu, vu, vu, vu, vu, vu, vu, vu, vu] [])
 refine gN X0 hx hby at_0 rfl rfl ?_
 refine gC X0 hx hby at_1 ?_
 show GG (fT s₁ m 2 #[vi x0, vj x1, vS, vj x2, vS, vj x3, vS, vu, vu, vu, vu, vu, vu, vu, vu, vu, vu, vu, vu, vu, vu, vu, vu] [(.int 3), (.int x0)])
 refine Gz (XS.iand X0.here hx rfl (hb hby at_2) rfl) ?_
 show GG (fT s₁ m 3 #[vi x0, vj x1, vS, vj x2, vS, vj x3, vS, vu, vu, vu, vu, vu, vu, vu, vu, vu, vu, vu, vu, vu, vu, vu, vu] [(.int (x0 &&& 3))])
 generalize hnn : (x0 &&& 3) = nn
 show GG (fT s₁ m 3 #[vi x0, vj x1, vS, vj x2, vS, vj x3, vS, vu, vu, vu, vu, vu, vu, vu, vu, vu, vu, vu, vu, vu, vu, vu, vu] [(.int nn)])
 refine gS X0 hx hby at_3 #[vi x0, vj x1, vS, vj x2, vS, vj x3, vS, vi nn, vu, vu, vu, vu, vu, vu, vu, vu, vu, vu, vu, vu, vu, vu, vu] ?_
 refine gN X0 hx hby at_5 rfl rfl ?_
 refine gC X0 hx hby at_6 ?_
 show GG (fT s₁ m 7 #[vi x0, vj x1, vS, vj x2, vS, vj x3, vS, vi nn, vu, vu, vu, vu, vu, vu, vu, vu, vu, vu, vu, vu, vu, vu, vu] [(.int 2), (.int x0)])
 refine Gz (XS.iushr X0.here hx rfl (hb hby at_7) rfl) ?_
 show GG (fT s₁ m 8 #[vi x0, vj x1, vS, vj x2, vS, vj x3, vS, vi nn, vu, vu, vu, vu, vu, vu, vu, vu, vu, vu, vu, vu, vu, vu, vu] [(.int ((x0.toUInt32 >>> ((2 : Int32) &&& 31).toUInt32).toInt32))])
 refine gC X0 hx hby at_8 ?_
 show GG (fT s₁ m 9 #[vi x0, vj x1, vS, vj x2, vS, vj x3, vS, vi nn, vu, vu, vu, vu, vu, vu, vu, vu, vu, vu, vu, vu, vu, vu, vu] [(.int 3), (.int ((x0.toUInt32 >>> ((2 : Int32) &&& 31).toUInt32).toInt32))])
 refine Gz (XS.iand X0.here hx rfl (hb hby at_9) rfl) ?_
 show GG (fT s₁ m 10 #[vi x0, vj x1, vS, vj x2, vS, vj x3, vS, vi nn, vu, vu, vu, vu, vu, vu, vu, vu, vu, vu, vu, vu, vu, vu, vu] [(.int (((x0.toUInt32 >>> ((2 : Int32) &&& 31).toUInt32).toInt32) &&& (3 : Int32)))])
 refine gC X0 hx hby at_10 ?_
 show GG (fT s₁ m 11 #[vi x0, vj x1, vS, vj x2, vS, vj x3, vS, vi nn, vu, vu, vu, vu, vu, vu, vu, vu, vu, vu, vu, vu, vu, vu, vu] [(.int 3), (.int (((x0.toUInt32 >>> ((2 : Int32) &&& 31).toUInt32).toInt32) &&& (3 : Int32)))])
 refine Gz (XS.irem X0.here hx rfl (hb hby at_11) rfl (by decide)) ?_
 rw [Jvm.irem_eq_mod]
 show GG (fT s₁ m 12 #[vi x0, vj x1, vS, vj x2, vS, vj x3, vS, vi nn, vu, vu, vu, vu, vu, vu, vu, vu, vu, vu, vu, vu, vu, vu, vu] [(.int ((((x0.toUInt32 >>> ((2 : Int32) &&& 31).toUInt32).toInt32) &&& (3 : Int32)) % 3))])
 have hq0 := own_r3 ((x0.toUInt32 >>> ((2 : Int32) &&& 31).toUInt32).toInt32)
 generalize ((((x0.toUInt32 >>> ((2 : Int32) &&& 31).toUInt32).toInt32) &&& (3 : Int32)) % 3) = q0 at hq0 ⊢
 show GG (fT s₁ m 12 #[vi x0, vj x1, vS, vj x2, vS, vj x3, vS, vi nn, vu, vu, vu, vu, vu, vu, vu, vu, vu, vu, vu, vu, vu, vu, vu] [(.int q0)])
 refine gS X0 hx hby at_12 #[vi x0, vj x1, vS, vj x2, vS, vj x3, vS, vi nn, vi q0, vu, vu, vu, vu, vu, vu, vu, vu, vu, vu, vu, vu, vu, vu] ?_
 refine gN X0 hx hby at_14 rfl rfl ?_
 refine gC X0 hx hby at_15 ?_
 show GG (fT s₁ m 16 #[vi x0, vj x1, vS, vj x2, vS, vj x3, vS, vi nn, vi q0, vu, vu, vu, vu, vu, vu, vu, vu, vu, vu, vu, vu, vu, vu] [(.int 4), (.int x0)])
 refine Gz (XS.iushr X0.here hx rfl (hb hby at_16) rfl) ?_
 show GG (fT s₁ m 17 #[vi x0, vj x1, vS, vj x2, vS, vj x3, vS, vi nn, vi q0, vu, vu, vu, vu, vu, vu, vu, vu, vu, vu, vu, vu, vu, vu] [(.int ((x0.toUInt32 >>> ((4 : Int32) &&& 31).toUInt32).toInt32))])
 refine gC X0 hx hby at_17 ?_
 show GG (fT s₁ m 18 #[vi x0, vj x1, vS, vj x2, vS, vj x3, vS, vi nn, vi q0, vu, vu, vu, vu, vu, vu, vu, vu, vu, vu, vu, vu, vu, vu] [(.int 3), (.int ((x0.toUInt32 >>> ((4 : Int32) &&& 31).toUInt32).toInt32))])
 refine Gz (XS.iand X0.here hx rfl (hb hby at_18) rfl) ?_
 show GG (fT s₁ m 19 #[vi x0, vj x1, vS, vj x2, vS, vj x3, vS, vi nn, vi q0, vu, vu, vu, vu, vu, vu, vu, vu, vu, vu, vu, vu, vu, vu] [(.int (((x0.toUInt32 >>> ((4 : Int32) &&& 31).toUInt32).toInt32) &&& (3 : Int32)))])
 refine gC X0 hx hby at_19 ?_
 show GG (fT s₁ m 20 #[vi x0, vj x1, vS, vj x2, vS, vj x3, vS, vi nn, vi q0, vu, vu, vu, vu, vu, vu, vu, vu, vu, vu, vu, vu, vu, vu] [(.int 3), (.int (((x0.toUInt32 >>> ((4 : Int32) &&& 31).toUInt32).toInt32) &&& (3 : Int32)))])
 refine Gz (XS.irem X0.here hx rfl (hb hby at_20) rfl (by decide)) ?_
 rw [Jvm.irem_eq_mod]
 show GG (fT s₁ m 21 #[vi x0, vj x1, vS, vj x2, vS, vj x3, vS, vi nn, vi q0, vu, vu, vu, vu, vu, vu, vu, vu, vu, vu, vu, vu, vu, vu] [(.int ((((x0.toUInt32 >>> ((4 : Int32) &&& 31).toUInt32).toInt32) &&& (3 : Int32)) % 3))])
 have hq1 := own_r3 ((x0.toUInt32 >>> ((4 : Int32) &&& 31).toUInt32).toInt32)
 generalize ((((x0.toUInt32 >>> ((4 : Int32) &&& 31).toUInt32).toInt32) &&& (3 : Int32)) % 3) = q1 at hq1 ⊢
 show GG (fT s₁ m 21 #[vi x0, vj x1, vS, vj x2, vS, vj x3, vS, vi nn, vi q0, vu, vu, vu, vu, vu, vu, vu, vu, vu, vu, vu, vu, vu, vu] [(.int q1)])
 refine gS X0 hx hby at_21 #[vi x0, vj x1, vS, vj x2, vS, vj x3, vS, vi nn, vi q0, vi q1, vu, vu, vu, vu, vu, vu, vu, vu, vu, vu, vu, vu, vu] ?_
 refine gN X0 hx hby at_23 rfl rfl ?_
 refine gB X0 hx hby at_24 ?_
 show GG (fT s₁ m 26 #[vi x0, vj x1, vS, vj x2, vS, vj x3, vS, vi nn, vi q0, vi q1, vu, vu, vu, vu, vu, vu, vu, vu, vu, vu, vu, vu, vu] [(.int 6), (.int x0)])
 refine Gz (XS.iushr X0.here hx rfl (hb hby at_26) rfl) ?_
 show GG (fT s₁ m 27 #[vi x0, vj x1, vS, vj x2, vS, vj x3, vS, vi nn, vi q0, vi q1, vu, vu, vu, vu, vu, vu, vu, vu, vu, vu, vu, vu, vu] [(.int ((x0.toUInt32 >>> ((6 : Int32) &&& 31).toUInt32).toInt32))])
 refine gC X0 hx hby at_27 ?_
 show GG (fT s₁ m 28 #[vi x0, vj x1, vS, vj x2, vS, vj x3, vS, vi nn, vi q0, vi q1, vu, vu, vu, vu, vu, vu, vu, vu, vu, vu, vu, vu, vu] [(.int 3), (.int ((x0.toUInt32 >>> ((6 : Int32) &&& 31).toUInt32).toInt32))])
 refine Gz (XS.iand X0.here hx rfl (hb hby at_28) rfl) ?_
 show GG (fT s₁ m 29 #[vi x0, vj x1, vS, vj x2, vS, vj x3, vS, vi nn, vi q0, vi q1, vu, vu, vu, vu, vu, vu, vu, vu, vu, vu, vu, vu, vu] [(.int (((x0.toUInt32 >>> ((6 : Int32) &&& 31).toUInt32).toInt32) &&& (3 : Int32)))])
 refine gC X0 hx hby at_29 ?_
 show GG (fT s₁ m 30 #[vi x0, vj x1, vS, vj x2, vS, vj x3, vS, vi nn, vi q0, vi q1, vu, vu, vu, vu, vu, vu, vu, vu, vu, vu, vu, vu, vu] [(.int 3), (.int (((x0.toUInt32 >>> ((6 : Int32) &&& 31).toUInt32).toInt32) &&& (3 : Int32)))])
 refine Gz (XS.irem X0.here hx rfl (hb hby at_30) rfl (by decide)) ?_
 rw [Jvm.irem_eq_mod]
 show GG (fT s₁ m 31 #[vi x0, vj x1, vS, vj x2, vS, vj x3, vS, vi nn, vi q0, vi q1, vu, vu, vu, vu, vu, vu, vu, vu, vu, vu, vu, vu, vu] [(.int ((((x0.toUInt32 >>> ((6 : Int32) &&& 31).toUInt32).toInt32) &&& (3 : Int32)) % 3))])
 have hq2 := own_r3 ((x0.toUInt32 >>> ((6 : Int32) &&& 31).toUInt32).toInt32)
 generalize ((((x0.toUInt32 >>> ((6 : Int32) &&& 31).toUInt32).toInt32) &&& (3 : Int32)) % 3) = q2 at hq2 ⊢
 show GG (fT s₁ m 31 #[vi x0, vj x1, vS, vj x2, vS, vj x3, vS, vi nn, vi q0, vi q1, vu, vu, vu, vu, vu, vu, vu, vu, vu, vu, vu, vu, vu] [(.int q2)])
 refine gS X0 hx hby at_31 #[vi x0, vj x1, vS, vj x2, vS, vj x3, vS, vi nn, vi q0, vi q1, vi q2, vu, vu, vu, vu, vu, vu, vu, vu, vu, vu, vu, vu] ?_
 refine Gz (XS.lloadN X0.here hx rfl (hb hby at_33) rfl) ?_
 refine cSg X0 hx hZ hw hown hby hml e0 mN55 0 1 3 2 0 (rm_pick l Z a0 hw [] x1 h0 n0 Z0) at_34 (lenOf own_pd43 rfl) (fun _ T1 L1 X1 hQ1 => ?_)
 obtain ⟨r1, rfl, N1q, e1, hCp_1⟩ := hQ1
 have N1 := Fr.app N0 N1q
 show GG (fT T1 m 37 #[vi x0, vj x1, vS, vj x2, vS, vj x3, vS, vi nn, vi q0, vi q1, vi q2, vu, vu, vu, vu, vu, vu, vu, vu, vu, vu, vu, vu] [(.int r1)])
 refine gS X1 hx hby at_37 #[vi x0, vj x1, vS, vj x2, vS, vj x3, vS, vi nn, vi q0, vi q1, vi q2, vi r1, vu, vu, vu, vu, vu, vu, vu, vu, vu, vu, vu] ?_
 refine Gz (XS.lloadN X1.here hx rfl (hb hby at_39) rfl) ?_
 refine gB X1 hx hby at_40 ?_
 show GG (fT T1 m 42 #[vi x0, vj x1, vS, vj x2, vS, vj x3, vS, vi nn, vi q0, vi q1, vi q2, vi r1, vu, vu, vu, vu, vu, vu, vu, vu, vu, vu, vu] [(.int 32), (.long x1)])
 refine Gz (XS.lushr X1.here hx rfl (hb hby at_42) rfl) ?_
 show GG (fT T1 m 43 #[vi x0, vj x1, vS, vj x2, vS, vj x3, vS, vi nn, vi q0, vi q1, vi q2, vi r1, vu, vu, vu, vu, vu, vu, vu, vu, vu, vu, vu] [(.long ((x1.toUInt64 >>> ((32 : Int32) &&& 0x3f).toInt64.toUInt64).toInt64))])
 refine cSg X1 hx hZ hw hown hby hml e1 mN55 0 1 3 2 0 (rm_pick l Z a0 hw [] ((x1.toUInt64 >>> ((32 : Int32) &&& 0x3f).toInt64.toUInt64).toInt64) h0 n0 Z0) at_43 (lenOf own_pd43 rfl) (fun _ T2 L2 X2 hQ2 => ?_)
 obtain ⟨r2, rfl, N2q, e2, hCp_2⟩ := hQ2
 have N2 := Fr.app N1 N2q
 show GG (fT T2 m 46 #[vi x0, vj x1, vS, vj x2, vS, vj x3, vS, vi nn, vi q0, vi q1, vi q2, vi r1, vu, vu, vu, vu, vu, vu, vu, vu, vu, vu, vu] [(.int r2)])
 refine gS X2 hx hby at_46 #[vi x0, vj x1, vS, vj x2, vS, vj x3, vS, vi nn, vi q0, vi q1, vi q2, vi r1, vi r2, vu, vu, vu, vu, vu, vu, vu, vu, vu, vu] ?_
 refine Gz (XS.lloadN X2.here hx rfl (hb hby at_48) rfl) ?_
 refine cSg X2 hx hZ hw hown hby hml e2 mN55 0 1 3 2 0 (rm_pick l Z a0 hw [] x2 h0 n0 Z0) at_49 (lenOf own_pd43 rfl) (fun _ T3 L3 X3 hQ3 => ?_)
 obtain ⟨r3, rfl, N3q, e3, hCp_3⟩ := hQ3
 have N3 := Fr.app N2 N3q
 show GG (fT T3 m 52 #[vi x0, vj x1, vS, vj x2, vS, vj x3, vS, vi nn, vi q0, vi q1, vi q2, vi r1, vi r2, vu, vu, vu, vu, vu, vu, vu, vu, vu, vu] [(.int r3)])
 refine gS X3 hx hby at_52 #[vi x0, vj x1, vS, vj x2, vS, vj x3, vS, vi nn, vi q0, vi q1, vi q2, vi r1, vi r2, vi r3, vu, vu, vu, vu, vu, vu, vu, vu, vu] ?_
 refine Gz (XS.lloadN X3.here hx rfl (hb hby at_54) rfl) ?_
 refine gB X3 hx hby at_55 ?_
 show GG (fT T3 m 57 #[vi x0, vj x1, vS, vj x2, vS, vj x3, vS, vi nn, vi q0, vi q1, vi q2, vi r1, vi r2, vi r3, vu, vu, vu, vu, vu, vu, vu, vu, vu] [(.int 32), (.long x2)])
 refine Gz (XS.lushr X3.here hx rfl (hb hby at_57) rfl) ?_
 show GG (fT T3 m 58 #[vi x0, vj x1, vS, vj x2, vS, vj x3, vS, vi nn, vi q0, vi q1, vi q2, vi r1, vi r2, vi r3, vu, vu, vu, vu, vu, vu, vu, vu, vu] [(.long ((x2.toUInt64 >>> ((32 : Int32) &&& 0x3f).toInt64.toUInt64).toInt64))])
 refine cSg X3 hx hZ hw hown hby hml e3 mN55 0 1 3 2 0 (rm_pick l Z a0 hw [] ((x2.toUInt64 >>> ((32 : Int32) &&& 0x3f).toInt64.toUInt64).toInt64) h0 n0 Z0) at_58 (lenOf own_pd43 rfl) (fun _ T4 L4 X4 hQ4 => ?_)
 obtain ⟨r4, rfl, N4q, e4, hCp_4⟩ := hQ4
 have N4 := Fr.app N3 N4q
 show GG (fT T4 m 61 #[vi x0, vj x1, vS, vj x2, vS, vj x3, vS, vi nn, vi q0, vi q1, vi q2, vi r1, vi r2, vi r3, vu, vu, vu, vu, vu, vu, vu, vu, vu] [(.int r4)])
 refine gS X4 hx hby at_61 #[vi x0, vj x1, vS, vj x2, vS, vj x3, vS, vi nn, vi q0, vi q1, vi q2, vi r1, vi r2, vi r3, vi r4, vu, vu, vu, vu, vu, vu, vu, vu] ?_
 refine Gz (XS.lload X4.here hx rfl (hb hby at_63) rfl) ?_
 refine cSg X4 hx hZ hw hown hby hml e4 mN55 0 1 3 2 0 (rm_pick l Z a0 hw [] x3 h0 n0 Z0) at_65 (lenOf own_pd43 rfl) (fun _ T5 L5 X5 hQ5 => ?_)
 obtain ⟨r5, rfl, N5q, e5, hCp_5⟩ := hQ5
 have N5 := Fr.app N4 N5q
 show GG (fT T5 m 68 #[vi x0, vj x1, vS, vj x2, vS, vj x3, vS, vi nn, vi q0, vi q1, vi q2, vi r1, vi r2, vi r3, vi r4, vu, vu, vu, vu, vu, vu, vu, vu] [(.int r5)])
 refine gS X5 hx hby at_68 #[vi x0, vj x1, vS, vj x2, vS, vj x3, vS, vi nn, vi q0, vi q1, vi q2, vi r1, vi r2, vi r3, vi r4, vi r5, vu, vu, vu, vu, vu, vu, vu] ?_
 refine Gz (XS.lload X5.here hx rfl (hb hby at_70) rfl) ?_
 refine gB X5 hx hby at_72 ?_
 show GG (fT T5 m 74 #[vi x0, vj x1, vS, vj x2, vS, vj x3, vS, vi nn, vi q0, vi q1, vi q2, vi r1, vi r2, vi r3, vi r4, vi r5, vu, vu, vu, vu, vu, vu, vu] [(.int 32), (.long x3)])
 refine Gz (XS.lushr X5.here hx rfl (hb hby at_74) rfl) ?_
 show GG (fT T5 m 75 #[vi x0, vj x1, vS, vj x2, vS, vj x3, vS, vi nn, vi q0, vi q1, vi q2, vi r1, vi r2, vi r3, vi r4, vi r5, vu, vu, vu, vu, vu, vu, vu] [(.long ((x3.toUInt64 >>> ((32 : Int32) &&& 0x3f).toInt64.toUInt64).toInt64))])
 refine cSg X5 hx hZ hw hown hby hml e5 mN55 0 1 3 2 0 (rm_pick l Z a0 hw [] ((x3.toUInt64 >>> ((32 : Int32) &&& 0x3f).toInt64.toUInt64).toInt64) h0 n0 Z0) at_75 (lenOf own_pd43 rfl) (fun _ T6 L6 X6 hQ6 => ?_)
 obtain ⟨r6, rfl, N6q, e6, hCp_6⟩ := hQ6
 have N6 := Fr.app N5 N6q
 show GG (fT T6 m 78 #[vi x0, vj x1, vS, vj x2, vS, vj x3, vS, vi nn, vi q0, vi q1, vi q2, vi r1, vi r2, vi r3, vi r4, vi r5, vu, vu, vu, vu, vu, vu, vu] [(.int r6)])
 refine gS X6 hx hby at_78 #[vi x0, vj x1, vS, vj x2, vS, vj x3, vS, vi nn, vi q0, vi q1, vi q2, vi r1, vi r2, vi r3, vi r4, vi r5, vi r6, vu, vu, vu, vu, vu, vu] ?_
 refine gI X6 hx hby at_80 rfl rfl ?_
 refine gI X6 hx hby at_82 rfl rfl ?_
 refine gI X6 hx hby at_84 rfl rfl ?_
 obtain ⟨_, _, ⟨T7, L7, k7, n7⟩, -, X7, hS7, gr7, ⟨Lc7, hQ7, l7, y7, z7, hC7⟩, st7⟩ := callSS X6 hx (y := mN56) hown (gz hZ hw 4 rfl) (gz hZ hw 5 rfl) (gz hZ hw 2 rfl) (gz hZ hw 6 rfl) (by decide) (backOfSH (W := 0) (rm_fi l Z a0 hw [] q0 r1 r2 cz h0 n0 Z0 hCp_1 hCp_2 sgC hcz sgA sgH sgL) hZ (gw hw 6 rfl) (gw hw 2 rfl) (by decide) (by decide) (own_EW hw) hR.1) (g := (mkF m 86 #[vi x0, vj x1, vS, vj x2, vS, vj x3, vS, vi nn, vi q0, vi q1, vi q2, vi r1, vi r2, vi r3, vi r4, vi r5, vi r6, vu, vu, vu, vu, vu, vu] [(.int r2), (.int r1), (.int q0)])) rfl hml.symm (argsL := [(.int q0), (.int r1), (.int r2)]) (rest := []) (lenOf own_pd44 rfl) rfl (wz rfl) (hb hby at_86) (fun _ _ => ⟨rfl, e6, (by decide : 0 + 6 ≤ _), (by decide : 0 + 12 ≤ _)⟩)
 dsimp only [Pt.U, Pt.locs, Pt.cells, Pt.slots] at X7 l7 y7 z7 st7 hQ7 hS7 gr7 hC7
 subst l7 y7 z7
 obtain ⟨X7, hS, hZ, hown⟩ := rebS hS hk X7 hS7 (by have q := gr7; rw [e6] at q; exact q) hZ hown
 replace hk : T7.heap.size ≤ T7.heap.size := Nat.le_refl _
 obtain ⟨u7, rfl, N7q, K7, T_u7_7'⟩ := hQ7
 have N7 := Fr.app N6 N7q
 replace hR := hR.trans hC7
 replace sgC := own_staK sgC K7 all0
 replace sgF := own_staK sgF K7 all0
 replace sgA := own_staK sgA K7 all0
 replace sgH := own_staK sgH K7 all0
 replace sgL := own_staK sgL K7 all0
 replace Z0 := Nat.le_trans Z0 K7.1
 have T_u7 := T_u7_7'
 refine Gs (fun _ tk => st7.trans tk) ?_
 show GG (fT T7 m 89 #[vi x0, vj x1, vS, vj x2, vS, vj x3, vS, vi nn, vi q0, vi q1, vi q2, vi r1, vi r2, vi r3, vi r4, vi r5, vi r6, vu, vu, vu, vu, vu, vu] [(.ref u7)])
 have hE0 := own_flE q0 r1 r2
 refine Gz (XS.astore X7.here hx rfl (hb hby at_89) rfl rfl (l' := #[vi x0, vj x1, vS, vj x2, vS, vj x3, vS, vi nn, vi q0, vi q1, vi q2, vi r1, vi r2, vi r3, vi r4, vi r5, vi r6, vr u7, vu, vu, vu, vu, vu]) rfl) ?_
 refine gI X7 hx hby at_91 rfl rfl ?_
 refine gI X7 hx hby at_93 rfl rfl ?_
 refine gI X7 hx hby at_95 rfl rfl ?_
 obtain ⟨_, _, ⟨T8, L8, k8, n8⟩, -, X8, hS8, gr8, ⟨Lc8, hQ8, l8, y8, z8, hC8⟩, st8⟩ := callSS X7 hx (y := mN56) hown (gz hZ hw 4 rfl) (gz hZ hw 5 rfl) (gz hZ hw 2 rfl) (gz hZ hw 6 rfl) (by decide) (backOfSH (W := 0) (rm_fi l Z a0 hw [] q1 r3 r4 cz T7.heap n0 Z0 hCp_3 hCp_4 sgC hcz sgA sgH sgL) hZ (gw hw 6 rfl) (gw hw 2 rfl) (by decide) (by decide) (own_EW hw) hR.1) (g := (mkF m 97 #[vi x0, vj x1, vS, vj x2, vS, vj x3, vS, vi nn, vi q0, vi q1, vi q2, vi r1, vi r2, vi r3, vi r4, vi r5, vi r6, vr u7, vu, vu, vu, vu, vu] [(.int r4), (.int r3), (.int q1)])) rfl hml.symm (argsL := [(.int q1), (.int r3), (.int r4)]) (rest := []) (lenOf own_pd44 rfl) rfl (wz rfl) (hb hby at_97) (fun _ _ => ⟨rfl, rfl, (by decide : 6 + 6 ≤ _), (by decide : 12 + 12 ≤ _)⟩)
 dsimp only [Pt.U, Pt.locs, Pt.cells, Pt.slots] at X8 l8 y8 z8 st8 hQ8 hS8 gr8 hC8
 subst l8 y8 z8
 obtain ⟨X8, hS, hZ, hown⟩ := rebS hS hk X8 hS8 gr8 hZ hown
 replace hk : T8.heap.size ≤ T8.heap.size := Nat.le_refl _
 obtain ⟨u8, rfl, N8q, K8, T_u8_8'⟩ := hQ8
 have N8 := Fr.app N7 N8q
 replace hR := hR.trans hC8
 replace sgC := own_staK sgC K8 all0
 replace sgF := own_staK sgF K8 all0
 replace sgA := own_staK sgA K8 all0
 replace sgH := own_staK sgH K8 all0
 replace sgL := own_staK sgL K8 all0
 replace T_u7 := T_u7.keep K8 all0
 replace Z0 := Nat.le_trans Z0 K8.1
 have T_u8 := T_u8_8'
 refine Gs (fun _ tk => st8.trans tk) ?_
 show GG (fT T8 m 100 #[vi x0, vj x1, vS, vj x2, vS, vj x3, vS, vi nn, vi q0, vi q1, vi q2, vi r1, vi r2, vi r3, vi r4, vi r5, vi r6, vr u7, vu, vu, vu, vu, vu] [(.ref u8)])
 have hE1 := own_flE q1 r3 r4
 refine Gz (XS.astore X8.here hx rfl (hb hby at_100) rfl rfl (l' := #[vi x0, vj x1, vS, vj x2, vS, vj x3, vS, vi nn, vi q0, vi q1, vi q2, vi r1, vi r2, vi r3, vi r4, vi r5, vi r6, vr u7, vr u8, vu, vu, vu, vu]) rfl) ?_
 refine gI X8 hx hby at_102 rfl rfl ?_
 refine gI X8 hx hby at_104 rfl rfl ?_
 refine gI X8 hx hby at_106 rfl rfl ?_
 obtain ⟨_, _, ⟨T9, L9, k9, n9⟩, -, X9, hS9, gr9, ⟨Lc9, hQ9, l9, y9, z9, hC9⟩, st9⟩ := callSS X8 hx (y := mN56) hown (gz hZ hw 4 rfl) (gz hZ hw 5 rfl) (gz hZ hw 2 rfl) (gz hZ hw 6 rfl) (by decide) (backOfSH (W := 0) (rm_fi l Z a0 hw [] q2 r5 r6 cz T8.heap n0 Z0 hCp_5 hCp_6 sgC hcz sgA sgH sgL) hZ (gw hw 6 rfl) (gw hw 2 rfl) (by decide) (by decide) (own_EW hw) hR.1) (g := (mkF m 108 #[vi x0, vj x1, vS, vj x2, vS, vj x3, vS, vi nn, vi q0, vi q1, vi q2, vi r1, vi r2, vi r3, vi r4, vi r5, vi r6, vr u7, vr u8, vu, vu, vu, vu] [(.int r6), (.int r5), (.int q2)])) rfl hml.symm (argsL := [(.int q2), (.int r5), (.int r6)]) (rest := []) (lenOf own_pd44 rfl) rfl (wz rfl) (hb hby at_108) (fun _ _ => ⟨rfl, rfl, (by decide : 12 + 6 ≤ _), (by decide : 24 + 12 ≤ _)⟩)
 dsimp only [Pt.U, Pt.locs, Pt.cells, Pt.slots] at X9 l9 y9 z9 st9 hQ9 hS9 gr9 hC9
 subst l9 y9 z9
 obtain ⟨X9, hS, hZ, hown⟩ := rebS hS hk X9 hS9 gr9 hZ hown
 replace hk : T9.heap.size ≤ T9.heap.size := Nat.le_refl _
 obtain ⟨u9, rfl, N9q, K9, T_u9_9'⟩ := hQ9
 have N9 := Fr.app N8 N9q
 replace hR := hR.trans hC9
 replace sgC := own_staK sgC K9 all0
 replace sgF := own_staK sgF K9 all0
 replace sgA := own_staK sgA K9 all0
 replace sgH := own_staK sgH K9 all0
 replace sgL := own_staK sgL K9 all0
 replace T_u7 := T_u7.keep K9 all0
 replace T_u8 := T_u8.keep K9 all0
 replace Z0 := Nat.le_trans Z0 K9.1
 have T_u9 := T_u9_9'
 refine Gs (fun _ tk => st9.trans tk) ?_
 show GG (fT T9 m 111 #[vi x0, vj x1, vS, vj x2, vS, vj x3, vS, vi nn, vi q0, vi q1, vi q2, vi r1, vi r2, vi r3, vi r4, vi r5, vi r6, vr u7, vr u8, vu, vu, vu, vu] [(.ref u9)])
 have hE2 := own_flE q2 r5 r6
 refine Gz (XS.astore X9.here hx rfl (hb hby at_111) rfl rfl (l' := #[vi x0, vj x1, vS, vj x2, vS, vj x3, vS, vi nn, vi q0, vi q1, vi q2, vi r1, vi r2, vi r3, vi r4, vi r5, vi r6, vr u7, vr u8, vr u9, vu, vu, vu]) rfl) ?_
 show GG (fT T9 m 113 #[vi x0, vj x1, vS, vj x2, vS, vj x3, vS, vi nn, vi q0, vi q1, vi q2, vi r1, vi r2, vi r3, vi r4, vi r5, vi r6, vr u7, vr u8, vr u9, vu, vu, vu] [])
 obtain rfl | rfl | rfl | rfl : nn = 0 ∨ nn = 1 ∨ nn = 2 ∨ nn = 3 := by rw [← hnn]; exact own_n4 x0
 ·show GG (fT T9 m 113 #[vi x0, vj x1, vS, vj x2, vS, vj x3, vS, vi 0, vi q0, vi q1, vi q2, vi r1, vi r2, vi r3, vi r4, vi r5, vi r6, vr u7, vr u8, vr u9, vu, vu, vu] [])
  refine gI X9 hx hby at_113 rfl rfl ?_
  refine gu X9 hx hby at_115 ((if0 _ _).trans (teq (by decide : ((0 : Int32) = (0 : Int32)))).2) ?_
  refine gC X9 hx hby at_118 ?_
  obtain ⟨T10, h10, k10, X10, e10, E10, A10, AE10, O10, st10⟩ := newRE X9 hx hZ hown (gw hw 7 rfl) (gw hw 29 rfl) rfl (g := (mkF m 119 #[vi x0, vj x1, vS, vj x2, vS, vj x3, vS, vi 0, vi q0, vi q1, vi q2, vi r1, vi r2, vi r3, vi r4, vi r5, vi r6, vr u7, vr u8, vr u9, vu, vu, vu] [(.int 0)])) rfl (hb hby at_119) rfl (by decide) (cap := 0) (by decide) (by decide) (by decide) (by decide) rfl
  obtain ⟨b10, gq10⟩ : ∃ z, z = T9.heap.size := ⟨_, rfl⟩
  rw [← gq10] at A10 st10 AE10
  have g_b10 : n0 ≤ b10 := by rw [gq10]; exact Z0
  have ne_u7_b10 : u7 ≠ b10 := by rw [gq10]; exact Nat.ne_of_lt T_u7.lt
  have ne_u8_b10 : u8 ≠ b10 := by rw [gq10]; exact Nat.ne_of_lt T_u8.lt
  have ne_u9_b10 : u9 ≠ b10 := by rw [gq10]; exact Nat.ne_of_lt T_u9.lt
  replace hR := hR.trans (CHr.ext E10 hR.1)
  replace sgC := sgC.ext E10
  replace sgF := sgF.ext E10
  replace sgA := sgA.ext E10
  replace sgH := sgH.ext E10
  replace sgL := sgL.ext E10
  replace T_u7 := T_u7.ext E10
  replace T_u8 := T_u8.ext E10
  replace T_u9 := T_u9.ext E10
  replace Z0 : n0 ≤ h10.size := Nat.le_trans Z0 E10.1
  replace hk := Nat.le_trans hk E10.1
  have A_b10 : Exa Z h10 b10 "[Ljava/lang/String;" := AE10
  have V_b10 : Arv Z h10 b10 k10 (.object "java/lang/String") (0 : Int32) [] .null := (Arv.new A10 (by decide)).pad (pad_rep [] .null 0)
  refine Gs st10 ?_
  show GG (fT T10 m 122 #[vi x0, vj x1, vS, vj x2, vS, vj x3, vS, vi 0, vi q0, vi q1, vi q2, vi r1, vi r2, vi r3, vi r4, vi r5, vi r6, vr u7, vr u8, vr u9, vu, vu, vu] [(.ref b10)])
  obtain ⟨_, _, ⟨T11, L11, k11, n11⟩, -, X11, hS11, gr11, ⟨Lc11, hQ11, l11, y11, z11, hC11⟩, st11⟩ := callSS X10 hx (y := mN54) hown (gz hZ hw 30 rfl) (gz hZ hw 31 rfl) (gz hZ hw 32 rfl) (gz hZ hw 33 rfl) (by decide) (backOfSH (W := 0) (rm_ln0 l Z a0 hw [] b10 k10 cz fo h10 n0 Z0 V_b10 sgC hcz sgA sgH sgL sgF r_fo) hZ (gw hw 33 rfl) (gw hw 32 rfl) (by decide) (by decide) (own_EW hw) hR.1) (g := (mkF m 122 #[vi x0, vj x1, vS, vj x2, vS, vj x3, vS, vi 0, vi q0, vi q1, vi q2, vi r1, vi r2, vi r3, vi r4, vi r5, vi r6, vr u7, vr u8, vr u9, vu, vu, vu] [(.ref b10)])) rfl hml.symm (argsL := [(.ref b10)]) (rest := []) (lenOf own_pd45 rfl) rfl (wz rfl) (hb hby at_122) (fun _ _ => ⟨rfl, e10, (by decide : 19 + 5 ≤ _), (by decide : 36 + 88 ≤ _)⟩)
  dsimp only [Pt.U, Pt.locs, Pt.cells, Pt.slots] at X11 l11 y11 z11 st11 hQ11 hS11 gr11 hC11
  subst l11 y11 z11
  obtain ⟨X11, hS, hZ, hown⟩ := rebS hS hk X11 hS11 (by have q := gr11; rw [e10] at q; exact q) hZ hown
  replace hk : T11.heap.size ≤ T11.heap.size := Nat.le_refl _
  obtain ⟨u11, rfl, N11q, K11, T_u11_11'⟩ := hQ11
  have N11 := Fr.app N9 N11q
  replace hR := hR.trans hC11
  replace sgC := own_staK sgC K11 all0
  replace sgF := own_staK sgF K11 all0
  replace sgA := own_staK sgA K11 all0
  replace sgH := own_staK sgH K11 all0
  replace sgL := own_staK sgL K11 all0
  replace T_u7 := T_u7.keep K11 all0
  replace T_u8 := T_u8.keep K11 all0
  replace T_u9 := T_u9.keep K11 all0
  replace A_b10 := A_b10.keep K11
  replace Z0 := Nat.le_trans Z0 K11.1
  have T_u11 := T_u11_11'
  refine Gs (fun _ tk => st11.trans tk) ?_
  show GG (fT T11 m 125 #[vi x0, vj x1, vS, vj x2, vS, vj x3, vS, vi 0, vi q0, vi q1, vi q2, vi r1, vi r2, vi r3, vi r4, vi r5, vi r6, vr u7, vr u8, vr u9, vu, vu, vu] [(.ref u11)])
  refine Gz (XS.astore X11.here hx rfl (hb hby at_125) rfl rfl (l' := #[vi x0, vj x1, vS, vj x2, vS, vj x3, vS, vi 0, vi q0, vi q1, vi q2, vi r1, vi r2, vi r3, vi r4, vi r5, vi r6, vr u7, vr u8, vr u9, vr u11, vu, vu]) rfl) ?_
  refine gG X11 hx hby at_127 127 205 ?_
  refine gB X11 hx hby at_205 ?_
  obtain ⟨T12, h12, k12, X12, e12, E12, A12, st12⟩ := newP X11 hx hZ (gw hw 10 rfl) rfl (g := (mkF m 207 #[vi x0, vj x1, vS, vj x2, vS, vj x3, vS, vi 0, vi q0, vi q1, vi q2, vi r1, vi r2, vi r3, vi r4, vi r5, vi r6, vr u7, vr u8, vr u9, vr u11, vu, vu] [(.int 15)])) rfl (hb hby at_207) rfl (by decide) (cap := 15) (by decide) (by decide) (by decide) (by decide)
  obtain ⟨b12, gq12⟩ : ∃ z, z = T11.heap.size := ⟨_, rfl⟩
  rw [← gq12] at A12 st12
  have g_b12 : n0 ≤ b12 := by rw [gq12]; exact Z0
  have ne_u7_b12 : u7 ≠ b12 := by rw [gq12]; exact Nat.ne_of_lt T_u7.lt
  have ne_u8_b12 : u8 ≠ b12 := by rw [gq12]; exact Nat.ne_of_lt T_u8.lt
  have ne_u9_b12 : u9 ≠ b12 := by rw [gq12]; exact Nat.ne_of_lt T_u9.lt
  have ne_b10_b12 : b10 ≠ b12 := by rw [gq12]; exact Nat.ne_of_lt A_b10.lt
  have ne_u11_b12 : u11 ≠ b12 := by rw [gq12]; exact Nat.ne_of_lt T_u11.lt
  have Sf_b12 : Safe Z consts_1 T11.vm T11.heap b12 := Safe.new (Nat.le_of_eq gq12.symm)
  replace Sf_b12 := Safe.ext E12 hR.1 Sf_b12
  replace hR := hR.trans (CHr.ext E12 hR.1)
  replace sgC := sgC.ext E12
  replace sgF := sgF.ext E12
  replace sgA := sgA.ext E12
  replace sgH := sgH.ext E12
  replace sgL := sgL.ext E12
  replace T_u7 := T_u7.ext E12
  replace T_u8 := T_u8.ext E12
  replace T_u9 := T_u9.ext E12
  replace T_u11 := T_u11.ext E12
  replace Z0 : n0 ≤ h12.size := Nat.le_trans Z0 E12.1
  replace hk := Nat.le_trans hk E12.1
  have V_b12 : Arv Z h12 b12 k12 .char 15 [(.int 0), (.int 0), (.int 0), (.int 0), (.int 0), (.int 0), (.int 0), (.int 0), (.int 0), (.int 0), (.int 0), (.int 0), (.int 0), (.int 0), (.int 0)] (.int 0) := (Arv.new A12 (by decide)).pad (pad_rep [] (.int 0) 15)
  refine Gs st12 ?_
  show GG (fT T12 m 209 #[vi x0, vj x1, vS, vj x2, vS, vj x3, vS, vi 0, vi q0, vi q1, vi q2, vi r1, vi r2, vi r3, vi r4, vi r5, vi r6, vr u7, vr u8, vr u9, vr u11, vu, vu] [(.ref b12)])
  replace V_b12 := own_unp (n := 15) V_b12
  replace V_b12 : Arv Z h12 b12 k12 .char 15 (chV ([] : List Int32)) (.int 0) := V_b12
  refine Gz (XS.astore X12.here hx rfl (hb hby at_209) rfl rfl (l' := #[vi x0, vj x1, vS, vj x2, vS, vj x3, vS, vi 0, vi q0, vi q1, vi q2, vi r1, vi r2, vi r3, vi r4, vi r5, vi r6, vr u7, vr u8, vr u9, vr u11, vr b12, vu]) rfl) ?_
  refine gC X12 hx hby at_211 ?_
  refine gS X12 hx hby at_212 #[vi x0, vj x1, vS, vj x2, vS, vj x3, vS, vi 0, vi q0, vi q1, vi q2, vi r1, vi r2, vi r3, vi r4, vi r5, vi r6, vr u7, vr u8, vr u9, vr u11, vr b12, vi 0] ?_
  show GG (fT T12 m 214 #[vi x0, vj x1, vS, vj x2, vS, vj x3, vS, vi 0, vi q0, vi q1, vi q2, vi r1, vi r2, vi r3, vi r4, vi r5, vi r6, vr u7, vr u8, vr u9, vr u11, vr b12, vi (Int32.ofNat ([] : List Int32).length)] [])
  refine gI X12 hx hby at_214 rfl rfl ?_
  refine gC X12 hx hby at_216 ?_
  refine gY X12 hx hby at_217 217 235 (tlt (by decide : ((0 : Int32) < (1 : Int32)))).1 ?_
  refine gI X12 hx hby at_235 rfl rfl ?_
  refine gC X12 hx hby at_237 ?_
  refine gY X12 hx hby at_238 238 269 (tlt (by decide : ((0 : Int32) < (2 : Int32)))).1 ?_
  show GG (fT T12 m 269 #[vi x0, vj x1, vS, vj x2, vS, vj x3, vS, vi 0, vi q0, vi q1, vi q2, vi r1, vi r2, vi r3, vi r4, vi r5, vi r6, vr u7, vr u8, vr u9, vr u11, vr b12, vi (Int32.ofNat ([] : List Int32).length)] [])
  refine gI X12 hx hby at_269 rfl rfl ?_
  refine gC X12 hx hby at_271 ?_
  refine gY X12 hx hby at_272 272 303 (tlt (by decide : ((0 : Int32) < (3 : Int32)))).1 ?_
  refine Gz (XS.aload X12.here hx rfl (hb hby at_303) rfl rfl) ?_
  refine gI X12 hx hby at_305 rfl rfl ?_
  refine gB X12 hx hby at_307 ?_
  show GG (fT T12 m 309 #[vi x0, vj x1, vS, vj x2, vS, vj x3, vS, vi 0, vi q0, vi q1, vi q2, vi r1, vi r2, vi r3, vi r4, vi r5, vi r6, vr u7, vr u8, vr u9, vr u11, vr b12, vi (Int32.ofNat ([] : List Int32).length)] [(.int 10), (.int (Int32.ofNat ([] : List Int32).length)), (.ref b12)])
  replace V_b12 := own_padN V_b12 1
  have hzl309 : ([] : List Int32).length ≤ 14 := (by simp only [List.length_append, List.length_cons, List.length_nil]; omega)
  have nb_b12 := own_nbC V_b12
  obtain ⟨cl13, Ar13, q13, S13, N13z, H13, G13⟩ := V_b12
  have hin13 : ¬ ((Int32.ofNat ([] : List Int32).length) < 0 ∨ cl13.slots.size ≤ ((Int32.ofNat ([] : List Int32).length)).toNatClampNeg) := inb_of S13 ⟨(own_tnO (by omega)).2.1, (own_ltN (L := 15) (by omega) (by decide)).mpr (by omega)⟩
  obtain ⟨T13, h13, X13, e13, W13, st13⟩ := stC X12 hx hZ e12 Ar13 (j := (Int32.ofNat ([] : List Int32).length)) hin13 (g := (mkF m 309 #[vi x0, vj x1, vS, vj x2, vS, vj x3, vS, vi 0, vi q0, vi q1, vi q2, vi r1, vi r2, vi r3, vi r4, vi r5, vi r6, vr u7, vr u8, vr u9, vr u11, vr b12, vi (Int32.ofNat ([] : List Int32).length)] [(.int 10), (.int (Int32.ofNat ([] : List Int32).length)), (.ref b12)])) rfl rfl (hb hby at_309)
  have Vn13 := Arv.set Ar13 q13 S13 N13z H13 G13 (fits_nar_char _) W13 (([] : List Int32).length) (own_tnO (by omega)).1 (own_chP _)
  have N13 := Fr.snoc X13 N11 g_b12
  replace hR := hR.trans (CHr.wr W13 Sf_b12 hR.1)
  replace sgC := sgC.wr W13
  replace sgF := sgF.wr W13
  replace sgA := sgA.wr W13
  replace sgH := sgH.wr W13
  replace sgL := sgL.wr W13
  replace T_u7 := T_u7.wr W13 (Ne.symm ne_u7_b12) nb_b12
  replace T_u8 := T_u8.wr W13 (Ne.symm ne_u8_b12) nb_b12
  replace T_u9 := T_u9.wr W13 (Ne.symm ne_u9_b12) nb_b12
  replace T_u11 := T_u11.wr W13 (Ne.symm ne_u11_b12) nb_b12
  have V_b12 : Arv Z h13 b12 k12 .char 15 (chV (([] : List Int32) ++ [(10 : Int32)])) (.int 0) := own_arvE Vn13 (by rw [own_nc (⟨by decide, by decide⟩ : Chr (10 : Int32))]; exact own_chSetO ([] : List Int32) (10 : Int32))
  replace Z0 : n0 ≤ h13.size := by rw [W13.size]; exact Z0
  replace hk := Nat.le_trans hk (Nat.le_of_eq W13.size.symm)
  refine Gs st13 ?_
  show GG (fT T13 m 310 #[vi x0, vj x1, vS, vj x2, vS, vj x3, vS, vi 0, vi q0, vi q1, vi q2, vi r1, vi r2, vi r3, vi r4, vi r5, vi r6, vr u7, vr u8, vr u9, vr u11, vr b12, vi (Int32.ofNat ([] : List Int32).length)] [])
  refine gI X13 hx hby at_310 rfl rfl ?_
  refine gC X13 hx hby at_312 ?_
  show GG (fT T13 m 313 #[vi x0, vj x1, vS, vj x2, vS, vj x3, vS, vi 0, vi q0, vi q1, vi q2, vi r1, vi r2, vi r3, vi r4, vi r5, vi r6, vr u7, vr u8, vr u9, vr u11, vr b12, vi (Int32.ofNat ([] : List Int32).length)] [(.int 1), (.int (Int32.ofNat ([] : List Int32).length))])
  refine Gz (XS.iadd X13.here hx rfl (hb hby at_313) rfl) ?_
  show GG (fT T13 m 314 #[vi x0, vj x1, vS, vj x2, vS, vj x3, vS, vi 0, vi q0, vi q1, vi q2, vi r1, vi r2, vi r3, vi r4, vi r5, vi r6, vr u7, vr u8, vr u9, vr u11, vr b12, vi (Int32.ofNat ([] : List Int32).length)] [(.int ((Int32.ofNat ([] : List Int32).length) + 1))])
  rw [own_snoc ([] : List Int32) (10 : Int32)]
  show GG (fT T13 m 314 #[vi x0, vj x1, vS, vj x2, vS, vj x3, vS, vi 0, vi q0, vi q1, vi q2, vi r1, vi r2, vi r3, vi r4, vi r5, vi r6, vr u7, vr u8, vr u9, vr u11, vr b12, vi (Int32.ofNat ([] : List Int32).length)] [(.int (Int32.ofNat (([] : List Int32) ++ [(10 : Int32)]).length))])
  refine gS X13 hx hby at_314 #[vi x0, vj x1, vS, vj x2, vS, vj x3, vS, vi 0, vi q0, vi q1, vi q2, vi r1, vi r2, vi r3, vi r4, vi r5, vi r6, vr u7, vr u8, vr u9, vr u11, vr b12, vi (Int32.ofNat (([] : List Int32) ++ [(10 : Int32)]).length)] ?_
  refine Gz (XS.aload X13.here hx rfl (hb hby at_316) rfl rfl) ?_
  refine Gz (XS.aload X13.here hx rfl (hb hby at_318) rfl rfl) ?_
  refine gI X13 hx hby at_320 rfl rfl ?_
  refine cS X13 hx hZ hw hown hby hml e13 mN60 122 123 124 2 0 (rm_same l Z a0 hw [] u11 (([] : List Int32) ++ [(10 : Int32)]) b12 k12 cz fo h13 n0 Z0 T_u11 V_b12 (by simp only [List.length_append, List.length_cons, List.length_nil]; omega) sgC hcz sgF r_fo sgA sgH sgL) at_322 (lenOf own_pd46 rfl) N13 (fun T14 L14 X14 e14 N14 => ?_)
  show GG (fT T14 m 325 #[vi x0, vj x1, vS, vj x2, vS, vj x3, vS, vi 0, vi q0, vi q1, vi q2, vi r1, vi r2, vi r3, vi r4, vi r5, vi r6, vr u7, vr u8, vr u9, vr u11, vr b12, vi (Int32.ofNat (([] : List Int32) ++ [(10 : Int32)]).length)] [(.int 1)])
  refine Goes.retH X14 hS e14 hk hZ (own_EW hw) hh hR (some (.int 1)) (fun h => by rw [hret] at h; cases h) hlk (by decide) (by decide) ?_ (fun fs hr => ?_)
  ·rw [e14]; exact ⟨rfl, N14⟩
  ·exact own_retN X14 hx (t := .boolean) hret (by simp) rfl (hb hby at_325) hr
 ·show GG (fT T9 m 113 #[vi x0, vj x1, vS, vj x2, vS, vj x3, vS, vi 1, vi q0, vi q1, vi q2, vi r1, vi r2, vi r3, vi r4, vi r5, vi r6, vr u7, vr u8, vr u9, vu, vu, vu] [])
  refine gI X9 hx hby at_113 rfl rfl ?_
  refine gy X9 hx hby at_115 115 130 ((if0 _ _).trans (feq (by decide : ¬ ((1 : Int32) = (0 : Int32)))).2) ?_
  refine gI X9 hx hby at_130 rfl rfl ?_
  refine gC X9 hx hby at_132 ?_
  refine gU X9 hx hby at_133 (teq (by decide : ((1 : Int32) = (1 : Int32)))).2 ?_
  refine gC X9 hx hby at_136 ?_
  show GG (fT T9 m 137 #[vi x0, vj x1, vS, vj x2, vS, vj x3, vS, vi 1, vi q0, vi q1, vi q2, vi r1, vi r2, vi r3, vi r4, vi r5, vi r6, vr u7, vr u8, vr u9, vu, vu, vu] [(.int 1)])
  obtain ⟨T15, h15, k15, X15, e15, E15, A15, AE15, O15, st15⟩ := newRE X9 hx hZ hown (gw hw 7 rfl) (gw hw 29 rfl) rfl (g := (mkF m 137 #[vi x0, vj x1, vS, vj x2, vS, vj x3, vS, vi 1, vi q0, vi q1, vi q2, vi r1, vi r2, vi r3, vi r4, vi r5, vi r6, vr u7, vr u8, vr u9, vu, vu, vu] [(.int 1)])) rfl (hb hby at_137) rfl (by decide) (cap := 1) (by decide) (by decide) (by decide) (by decide) rfl
  obtain ⟨b15, gq15⟩ : ∃ z, z = T9.heap.size := ⟨_, rfl⟩
  rw [← gq15] at A15 st15 AE15
  have g_b15 : n0 ≤ b15 := by rw [gq15]; exact Z0
  have ne_u7_b15 : u7 ≠ b15 := by rw [gq15]; exact Nat.ne_of_lt T_u7.lt
  have ne_u8_b15 : u8 ≠ b15 := by rw [gq15]; exact Nat.ne_of_lt T_u8.lt
  have ne_u9_b15 : u9 ≠ b15 := by rw [gq15]; exact Nat.ne_of_lt T_u9.lt
  have Sf_b15 : Safe Z consts_1 T9.vm T9.heap b15 := Safe.new (Nat.le_of_eq gq15.symm)
  replace Sf_b15 := Safe.ext E15 hR.1 Sf_b15
  replace hR := hR.trans (CHr.ext E15 hR.1)
  replace sgC := sgC.ext E15
  replace sgF := sgF.ext E15
  replace sgA := sgA.ext E15
  replace sgH := sgH.ext E15
  replace sgL := sgL.ext E15
  replace T_u7 := T_u7.ext E15
  replace T_u8 := T_u8.ext E15
  replace T_u9 := T_u9.ext E15
  replace Z0 : n0 ≤ h15.size := Nat.le_trans Z0 E15.1
  replace hk := Nat.le_trans hk E15.1
  have A_b15 : Exa Z h15 b15 "[Ljava/lang/String;" := AE15
  have V_b15 : Arv Z h15 b15 k15 (.object "java/lang/String") (1 : Int32) [.null] .null := (Arv.new A15 (by decide)).pad (pad_rep [] .null 1)
  refine Gs st15 ?_
  show GG (fT T15 m 140 #[vi x0, vj x1, vS, vj x2, vS, vj x3, vS, vi 1, vi q0, vi q1, vi q2, vi r1, vi r2, vi r3, vi r4, vi r5, vi r6, vr u7, vr u8, vr u9, vu, vu, vu] [(.ref b15)])
  refine Gz (XS.dup X15.here hx rfl (hb hby at_140) rfl rfl) ?_
  refine gC X15 hx hby at_141 ?_
  refine Gz (XS.aload X15.here hx rfl (hb hby at_142) rfl rfl) ?_
  have nb_b15 := own_nbO V_b15
  obtain ⟨cl16, Ar16, q16, S16, N16z, H16, G16⟩ := V_b15
  have hin16 : ¬ ((0 : Int32) < 0 ∨ cl16.slots.size ≤ ((0 : Int32)).toNatClampNeg) := inb_of S16 ⟨by decide, by decide⟩
  obtain ⟨T16, h16, X16, e16, W16, st16⟩ := stR X15 hx hZ e15 Ar16 (j := (0 : Int32)) hin16 rfl (Sto.ofV Ar16 q16 O15 (Ins.self T_u7.exa)) (g := (mkF m 144 #[vi x0, vj x1, vS, vj x2, vS, vj x3, vS, vi 1, vi q0, vi q1, vi q2, vi r1, vi r2, vi r3, vi r4, vi r5, vi r6, vr u7, vr u8, vr u9, vu, vu, vu] [(.ref u7), (.int 0), (.ref b15), (.ref b15)])) rfl rfl (hb hby at_144)
  have Vn16 := Arv.set Ar16 q16 S16 N16z H16 G16 rfl W16 0 rfl (Nat.le_of_ble_eq_true rfl)
  have N16 := Fr.snoc X16 N9 g_b15
  replace hR := hR.trans (CHr.wr W16 Sf_b15 hR.1)
  replace sgC := sgC.wr W16
  replace sgF := sgF.wr W16
  replace sgA := sgA.wr W16
  replace sgH := sgH.wr W16
  replace sgL := sgL.wr W16
  replace T_u7 := T_u7.wr W16 (Ne.symm ne_u7_b15) nb_b15
  replace T_u8 := T_u8.wr W16 (Ne.symm ne_u8_b15) nb_b15
  replace T_u9 := T_u9.wr W16 (Ne.symm ne_u9_b15) nb_b15
  replace A_b15 := A_b15.wr W16
  have V_b15 : Arv Z h16 b15 _ (.object "java/lang/String") (1 : Int32) [(.ref u7)] .null := Vn16
  replace Z0 : n0 ≤ h16.size := by rw [W16.size]; exact Z0
  replace hk := Nat.le_trans hk (Nat.le_of_eq W16.size.symm)
  refine Gs st16 ?_
  show GG (fT T16 m 145 #[vi x0, vj x1, vS, vj x2, vS, vj x3, vS, vi 1, vi q0, vi q1, vi q2, vi r1, vi r2, vi r3, vi r4, vi r5, vi r6, vr u7, vr u8, vr u9, vu, vu, vu] [(.ref b15)])
  obtain ⟨_, _, ⟨T17, L17, k17, n17⟩, -, X17, hS17, gr17, ⟨Lc17, hQ17, l17, y17, z17, hC17⟩, st17⟩ := callSS X16 hx (y := mN54) hown (gz hZ hw 30 rfl) (gz hZ hw 31 rfl) (gz hZ hw 32 rfl) (gz hZ hw 33 rfl) (by decide) (backOfSH (W := 0) (rm_ln1 l Z a0 hw [] b15 k15 u7 (own_fl q0 r1 r2) cz fo h16 n0 Z0 V_b15 T_u7 (own_flL _ _ _) sgC hcz sgA sgH sgL sgF r_fo) hZ (gw hw 33 rfl) (gw hw 32 rfl) (by decide) (by decide) (own_EW hw) hR.1) (g := (mkF m 145 #[vi x0, vj x1, vS, vj x2, vS, vj x3, vS, vi 1, vi q0, vi q1, vi q2, vi r1, vi r2, vi r3, vi r4, vi r5, vi r6, vr u7, vr u8, vr u9, vu, vu, vu] [(.ref b15)])) rfl hml.symm (argsL := [(.ref b15)]) (rest := []) (lenOf own_pd45 rfl) rfl (wz rfl) (hb hby at_145) (fun _ _ => ⟨rfl, e16, (by decide : 19 + 9 ≤ _), (by decide : 37 + 152 ≤ _)⟩)
  dsimp only [Pt.U, Pt.locs, Pt.cells, Pt.slots] at X17 l17 y17 z17 st17 hQ17 hS17 gr17 hC17
  subst l17 y17 z17
  obtain ⟨X17, hS, hZ, hown⟩ := rebS hS hk X17 hS17 (by have q := gr17; rw [e16] at q; exact q) hZ hown
  replace hk : T17.heap.size ≤ T17.heap.size := Nat.le_refl _
  obtain ⟨u17, rfl, N17q, K17, T_u17_17'⟩ := hQ17
  have N17 := Fr.app N16 N17q
  replace hR := hR.trans hC17
  replace sgC := own_staK sgC K17 all0
  replace sgF := own_staK sgF K17 all0
  replace sgA := own_staK sgA K17 all0
  replace sgH := own_staK sgH K17 all0
  replace sgL := own_staK sgL K17 all0
  replace T_u7 := T_u7.keep K17 all0
  replace T_u8 := T_u8.keep K17 all0
  replace T_u9 := T_u9.keep K17 all0
  replace A_b15 := A_b15.keep K17
  replace Z0 := Nat.le_trans Z0 K17.1
  have T_u17 := T_u17_17'
  refine Gs (fun _ tk => st17.trans tk) ?_
  show GG (fT T17 m 148 #[vi x0, vj x1, vS, vj x2, vS, vj x3, vS, vi 1, vi q0, vi q1, vi q2, vi r1, vi r2, vi r3, vi r4, vi r5, vi r6, vr u7, vr u8, vr u9, vu, vu, vu] [(.ref u17)])
  refine Gz (XS.astore X17.here hx rfl (hb hby at_148) rfl rfl (l' := #[vi x0, vj x1, vS, vj x2, vS, vj x3, vS, vi 1, vi q0, vi q1, vi q2, vi r1, vi r2, vi r3, vi r4, vi r5, vi r6, vr u7, vr u8, vr u9, vr u17, vu, vu]) rfl) ?_
  refine gG X17 hx hby at_150 150 205 ?_
  refine gB X17 hx hby at_205 ?_
  obtain ⟨T18, h18, k18, X18, e18, E18, A18, st18⟩ := newP X17 hx hZ (gw hw 10 rfl) rfl (g := (mkF m 207 #[vi x0, vj x1, vS, vj x2, vS, vj x3, vS, vi 1, vi q0, vi q1, vi q2, vi r1, vi r2, vi r3, vi r4, vi r5, vi r6, vr u7, vr u8, vr u9, vr u17, vu, vu] [(.int 15)])) rfl (hb hby at_207) rfl (by decide) (cap := 15) (by decide) (by decide) (by decide) (by decide)
  obtain ⟨b18, gq18⟩ : ∃ z, z = T17.heap.size := ⟨_, rfl⟩
  rw [← gq18] at A18 st18
  have g_b18 : n0 ≤ b18 := by rw [gq18]; exact Z0
  have ne_u7_b18 : u7 ≠ b18 := by rw [gq18]; exact Nat.ne_of_lt T_u7.lt
  have ne_u8_b18 : u8 ≠ b18 := by rw [gq18]; exact Nat.ne_of_lt T_u8.lt
  have ne_u9_b18 : u9 ≠ b18 := by rw [gq18]; exact Nat.ne_of_lt T_u9.lt
  have ne_b15_b18 : b15 ≠ b18 := by rw [gq18]; exact Nat.ne_of_lt A_b15.lt
  have ne_u17_b18 : u17 ≠ b18 := by rw [gq18]; exact Nat.ne_of_lt T_u17.lt
  have Sf_b18 : Safe Z consts_1 T17.vm T17.heap b18 := Safe.new (Nat.le_of_eq gq18.symm)
  replace Sf_b18 := Safe.ext E18 hR.1 Sf_b18
  replace hR := hR.trans (CHr.ext E18 hR.1)
  replace sgC := sgC.ext E18
  replace sgF := sgF.ext E18
  replace sgA := sgA.ext E18
  replace sgH := sgH.ext E18
  replace sgL := sgL.ext E18
  replace T_u7 := T_u7.ext E18
  replace T_u8 := T_u8.ext E18
  replace T_u9 := T_u9.ext E18
  replace T_u17 := T_u17.ext E18
  replace Z0 : n0 ≤ h18.size := Nat.le_trans Z0 E18.1
  replace hk := Nat.le_trans hk E18.1
  have V_b18 : Arv Z h18 b18 k18 .char 15 [(.int 0), (.int 0), (.int 0), (.int 0), (.int 0), (.int 0), (.int 0), (.int 0), (.int 0), (.int 0), (.int 0), (.int 0), (.int 0), (.int 0), (.int 0)] (.int 0) := (Arv.new A18 (by decide)).pad (pad_rep [] (.int 0) 15)
  refine Gs st18 ?_
  show GG (fT T18 m 209 #[vi x0, vj x1, vS, vj x2, vS, vj x3, vS, vi 1, vi q0, vi q1, vi q2, vi r1, vi r2, vi r3, vi r4, vi r5, vi r6, vr u7, vr u8, vr u9, vr u17, vu, vu] [(.ref b18)])
  replace V_b18 := own_unp (n := 15) V_b18
  replace V_b18 : Arv Z h18 b18 k18 .char 15 (chV ([] : List Int32)) (.int 0) := V_b18
  refine Gz (XS.astore X18.here hx rfl (hb hby at_209) rfl rfl (l' := #[vi x0, vj x1, vS, vj x2, vS, vj x3, vS, vi 1, vi q0, vi q1, vi q2, vi r1, vi r2, vi r3, vi r4, vi r5, vi r6, vr u7, vr u8, vr u9, vr u17, vr b18, vu]) rfl) ?_
  refine gC X18 hx hby at_211 ?_
  refine gS X18 hx hby at_212 #[vi x0, vj x1, vS, vj x2, vS, vj x3, vS, vi 1, vi q0, vi q1, vi q2, vi r1, vi r2, vi r3, vi r4, vi r5, vi r6, vr u7, vr u8, vr u9, vr u17, vr b18, vi 0] ?_
  show GG (fT T18 m 214 #[vi x0, vj x1, vS, vj x2, vS, vj x3, vS, vi 1, vi q0, vi q1, vi q2, vi r1, vi r2, vi r3, vi r4, vi r5, vi r6, vr u7, vr u8, vr u9, vr u17, vr b18, vi (Int32.ofNat ([] : List Int32).length)] [])
  refine gI X18 hx hby at_214 rfl rfl ?_
  refine gC X18 hx hby at_216 ?_
  refine gU X18 hx hby at_217 (flt (by decide : ¬ ((1 : Int32) < (1 : Int32)))).1 ?_
  refine Gz (XS.aload X18.here hx rfl (hb hby at_220) rfl rfl) ?_
  refine gI X18 hx hby at_222 rfl rfl ?_
  refine gI X18 hx hby at_224 rfl rfl ?_
  show GG (fT T18 m 226 #[vi x0, vj x1, vS, vj x2, vS, vj x3, vS, vi 1, vi q0, vi q1, vi q2, vi r1, vi r2, vi r3, vi r4, vi r5, vi r6, vr u7, vr u8, vr u9, vr u17, vr b18, vi (Int32.ofNat ([] : List Int32).length)] [(.int q0), (.int (Int32.ofNat ([] : List Int32).length)), (.ref b18)])
  refine gI X18 hx hby at_226 rfl rfl ?_
  refine gI X18 hx hby at_228 rfl rfl ?_
  refine cSg X18 hx hZ hw hown hby hml e18 mN58 164 165 166 2 0 (rm_ef l Z a0 hw [] b18 k18 ([] : List Int32) q0 r1 r2 h18 n0 Z0 V_b18 g_b18 hCp_1 hCp_2 hq0 (by simp only [List.length_append, List.length_cons, List.length_nil]; omega)) at_230 (lenOf own_pd47 rfl) (fun _ T19 L19 X19 hQ19 => ?_)
  obtain ⟨rfl, N19q, K19, V_b18_19'⟩ := hQ19
  have N19 := Fr.app N17 N19q
  replace sgC := own_staK sgC K19 (allS (own_obA V_b18) all0)
  replace sgF := own_staK sgF K19 (allS (own_obA V_b18) all0)
  replace sgA := own_staK sgA K19 (allS (own_obA V_b18) all0)
  replace sgH := own_staK sgH K19 (allS (own_obA V_b18) all0)
  replace sgL := own_staK sgL K19 (allS (own_obA V_b18) all0)
  have Sf_b18' := Safe.keep K19 (allS Sf_b18 all0) hR.1 Sf_b18
  replace hR := hR.trans (CHr.keep K19 (allS Sf_b18 all0) hR.1)
  replace Sf_b18 := Sf_b18'
  replace T_u7 := T_u7.keep K19 (allS ⟨(Ne.symm ne_u7_b18), (own_nbC V_b18)⟩ all0)
  replace T_u8 := T_u8.keep K19 (allS ⟨(Ne.symm ne_u8_b18), (own_nbC V_b18)⟩ all0)
  replace T_u9 := T_u9.keep K19 (allS ⟨(Ne.symm ne_u9_b18), (own_nbC V_b18)⟩ all0)
  replace T_u17 := T_u17.keep K19 (allS ⟨(Ne.symm ne_u17_b18), (own_nbC V_b18)⟩ all0)
  replace Z0 := Nat.le_trans Z0 K19.1
  replace hk := Nat.le_trans hk K19.1
  have V_b18 := V_b18_19'
  show GG (fT T19 m 233 #[vi x0, vj x1, vS, vj x2, vS, vj x3, vS, vi 1, vi q0, vi q1, vi q2, vi r1, vi r2, vi r3, vi r4, vi r5, vi r6, vr u7, vr u8, vr u9, vr u17, vr b18, vi (Int32.ofNat ([] : List Int32).length)] [(.int (Int32.ofNat (([] : List Int32) ++ own_escs (own_fl q0 r1 r2)).length))])
  refine gS X19 hx hby at_233 #[vi x0, vj x1, vS, vj x2, vS, vj x3, vS, vi 1, vi q0, vi q1, vi q2, vi r1, vi r2, vi r3, vi r4, vi r5, vi r6, vr u7, vr u8, vr u9, vr u17, vr b18, vi (Int32.ofNat (([] : List Int32) ++ own_escs (own_fl q0 r1 r2)).length)] ?_
  refine gI X19 hx hby at_235 rfl rfl ?_
  refine gC X19 hx hby at_237 ?_
  refine gY X19 hx hby at_238 238 269 (tlt (by decide : ((1 : Int32) < (2 : Int32)))).1 ?_
  refine gI X19 hx hby at_269 rfl rfl ?_
  refine gC X19 hx hby at_271 ?_
  show GG (fT T19 m 272 #[vi x0, vj x1, vS, vj x2, vS, vj x3, vS, vi 1, vi q0, vi q1, vi q2, vi r1, vi r2, vi r3, vi r4, vi r5, vi r6, vr u7, vr u8, vr u9, vr u17, vr b18, vi (Int32.ofNat (([] : List Int32) ++ own_escs (own_fl q0 r1 r2)).length)] [(.int 3), (.int 1)])
  refine gY X19 hx hby at_272 272 303 (tlt (by decide : ((1 : Int32) < (3 : Int32)))).1 ?_
  refine Gz (XS.aload X19.here hx rfl (hb hby at_303) rfl rfl) ?_
  refine gI X19 hx hby at_305 rfl rfl ?_
  refine gB X19 hx hby at_307 ?_
  replace V_b18 := own_padN V_b18 1
  have hzl309 : (([] : List Int32) ++ own_escs (own_fl q0 r1 r2)).length ≤ 14 := (by simp only [List.length_append, List.length_cons, List.length_nil]; omega)
  have nb_b18 := own_nbC V_b18
  obtain ⟨cl20, Ar20, q20, S20, N20z, H20, G20⟩ := V_b18
  have hin20 : ¬ ((Int32.ofNat (([] : List Int32) ++ own_escs (own_fl q0 r1 r2)).length) < 0 ∨ cl20.slots.size ≤ ((Int32.ofNat (([] : List Int32) ++ own_escs (own_fl q0 r1 r2)).length)).toNatClampNeg) := inb_of S20 ⟨(own_tnO (by omega)).2.1, (own_ltN (L := 15) (by omega) (by decide)).mpr (by omega)⟩
  obtain ⟨T20, h20, X20, e20, W20, st20⟩ := stC X19 hx hZ rfl Ar20 (j := (Int32.ofNat (([] : List Int32) ++ own_escs (own_fl q0 r1 r2)).length)) hin20 (g := (mkF m 309 #[vi x0, vj x1, vS, vj x2, vS, vj x3, vS, vi 1, vi q0, vi q1, vi q2, vi r1, vi r2, vi r3, vi r4, vi r5, vi r6, vr u7, vr u8, vr u9, vr u17, vr b18, vi (Int32.ofNat (([] : List Int32) ++ own_escs (own_fl q0 r1 r2)).length)] [(.int 10), (.int (Int32.ofNat (([] : List Int32) ++ own_escs (own_fl q0 r1 r2)).length)), (.ref b18)])) rfl rfl (hb hby at_309)
  have Vn20 := Arv.set Ar20 q20 S20 N20z H20 G20 (fits_nar_char _) W20 ((([] : List Int32) ++ own_escs (own_fl q0 r1 r2)).length) (own_tnO (by omega)).1 (own_chP _)
  have N20 := Fr.snoc X20 N19 g_b18
  replace hR := hR.trans (CHr.wr W20 Sf_b18 hR.1)
  replace sgC := sgC.wr W20
  replace sgF := sgF.wr W20
  replace sgA := sgA.wr W20
  replace sgH := sgH.wr W20
  replace sgL := sgL.wr W20
  replace T_u7 := T_u7.wr W20 (Ne.symm ne_u7_b18) nb_b18
  replace T_u8 := T_u8.wr W20 (Ne.symm ne_u8_b18) nb_b18
  replace T_u9 := T_u9.wr W20 (Ne.symm ne_u9_b18) nb_b18
  replace T_u17 := T_u17.wr W20 (Ne.symm ne_u17_b18) nb_b18
  have V_b18 : Arv Z h20 b18 k18 .char 15 (chV ((([] : List Int32) ++ own_escs (own_fl q0 r1 r2)) ++ [(10 : Int32)])) (.int 0) := own_arvE Vn20 (by rw [own_nc (⟨by decide, by decide⟩ : Chr (10 : Int32))]; exact own_chSetO (([] : List Int32) ++ own_escs (own_fl q0 r1 r2)) (10 : Int32))
  replace Z0 : n0 ≤ h20.size := by rw [W20.size]; exact Z0
  replace hk := Nat.le_trans hk (Nat.le_of_eq W20.size.symm)
  refine Gs st20 ?_
  show GG (fT T20 m 310 #[vi x0, vj x1, vS, vj x2, vS, vj x3, vS, vi 1, vi q0, vi q1, vi q2, vi r1, vi r2, vi r3, vi r4, vi r5, vi r6, vr u7, vr u8, vr u9, vr u17, vr b18, vi (Int32.ofNat (([] : List Int32) ++ own_escs (own_fl q0 r1 r2)).length)] [])
  refine gI X20 hx hby at_310 rfl rfl ?_
  refine gC X20 hx hby at_312 ?_
  show GG (fT T20 m 313 #[vi x0, vj x1, vS, vj x2, vS, vj x3, vS, vi 1, vi q0, vi q1, vi q2, vi r1, vi r2, vi r3, vi r4, vi r5, vi r6, vr u7, vr u8, vr u9, vr u17, vr b18, vi (Int32.ofNat (([] : List Int32) ++ own_escs (own_fl q0 r1 r2)).length)] [(.int 1), (.int (Int32.ofNat (([] : List Int32) ++ own_escs (own_fl q0 r1 r2)).length))])
  refine Gz (XS.iadd X20.here hx rfl (hb hby at_313) rfl) ?_
  show GG (fT T20 m 314 #[vi x0, vj x1, vS, vj x2, vS, vj x3, vS, vi 1, vi q0, vi q1, vi q2, vi r1, vi r2, vi r3, vi r4, vi r5, vi r6, vr u7, vr u8, vr u9, vr u17, vr b18, vi (Int32.ofNat (([] : List Int32) ++ own_escs (own_fl q0 r1 r2)).length)] [(.int ((Int32.ofNat (([] : List Int32) ++ own_escs (own_fl q0 r1 r2)).length) + 1))])
  rw [own_snoc (([] : List Int32) ++ own_escs (own_fl q0 r1 r2)) (10 : Int32)]
  show GG (fT T20 m 314 #[vi x0, vj x1, vS, vj x2, vS, vj x3, vS, vi 1, vi q0, vi q1, vi q2, vi r1, vi r2, vi r3, vi r4, vi r5, vi r6, vr u7, vr u8, vr u9, vr u17, vr b18, vi (Int32.ofNat (([] : List Int32) ++ own_escs (own_fl q0 r1 r2)).length)] [(.int (Int32.ofNat ((([] : List Int32) ++ own_escs (own_fl q0 r1 r2)) ++ [(10 : Int32)]).length))])
  refine gS X20 hx hby at_314 #[vi x0, vj x1, vS, vj x2, vS, vj x3, vS, vi 1, vi q0, vi q1, vi q2, vi r1, vi r2, vi r3, vi r4, vi r5, vi r6, vr u7, vr u8, vr u9, vr u17, vr b18, vi (Int32.ofNat ((([] : List Int32) ++ own_escs (own_fl q0 r1 r2)) ++ [(10 : Int32)]).length)] ?_
  refine Gz (XS.aload X20.here hx rfl (hb hby at_316) rfl rfl) ?_
  refine Gz (XS.aload X20.here hx rfl (hb hby at_318) rfl rfl) ?_
  refine gI X20 hx hby at_320 rfl rfl ?_
  refine cS X20 hx hZ hw hown hby hml e20 mN60 122 123 124 2 0 (rm_same l Z a0 hw [] u17 ((([] : List Int32) ++ own_escs (own_fl q0 r1 r2)) ++ [(10 : Int32)]) b18 k18 cz fo h20 n0 Z0 T_u17 V_b18 (by simp only [List.length_append, List.length_cons, List.length_nil]; omega) sgC hcz sgF r_fo sgA sgH sgL) at_322 (lenOf own_pd46 rfl) N20 (fun T21 L21 X21 e21 N21 => ?_)
  show GG (fT T21 m 325 #[vi x0, vj x1, vS, vj x2, vS, vj x3, vS, vi 1, vi q0, vi q1, vi q2, vi r1, vi r2, vi r3, vi r4, vi r5, vi r6, vr u7, vr u8, vr u9, vr u17, vr b18, vi (Int32.ofNat ((([] : List Int32) ++ own_escs (own_fl q0 r1 r2)) ++ [(10 : Int32)]).length)] [(.int 1)])
  refine Goes.retH X21 hS e21 hk hZ (own_EW hw) hh hR (some (.int 1)) (fun h => by rw [hret] at h; cases h) hlk (by decide) (by decide) ?_ (fun fs hr => ?_)
  ·rw [e21]; exact ⟨rfl, N21⟩
  ·exact own_retN X21 hx (t := .boolean) hret (by simp) rfl (hb hby at_325) hr
 ·show GG (fT T9 m 113 #[vi x0, vj x1, vS, vj x2, vS, vj x3, vS, vi 2, vi q0, vi q1, vi q2, vi r1, vi r2, vi r3, vi r4, vi r5, vi r6, vr u7, vr u8, vr u9, vu, vu, vu] [])
  refine gI X9 hx hby at_113 rfl rfl ?_
  refine gy X9 hx hby at_115 115 130 ((if0 _ _).trans (feq (by decide : ¬ ((2 : Int32) = (0 : Int32)))).2) ?_
  refine gI X9 hx hby at_130 rfl rfl ?_
  refine gC X9 hx hby at_132 ?_
  refine gY X9 hx hby at_133 133 153 (feq (by decide : ¬ ((2 : Int32) = (1 : Int32)))).2 ?_
  refine gI X9 hx hby at_153 rfl rfl ?_
  show GG (fT T9 m 155 #[vi x0, vj x1, vS, vj x2, vS, vj x3, vS, vi 2, vi q0, vi q1, vi q2, vi r1, vi r2, vi r3, vi r4, vi r5, vi r6, vr u7, vr u8, vr u9, vu, vu, vu] [(.int 2)])
  refine gC X9 hx hby at_155 ?_
  refine gU X9 hx hby at_156 (teq (by decide : ((2 : Int32) = (2 : Int32)))).2 ?_
  refine gC X9 hx hby at_159 ?_
  obtain ⟨T22, h22, k22, X22, e22, E22, A22, AE22, O22, st22⟩ := newRE X9 hx hZ hown (gw hw 7 rfl) (gw hw 29 rfl) rfl (g := (mkF m 160 #[vi x0, vj x1, vS, vj x2, vS, vj x3, vS, vi 2, vi q0, vi q1, vi q2, vi r1, vi r2, vi r3, vi r4, vi r5, vi r6, vr u7, vr u8, vr u9, vu, vu, vu] [(.int 2)])) rfl (hb hby at_160) rfl (by decide) (cap := 2) (by decide) (by decide) (by decide) (by decide) rfl
  obtain ⟨b22, gq22⟩ : ∃ z, z = T9.heap.size := ⟨_, rfl⟩
  rw [← gq22] at A22 st22 AE22
  have g_b22 : n0 ≤ b22 := by rw [gq22]; exact Z0
  have ne_u7_b22 : u7 ≠ b22 := by rw [gq22]; exact Nat.ne_of_lt T_u7.lt
  have ne_u8_b22 : u8 ≠ b22 := by rw [gq22]; exact Nat.ne_of_lt T_u8.lt
  have ne_u9_b22 : u9 ≠ b22 := by rw [gq22]; exact Nat.ne_of_lt T_u9.lt
  have Sf_b22 : Safe Z consts_1 T9.vm T9.heap b22 := Safe.new (Nat.le_of_eq gq22.symm)
  replace Sf_b22 := Safe.ext E22 hR.1 Sf_b22
  replace hR := hR.trans (CHr.ext E22 hR.1)
  replace sgC := sgC.ext E22
  replace sgF := sgF.ext E22
  replace sgA := sgA.ext E22
  replace sgH := sgH.ext E22
  replace sgL := sgL.ext E22
  replace T_u7 := T_u7.ext E22
  replace T_u8 := T_u8.ext E22
  replace T_u9 := T_u9.ext E22
  replace Z0 : n0 ≤ h22.size := Nat.le_trans Z0 E22.1
  replace hk := Nat.le_trans hk E22.1
  have A_b22 : Exa Z h22 b22 "[Ljava/lang/String;" := AE22
  have V_b22 : Arv Z h22 b22 k22 (.object "java/lang/String") (2 : Int32) [.null, .null] .null := (Arv.new A22 (by decide)).pad (pad_rep [] .null 2)
  refine Gs st22 ?_
  show GG (fT T22 m 163 #[vi x0, vj x1, vS, vj x2, vS, vj x3, vS, vi 2, vi q0, vi q1, vi q2, vi r1, vi r2, vi r3, vi r4, vi r5, vi r6, vr u7, vr u8, vr u9, vu, vu, vu] [(.ref b22)])
  refine Gz (XS.dup X22.here hx rfl (hb hby at_163) rfl rfl) ?_
  refine gC X22 hx hby at_164 ?_
  refine Gz (XS.aload X22.here hx rfl (hb hby at_165) rfl rfl) ?_
  have nb_b22 := own_nbO V_b22
  obtain ⟨cl23, Ar23, q23, S23, N23z, H23, G23⟩ := V_b22
  have hin23 : ¬ ((0 : Int32) < 0 ∨ cl23.slots.size ≤ ((0 : Int32)).toNatClampNeg) := inb_of S23 ⟨by decide, by decide⟩
  obtain ⟨T23, h23, X23, e23, W23, st23⟩ := stR X22 hx hZ e22 Ar23 (j := (0 : Int32)) hin23 rfl (Sto.ofV Ar23 q23 O22 (Ins.self T_u7.exa)) (g := (mkF m 167 #[vi x0, vj x1, vS, vj x2, vS, vj x3, vS, vi 2, vi q0, vi q1, vi q2, vi r1, vi r2, vi r3, vi r4, vi r5, vi r6, vr u7, vr u8, vr u9, vu, vu, vu] [(.ref u7), (.int 0), (.ref b22), (.ref b22)])) rfl rfl (hb hby at_167)
  have Vn23 := Arv.set Ar23 q23 S23 N23z H23 G23 rfl W23 0 rfl (Nat.le_of_ble_eq_true rfl)
  have N23 := Fr.snoc X23 N9 g_b22
  have Sf_b22' := Safe.wr W23 Sf_b22 hR.1 Sf_b22
  replace hR := hR.trans (CHr.wr W23 Sf_b22 hR.1)
  replace Sf_b22 := Sf_b22'
  replace sgC := sgC.wr W23
  replace sgF := sgF.wr W23
  replace sgA := sgA.wr W23
  replace sgH := sgH.wr W23
  replace sgL := sgL.wr W23
  replace T_u7 := T_u7.wr W23 (Ne.symm ne_u7_b22) nb_b22
  replace T_u8 := T_u8.wr W23 (Ne.symm ne_u8_b22) nb_b22
  replace T_u9 := T_u9.wr W23 (Ne.symm ne_u9_b22) nb_b22
  replace A_b22 := A_b22.wr W23
  have V_b22 : Arv Z h23 b22 _ (.object "java/lang/String") (2 : Int32) [(.ref u7), .null] .null := Vn23
  replace Z0 : n0 ≤ h23.size := by rw [W23.size]; exact Z0
  replace hk := Nat.le_trans hk (Nat.le_of_eq W23.size.symm)
  refine Gs st23 ?_
  show GG (fT T23 m 168 #[vi x0, vj x1, vS, vj x2, vS, vj x3, vS, vi 2, vi q0, vi q1, vi q2, vi r1, vi r2, vi r3, vi r4, vi r5, vi r6, vr u7, vr u8, vr u9, vu, vu, vu] [(.ref b22)])
  refine Gz (XS.dup X23.here hx rfl (hb hby at_168) rfl rfl) ?_
  refine gC X23 hx hby at_169 ?_
  refine Gz (XS.aload X23.here hx rfl (hb hby at_170) rfl rfl) ?_
  have nb_b22 := own_nbO V_b22
  obtain ⟨cl24, Ar24, q24, S24, N24z, H24, G24⟩ := V_b22
  have hin24 : ¬ ((1 : Int32) < 0 ∨ cl24.slots.size ≤ ((1 : Int32)).toNatClampNeg) := inb_of S24 ⟨by decide, by decide⟩
  obtain ⟨T24, h24, X24, e24, W24, st24⟩ := stR X23 hx hZ e23 Ar24 (j := (1 : Int32)) hin24 rfl (Sto.ofV Ar24 q24 O22 (Ins.self T_u8.exa)) (g := (mkF m 172 #[vi x0, vj x1, vS, vj x2, vS, vj x3, vS, vi 2, vi q0, vi q1, vi q2, vi r1, vi r2, vi r3, vi r4, vi r5, vi r6, vr u7, vr u8, vr u9, vu, vu, vu] [(.ref u8), (.int 1), (.ref b22), (.ref b22)])) rfl rfl (hb hby at_172)
  have Vn24 := Arv.set Ar24 q24 S24 N24z H24 G24 rfl W24 1 rfl (Nat.le_of_ble_eq_true rfl)
  have N24 := Fr.snoc X24 N23 g_b22
  replace hR := hR.trans (CHr.wr W24 Sf_b22 hR.1)
  replace sgC := sgC.wr W24
  replace sgF := sgF.wr W24
  replace sgA := sgA.wr W24
  replace sgH := sgH.wr W24
  replace sgL := sgL.wr W24
  replace T_u7 := T_u7.wr W24 (Ne.symm ne_u7_b22) nb_b22
  replace T_u8 := T_u8.wr W24 (Ne.symm ne_u8_b22) nb_b22
  replace T_u9 := T_u9.wr W24 (Ne.symm ne_u9_b22) nb_b22
  replace A_b22 := A_b22.wr W24
  have V_b22 : Arv Z h24 b22 _ (.object "java/lang/String") (2 : Int32) [(.ref u7), (.ref u8)] .null := Vn24
  replace Z0 : n0 ≤ h24.size := by rw [W24.size]; exact Z0
  replace hk := Nat.le_trans hk (Nat.le_of_eq W24.size.symm)
  refine Gs st24 ?_
  show GG (fT T24 m 173 #[vi x0, vj x1, vS, vj x2, vS, vj x3, vS, vi 2, vi q0, vi q1, vi q2, vi r1, vi r2, vi r3, vi r4, vi r5, vi r6, vr u7, vr u8, vr u9, vu, vu, vu] [(.ref b22)])
  obtain ⟨_, _, ⟨T25, L25, k25, n25⟩, -, X25, hS25, gr25, ⟨Lc25, hQ25, l25, y25, z25, hC25⟩, st25⟩ := callSS X24 hx (y := mN54) hown (gz hZ hw 30 rfl) (gz hZ hw 31 rfl) (gz hZ hw 32 rfl) (gz hZ hw 33 rfl) (by decide) (backOfSH (W := 0) (rm_ln2 l Z a0 hw [] b22 k22 u7 (own_fl q0 r1 r2) u8 (own_fl q1 r3 r4) cz fo h24 n0 Z0 V_b22 T_u7 (own_flL _ _ _) T_u8 (own_flL _ _ _) sgC hcz sgA sgH sgL sgF r_fo) hZ (gw hw 33 rfl) (gw hw 32 rfl) (by decide) (by decide) (own_EW hw) hR.1) (g := (mkF m 173 #[vi x0, vj x1, vS, vj x2, vS, vj x3, vS, vi 2, vi q0, vi q1, vi q2, vi r1, vi r2, vi r3, vi r4, vi r5, vi r6, vr u7, vr u8, vr u9, vu, vu, vu] [(.ref b22)])) rfl hml.symm (argsL := [(.ref b22)]) (rest := []) (lenOf own_pd45 rfl) rfl (wz rfl) (hb hby at_173) (fun _ _ => ⟨rfl, e24, (by decide : 19 + 14 ≤ _), (by decide : 38 + 248 ≤ _)⟩)
  dsimp only [Pt.U, Pt.locs, Pt.cells, Pt.slots] at X25 l25 y25 z25 st25 hQ25 hS25 gr25 hC25
  subst l25 y25 z25
  obtain ⟨X25, hS, hZ, hown⟩ := rebS hS hk X25 hS25 (by have q := gr25; rw [e24] at q; exact q) hZ hown
  replace hk : T25.heap.size ≤ T25.heap.size := Nat.le_refl _
  obtain ⟨u25, rfl, N25q, K25, T_u25_25'⟩ := hQ25
  have N25 := Fr.app N24 N25q
  replace hR := hR.trans hC25
  replace sgC := own_staK sgC K25 all0
  replace sgF := own_staK sgF K25 all0
  replace sgA := own_staK sgA K25 all0
  replace sgH := own_staK sgH K25 all0
  replace sgL := own_staK sgL K25 all0
  replace T_u7 := T_u7.keep K25 all0
  replace T_u8 := T_u8.keep K25 all0
  replace T_u9 := T_u9.keep K25 all0
  replace A_b22 := A_b22.keep K25
  replace Z0 := Nat.le_trans Z0 K25.1
  have T_u25 := T_u25_25'
  refine Gs (fun _ tk => st25.trans tk) ?_
  show GG (fT T25 m 176 #[vi x0, vj x1, vS, vj x2, vS, vj x3, vS, vi 2, vi q0, vi q1, vi q2, vi r1, vi r2, vi r3, vi r4, vi r5, vi r6, vr u7, vr u8, vr u9, vu, vu, vu] [(.ref u25)])
  refine Gz (XS.astore X25.here hx rfl (hb hby at_176) rfl rfl (l' := #[vi x0, vj x1, vS, vj x2, vS, vj x3, vS, vi 2, vi q0, vi q1, vi q2, vi r1, vi r2, vi r3, vi r4, vi r5, vi r6, vr u7, vr u8, vr u9, vr u25, vu, vu]) rfl) ?_
  refine gG X25 hx hby at_178 178 205 ?_
  refine gB X25 hx hby at_205 ?_
  obtain ⟨T26, h26, k26, X26, e26, E26, A26, st26⟩ := newP X25 hx hZ (gw hw 10 rfl) rfl (g := (mkF m 207 #[vi x0, vj x1, vS, vj x2, vS, vj x3, vS, vi 2, vi q0, vi q1, vi q2, vi r1, vi r2, vi r3, vi r4, vi r5, vi r6, vr u7, vr u8, vr u9, vr u25, vu, vu] [(.int 15)])) rfl (hb hby at_207) rfl (by decide) (cap := 15) (by decide) (by decide) (by decide) (by decide)
  obtain ⟨b26, gq26⟩ : ∃ z, z = T25.heap.size := ⟨_, rfl⟩
  rw [← gq26] at A26 st26
  have g_b26 : n0 ≤ b26 := by rw [gq26]; exact Z0
  have ne_u7_b26 : u7 ≠ b26 := by rw [gq26]; exact Nat.ne_of_lt T_u7.lt
  have ne_u8_b26 : u8 ≠ b26 := by rw [gq26]; exact Nat.ne_of_lt T_u8.lt
  have ne_u9_b26 : u9 ≠ b26 := by rw [gq26]; exact Nat.ne_of_lt T_u9.lt
  have ne_b22_b26 : b22 ≠ b26 := by rw [gq26]; exact Nat.ne_of_lt A_b22.lt
  have ne_u25_b26 : u25 ≠ b26 := by rw [gq26]; exact Nat.ne_of_lt T_u25.lt
  have Sf_b26 : Safe Z consts_1 T25.vm T25.heap b26 := Safe.new (Nat.le_of_eq gq26.symm)
  replace Sf_b26 := Safe.ext E26 hR.1 Sf_b26
  replace hR := hR.trans (CHr.ext E26 hR.1)
  replace sgC := sgC.ext E26
  replace sgF := sgF.ext E26
  replace sgA := sgA.ext E26
  replace sgH := sgH.ext E26
  replace sgL := sgL.ext E26
  replace T_u7 := T_u7.ext E26
  replace T_u8 := T_u8.ext E26
  replace T_u9 := T_u9.ext E26
  replace T_u25 := T_u25.ext E26
  replace Z0 : n0 ≤ h26.size := Nat.le_trans Z0 E26.1
  replace hk := Nat.le_trans hk E26.1
  have V_b26 : Arv Z h26 b26 k26 .char 15 [(.int 0), (.int 0), (.int 0), (.int 0), (.int 0), (.int 0), (.int 0), (.int 0), (.int 0), (.int 0), (.int 0), (.int 0), (.int 0), (.int 0), (.int 0)] (.int 0) := (Arv.new A26 (by decide)).pad (pad_rep [] (.int 0) 15)
  refine Gs st26 ?_
  show GG (fT T26 m 209 #[vi x0, vj x1, vS, vj x2, vS, vj x3, vS, vi 2, vi q0, vi q1, vi q2, vi r1, vi r2, vi r3, vi r4, vi r5, vi r6, vr u7, vr u8, vr u9, vr u25, vu, vu] [(.ref b26)])
  replace V_b26 := own_unp (n := 15) V_b26
  replace V_b26 : Arv Z h26 b26 k26 .char 15 (chV ([] : List Int32)) (.int 0) := V_b26
  refine Gz (XS.astore X26.here hx rfl (hb hby at_209) rfl rfl (l' := #[vi x0, vj x1, vS, vj x2, vS, vj x3, vS, vi 2, vi q0, vi q1, vi q2, vi r1, vi r2, vi r3, vi r4, vi r5, vi r6, vr u7, vr u8, vr u9, vr u25, vr b26, vu]) rfl) ?_
  refine gC X26 hx hby at_211 ?_
  refine gS X26 hx hby at_212 #[vi x0, vj x1, vS, vj x2, vS, vj x3, vS, vi 2, vi q0, vi q1, vi q2, vi r1, vi r2, vi r3, vi r4, vi r5, vi r6, vr u7, vr u8, vr u9, vr u25, vr b26, vi 0] ?_
  show GG (fT T26 m 214 #[vi x0, vj x1, vS, vj x2, vS, vj x3, vS, vi 2, vi q0, vi q1, vi q2, vi r1, vi r2, vi r3, vi r4, vi r5, vi r6, vr u7, vr u8, vr u9, vr u25, vr b26, vi (Int32.ofNat ([] : List Int32).length)] [])
  refine gI X26 hx hby at_214 rfl rfl ?_
  refine gC X26 hx hby at_216 ?_
  refine gU X26 hx hby at_217 (flt (by decide : ¬ ((2 : Int32) < (1 : Int32)))).1 ?_
  refine Gz (XS.aload X26.here hx rfl (hb hby at_220) rfl rfl) ?_
  refine gI X26 hx hby at_222 rfl rfl ?_
  refine gI X26 hx hby at_224 rfl rfl ?_
  show GG (fT T26 m 226 #[vi x0, vj x1, vS, vj x2, vS, vj x3, vS, vi 2, vi q0, vi q1, vi q2, vi r1, vi r2, vi r3, vi r4, vi r5, vi r6, vr u7, vr u8, vr u9, vr u25, vr b26, vi (Int32.ofNat ([] : List Int32).length)] [(.int q0), (.int (Int32.ofNat ([] : List Int32).length)), (.ref b26)])
  refine gI X26 hx hby at_226 rfl rfl ?_
  refine gI X26 hx hby at_228 rfl rfl ?_
  refine cSg X26 hx hZ hw hown hby hml e26 mN58 164 165 166 2 0 (rm_ef l Z a0 hw [] b26 k26 ([] : List Int32) q0 r1 r2 h26 n0 Z0 V_b26 g_b26 hCp_1 hCp_2 hq0 (by simp only [List.length_append, List.length_cons, List.length_nil]; omega)) at_230 (lenOf own_pd47 rfl) (fun _ T27 L27 X27 hQ27 => ?_)
  obtain ⟨rfl, N27q, K27, V_b26_27'⟩ := hQ27
  have N27 := Fr.app N25 N27q
  replace sgC := own_staK sgC K27 (allS (own_obA V_b26) all0)
  replace sgF := own_staK sgF K27 (allS (own_obA V_b26) all0)
  replace sgA := own_staK sgA K27 (allS (own_obA V_b26) all0)
  replace sgH := own_staK sgH K27 (allS (own_obA V_b26) all0)
  replace sgL := own_staK sgL K27 (allS (own_obA V_b26) all0)
  have Sf_b26' := Safe.keep K27 (allS Sf_b26 all0) hR.1 Sf_b26
  replace hR := hR.trans (CHr.keep K27 (allS Sf_b26 all0) hR.1)
  replace Sf_b26 := Sf_b26'
  replace T_u7 := T_u7.keep K27 (allS ⟨(Ne.symm ne_u7_b26), (own_nbC V_b26)⟩ all0)
  replace T_u8 := T_u8.keep K27 (allS ⟨(Ne.symm ne_u8_b26), (own_nbC V_b26)⟩ all0)
  replace T_u9 := T_u9.keep K27 (allS ⟨(Ne.symm ne_u9_b26), (own_nbC V_b26)⟩ all0)
  replace T_u25 := T_u25.keep K27 (allS ⟨(Ne.symm ne_u25_b26), (own_nbC V_b26)⟩ all0)
  replace Z0 := Nat.le_trans Z0 K27.1
  replace hk := Nat.le_trans hk K27.1
  have V_b26 := V_b26_27'
  show GG (fT T27 m 233 #[vi x0, vj x1, vS, vj x2, vS, vj x3, vS, vi 2, vi q0, vi q1, vi q2, vi r1, vi r2, vi r3, vi r4, vi r5, vi r6, vr u7, vr u8, vr u9, vr u25, vr b26, vi (Int32.ofNat ([] : List Int32).length)] [(.int (Int32.ofNat (([] : List Int32) ++ own_escs (own_fl q0 r1 r2)).length))])
  refine gS X27 hx hby at_233 #[vi x0, vj x1, vS, vj x2, vS, vj x3, vS, vi 2, vi q0, vi q1, vi q2, vi r1, vi r2, vi r3, vi r4, vi r5, vi r6, vr u7, vr u8, vr u9, vr u25, vr b26, vi (Int32.ofNat (([] : List Int32) ++ own_escs (own_fl q0 r1 r2)).length)] ?_
  refine gI X27 hx hby at_235 rfl rfl ?_
  refine gC X27 hx hby at_237 ?_
  refine gU X27 hx hby at_238 (flt (by decide : ¬ ((2 : Int32) < (2 : Int32)))).1 ?_
  refine Gz (XS.aload X27.here hx rfl (hb hby at_241) rfl rfl) ?_
  refine gI X27 hx hby at_243 rfl rfl ?_
  show GG (fT T27 m 245 #[vi x0, vj x1, vS, vj x2, vS, vj x3, vS, vi 2, vi q0, vi q1, vi q2, vi r1, vi r2, vi r3, vi r4, vi r5, vi r6, vr u7, vr u8, vr u9, vr u25, vr b26, vi (Int32.ofNat (([] : List Int32) ++ own_escs (own_fl q0 r1 r2)).length)] [(.int (Int32.ofNat (([] : List Int32) ++ own_escs (own_fl q0 r1 r2)).length)), (.ref b26)])
  refine gB X27 hx hby at_245 ?_
  replace V_b26 := own_padN V_b26 1
  have hzl247 : (([] : List Int32) ++ own_escs (own_fl q0 r1 r2)).length ≤ 14 := (by simp only [List.length_append, List.length_cons, List.length_nil]; omega)
  have nb_b26 := own_nbC V_b26
  obtain ⟨cl28, Ar28, q28, S28, N28z, H28, G28⟩ := V_b26
  have hin28 : ¬ ((Int32.ofNat (([] : List Int32) ++ own_escs (own_fl q0 r1 r2)).length) < 0 ∨ cl28.slots.size ≤ ((Int32.ofNat (([] : List Int32) ++ own_escs (own_fl q0 r1 r2)).length)).toNatClampNeg) := inb_of S28 ⟨(own_tnO (by omega)).2.1, (own_ltN (L := 15) (by omega) (by decide)).mpr (by omega)⟩
  obtain ⟨T28, h28, X28, e28, W28, st28⟩ := stC X27 hx hZ rfl Ar28 (j := (Int32.ofNat (([] : List Int32) ++ own_escs (own_fl q0 r1 r2)).length)) hin28 (g := (mkF m 247 #[vi x0, vj x1, vS, vj x2, vS, vj x3, vS, vi 2, vi q0, vi q1, vi q2, vi r1, vi r2, vi r3, vi r4, vi r5, vi r6, vr u7, vr u8, vr u9, vr u25, vr b26, vi (Int32.ofNat (([] : List Int32) ++ own_escs (own_fl q0 r1 r2)).length)] [(.int 9), (.int (Int32.ofNat (([] : List Int32) ++ own_escs (own_fl q0 r1 r2)).length)), (.ref b26)])) rfl rfl (hb hby at_247)
  have Vn28 := Arv.set Ar28 q28 S28 N28z H28 G28 (fits_nar_char _) W28 ((([] : List Int32) ++ own_escs (own_fl q0 r1 r2)).length) (own_tnO (by omega)).1 (own_chP _)
  have N28 := Fr.snoc X28 N27 g_b26
  have Sf_b26' := Safe.wr W28 Sf_b26 hR.1 Sf_b26
  replace hR := hR.trans (CHr.wr W28 Sf_b26 hR.1)
  replace Sf_b26 := Sf_b26'
  replace sgC := sgC.wr W28
  replace sgF := sgF.wr W28
  replace sgA := sgA.wr W28
  replace sgH := sgH.wr W28
  replace sgL := sgL.wr W28
  replace T_u7 := T_u7.wr W28 (Ne.symm ne_u7_b26) nb_b26
  replace T_u8 := T_u8.wr W28 (Ne.symm ne_u8_b26) nb_b26
  replace T_u9 := T_u9.wr W28 (Ne.symm ne_u9_b26) nb_b26
  replace T_u25 := T_u25.wr W28 (Ne.symm ne_u25_b26) nb_b26
  have V_b26 : Arv Z h28 b26 k26 .char 15 (chV ((([] : List Int32) ++ own_escs (own_fl q0 r1 r2)) ++ [(9 : Int32)])) (.int 0) := own_arvE Vn28 (by rw [own_nc (⟨by decide, by decide⟩ : Chr (9 : Int32))]; exact own_chSetO (([] : List Int32) ++ own_escs (own_fl q0 r1 r2)) (9 : Int32))
  replace Z0 : n0 ≤ h28.size := by rw [W28.size]; exact Z0
  replace hk := Nat.le_trans hk (Nat.le_of_eq W28.size.symm)
  refine Gs st28 ?_
  show GG (fT T28 m 248 #[vi x0, vj x1, vS, vj x2, vS, vj x3, vS, vi 2, vi q0, vi q1, vi q2, vi r1, vi r2, vi r3, vi r4, vi r5, vi r6, vr u7, vr u8, vr u9, vr u25, vr b26, vi (Int32.ofNat (([] : List Int32) ++ own_escs (own_fl q0 r1 r2)).length)] [])
  refine gI X28 hx hby at_248 rfl rfl ?_
  refine gC X28 hx hby at_250 ?_
  show GG (fT T28 m 251 #[vi x0, vj x1, vS, vj x2, vS, vj x3, vS, vi 2, vi q0, vi q1, vi q2, vi r1, vi r2, vi r3, vi r4, vi r5, vi r6, vr u7, vr u8, vr u9, vr u25, vr b26, vi (Int32.ofNat (([] : List Int32) ++ own_escs (own_fl q0 r1 r2)).length)] [(.int 1), (.int (Int32.ofNat (([] : List Int32) ++ own_escs (own_fl q0 r1 r2)).length))])
  refine Gz (XS.iadd X28.here hx rfl (hb hby at_251) rfl) ?_
  show GG (fT T28 m 252 #[vi x0, vj x1, vS, vj x2, vS, vj x3, vS, vi 2, vi q0, vi q1, vi q2, vi r1, vi r2, vi r3, vi r4, vi r5, vi r6, vr u7, vr u8, vr u9, vr u25, vr b26, vi (Int32.ofNat (([] : List Int32) ++ own_escs (own_fl q0 r1 r2)).length)] [(.int ((Int32.ofNat (([] : List Int32) ++ own_escs (own_fl q0 r1 r2)).length) + 1))])
  rw [own_snoc (([] : List Int32) ++ own_escs (own_fl q0 r1 r2)) (9 : Int32)]
  show GG (fT T28 m 252 #[vi x0, vj x1, vS, vj x2, vS, vj x3, vS, vi 2, vi q0, vi q1, vi q2, vi r1, vi r2, vi r3, vi r4, vi r5, vi r6, vr u7, vr u8, vr u9, vr u25, vr b26, vi (Int32.ofNat (([] : List Int32) ++ own_escs (own_fl q0 r1 r2)).length)] [(.int (Int32.ofNat ((([] : List Int32) ++ own_escs (own_fl q0 r1 r2)) ++ [(9 : Int32)]).length))])
  refine gS X28 hx hby at_252 #[vi x0, vj x1, vS, vj x2, vS, vj x3, vS, vi 2, vi q0, vi q1, vi q2, vi r1, vi r2, vi r3, vi r4, vi r5, vi r6, vr u7, vr u8, vr u9, vr u25, vr b26, vi (Int32.ofNat ((([] : List Int32) ++ own_escs (own_fl q0 r1 r2)) ++ [(9 : Int32)]).length)] ?_
  refine Gz (XS.aload X28.here hx rfl (hb hby at_254) rfl rfl) ?_
  refine gI X28 hx hby at_256 rfl rfl ?_
  refine gI X28 hx hby at_258 rfl rfl ?_
  refine gI X28 hx hby at_260 rfl rfl ?_
  refine gI X28 hx hby at_262 rfl rfl ?_
  show GG (fT T28 m 264 #[vi x0, vj x1, vS, vj x2, vS, vj x3, vS, vi 2, vi q0, vi q1, vi q2, vi r1, vi r2, vi r3, vi r4, vi r5, vi r6, vr u7, vr u8, vr u9, vr u25, vr b26, vi (Int32.ofNat ((([] : List Int32) ++ own_escs (own_fl q0 r1 r2)) ++ [(9 : Int32)]).length)] [(.int r4), (.int r3), (.int q1), (.int (Int32.ofNat ((([] : List Int32) ++ own_escs (own_fl q0 r1 r2)) ++ [(9 : Int32)]).length)), (.ref b26)])
  refine cSg X28 hx hZ hw hown hby hml e28 mN58 164 165 166 2 0 (rm_ef l Z a0 hw [] b26 k26 ((([] : List Int32) ++ own_escs (own_fl q0 r1 r2)) ++ [(9 : Int32)]) q1 r3 r4 h28 n0 Z0 V_b26 g_b26 hCp_3 hCp_4 hq1 (by simp only [List.length_append, List.length_cons, List.length_nil]; omega)) at_264 (lenOf own_pd47 rfl) (fun _ T29 L29 X29 hQ29 => ?_)
  obtain ⟨rfl, N29q, K29, V_b26_29'⟩ := hQ29
  have N29 := Fr.app N28 N29q
  replace sgC := own_staK sgC K29 (allS (own_obA V_b26) all0)
  replace sgF := own_staK sgF K29 (allS (own_obA V_b26) all0)
  replace sgA := own_staK sgA K29 (allS (own_obA V_b26) all0)
  replace sgH := own_staK sgH K29 (allS (own_obA V_b26) all0)
  replace sgL := own_staK sgL K29 (allS (own_obA V_b26) all0)
  have Sf_b26' := Safe.keep K29 (allS Sf_b26 all0) hR.1 Sf_b26
  replace hR := hR.trans (CHr.keep K29 (allS Sf_b26 all0) hR.1)
  replace Sf_b26 := Sf_b26'
  replace T_u7 := T_u7.keep K29 (allS ⟨(Ne.symm ne_u7_b26), (own_nbC V_b26)⟩ all0)
  replace T_u8 := T_u8.keep K29 (allS ⟨(Ne.symm ne_u8_b26), (own_nbC V_b26)⟩ all0)
  replace T_u9 := T_u9.keep K29 (allS ⟨(Ne.symm ne_u9_b26), (own_nbC V_b26)⟩ all0)
  replace T_u25 := T_u25.keep K29 (allS ⟨(Ne.symm ne_u25_b26), (own_nbC V_b26)⟩ all0)
  replace Z0 := Nat.le_trans Z0 K29.1
  replace hk := Nat.le_trans hk K29.1
  have V_b26 := V_b26_29'
  show GG (fT T29 m 267 #[vi x0, vj x1, vS, vj x2, vS, vj x3, vS, vi 2, vi q0, vi q1, vi q2, vi r1, vi r2, vi r3, vi r4, vi r5, vi r6, vr u7, vr u8, vr u9, vr u25, vr b26, vi (Int32.ofNat ((([] : List Int32) ++ own_escs (own_fl q0 r1 r2)) ++ [(9 : Int32)]).length)] [(.int (Int32.ofNat (((([] : List Int32) ++ own_escs (own_fl q0 r1 r2)) ++ [(9 : Int32)]) ++ own_escs (own_fl q1 r3 r4)).length))])
  refine gS X29 hx hby at_267 #[vi x0, vj x1, vS, vj x2, vS, vj x3, vS, vi 2, vi q0, vi q1, vi q2, vi r1, vi r2, vi r3, vi r4, vi r5, vi r6, vr u7, vr u8, vr u9, vr u25, vr b26, .val (.int (Int32.ofNat (((([] : List Int32) ++ own_escs (own_fl q0 r1 r2)) ++ [(9 : Int32)]) ++ own_escs (own_fl q1 r3 r4)).length))] ?_
  refine gI X29 hx hby at_269 rfl rfl ?_
  refine gC X29 hx hby at_271 ?_
  refine gY X29 hx hby at_272 272 303 (tlt (by decide : ((2 : Int32) < (3 : Int32)))).1 ?_
  refine Gz (XS.aload X29.here hx rfl (hb hby at_303) rfl rfl) ?_
  refine gI X29 hx hby at_305 rfl rfl ?_
  show GG (fT T29 m 307 #[vi x0, vj x1, vS, vj x2, vS, vj x3, vS, vi 2, vi q0, vi q1, vi q2, vi r1, vi r2, vi r3, vi r4, vi r5, vi r6, vr u7, vr u8, vr u9, vr u25, vr b26, .val (.int (Int32.ofNat (((([] : List Int32) ++ own_escs (own_fl q0 r1 r2)) ++ [(9 : Int32)]) ++ own_escs (own_fl q1 r3 r4)).length))] [(.int (Int32.ofNat (((([] : List Int32) ++ own_escs (own_fl q0 r1 r2)) ++ [(9 : Int32)]) ++ own_escs (own_fl q1 r3 r4)).length)), (.ref b26)])
  refine gB X29 hx hby at_307 ?_
  replace V_b26 := own_padN V_b26 1
  have hzl309 : (((([] : List Int32) ++ own_escs (own_fl q0 r1 r2)) ++ [(9 : Int32)]) ++ own_escs (own_fl q1 r3 r4)).length ≤ 14 := (by simp only [List.length_append, List.length_cons, List.length_nil]; omega)
  have nb_b26 := own_nbC V_b26
  obtain ⟨cl30, Ar30, q30, S30, N30z, H30, G30⟩ := V_b26
  have hin30 : ¬ ((Int32.ofNat (((([] : List Int32) ++ own_escs (own_fl q0 r1 r2)) ++ [(9 : Int32)]) ++ own_escs (own_fl q1 r3 r4)).length) < 0 ∨ cl30.slots.size ≤ ((Int32.ofNat (((([] : List Int32) ++ own_escs (own_fl q0 r1 r2)) ++ [(9 : Int32)]) ++ own_escs (own_fl q1 r3 r4)).length)).toNatClampNeg) := inb_of S30 ⟨(own_tnO (by omega)).2.1, (own_ltN (L := 15) (by omega) (by decide)).mpr (by omega)⟩
  obtain ⟨T30, h30, X30, e30, W30, st30⟩ := stC X29 hx hZ rfl Ar30 (j := (Int32.ofNat (((([] : List Int32) ++ own_escs (own_fl q0 r1 r2)) ++ [(9 : Int32)]) ++ own_escs (own_fl q1 r3 r4)).length)) hin30 (g := (mkF m 309 #[vi x0, vj x1, vS, vj x2, vS, vj x3, vS, vi 2, vi q0, vi q1, vi q2, vi r1, vi r2, vi r3, vi r4, vi r5, vi r6, vr u7, vr u8, vr u9, vr u25, vr b26, .val (.int (Int32.ofNat (((([] : List Int32) ++ own_escs (own_fl q0 r1 r2)) ++ [(9 : Int32)]) ++ own_escs (own_fl q1 r3 r4)).length))] [(.int 10), (.int (Int32.ofNat (((([] : List Int32) ++ own_escs (own_fl q0 r1 r2)) ++ [(9 : Int32)]) ++ own_escs (own_fl q1 r3 r4)).length)), (.ref b26)])) rfl rfl (hb hby at_309)
  have Vn30 := Arv.set Ar30 q30 S30 N30z H30 G30 (fits_nar_char _) W30 ((((([] : List Int32) ++ own_escs (own_fl q0 r1 r2)) ++ [(9 : Int32)]) ++ own_escs (own_fl q1 r3 r4)).length) (own_tnO (by omega)).1 (own_chP _)
  have N30 := Fr.snoc X30 N29 g_b26
  replace hR := hR.trans (CHr.wr W30 Sf_b26 hR.1)
  replace sgC := sgC.wr W30
  replace sgF := sgF.wr W30
  replace sgA := sgA.wr W30
  replace sgH := sgH.wr W30
  replace sgL := sgL.wr W30
  replace T_u7 := T_u7.wr W30 (Ne.symm ne_u7_b26) nb_b26
  replace T_u8 := T_u8.wr W30 (Ne.symm ne_u8_b26) nb_b26
  replace T_u9 := T_u9.wr W30 (Ne.symm ne_u9_b26) nb_b26
  replace T_u25 := T_u25.wr W30 (Ne.symm ne_u25_b26) nb_b26
  have V_b26 : Arv Z h30 b26 k26 .char 15 (chV ((((([] : List Int32) ++ own_escs (own_fl q0 r1 r2)) ++ [(9 : Int32)]) ++ own_escs (own_fl q1 r3 r4)) ++ [(10 : Int32)])) (.int 0) := own_arvE Vn30 (by rw [own_nc (⟨by decide, by decide⟩ : Chr (10 : Int32))]; exact own_chSetO (((([] : List Int32) ++ own_escs (own_fl q0 r1 r2)) ++ [(9 : Int32)]) ++ own_escs (own_fl q1 r3 r4)) (10 : Int32))
  replace Z0 : n0 ≤ h30.size := by rw [W30.size]; exact Z0
  replace hk := Nat.le_trans hk (Nat.le_of_eq W30.size.symm)
  refine Gs st30 ?_
  show GG (fT T30 m 310 #[vi x0, vj x1, vS, vj x2, vS, vj x3, vS, vi 2, vi q0, vi q1, vi q2, vi r1, vi r2, vi r3, vi r4, vi r5, vi r6, vr u7, vr u8, vr u9, vr u25, vr b26, .val (.int (Int32.ofNat (((([] : List Int32) ++ own_escs (own_fl q0 r1 r2)) ++ [(9 : Int32)]) ++ own_escs (own_fl q1 r3 r4)).length))] [])
  refine gI X30 hx hby at_310 rfl rfl ?_
  refine gC X30 hx hby at_312 ?_
  show GG (fT T30 m 313 #[vi x0, vj x1, vS, vj x2, vS, vj x3, vS, vi 2, vi q0, vi q1, vi q2, vi r1, vi r2, vi r3, vi r4, vi r5, vi r6, vr u7, vr u8, vr u9, vr u25, vr b26, .val (.int (Int32.ofNat (((([] : List Int32) ++ own_escs (own_fl q0 r1 r2)) ++ [(9 : Int32)]) ++ own_escs (own_fl q1 r3 r4)).length))] [(.int 1), (.int (Int32.ofNat (((([] : List Int32) ++ own_escs (own_fl q0 r1 r2)) ++ [(9 : Int32)]) ++ own_escs (own_fl q1 r3 r4)).length))])
  refine Gz (XS.iadd X30.here hx rfl (hb hby at_313) rfl) ?_
  show GG (fT T30 m 314 #[vi x0, vj x1, vS, vj x2, vS, vj x3, vS, vi 2, vi q0, vi q1, vi q2, vi r1, vi r2, vi r3, vi r4, vi r5, vi r6, vr u7, vr u8, vr u9, vr u25, vr b26, .val (.int (Int32.ofNat (((([] : List Int32) ++ own_escs (own_fl q0 r1 r2)) ++ [(9 : Int32)]) ++ own_escs (own_fl q1 r3 r4)).length))] [(.int ((Int32.ofNat (((([] : List Int32) ++ own_escs (own_fl q0 r1 r2)) ++ [(9 : Int32)]) ++ own_escs (own_fl q1 r3 r4)).length) + 1))])
  rw [own_snoc (((([] : List Int32) ++ own_escs (own_fl q0 r1 r2)) ++ [(9 : Int32)]) ++ own_escs (own_fl q1 r3 r4)) (10 : Int32)]
  show GG (fT T30 m 314 #[vi x0, vj x1, vS, vj x2, vS, vj x3, vS, vi 2, vi q0, vi q1, vi q2, vi r1, vi r2, vi r3, vi r4, vi r5, vi r6, vr u7, vr u8, vr u9, vr u25, vr b26, .val (.int (Int32.ofNat (((([] : List Int32) ++ own_escs (own_fl q0 r1 r2)) ++ [(9 : Int32)]) ++ own_escs (own_fl q1 r3 r4)).length))] [(.int (Int32.ofNat ((((([] : List Int32) ++ own_escs (own_fl q0 r1 r2)) ++ [(9 : Int32)]) ++ own_escs (own_fl q1 r3 r4)) ++ [(10 : Int32)]).length))])
  refine gS X30 hx hby at_314 #[vi x0, vj x1, vS, vj x2, vS, vj x3, vS, vi 2, vi q0, vi q1, vi q2, vi r1, vi r2, vi r3, vi r4, vi r5, vi r6, vr u7, vr u8, vr u9, vr u25, vr b26, .val (.int (Int32.ofNat ((((([] : List Int32) ++ own_escs (own_fl q0 r1 r2)) ++ [(9 : Int32)]) ++ own_escs (own_fl q1 r3 r4)) ++ [(10 : Int32)]).length))] ?_
  refine Gz (XS.aload X30.here hx rfl (hb hby at_316) rfl rfl) ?_
  refine Gz (XS.aload X30.here hx rfl (hb hby at_318) rfl rfl) ?_
  refine gI X30 hx hby at_320 rfl rfl ?_
  refine cS X30 hx hZ hw hown hby hml e30 mN60 122 123 124 2 0 (rm_same l Z a0 hw [] u25 ((((([] : List Int32) ++ own_escs (own_fl q0 r1 r2)) ++ [(9 : Int32)]) ++ own_escs (own_fl q1 r3 r4)) ++ [(10 : Int32)]) b26 k26 cz fo h30 n0 Z0 T_u25 V_b26 (by simp only [List.length_append, List.length_cons, List.length_nil]; omega) sgC hcz sgF r_fo sgA sgH sgL) at_322 (lenOf own_pd46 rfl) N30 (fun T31 L31 X31 e31 N31 => ?_)
  show GG (fT T31 m 325 #[vi x0, vj x1, vS, vj x2, vS, vj x3, vS, vi 2, vi q0, vi q1, vi q2, vi r1, vi r2, vi r3, vi r4, vi r5, vi r6, vr u7, vr u8, vr u9, vr u25, vr b26, .val (.int (Int32.ofNat ((((([] : List Int32) ++ own_escs (own_fl q0 r1 r2)) ++ [(9 : Int32)]) ++ own_escs (own_fl q1 r3 r4)) ++ [(10 : Int32)]).length))] [(.int 1)])
  refine Goes.retH X31 hS e31 hk hZ (own_EW hw) hh hR (some (.int 1)) (fun h => by rw [hret] at h; cases h) hlk (by decide) (by decide) ?_ (fun fs hr => ?_)
  ·rw [e31]; exact ⟨rfl, N31⟩
  ·exact own_retN X31 hx (t := .boolean) hret (by simp) rfl (hb hby at_325) hr
 ·show GG (fT T9 m 113 #[vi x0, vj x1, vS, vj x2, vS, vj x3, vS, vi 3, vi q0, vi q1, vi q2, vi r1, vi r2, vi r3, vi r4, vi r5, vi r6, vr u7, vr u8, vr u9, vu, vu, vu] [])
  refine gI X9 hx hby at_113 rfl rfl ?_
  refine gy X9 hx hby at_115 115 130 ((if0 _ _).trans (feq (by decide : ¬ ((3 : Int32) = (0 : Int32)))).2) ?_
  refine gI X9 hx hby at_130 rfl rfl ?_
  refine gC X9 hx hby at_132 ?_
  refine gY X9 hx hby at_133 133 153 (feq (by decide : ¬ ((3 : Int32) = (1 : Int32)))).2 ?_
  refine gI X9 hx hby at_153 rfl rfl ?_
  show GG (fT T9 m 155 #[vi x0, vj x1, vS, vj x2, vS, vj x3, vS, vi 3, vi q0, vi q1, vi q2, vi r1, vi r2, vi r3, vi r4, vi r5, vi r6, vr u7, vr u8, vr u9, vu, vu, vu] [(.int 3)])
  refine gC X9 hx hby at_155 ?_
  refine gY X9 hx hby at_156 156 181 (feq (by decide : ¬ ((3 : Int32) = (2 : Int32)))).2 ?_
  refine gC X9 hx hby at_181 ?_
  obtain ⟨T32, h32, k32, X32, e32, E32, A32, AE32, O32, st32⟩ := newRE X9 hx hZ hown (gw hw 7 rfl) (gw hw 29 rfl) rfl (g := (mkF m 182 #[vi x0, vj x1, vS, vj x2, vS, vj x3, vS, vi 3, vi q0, vi q1, vi q2, vi r1, vi r2, vi r3, vi r4, vi r5, vi r6, vr u7, vr u8, vr u9, vu, vu, vu] [(.int 3)])) rfl (hb hby at_182) rfl (by decide) (cap := 3) (by decide) (by decide) (by decide) (by decide) rfl
  obtain ⟨b32, gq32⟩ : ∃ z, z = T9.heap.size := ⟨_, rfl⟩
  rw [← gq32] at A32 st32 AE32
  have g_b32 : n0 ≤ b32 := by rw [gq32]; exact Z0
  have ne_u7_b32 : u7 ≠ b32 := by rw [gq32]; exact Nat.ne_of_lt T_u7.lt
  have ne_u8_b32 : u8 ≠ b32 := by rw [gq32]; exact Nat.ne_of_lt T_u8.lt
  have ne_u9_b32 : u9 ≠ b32 := by rw [gq32]; exact Nat.ne_of_lt T_u9.lt
  have Sf_b32 : Safe Z consts_1 T9.vm T9.heap b32 := Safe.new (Nat.le_of_eq gq32.symm)
  replace Sf_b32 := Safe.ext E32 hR.1 Sf_b32
  replace hR := hR.trans (CHr.ext E32 hR.1)
  replace sgC := sgC.ext E32
  replace sgF := sgF.ext E32
  replace sgA := sgA.ext E32
  replace sgH := sgH.ext E32
  replace sgL := sgL.ext E32
  replace T_u7 := T_u7.ext E32
  replace T_u8 := T_u8.ext E32
  replace T_u9 := T_u9.ext E32
  replace Z0 : n0 ≤ h32.size := Nat.le_trans Z0 E32.1
  replace hk := Nat.le_trans hk E32.1
  have A_b32 : Exa Z h32 b32 "[Ljava/lang/String;" := AE32
  have V_b32 : Arv Z h32 b32 k32 (.object "java/lang/String") (3 : Int32) [.null, .null, .null] .null := (Arv.new A32 (by decide)).pad (pad_rep [] .null 3)
  refine Gs st32 ?_
  show GG (fT T32 m 185 #[vi x0, vj x1, vS, vj x2, vS, vj x3, vS, vi 3, vi q0, vi q1, vi q2, vi r1, vi r2, vi r3, vi r4, vi r5, vi r6, vr u7, vr u8, vr u9, vu, vu, vu] [(.ref b32)])
  refine Gz (XS.dup X32.here hx rfl (hb hby at_185) rfl rfl) ?_
  refine gC X32 hx hby at_186 ?_
  refine Gz (XS.aload X32.here hx rfl (hb hby at_187) rfl rfl) ?_
  have nb_b32 := own_nbO V_b32
  obtain ⟨cl33, Ar33, q33, S33, N33z, H33, G33⟩ := V_b32
  have hin33 : ¬ ((0 : Int32) < 0 ∨ cl33.slots.size ≤ ((0 : Int32)).toNatClampNeg) := inb_of S33 ⟨by decide, by decide⟩
  obtain ⟨T33, h33, X33, e33, W33, st33⟩ := stR X32 hx hZ e32 Ar33 (j := (0 : Int32)) hin33 rfl (Sto.ofV Ar33 q33 O32 (Ins.self T_u7.exa)) (g := (mkF m 189 #[vi x0, vj x1, vS, vj x2, vS, vj x3, vS, vi 3, vi q0, vi q1, vi q2, vi r1, vi r2, vi r3, vi r4, vi r5, vi r6, vr u7, vr u8, vr u9, vu, vu, vu] [(.ref u7), (.int 0), (.ref b32), (.ref b32)])) rfl rfl (hb hby at_189)
  have Vn33 := Arv.set Ar33 q33 S33 N33z H33 G33 rfl W33 0 rfl (Nat.le_of_ble_eq_true rfl)
  have N33 := Fr.snoc X33 N9 g_b32
  have Sf_b32' := Safe.wr W33 Sf_b32 hR.1 Sf_b32
  replace hR := hR.trans (CHr.wr W33 Sf_b32 hR.1)
  replace Sf_b32 := Sf_b32'
  replace sgC := sgC.wr W33
  replace sgF := sgF.wr W33
  replace sgA := sgA.wr W33
  replace sgH := sgH.wr W33
  replace sgL := sgL.wr W33
  replace T_u7 := T_u7.wr W33 (Ne.symm ne_u7_b32) nb_b32
  replace T_u8 := T_u8.wr W33 (Ne.symm ne_u8_b32) nb_b32
  replace T_u9 := T_u9.wr W33 (Ne.symm ne_u9_b32) nb_b32
  replace A_b32 := A_b32.wr W33
  have V_b32 : Arv Z h33 b32 _ (.object "java/lang/String") (3 : Int32) [(.ref u7), .null, .null] .null := Vn33
  replace Z0 : n0 ≤ h33.size := by rw [W33.size]; exact Z0
  replace hk := Nat.le_trans hk (Nat.le_of_eq W33.size.symm)
  refine Gs st33 ?_
  show GG (fT T33 m 190 #[vi x0, vj x1, vS, vj x2, vS, vj x3, vS, vi 3, vi q0, vi q1, vi q2, vi r1, vi r2, vi r3, vi r4, vi r5, vi r6, vr u7, vr u8, vr u9, vu, vu, vu] [(.ref b32)])
  refine Gz (XS.dup X33.here hx rfl (hb hby at_190) rfl rfl) ?_
  refine gC X33 hx hby at_191 ?_
  refine Gz (XS.aload X33.here hx rfl (hb hby at_192) rfl rfl) ?_
  have nb_b32 := own_nbO V_b32
  obtain ⟨cl34, Ar34, q34, S34, N34z, H34, G34⟩ := V_b32
  have hin34 : ¬ ((1 : Int32) < 0 ∨ cl34.slots.size ≤ ((1 : Int32)).toNatClampNeg) := inb_of S34 ⟨by decide, by decide⟩
  obtain ⟨T34, h34, X34, e34, W34, st34⟩ := stR X33 hx hZ e33 Ar34 (j := (1 : Int32)) hin34 rfl (Sto.ofV Ar34 q34 O32 (Ins.self T_u8.exa)) (g := (mkF m 194 #[vi x0, vj x1, vS, vj x2, vS, vj x3, vS, vi 3, vi q0, vi q1, vi q2, vi r1, vi r2, vi r3, vi r4, vi r5, vi r6, vr u7, vr u8, vr u9, vu, vu, vu] [(.ref u8), (.int 1), (.ref b32), (.ref b32)])) rfl rfl (hb hby at_194)
  have Vn34 := Arv.set Ar34 q34 S34 N34z H34 G34 rfl W34 1 rfl (Nat.le_of_ble_eq_true rfl)
  have N34 := Fr.snoc X34 N33 g_b32
  have Sf_b32' := Safe.wr W34 Sf_b32 hR.1 Sf_b32
  replace hR := hR.trans (CHr.wr W34 Sf_b32 hR.1)
  replace Sf_b32 := Sf_b32'
  replace sgC := sgC.wr W34
  replace sgF := sgF.wr W34
  replace sgA := sgA.wr W34
  replace sgH := sgH.wr W34
  replace sgL := sgL.wr W34
  replace T_u7 := T_u7.wr W34 (Ne.symm ne_u7_b32) nb_b32
  replace T_u8 := T_u8.wr W34 (Ne.symm ne_u8_b32) nb_b32
  replace T_u9 := T_u9.wr W34 (Ne.symm ne_u9_b32) nb_b32
  replace A_b32 := A_b32.wr W34
  have V_b32 : Arv Z h34 b32 _ (.object "java/lang/String") (3 : Int32) [(.ref u7), (.ref u8), .null] .null := Vn34
  replace Z0 : n0 ≤ h34.size := by rw [W34.size]; exact Z0
  replace hk := Nat.le_trans hk (Nat.le_of_eq W34.size.symm)
  refine Gs st34 ?_
  show GG (fT T34 m 195 #[vi x0, vj x1, vS, vj x2, vS, vj x3, vS, vi 3, vi q0, vi q1, vi q2, vi r1, vi r2, vi r3, vi r4, vi r5, vi r6, vr u7, vr u8, vr u9, vu, vu, vu] [(.ref b32)])
  refine Gz (XS.dup X34.here hx rfl (hb hby at_195) rfl rfl) ?_
  refine gC X34 hx hby at_196 ?_
  refine Gz (XS.aload X34.here hx rfl (hb hby at_197) rfl rfl) ?_
  have nb_b32 := own_nbO V_b32
  obtain ⟨cl35, Ar35, q35, S35, N35z, H35, G35⟩ := V_b32
  have hin35 : ¬ ((2 : Int32) < 0 ∨ cl35.slots.size ≤ ((2 : Int32)).toNatClampNeg) := inb_of S35 ⟨by decide, by decide⟩
  obtain ⟨T35, h35, X35, e35, W35, st35⟩ := stR X34 hx hZ e34 Ar35 (j := (2 : Int32)) hin35 rfl (Sto.ofV Ar35 q35 O32 (Ins.self T_u9.exa)) (g := (mkF m 199 #[vi x0, vj x1, vS, vj x2, vS, vj x3, vS, vi 3, vi q0, vi q1, vi q2, vi r1, vi r2, vi r3, vi r4, vi r5, vi r6, vr u7, vr u8, vr u9, vu, vu, vu] [(.ref u9), (.int 2), (.ref b32), (.ref b32)])) rfl rfl (hb hby at_199)
  have Vn35 := Arv.set Ar35 q35 S35 N35z H35 G35 rfl W35 2 rfl (Nat.le_of_ble_eq_true rfl)
  have N35 := Fr.snoc X35 N34 g_b32
  replace hR := hR.trans (CHr.wr W35 Sf_b32 hR.1)
  replace sgC := sgC.wr W35
  replace sgF := sgF.wr W35
  replace sgA := sgA.wr W35
  replace sgH := sgH.wr W35
  replace sgL := sgL.wr W35
  replace T_u7 := T_u7.wr W35 (Ne.symm ne_u7_b32) nb_b32
  replace T_u8 := T_u8.wr W35 (Ne.symm ne_u8_b32) nb_b32
  replace T_u9 := T_u9.wr W35 (Ne.symm ne_u9_b32) nb_b32
  replace A_b32 := A_b32.wr W35
  have V_b32 : Arv Z h35 b32 _ (.object "java/lang/String") (3 : Int32) [(.ref u7), (.ref u8), (.ref u9)] .null := Vn35
  replace Z0 : n0 ≤ h35.size := by rw [W35.size]; exact Z0
  replace hk := Nat.le_trans hk (Nat.le_of_eq W35.size.symm)
  refine Gs st35 ?_
  show GG (fT T35 m 200 #[vi x0, vj x1, vS, vj x2, vS, vj x3, vS, vi 3, vi q0, vi q1, vi q2, vi r1, vi r2, vi r3, vi r4, vi r5, vi r6, vr u7, vr u8, vr u9, vu, vu, vu] [(.ref b32)])
  obtain ⟨_, _, ⟨T36, L36, k36, n36⟩, -, X36, hS36, gr36, ⟨Lc36, hQ36, l36, y36, z36, hC36⟩, st36⟩ := callSS X35 hx (y := mN54) hown (gz hZ hw 30 rfl) (gz hZ hw 31 rfl) (gz hZ hw 32 rfl) (gz hZ hw 33 rfl) (by decide) (backOfSH (W := 0) (rm_ln3 l Z a0 hw [] b32 k32 u7 (own_fl q0 r1 r2) u8 (own_fl q1 r3 r4) u9 (own_fl q2 r5 r6) cz fo h35 n0 Z0 V_b32 T_u7 (own_flL _ _ _) T_u8 (own_flL _ _ _) T_u9 (own_flL _ _ _) sgC hcz sgA sgH sgL sgF r_fo) hZ (gw hw 33 rfl) (gw hw 32 rfl) (by decide) (by decide) (own_EW hw) hR.1) (g := (mkF m 200 #[vi x0, vj x1, vS, vj x2, vS, vj x3, vS, vi 3, vi q0, vi q1, vi q2, vi r1, vi r2, vi r3, vi r4, vi r5, vi r6, vr u7, vr u8, vr u9, vu, vu, vu] [(.ref b32)])) rfl hml.symm (argsL := [(.ref b32)]) (rest := []) (lenOf own_pd45 rfl) rfl (wz rfl) (hb hby at_200) (fun _ _ => ⟨rfl, e35, (by decide : 19 + 19 ≤ _), (by decide : 39 + 344 ≤ _)⟩)
  dsimp only [Pt.U, Pt.locs, Pt.cells, Pt.slots] at X36 l36 y36 z36 st36 hQ36 hS36 gr36 hC36
  subst l36 y36 z36
  obtain ⟨X36, hS, hZ, hown⟩ := rebS hS hk X36 hS36 (by have q := gr36; rw [e35] at q; exact q) hZ hown
  replace hk : T36.heap.size ≤ T36.heap.size := Nat.le_refl _
  obtain ⟨u36, rfl, N36q, K36, T_u36_36'⟩ := hQ36
  have N36 := Fr.app N35 N36q
  replace hR := hR.trans hC36
  replace sgC := own_staK sgC K36 all0
  replace sgF := own_staK sgF K36 all0
  replace sgA := own_staK sgA K36 all0
  replace sgH := own_staK sgH K36 all0
  replace sgL := own_staK sgL K36 all0
  replace T_u7 := T_u7.keep K36 all0
  replace T_u8 := T_u8.keep K36 all0
  replace T_u9 := T_u9.keep K36 all0
  replace A_b32 := A_b32.keep K36
  replace Z0 := Nat.le_trans Z0 K36.1
  have T_u36 := T_u36_36'
  refine Gs (fun _ tk => st36.trans tk) ?_
  show GG (fT T36 m 203 #[vi x0, vj x1, vS, vj x2, vS, vj x3, vS, vi 3, vi q0, vi q1, vi q2, vi r1, vi r2, vi r3, vi r4, vi r5, vi r6, vr u7, vr u8, vr u9, vu, vu, vu] [(.ref u36)])
  refine Gz (XS.astore X36.here hx rfl (hb hby at_203) rfl rfl (l' := #[vi x0, vj x1, vS, vj x2, vS, vj x3, vS, vi 3, vi q0, vi q1, vi q2, vi r1, vi r2, vi r3, vi r4, vi r5, vi r6, vr u7, vr u8, vr u9, vr u36, vu, vu]) rfl) ?_
  refine gB X36 hx hby at_205 ?_
  obtain ⟨T37, h37, k37, X37, e37, E37, A37, st37⟩ := newP X36 hx hZ (gw hw 10 rfl) rfl (g := (mkF m 207 #[vi x0, vj x1, vS, vj x2, vS, vj x3, vS, vi 3, vi q0, vi q1, vi q2, vi r1, vi r2, vi r3, vi r4, vi r5, vi r6, vr u7, vr u8, vr u9, vr u36, vu, vu] [(.int 15)])) rfl (hb hby at_207) rfl (by decide) (cap := 15) (by decide) (by decide) (by decide) (by decide)
  obtain ⟨b37, gq37⟩ : ∃ z, z = T36.heap.size := ⟨_, rfl⟩
  rw [← gq37] at A37 st37
  have g_b37 : n0 ≤ b37 := by rw [gq37]; exact Z0
  have ne_u7_b37 : u7 ≠ b37 := by rw [gq37]; exact Nat.ne_of_lt T_u7.lt
  have ne_u8_b37 : u8 ≠ b37 := by rw [gq37]; exact Nat.ne_of_lt T_u8.lt
  have ne_u9_b37 : u9 ≠ b37 := by rw [gq37]; exact Nat.ne_of_lt T_u9.lt
  have ne_b32_b37 : b32 ≠ b37 := by rw [gq37]; exact Nat.ne_of_lt A_b32.lt
  have ne_u36_b37 : u36 ≠ b37 := by rw [gq37]; exact Nat.ne_of_lt T_u36.lt
  have Sf_b37 : Safe Z consts_1 T36.vm T36.heap b37 := Safe.new (Nat.le_of_eq gq37.symm)
  replace Sf_b37 := Safe.ext E37 hR.1 Sf_b37
  replace hR := hR.trans (CHr.ext E37 hR.1)
  replace sgC := sgC.ext E37
  replace sgF := sgF.ext E37
  replace sgA := sgA.ext E37
  replace sgH := sgH.ext E37
  replace sgL := sgL.ext E37
  replace T_u7 := T_u7.ext E37
  replace T_u8 := T_u8.ext E37
  replace T_u9 := T_u9.ext E37
  replace T_u36 := T_u36.ext E37
  replace Z0 : n0 ≤ h37.size := Nat.le_trans Z0 E37.1
  replace hk := Nat.le_trans hk E37.1
  have V_b37 : Arv Z h37 b37 k37 .char 15 [(.int 0), (.int 0), (.int 0), (.int 0), (.int 0), (.int 0), (.int 0), (.int 0), (.int 0), (.int 0), (.int 0), (.int 0), (.int 0), (.int 0), (.int 0)] (.int 0) := (Arv.new A37 (by decide)).pad (pad_rep [] (.int 0) 15)
  refine Gs st37 ?_
  show GG (fT T37 m 209 #[vi x0, vj x1, vS, vj x2, vS, vj x3, vS, vi 3, vi q0, vi q1, vi q2, vi r1, vi r2, vi r3, vi r4, vi r5, vi r6, vr u7, vr u8, vr u9, vr u36, vu, vu] [(.ref b37)])
  replace V_b37 := own_unp (n := 15) V_b37
  replace V_b37 : Arv Z h37 b37 k37 .char 15 (chV ([] : List Int32)) (.int 0) := V_b37
  refine Gz (XS.astore X37.here hx rfl (hb hby at_209) rfl rfl (l' := #[vi x0, vj x1, vS, vj x2, vS, vj x3, vS, vi 3, vi q0, vi q1, vi q2, vi r1, vi r2, vi r3, vi r4, vi r5, vi r6, vr u7, vr u8, vr u9, vr u36, vr b37, vu]) rfl) ?_
  refine gC X37 hx hby at_211 ?_
  refine gS X37 hx hby at_212 #[vi x0, vj x1, vS, vj x2, vS, vj x3, vS, vi 3, vi q0, vi q1, vi q2, vi r1, vi r2, vi r3, vi r4, vi r5, vi r6, vr u7, vr u8, vr u9, vr u36, vr b37, vi 0] ?_
  show GG (fT T37 m 214 #[vi x0, vj x1, vS, vj x2, vS, vj x3, vS, vi 3, vi q0, vi q1, vi q2, vi r1, vi r2, vi r3, vi r4, vi r5, vi r6, vr u7, vr u8, vr u9, vr u36, vr b37, vi (Int32.ofNat ([] : List Int32).length)] [])
  refine gI X37 hx hby at_214 rfl rfl ?_
  refine gC X37 hx hby at_216 ?_
  refine gU X37 hx hby at_217 (flt (by decide : ¬ ((3 : Int32) < (1 : Int32)))).1 ?_
  refine Gz (XS.aload X37.here hx rfl (hb hby at_220) rfl rfl) ?_
  refine gI X37 hx hby at_222 rfl rfl ?_
  refine gI X37 hx hby at_224 rfl rfl ?_
  show GG (fT T37 m 226 #[vi x0, vj x1, vS, vj x2, vS, vj x3, vS, vi 3, vi q0, vi q1, vi q2, vi r1, vi r2, vi r3, vi r4, vi r5, vi r6, vr u7, vr u8, vr u9, vr u36, vr b37, vi (Int32.ofNat ([] : List Int32).length)] [(.int q0), (.int (Int32.ofNat ([] : List Int32).length)), (.ref b37)])
  refine gI X37 hx hby at_226 rfl rfl ?_
  refine gI X37 hx hby at_228 rfl rfl ?_
  refine cSg X37 hx hZ hw hown hby hml e37 mN58 164 165 166 2 0 (rm_ef l Z a0 hw [] b37 k37 ([] : List Int32) q0 r1 r2 h37 n0 Z0 V_b37 g_b37 hCp_1 hCp_2 hq0 (by simp only [List.length_append, List.length_cons, List.length_nil]; omega)) at_230 (lenOf own_pd47 rfl) (fun _ T38 L38 X38 hQ38 => ?_)
  obtain ⟨rfl, N38q, K38, V_b37_38'⟩ := hQ38
  have N38 := Fr.app N36 N38q
  replace sgC := own_staK sgC K38 (allS (own_obA V_b37) all0)
  replace sgF := own_staK sgF K38 (allS (own_obA V_b37) all0)
  replace sgA := own_staK sgA K38 (allS (own_obA V_b37) all0)
  replace sgH := own_staK sgH K38 (allS (own_obA V_b37) all0)
  replace sgL := own_staK sgL K38 (allS (own_obA V_b37) all0)
  have Sf_b37' := Safe.keep K38 (allS Sf_b37 all0) hR.1 Sf_b37
  replace hR := hR.trans (CHr.keep K38 (allS Sf_b37 all0) hR.1)
  replace Sf_b37 := Sf_b37'
  replace T_u7 := T_u7.keep K38 (allS ⟨(Ne.symm ne_u7_b37), (own_nbC V_b37)⟩ all0)
  replace T_u8 := T_u8.keep K38 (allS ⟨(Ne.symm ne_u8_b37), (own_nbC V_b37)⟩ all0)
  replace T_u9 := T_u9.keep K38 (allS ⟨(Ne.symm ne_u9_b37), (own_nbC V_b37)⟩ all0)
  replace T_u36 := T_u36.keep K38 (allS ⟨(Ne.symm ne_u36_b37), (own_nbC V_b37)⟩ all0)
  replace Z0 := Nat.le_trans Z0 K38.1
  replace hk := Nat.le_trans hk K38.1
  have V_b37 := V_b37_38'
  show GG (fT T38 m 233 #[vi x0, vj x1, vS, vj x2, vS, vj x3, vS, vi 3, vi q0, vi q1, vi q2, vi r1, vi r2, vi r3, vi r4, vi r5, vi r6, vr u7, vr u8, vr u9, vr u36, vr b37, vi (Int32.ofNat ([] : List Int32).length)] [(.int (Int32.ofNat (([] : List Int32) ++ own_escs (own_fl q0 r1 r2)).length))])
  refine gS X38 hx hby at_233 #[vi x0, vj x1, vS, vj x2, vS, vj x3, vS, vi 3, vi q0, vi q1, vi q2, vi r1, vi r2, vi r3, vi r4, vi r5, vi r6, vr u7, vr u8, vr u9, vr u36, vr b37, vi (Int32.ofNat (([] : List Int32) ++ own_escs (own_fl q0 r1 r2)).length)] ?_
  refine gI X38 hx hby at_235 rfl rfl ?_
  refine gC X38 hx hby at_237 ?_
  refine gU X38 hx hby at_238 (flt (by decide : ¬ ((3 : Int32) < (2 : Int32)))).1 ?_
  refine Gz (XS.aload X38.here hx rfl (hb hby at_241) rfl rfl) ?_
  refine gI X38 hx hby at_243 rfl rfl ?_
  show GG (fT T38 m 245 #[vi x0, vj x1, vS, vj x2, vS, vj x3, vS, vi 3, vi q0, vi q1, vi q2, vi r1, vi r2, vi r3, vi r4, vi r5, vi r6, vr u7, vr u8, vr u9, vr u36, vr b37, vi (Int32.ofNat (([] : List Int32) ++ own_escs (own_fl q0 r1 r2)).length)] [(.int (Int32.ofNat (([] : List Int32) ++ own_escs (own_fl q0 r1 r2)).length)), (.ref b37)])
  refine gB X38 hx hby at_245 ?_
  replace V_b37 := own_padN V_b37 1
  have hzl247 : (([] : List Int32) ++ own_escs (own_fl q0 r1 r2)).length ≤ 14 := (by simp only [List.length_append, List.length_cons, List.length_nil]; omega)
  have nb_b37 := own_nbC V_b37
  obtain ⟨cl39, Ar39, q39, S39, N39z, H39, G39⟩ := V_b37
  have hin39 : ¬ ((Int32.ofNat (([] : List Int32) ++ own_escs (own_fl q0 r1 r2)).length) < 0 ∨ cl39.slots.size ≤ ((Int32.ofNat (([] : List Int32) ++ own_escs (own_fl q0 r1 r2)).length)).toNatClampNeg) := inb_of S39 ⟨(own_tnO (by omega)).2.1, (own_ltN (L := 15) (by omega) (by decide)).mpr (by omega)⟩
  obtain ⟨T39, h39, X39, e39, W39, st39⟩ := stC X38 hx hZ rfl Ar39 (j := (Int32.ofNat (([] : List Int32) ++ own_escs (own_fl q0 r1 r2)).length)) hin39 (g := (mkF m 247 #[vi x0, vj x1, vS, vj x2, vS, vj x3, vS, vi 3, vi q0, vi q1, vi q2, vi r1, vi r2, vi r3, vi r4, vi r5, vi r6, vr u7, vr u8, vr u9, vr u36, vr b37, vi (Int32.ofNat (([] : List Int32) ++ own_escs (own_fl q0 r1 r2)).length)] [(.int 9), (.int (Int32.ofNat (([] : List Int32) ++ own_escs (own_fl q0 r1 r2)).length)), (.ref b37)])) rfl rfl (hb hby at_247)
  have Vn39 := Arv.set Ar39 q39 S39 N39z H39 G39 (fits_nar_char _) W39 ((([] : List Int32) ++ own_escs (own_fl q0 r1 r2)).length) (own_tnO (by omega)).1 (own_chP _)
  have N39 := Fr.snoc X39 N38 g_b37
  have Sf_b37' := Safe.wr W39 Sf_b37 hR.1 Sf_b37
  replace hR := hR.trans (CHr.wr W39 Sf_b37 hR.1)
  replace Sf_b37 := Sf_b37'
  replace sgC := sgC.wr W39
  replace sgF := sgF.wr W39
  replace sgA := sgA.wr W39
  replace sgH := sgH.wr W39
  replace sgL := sgL.wr W39
  replace T_u7 := T_u7.wr W39 (Ne.symm ne_u7_b37) nb_b37
  replace T_u8 := T_u8.wr W39 (Ne.symm ne_u8_b37) nb_b37
  replace T_u9 := T_u9.wr W39 (Ne.symm ne_u9_b37) nb_b37
  replace T_u36 := T_u36.wr W39 (Ne.symm ne_u36_b37) nb_b37
  have V_b37 : Arv Z h39 b37 k37 .char 15 (chV ((([] : List Int32) ++ own_escs (own_fl q0 r1 r2)) ++ [(9 : Int32)])) (.int 0) := own_arvE Vn39 (by rw [own_nc (⟨by decide, by decide⟩ : Chr (9 : Int32))]; exact own_chSetO (([] : List Int32) ++ own_escs (own_fl q0 r1 r2)) (9 : Int32))
  replace Z0 : n0 ≤ h39.size := by rw [W39.size]; exact Z0
  replace hk := Nat.le_trans hk (Nat.le_of_eq W39.size.symm)
  refine Gs st39 ?_
  show GG (fT T39 m 248 #[vi x0, vj x1, vS, vj x2, vS, vj x3, vS, vi 3, vi q0, vi q1, vi q2, vi r1, vi r2, vi r3, vi r4, vi r5, vi r6, vr u7, vr u8, vr u9, vr u36, vr b37, vi (Int32.ofNat (([] : List Int32) ++ own_escs (own_fl q0 r1 r2)).length)] [])
  refine gI X39 hx hby at_248 rfl rfl ?_
  refine gC X39 hx hby at_250 ?_
  show GG (fT T39 m 251 #[vi x0, vj x1, vS, vj x2, vS, vj x3, vS, vi 3, vi q0, vi q1, vi q2, vi r1, vi r2, vi r3, vi r4, vi r5, vi r6, vr u7, vr u8, vr u9, vr u36, vr b37, vi (Int32.ofNat (([] : List Int32) ++ own_escs (own_fl q0 r1 r2)).length)] [(.int 1), (.int (Int32.ofNat (([] : List Int32) ++ own_escs (own_fl q0 r1 r2)).length))])
  refine Gz (XS.iadd X39.here hx rfl (hb hby at_251) rfl) ?_
  show GG (fT T39 m 252 #[vi x0, vj x1, vS, vj x2, vS, vj x3, vS, vi 3, vi q0, vi q1, vi q2, vi r1, vi r2, vi r3, vi r4, vi r5, vi r6, vr u7, vr u8, vr u9, vr u36, vr b37, vi (Int32.ofNat (([] : List Int32) ++ own_escs (own_fl q0 r1 r2)).length)] [(.int ((Int32.ofNat (([] : List Int32) ++ own_escs (own_fl q0 r1 r2)).length) + 1))])
  rw [own_snoc (([] : List Int32) ++ own_escs (own_fl q0 r1 r2)) (9 : Int32)]
  show GG (fT T39 m 252 #[vi x0, vj x1, vS, vj x2, vS, vj x3, vS, vi 3, vi q0, vi q1, vi q2, vi r1, vi r2, vi r3, vi r4, vi r5, vi r6, vr u7, vr u8, vr u9, vr u36, vr b37, vi (Int32.ofNat (([] : List Int32) ++ own_escs (own_fl q0 r1 r2)).length)] [(.int (Int32.ofNat ((([] : List Int32) ++ own_escs (own_fl q0 r1 r2)) ++ [(9 : Int32)]).length))])
  refine gS X39 hx hby at_252 #[vi x0, vj x1, vS, vj x2, vS, vj x3, vS, vi 3, vi q0, vi q1, vi q2, vi r1, vi r2, vi r3, vi r4, vi r5, vi r6, vr u7, vr u8, vr u9, vr u36, vr b37, vi (Int32.ofNat ((([] : List Int32) ++ own_escs (own_fl q0 r1 r2)) ++ [(9 : Int32)]).length)] ?_
  refine Gz (XS.aload X39.here hx rfl (hb hby at_254) rfl rfl) ?_
  refine gI X39 hx hby at_256 rfl rfl ?_
  refine gI X39 hx hby at_258 rfl rfl ?_
  refine gI X39 hx hby at_260 rfl rfl ?_
  refine gI X39 hx hby at_262 rfl rfl ?_
  show GG (fT T39 m 264 #[vi x0, vj x1, vS, vj x2, vS, vj x3, vS, vi 3, vi q0, vi q1, vi q2, vi r1, vi r2, vi r3, vi r4, vi r5, vi r6, vr u7, vr u8, vr u9, vr u36, vr b37, vi (Int32.ofNat ((([] : List Int32) ++ own_escs (own_fl q0 r1 r2)) ++ [(9 : Int32)]).length)] [(.int r4), (.int r3), (.int q1), (.int (Int32.ofNat ((([] : List Int32) ++ own_escs (own_fl q0 r1 r2)) ++ [(9 : Int32)]).length)), (.ref b37)])
  refine cSg X39 hx hZ hw hown hby hml e39 mN58 164 165 166 2 0 (rm_ef l Z a0 hw [] b37 k37 ((([] : List Int32) ++ own_escs (own_fl q0 r1 r2)) ++ [(9 : Int32)]) q1 r3 r4 h39 n0 Z0 V_b37 g_b37 hCp_3 hCp_4 hq1 (by simp only [List.length_append, List.length_cons, List.length_nil]; omega)) at_264 (lenOf own_pd47 rfl) (fun _ T40 L40 X40 hQ40 => ?_)
  obtain ⟨rfl, N40q, K40, V_b37_40'⟩ := hQ40
  have N40 := Fr.app N39 N40q
  replace sgC := own_staK sgC K40 (allS (own_obA V_b37) all0)
  replace sgF := own_staK sgF K40 (allS (own_obA V_b37) all0)
  replace sgA := own_staK sgA K40 (allS (own_obA V_b37) all0)
  replace sgH := own_staK sgH K40 (allS (own_obA V_b37) all0)
  replace sgL := own_staK sgL K40 (allS (own_obA V_b37) all0)
  have Sf_b37' := Safe.keep K40 (allS Sf_b37 all0) hR.1 Sf_b37
  replace hR := hR.trans (CHr.keep K40 (allS Sf_b37 all0) hR.1)
  replace Sf_b37 := Sf_b37'
  replace T_u7 := T_u7.keep K40 (allS ⟨(Ne.symm ne_u7_b37), (own_nbC V_b37)⟩ all0)
  replace T_u8 := T_u8.keep K40 (allS ⟨(Ne.symm ne_u8_b37), (own_nbC V_b37)⟩ all0)
  replace T_u9 := T_u9.keep K40 (allS ⟨(Ne.symm ne_u9_b37), (own_nbC V_b37)⟩ all0)
  replace T_u36 := T_u36.keep K40 (allS ⟨(Ne.symm ne_u36_b37), (own_nbC V_b37)⟩ all0)
  replace Z0 := Nat.le_trans Z0 K40.1
  replace hk := Nat.le_trans hk K40.1
  have V_b37 := V_b37_40'
  show GG (fT T40 m 267 #[vi x0, vj x1, vS, vj x2, vS, vj x3, vS, vi 3, vi q0, vi q1, vi q2, vi r1, vi r2, vi r3, vi r4, vi r5, vi r6, vr u7, vr u8, vr u9, vr u36, vr b37, vi (Int32.ofNat ((([] : List Int32) ++ own_escs (own_fl q0 r1 r2)) ++ [(9 : Int32)]).length)] [(.int (Int32.ofNat (((([] : List Int32) ++ own_escs (own_fl q0 r1 r2)) ++ [(9 : Int32)]) ++ own_escs (own_fl q1 r3 r4)).length))])
  refine gS X40 hx hby at_267 #[vi x0, vj x1, vS, vj x2, vS, vj x3, vS, vi 3, vi q0, vi q1, vi q2, vi r1, vi r2, vi r3, vi r4, vi r5, vi r6, vr u7, vr u8, vr u9, vr u36, vr b37, .val (.int (Int32.ofNat (((([] : List Int32) ++ own_escs (own_fl q0 r1 r2)) ++ [(9 : Int32)]) ++ own_escs (own_fl q1 r3 r4)).length))] ?_
  refine gI X40 hx hby at_269 rfl rfl ?_
  refine gC X40 hx hby at_271 ?_
  refine gU X40 hx hby at_272 (flt (by decide : ¬ ((3 : Int32) < (3 : Int32)))).1 ?_
  refine Gz (XS.aload X40.here hx rfl (hb hby at_275) rfl rfl) ?_
  refine gI X40 hx hby at_277 rfl rfl ?_
  show GG (fT T40 m 279 #[vi x0, vj x1, vS, vj x2, vS, vj x3, vS, vi 3, vi q0, vi q1, vi q2, vi r1, vi r2, vi r3, vi r4, vi r5, vi r6, vr u7, vr u8, vr u9, vr u36, vr b37, .val (.int (Int32.ofNat (((([] : List Int32) ++ own_escs (own_fl q0 r1 r2)) ++ [(9 : Int32)]) ++ own_escs (own_fl q1 r3 r4)).length))] [(.int (Int32.ofNat (((([] : List Int32) ++ own_escs (own_fl q0 r1 r2)) ++ [(9 : Int32)]) ++ own_escs (own_fl q1 r3 r4)).length)), (.ref b37)])
  refine gB X40 hx hby at_279 ?_
  replace V_b37 := own_padN V_b37 1
  have hzl281 : (((([] : List Int32) ++ own_escs (own_fl q0 r1 r2)) ++ [(9 : Int32)]) ++ own_escs (own_fl q1 r3 r4)).length ≤ 14 := (by simp only [List.length_append, List.length_cons, List.length_nil]; omega)
  have nb_b37 := own_nbC V_b37
  obtain ⟨cl41, Ar41, q41, S41, N41z, H41, G41⟩ := V_b37
  have hin41 : ¬ ((Int32.ofNat (((([] : List Int32) ++ own_escs (own_fl q0 r1 r2)) ++ [(9 : Int32)]) ++ own_escs (own_fl q1 r3 r4)).length) < 0 ∨ cl41.slots.size ≤ ((Int32.ofNat (((([] : List Int32) ++ own_escs (own_fl q0 r1 r2)) ++ [(9 : Int32)]) ++ own_escs (own_fl q1 r3 r4)).length)).toNatClampNeg) := inb_of S41 ⟨(own_tnO (by omega)).2.1, (own_ltN (L := 15) (by omega) (by decide)).mpr (by omega)⟩
  obtain ⟨T41, h41, X41, e41, W41, st41⟩ := stC X40 hx hZ rfl Ar41 (j := (Int32.ofNat (((([] : List Int32) ++ own_escs (own_fl q0 r1 r2)) ++ [(9 : Int32)]) ++ own_escs (own_fl q1 r3 r4)).length)) hin41 (g := (mkF m 281 #[vi x0, vj x1, vS, vj x2, vS, vj x3, vS, vi 3, vi q0, vi q1, vi q2, vi r1, vi r2, vi r3, vi r4, vi r5, vi r6, vr u7, vr u8, vr u9, vr u36, vr b37, .val (.int (Int32.ofNat (((([] : List Int32) ++ own_escs (own_fl q0 r1 r2)) ++ [(9 : Int32)]) ++ own_escs (own_fl q1 r3 r4)).length))] [(.int 9), (.int (Int32.ofNat (((([] : List Int32) ++ own_escs (own_fl q0 r1 r2)) ++ [(9 : Int32)]) ++ own_escs (own_fl q1 r3 r4)).length)), (.ref b37)])) rfl rfl (hb hby at_281)
  have Vn41 := Arv.set Ar41 q41 S41 N41z H41 G41 (fits_nar_char _) W41 ((((([] : List Int32) ++ own_escs (own_fl q0 r1 r2)) ++ [(9 : Int32)]) ++ own_escs (own_fl q1 r3 r4)).length) (own_tnO (by omega)).1 (own_chP _)
  have N41 := Fr.snoc X41 N40 g_b37
  have Sf_b37' := Safe.wr W41 Sf_b37 hR.1 Sf_b37
  replace hR := hR.trans (CHr.wr W41 Sf_b37 hR.1)
  replace Sf_b37 := Sf_b37'
  replace sgC := sgC.wr W41
  replace sgF := sgF.wr W41
  replace sgA := sgA.wr W41
  replace sgH := sgH.wr W41
  replace sgL := sgL.wr W41
  replace T_u7 := T_u7.wr W41 (Ne.symm ne_u7_b37) nb_b37
  replace T_u8 := T_u8.wr W41 (Ne.symm ne_u8_b37) nb_b37
  replace T_u9 := T_u9.wr W41 (Ne.symm ne_u9_b37) nb_b37
  replace T_u36 := T_u36.wr W41 (Ne.symm ne_u36_b37) nb_b37
  have V_b37 : Arv Z h41 b37 k37 .char 15 (chV ((((([] : List Int32) ++ own_escs (own_fl q0 r1 r2)) ++ [(9 : Int32)]) ++ own_escs (own_fl q1 r3 r4)) ++ [(9 : Int32)])) (.int 0) := own_arvE Vn41 (by rw [own_nc (⟨by decide, by decide⟩ : Chr (9 : Int32))]; exact own_chSetO (((([] : List Int32) ++ own_escs (own_fl q0 r1 r2)) ++ [(9 : Int32)]) ++ own_escs (own_fl q1 r3 r4)) (9 : Int32))
  replace Z0 : n0 ≤ h41.size := by rw [W41.size]; exact Z0
  replace hk := Nat.le_trans hk (Nat.le_of_eq W41.size.symm)
  refine Gs st41 ?_
  show GG (fT T41 m 282 #[vi x0, vj x1, vS, vj x2, vS, vj x3, vS, vi 3, vi q0, vi q1, vi q2, vi r1, vi r2, vi r3, vi r4, vi r5, vi r6, vr u7, vr u8, vr u9, vr u36, vr b37, .val (.int (Int32.ofNat (((([] : List Int32) ++ own_escs (own_fl q0 r1 r2)) ++ [(9 : Int32)]) ++ own_escs (own_fl q1 r3 r4)).length))] [])
  refine gI X41 hx hby at_282 rfl rfl ?_
  refine gC X41 hx hby at_284 ?_
  show GG (fT T41 m 285 #[vi x0, vj x1, vS, vj x2, vS, vj x3, vS, vi 3, vi q0, vi q1, vi q2, vi r1, vi r2, vi r3, vi r4, vi r5, vi r6, vr u7, vr u8, vr u9, vr u36, vr b37, .val (.int (Int32.ofNat (((([] : List Int32) ++ own_escs (own_fl q0 r1 r2)) ++ [(9 : Int32)]) ++ own_escs (own_fl q1 r3 r4)).length))] [(.int 1), (.int (Int32.ofNat (((([] : List Int32) ++ own_escs (own_fl q0 r1 r2)) ++ [(9 : Int32)]) ++ own_escs (own_fl q1 r3 r4)).length))])
  refine Gz (XS.iadd X41.here hx rfl (hb hby at_285) rfl) ?_
  show GG (fT T41 m 286 #[vi x0, vj x1, vS, vj x2, vS, vj x3, vS, vi 3, vi q0, vi q1, vi q2, vi r1, vi r2, vi r3, vi r4, vi r5, vi r6, vr u7, vr u8, vr u9, vr u36, vr b37, .val (.int (Int32.ofNat (((([] : List Int32) ++ own_escs (own_fl q0 r1 r2)) ++ [(9 : Int32)]) ++ own_escs (own_fl q1 r3 r4)).length))] [(.int ((Int32.ofNat (((([] : List Int32) ++ own_escs (own_fl q0 r1 r2)) ++ [(9 : Int32)]) ++ own_escs (own_fl q1 r3 r4)).length) + 1))])
  rw [own_snoc (((([] : List Int32) ++ own_escs (own_fl q0 r1 r2)) ++ [(9 : Int32)]) ++ own_escs (own_fl q1 r3 r4)) (9 : Int32)]
  show GG (fT T41 m 286 #[vi x0, vj x1, vS, vj x2, vS, vj x3, vS, vi 3, vi q0, vi q1, vi q2, vi r1, vi r2, vi r3, vi r4, vi r5, vi r6, vr u7, vr u8, vr u9, vr u36, vr b37, .val (.int (Int32.ofNat (((([] : List Int32) ++ own_escs (own_fl q0 r1 r2)) ++ [(9 : Int32)]) ++ own_escs (own_fl q1 r3 r4)).length))] [(.int (Int32.ofNat ((((([] : List Int32) ++ own_escs (own_fl q0 r1 r2)) ++ [(9 : Int32)]) ++ own_escs (own_fl q1 r3 r4)) ++ [(9 : Int32)]).length))])
  refine gS X41 hx hby at_286 #[vi x0, vj x1, vS, vj x2, vS, vj x3, vS, vi 3, vi q0, vi q1, vi q2, vi r1, vi r2, vi r3, vi r4, vi r5, vi r6, vr u7, vr u8, vr u9, vr u36, vr b37, .val (.int (Int32.ofNat ((((([] : List Int32) ++ own_escs (own_fl q0 r1 r2)) ++ [(9 : Int32)]) ++ own_escs (own_fl q1 r3 r4)) ++ [(9 : Int32)]).length))] ?_
  refine Gz (XS.aload X41.here hx rfl (hb hby at_288) rfl rfl) ?_
  refine gI X41 hx hby at_290 rfl rfl ?_
  refine gI X41 hx hby at_292 rfl rfl ?_
  refine gI X41 hx hby at_294 rfl rfl ?_
  refine gI X41 hx hby at_296 rfl rfl ?_
  show GG (fT T41 m 298 #[vi x0, vj x1, vS, vj x2, vS, vj x3, vS, vi 3, vi q0, vi q1, vi q2, vi r1, vi r2, vi r3, vi r4, vi r5, vi r6, vr u7, vr u8, vr u9, vr u36, vr b37, .val (.int (Int32.ofNat ((((([] : List Int32) ++ own_escs (own_fl q0 r1 r2)) ++ [(9 : Int32)]) ++ own_escs (own_fl q1 r3 r4)) ++ [(9 : Int32)]).length))] [(.int r6), (.int r5), (.int q2), (.int (Int32.ofNat ((((([] : List Int32) ++ own_escs (own_fl q0 r1 r2)) ++ [(9 : Int32)]) ++ own_escs (own_fl q1 r3 r4)) ++ [(9 : Int32)]).length)), (.ref b37)])
  refine cSg X41 hx hZ hw hown hby hml e41 mN58 164 165 166 2 0 (rm_ef l Z a0 hw [] b37 k37 ((((([] : List Int32) ++ own_escs (own_fl q0 r1 r2)) ++ [(9 : Int32)]) ++ own_escs (own_fl q1 r3 r4)) ++ [(9 : Int32)]) q2 r5 r6 h41 n0 Z0 V_b37 g_b37 hCp_5 hCp_6 hq2 (by simp only [List.length_append, List.length_cons, List.length_nil]; omega)) at_298 (lenOf own_pd47 rfl) (fun _ T42 L42 X42 hQ42 => ?_)
  obtain ⟨rfl, N42q, K42, V_b37_42'⟩ := hQ42
  have N42 := Fr.app N41 N42q
  replace sgC := own_staK sgC K42 (allS (own_obA V_b37) all0)
  replace sgF := own_staK sgF K42 (allS (own_obA V_b37) all0)
  replace sgA := own_staK sgA K42 (allS (own_obA V_b37) all0)
  replace sgH := own_staK sgH K42 (allS (own_obA V_b37) all0)
  replace sgL := own_staK sgL K42 (allS (own_obA V_b37) all0)
  have Sf_b37' := Safe.keep K42 (allS Sf_b37 all0) hR.1 Sf_b37
  replace hR := hR.trans (CHr.keep K42 (allS Sf_b37 all0) hR.1)
  replace Sf_b37 := Sf_b37'
  replace T_u7 := T_u7.keep K42 (allS ⟨(Ne.symm ne_u7_b37), (own_nbC V_b37)⟩ all0)
  replace T_u8 := T_u8.keep K42 (allS ⟨(Ne.symm ne_u8_b37), (own_nbC V_b37)⟩ all0)
  replace T_u9 := T_u9.keep K42 (allS ⟨(Ne.symm ne_u9_b37), (own_nbC V_b37)⟩ all0)
  replace T_u36 := T_u36.keep K42 (allS ⟨(Ne.symm ne_u36_b37), (own_nbC V_b37)⟩ all0)
  replace Z0 := Nat.le_trans Z0 K42.1
  replace hk := Nat.le_trans hk K42.1
  have V_b37 := V_b37_42'
  show GG (fT T42 m 301 #[vi x0, vj x1, vS, vj x2, vS, vj x3, vS, vi 3, vi q0, vi q1, vi q2, vi r1, vi r2, vi r3, vi r4, vi r5, vi r6, vr u7, vr u8, vr u9, vr u36, vr b37, .val (.int (Int32.ofNat ((((([] : List Int32) ++ own_escs (own_fl q0 r1 r2)) ++ [(9 : Int32)]) ++ own_escs (own_fl q1 r3 r4)) ++ [(9 : Int32)]).length))] [(.int (Int32.ofNat (((((([] : List Int32) ++ own_escs (own_fl q0 r1 r2)) ++ [(9 : Int32)]) ++ own_escs (own_fl q1 r3 r4)) ++ [(9 : Int32)]) ++ own_escs (own_fl q2 r5 r6)).length))])
  refine gS X42 hx hby at_301 #[vi x0, vj x1, vS, vj x2, vS, vj x3, vS, vi 3, vi q0, vi q1, vi q2, vi r1, vi r2, vi r3, vi r4, vi r5, vi r6, vr u7, vr u8, vr u9, vr u36, vr b37, .val (.int (Int32.ofNat (((((([] : List Int32) ++ own_escs (own_fl q0 r1 r2)) ++ [(9 : Int32)]) ++ own_escs (own_fl q1 r3 r4)) ++ [(9 : Int32)]) ++ own_escs (own_fl q2 r5 r6)).length))] ?_
  refine Gz (XS.aload X42.here hx rfl (hb hby at_303) rfl rfl) ?_
  refine gI X42 hx hby at_305 rfl rfl ?_
  refine gB X42 hx hby at_307 ?_
  replace V_b37 := own_padN V_b37 1
  have hzl309 : (((((([] : List Int32) ++ own_escs (own_fl q0 r1 r2)) ++ [(9 : Int32)]) ++ own_escs (own_fl q1 r3 r4)) ++ [(9 : Int32)]) ++ own_escs (own_fl q2 r5 r6)).length ≤ 14 := (by simp only [List.length_append, List.length_cons, List.length_nil]; omega)
  have nb_b37 := own_nbC V_b37
  obtain ⟨cl43, Ar43, q43, S43, N43z, H43, G43⟩ := V_b37
  have hin43 : ¬ ((Int32.ofNat (((((([] : List Int32) ++ own_escs (own_fl q0 r1 r2)) ++ [(9 : Int32)]) ++ own_escs (own_fl q1 r3 r4)) ++ [(9 : Int32)]) ++ own_escs (own_fl q2 r5 r6)).length) < 0 ∨ cl43.slots.size ≤ ((Int32.ofNat (((((([] : List Int32) ++ own_escs (own_fl q0 r1 r2)) ++ [(9 : Int32)]) ++ own_escs (own_fl q1 r3 r4)) ++ [(9 : Int32)]) ++ own_escs (own_fl q2 r5 r6)).length)).toNatClampNeg) := inb_of S43 ⟨(own_tnO (by omega)).2.1, (own_ltN (L := 15) (by omega) (by decide)).mpr (by omega)⟩
  obtain ⟨T43, h43, X43, e43, W43, st43⟩ := stC X42 hx hZ rfl Ar43 (j := (Int32.ofNat (((((([] : List Int32) ++ own_escs (own_fl q0 r1 r2)) ++ [(9 : Int32)]) ++ own_escs (own_fl q1 r3 r4)) ++ [(9 : Int32)]) ++ own_escs (own_fl q2 r5 r6)).length)) hin43 (g := (mkF m 309 #[vi x0, vj x1, vS, vj x2, vS, vj x3, vS, vi 3, vi q0, vi q1, vi q2, vi r1, vi r2, vi r3, vi r4, vi r5, vi r6, vr u7, vr u8, vr u9, vr u36, vr b37, .val (.int (Int32.ofNat (((((([] : List Int32) ++ own_escs (own_fl q0 r1 r2)) ++ [(9 : Int32)]) ++ own_escs (own_fl q1 r3 r4)) ++ [(9 : Int32)]) ++ own_escs (own_fl q2 r5 r6)).length))] [(.int 10), (.int (Int32.ofNat (((((([] : List Int32) ++ own_escs (own_fl q0 r1 r2)) ++ [(9 : Int32)]) ++ own_escs (own_fl q1 r3 r4)) ++ [(9 : Int32)]) ++ own_escs (own_fl q2 r5 r6)).length)), (.ref b37)])) rfl rfl (hb hby at_309)
  have Vn43 := Arv.set Ar43 q43 S43 N43z H43 G43 (fits_nar_char _) W43 ((((((([] : List Int32) ++ own_escs (own_fl q0 r1 r2)) ++ [(9 : Int32)]) ++ own_escs (own_fl q1 r3 r4)) ++ [(9 : Int32)]) ++ own_escs (own_fl q2 r5 r6)).length) (own_tnO (by omega)).1 (own_chP _)
  have N43 := Fr.snoc X43 N42 g_b37
  replace hR := hR.trans (CHr.wr W43 Sf_b37 hR.1)
  replace sgC := sgC.wr W43
  replace sgF := sgF.wr W43
  replace sgA := sgA.wr W43
  replace sgH := sgH.wr W43
  replace sgL := sgL.wr W43
  replace T_u7 := T_u7.wr W43 (Ne.symm ne_u7_b37) nb_b37
  replace T_u8 := T_u8.wr W43 (Ne.symm ne_u8_b37) nb_b37
  replace T_u9 := T_u9.wr W43 (Ne.symm ne_u9_b37) nb_b37
  replace T_u36 := T_u36.wr W43 (Ne.symm ne_u36_b37) nb_b37
  have V_b37 : Arv Z h43 b37 k37 .char 15 (chV ((((((([] : List Int32) ++ own_escs (own_fl q0 r1 r2)) ++ [(9 : Int32)]) ++ own_escs (own_fl q1 r3 r4)) ++ [(9 : Int32)]) ++ own_escs (own_fl q2 r5 r6)) ++ [(10 : Int32)])) (.int 0) := own_arvE Vn43 (by rw [own_nc (⟨by decide, by decide⟩ : Chr (10 : Int32))]; exact own_chSetO (((((([] : List Int32) ++ own_escs (own_fl q0 r1 r2)) ++ [(9 : Int32)]) ++ own_escs (own_fl q1 r3 r4)) ++ [(9 : Int32)]) ++ own_escs (own_fl q2 r5 r6)) (10 : Int32))
  replace Z0 : n0 ≤ h43.size := by rw [W43.size]; exact Z0
  replace hk := Nat.le_trans hk (Nat.le_of_eq W43.size.symm)
  refine Gs st43 ?_
  show GG (fT T43 m 310 #[vi x0, vj x1, vS, vj x2, vS, vj x3, vS, vi 3, vi q0, vi q1, vi q2, vi r1, vi r2, vi r3, vi r4, vi r5, vi r6, vr u7, vr u8, vr u9, vr u36, vr b37, .val (.int (Int32.ofNat (((((([] : List Int32) ++ own_escs (own_fl q0 r1 r2)) ++ [(9 : Int32)]) ++ own_escs (own_fl q1 r3 r4)) ++ [(9 : Int32)]) ++ own_escs (own_fl q2 r5 r6)).length))] [])
  refine gI X43 hx hby at_310 rfl rfl ?_
  refine gC X43 hx hby at_312 ?_
  show GG (fT T43 m 313 #[vi x0, vj x1, vS, vj x2, vS, vj x3, vS, vi 3, vi q0, vi q1, vi q2, vi r1, vi r2, vi r3, vi r4, vi r5, vi r6, vr u7, vr u8, vr u9, vr u36, vr b37, .val (.int (Int32.ofNat (((((([] : List Int32) ++ own_escs (own_fl q0 r1 r2)) ++ [(9 : Int32)]) ++ own_escs (own_fl q1 r3 r4)) ++ [(9 : Int32)]) ++ own_escs (own_fl q2 r5 r6)).length))] [(.int 1), (.int (Int32.ofNat (((((([] : List Int32) ++ own_escs (own_fl q0 r1 r2)) ++ [(9 : Int32)]) ++ own_escs (own_fl q1 r3 r4)) ++ [(9 : Int32)]) ++ own_escs (own_fl q2 r5 r6)).length))])
  refine Gz (XS.iadd X43.here hx rfl (hb hby at_313) rfl) ?_
  show GG (fT T43 m 314 #[vi x0, vj x1, vS, vj x2, vS, vj x3, vS, vi 3, vi q0, vi q1, vi q2, vi r1, vi r2, vi r3, vi r4, vi r5, vi r6, vr u7, vr u8, vr u9, vr u36, vr b37, .val (.int (Int32.ofNat (((((([] : List Int32) ++ own_escs (own_fl q0 r1 r2)) ++ [(9 : Int32)]) ++ own_escs (own_fl q1 r3 r4)) ++ [(9 : Int32)]) ++ own_escs (own_fl q2 r5 r6)).length))] [(.int ((Int32.ofNat (((((([] : List Int32) ++ own_escs (own_fl q0 r1 r2)) ++ [(9 : Int32)]) ++ own_escs (own_fl q1 r3 r4)) ++ [(9 : Int32)]) ++ own_escs (own_fl q2 r5 r6)).length) + 1))])
  rw [own_snoc (((((([] : List Int32) ++ own_escs (own_fl q0 r1 r2)) ++ [(9 : Int32)]) ++ own_escs (own_fl q1 r3 r4)) ++ [(9 : Int32)]) ++ own_escs (own_fl q2 r5 r6)) (10 : Int32)]
  show GG (fT T43 m 314 #[vi x0, vj x1, vS, vj x2, vS, vj x3, vS, vi 3, vi q0, vi q1, vi q2, vi r1, vi r2, vi r3, vi r4, vi r5, vi r6, vr u7, vr u8, vr u9, vr u36, vr b37, .val (.int (Int32.ofNat (((((([] : List Int32) ++ own_escs (own_fl q0 r1 r2)) ++ [(9 : Int32)]) ++ own_escs (own_fl q1 r3 r4)) ++ [(9 : Int32)]) ++ own_escs (own_fl q2 r5 r6)).length))] [(.int (Int32.ofNat ((((((([] : List Int32) ++ own_escs (own_fl q0 r1 r2)) ++ [(9 : Int32)]) ++ own_escs (own_fl q1 r3 r4)) ++ [(9 : Int32)]) ++ own_escs (own_fl q2 r5 r6)) ++ [(10 : Int32)]).length))])
  refine gS X43 hx hby at_314 #[vi x0, vj x1, vS, vj x2, vS, vj x3, vS, vi 3, vi q0, vi q1, vi q2, vi r1, vi r2, vi r3, vi r4, vi r5, vi r6, vr u7, vr u8, vr u9, vr u36, vr b37, .val (.int (Int32.ofNat ((((((([] : List Int32) ++ own_escs (own_fl q0 r1 r2)) ++ [(9 : Int32)]) ++ own_escs (own_fl q1 r3 r4)) ++ [(9 : Int32)]) ++ own_escs (own_fl q2 r5 r6)) ++ [(10 : Int32)]).length))] ?_
  refine Gz (XS.aload X43.here hx rfl (hb hby at_316) rfl rfl) ?_
  refine Gz (XS.aload X43.here hx rfl (hb hby at_318) rfl rfl) ?_
  refine gI X43 hx hby at_320 rfl rfl ?_
  refine cS X43 hx hZ hw hown hby hml e43 mN60 122 123 124 2 0 (rm_same l Z a0 hw [] u36 ((((((([] : List Int32) ++ own_escs (own_fl q0 r1 r2)) ++ [(9 : Int32)]) ++ own_escs (own_fl q1 r3 r4)) ++ [(9 : Int32)]) ++ own_escs (own_fl q2 r5 r6)) ++ [(10 : Int32)]) b37 k37 cz fo h43 n0 Z0 T_u36 V_b37 (by simp only [List.length_append, List.length_cons, List.length_nil]; omega) sgC hcz sgF r_fo sgA sgH sgL) at_322 (lenOf own_pd46 rfl) N43 (fun T44 L44 X44 e44 N44 => ?_)
  show GG (fT T44 m 325 #[vi x0, vj x1, vS, vj x2, vS, vj x3, vS, vi 3, vi q0, vi q1, vi q2, vi r1, vi r2, vi r3, vi r4, vi r5, vi r6, vr u7, vr u8, vr u9, vr u36, vr b37, .val (.int (Int32.ofNat ((((((([] : List Int32) ++ own_escs (own_fl q0 r1 r2)) ++ [(9 : Int32)]) ++ own_escs (own_fl q1 r3 r4)) ++ [(9 : Int32)]) ++ own_escs (own_fl q2 r5 r6)) ++ [(10 : Int32)]).length))] [(.int 1)])
  refine Goes.retH X44 hS e44 hk hZ (own_EW hw) hh hR (some (.int 1)) (fun h => by rw [hret] at h; cases h) hlk (by decide) (by decide) ?_ (fun fs hr => ?_)
  ·rw [e44]; exact ⟨rfl, N44⟩
  ·exact own_retN X44 hx (t := .boolean) hret (by simp) rfl (hb hby at_325) hr
theorem comes_1 {Post : Tables → Env → Array Value → State → Outcome → State → Prop} (hpost : ∀ tb e args s v u, (limb_1_1.after args s (.returned v) u = true ∧ limb_1_2.after args s (.returned v) u = true ∧ True) → ReturnedEndW s (.returned v) u (Jvm.fieldLocs frame_1_writes args s ++ Jvm.arrayLocs frame_1_arrays args s ++ Jvm.staticLocs frame_1_statics s) 56 5504 → Post tb e args s (.returned v) u) :
  ArmFor flags0 classFile x code maxLocals ret World_1 tables_1 room_1 Calls_1 rest_1 Pre_1 Post := by
 intro l hfl _ _ p e ha hc hk s m args below hf hA hF happ hP
 obtain ⟨hcalls, hrest, hpre⟩ := hP
 obtain ⟨-, -, -, hnamed, -, -, -, hat⟩ := (Spec.applies_iff hf).mp happ
 obtain ⟨hg, hn⟩ := and_e (Cond.before_iff.mp (show (Jvm.Cond.and given_1 narrow_1).before args s = true from hpre))
 obtain ⟨g0, hg0⟩ := and_e hg
 obtain ⟨ga0, hg0'⟩ := and_e hg0
 obtain ⟨ga1, hg0''⟩ := and_e hg0'
 obtain ⟨ga2, hg0'''⟩ := and_e hg0''
 obtain ⟨w0, w1, w2, w3, rfl⟩ : ∃ w0 w1 w2 w3 : Value, args = #[w0, w1, w2, w3] := by
  have hs : args.size = 4 := by simpa [Cond.value, given_1] using g0
  obtain ⟨L⟩ := args
  match L, hs with
  | [w0, w1, w2, w3], _ => exact ⟨w0, w1, w2, w3, rfl⟩
 have hw := fun d (hd : d ∈ tables_1) => atoms_spec (ws := Jvm.Cond.code x code maxLocals ret :: tables_1) hat d (List.mem_cons_of_mem _ hd)
 have hfit : Fit s := fun {y c} hc i hi => by
  obtain ⟨ha, rfl⟩ := Array.getElem?_eq_some_iff.mp hc
  have q := List.all_eq_true.mp ((Array.all_eq_true_iff_forall_mem.mp hF) _ (Array.getElem_mem ha)) i (List.mem_range.mpr hi)
  simpa [Array.getElem?_eq_getElem hi] using q
 obtain ⟨hsets, hown0⟩ := atoms_of _ (rest_1_c_eq ▸ (show rest_1_c.before _ s = true from hrest))
 have hr0 := Cond.before_iff.mp hown0
 obtain ⟨i0, ei0⟩ := is_v ga0
 obtain rfl : w0 = (.int i0) := Option.some.inj ei0
 obtain ⟨i1, ei1⟩ := isL_v ga1
 obtain rfl : w1 = (.long i1) := Option.some.inj ei1
 obtain ⟨i2, ei2⟩ := isL_v ga2
 obtain rfl : w2 = (.long i2) := Option.some.inj ei2
 obtain ⟨i3, ei3⟩ := isL_v hg0'''
 obtain rfl : w3 = (.long i3) := Option.some.inj ei3
 obtain ⟨cz, evc⟩ := is_v (Cond.before_iff.mp (hsets _ (List.mem_of_getElem? (i := 1) rfl)))
 have S_c := Sta.start evc (Or.inl (hsets _ (List.mem_of_getElem? (i := 0) rfl)))
 have hcz : ¬ (cz = 0) := gotF (Cond.eq_ints evc rfl) (not_v (Cond.before_iff.mp (hsets _ (List.mem_of_getElem? (i := 2) rfl))))
 obtain ⟨fo, evf, r_fo⟩ := isR_v (Cond.before_iff.mp (hsets _ (List.mem_of_getElem? (i := 8) rfl)))
 have S_f := Sta.start evf (Or.inl (hsets _ (List.mem_of_getElem? (i := 7) rfl)))
 have ev0 := own_stv (Cond.before_iff.mp (hsets _ (List.mem_of_getElem? (i := 12) rfl)))
 have S_u0 := Sta.start ev0 (Or.inl (hsets _ (List.mem_of_getElem? (i := 11) rfl)))
 have ev1 := own_stv (Cond.before_iff.mp (hsets _ (List.mem_of_getElem? (i := 15) rfl)))
 have S_u1 := Sta.start ev1 (Or.inl (hsets _ (List.mem_of_getElem? (i := 14) rfl)))
 have ev2 := own_stv (Cond.before_iff.mp (hsets _ (List.mem_of_getElem? (i := 18) rfl)))
 have S_u2 := Sta.start ev2 (Or.inl (hsets _ (List.mem_of_getElem? (i := 17) rfl)))
 have hCH : CHv s consts_1 s.vm s.heap := CHv.start (own_EW hw) hcalls.1 (hsets _ (List.mem_of_getElem? (i := 2) rfl)) (gw hw 22 rfl) (gw hw 8 rfl)
 obtain ⟨n, o, h1, h2, h3, _, L, rfl, ⟨rfl, N⟩, hq⟩ := rm_law l s _ hw tables_1 i0 i1 i2 i3 cz fo s.heap s.heap.size (Nat.le_refl _) S_c hcz S_f r_fo S_u0 S_u1 S_u2 p e ha hc hk s m _ below hf ((Spec.applies_iff_loose hf).mp happ).1 ⟨rfl, State.Warmed39.refl s, rfl, hCH⟩ trivial
 refine ⟨n, _, h1, h2, h3, hpost _ _ _ _ _ _ ⟨Cond.after_iff.mpr rfl, Cond.after_iff.mpr (eq_i res_at (Term.int_eval (1)) rfl), trivial⟩ ⟨hq.2.1, hq.2.2.1, hq.2.2.2.1, (hq.2.2.2.2.sift fun y hy => Or.inr (N y hy)).mono (by decide) (by decide)⟩⟩
theorem main_1_1 : Claimed_1_1 := comes_1 fun _ _ _ _ _ _ h hF => ⟨h.1, hF⟩
theorem main_1_2 : Claimed_1_2 := comes_1 fun _ _ _ _ _ _ h hF => ⟨h.2.1, hF⟩
end Jvm.Pilot.@@N@@
namespace Jvm.Pilot.@@N@@
open Jvm Jvm.ClassFile Sem Op Lib Jvm.Free Jvm.Stand Jvm.Pilot.@@N@@.Jvm.D
/-! MADE BY PROGRAM (witnessworld.py) out of the Statement's table words and the real class files: 27 classes; the members and pool entries that the words name. The judged class is class 1, her method 1. -/
namespace start1
open Jvm.ClassFile
def u (s : String) : CpInfo := .utf8 (stringToUtf16 s)
/-- a pool by its gaps: so many unusable entries, then the entry; so many at the end -/
def gap : Nat → List CpInfo → List CpInfo
  | 0, r => r
  | n + 1, r => .unusable :: gap n r
def poolList (es : List (Nat × CpInfo)) (last : Nat) : List CpInfo := es.foldr (fun e r => gap e.1 (e.2 :: r)) (gap last [])
def pool (es : List (Nat × CpInfo)) (last : Nat) : Array CpInfo := ⟨poolList es last⟩
def fileOf (pool : Array CpInfo) (this : Nat) (attrs : Array Attribute := #[]) (ms : Array MethodInfo := #[]) (fl : Nat := 33) (sup : Nat := 0) (ifs : Array Nat := #[]) (fds : Array FieldInfo := #[]) : ClassFile where
  minorVersion := 0
  majorVersion := 65
  constantPool := pool
  accessFlags := fl
  thisClass := this
  superClass := sup
  interfaces := ifs
  fields := fds
  methods := ms
  attributes := attrs
def plain (name : String) (sup : Option ClassId) : Class where
  name := name
  kind := .ordinary
  loader := none
  accessFlags := 33
  super := sup
  interfaces := #[]
  cf := none
  fields := #[]
  methods := #[]
  instanceTypes := #[]
  staticTypes := #[]
  resolved := #[]
  callSites := []
  init := .initialized
  statics := none
  mirror := none

def pool0 : Array CpInfo := pool [(5, u "<init>"), (0, u "()V"), (1, .class_ 10), (1, u "java/lang/Object")] 113

def k0c0 : Code := { maxStack := 0, maxLocals := 1, code := object_method_1_code, exceptionTable := #[], attributes := #[] }
def k0m0 : Method := { name := "<init>", desc := "()V", sig := { parameters := [], returnType := none }, accessFlags := 1, code := some k0c0 }
/-- java/lang/Object -/
def k0 : Class := { plain "java/lang/Object" none with
  accessFlags := 33
  interfaces := #[]
  cf := some (fileOf pool0 8 #[] #[{ accessFlags := 1, nameIndex := 5, descriptorIndex := 6, attributes := #[] }] 33 0 #[] #[])
  fields := #[]
  methods := #[k0m0]
  instanceTypes := #[]
  staticTypes := #[]
  resolved := Array.replicate 124 none
  statics := none }

def pool1 : Array CpInfo := pool [(2, .class_ 4), (1, u "java/lang/Object"), (0, u "<init>"), (0, u "()V"), (0, .methodref 8 9), (0, .class_ 10), (0, .nameAndType 11 12), (0, u "com/example/surfacemap/surfacemap/cli/TsvLinePinLaw"), (0, u "pick"), (0, u "(J)C"), (0, .methodref 8 14), (0, .nameAndType 15 16), (0, u "field"), (0, u "(ICC)Ljava/lang/String;"), (0, .class_ 18), (0, u "java/lang/String"), (0, .methodref 20 21), (0, .class_ 22), (0, .nameAndType 23 24), (0, u "com/example/surfacemap/surfacemap/cli/Tsv"), (0, u "line"), (0, u "([Ljava/lang/String;)Ljava/lang/String;"), (0, .methodref 8 26), (0, .nameAndType 27 28), (0, u "escField"), (0, u "([CIICC)I"), (0, .methodref 8 30), (0, .nameAndType 31 32), (0, u "same"), (0, u "(Ljava/lang/String;[CI)Z"), (0, .methodref 17 34), (0, .nameAndType 5 35), (0, u "([C)V"), (0, .methodref 17 37), (0, .nameAndType 38 39), (0, u "valueOf"), (0, u "(C)Ljava/lang/String;"), (0, .methodref 8 41), (0, .nameAndType 42 43), (0, u "esc"), (0, u "([CIC)I"), (0, .methodref 17 45), (0, .nameAndType 46 47), (0, u "charAt"), (0, u "(I)C"), (0, .methodref 17 49), (0, .nameAndType 50 51), (0, u "length"), (0, u "()I"), (0, .methodref 8 53), (0, .nameAndType 54 55), (0, u "at"), (0, u "(Ljava/lang/String;[CII)Z"), (2, u "law"), (0, u "(IJJJ)Z")] 5

def k1m0 : Method := { name := "<init>", desc := "()V", sig := { parameters := [], returnType := none }, accessFlags := 1, code := none }
def k1c1 : Code := { maxStack := 5, maxLocals := 23, code := code, exceptionTable := #[], attributes := #[] }
def k1m1 : Method := { name := "law", desc := "(IJJJ)Z", sig := { parameters := [.int, .long, .long, .long], returnType := some .boolean }, accessFlags := 9, code := some k1c1 }
def k1c2 : Code := { maxStack := 3, maxLocals := 3, code := method_3_code, exceptionTable := #[], attributes := #[] }
def k1m2 : Method := { name := "pick", desc := "(J)C", sig := { parameters := [.long], returnType := some .char }, accessFlags := 10, code := some k1c2 }
def k1c3 : Code := { maxStack := 6, maxLocals := 3, code := method_4_code, exceptionTable := #[], attributes := #[] }
def k1m3 : Method := { name := "field", desc := "(ICC)Ljava/lang/String;", sig := { parameters := [.int, .char, .char], returnType := some (.object "java/lang/String") }, accessFlags := 10, code := some k1c3 }
def k1c4 : Code := { maxStack := 3, maxLocals := 3, code := method_5_code, exceptionTable := #[], attributes := #[] }
def k1m4 : Method := { name := "esc", desc := "([CIC)I", sig := { parameters := [(.array .char), .int, .char], returnType := some .int }, accessFlags := 10, code := some k1c4 }
def k1c5 : Code := { maxStack := 3, maxLocals := 6, code := method_6_code, exceptionTable := #[], attributes := #[] }
def k1m5 : Method := { name := "escField", desc := "([CIICC)I", sig := { parameters := [(.array .char), .int, .int, .char, .char], returnType := some .int }, accessFlags := 10, code := some k1c5 }
def k1c6 : Code := { maxStack := 3, maxLocals := 4, code := method_7_code, exceptionTable := #[], attributes := #[] }
def k1m6 : Method := { name := "at", desc := "(Ljava/lang/String;[CII)Z", sig := { parameters := [(.object "java/lang/String"), (.array .char), .int, .int], returnType := some .boolean }, accessFlags := 10, code := some k1c6 }
def k1c7 : Code := { maxStack := 4, maxLocals := 3, code := method_8_code, exceptionTable := #[], attributes := #[] }
def k1m7 : Method := { name := "same", desc := "(Ljava/lang/String;[CI)Z", sig := { parameters := [(.object "java/lang/String"), (.array .char), .int], returnType := some .boolean }, accessFlags := 10, code := some k1c7 }
/-- com/example/surfacemap/surfacemap/cli/TsvLinePinLaw -/
def k1 : Class := { plain "com/example/surfacemap/surfacemap/cli/TsvLinePinLaw" (some 0) with
  accessFlags := 49
  interfaces := #[]
  cf := some (fileOf pool1 8 #[] #[{ accessFlags := 1, nameIndex := 5, descriptorIndex := 6, attributes := #[] }, { accessFlags := 9, nameIndex := 58, descriptorIndex := 59, attributes := #[] }, { accessFlags := 10, nameIndex := 11, descriptorIndex := 12, attributes := #[] }, { accessFlags := 10, nameIndex := 15, descriptorIndex := 16, attributes := #[] }, { accessFlags := 10, nameIndex := 42, descriptorIndex := 43, attributes := #[] }, { accessFlags := 10, nameIndex := 27, descriptorIndex := 28, attributes := #[] }, { accessFlags := 10, nameIndex := 54, descriptorIndex := 55, attributes := #[] }, { accessFlags := 10, nameIndex := 31, descriptorIndex := 32, attributes := #[] }] 49 2 #[] #[])
  fields := #[]
  methods := #[k1m0, k1m1, k1m2, k1m3, k1m4, k1m5, k1m6, k1m7]
  instanceTypes := #[]
  staticTypes := #[]
  resolved := Array.replicate 65 none
  statics := none }

def pool2 : Array CpInfo := pool [(1, .class_ 2), (0, u "java/io/Serializable"), (0, .class_ 4), (0, u "java/lang/Object")] 2

/-- java/io/Serializable -/
def k2 : Class := { plain "java/io/Serializable" (some 0) with
  accessFlags := 1537
  interfaces := #[]
  cf := some (fileOf pool2 1 #[] #[] 1537 3 #[] #[])
  fields := #[]
  methods := #[]
  instanceTypes := #[]
  staticTypes := #[]
  resolved := Array.replicate 7 none
  statics := none }

def pool3 : Array CpInfo := pool [(1, .class_ 2), (0, u "java/lang/Comparable"), (0, .class_ 4), (0, u "java/lang/Object")] 7

/-- java/lang/Comparable -/
def k3 : Class := { plain "java/lang/Comparable" (some 0) with
  accessFlags := 1537
  interfaces := #[]
  cf := some (fileOf pool3 1 #[] #[] 1537 3 #[] #[])
  fields := #[]
  methods := #[]
  instanceTypes := #[]
  staticTypes := #[]
  resolved := Array.replicate 12 none
  statics := none }

def pool4 : Array CpInfo := pool [(2, .class_ 4), (1, u "java/lang/CharSequence"), (42, .class_ 48), (0, u "java/lang/CharSequence$1CodePointIterator"), (10, .class_ 60), (0, u "java/lang/CharSequence$1CharIterator"), (5, .class_ 67), (0, u "java/lang/Object")] 63

/-- java/lang/CharSequence -/
def k4 : Class := { plain "java/lang/CharSequence" (some 0) with
  accessFlags := 1537
  interfaces := #[]
  cf := some (fileOf pool4 2 #[.nestMembers #[47, 59]] #[] 1537 66 #[] #[])
  fields := #[]
  methods := #[]
  instanceTypes := #[]
  staticTypes := #[]
  resolved := Array.replicate 131 none
  statics := none }

def pool5 : Array CpInfo := pool [(1, .class_ 2), (0, u "java/lang/constant/Constable"), (0, .class_ 4), (0, u "java/lang/Object")] 6

/-- java/lang/constant/Constable -/
def k5 : Class := { plain "java/lang/constant/Constable" (some 0) with
  accessFlags := 1537
  interfaces := #[]
  cf := some (fileOf pool5 1 #[] #[] 1537 3 #[] #[])
  fields := #[]
  methods := #[]
  instanceTypes := #[]
  staticTypes := #[]
  resolved := Array.replicate 11 none
  statics := none }

def pool6 : Array CpInfo := pool [(1, .class_ 2), (0, u "java/lang/constant/ConstantDesc"), (0, .class_ 4), (0, u "java/lang/Object")] 32

/-- java/lang/constant/ConstantDesc -/
def k6 : Class := { plain "java/lang/constant/ConstantDesc" (some 0) with
  accessFlags := 1537
  interfaces := #[]
  cf := some (fileOf pool6 1 #[] #[] 1537 3 #[] #[])
  fields := #[]
  methods := #[]
  instanceTypes := #[]
  staticTypes := #[]
  resolved := Array.replicate 37 none
  statics := none }

def pool7 : Array CpInfo := pool [(1, .methodref 2 3), (0, .class_ 4), (0, .nameAndType 5 6), (0, u "java/lang/Object"), (0, u "<init>"), (0, u "()V"), (0, .string 8), (0, u ""), (0, .fieldref 10 11), (0, .class_ 12), (0, .nameAndType 13 14), (0, u "java/lang/String"), (0, u "value"), (0, u "[B"), (0, .fieldref 10 16), (0, .nameAndType 17 18), (0, u "coder"), (0, u "B"), (2, u "hash"), (0, u "I"), (2, u "hashIsZero"), (0, u "Z"), (0, .methodref 10 28), (0, .nameAndType 5 29), (0, u "([CIILjava/lang/Void;)V"), (6, u "checkBoundsOffCount"), (0, u "(III)I"), (0, .fieldref 10 39), (0, .nameAndType 40 26), (0, u "COMPACT_STRINGS"), (1, .class_ 44), (1, u "java/lang/StringUTF16"), (0, u "compress"), (1, .methodref 42 48), (0, .nameAndType 49 50), (0, u "coderFromArrayLen"), (0, u "([BI)B"), (2, u "toBytes"), (0, .methodref 55 56), (0, .class_ 57), (0, .nameAndType 58 59), (0, u "java/util/Arrays"), (0, u "copyOfRange"), (0, u "([BII)[B"), (46, .methodref 107 108), (0, .class_ 109), (0, .nameAndType 110 111), (0, u "java/lang/StringLatin1"), (0, u "inflate"), (0, u "([BI[BII)V"), (30, u "()Z"), (34, .methodref 42 178), (0, .nameAndType 45 179), (0, u "([CII)[B"), (13, .class_ 195), (1, u "java/lang/System"), (13, .methodref 10 210), (0, .nameAndType 5 211), (0, u "([BB)V"), (0, .methodref 193 213), (0, .nameAndType 214 215), (0, u "arraycopy"), (0, u "(Ljava/lang/Object;ILjava/lang/Object;II)V"), (118, u "()I"), (0, .methodref 10 336), (0, .nameAndType 17 337), (0, u "()B"), (2, u "()[B"), (22, u "([BI)C"), (5, u "(C)Z"), (21, u "(II)V"), (35, u "(I)C"), (61, .methodref 10 490), (0, .nameAndType 5 491), (0, u "(Ljava/lang/AbstractStringBuilder;Ljava/lang/Void;)V"), (0, .methodref 10 493), (0, .nameAndType 494 142), (0, u "isLatin1"), (0, .methodref 107 496), (0, .nameAndType 497 363), (0, u "charAt"), (0, .methodref 42 496), (2, u "checkIndex"), (4, .nameAndType 507 334), (0, u "length"), (24, u "getBytes"), (16, .methodref 550 506), (0, .class_ 551), (0, u "java/lang/AbstractStringBuilder"), (0, .methodref 550 553), (0, .nameAndType 554 340), (0, u "getValue"), (20, .class_ 576), (0, u "java/lang/CharSequence"), (22, u "CASE_INSENSITIVE_ORDER"), (0, u "Ljava/util/Comparator;"), (181, u "valueOf"), (0, u "(C)Ljava/lang/String;"), (37, u "([BIB)V"), (188, u "([C)V"), (4, .methodref 107 1016), (0, .nameAndType 1017 369), (0, u "canEncode"), (0, .methodref 107 1019), (0, .nameAndType 53 1020), (0, u "(C)[B"), (0, .methodref 42 1019), (25, .methodref 550 493), (0, .fieldref 550 1049), (0, .nameAndType 1050 26), (0, u "maybeLatin1"), (2, .fieldref 1054 1055), (0, .class_ 1056), (0, .nameAndType 1057 1058), (0, u "jdk/internal/util/Preconditions"), (0, u "SIOOBE_FORMATTER"), (0, u "Ljava/util/function/BiFunction;"), (0, .methodref 1054 1060), (0, .nameAndType 501 1061), (0, u "(IILjava/util/function/BiFunction;)I"), (2, u "(IIILjava/util/function/BiFunction;)I"), (0, .methodref 1054 1066), (0, .nameAndType 1067 1064), (0, u "checkFromIndexSize"), (33, u "serialPersistentFields"), (0, u "[Ljava/io/ObjectStreamField;"), (0, .class_ 1104), (0, u "java/lang/String$CaseInsensitiveComparator"), (1, .class_ 1107), (0, u "java/io/Serializable"), (0, .class_ 1109), (0, u "java/lang/Comparable"), (0, .class_ 1111), (0, u "java/lang/constant/Constable"), (0, .class_ 1113), (0, u "java/lang/constant/ConstantDesc"), (2, u "serialVersionUID"), (0, u "J"), (3, u "REPL"), (0, u "C"), (2, u "LATIN1"), (1, u "UTF16"), (105, u "(Ljava/lang/StringBuilder;)V")] 217

def k7m0 : Method := { name := "<init>", desc := "()V", sig := { parameters := [], returnType := none }, accessFlags := 1, code := none }
def k7c1 : Code := { maxStack := 5, maxLocals := 2, code := jdk_42_method_3_code, exceptionTable := #[], attributes := #[] }
def k7m1 : Method := { name := "<init>", desc := "([C)V", sig := { parameters := [(.array .char)], returnType := none }, accessFlags := 1, code := some k7c1 }
def k7c2 : Code := { maxStack := 3, maxLocals := 2, code := jdk_42_method_53_code, exceptionTable := #[], attributes := #[] }
def k7m2 : Method := { name := "<init>", desc := "(Ljava/lang/StringBuilder;)V", sig := { parameters := [(.object "java/lang/StringBuilder")], returnType := none }, accessFlags := 1, code := some k7c2 }
def k7c3 : Code := { maxStack := 2, maxLocals := 1, code := jdk_42_method_54_code, exceptionTable := #[], attributes := #[] }
def k7m3 : Method := { name := "length", desc := "()I", sig := { parameters := [], returnType := some .int }, accessFlags := 1, code := some k7c3 }
def k7c4 : Code := { maxStack := 2, maxLocals := 2, code := jdk_42_method_56_code, exceptionTable := #[], attributes := #[] }
def k7m4 : Method := { name := "charAt", desc := "(I)C", sig := { parameters := [.int], returnType := some .char }, accessFlags := 1, code := some k7c4 }
def k7c5 : Code := { maxStack := 4, maxLocals := 1, code := jdk_42_method_139_code, exceptionTable := #[], attributes := #[] }
def k7m5 : Method := { name := "valueOf", desc := "(C)Ljava/lang/String;", sig := { parameters := [.char], returnType := some (.object "java/lang/String") }, accessFlags := 9, code := some k7c5 }
def k7c6 : Code := { maxStack := 5, maxLocals := 4, code := jdk_42_method_147_code, exceptionTable := #[], attributes := #[] }
def k7m6 : Method := { name := "getBytes", desc := "([BIB)V", sig := { parameters := [(.array .byte), .int, .byte], returnType := none }, accessFlags := 0, code := some k7c6 }
def k7c7 : Code := { maxStack := 4, maxLocals := 6, code := jdk_42_method_149_code, exceptionTable := #[], attributes := #[] }
def k7m7 : Method := { name := "<init>", desc := "([CIILjava/lang/Void;)V", sig := { parameters := [(.array .char), .int, .int, (.object "java/lang/Void")], returnType := none }, accessFlags := 2, code := some k7c7 }
def k7c8 : Code := { maxStack := 5, maxLocals := 5, code := jdk_42_method_150_code, exceptionTable := #[], attributes := #[] }
def k7m8 : Method := { name := "<init>", desc := "(Ljava/lang/AbstractStringBuilder;Ljava/lang/Void;)V", sig := { parameters := [(.object "java/lang/AbstractStringBuilder"), (.object "java/lang/Void")], returnType := none }, accessFlags := 0, code := some k7c8 }
def k7c9 : Code := { maxStack := 2, maxLocals := 3, code := jdk_42_method_151_code, exceptionTable := #[], attributes := #[] }
def k7m9 : Method := { name := "<init>", desc := "([BB)V", sig := { parameters := [(.array .byte), .byte], returnType := none }, accessFlags := 0, code := some k7c9 }
def k7c10 : Code := { maxStack := 1, maxLocals := 1, code := jdk_42_method_152_code, exceptionTable := #[], attributes := #[] }
def k7m10 : Method := { name := "coder", desc := "()B", sig := { parameters := [], returnType := some .byte }, accessFlags := 0, code := some k7c10 }
def k7c11 : Code := { maxStack := 1, maxLocals := 1, code := jdk_42_method_154_code, exceptionTable := #[], attributes := #[] }
def k7m11 : Method := { name := "isLatin1", desc := "()Z", sig := { parameters := [], returnType := some .boolean }, accessFlags := 0, code := some k7c11 }
def k7c12 : Code := { maxStack := 3, maxLocals := 2, code := jdk_42_method_155_code, exceptionTable := #[], attributes := #[] }
def k7m12 : Method := { name := "checkIndex", desc := "(II)V", sig := { parameters := [.int, .int], returnType := none }, accessFlags := 8, code := some k7c12 }
def k7c13 : Code := { maxStack := 4, maxLocals := 3, code := jdk_42_method_157_code, exceptionTable := #[], attributes := #[] }
def k7m13 : Method := { name := "checkBoundsOffCount", desc := "(III)I", sig := { parameters := [.int, .int, .int], returnType := some .int }, accessFlags := 8, code := some k7c13 }
/-- java/lang/String -/
def k7 : Class := { plain "java/lang/String" (some 0) with
  accessFlags := 49
  interfaces := #[2, 3, 4, 5, 6]
  cf := some (fileOf pool7 10 #[.nestMembers #[1103]] #[{ accessFlags := 1, nameIndex := 5, descriptorIndex := 6, attributes := #[] }, { accessFlags := 1, nameIndex := 5, descriptorIndex := 1010, attributes := #[] }, { accessFlags := 1, nameIndex := 5, descriptorIndex := 1233, attributes := #[] }, { accessFlags := 1, nameIndex := 507, descriptorIndex := 334, attributes := #[] }, { accessFlags := 1, nameIndex := 497, descriptorIndex := 427, attributes := #[] }, { accessFlags := 9, nameIndex := 782, descriptorIndex := 783, attributes := #[] }, { accessFlags := 0, nameIndex := 532, descriptorIndex := 821, attributes := #[] }, { accessFlags := 2, nameIndex := 5, descriptorIndex := 29, attributes := #[] }, { accessFlags := 0, nameIndex := 5, descriptorIndex := 491, attributes := #[] }, { accessFlags := 0, nameIndex := 5, descriptorIndex := 211, attributes := #[] }, { accessFlags := 0, nameIndex := 17, descriptorIndex := 337, attributes := #[] }, { accessFlags := 0, nameIndex := 494, descriptorIndex := 142, attributes := #[] }, { accessFlags := 8, nameIndex := 501, descriptorIndex := 391, attributes := #[] }, { accessFlags := 8, nameIndex := 36, descriptorIndex := 37, attributes := #[] }] 49 2 #[1106, 1108, 575, 1110, 1112] #[{ accessFlags := 18, nameIndex := 13, descriptorIndex := 14, attributes := #[] }, { accessFlags := 18, nameIndex := 17, descriptorIndex := 18, attributes := #[] }, { accessFlags := 2, nameIndex := 21, descriptorIndex := 22, attributes := #[] }, { accessFlags := 2, nameIndex := 25, descriptorIndex := 26, attributes := #[] }, { accessFlags := 26, nameIndex := 1116, descriptorIndex := 1117, attributes := #[] }, { accessFlags := 24, nameIndex := 40, descriptorIndex := 26, attributes := #[] }, { accessFlags := 26, nameIndex := 1101, descriptorIndex := 1102, attributes := #[] }, { accessFlags := 26, nameIndex := 1121, descriptorIndex := 1122, attributes := #[] }, { accessFlags := 25, nameIndex := 599, descriptorIndex := 600, attributes := #[] }, { accessFlags := 24, nameIndex := 1125, descriptorIndex := 18, attributes := #[] }, { accessFlags := 24, nameIndex := 1127, descriptorIndex := 18, attributes := #[] }])
  fields := #[{ name := "value", type := (.array .byte), accessFlags := 18, slot := 0, constantValue := 0 }, { name := "coder", type := .byte, accessFlags := 18, slot := 1, constantValue := 0 }, { name := "hash", type := .int, accessFlags := 2, slot := 2, constantValue := 0 }, { name := "hashIsZero", type := .boolean, accessFlags := 2, slot := 3, constantValue := 0 }, { name := "serialVersionUID", type := .long, accessFlags := 26, slot := 0, constantValue := 0 }, { name := "COMPACT_STRINGS", type := .boolean, accessFlags := 24, slot := 1, constantValue := 0 }, { name := "serialPersistentFields", type := (.array (.object "java/io/ObjectStreamField")), accessFlags := 26, slot := 2, constantValue := 0 }, { name := "REPL", type := .char, accessFlags := 26, slot := 3, constantValue := 0 }, { name := "CASE_INSENSITIVE_ORDER", type := (.object "java/util/Comparator"), accessFlags := 25, slot := 4, constantValue := 0 }, { name := "LATIN1", type := .byte, accessFlags := 24, slot := 5, constantValue := 0 }, { name := "UTF16", type := .byte, accessFlags := 24, slot := 6, constantValue := 0 }]
  methods := #[k7m0, k7m1, k7m2, k7m3, k7m4, k7m5, k7m6, k7m7, k7m8, k7m9, k7m10, k7m11, k7m12, k7m13]
  instanceTypes := #[(.array .byte), .byte, .int, .boolean]
  staticTypes := #[.long, .boolean, (.array (.object "java/io/ObjectStreamField")), .char, (.object "java/util/Comparator"), .byte, .byte]
  resolved := Array.replicate 1451 none
  statics := some 0 }

def pool8 : Array CpInfo := pool [(2, .class_ 4), (0, .nameAndType 5 6), (0, u "java/lang/Object"), (0, u "<init>"), (0, u "()V"), (0, .class_ 8), (0, u "java/lang/StringBuilder"), (0, .methodref 7 3), (0, .methodref 7 11), (0, .nameAndType 12 13), (0, u "append"), (0, u "(C)Ljava/lang/StringBuilder;"), (0, .methodref 15 16), (0, .class_ 17), (0, .nameAndType 18 19), (0, u "com/example/surfacemap/surfacemap/cli/Tsv"), (0, u "appendEscaped"), (0, u "(Ljava/lang/String;Ljava/lang/StringBuilder;)V"), (0, .methodref 7 21), (0, .nameAndType 22 23), (0, u "toString"), (0, u "()Ljava/lang/String;"), (0, .methodref 25 26), (0, .class_ 27), (0, .nameAndType 28 29), (0, u "java/lang/String"), (0, u "length"), (0, u "()I"), (0, .methodref 25 31), (0, .nameAndType 32 33), (0, u "charAt"), (0, u "(I)C"), (0, .string 35), (0, u "\\\\"), (0, .methodref 7 37), (0, .nameAndType 12 38), (0, u "(Ljava/lang/String;)Ljava/lang/StringBuilder;"), (0, .string 40), (0, u "\\t"), (0, .string 42), (0, u "\\n"), (0, .string 44), (0, u "\\r"), (2, u "line"), (0, u "([Ljava/lang/String;)Ljava/lang/String;")] 3

def k8m0 : Method := { name := "<init>", desc := "()V", sig := { parameters := [], returnType := none }, accessFlags := 2, code := none }
def k8c1 : Code := { maxStack := 2, maxLocals := 3, code := prog_3_method_2_code, exceptionTable := #[], attributes := #[] }
def k8m1 : Method := { name := "line", desc := "([Ljava/lang/String;)Ljava/lang/String;", sig := { parameters := [(.array (.object "java/lang/String"))], returnType := some (.object "java/lang/String") }, accessFlags := 136, code := some k8c1 }
def k8c2 : Code := { maxStack := 2, maxLocals := 4, code := prog_3_method_3_code, exceptionTable := #[], attributes := #[] }
def k8m2 : Method := { name := "appendEscaped", desc := "(Ljava/lang/String;Ljava/lang/StringBuilder;)V", sig := { parameters := [(.object "java/lang/String"), (.object "java/lang/StringBuilder")], returnType := none }, accessFlags := 10, code := some k8c2 }
/-- com/example/surfacemap/surfacemap/cli/Tsv -/
def k8 : Class := { plain "com/example/surfacemap/surfacemap/cli/Tsv" (some 0) with
  accessFlags := 48
  interfaces := #[]
  cf := some (fileOf pool8 15 #[] #[{ accessFlags := 2, nameIndex := 5, descriptorIndex := 6, attributes := #[] }, { accessFlags := 136, nameIndex := 47, descriptorIndex := 48, attributes := #[] }, { accessFlags := 10, nameIndex := 18, descriptorIndex := 19, attributes := #[] }] 48 2 #[] #[])
  fields := #[]
  methods := #[k8m0, k8m1, k8m2]
  instanceTypes := #[]
  staticTypes := #[]
  resolved := Array.replicate 52 none
  statics := none }

def pool9 : Array CpInfo := pool [(1, .class_ 2), (0, u "java/lang/Appendable"), (0, .class_ 4), (0, u "java/lang/Object")] 9

/-- java/lang/Appendable -/
def k9 : Class := { plain "java/lang/Appendable" (some 0) with
  accessFlags := 1537
  interfaces := #[]
  cf := some (fileOf pool9 1 #[] #[] 1537 3 #[] #[])
  fields := #[]
  methods := #[]
  instanceTypes := #[]
  staticTypes := #[]
  resolved := Array.replicate 14 none
  statics := none }

def pool10 : Array CpInfo := pool [(1, .class_ 2), (0, u "java/lang/String"), (0, .methodref 4 5), (0, .class_ 6), (0, .nameAndType 7 8), (0, u "java/lang/Object"), (0, u "<init>"), (0, u "()V"), (1, .class_ 12), (1, u "java/lang/AbstractStringBuilder"), (0, u "EMPTYVALUE"), (0, u "[B"), (0, .fieldref 10 16), (0, .nameAndType 17 14), (0, u "value"), (0, .fieldref 1 19), (0, .nameAndType 20 21), (0, u "COMPACT_STRINGS"), (0, u "Z"), (0, .fieldref 10 23), (0, .nameAndType 24 25), (0, u "coder"), (0, u "B"), (0, .methodref 27 28), (0, .class_ 29), (0, .nameAndType 30 31), (0, u "java/lang/StringUTF16"), (0, u "newBytesFor"), (0, u "(I)[B"), (0, .methodref 1 33), (0, .nameAndType 34 35), (0, u "length"), (0, u "()I"), (4, .methodref 1 41), (0, .nameAndType 24 42), (0, u "()B"), (2, u "append"), (0, u "(Ljava/lang/String;)Ljava/lang/AbstractStringBuilder;"), (1, .class_ 49), (0, u "java/lang/CharSequence"), (19, u "(Ljava/lang/String;)V"), (5, u "maybeLatin1"), (3, .fieldref 10 80), (0, .nameAndType 81 82), (0, u "count"), (0, u "I"), (0, .methodref 10 84), (0, .nameAndType 85 86), (0, u "isLatin1"), (0, u "()Z"), (1, .class_ 90), (1, u "java/lang/StringLatin1"), (9, .methodref 10 101), (0, .nameAndType 102 103), (0, u "ensureCapacityInternal"), (0, u "(I)V"), (21, .methodref 88 126), (0, .nameAndType 127 128), (0, u "inflate"), (0, u "([BI[BII)V"), (7, u "([BII)V"), (54, .methodref 88 192), (0, .nameAndType 193 194), (0, u "canEncode"), (0, u "(C)Z"), (0, .methodref 10 196), (0, .nameAndType 127 8), (0, .methodref 27 198), (0, .nameAndType 199 136), (0, u "putCharSB"), (8, .methodref 10 209), (0, .nameAndType 210 211), (0, u "putStringAt"), (0, u "(ILjava/lang/String;)V"), (5, u "inflateIfNeededFor"), (2, .nameAndType 221 222), (0, u "getBytes"), (0, u "([BIB)V"), (69, u "(C)Ljava/lang/AbstractStringBuilder;"), (104, .methodref 10 398), (0, .nameAndType 217 69), (0, .methodref 1 220), (3, u "()[B"), (40, .class_ 445), (0, u "java/lang/Appendable"), (106, u "getValue")] 56

def k10m0 : Method := { name := "<init>", desc := "()V", sig := { parameters := [], returnType := none }, accessFlags := 0, code := none }
def k10c1 : Code := { maxStack := 2, maxLocals := 2, code := jdk_68_method_2_code, exceptionTable := #[], attributes := #[] }
def k10m1 : Method := { name := "<init>", desc := "(I)V", sig := { parameters := [.int], returnType := none }, accessFlags := 0, code := some k10c1 }
def k10c2 : Code := { maxStack := 1, maxLocals := 1, code := jdk_68_method_6_code, exceptionTable := #[], attributes := #[] }
def k10m2 : Method := { name := "length", desc := "()I", sig := { parameters := [], returnType := some .int }, accessFlags := 1, code := some k10c2 }
def k10c3 : Code := { maxStack := 4, maxLocals := 3, code := jdk_68_method_9_code, exceptionTable := #[], attributes := #[] }
def k10m3 : Method := { name := "ensureCapacityInternal", desc := "(I)V", sig := { parameters := [.int], returnType := none }, accessFlags := 2, code := some k10c3 }
def k10c4 : Code := { maxStack := 5, maxLocals := 2, code := jdk_68_method_11_code, exceptionTable := #[], attributes := #[] }
def k10m4 : Method := { name := "inflate", desc := "()V", sig := { parameters := [], returnType := none }, accessFlags := 2, code := some k10c4 }
def k10c5 : Code := { maxStack := 3, maxLocals := 3, code := jdk_68_method_22_code, exceptionTable := #[], attributes := #[] }
def k10m5 : Method := { name := "append", desc := "(Ljava/lang/String;)Ljava/lang/AbstractStringBuilder;", sig := { parameters := [(.object "java/lang/String")], returnType := some (.object "java/lang/AbstractStringBuilder") }, accessFlags := 1, code := some k10c5 }
def k10c6 : Code := { maxStack := 5, maxLocals := 2, code := jdk_68_method_31_code, exceptionTable := #[], attributes := #[] }
def k10m6 : Method := { name := "append", desc := "(C)Ljava/lang/AbstractStringBuilder;", sig := { parameters := [.char], returnType := some (.object "java/lang/AbstractStringBuilder") }, accessFlags := 1, code := some k10c6 }
def k10c7 : Code := { maxStack := 1, maxLocals := 1, code := jdk_68_method_64_code, exceptionTable := #[], attributes := #[] }
def k10m7 : Method := { name := "getValue", desc := "()[B", sig := { parameters := [], returnType := some (.array .byte) }, accessFlags := 16, code := some k10c7 }
def k10c8 : Code := { maxStack := 1, maxLocals := 1, code := jdk_68_method_68_code, exceptionTable := #[], attributes := #[] }
def k10m8 : Method := { name := "isLatin1", desc := "()Z", sig := { parameters := [], returnType := some .boolean }, accessFlags := 16, code := some k10c8 }
def k10c9 : Code := { maxStack := 2, maxLocals := 2, code := jdk_68_method_71_code, exceptionTable := #[], attributes := #[] }
def k10m9 : Method := { name := "inflateIfNeededFor", desc := "(Ljava/lang/String;)V", sig := { parameters := [(.object "java/lang/String")], returnType := none }, accessFlags := 2, code := some k10c9 }
def k10c10 : Code := { maxStack := 4, maxLocals := 3, code := jdk_68_method_73_code, exceptionTable := #[], attributes := #[] }
def k10m10 : Method := { name := "putStringAt", desc := "(ILjava/lang/String;)V", sig := { parameters := [.int, (.object "java/lang/String")], returnType := none }, accessFlags := 2, code := some k10c10 }
/-- java/lang/AbstractStringBuilder -/
def k10 : Class := { plain "java/lang/AbstractStringBuilder" (some 0) with
  accessFlags := 1056
  interfaces := #[9, 4]
  cf := some (fileOf pool10 10 #[] #[{ accessFlags := 0, nameIndex := 7, descriptorIndex := 8, attributes := #[] }, { accessFlags := 0, nameIndex := 7, descriptorIndex := 103, attributes := #[] }, { accessFlags := 1, nameIndex := 34, descriptorIndex := 35, attributes := #[] }, { accessFlags := 2, nameIndex := 102, descriptorIndex := 103, attributes := #[] }, { accessFlags := 2, nameIndex := 127, descriptorIndex := 8, attributes := #[] }, { accessFlags := 1, nameIndex := 45, descriptorIndex := 46, attributes := #[] }, { accessFlags := 1, nameIndex := 45, descriptorIndex := 292, attributes := #[] }, { accessFlags := 16, nameIndex := 552, descriptorIndex := 403, attributes := #[] }, { accessFlags := 16, nameIndex := 85, descriptorIndex := 86, attributes := #[] }, { accessFlags := 2, nameIndex := 217, descriptorIndex := 69, attributes := #[] }, { accessFlags := 2, nameIndex := 210, descriptorIndex := 211, attributes := #[] }] 1056 4 #[444, 48] #[{ accessFlags := 0, nameIndex := 17, descriptorIndex := 14, attributes := #[] }, { accessFlags := 0, nameIndex := 24, descriptorIndex := 25, attributes := #[] }, { accessFlags := 0, nameIndex := 75, descriptorIndex := 21, attributes := #[] }, { accessFlags := 0, nameIndex := 81, descriptorIndex := 82, attributes := #[] }, { accessFlags := 26, nameIndex := 13, descriptorIndex := 14, attributes := #[] }])
  fields := #[{ name := "value", type := (.array .byte), accessFlags := 0, slot := 0, constantValue := 0 }, { name := "coder", type := .byte, accessFlags := 0, slot := 1, constantValue := 0 }, { name := "maybeLatin1", type := .boolean, accessFlags := 0, slot := 2, constantValue := 0 }, { name := "count", type := .int, accessFlags := 0, slot := 3, constantValue := 0 }, { name := "EMPTYVALUE", type := (.array .byte), accessFlags := 26, slot := 0, constantValue := 0 }]
  methods := #[k10m0, k10m1, k10m2, k10m3, k10m4, k10m5, k10m6, k10m7, k10m8, k10m9, k10m10]
  instanceTypes := #[(.array .byte), .byte, .boolean, .int]
  staticTypes := #[(.array .byte)]
  resolved := Array.replicate 609 none
  statics := none }

def pool11 : Array CpInfo := pool [(1, .methodref 2 3), (0, .class_ 4), (0, .nameAndType 5 6), (0, u "java/lang/AbstractStringBuilder"), (0, u "<init>"), (0, u "(I)V"), (11, .class_ 20), (1, u "java/lang/String"), (3, .class_ 26), (1, u "java/lang/StringBuilder"), (0, u "append"), (0, u "(Ljava/lang/String;)Ljava/lang/StringBuilder;"), (0, .methodref 2 30), (0, .nameAndType 27 31), (0, u "(Ljava/lang/String;)Ljava/lang/AbstractStringBuilder;"), (18, .methodref 2 51), (0, .nameAndType 27 52), (0, u "(C)Ljava/lang/AbstractStringBuilder;"), (84, .methodref 18 138), (0, .nameAndType 5 139), (0, u "(Ljava/lang/StringBuilder;)V"), (5, u "()V"), (10, u "()I"), (129, u "(C)Ljava/lang/StringBuilder;"), (56, .methodref 2 344), (0, .nameAndType 345 156), (0, u "length"), (3, .class_ 350), (0, u "java/lang/Appendable"), (0, .class_ 352), (0, u "java/io/Serializable"), (0, .class_ 354), (0, u "java/lang/Comparable"), (0, .class_ 356), (0, u "java/lang/CharSequence"), (0, u "serialVersionUID"), (0, u "J"), (40, u "toString"), (0, u "()Ljava/lang/String;")] 21

def k11c0 : Code := { maxStack := 2, maxLocals := 1, code := jdk_67_method_1_code, exceptionTable := #[], attributes := #[] }
def k11m0 : Method := { name := "<init>", desc := "()V", sig := { parameters := [], returnType := none }, accessFlags := 1, code := some k11c0 }
def k11c1 : Code := { maxStack := 2, maxLocals := 2, code := jdk_67_method_7_code, exceptionTable := #[], attributes := #[] }
def k11m1 : Method := { name := "append", desc := "(Ljava/lang/String;)Ljava/lang/StringBuilder;", sig := { parameters := [(.object "java/lang/String")], returnType := some (.object "java/lang/StringBuilder") }, accessFlags := 1, code := some k11c1 }
def k11c2 : Code := { maxStack := 2, maxLocals := 2, code := jdk_67_method_14_code, exceptionTable := #[], attributes := #[] }
def k11m2 : Method := { name := "append", desc := "(C)Ljava/lang/StringBuilder;", sig := { parameters := [.char], returnType := some (.object "java/lang/StringBuilder") }, accessFlags := 1, code := some k11c2 }
def k11c3 : Code := { maxStack := 3, maxLocals := 1, code := jdk_67_method_42_code, exceptionTable := #[], attributes := #[] }
def k11m3 : Method := { name := "toString", desc := "()Ljava/lang/String;", sig := { parameters := [], returnType := some (.object "java/lang/String") }, accessFlags := 1, code := some k11c3 }
def k11c4 : Code := { maxStack := 1, maxLocals := 1, code := jdk_67_method_93_code, exceptionTable := #[], attributes := #[] }
def k11m4 : Method := { name := "length", desc := "()I", sig := { parameters := [], returnType := some .int }, accessFlags := 4161, code := some k11c4 }
/-- java/lang/StringBuilder -/
def k11 : Class := { plain "java/lang/StringBuilder" (some 10) with
  accessFlags := 49
  interfaces := #[9, 2, 3, 4]
  cf := some (fileOf pool11 24 #[] #[{ accessFlags := 1, nameIndex := 5, descriptorIndex := 145, attributes := #[] }, { accessFlags := 1, nameIndex := 27, descriptorIndex := 28, attributes := #[] }, { accessFlags := 1, nameIndex := 27, descriptorIndex := 286, attributes := #[] }, { accessFlags := 1, nameIndex := 399, descriptorIndex := 400, attributes := #[] }, { accessFlags := 4161, nameIndex := 345, descriptorIndex := 156, attributes := #[] }] 49 2 #[349, 351, 353, 355] #[{ accessFlags := 24, nameIndex := 357, descriptorIndex := 358, attributes := #[] }])
  fields := #[{ name := "serialVersionUID", type := .long, accessFlags := 24, slot := 0, constantValue := 0 }]
  methods := #[k11m0, k11m1, k11m2, k11m3, k11m4]
  instanceTypes := #[(.array .byte), .byte, .boolean, .int]
  staticTypes := #[.long]
  resolved := Array.replicate 422 none
  statics := none }

def pool12 : Array CpInfo := pool [(1, .class_ 2), (0, u "java/lang/String"), (1, .class_ 6), (1, u "java/lang/Object"), (0, u "<init>"), (0, u "()V"), (0, .methodref 1 10), (0, .nameAndType 11 12), (0, u "checkIndex"), (0, u "(II)V"), (1, .class_ 16), (1, u "java/lang/StringLatin1"), (0, u "inflate"), (2, .class_ 22), (1, u "java/lang/StringUTF16"), (3, .nameAndType 17 27), (0, u "([BI[BII)V"), (25, u "([BI)C"), (36, u "canEncode"), (14, u "(C)Z"), (15, u "$assertionsDisabled"), (0, u "Z"), (98, .class_ 223), (1, u "java/lang/StringLatin1$LinesSpliterator"), (16, .methodref 20 26), (11, u "charAt"), (127, u "toBytes"), (1, u "(C)[B"), (7, .class_ 391), (0, u "java/lang/StringLatin1$CharsSpliterator")] 3

def k12m0 : Method := { name := "<init>", desc := "()V", sig := { parameters := [], returnType := none }, accessFlags := 0, code := none }
def k12c1 : Code := { maxStack := 2, maxLocals := 2, code := jdk_43_method_2_code, exceptionTable := #[], attributes := #[] }
def k12m1 : Method := { name := "charAt", desc := "([BI)C", sig := { parameters := [(.array .byte), .int], returnType := some .char }, accessFlags := 9, code := some k12c1 }
def k12c2 : Code := { maxStack := 2, maxLocals := 1, code := jdk_43_method_3_code, exceptionTable := #[], attributes := #[] }
def k12m2 : Method := { name := "canEncode", desc := "(C)Z", sig := { parameters := [.char], returnType := some .boolean }, accessFlags := 9, code := some k12c2 }
def k12c3 : Code := { maxStack := 4, maxLocals := 1, code := jdk_43_method_46_code, exceptionTable := #[], attributes := #[] }
def k12m3 : Method := { name := "toBytes", desc := "(C)[B", sig := { parameters := [.char], returnType := some (.array .byte) }, accessFlags := 9, code := some k12c3 }
def k12c4 : Code := { maxStack := 5, maxLocals := 5, code := jdk_43_method_50_code, exceptionTable := #[], attributes := #[] }
def k12m4 : Method := { name := "inflate", desc := "([BI[BII)V", sig := { parameters := [(.array .byte), .int, (.array .byte), .int, .int], returnType := none }, accessFlags := 9, code := some k12c4 }
/-- java/lang/StringLatin1 -/
def k12 : Class := { plain "java/lang/StringLatin1" (some 0) with
  accessFlags := 48
  interfaces := #[]
  cf := some (fileOf pool12 14 #[.nestMembers #[390, 221]] #[{ accessFlags := 0, nameIndex := 7, descriptorIndex := 8, attributes := #[] }, { accessFlags := 9, nameIndex := 252, descriptorIndex := 53, attributes := #[] }, { accessFlags := 9, nameIndex := 90, descriptorIndex := 105, attributes := #[] }, { accessFlags := 9, nameIndex := 380, descriptorIndex := 382, attributes := #[] }, { accessFlags := 9, nameIndex := 17, descriptorIndex := 27, attributes := #[] }] 48 4 #[] #[{ accessFlags := 4120, nameIndex := 121, descriptorIndex := 122, attributes := #[] }])
  fields := #[{ name := "$assertionsDisabled", type := .boolean, accessFlags := 4120, slot := 0, constantValue := 0 }]
  methods := #[k12m0, k12m1, k12m2, k12m3, k12m4]
  instanceTypes := #[]
  staticTypes := #[.boolean]
  resolved := Array.replicate 395 none
  statics := none }

def pool13 : Array CpInfo := pool [(2, .class_ 4), (1, u "java/lang/Object"), (0, u "<init>"), (0, u "()V"), (7, .class_ 16), (1, u "java/util/Arrays"), (57, .class_ 76), (1, u "java/util/Arrays$NaturalOrder"), (36, .class_ 115), (1, u "java/util/Arrays$LegacyMergeSort"), (1, u "Z"), (21, u "copyOfRange"), (10, .methodref 151 152), (0, .class_ 153), (0, .nameAndType 154 155), (0, u "java/lang/System"), (0, u "arraycopy"), (0, u "(Ljava/lang/Object;ILjava/lang/Object;II)V"), (148, .methodref 305 306), (0, .class_ 307), (0, .nameAndType 308 309), (0, u "java/lang/Math"), (0, u "min"), (0, u "(II)I"), (29, .methodref 14 340), (0, .nameAndType 341 342), (0, u "copyOfRangeByte"), (0, u "([BII)[B"), (0, .methodref 14 344), (0, .nameAndType 345 346), (0, u "checkLength"), (0, u "(II)V"), (28, .class_ 376), (0, u "java/util/Arrays$ArrayList"), (68, u "$assertionsDisabled"), (269, u "MIN_ARRAY_SORT_GRAN"), (0, u "I"), (2, u "INSERTIONSORT_THRESHOLD"), (255, .class_ 976), (0, u "java/util/Arrays$ArrayItr")] 52

def k13m0 : Method := { name := "<init>", desc := "()V", sig := { parameters := [], returnType := none }, accessFlags := 2, code := none }
def k13c1 : Code := { maxStack := 4, maxLocals := 2, code := jdk_65_method_131_code, exceptionTable := #[], attributes := #[] }
def k13m1 : Method := { name := "checkLength", desc := "(II)V", sig := { parameters := [.int, .int], returnType := none }, accessFlags := 10, code := some k13c1 }
def k13c2 : Code := { maxStack := 3, maxLocals := 3, code := jdk_65_method_132_code, exceptionTable := #[], attributes := #[] }
def k13m2 : Method := { name := "copyOfRange", desc := "([BII)[B", sig := { parameters := [(.array .byte), .int, .int], returnType := some (.array .byte) }, accessFlags := 9, code := some k13c2 }
def k13c3 : Code := { maxStack := 6, maxLocals := 5, code := jdk_65_method_133_code, exceptionTable := #[], attributes := #[] }
def k13m3 : Method := { name := "copyOfRangeByte", desc := "([BII)[B", sig := { parameters := [(.array .byte), .int, .int], returnType := some (.array .byte) }, accessFlags := 10, code := some k13c3 }
/-- java/util/Arrays -/
def k13 : Class := { plain "java/util/Arrays" (some 0) with
  accessFlags := 49
  interfaces := #[]
  cf := some (fileOf pool13 14 #[.nestMembers #[975, 375, 113, 74]] #[{ accessFlags := 2, nameIndex := 5, descriptorIndex := 6, attributes := #[] }, { accessFlags := 10, nameIndex := 345, descriptorIndex := 346, attributes := #[] }, { accessFlags := 9, nameIndex := 139, descriptorIndex := 342, attributes := #[] }, { accessFlags := 10, nameIndex := 341, descriptorIndex := 342, attributes := #[] }] 49 2 #[] #[{ accessFlags := 26, nameIndex := 715, descriptorIndex := 716, attributes := #[] }, { accessFlags := 26, nameIndex := 719, descriptorIndex := 716, attributes := #[] }, { accessFlags := 4120, nameIndex := 445, descriptorIndex := 117, attributes := #[] }])
  fields := #[{ name := "MIN_ARRAY_SORT_GRAN", type := .int, accessFlags := 26, slot := 0, constantValue := 0 }, { name := "INSERTIONSORT_THRESHOLD", type := .int, accessFlags := 26, slot := 1, constantValue := 0 }, { name := "$assertionsDisabled", type := .boolean, accessFlags := 4120, slot := 2, constantValue := 0 }]
  methods := #[k13m0, k13m1, k13m2, k13m3]
  instanceTypes := #[]
  staticTypes := #[.int, .int, .boolean]
  resolved := Array.replicate 1029 none
  statics := none }

def pool14 : Array CpInfo := pool [(1, .class_ 2), (0, u "java/lang/Math"), (1, .class_ 6), (1, u "java/lang/Object"), (0, u "<init>"), (0, u "()V"), (89, .class_ 100), (1, u "java/lang/Math$RandomNumberGeneratorHolder"), (71, u "negativeZeroFloatBits"), (0, u "J"), (2, u "negativeZeroDoubleBits"), (24, u "min"), (43, u "$assertionsDisabled"), (0, u "Z"), (88, u "(II)I"), (2, u "twoToTheDoubleScaleDown"), (0, u "D"), (4, u "twoToTheDoubleScaleUp"), (9, u "E"), (3, u "PI"), (2, u "TAU"), (2, u "DEGREES_TO_RADIANS"), (0, u "RADIANS_TO_DEGREES")] 94

def k14m0 : Method := { name := "<init>", desc := "()V", sig := { parameters := [], returnType := none }, accessFlags := 2, code := none }
def k14c1 : Code := { maxStack := 2, maxLocals := 2, code := jdk_29_method_69_code, exceptionTable := #[], attributes := #[] }
def k14m1 : Method := { name := "min", desc := "(II)I", sig := { parameters := [.int, .int], returnType := some .int }, accessFlags := 9, code := some k14c1 }
/-- java/lang/Math -/
def k14 : Class := { plain "java/lang/Math" (some 0) with
  accessFlags := 49
  interfaces := #[]
  cf := some (fileOf pool14 1 #[.nestMembers #[98]] #[{ accessFlags := 2, nameIndex := 7, descriptorIndex := 8, attributes := #[] }, { accessFlags := 9, nameIndex := 201, descriptorIndex := 335, attributes := #[] }] 49 4 #[] #[{ accessFlags := 25, nameIndex := 354, descriptorIndex := 339, attributes := #[] }, { accessFlags := 25, nameIndex := 358, descriptorIndex := 339, attributes := #[] }, { accessFlags := 25, nameIndex := 361, descriptorIndex := 339, attributes := #[] }, { accessFlags := 26, nameIndex := 364, descriptorIndex := 339, attributes := #[] }, { accessFlags := 26, nameIndex := 365, descriptorIndex := 339, attributes := #[] }, { accessFlags := 26, nameIndex := 172, descriptorIndex := 173, attributes := #[] }, { accessFlags := 26, nameIndex := 176, descriptorIndex := 173, attributes := #[] }, { accessFlags := 8, nameIndex := 344, descriptorIndex := 339, attributes := #[] }, { accessFlags := 8, nameIndex := 338, descriptorIndex := 339, attributes := #[] }, { accessFlags := 4120, nameIndex := 245, descriptorIndex := 246, attributes := #[] }])
  fields := #[{ name := "E", type := .double, accessFlags := 25, slot := 0, constantValue := 0 }, { name := "PI", type := .double, accessFlags := 25, slot := 1, constantValue := 0 }, { name := "TAU", type := .double, accessFlags := 25, slot := 2, constantValue := 0 }, { name := "DEGREES_TO_RADIANS", type := .double, accessFlags := 26, slot := 3, constantValue := 0 }, { name := "RADIANS_TO_DEGREES", type := .double, accessFlags := 26, slot := 4, constantValue := 0 }, { name := "negativeZeroFloatBits", type := .long, accessFlags := 26, slot := 5, constantValue := 0 }, { name := "negativeZeroDoubleBits", type := .long, accessFlags := 26, slot := 6, constantValue := 0 }, { name := "twoToTheDoubleScaleUp", type := .double, accessFlags := 8, slot := 7, constantValue := 0 }, { name := "twoToTheDoubleScaleDown", type := .double, accessFlags := 8, slot := 8, constantValue := 0 }, { name := "$assertionsDisabled", type := .boolean, accessFlags := 4120, slot := 9, constantValue := 0 }]
  methods := #[k14m0, k14m1]
  instanceTypes := #[]
  staticTypes := #[.double, .double, .double, .double, .double, .long, .long, .double, .double, .boolean]
  resolved := Array.replicate 460 none
  statics := none }

def pool15 : Array CpInfo := pool [(2, .class_ 4), (1, u "java/lang/Object"), (0, u "<init>"), (0, u "()V"), (1, .class_ 10), (1, u "java/lang/System"), (0, u "allowSecurityManager"), (0, u "I"), (16, u "cons"), (0, u "Ljava/io/Console;"), (77, .class_ 110), (1, u "java/lang/System$CallersHolder"), (43, u "initialErrStream"), (0, u "Ljava/io/PrintStream;"), (19, u "security"), (0, u "Ljava/lang/SecurityManager;"), (31, .class_ 209), (0, u "java/lang/System$1"), (7, u "props"), (0, u "Ljava/util/Properties;"), (2, u "lineSeparator"), (0, u "Ljava/lang/String;"), (96, .class_ 321), (1, u "java/lang/System$LoggerFinder"), (5, .class_ 328), (0, u "java/lang/System$Logger"), (67, u "err"), (2, u "out"), (91, u "notSupportedJnuEncoding"), (15, u "in"), (17, u "initialIn"), (0, u "Ljava/io/InputStream;"), (35, u "bootLayer"), (0, u "Ljava/lang/ModuleLayer;"), (99, .class_ 664), (0, u "java/lang/System$2"), (9, u "NEVER"), (2, u "MAYBE"), (49, u "arraycopy"), (0, u "(Ljava/lang/Object;ILjava/lang/Object;II)V"), (72, .class_ 802), (0, u "java/lang/System$Logger$Level")] 31

def k15m0 : Method := { name := "<init>", desc := "()V", sig := { parameters := [], returnType := none }, accessFlags := 2, code := none }
def k15m1 : Method := { name := "arraycopy", desc := "(Ljava/lang/Object;ILjava/lang/Object;II)V", sig := { parameters := [(.object "java/lang/Object"), .int, (.object "java/lang/Object"), .int, .int], returnType := none }, accessFlags := 265, code := none }
/-- java/lang/System -/
def k15 : Class := { plain "java/lang/System" (some 0) with
  accessFlags := 49
  interfaces := #[]
  cf := some (fileOf pool15 8 #[.nestMembers #[319, 327, 801, 108, 663, 208]] #[{ accessFlags := 2, nameIndex := 5, descriptorIndex := 6, attributes := #[] }, { accessFlags := 265, nameIndex := 727, descriptorIndex := 728, attributes := #[] }] 49 2 #[] #[{ accessFlags := 25, nameIndex := 507, descriptorIndex := 526, attributes := #[] }, { accessFlags := 25, nameIndex := 399, descriptorIndex := 155, attributes := #[] }, { accessFlags := 25, nameIndex := 396, descriptorIndex := 155, attributes := #[] }, { accessFlags := 10, nameIndex := 525, descriptorIndex := 526, attributes := #[] }, { accessFlags := 26, nameIndex := 674, descriptorIndex := 12, attributes := #[] }, { accessFlags := 26, nameIndex := 677, descriptorIndex := 12, attributes := #[] }, { accessFlags := 10, nameIndex := 11, descriptorIndex := 12, attributes := #[] }, { accessFlags := 74, nameIndex := 175, descriptorIndex := 176, attributes := #[] }, { accessFlags := 10, nameIndex := 491, descriptorIndex := 222, attributes := #[] }, { accessFlags := 74, nameIndex := 29, descriptorIndex := 30, attributes := #[] }, { accessFlags := 74, nameIndex := 154, descriptorIndex := 155, attributes := #[] }, { accessFlags := 10, nameIndex := 217, descriptorIndex := 218, attributes := #[] }, { accessFlags := 10, nameIndex := 221, descriptorIndex := 222, attributes := #[] }, { accessFlags := 8, nameIndex := 562, descriptorIndex := 563, attributes := #[] }])
  fields := #[{ name := "in", type := (.object "java/io/InputStream"), accessFlags := 25, slot := 0, constantValue := 0 }, { name := "out", type := (.object "java/io/PrintStream"), accessFlags := 25, slot := 1, constantValue := 0 }, { name := "err", type := (.object "java/io/PrintStream"), accessFlags := 25, slot := 2, constantValue := 0 }, { name := "initialIn", type := (.object "java/io/InputStream"), accessFlags := 10, slot := 3, constantValue := 0 }, { name := "NEVER", type := .int, accessFlags := 26, slot := 4, constantValue := 0 }, { name := "MAYBE", type := .int, accessFlags := 26, slot := 5, constantValue := 0 }, { name := "allowSecurityManager", type := .int, accessFlags := 10, slot := 6, constantValue := 0 }, { name := "security", type := (.object "java/lang/SecurityManager"), accessFlags := 74, slot := 7, constantValue := 0 }, { name := "notSupportedJnuEncoding", type := (.object "java/lang/String"), accessFlags := 10, slot := 8, constantValue := 0 }, { name := "cons", type := (.object "java/io/Console"), accessFlags := 74, slot := 9, constantValue := 0 }, { name := "initialErrStream", type := (.object "java/io/PrintStream"), accessFlags := 74, slot := 10, constantValue := 0 }, { name := "props", type := (.object "java/util/Properties"), accessFlags := 10, slot := 11, constantValue := 0 }, { name := "lineSeparator", type := (.object "java/lang/String"), accessFlags := 10, slot := 12, constantValue := 0 }, { name := "bootLayer", type := (.object "java/lang/ModuleLayer"), accessFlags := 8, slot := 13, constantValue := 0 }]
  methods := #[k15m0, k15m1]
  instanceTypes := #[]
  staticTypes := #[(.object "java/io/InputStream"), (.object "java/io/PrintStream"), (.object "java/io/PrintStream"), (.object "java/io/InputStream"), .int, .int, .int, (.object "java/lang/SecurityManager"), (.object "java/lang/String"), (.object "java/io/Console"), (.object "java/io/PrintStream"), (.object "java/util/Properties"), (.object "java/lang/String"), (.object "java/lang/ModuleLayer")]
  resolved := Array.replicate 834 none
  statics := none }

def pool16 : Array CpInfo := pool [(2, .class_ 4), (1, u "java/lang/Object"), (0, u "<init>"), (0, u "()V"), (17, .class_ 26), (1, u "jdk/internal/util/Preconditions"), (6, u "checkIndex"), (15, u "checkFromIndexSize"), (5, .class_ 56), (0, u "jdk/internal/util/Preconditions$4"), (57, .class_ 115), (0, u "jdk/internal/util/Preconditions$1"), (7, u "SIOOBE_FORMATTER"), (0, u "Ljava/util/function/BiFunction;"), (0, .class_ 126), (0, u "jdk/internal/util/Preconditions$2"), (3, u "AIOOBE_FORMATTER"), (0, .class_ 132), (0, u "jdk/internal/util/Preconditions$3"), (3, u "IOOBE_FORMATTER"), (41, u "(IILjava/util/function/BiFunction;)I"), (4, u "(IIILjava/util/function/BiFunction;)I")] 10

def k16m0 : Method := { name := "<init>", desc := "()V", sig := { parameters := [], returnType := none }, accessFlags := 1, code := none }
def k16c1 : Code := { maxStack := 3, maxLocals := 3, code := jdk_41_method_11_code, exceptionTable := #[], attributes := #[] }
def k16m1 : Method := { name := "checkIndex", desc := "(IILjava/util/function/BiFunction;)I", sig := { parameters := [.int, .int, (.object "java/util/function/BiFunction")], returnType := some .int }, accessFlags := 9, code := some k16c1 }
def k16c2 : Code := { maxStack := 4, maxLocals := 4, code := jdk_41_method_13_code, exceptionTable := #[], attributes := #[] }
def k16m2 : Method := { name := "checkFromIndexSize", desc := "(IIILjava/util/function/BiFunction;)I", sig := { parameters := [.int, .int, .int, (.object "java/util/function/BiFunction")], returnType := some .int }, accessFlags := 9, code := some k16c2 }
/-- jdk/internal/util/Preconditions -/
def k16 : Class := { plain "jdk/internal/util/Preconditions" (some 0) with
  accessFlags := 33
  interfaces := #[]
  cf := some (fileOf pool16 24 #[.nestMembers #[55, 131, 125, 114]] #[{ accessFlags := 1, nameIndex := 5, descriptorIndex := 6, attributes := #[] }, { accessFlags := 9, nameIndex := 33, descriptorIndex := 178, attributes := #[] }, { accessFlags := 9, nameIndex := 49, descriptorIndex := 183, attributes := #[] }] 33 2 #[] #[{ accessFlags := 25, nameIndex := 123, descriptorIndex := 124, attributes := #[] }, { accessFlags := 25, nameIndex := 130, descriptorIndex := 124, attributes := #[] }, { accessFlags := 25, nameIndex := 136, descriptorIndex := 124, attributes := #[] }])
  fields := #[{ name := "SIOOBE_FORMATTER", type := (.object "java/util/function/BiFunction"), accessFlags := 25, slot := 0, constantValue := 0 }, { name := "AIOOBE_FORMATTER", type := (.object "java/util/function/BiFunction"), accessFlags := 25, slot := 1, constantValue := 0 }, { name := "IOOBE_FORMATTER", type := (.object "java/util/function/BiFunction"), accessFlags := 25, slot := 2, constantValue := 0 }]
  methods := #[k16m0, k16m1, k16m2]
  instanceTypes := #[]
  staticTypes := #[(.object "java/util/function/BiFunction"), (.object "java/util/function/BiFunction"), (.object "java/util/function/BiFunction")]
  resolved := Array.replicate 194 none
  statics := some 1 }

def pool17 : Array CpInfo := pool [(3, .class_ 4), (0, u "java/lang/String"), (1, .class_ 8), (1, u "java/lang/Object"), (0, u "<init>"), (0, u "()V"), (0, .methodref 12 13), (0, .class_ 14), (0, .nameAndType 15 16), (0, u "java/lang/StringUTF16"), (0, u "newBytesLength"), (0, u "(I)I"), (3, .integer 1073741823), (23, .fieldref 12 45), (0, .nameAndType 46 47), (0, u "$assertionsDisabled"), (0, u "Z"), (0, .methodref 12 49), (0, .nameAndType 50 51), (0, u "length"), (0, u "([B)I"), (7, .fieldref 12 60), (0, .nameAndType 61 62), (0, u "HI_BYTE_SHIFT"), (0, u "I"), (0, .fieldref 12 64), (0, .nameAndType 65 62), (0, u "LO_BYTE_SHIFT"), (1, .methodref 12 68), (0, .nameAndType 69 70), (0, u "checkIndex"), (0, u "(I[B)V"), (0, .methodref 12 72), (0, .nameAndType 73 74), (0, u "getChar"), (0, u "([BI)C"), (24, u "(II[B)V"), (7, .methodref 12 108), (0, .nameAndType 109 110), (0, u "newBytesFor"), (0, u "(I)[B"), (0, .methodref 12 112), (0, .nameAndType 113 114), (0, u "putChar"), (0, u "([BII)V"), (0, .methodref 12 116), (0, .nameAndType 117 118), (0, u "compress"), (0, u "([CI[BII)I"), (0, .methodref 12 120), (0, .nameAndType 121 122), (0, u "toBytes"), (0, u "([CII)[B"), (17, u "inflate"), (0, u "([BI[BII)V"), (31, .methodref 12 174), (0, .nameAndType 175 99), (0, u "checkBoundsOffCount"), (85, u "coderFromArrayLen"), (0, u "([BI)B"), (18, u "(III)I"), (87, .class_ 371), (1, u "java/lang/StringUTF16$LinesSpliterator"), (20, u "charAt"), (21, .methodref 3 415), (0, .nameAndType 69 416), (0, u "(II)V"), (2, .methodref 3 420), (0, .nameAndType 175 281), (9, u "MAX_LENGTH"), (44, u "(C)[B"), (110, u "putCharSB"), (40, .class_ 628), (0, u "java/lang/StringUTF16$CodePointsSpliterator"), (0, .class_ 630), (0, u "java/lang/StringUTF16$CharsSpliterator")] 4

def k17m0 : Method := { name := "<init>", desc := "()V", sig := { parameters := [], returnType := none }, accessFlags := 0, code := none }
def k17c1 : Code := { maxStack := 1, maxLocals := 1, code := jdk_52_method_2_code, exceptionTable := #[], attributes := #[] }
def k17m1 : Method := { name := "newBytesFor", desc := "(I)[B", sig := { parameters := [.int], returnType := some (.array .byte) }, accessFlags := 9, code := some k17c1 }
def k17c2 : Code := { maxStack := 4, maxLocals := 1, code := jdk_52_method_3_code, exceptionTable := #[], attributes := #[] }
def k17m2 : Method := { name := "newBytesLength", desc := "(I)I", sig := { parameters := [.int], returnType := some .int }, accessFlags := 9, code := some k17c2 }
def k17c3 : Code := { maxStack := 4, maxLocals := 3, code := jdk_52_method_4_code, exceptionTable := #[], attributes := #[] }
def k17m3 : Method := { name := "putChar", desc := "([BII)V", sig := { parameters := [(.array .byte), .int, .int], returnType := none }, accessFlags := 8, code := some k17c3 }
def k17c4 : Code := { maxStack := 3, maxLocals := 2, code := jdk_52_method_5_code, exceptionTable := #[], attributes := #[] }
def k17m4 : Method := { name := "getChar", desc := "([BI)C", sig := { parameters := [(.array .byte), .int], returnType := some .char }, accessFlags := 8, code := some k17c4 }
def k17c5 : Code := { maxStack := 2, maxLocals := 1, code := jdk_52_method_6_code, exceptionTable := #[], attributes := #[] }
def k17m5 : Method := { name := "length", desc := "([B)I", sig := { parameters := [(.array .byte)], returnType := some .int }, accessFlags := 9, code := some k17c5 }
def k17c6 : Code := { maxStack := 4, maxLocals := 5, code := jdk_52_method_14_code, exceptionTable := #[], attributes := #[] }
def k17m6 : Method := { name := "toBytes", desc := "([CII)[B", sig := { parameters := [(.array .char), .int, .int], returnType := some (.array .byte) }, accessFlags := 9, code := some k17c6 }
def k17c7 : Code := { maxStack := 2, maxLocals := 2, code := jdk_52_method_15_code, exceptionTable := #[], attributes := #[] }
def k17m7 : Method := { name := "coderFromArrayLen", desc := "([BI)B", sig := { parameters := [(.array .byte), .int], returnType := some .byte }, accessFlags := 8, code := some k17c7 }
def k17c8 : Code := { maxStack := 5, maxLocals := 6, code := jdk_52_method_16_code, exceptionTable := #[], attributes := #[] }
def k17m8 : Method := { name := "compress", desc := "([CII)[B", sig := { parameters := [(.array .char), .int, .int], returnType := some (.array .byte) }, accessFlags := 9, code := some k17c8 }
def k17c9 : Code := { maxStack := 3, maxLocals := 7, code := jdk_52_method_21_code, exceptionTable := #[], attributes := #[] }
def k17m9 : Method := { name := "compress", desc := "([CI[BII)I", sig := { parameters := [(.array .char), .int, (.array .byte), .int, .int], returnType := some .int }, accessFlags := 9, code := some k17c9 }
def k17c10 : Code := { maxStack := 3, maxLocals := 2, code := jdk_52_method_24_code, exceptionTable := #[], attributes := #[] }
def k17m10 : Method := { name := "toBytes", desc := "(C)[B", sig := { parameters := [.char], returnType := some (.array .byte) }, accessFlags := 9, code := some k17c10 }
def k17c11 : Code := { maxStack := 3, maxLocals := 3, code := jdk_52_method_71_code, exceptionTable := #[], attributes := #[] }
def k17m11 : Method := { name := "putCharSB", desc := "([BII)V", sig := { parameters := [(.array .byte), .int, .int], returnType := none }, accessFlags := 9, code := some k17c11 }
def k17c12 : Code := { maxStack := 2, maxLocals := 2, code := jdk_52_method_83_code, exceptionTable := #[], attributes := #[] }
def k17m12 : Method := { name := "charAt", desc := "([BI)C", sig := { parameters := [(.array .byte), .int], returnType := some .char }, accessFlags := 9, code := some k17c12 }
def k17c13 : Code := { maxStack := 4, maxLocals := 6, code := jdk_52_method_86_code, exceptionTable := #[], attributes := #[] }
def k17m13 : Method := { name := "inflate", desc := "([BI[BII)V", sig := { parameters := [(.array .byte), .int, (.array .byte), .int, .int], returnType := none }, accessFlags := 9, code := some k17c13 }
def k17c14 : Code := { maxStack := 2, maxLocals := 2, code := jdk_52_method_91_code, exceptionTable := #[], attributes := #[] }
def k17m14 : Method := { name := "checkIndex", desc := "(I[B)V", sig := { parameters := [.int, (.array .byte)], returnType := none }, accessFlags := 9, code := some k17c14 }
def k17c15 : Code := { maxStack := 3, maxLocals := 3, code := jdk_52_method_94_code, exceptionTable := #[], attributes := #[] }
def k17m15 : Method := { name := "checkBoundsOffCount", desc := "(II[B)V", sig := { parameters := [.int, .int, (.array .byte)], returnType := none }, accessFlags := 9, code := some k17c15 }
/-- java/lang/StringUTF16 -/
def k17 : Class := { plain "java/lang/StringUTF16" (some 0) with
  accessFlags := 48
  interfaces := #[]
  cf := some (fileOf pool17 12 #[.nestMembers #[627, 629, 369]] #[{ accessFlags := 0, nameIndex := 9, descriptorIndex := 10, attributes := #[] }, { accessFlags := 9, nameIndex := 109, descriptorIndex := 110, attributes := #[] }, { accessFlags := 9, nameIndex := 15, descriptorIndex := 16, attributes := #[] }, { accessFlags := 8, nameIndex := 113, descriptorIndex := 114, attributes := #[] }, { accessFlags := 8, nameIndex := 73, descriptorIndex := 74, attributes := #[] }, { accessFlags := 9, nameIndex := 50, descriptorIndex := 51, attributes := #[] }, { accessFlags := 9, nameIndex := 121, descriptorIndex := 122, attributes := #[] }, { accessFlags := 8, nameIndex := 261, descriptorIndex := 262, attributes := #[] }, { accessFlags := 9, nameIndex := 117, descriptorIndex := 122, attributes := #[] }, { accessFlags := 9, nameIndex := 117, descriptorIndex := 118, attributes := #[] }, { accessFlags := 9, nameIndex := 121, descriptorIndex := 475, attributes := #[] }, { accessFlags := 9, nameIndex := 586, descriptorIndex := 114, attributes := #[] }, { accessFlags := 9, nameIndex := 392, descriptorIndex := 74, attributes := #[] }, { accessFlags := 9, nameIndex := 140, descriptorIndex := 141, attributes := #[] }, { accessFlags := 9, nameIndex := 69, descriptorIndex := 70, attributes := #[] }, { accessFlags := 9, nameIndex := 175, descriptorIndex := 99, attributes := #[] }] 48 6 #[] #[{ accessFlags := 26, nameIndex := 61, descriptorIndex := 62, attributes := #[] }, { accessFlags := 26, nameIndex := 65, descriptorIndex := 62, attributes := #[] }, { accessFlags := 24, nameIndex := 430, descriptorIndex := 62, attributes := #[] }, { accessFlags := 4120, nameIndex := 46, descriptorIndex := 47, attributes := #[] }])
  fields := #[{ name := "HI_BYTE_SHIFT", type := .int, accessFlags := 26, slot := 0, constantValue := 0 }, { name := "LO_BYTE_SHIFT", type := .int, accessFlags := 26, slot := 1, constantValue := 0 }, { name := "MAX_LENGTH", type := .int, accessFlags := 24, slot := 2, constantValue := 0 }, { name := "$assertionsDisabled", type := .boolean, accessFlags := 4120, slot := 3, constantValue := 0 }]
  methods := #[k17m0, k17m1, k17m2, k17m3, k17m4, k17m5, k17m6, k17m7, k17m8, k17m9, k17m10, k17m11, k17m12, k17m13, k17m14, k17m15]
  instanceTypes := #[]
  staticTypes := #[.int, .int, .int, .boolean]
  resolved := Array.replicate 635 none
  statics := some 2 }

def pool18 : Array CpInfo := pool [(9, u "<init>"), (6, .class_ 18), (1, u "java/lang/Object"), (0, u "()V"), (1, .class_ 23), (1, u "jdk/internal/util/ArraysSupport"), (0, u "LOG2_ARRAY_LONG_INDEX_SCALE"), (0, u "I"), (2, u "U"), (0, u "Ljdk/internal/misc/Unsafe;"), (8, u "BIG_ENDIAN"), (0, u "Z"), (8, u "LOG2_BYTE_BIT_SIZE"), (4, u "LOG2_ARRAY_INT_INDEX_SCALE"), (54, u "JLA"), (0, u "Ljdk/internal/access/JavaLangAccess;"), (11, u "LOG2_ARRAY_BOOLEAN_INDEX_SCALE"), (9, u "LOG2_ARRAY_BYTE_INDEX_SCALE"), (5, u "LOG2_ARRAY_CHAR_INDEX_SCALE"), (5, u "LOG2_ARRAY_SHORT_INDEX_SCALE"), (18, u "LOG2_ARRAY_FLOAT_INDEX_SCALE"), (24, u "LOG2_ARRAY_DOUBLE_INDEX_SCALE"), (89, u "T_BOOLEAN"), (2, u "T_CHAR"), (1, u "T_FLOAT"), (1, u "T_DOUBLE"), (1, u "T_BYTE"), (1, u "T_SHORT"), (1, u "T_INT"), (1, u "T_LONG"), (1, u "SOFT_MAX_ARRAY_LENGTH")] 83

def k18m0 : Method := { name := "<init>", desc := "()V", sig := { parameters := [], returnType := none }, accessFlags := 2, code := none }
/-- jdk/internal/util/ArraysSupport -/
def k18 : Class := { plain "jdk/internal/util/ArraysSupport" (some 0) with
  accessFlags := 33
  interfaces := #[]
  cf := some (fileOf pool18 21 #[] #[{ accessFlags := 2, nameIndex := 9, descriptorIndex := 19, attributes := #[] }] 33 16 #[] #[{ accessFlags := 24, nameIndex := 28, descriptorIndex := 29, attributes := #[] }, { accessFlags := 26, nameIndex := 38, descriptorIndex := 39, attributes := #[] }, { accessFlags := 25, nameIndex := 121, descriptorIndex := 25, attributes := #[] }, { accessFlags := 25, nameIndex := 131, descriptorIndex := 25, attributes := #[] }, { accessFlags := 25, nameIndex := 137, descriptorIndex := 25, attributes := #[] }, { accessFlags := 25, nameIndex := 143, descriptorIndex := 25, attributes := #[] }, { accessFlags := 25, nameIndex := 53, descriptorIndex := 25, attributes := #[] }, { accessFlags := 25, nameIndex := 24, descriptorIndex := 25, attributes := #[] }, { accessFlags := 25, nameIndex := 162, descriptorIndex := 25, attributes := #[] }, { accessFlags := 25, nameIndex := 187, descriptorIndex := 25, attributes := #[] }, { accessFlags := 26, nameIndex := 48, descriptorIndex := 25, attributes := #[] }, { accessFlags := 25, nameIndex := 277, descriptorIndex := 25, attributes := #[] }, { accessFlags := 25, nameIndex := 280, descriptorIndex := 25, attributes := #[] }, { accessFlags := 25, nameIndex := 282, descriptorIndex := 25, attributes := #[] }, { accessFlags := 25, nameIndex := 284, descriptorIndex := 25, attributes := #[] }, { accessFlags := 25, nameIndex := 286, descriptorIndex := 25, attributes := #[] }, { accessFlags := 25, nameIndex := 288, descriptorIndex := 25, attributes := #[] }, { accessFlags := 25, nameIndex := 290, descriptorIndex := 25, attributes := #[] }, { accessFlags := 25, nameIndex := 292, descriptorIndex := 25, attributes := #[] }, { accessFlags := 26, nameIndex := 108, descriptorIndex := 109, attributes := #[] }, { accessFlags := 25, nameIndex := 294, descriptorIndex := 25, attributes := #[] }])
  fields := #[{ name := "U", type := (.object "jdk/internal/misc/Unsafe"), accessFlags := 24, slot := 0, constantValue := 0 }, { name := "BIG_ENDIAN", type := .boolean, accessFlags := 26, slot := 1, constantValue := 0 }, { name := "LOG2_ARRAY_BOOLEAN_INDEX_SCALE", type := .int, accessFlags := 25, slot := 2, constantValue := 0 }, { name := "LOG2_ARRAY_BYTE_INDEX_SCALE", type := .int, accessFlags := 25, slot := 3, constantValue := 0 }, { name := "LOG2_ARRAY_CHAR_INDEX_SCALE", type := .int, accessFlags := 25, slot := 4, constantValue := 0 }, { name := "LOG2_ARRAY_SHORT_INDEX_SCALE", type := .int, accessFlags := 25, slot := 5, constantValue := 0 }, { name := "LOG2_ARRAY_INT_INDEX_SCALE", type := .int, accessFlags := 25, slot := 6, constantValue := 0 }, { name := "LOG2_ARRAY_LONG_INDEX_SCALE", type := .int, accessFlags := 25, slot := 7, constantValue := 0 }, { name := "LOG2_ARRAY_FLOAT_INDEX_SCALE", type := .int, accessFlags := 25, slot := 8, constantValue := 0 }, { name := "LOG2_ARRAY_DOUBLE_INDEX_SCALE", type := .int, accessFlags := 25, slot := 9, constantValue := 0 }, { name := "LOG2_BYTE_BIT_SIZE", type := .int, accessFlags := 26, slot := 10, constantValue := 0 }, { name := "T_BOOLEAN", type := .int, accessFlags := 25, slot := 11, constantValue := 0 }, { name := "T_CHAR", type := .int, accessFlags := 25, slot := 12, constantValue := 0 }, { name := "T_FLOAT", type := .int, accessFlags := 25, slot := 13, constantValue := 0 }, { name := "T_DOUBLE", type := .int, accessFlags := 25, slot := 14, constantValue := 0 }, { name := "T_BYTE", type := .int, accessFlags := 25, slot := 15, constantValue := 0 }, { name := "T_SHORT", type := .int, accessFlags := 25, slot := 16, constantValue := 0 }, { name := "T_INT", type := .int, accessFlags := 25, slot := 17, constantValue := 0 }, { name := "T_LONG", type := .int, accessFlags := 25, slot := 18, constantValue := 0 }, { name := "JLA", type := (.object "jdk/internal/access/JavaLangAccess"), accessFlags := 26, slot := 19, constantValue := 0 }, { name := "SOFT_MAX_ARRAY_LENGTH", type := .int, accessFlags := 25, slot := 20, constantValue := 0 }]
  methods := #[k18m0]
  instanceTypes := #[]
  staticTypes := #[(.object "jdk/internal/misc/Unsafe"), .boolean, .int, .int, .int, .int, .int, .int, .int, .int, .int, .int, .int, .int, .int, .int, .int, .int, .int, (.object "jdk/internal/access/JavaLangAccess"), .int]
  resolved := Array.replicate 378 none
  statics := none }

def pool19 : Array CpInfo := pool [(1, u "java/lang/Cloneable"), (0, .class_ 1), (0, u "java/lang/Object"), (0, .class_ 3)] 3

/-- java/lang/Cloneable -/
def k19 : Class := { plain "java/lang/Cloneable" (some 0) with
  accessFlags := 1537
  interfaces := #[]
  cf := some (fileOf pool19 2 #[] #[] 1537 4 #[] #[])
  fields := #[]
  methods := #[]
  instanceTypes := #[]
  staticTypes := #[]
  resolved := Array.replicate 8 none
  statics := none }

/-- the primitive byte -/
def k20 : Class := { plain "byte" none with kind := .primitive 'B', accessFlags := 0x411 }
/-- [B -/
def k21 : Class := { plain "[B" (some 0) with kind := .array 20 .byte, interfaces := #[19, 2], accessFlags := 1041 }

/-- the primitive char -/
def k22 : Class := { plain "char" none with kind := .primitive 'C', accessFlags := 0x411 }
/-- [C -/
def k23 : Class := { plain "[C" (some 0) with kind := .array 22 .char, interfaces := #[19, 2], accessFlags := 1041 }

/-- the primitive int -/
def k24 : Class := { plain "int" none with kind := .primitive 'I', accessFlags := 0x411 }
/-- [I -/
def k25 : Class := { plain "[I" (some 0) with kind := .array 24 .int, interfaces := #[19, 2], accessFlags := 1041 }

/-- [Ljava/lang/String; -/
def k26 : Class := { plain "[Ljava/lang/String;" (some 0) with kind := .array 7 (.object "java/lang/String"), interfaces := #[19, 2], accessFlags := 1041 }

def heap : Heap := #[{ cls := 7, slots := #[.long 0, .int 1, .null, .int 0, .null, .int 0, .int 0], vm := .statics 7 },
  { cls := 16, slots := #[.null, .null, .null], vm := .statics 16 },
  { cls := 17, slots := #[.int 0, .int 8, .int 0, .int 1], vm := .statics 17 }]
def classes : Array Class := #[k0, k1, k2, k3, k4, k5, k6, k7, k8, k9, k10, k11, k12, k13, k14, k15, k16, k17, k18, k19, k20, k21, k22, k23, k24, k25, k26]
def interned : List (Array UInt16 × Addr) := []
def slotsUsed : Nat := 14
def theMethod : MethodId := ⟨1, 1⟩
def args0 : Array Value := #[.int 27, .long 5, .long 65536, .long 7]
def aboutOver (below : List Frame) : State where
  vm := { classes := classes, interned := interned.toArray }
  heap := heap
  slotsUsed := slotsUsed
  threads := #[{ frames := .invoking theMethod args0 :: below }]
def below0 : List Frame := [.native { method := ⟨0, 0⟩, args := #[] }]
def about1 : State := aboutOver below0
def p0 : Program := .bare "" "" ""
def e0 : Env := launch0.env 0 0 0
theorem w_frames : about1.frames = Frame.invoking theMethod args0 :: below0 := rfl
set_option maxRecDepth 65536 in
theorem w_args : argsFit about1.vm theMethod args0 = true := by decide +kernel
set_option maxRecDepth 65536 in
theorem w_heap : heapFits about1 = true := by decide +kernel
set_option maxRecDepth 65536 in
theorem w_runnable : about1.curStatus? = some .runnable := by decide +kernel
set_option maxRecDepth 65536 in
theorem w_alone : about1.alone = true := by decide +kernel
set_option maxRecDepth 65536 in
theorem w_named : about1.methodNamed? x = some theMethod := by decide +kernel
set_option maxRecDepth 65536 in
theorem w_hears : about1.hears theMethod below0 = true := by decide +kernel
set_option maxRecDepth 65536 in
theorem w_ripe : about1.ripe theMethod args0 below0 = true := by decide +kernel
theorem w_running : about1.status = .running := rfl
set_option maxRecDepth 65536 in
theorem w_room : about1.hasRoom e0.platform room_1 = true :=
  launch0.hasRoom_least _ room_1 (by decide +kernel) (by decide +kernel) (by decide +kernel) (by decide +kernel) (by decide +kernel) (by decide +kernel)
theorem allAtoms_all (ts : List Jvm.Cond) (a : Array Jvm.Value) (st : Jvm.State) : (allAtoms ts).before a st = ts.all (fun c => c.before a st) := by
  induction ts with
  | nil => rfl
  | cons c t ih =>
    show (Jvm.Cond.and c (allAtoms t)).before a st = _
    rw [Jvm.Cond.before_and, ih, List.all_cons]
def words1 : List Jvm.Cond := Jvm.Cond.code x code maxLocals ret :: tables_1
/-- a 'code' word, met by the world's own term for the bytes: nothing is compared byte by byte -/
theorem code_word {y : MethodName} {bytes : ByteArray} {mx : Nat} {rt : Option FieldType} {a : Array Value} {s : State} {m : MethodId} {meth : Method} {c : Code} (h1 : s.methodNamed? y = some m) (h2 : s.vm.method? m = some meth) (h3 : meth.code = some c) (h4 : c.code = bytes)
    (h5 : (c.maxLocals == mx && c.exceptionTable.isEmpty && decide (c.maxStack ≤ mostOperands) && decide (meth.sig.returnType = rt) && !meth.locks && decide (parseMethodDescriptor y.desc = some meth.sig)) = true) : (Jvm.Cond.code y bytes mx rt).before a s = true := by
  simp only [Bool.and_eq_true, beq_iff_eq, Bool.not_eq_true', decide_eq_true_eq] at h5
  obtain ⟨⟨⟨⟨⟨g1, g2⟩, g3⟩, g4⟩, g5⟩, g6⟩ := h5
  simp [Cond.before, Cond.holds, Cond.value, h1, h2, h3, h4, g1, g2, g3, g4, g5, g6]
def isCode : Jvm.Cond → Bool
  | .code _ _ _ _ => true
  | _ => false
theorem all_split {L : List Jvm.Cond} {P : Jvm.Cond → Bool} (h1 : L.all (fun c => isCode c || P c) = true) (h2 : ∀ c ∈ L.filter isCode, P c = true) : L.all P = true := by
  refine List.all_eq_true.mpr fun c hc => ?_
  have h := List.all_eq_true.mp h1 c hc
  rcases Bool.eq_false_or_eq_true (isCode c) with hi | hi
  · exact h2 c (List.mem_filter.mpr ⟨hc, hi⟩)
  · simpa [hi] using h
set_option maxRecDepth 65536 in
theorem w_c0 : (Jvm.Cond.code x code maxLocals ret).before args0 about1 = true := code_word (m := ⟨1, 1⟩) (meth := k1m1) (c := k1c1) (by decide +kernel) rfl rfl rfl (by decide +kernel)
set_option maxRecDepth 65536 in
theorem w_c1 : (Jvm.Cond.code ({ cls := "com/example/surfacemap/surfacemap/cli/TsvLinePinLaw", name := "pick", desc := "(J)C" } : Jvm.MethodName) method_3_code (3 : Nat) (Option.some Jvm.ClassFile.FieldType.char)).before args0 about1 = true := code_word (m := ⟨1, 2⟩) (meth := k1m2) (c := k1c2) (by decide +kernel) rfl rfl rfl (by decide +kernel)
set_option maxRecDepth 65536 in
theorem w_c2 : (Jvm.Cond.code ({ cls := "com/example/surfacemap/surfacemap/cli/TsvLinePinLaw", name := "field", desc := "(ICC)Ljava/lang/String;" } : Jvm.MethodName) method_4_code (3 : Nat) (Option.some (Jvm.ClassFile.FieldType.object "java/lang/String"))).before args0 about1 = true := code_word (m := ⟨1, 3⟩) (meth := k1m3) (c := k1c3) (by decide +kernel) rfl rfl rfl (by decide +kernel)
set_option maxRecDepth 65536 in
theorem w_c3 : (Jvm.Cond.code ({ cls := "java/lang/String", name := "<init>", desc := "([C)V" } : Jvm.MethodName) jdk_42_method_3_code (2 : Nat) (Option.none : Option Jvm.ClassFile.FieldType)).before args0 about1 = true := code_word (m := ⟨7, 1⟩) (meth := k7m1) (c := k7c1) (by decide +kernel) rfl rfl rfl (by decide +kernel)
set_option maxRecDepth 65536 in
theorem w_c4 : (Jvm.Cond.code ({ cls := "java/lang/String", name := "<init>", desc := "([CIILjava/lang/Void;)V" } : Jvm.MethodName) jdk_42_method_149_code (6 : Nat) (Option.none : Option Jvm.ClassFile.FieldType)).before args0 about1 = true := code_word (m := ⟨7, 7⟩) (meth := k7m7) (c := k7c7) (by decide +kernel) rfl rfl rfl (by decide +kernel)
set_option maxRecDepth 65536 in
theorem w_c5 : (Jvm.Cond.code ({ cls := "java/lang/Object", name := "<init>", desc := "()V" } : Jvm.MethodName) object_method_1_code (1 : Nat) (Option.none : Option Jvm.ClassFile.FieldType)).before args0 about1 = true := code_word (m := ⟨0, 0⟩) (meth := k0m0) (c := k0c0) (by decide +kernel) rfl rfl rfl (by decide +kernel)
set_option maxRecDepth 65536 in
theorem w_c6 : (Jvm.Cond.code ({ cls := "com/example/surfacemap/surfacemap/cli/Tsv", name := "line", desc := "([Ljava/lang/String;)Ljava/lang/String;" } : Jvm.MethodName) prog_3_method_2_code (3 : Nat) (Option.some (Jvm.ClassFile.FieldType.object "java/lang/String"))).before args0 about1 = true := code_word (m := ⟨8, 1⟩) (meth := k8m1) (c := k8c1) (by decide +kernel) rfl rfl rfl (by decide +kernel)
set_option maxRecDepth 65536 in
theorem w_c7 : (Jvm.Cond.code ({ cls := "java/lang/StringBuilder", name := "<init>", desc := "()V" } : Jvm.MethodName) jdk_67_method_1_code (1 : Nat) (Option.none : Option Jvm.ClassFile.FieldType)).before args0 about1 = true := code_word (m := ⟨11, 0⟩) (meth := k11m0) (c := k11c0) (by decide +kernel) rfl rfl rfl (by decide +kernel)
set_option maxRecDepth 65536 in
theorem w_c8 : (Jvm.Cond.code ({ cls := "java/lang/AbstractStringBuilder", name := "<init>", desc := "(I)V" } : Jvm.MethodName) jdk_68_method_2_code (2 : Nat) (Option.none : Option Jvm.ClassFile.FieldType)).before args0 about1 = true := code_word (m := ⟨10, 1⟩) (meth := k10m1) (c := k10c1) (by decide +kernel) rfl rfl rfl (by decide +kernel)
set_option maxRecDepth 65536 in
theorem w_c9 : (Jvm.Cond.code ({ cls := "java/lang/StringBuilder", name := "append", desc := "(C)Ljava/lang/StringBuilder;" } : Jvm.MethodName) jdk_67_method_14_code (2 : Nat) (Option.some (Jvm.ClassFile.FieldType.object "java/lang/StringBuilder"))).before args0 about1 = true := code_word (m := ⟨11, 2⟩) (meth := k11m2) (c := k11c2) (by decide +kernel) rfl rfl rfl (by decide +kernel)
set_option maxRecDepth 65536 in
theorem w_c10 : (Jvm.Cond.code ({ cls := "java/lang/AbstractStringBuilder", name := "append", desc := "(C)Ljava/lang/AbstractStringBuilder;" } : Jvm.MethodName) jdk_68_method_31_code (2 : Nat) (Option.some (Jvm.ClassFile.FieldType.object "java/lang/AbstractStringBuilder"))).before args0 about1 = true := code_word (m := ⟨10, 6⟩) (meth := k10m6) (c := k10c6) (by decide +kernel) rfl rfl rfl (by decide +kernel)
set_option maxRecDepth 65536 in
theorem w_c11 : (Jvm.Cond.code ({ cls := "java/lang/AbstractStringBuilder", name := "ensureCapacityInternal", desc := "(I)V" } : Jvm.MethodName) jdk_68_method_9_code (3 : Nat) (Option.none : Option Jvm.ClassFile.FieldType)).before args0 about1 = true := code_word (m := ⟨10, 3⟩) (meth := k10m3) (c := k10c3) (by decide +kernel) rfl rfl rfl (by decide +kernel)
set_option maxRecDepth 65536 in
theorem w_c12 : (Jvm.Cond.code ({ cls := "java/lang/AbstractStringBuilder", name := "isLatin1", desc := "()Z" } : Jvm.MethodName) jdk_68_method_68_code (1 : Nat) (Option.some Jvm.ClassFile.FieldType.boolean)).before args0 about1 = true := code_word (m := ⟨10, 8⟩) (meth := k10m8) (c := k10c8) (by decide +kernel) rfl rfl rfl (by decide +kernel)
set_option maxRecDepth 65536 in
theorem w_c13 : (Jvm.Cond.code ({ cls := "java/lang/StringLatin1", name := "canEncode", desc := "(C)Z" } : Jvm.MethodName) jdk_43_method_3_code (1 : Nat) (Option.some Jvm.ClassFile.FieldType.boolean)).before args0 about1 = true := code_word (m := ⟨12, 2⟩) (meth := k12m2) (c := k12c2) (by decide +kernel) rfl rfl rfl (by decide +kernel)
set_option maxRecDepth 65536 in
theorem w_c14 : (Jvm.Cond.code ({ cls := "java/lang/StringBuilder", name := "toString", desc := "()Ljava/lang/String;" } : Jvm.MethodName) jdk_67_method_42_code (1 : Nat) (Option.some (Jvm.ClassFile.FieldType.object "java/lang/String"))).before args0 about1 = true := code_word (m := ⟨11, 3⟩) (meth := k11m3) (c := k11c3) (by decide +kernel) rfl rfl rfl (by decide +kernel)
set_option maxRecDepth 65536 in
theorem w_c15 : (Jvm.Cond.code ({ cls := "java/lang/String", name := "<init>", desc := "(Ljava/lang/StringBuilder;)V" } : Jvm.MethodName) jdk_42_method_53_code (2 : Nat) (Option.none : Option Jvm.ClassFile.FieldType)).before args0 about1 = true := code_word (m := ⟨7, 2⟩) (meth := k7m2) (c := k7c2) (by decide +kernel) rfl rfl rfl (by decide +kernel)
set_option maxRecDepth 65536 in
theorem w_c16 : (Jvm.Cond.code ({ cls := "java/lang/String", name := "<init>", desc := "(Ljava/lang/AbstractStringBuilder;Ljava/lang/Void;)V" } : Jvm.MethodName) jdk_42_method_150_code (5 : Nat) (Option.none : Option Jvm.ClassFile.FieldType)).before args0 about1 = true := code_word (m := ⟨7, 8⟩) (meth := k7m8) (c := k7c8) (by decide +kernel) rfl rfl rfl (by decide +kernel)
set_option maxRecDepth 65536 in
theorem w_c17 : (Jvm.Cond.code ({ cls := "java/lang/AbstractStringBuilder", name := "getValue", desc := "()[B" } : Jvm.MethodName) jdk_68_method_64_code (1 : Nat) (Option.some (Jvm.ClassFile.FieldType.array Jvm.ClassFile.FieldType.byte))).before args0 about1 = true := code_word (m := ⟨10, 7⟩) (meth := k10m7) (c := k10c7) (by decide +kernel) rfl rfl rfl (by decide +kernel)
set_option maxRecDepth 65536 in
theorem w_c18 : (Jvm.Cond.code ({ cls := "java/lang/StringBuilder", name := "length", desc := "()I" } : Jvm.MethodName) jdk_67_method_93_code (1 : Nat) (Option.some Jvm.ClassFile.FieldType.int)).before args0 about1 = true := code_word (m := ⟨11, 4⟩) (meth := k11m4) (c := k11c4) (by decide +kernel) rfl rfl rfl (by decide +kernel)
set_option maxRecDepth 65536 in
theorem w_c19 : (Jvm.Cond.code ({ cls := "java/lang/AbstractStringBuilder", name := "length", desc := "()I" } : Jvm.MethodName) jdk_68_method_6_code (1 : Nat) (Option.some Jvm.ClassFile.FieldType.int)).before args0 about1 = true := code_word (m := ⟨10, 2⟩) (meth := k10m2) (c := k10c2) (by decide +kernel) rfl rfl rfl (by decide +kernel)
set_option maxRecDepth 65536 in
theorem w_c20 : (Jvm.Cond.code ({ cls := "java/util/Arrays", name := "copyOfRange", desc := "([BII)[B" } : Jvm.MethodName) jdk_65_method_132_code (3 : Nat) (Option.some (Jvm.ClassFile.FieldType.array Jvm.ClassFile.FieldType.byte))).before args0 about1 = true := code_word (m := ⟨13, 2⟩) (meth := k13m2) (c := k13c2) (by decide +kernel) rfl rfl rfl (by decide +kernel)
set_option maxRecDepth 65536 in
theorem w_c21 : (Jvm.Cond.code ({ cls := "java/util/Arrays", name := "copyOfRangeByte", desc := "([BII)[B" } : Jvm.MethodName) jdk_65_method_133_code (5 : Nat) (Option.some (Jvm.ClassFile.FieldType.array Jvm.ClassFile.FieldType.byte))).before args0 about1 = true := code_word (m := ⟨13, 3⟩) (meth := k13m3) (c := k13c3) (by decide +kernel) rfl rfl rfl (by decide +kernel)
set_option maxRecDepth 65536 in
theorem w_c22 : (Jvm.Cond.code ({ cls := "java/util/Arrays", name := "checkLength", desc := "(II)V" } : Jvm.MethodName) jdk_65_method_131_code (2 : Nat) (Option.none : Option Jvm.ClassFile.FieldType)).before args0 about1 = true := code_word (m := ⟨13, 1⟩) (meth := k13m1) (c := k13c1) (by decide +kernel) rfl rfl rfl (by decide +kernel)
set_option maxRecDepth 65536 in
theorem w_c23 : (Jvm.Cond.code ({ cls := "java/lang/Math", name := "min", desc := "(II)I" } : Jvm.MethodName) jdk_29_method_69_code (2 : Nat) (Option.some Jvm.ClassFile.FieldType.int)).before args0 about1 = true := code_word (m := ⟨14, 1⟩) (meth := k14m1) (c := k14c1) (by decide +kernel) rfl rfl rfl (by decide +kernel)
set_option maxRecDepth 65536 in
theorem w_c24 : (Jvm.Cond.code ({ cls := "com/example/surfacemap/surfacemap/cli/TsvLinePinLaw", name := "same", desc := "(Ljava/lang/String;[CI)Z" } : Jvm.MethodName) method_8_code (3 : Nat) (Option.some Jvm.ClassFile.FieldType.boolean)).before args0 about1 = true := code_word (m := ⟨1, 7⟩) (meth := k1m7) (c := k1c7) (by decide +kernel) rfl rfl rfl (by decide +kernel)
set_option maxRecDepth 65536 in
theorem w_c25 : (Jvm.Cond.code ({ cls := "java/lang/String", name := "length", desc := "()I" } : Jvm.MethodName) jdk_42_method_54_code (1 : Nat) (Option.some Jvm.ClassFile.FieldType.int)).before args0 about1 = true := code_word (m := ⟨7, 3⟩) (meth := k7m3) (c := k7c3) (by decide +kernel) rfl rfl rfl (by decide +kernel)
set_option maxRecDepth 65536 in
theorem w_c26 : (Jvm.Cond.code ({ cls := "java/lang/String", name := "coder", desc := "()B" } : Jvm.MethodName) jdk_42_method_152_code (1 : Nat) (Option.some Jvm.ClassFile.FieldType.byte)).before args0 about1 = true := code_word (m := ⟨7, 10⟩) (meth := k7m10) (c := k7c10) (by decide +kernel) rfl rfl rfl (by decide +kernel)
set_option maxRecDepth 65536 in
theorem w_c27 : (Jvm.Cond.code ({ cls := "com/example/surfacemap/surfacemap/cli/TsvLinePinLaw", name := "at", desc := "(Ljava/lang/String;[CII)Z" } : Jvm.MethodName) method_7_code (4 : Nat) (Option.some Jvm.ClassFile.FieldType.boolean)).before args0 about1 = true := code_word (m := ⟨1, 6⟩) (meth := k1m6) (c := k1c6) (by decide +kernel) rfl rfl rfl (by decide +kernel)
set_option maxRecDepth 65536 in
theorem w_c28 : (Jvm.Cond.code ({ cls := "java/lang/String", name := "charAt", desc := "(I)C" } : Jvm.MethodName) jdk_42_method_56_code (2 : Nat) (Option.some Jvm.ClassFile.FieldType.char)).before args0 about1 = true := code_word (m := ⟨7, 4⟩) (meth := k7m4) (c := k7c4) (by decide +kernel) rfl rfl rfl (by decide +kernel)
set_option maxRecDepth 65536 in
theorem w_c29 : (Jvm.Cond.code ({ cls := "java/lang/String", name := "isLatin1", desc := "()Z" } : Jvm.MethodName) jdk_42_method_154_code (1 : Nat) (Option.some Jvm.ClassFile.FieldType.boolean)).before args0 about1 = true := code_word (m := ⟨7, 11⟩) (meth := k7m11) (c := k7c11) (by decide +kernel) rfl rfl rfl (by decide +kernel)
set_option maxRecDepth 65536 in
theorem w_c30 : (Jvm.Cond.code ({ cls := "java/lang/StringLatin1", name := "charAt", desc := "([BI)C" } : Jvm.MethodName) jdk_43_method_2_code (2 : Nat) (Option.some Jvm.ClassFile.FieldType.char)).before args0 about1 = true := code_word (m := ⟨12, 1⟩) (meth := k12m1) (c := k12c1) (by decide +kernel) rfl rfl rfl (by decide +kernel)
set_option maxRecDepth 65536 in
theorem w_c31 : (Jvm.Cond.code ({ cls := "java/lang/String", name := "checkIndex", desc := "(II)V" } : Jvm.MethodName) jdk_42_method_155_code (2 : Nat) (Option.none : Option Jvm.ClassFile.FieldType)).before args0 about1 = true := code_word (m := ⟨7, 12⟩) (meth := k7m12) (c := k7c12) (by decide +kernel) rfl rfl rfl (by decide +kernel)
set_option maxRecDepth 65536 in
theorem w_c32 : (Jvm.Cond.code ({ cls := "jdk/internal/util/Preconditions", name := "checkIndex", desc := "(IILjava/util/function/BiFunction;)I" } : Jvm.MethodName) jdk_41_method_11_code (3 : Nat) (Option.some Jvm.ClassFile.FieldType.int)).before args0 about1 = true := code_word (m := ⟨16, 1⟩) (meth := k16m1) (c := k16c1) (by decide +kernel) rfl rfl rfl (by decide +kernel)
set_option maxRecDepth 65536 in
theorem w_c33 : (Jvm.Cond.code ({ cls := "com/example/surfacemap/surfacemap/cli/Tsv", name := "appendEscaped", desc := "(Ljava/lang/String;Ljava/lang/StringBuilder;)V" } : Jvm.MethodName) prog_3_method_3_code (4 : Nat) (Option.none : Option Jvm.ClassFile.FieldType)).before args0 about1 = true := code_word (m := ⟨8, 2⟩) (meth := k8m2) (c := k8c2) (by decide +kernel) rfl rfl rfl (by decide +kernel)
set_option maxRecDepth 65536 in
theorem w_c34 : (Jvm.Cond.code ({ cls := "com/example/surfacemap/surfacemap/cli/TsvLinePinLaw", name := "escField", desc := "([CIICC)I" } : Jvm.MethodName) method_6_code (6 : Nat) (Option.some Jvm.ClassFile.FieldType.int)).before args0 about1 = true := code_word (m := ⟨1, 5⟩) (meth := k1m5) (c := k1c5) (by decide +kernel) rfl rfl rfl (by decide +kernel)
set_option maxRecDepth 65536 in
theorem w_c35 : (Jvm.Cond.code ({ cls := "java/lang/StringUTF16", name := "compress", desc := "([CII)[B" } : Jvm.MethodName) jdk_52_method_16_code (6 : Nat) (Option.some (Jvm.ClassFile.FieldType.array Jvm.ClassFile.FieldType.byte))).before args0 about1 = true := code_word (m := ⟨17, 8⟩) (meth := k17m8) (c := k17c8) (by decide +kernel) rfl rfl rfl (by decide +kernel)
set_option maxRecDepth 65536 in
theorem w_c36 : (Jvm.Cond.code ({ cls := "java/lang/StringUTF16", name := "compress", desc := "([CI[BII)I" } : Jvm.MethodName) jdk_52_method_21_code (7 : Nat) (Option.some Jvm.ClassFile.FieldType.int)).before args0 about1 = true := code_word (m := ⟨17, 9⟩) (meth := k17m9) (c := k17c9) (by decide +kernel) rfl rfl rfl (by decide +kernel)
set_option maxRecDepth 65536 in
theorem w_c37 : (Jvm.Cond.code ({ cls := "java/lang/StringUTF16", name := "coderFromArrayLen", desc := "([BI)B" } : Jvm.MethodName) jdk_52_method_15_code (2 : Nat) (Option.some Jvm.ClassFile.FieldType.byte)).before args0 about1 = true := code_word (m := ⟨17, 7⟩) (meth := k17m7) (c := k17c7) (by decide +kernel) rfl rfl rfl (by decide +kernel)
set_option maxRecDepth 65536 in
theorem w_c38 : (Jvm.Cond.code ({ cls := "java/lang/String", name := "valueOf", desc := "(C)Ljava/lang/String;" } : Jvm.MethodName) jdk_42_method_139_code (1 : Nat) (Option.some (Jvm.ClassFile.FieldType.object "java/lang/String"))).before args0 about1 = true := code_word (m := ⟨7, 5⟩) (meth := k7m5) (c := k7c5) (by decide +kernel) rfl rfl rfl (by decide +kernel)
set_option maxRecDepth 65536 in
theorem w_c39 : (Jvm.Cond.code ({ cls := "java/lang/StringLatin1", name := "toBytes", desc := "(C)[B" } : Jvm.MethodName) jdk_43_method_46_code (1 : Nat) (Option.some (Jvm.ClassFile.FieldType.array Jvm.ClassFile.FieldType.byte))).before args0 about1 = true := code_word (m := ⟨12, 3⟩) (meth := k12m3) (c := k12c3) (by decide +kernel) rfl rfl rfl (by decide +kernel)
set_option maxRecDepth 65536 in
theorem w_c40 : (Jvm.Cond.code ({ cls := "java/lang/String", name := "<init>", desc := "([BB)V" } : Jvm.MethodName) jdk_42_method_151_code (3 : Nat) (Option.none : Option Jvm.ClassFile.FieldType)).before args0 about1 = true := code_word (m := ⟨7, 9⟩) (meth := k7m9) (c := k7c9) (by decide +kernel) rfl rfl rfl (by decide +kernel)
set_option maxRecDepth 65536 in
theorem w_c41 : (Jvm.Cond.code ({ cls := "java/lang/StringBuilder", name := "append", desc := "(Ljava/lang/String;)Ljava/lang/StringBuilder;" } : Jvm.MethodName) jdk_67_method_7_code (2 : Nat) (Option.some (Jvm.ClassFile.FieldType.object "java/lang/StringBuilder"))).before args0 about1 = true := code_word (m := ⟨11, 1⟩) (meth := k11m1) (c := k11c1) (by decide +kernel) rfl rfl rfl (by decide +kernel)
set_option maxRecDepth 65536 in
theorem w_c42 : (Jvm.Cond.code ({ cls := "java/lang/AbstractStringBuilder", name := "append", desc := "(Ljava/lang/String;)Ljava/lang/AbstractStringBuilder;" } : Jvm.MethodName) jdk_68_method_22_code (3 : Nat) (Option.some (Jvm.ClassFile.FieldType.object "java/lang/AbstractStringBuilder"))).before args0 about1 = true := code_word (m := ⟨10, 5⟩) (meth := k10m5) (c := k10c5) (by decide +kernel) rfl rfl rfl (by decide +kernel)
set_option maxRecDepth 65536 in
theorem w_c43 : (Jvm.Cond.code ({ cls := "java/lang/AbstractStringBuilder", name := "putStringAt", desc := "(ILjava/lang/String;)V" } : Jvm.MethodName) jdk_68_method_73_code (3 : Nat) (Option.none : Option Jvm.ClassFile.FieldType)).before args0 about1 = true := code_word (m := ⟨10, 10⟩) (meth := k10m10) (c := k10c10) (by decide +kernel) rfl rfl rfl (by decide +kernel)
set_option maxRecDepth 65536 in
theorem w_c44 : (Jvm.Cond.code ({ cls := "java/lang/AbstractStringBuilder", name := "inflateIfNeededFor", desc := "(Ljava/lang/String;)V" } : Jvm.MethodName) jdk_68_method_71_code (2 : Nat) (Option.none : Option Jvm.ClassFile.FieldType)).before args0 about1 = true := code_word (m := ⟨10, 9⟩) (meth := k10m9) (c := k10c9) (by decide +kernel) rfl rfl rfl (by decide +kernel)
set_option maxRecDepth 65536 in
theorem w_c45 : (Jvm.Cond.code ({ cls := "java/lang/String", name := "getBytes", desc := "([BIB)V" } : Jvm.MethodName) jdk_42_method_147_code (4 : Nat) (Option.none : Option Jvm.ClassFile.FieldType)).before args0 about1 = true := code_word (m := ⟨7, 6⟩) (meth := k7m6) (c := k7c6) (by decide +kernel) rfl rfl rfl (by decide +kernel)
set_option maxRecDepth 65536 in
theorem w_c46 : (Jvm.Cond.code ({ cls := "com/example/surfacemap/surfacemap/cli/TsvLinePinLaw", name := "esc", desc := "([CIC)I" } : Jvm.MethodName) method_5_code (3 : Nat) (Option.some Jvm.ClassFile.FieldType.int)).before args0 about1 = true := code_word (m := ⟨1, 4⟩) (meth := k1m4) (c := k1c4) (by decide +kernel) rfl rfl rfl (by decide +kernel)
set_option maxRecDepth 65536 in
theorem w_c47 : (Jvm.Cond.code ({ cls := "java/lang/StringUTF16", name := "toBytes", desc := "(C)[B" } : Jvm.MethodName) jdk_52_method_24_code (2 : Nat) (Option.some (Jvm.ClassFile.FieldType.array Jvm.ClassFile.FieldType.byte))).before args0 about1 = true := code_word (m := ⟨17, 10⟩) (meth := k17m10) (c := k17c10) (by decide +kernel) rfl rfl rfl (by decide +kernel)
set_option maxRecDepth 65536 in
theorem w_c48 : (Jvm.Cond.code ({ cls := "java/lang/StringUTF16", name := "putChar", desc := "([BII)V" } : Jvm.MethodName) jdk_52_method_4_code (3 : Nat) (Option.none : Option Jvm.ClassFile.FieldType)).before args0 about1 = true := code_word (m := ⟨17, 3⟩) (meth := k17m3) (c := k17c3) (by decide +kernel) rfl rfl rfl (by decide +kernel)
set_option maxRecDepth 65536 in
theorem w_c49 : (Jvm.Cond.code ({ cls := "java/lang/StringUTF16", name := "charAt", desc := "([BI)C" } : Jvm.MethodName) jdk_52_method_83_code (2 : Nat) (Option.some Jvm.ClassFile.FieldType.char)).before args0 about1 = true := code_word (m := ⟨17, 12⟩) (meth := k17m12) (c := k17c12) (by decide +kernel) rfl rfl rfl (by decide +kernel)
set_option maxRecDepth 65536 in
theorem w_c50 : (Jvm.Cond.code ({ cls := "java/lang/StringUTF16", name := "checkIndex", desc := "(I[B)V" } : Jvm.MethodName) jdk_52_method_91_code (2 : Nat) (Option.none : Option Jvm.ClassFile.FieldType)).before args0 about1 = true := code_word (m := ⟨17, 14⟩) (meth := k17m14) (c := k17c14) (by decide +kernel) rfl rfl rfl (by decide +kernel)
set_option maxRecDepth 65536 in
theorem w_c51 : (Jvm.Cond.code ({ cls := "java/lang/StringUTF16", name := "length", desc := "([B)I" } : Jvm.MethodName) jdk_52_method_6_code (1 : Nat) (Option.some Jvm.ClassFile.FieldType.int)).before args0 about1 = true := code_word (m := ⟨17, 5⟩) (meth := k17m5) (c := k17c5) (by decide +kernel) rfl rfl rfl (by decide +kernel)
set_option maxRecDepth 65536 in
theorem w_c52 : (Jvm.Cond.code ({ cls := "java/lang/StringUTF16", name := "getChar", desc := "([BI)C" } : Jvm.MethodName) jdk_52_method_5_code (2 : Nat) (Option.some Jvm.ClassFile.FieldType.char)).before args0 about1 = true := code_word (m := ⟨17, 4⟩) (meth := k17m4) (c := k17c4) (by decide +kernel) rfl rfl rfl (by decide +kernel)
set_option maxRecDepth 65536 in
theorem w_c53 : (Jvm.Cond.code ({ cls := "java/lang/AbstractStringBuilder", name := "inflate", desc := "()V" } : Jvm.MethodName) jdk_68_method_11_code (2 : Nat) (Option.none : Option Jvm.ClassFile.FieldType)).before args0 about1 = true := code_word (m := ⟨10, 4⟩) (meth := k10m4) (c := k10c4) (by decide +kernel) rfl rfl rfl (by decide +kernel)
set_option maxRecDepth 65536 in
theorem w_c54 : (Jvm.Cond.code ({ cls := "java/lang/StringUTF16", name := "newBytesFor", desc := "(I)[B" } : Jvm.MethodName) jdk_52_method_2_code (1 : Nat) (Option.some (Jvm.ClassFile.FieldType.array Jvm.ClassFile.FieldType.byte))).before args0 about1 = true := code_word (m := ⟨17, 1⟩) (meth := k17m1) (c := k17c1) (by decide +kernel) rfl rfl rfl (by decide +kernel)
set_option maxRecDepth 65536 in
theorem w_c55 : (Jvm.Cond.code ({ cls := "java/lang/StringUTF16", name := "newBytesLength", desc := "(I)I" } : Jvm.MethodName) jdk_52_method_3_code (1 : Nat) (Option.some Jvm.ClassFile.FieldType.int)).before args0 about1 = true := code_word (m := ⟨17, 2⟩) (meth := k17m2) (c := k17c2) (by decide +kernel) rfl rfl rfl (by decide +kernel)
set_option maxRecDepth 65536 in
theorem w_c56 : (Jvm.Cond.code ({ cls := "java/lang/StringLatin1", name := "inflate", desc := "([BI[BII)V" } : Jvm.MethodName) jdk_43_method_50_code (5 : Nat) (Option.none : Option Jvm.ClassFile.FieldType)).before args0 about1 = true := code_word (m := ⟨12, 4⟩) (meth := k12m4) (c := k12c4) (by decide +kernel) rfl rfl rfl (by decide +kernel)
set_option maxRecDepth 65536 in
theorem w_c57 : (Jvm.Cond.code ({ cls := "java/lang/StringUTF16", name := "inflate", desc := "([BI[BII)V" } : Jvm.MethodName) jdk_52_method_86_code (6 : Nat) (Option.none : Option Jvm.ClassFile.FieldType)).before args0 about1 = true := code_word (m := ⟨17, 13⟩) (meth := k17m13) (c := k17c13) (by decide +kernel) rfl rfl rfl (by decide +kernel)
set_option maxRecDepth 65536 in
theorem w_c58 : (Jvm.Cond.code ({ cls := "java/lang/StringUTF16", name := "checkBoundsOffCount", desc := "(II[B)V" } : Jvm.MethodName) jdk_52_method_94_code (3 : Nat) (Option.none : Option Jvm.ClassFile.FieldType)).before args0 about1 = true := code_word (m := ⟨17, 15⟩) (meth := k17m15) (c := k17c15) (by decide +kernel) rfl rfl rfl (by decide +kernel)
set_option maxRecDepth 65536 in
theorem w_c59 : (Jvm.Cond.code ({ cls := "java/lang/String", name := "checkBoundsOffCount", desc := "(III)I" } : Jvm.MethodName) jdk_42_method_157_code (3 : Nat) (Option.some Jvm.ClassFile.FieldType.int)).before args0 about1 = true := code_word (m := ⟨7, 13⟩) (meth := k7m13) (c := k7c13) (by decide +kernel) rfl rfl rfl (by decide +kernel)
set_option maxRecDepth 65536 in
theorem w_c60 : (Jvm.Cond.code ({ cls := "jdk/internal/util/Preconditions", name := "checkFromIndexSize", desc := "(IIILjava/util/function/BiFunction;)I" } : Jvm.MethodName) jdk_41_method_13_code (4 : Nat) (Option.some Jvm.ClassFile.FieldType.int)).before args0 about1 = true := code_word (m := ⟨16, 2⟩) (meth := k16m2) (c := k16c2) (by decide +kernel) rfl rfl rfl (by decide +kernel)
set_option maxRecDepth 65536 in
theorem w_c61 : (Jvm.Cond.code ({ cls := "java/lang/StringUTF16", name := "putCharSB", desc := "([BII)V" } : Jvm.MethodName) jdk_52_method_71_code (3 : Nat) (Option.none : Option Jvm.ClassFile.FieldType)).before args0 about1 = true := code_word (m := ⟨17, 11⟩) (meth := k17m11) (c := k17c11) (by decide +kernel) rfl rfl rfl (by decide +kernel)
set_option maxRecDepth 65536 in
theorem w_c62 : (Jvm.Cond.code ({ cls := "java/lang/StringUTF16", name := "toBytes", desc := "([CII)[B" } : Jvm.MethodName) jdk_52_method_14_code (5 : Nat) (Option.some (Jvm.ClassFile.FieldType.array Jvm.ClassFile.FieldType.byte))).before args0 about1 = true := code_word (m := ⟨17, 6⟩) (meth := k17m6) (c := k17c6) (by decide +kernel) rfl rfl rfl (by decide +kernel)
def codes1 : List Jvm.Cond := [Jvm.Cond.code x code maxLocals ret, Jvm.Cond.code ({ cls := "com/example/surfacemap/surfacemap/cli/TsvLinePinLaw", name := "pick", desc := "(J)C" } : Jvm.MethodName) method_3_code (3 : Nat) (Option.some Jvm.ClassFile.FieldType.char), Jvm.Cond.code ({ cls := "com/example/surfacemap/surfacemap/cli/TsvLinePinLaw", name := "field", desc := "(ICC)Ljava/lang/String;" } : Jvm.MethodName) method_4_code (3 : Nat) (Option.some (Jvm.ClassFile.FieldType.object "java/lang/String")), Jvm.Cond.code ({ cls := "java/lang/String", name := "<init>", desc := "([C)V" } : Jvm.MethodName) jdk_42_method_3_code (2 : Nat) (Option.none : Option Jvm.ClassFile.FieldType), Jvm.Cond.code ({ cls := "java/lang/String", name := "<init>", desc := "([CIILjava/lang/Void;)V" } : Jvm.MethodName) jdk_42_method_149_code (6 : Nat) (Option.none : Option Jvm.ClassFile.FieldType), Jvm.Cond.code ({ cls := "java/lang/Object", name := "<init>", desc := "()V" } : Jvm.MethodName) object_method_1_code (1 : Nat) (Option.none : Option Jvm.ClassFile.FieldType), Jvm.Cond.code ({ cls := "com/example/surfacemap/surfacemap/cli/Tsv", name := "line", desc := "([Ljava/lang/String;)Ljava/lang/String;" } : Jvm.MethodName) prog_3_method_2_code (3 : Nat) (Option.some (Jvm.ClassFile.FieldType.object "java/lang/String")), Jvm.Cond.code ({ cls := "java/lang/StringBuilder", name := "<init>", desc := "()V" } : Jvm.MethodName) jdk_67_method_1_code (1 : Nat) (Option.none : Option Jvm.ClassFile.FieldType), Jvm.Cond.code ({ cls := "java/lang/AbstractStringBuilder", name := "<init>", desc := "(I)V" } : Jvm.MethodName) jdk_68_method_2_code (2 : Nat) (Option.none : Option Jvm.ClassFile.FieldType), Jvm.Cond.code ({ cls := "java/lang/StringBuilder", name := "append", desc := "(C)Ljava/lang/StringBuilder;" } : Jvm.MethodName) jdk_67_method_14_code (2 : Nat) (Option.some (Jvm.ClassFile.FieldType.object "java/lang/StringBuilder")), Jvm.Cond.code ({ cls := "java/lang/AbstractStringBuilder", name := "append", desc := "(C)Ljava/lang/AbstractStringBuilder;" } : Jvm.MethodName) jdk_68_method_31_code (2 : Nat) (Option.some (Jvm.ClassFile.FieldType.object "java/lang/AbstractStringBuilder")), Jvm.Cond.code ({ cls := "java/lang/AbstractStringBuilder", name := "ensureCapacityInternal", desc := "(I)V" } : Jvm.MethodName) jdk_68_method_9_code (3 : Nat) (Option.none : Option Jvm.ClassFile.FieldType), Jvm.Cond.code ({ cls := "java/lang/AbstractStringBuilder", name := "isLatin1", desc := "()Z" } : Jvm.MethodName) jdk_68_method_68_code (1 : Nat) (Option.some Jvm.ClassFile.FieldType.boolean), Jvm.Cond.code ({ cls := "java/lang/StringLatin1", name := "canEncode", desc := "(C)Z" } : Jvm.MethodName) jdk_43_method_3_code (1 : Nat) (Option.some Jvm.ClassFile.FieldType.boolean), Jvm.Cond.code ({ cls := "java/lang/StringBuilder", name := "toString", desc := "()Ljava/lang/String;" } : Jvm.MethodName) jdk_67_method_42_code (1 : Nat) (Option.some (Jvm.ClassFile.FieldType.object "java/lang/String")), Jvm.Cond.code ({ cls := "java/lang/String", name := "<init>", desc := "(Ljava/lang/StringBuilder;)V" } : Jvm.MethodName) jdk_42_method_53_code (2 : Nat) (Option.none : Option Jvm.ClassFile.FieldType), Jvm.Cond.code ({ cls := "java/lang/String", name := "<init>", desc := "(Ljava/lang/AbstractStringBuilder;Ljava/lang/Void;)V" } : Jvm.MethodName) jdk_42_method_150_code (5 : Nat) (Option.none : Option Jvm.ClassFile.FieldType), Jvm.Cond.code ({ cls := "java/lang/AbstractStringBuilder", name := "getValue", desc := "()[B" } : Jvm.MethodName) jdk_68_method_64_code (1 : Nat) (Option.some (Jvm.ClassFile.FieldType.array Jvm.ClassFile.FieldType.byte)), Jvm.Cond.code ({ cls := "java/lang/StringBuilder", name := "length", desc := "()I" } : Jvm.MethodName) jdk_67_method_93_code (1 : Nat) (Option.some Jvm.ClassFile.FieldType.int), Jvm.Cond.code ({ cls := "java/lang/AbstractStringBuilder", name := "length", desc := "()I" } : Jvm.MethodName) jdk_68_method_6_code (1 : Nat) (Option.some Jvm.ClassFile.FieldType.int), Jvm.Cond.code ({ cls := "java/util/Arrays", name := "copyOfRange", desc := "([BII)[B" } : Jvm.MethodName) jdk_65_method_132_code (3 : Nat) (Option.some (Jvm.ClassFile.FieldType.array Jvm.ClassFile.FieldType.byte)), Jvm.Cond.code ({ cls := "java/util/Arrays", name := "copyOfRangeByte", desc := "([BII)[B" } : Jvm.MethodName) jdk_65_method_133_code (5 : Nat) (Option.some (Jvm.ClassFile.FieldType.array Jvm.ClassFile.FieldType.byte)), Jvm.Cond.code ({ cls := "java/util/Arrays", name := "checkLength", desc := "(II)V" } : Jvm.MethodName) jdk_65_method_131_code (2 : Nat) (Option.none : Option Jvm.ClassFile.FieldType), Jvm.Cond.code ({ cls := "java/lang/Math", name := "min", desc := "(II)I" } : Jvm.MethodName) jdk_29_method_69_code (2 : Nat) (Option.some Jvm.ClassFile.FieldType.int), Jvm.Cond.code ({ cls := "com/example/surfacemap/surfacemap/cli/TsvLinePinLaw", name := "same", desc := "(Ljava/lang/String;[CI)Z" } : Jvm.MethodName) method_8_code (3 : Nat) (Option.some Jvm.ClassFile.FieldType.boolean), Jvm.Cond.code ({ cls := "java/lang/String", name := "length", desc := "()I" } : Jvm.MethodName) jdk_42_method_54_code (1 : Nat) (Option.some Jvm.ClassFile.FieldType.int), Jvm.Cond.code ({ cls := "java/lang/String", name := "coder", desc := "()B" } : Jvm.MethodName) jdk_42_method_152_code (1 : Nat) (Option.some Jvm.ClassFile.FieldType.byte), Jvm.Cond.code ({ cls := "com/example/surfacemap/surfacemap/cli/TsvLinePinLaw", name := "at", desc := "(Ljava/lang/String;[CII)Z" } : Jvm.MethodName) method_7_code (4 : Nat) (Option.some Jvm.ClassFile.FieldType.boolean), Jvm.Cond.code ({ cls := "java/lang/String", name := "charAt", desc := "(I)C" } : Jvm.MethodName) jdk_42_method_56_code (2 : Nat) (Option.some Jvm.ClassFile.FieldType.char), Jvm.Cond.code ({ cls := "java/lang/String", name := "isLatin1", desc := "()Z" } : Jvm.MethodName) jdk_42_method_154_code (1 : Nat) (Option.some Jvm.ClassFile.FieldType.boolean), Jvm.Cond.code ({ cls := "java/lang/StringLatin1", name := "charAt", desc := "([BI)C" } : Jvm.MethodName) jdk_43_method_2_code (2 : Nat) (Option.some Jvm.ClassFile.FieldType.char), Jvm.Cond.code ({ cls := "java/lang/String", name := "checkIndex", desc := "(II)V" } : Jvm.MethodName) jdk_42_method_155_code (2 : Nat) (Option.none : Option Jvm.ClassFile.FieldType), Jvm.Cond.code ({ cls := "jdk/internal/util/Preconditions", name := "checkIndex", desc := "(IILjava/util/function/BiFunction;)I" } : Jvm.MethodName) jdk_41_method_11_code (3 : Nat) (Option.some Jvm.ClassFile.FieldType.int), Jvm.Cond.code ({ cls := "com/example/surfacemap/surfacemap/cli/Tsv", name := "appendEscaped", desc := "(Ljava/lang/String;Ljava/lang/StringBuilder;)V" } : Jvm.MethodName) prog_3_method_3_code (4 : Nat) (Option.none : Option Jvm.ClassFile.FieldType), Jvm.Cond.code ({ cls := "com/example/surfacemap/surfacemap/cli/TsvLinePinLaw", name := "escField", desc := "([CIICC)I" } : Jvm.MethodName) method_6_code (6 : Nat) (Option.some Jvm.ClassFile.FieldType.int), Jvm.Cond.code ({ cls := "java/lang/StringUTF16", name := "compress", desc := "([CII)[B" } : Jvm.MethodName) jdk_52_method_16_code (6 : Nat) (Option.some (Jvm.ClassFile.FieldType.array Jvm.ClassFile.FieldType.byte)), Jvm.Cond.code ({ cls := "java/lang/StringUTF16", name := "compress", desc := "([CI[BII)I" } : Jvm.MethodName) jdk_52_method_21_code (7 : Nat) (Option.some Jvm.ClassFile.FieldType.int), Jvm.Cond.code ({ cls := "java/lang/StringUTF16", name := "coderFromArrayLen", desc := "([BI)B" } : Jvm.MethodName) jdk_52_method_15_code (2 : Nat) (Option.some Jvm.ClassFile.FieldType.byte), Jvm.Cond.code ({ cls := "java/lang/String", name := "valueOf", desc := "(C)Ljava/lang/String;" } : Jvm.MethodName) jdk_42_method_139_code (1 : Nat) (Option.some (Jvm.ClassFile.FieldType.object "java/lang/String")), Jvm.Cond.code ({ cls := "java/lang/StringLatin1", name := "toBytes", desc := "(C)[B" } : Jvm.MethodName) jdk_43_method_46_code (1 : Nat) (Option.some (Jvm.ClassFile.FieldType.array Jvm.ClassFile.FieldType.byte)), Jvm.Cond.code ({ cls := "java/lang/String", name := "<init>", desc := "([BB)V" } : Jvm.MethodName) jdk_42_method_151_code (3 : Nat) (Option.none : Option Jvm.ClassFile.FieldType), Jvm.Cond.code ({ cls := "java/lang/StringBuilder", name := "append", desc := "(Ljava/lang/String;)Ljava/lang/StringBuilder;" } : Jvm.MethodName) jdk_67_method_7_code (2 : Nat) (Option.some (Jvm.ClassFile.FieldType.object "java/lang/StringBuilder")), Jvm.Cond.code ({ cls := "java/lang/AbstractStringBuilder", name := "append", desc := "(Ljava/lang/String;)Ljava/lang/AbstractStringBuilder;" } : Jvm.MethodName) jdk_68_method_22_code (3 : Nat) (Option.some (Jvm.ClassFile.FieldType.object "java/lang/AbstractStringBuilder")), Jvm.Cond.code ({ cls := "java/lang/AbstractStringBuilder", name := "putStringAt", desc := "(ILjava/lang/String;)V" } : Jvm.MethodName) jdk_68_method_73_code (3 : Nat) (Option.none : Option Jvm.ClassFile.FieldType), Jvm.Cond.code ({ cls := "java/lang/AbstractStringBuilder", name := "inflateIfNeededFor", desc := "(Ljava/lang/String;)V" } : Jvm.MethodName) jdk_68_method_71_code (2 : Nat) (Option.none : Option Jvm.ClassFile.FieldType), Jvm.Cond.code ({ cls := "java/lang/String", name := "getBytes", desc := "([BIB)V" } : Jvm.MethodName) jdk_42_method_147_code (4 : Nat) (Option.none : Option Jvm.ClassFile.FieldType), Jvm.Cond.code ({ cls := "com/example/surfacemap/surfacemap/cli/TsvLinePinLaw", name := "esc", desc := "([CIC)I" } : Jvm.MethodName) method_5_code (3 : Nat) (Option.some Jvm.ClassFile.FieldType.int), Jvm.Cond.code ({ cls := "java/lang/StringUTF16", name := "toBytes", desc := "(C)[B" } : Jvm.MethodName) jdk_52_method_24_code (2 : Nat) (Option.some (Jvm.ClassFile.FieldType.array Jvm.ClassFile.FieldType.byte)), Jvm.Cond.code ({ cls := "java/lang/StringUTF16", name := "putChar", desc := "([BII)V" } : Jvm.MethodName) jdk_52_method_4_code (3 : Nat) (Option.none : Option Jvm.ClassFile.FieldType), Jvm.Cond.code ({ cls := "java/lang/StringUTF16", name := "charAt", desc := "([BI)C" } : Jvm.MethodName) jdk_52_method_83_code (2 : Nat) (Option.some Jvm.ClassFile.FieldType.char), Jvm.Cond.code ({ cls := "java/lang/StringUTF16", name := "checkIndex", desc := "(I[B)V" } : Jvm.MethodName) jdk_52_method_91_code (2 : Nat) (Option.none : Option Jvm.ClassFile.FieldType), Jvm.Cond.code ({ cls := "java/lang/StringUTF16", name := "length", desc := "([B)I" } : Jvm.MethodName) jdk_52_method_6_code (1 : Nat) (Option.some Jvm.ClassFile.FieldType.int), Jvm.Cond.code ({ cls := "java/lang/StringUTF16", name := "getChar", desc := "([BI)C" } : Jvm.MethodName) jdk_52_method_5_code (2 : Nat) (Option.some Jvm.ClassFile.FieldType.char), Jvm.Cond.code ({ cls := "java/lang/AbstractStringBuilder", name := "inflate", desc := "()V" } : Jvm.MethodName) jdk_68_method_11_code (2 : Nat) (Option.none : Option Jvm.ClassFile.FieldType), Jvm.Cond.code ({ cls := "java/lang/StringUTF16", name := "newBytesFor", desc := "(I)[B" } : Jvm.MethodName) jdk_52_method_2_code (1 : Nat) (Option.some (Jvm.ClassFile.FieldType.array Jvm.ClassFile.FieldType.byte)), Jvm.Cond.code ({ cls := "java/lang/StringUTF16", name := "newBytesLength", desc := "(I)I" } : Jvm.MethodName) jdk_52_method_3_code (1 : Nat) (Option.some Jvm.ClassFile.FieldType.int), Jvm.Cond.code ({ cls := "java/lang/StringLatin1", name := "inflate", desc := "([BI[BII)V" } : Jvm.MethodName) jdk_43_method_50_code (5 : Nat) (Option.none : Option Jvm.ClassFile.FieldType), Jvm.Cond.code ({ cls := "java/lang/StringUTF16", name := "inflate", desc := "([BI[BII)V" } : Jvm.MethodName) jdk_52_method_86_code (6 : Nat) (Option.none : Option Jvm.ClassFile.FieldType), Jvm.Cond.code ({ cls := "java/lang/StringUTF16", name := "checkBoundsOffCount", desc := "(II[B)V" } : Jvm.MethodName) jdk_52_method_94_code (3 : Nat) (Option.none : Option Jvm.ClassFile.FieldType), Jvm.Cond.code ({ cls := "java/lang/String", name := "checkBoundsOffCount", desc := "(III)I" } : Jvm.MethodName) jdk_42_method_157_code (3 : Nat) (Option.some Jvm.ClassFile.FieldType.int), Jvm.Cond.code ({ cls := "jdk/internal/util/Preconditions", name := "checkFromIndexSize", desc := "(IIILjava/util/function/BiFunction;)I" } : Jvm.MethodName) jdk_41_method_13_code (4 : Nat) (Option.some Jvm.ClassFile.FieldType.int), Jvm.Cond.code ({ cls := "java/lang/StringUTF16", name := "putCharSB", desc := "([BII)V" } : Jvm.MethodName) jdk_52_method_71_code (3 : Nat) (Option.none : Option Jvm.ClassFile.FieldType), Jvm.Cond.code ({ cls := "java/lang/StringUTF16", name := "toBytes", desc := "([CII)[B" } : Jvm.MethodName) jdk_52_method_14_code (5 : Nat) (Option.some (Jvm.ClassFile.FieldType.array Jvm.ClassFile.FieldType.byte))]
set_option maxRecDepth 65536 in
theorem codes_eq : words1.filter isCode = codes1 := rfl
theorem w_codes : ∀ c ∈ words1.filter isCode, c.before args0 about1 = true := by
  rw [codes_eq]
  intro c hc
  simp only [codes1, List.mem_cons, List.not_mem_nil, or_false] at hc
  rcases hc with rfl | rfl | rfl | rfl | rfl | rfl | rfl | rfl | rfl | rfl | rfl | rfl | rfl | rfl | rfl | rfl | rfl | rfl | rfl | rfl | rfl | rfl | rfl | rfl | rfl | rfl | rfl | rfl | rfl | rfl | rfl | rfl | rfl | rfl | rfl | rfl | rfl | rfl | rfl | rfl | rfl | rfl | rfl | rfl | rfl | rfl | rfl | rfl | rfl | rfl | rfl | rfl | rfl | rfl | rfl | rfl | rfl | rfl | rfl | rfl | rfl | rfl | rfl
  · exact w_c0
  · exact w_c1
  · exact w_c2
  · exact w_c3
  · exact w_c4
  · exact w_c5
  · exact w_c6
  · exact w_c7
  · exact w_c8
  · exact w_c9
  · exact w_c10
  · exact w_c11
  · exact w_c12
  · exact w_c13
  · exact w_c14
  · exact w_c15
  · exact w_c16
  · exact w_c17
  · exact w_c18
  · exact w_c19
  · exact w_c20
  · exact w_c21
  · exact w_c22
  · exact w_c23
  · exact w_c24
  · exact w_c25
  · exact w_c26
  · exact w_c27
  · exact w_c28
  · exact w_c29
  · exact w_c30
  · exact w_c31
  · exact w_c32
  · exact w_c33
  · exact w_c34
  · exact w_c35
  · exact w_c36
  · exact w_c37
  · exact w_c38
  · exact w_c39
  · exact w_c40
  · exact w_c41
  · exact w_c42
  · exact w_c43
  · exact w_c44
  · exact w_c45
  · exact w_c46
  · exact w_c47
  · exact w_c48
  · exact w_c49
  · exact w_c50
  · exact w_c51
  · exact w_c52
  · exact w_c53
  · exact w_c54
  · exact w_c55
  · exact w_c56
  · exact w_c57
  · exact w_c58
  · exact w_c59
  · exact w_c60
  · exact w_c61
  · exact w_c62
set_option maxRecDepth 65536 in
theorem w_t1 : (words1.take 24).all (fun c => isCode c || c.before args0 about1) = true := by decide +kernel
set_option maxRecDepth 65536 in
theorem w_t2 : ((words1.drop 24).take 24).all (fun c => isCode c || c.before args0 about1) = true := by decide +kernel
set_option maxRecDepth 65536 in
theorem w_t3 : (((words1.drop 24).drop 24).take 24).all (fun c => isCode c || c.before args0 about1) = true := by decide +kernel
set_option maxRecDepth 65536 in
theorem w_t4 : ((((words1.drop 24).drop 24).drop 24).take 24).all (fun c => isCode c || c.before args0 about1) = true := by decide +kernel
set_option maxRecDepth 65536 in
theorem w_t5 : (((((words1.drop 24).drop 24).drop 24).drop 24).take 24).all (fun c => isCode c || c.before args0 about1) = true := by decide +kernel
set_option maxRecDepth 65536 in
theorem w_t6 : ((((((words1.drop 24).drop 24).drop 24).drop 24).drop 24).take 24).all (fun c => isCode c || c.before args0 about1) = true := by decide +kernel
set_option maxRecDepth 65536 in
theorem w_t7 : (((((((words1.drop 24).drop 24).drop 24).drop 24).drop 24).drop 24).take 24).all (fun c => isCode c || c.before args0 about1) = true := by decide +kernel
set_option maxRecDepth 65536 in
theorem w_t8 : ((((((((words1.drop 24).drop 24).drop 24).drop 24).drop 24).drop 24).drop 24).take 24).all (fun c => isCode c || c.before args0 about1) = true := by decide +kernel
set_option maxRecDepth 65536 in
theorem w_t9 : (((((((((words1.drop 24).drop 24).drop 24).drop 24).drop 24).drop 24).drop 24).drop 24).take 24).all (fun c => isCode c || c.before args0 about1) = true := by decide +kernel
set_option maxRecDepth 65536 in
theorem w_t10 : ((((((((((words1.drop 24).drop 24).drop 24).drop 24).drop 24).drop 24).drop 24).drop 24).drop 24).take 24).all (fun c => isCode c || c.before args0 about1) = true := by decide +kernel
set_option maxRecDepth 65536 in
theorem w_t11 : (((((((((((words1.drop 24).drop 24).drop 24).drop 24).drop 24).drop 24).drop 24).drop 24).drop 24).drop 24).take 24).all (fun c => isCode c || c.before args0 about1) = true := by decide +kernel
set_option maxRecDepth 65536 in
theorem w_t12 : (((((((((((words1.drop 24).drop 24).drop 24).drop 24).drop 24).drop 24).drop 24).drop 24).drop 24).drop 24).drop 24).all (fun c => isCode c || c.before args0 about1) = true := by decide +kernel
theorem w_tables : (allAtoms (Jvm.Cond.code x code maxLocals ret :: tables_1)).before args0 about1 = true := by
  rw [allAtoms_all]
  show words1.all (fun c => c.before args0 about1) = true
  refine all_split ?_ w_codes
  rw [← List.take_append_drop 24 words1, List.all_append, w_t1, ← List.take_append_drop 24 (words1.drop 24), List.all_append, w_t2, ← List.take_append_drop 24 ((words1.drop 24).drop 24), List.all_append, w_t3, ← List.take_append_drop 24 (((words1.drop 24).drop 24).drop 24), List.all_append, w_t4, ← List.take_append_drop 24 ((((words1.drop 24).drop 24).drop 24).drop 24), List.all_append, w_t5, ← List.take_append_drop 24 (((((words1.drop 24).drop 24).drop 24).drop 24).drop 24), List.all_append, w_t6, ← List.take_append_drop 24 ((((((words1.drop 24).drop 24).drop 24).drop 24).drop 24).drop 24), List.all_append, w_t7, ← List.take_append_drop 24 (((((((words1.drop 24).drop 24).drop 24).drop 24).drop 24).drop 24).drop 24), List.all_append, w_t8, ← List.take_append_drop 24 ((((((((words1.drop 24).drop 24).drop 24).drop 24).drop 24).drop 24).drop 24).drop 24), List.all_append, w_t9, ← List.take_append_drop 24 (((((((((words1.drop 24).drop 24).drop 24).drop 24).drop 24).drop 24).drop 24).drop 24).drop 24), List.all_append, w_t10, ← List.take_append_drop 24 ((((((((((words1.drop 24).drop 24).drop 24).drop 24).drop 24).drop 24).drop 24).drop 24).drop 24).drop 24), List.all_append, w_t11, w_t12]
  rfl
set_option maxRecDepth 65536 in
theorem w_rest : rest_1_c.before args0 about1 = true := by decide +kernel
set_option maxRecDepth 65536 in
theorem w_case : (Jvm.Cond.and given_1 narrow_1).before args0 about1 = true := by decide +kernel
set_option maxRecDepth 65536 in
theorem w_consts : constsHeld consts_1 about1 := Jvm.Lit.constsHeldB_iff.mp (by decide +kernel)
theorem w_applies : (headSpec (Jvm.Cond.code x code maxLocals ret :: tables_1) room_1).applies x e0.platform about1 = true :=
  (Spec.applies_iff w_frames).mpr ⟨w_running, w_runnable, w_alone, w_named, w_hears, w_ripe, w_room, w_tables⟩
theorem atStart : AtStart classFile x code maxLocals ret World_1 tables_1 room_1 Calls_1 rest_1 Pre_1 launch0 p0 e0 about1 theMethod args0 below0 :=
  ⟨lists_1, trivial, launch0.admits_env _ _ _, launch0.least_env, fairChoices_fair.cas, fairChoices_fair.clock, w_frames, w_args, w_heap, w_applies, ⟨w_consts, trivial⟩, w_rest, w_case⟩
end start1
theorem witness_1 : WitnessClaimed_1 := ⟨start1.p0, start1.e0, start1.about1, start1.theMethod, start1.args0, start1.below0, start1.atStart⟩
end Jvm.Pilot.@@N@@
