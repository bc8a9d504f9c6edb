import JvmDerived
import JvmDerived.Pilot.@@N@@Statement
import JvmDerived.Pilot.@@N@@Code
set_option linter.unusedVariables false
set_option linter.unusedSimpArgs false
namespace Jvm.RoadKit
open Sem ClassFile Op Lib Jvm.Stand Jvm.Free Jvm.LawKit
section New
variable {p : Program} {l : Launch} {e : Env} {R : Room} {s : State} {m : MethodId} {args : Array Value} {below : List Frame} {meth : Method} {c : Code} {T : State} {locs : List Loc} {cells slots : Nat}
theorem retI (X : Stand p l e R s m args below meth c T locs cells slots) (hx : p.tables.exec = Jvm.exec) {pc : Nat} {Ls : Array Slot} {z : Int32} {rest : List Value} (hret : meth.sig.returnType = some .int) (hd : decode c.code pc = .ok (.ireturn, 1)) {fs : List Frame}
    (hl : ∀ (f : JFrame) (acts : List Action), f.method = m → f.locked = none → f.entered = [] → (doReturn e (T.setTop f) acts (some (.int z))).1 = T.setFrames fs) : Steps p.tables e below (T.setTop (mkF m pc Ls (.int z :: rest))) (T.setFrames fs) := by
  have hm' : T.vm.method? m = some meth := X.method'
  have hn : narrow .int (.int z) = .int z := rfl
  show Steps p.tables e below (T.setTop { method := m, pc := pc, locals := Ls, stack := _ :: rest, locked := none }) _
  jvm_step X.here [X.here.top, hx, hd, hm', hret, hn]
  first | (intro acts; rw [hl _ acts rfl rfl rfl]) | rw [hl _ _ rfl rfl rfl]
  exact Steps.refl _
end New
end Jvm.RoadKit
namespace Jvm.Pilot.@@N@@
open Jvm Jvm.ClassFile Sem Op Lib Jvm.Free Jvm.Stand Jvm.LawKit Jvm.RoadKit Bundle Jvm.Pilot.@@N@@.Jvm.D
/-- from A the run comes to its end, as the contract wants it -/
def Goes (p : Program) (e : Env) (below : List Frame) (En : Outcome → State → List Loc → Prop) (Q : Option Value → Heap → List Loc → Prop) (A : State) : Prop :=
  ∃ s₂ o, Steps p.tables e below A s₂ ∧ s₂.status = .running ∧ Ended s₂ below o ∧ ∃ v L, o = .returned v ∧ Q v s₂.heap L ∧ En o s₂ L
abbrev Met (l : Launch) (Z : State) (y : MethodName) (bytes : ByteArray) (maxL : Nat) (ret : Option FieldType) (rm : Room) (ws : List Jvm.Cond) (as : Array Value) (h0 : Heap) (Q : Option Value → Heap → List Loc → Prop) : Prop :=
  MetFree l y (head1 (Jvm.Cond.code y bytes maxL ret :: ws) rm) (fun aa U => aa = as ∧ Z.Warmed39 U.vm ∧ U.heap = h0) (fun _ _ _ _ _ => True) (fun _ U o U' => ∃ v L, o = .returned v ∧ Q v U'.heap L ∧ FrameEnd U o U' L rm.cells rm.slots)
abbrev MetW (l : Launch) (Z : State) (y : MethodName) (bytes : ByteArray) (maxL : Nat) (ret : Option FieldType) (rm : Room) (ws : List Jvm.Cond) (as : Array Value) (h0 : Heap) (Q : Option Value → Heap → List Loc → Prop) : Prop :=
  MetFree l y (head1 (Jvm.Cond.code y bytes maxL ret :: ws) rm) (fun aa U => aa = as ∧ Z.Warmed39 U.vm ∧ U.heap = h0) (fun _ _ _ _ _ => True) (fun _ U o U' => ∃ v L, o = .returned v ∧ Q v U'.heap L ∧ ReturnedEndW U o U' L rm.cells rm.slots)
abbrev MetH (l : Launch) (Z : State) (y : MethodName) (bytes : ByteArray) (maxL : Nat) (ret : Option FieldType) (rm : Room) (ws : List Jvm.Cond) (as : Array Value) (h0 : Heap) (Q : Option Value → Heap → List Loc → Prop) : Prop :=
  MetFree l y (head1 (Jvm.Cond.code y bytes maxL ret :: ws) rm) (fun aa U => aa = as ∧ Z.Warmed39 U.vm ∧ U.heap = h0 ∧ CHv Z consts_1 U.vm h0) (fun _ _ _ _ _ => True) (fun _ U o U' => ∃ v L, o = .returned v ∧ Q v U'.heap L ∧ CHr Z consts_1 U.vm U.heap U'.vm U'.heap ∧ ReturnedEndW U o U' L rm.cells rm.slots)
theorem gw {a0 : Array Value} {Z : State} (hw : ∀ d ∈ tables_1, d.before a0 Z = true) (i : Nat) {d : Jvm.Cond} (h : tables_1[i]? = some d) : d.before a0 Z = true := hw _ (List.mem_of_getElem? h)
theorem w0 {n W : Nat} (h : n ≤ W) : 2 * 0 + n ≤ W := by omega
def Ob (h : Heap) (x : Addr) : Prop := ∀ c : Cell, h[x]? = some c → c.vm.isStatics = false
theorem own_obE {Z : State} {h : Heap} {a : Addr} {C : String} (F : Exa Z h a C) : Ob h a := fun c hc => by obtain ⟨c', k, h1, -, -, h4, -⟩ := F; cases h1.symm.trans hc; exact h4
theorem own_obA {Z : State} {h : Heap} {a : Addr} {k : ClassId} {ty : FieldType} {z : Int32} {vs : List Value} {d : Value} (F : Arv Z h a k ty z vs d) : Ob h a := fun c hc => by obtain ⟨c', A, -⟩ := F; cases A.1.symm.trans hc; exact A.plain
theorem own_staK {Z : State} {h h' : Heap} {C n d : String} {v : Value} {ws : List Addr} (F : Sta Z h C n d v) (K : Keep h h' ws) (q : ∀ x ∈ ws, Ob h x) : Sta Z h' C n d v := by
  obtain ⟨cf, i, k, f, st, cell, h1, h2, h3, h4, h5, h6, h7⟩ := F
  exact ⟨cf, i, k, f, st, cell, h1, h2, h3, h4, K.2.1 st cell h5 (fun hm => by have := q st hm cell h5; rw [this] at h6; cases h6), h6, h7⟩
def NFc (Z : State) (K : String) : Prop := ∃ t kt, Z.vm.findClass K = some t ∧ Z.vm.classes[t]? = some kt ∧ kt.isInterface = false
set_option maxRecDepth 65536 in
theorem own_nsNo {Z : State} {a0 : Array Value} {C S K : String} (w : (Cond.superclass C S).before a0 Z = true) (wk : NFc Z K) (n : NS Z C K) (hn : C ≠ K) : ∃ c t, Z.vm.findClass C = some c ∧ Z.vm.findClass K = some t ∧ Z.vm.assignable c t = false := by
  obtain ⟨c, t, h0, g0, n3⟩ := n
  obtain ⟨p, k, kp, h1, h2, h3, h4, h5, -⟩ := Cond.superclass_spec h0 w
  obtain ⟨t', kt, g1, g2, g3⟩ := wk
  cases g0.symm.trans g1
  have ne := ids_ne h0 g0 hn
  refine ⟨c, t, h0, g0, ?_⟩
  show Z.vm.assignableAux (255 + 1) c t = false
  cases hq : kt.kind <;> simp [Vm.assignableAux, ne, h2, g2, h5, hq, g3, Vm.isSubclass, n3]
section OwnSteps
variable {p : Program} {l : Launch} {e : Env} {R : Room} {s : State} {m : MethodId} {args : Array Value} {below : List Frame} {meth : Method} {c : Code} {T : State} {locs : List Loc} {cells slots : Nat}
theorem Goes.step {En : Outcome → State → List Loc → Prop} {Q : Option Value → Heap → List Loc → Prop} {A B : State} (st : ∀ t, Steps p.tables e below A t → Steps p.tables e below B t) (h : Goes p e below En Q A) : Goes p e below En Q B :=
  let ⟨s₂, o, h1, r⟩ := h; ⟨s₂, o, st _ h1, r⟩
theorem Gs {En : Outcome → State → List Loc → Prop} {Q : Option Value → Heap → List Loc → Prop} {A B : State} (st : ∀ t, Steps p.tables e below A t → Steps p.tables e below B t) (h : Goes p e below En Q A) : Goes p e below En Q B := Goes.step st h
theorem own_join {En : Outcome → State → List Loc → Prop} {Q : Option Value → Heap → List Loc → Prop} {A B : State} (hB : Goes p e below En Q B) (k : Goes p e below En Q B → Goes p e below En Q A) : Goes p e below En Q A := k hB
theorem own_joinP {En : Outcome → State → List Loc → Prop} {Q : Option Value → Heap → List Loc → Prop} {A : State} {B : Int32 → State} {P : Int32 → Prop} (hB : ∀ z, P z → Goes p e below En Q (B z)) (k : (∀ z, P z → Goes p e below En Q (B z)) → Goes p e below En Q A) : Goes p e below En Q A := k hB
theorem own_met {Z : State} {y : MethodName} {bytes : ByteArray} {maxL : Nat} {ret : Option FieldType} {rm : Room} {ws : List Jvm.Cond} {as : Array Value} {h0 : Heap} {Q : Option Value → Heap → List Loc → Prop} (hp : plainFor y = true)
    (body : ∀ p e s m below meth c s₁, meth.sig.returnType = ret → p.tables.exec = Jvm.exec → c.code = bytes → meth.locks = false → c.maxLocals = maxL → s.vm.findClass y.cls = some m.cls → meth.name = y.name → Stand p l e rm s m as below meth c s₁ [] 0 0 → s₁.heap = h0 → Z.Warmed39 s.vm → s.heap = h0 →
      Goes p e below (fun o u L => FrameEnd s o u L rm.cells rm.slots) Q (s₁.setTop (entryFrame m as maxL))) : Met l Z y bytes maxL ret rm ws as h0 Q := by
  refine MetFree.of_bodySF hp hisR ?_
  intro p e s m args below meth c s₁ Bd hml0 hP hK
  obtain ⟨rfl, hZ, hh⟩ := hP
  exact body p e s m below meth c s₁ Bd.returns Bd.exec Bd.bytes (BodyLoose.notSynchronized Bd) hml0 (findClass_of_methodNamed Bd.named) (name_of_methodNamed Bd.named Bd.method).1 (Stand.of_body Bd) (by rw [← hh, Bd.state]; rfl) hZ hh
theorem Goes.ret (X : Stand p l e R s m args below meth c T locs cells slots) {rc rs : Nat} {Q : Option Value → Heap → List Loc → Prop} {B : State} (v : Option Value) (hv : meth.sig.returnType = none → v = none) (hlk : meth.locks = false) (hc : cells ≤ rc) (hs : slots ≤ rs) (q : Q v T.heap locs)
    (k : ∀ fs, (∀ (f : JFrame) (acts : List Action), f.method = m → f.locked = none → f.entered = [] → (doReturn e (T.setTop f) acts v).1 = T.setFrames fs) → Steps p.tables e below B (T.setFrames fs)) : Goes p e below (fun o u L => FrameEnd s o u L rc rs) Q B := by
  obtain ⟨fs, hr, hrun, hended, hW, hsame⟩ := X.leave (v := v) hv hlk
  exact ⟨_, _, k fs hr, hrun, hended, _, _, rfl, q, ⟨_, rfl⟩, hW, hsame.mono hc hs⟩
theorem own_metH {Z : State} {y : MethodName} {bytes : ByteArray} {maxL : Nat} {ret : Option FieldType} {rm : Room} {ws : List Jvm.Cond} {as : Array Value} {h0 : Heap} {Q : Option Value → Heap → List Loc → Prop} (hp : plainFor y = true)
    (body : ∀ p e s m below meth c s₁, meth.sig.returnType = ret → p.tables.exec = Jvm.exec → c.code = bytes → meth.locks = false → c.maxLocals = maxL → (s.setVm s.vm).vm.findClass y.cls = some m.cls → meth.name = y.name → Stand p l e rm (s.setVm s.vm) m as below meth c s₁ [] 0 0 → s₁.heap = h0 → Z.Warmed39 s.vm → s.heap = h0 → CHv Z consts_1 s.vm h0 →
      Goes p e below (fun o u L => CHr Z consts_1 s.vm s.heap u.vm u.heap ∧ ReturnedEndW s o u L rm.cells rm.slots) Q (s₁.setTop (entryFrame m as maxL))) : MetH l Z y bytes maxL ret rm ws as h0 Q := by
  refine MetFree.of_bodySF hp hisR ?_
  intro p e s m args below meth c s₁ Bd hml0 hP hK
  obtain ⟨rfl, hZ, hh, hC⟩ := hP
  exact body p e s m below meth c s₁ Bd.returns Bd.exec Bd.bytes (BodyLoose.notSynchronized Bd) hml0 (findClass_of_methodNamed Bd.named) (name_of_methodNamed Bd.named Bd.method).1 (Stand.of_body Bd) (by rw [← hh, Bd.state]; rfl) hZ hh hC
theorem Goes.retH {Z : State} {a0 : Array Value} {h0 h : Heap} {vm₁ : Vm} (X : Stand p l e R (s.setVm vm₁) m args below meth c T locs cells slots) {n : Nat} (hS : s.Since vm₁ n) (eT : T.heap = h) (hn : n ≤ h.size) (hZ : Z.Warmed39 (s.setVm vm₁).vm) (hEL : EW Z a0 consts_1) (hh : s.heap = h0) (hR : CHr Z consts_1 s.vm h0 vm₁ h) {rc rs : Nat} {Q : Option Value → Heap → List Loc → Prop} {B : State} (v : Option Value) (hv : meth.sig.returnType = none → v = none) (hlk : meth.locks = false) (hc : cells ≤ rc) (hs : slots ≤ rs) (q : Q v T.heap locs)
    (k : ∀ fs, (∀ (f : JFrame) (acts : List Action), f.method = m → f.locked = none → f.entered = [] → (doReturn e (T.setTop f) acts v).1 = T.setFrames fs) → Steps p.tables e below B (T.setFrames fs)) : Goes p e below (fun o u L => CHr Z consts_1 s.vm s.heap u.vm u.heap ∧ ReturnedEndW s o u L rc rs) Q B := by
  subst eT hh
  obtain ⟨fs, hr, hrun, hended, h1, h2, h3, h4⟩ := X.leaveW hS hn (v := v) hv hlk
  have A := hR.trans (CHv.at X hZ hEL hR.1)
  exact ⟨_, _, k fs hr, hrun, hended, _, _, rfl, q, A, h1, h2, h3, h4.mono hc hs⟩
theorem own_retN (X : Stand p l e R s m args below meth c T locs cells slots) (hx : p.tables.exec = Jvm.exec) {pc : Nat} {Ls : Array Slot} {z : Int32} {t : FieldType} {rest : List Value} (hret : meth.sig.returnType = some t) (ht : t = .boolean ∨ t = .byte ∨ t = .char ∨ t = .short) (hn : nar t z = z) (hd : decode c.code pc = .ok (.ireturn, 1)) {fs : List Frame}
    (hl : ∀ (f : JFrame) (acts : List Action), f.method = m → f.locked = none → f.entered = [] → (doReturn e (T.setTop f) acts (some (.int z))).1 = T.setFrames fs) : Steps p.tables e below (T.setTop (mkF m pc Ls (.int z :: rest))) (T.setFrames fs) :=
  retN X hx hret ht hd (by rw [hn]; exact hl)
theorem own_retA (X : Stand p l e R s m args below meth c T locs cells slots) (hx : p.tables.exec = Jvm.exec) {pc : Nat} {Ls : Array Slot} {z : Value} {t : FieldType} {rest : List Value} (hret : meth.sig.returnType = some t) (ht : t.isReference = true) (hz : z.isRef = true) (hd : decode c.code pc = .ok (.areturn, 1)) {fs : List Frame}
    (hl : ∀ (f : JFrame) (acts : List Action), f.method = m → f.locked = none → f.entered = [] → (doReturn e (T.setTop f) acts (some z)).1 = T.setFrames fs) : Steps p.tables e below (T.setTop (mkF m pc Ls (z :: rest))) (T.setFrames fs) := by
  have hm' : T.vm.method? m = some meth := X.method'
  show Steps p.tables e below (T.setTop { method := m, pc := pc, locals := Ls, stack := _ :: rest, locked := none }) _
  jvm_step X.here [X.here.top, hx, hd, hm', hret, hz, ht]
  first | (intro acts; rw [hl _ acts rfl rfl rfl]) | rw [hl _ _ rfl rfl rfl]
  exact Steps.refl _
end OwnSteps
abbrev mN0 : MethodName := ⟨"java/lang/String", "coder", "()B"⟩
abbrev mN1 : MethodName := ⟨"java/lang/String", "isLatin1", "()Z"⟩
abbrev mN2 : MethodName := ⟨"java/lang/String", "length", "()I"⟩
abbrev mN3 : MethodName := ⟨"jdk/internal/util/Preconditions", "checkIndex", "(IILjava/util/function/BiFunction;)I"⟩
abbrev mN4 : MethodName := ⟨"java/lang/String", "checkIndex", "(II)V"⟩
abbrev mN5 : MethodName := ⟨"java/lang/StringLatin1", "charAt", "([BI)C"⟩
abbrev mN6 : MethodName := ⟨"java/lang/String", "charAt", "(I)C"⟩
abbrev mN7 : MethodName := ⟨"java/lang/Long", "stringSize", "(J)I"⟩
abbrev mN8 : MethodName := ⟨"java/lang/Long", "getChars", "(JI[B)I"⟩
abbrev mN9 : MethodName := ⟨"java/lang/AbstractStringBuilder", "<init>", "(I)V"⟩
abbrev mN10 : MethodName := ⟨"java/lang/StringBuilder", "<init>", "()V"⟩
abbrev mN11 : MethodName := ⟨"java/lang/AbstractStringBuilder", "isLatin1", "()Z"⟩
abbrev mN12 : MethodName := ⟨"java/lang/AbstractStringBuilder", "ensureCapacityInternal", "(I)V"⟩
abbrev mN13 : MethodName := ⟨"java/lang/AbstractStringBuilder", "append", "(J)Ljava/lang/AbstractStringBuilder;"⟩
abbrev mN14 : MethodName := ⟨"java/lang/StringBuilder", "append", "(J)Ljava/lang/StringBuilder;"⟩
abbrev mN15 : MethodName := ⟨"java/lang/String", "getBytes", "([BIB)V"⟩
abbrev mN16 : MethodName := ⟨"java/lang/AbstractStringBuilder", "inflateIfNeededFor", "(Ljava/lang/String;)V"⟩
abbrev mN17 : MethodName := ⟨"java/lang/AbstractStringBuilder", "putStringAt", "(ILjava/lang/String;)V"⟩
abbrev mN18 : MethodName := ⟨"java/lang/AbstractStringBuilder", "append", "(Ljava/lang/String;)Ljava/lang/AbstractStringBuilder;"⟩
abbrev mN19 : MethodName := ⟨"java/lang/StringBuilder", "append", "(Ljava/lang/String;)Ljava/lang/StringBuilder;"⟩
abbrev mN20 : MethodName := ⟨"java/lang/Math", "max", "(II)I"⟩
abbrev mN21 : MethodName := ⟨"jdk/internal/util/ArraysSupport", "newLength", "(III)I"⟩
abbrev mN22 : MethodName := ⟨"java/lang/AbstractStringBuilder", "newCapacity", "(I)I"⟩
abbrev mN23 : MethodName := ⟨"java/lang/Math", "min", "(II)I"⟩
abbrev mN24 : MethodName := ⟨"java/util/Arrays", "copyOf", "([BI)[B"⟩
abbrev mN25 : MethodName := ⟨"java/lang/String", "<init>", "([BB)V"⟩
abbrev mN26 : MethodName := ⟨"java/lang/Long", "toString", "(J)Ljava/lang/String;"⟩
abbrev mN27 : MethodName := ⟨"java/util/Arrays", "checkLength", "(II)V"⟩
abbrev mN28 : MethodName := ⟨"java/util/Arrays", "copyOfRangeByte", "([BII)[B"⟩
abbrev mN29 : MethodName := ⟨"java/util/Arrays", "copyOfRange", "([BII)[B"⟩
abbrev mN30 : MethodName := ⟨"java/lang/StringLatin1", "newString", "([BII)Ljava/lang/String;"⟩
abbrev mN31 : MethodName := ⟨"jdk/internal/util/Preconditions", "checkFromToIndex", "(IIILjava/util/function/BiFunction;)I"⟩
abbrev mN32 : MethodName := ⟨"java/lang/String", "checkBoundsBeginEnd", "(III)V"⟩
abbrev mN33 : MethodName := ⟨"java/lang/String", "substring", "(II)Ljava/lang/String;"⟩
abbrev mN34 : MethodName := ⟨"java/lang/String", "substring", "(I)Ljava/lang/String;"⟩
abbrev mN35 : MethodName := ⟨"java/lang/AbstractStringBuilder", "getValue", "()[B"⟩
abbrev mN36 : MethodName := ⟨"java/lang/AbstractStringBuilder", "length", "()I"⟩
abbrev mN37 : MethodName := ⟨"java/lang/StringBuilder", "length", "()I"⟩
abbrev mN38 : MethodName := ⟨"java/lang/String", "<init>", "(Ljava/lang/AbstractStringBuilder;Ljava/lang/Void;)V"⟩
abbrev mN39 : MethodName := ⟨"java/lang/String", "<init>", "(Ljava/lang/StringBuilder;)V"⟩
abbrev mN40 : MethodName := ⟨"java/lang/StringBuilder", "toString", "()Ljava/lang/String;"⟩
abbrev mN41 : MethodName := ⟨"org/stripeward/scenario/Time", "format", "(J)Ljava/lang/String;"⟩
abbrev mN42 : MethodName := ⟨"org/stripeward/scenario/TimeFormatPinLaw", "dig", "(Ljava/lang/String;IJIJ)Z"⟩
abbrev vi (x : Int32) : Slot := .val (.int x)
abbrev vr (x : Addr) : Slot := .val (.ref x)
abbrev vu : Slot := .unset
abbrev fT (T : State) (m : MethodId) (pc : Nat) (ls : Array Slot) (st : List Value) : State := T.setTop (mkF m pc ls st)
theorem Gz {p : Program} {e : Env} {below : List Frame} {En : Outcome → State → List Loc → Prop} {Q : Option Value → Heap → List Loc → Prop} {A B : State} (st : ∀ {t}, Steps p.tables e below A t → Steps p.tables e below B t) (h : Goes p e below En Q A) : Goes p e below En Q B := Goes.step (fun _ => st) h
abbrev HW (a0 : Array Value) (Z : State) : Prop := ∀ d ∈ tables_1, d.before a0 Z = true
theorem gz {Z s : State} {a0 args : Array Value} {d : Jvm.Cond} (hZ : Z.Warmed39 s.vm) (hw : HW a0 Z) (i : Nat) (h : tables_1[i]? = some d) (hd : (d.onTables && d.keepsFace) = true := by first | rfl | simp [Cond.onTables, Cond.keepsFace, Cond.keeps, Cond.steady]) : d.before args s = true := mvT hZ (gw hw i h) hd
theorem z0 {n : Nat} : 0 + 0 ≤ n := Nat.zero_le n
theorem wz {n W : Nat} (h : n = W) : 2 * 0 + n ≤ W := w0 (Nat.le_of_eq h)
theorem gN {p : Program} {l : Launch} {e : Env} {R : Room} {s : State} {m : MethodId} {as : Array Value} {below : List Frame} {meth : Method} {c : Code} {T : State} {L : List Loc} {C S : Nat} {En : Outcome → State → List Loc → Prop} {Q : Option Value → Heap → List Loc → Prop} {code : ByteArray} {g : JFrame} {k : Fin 4} {v : Int32} (X : Stand p l e R s m as below meth c T L C S) (hx : p.tables.exec = Jvm.exec) (hby : c.code = code) (hd : decode code g.pc = .ok (.iload_n k, 1)) (hg : g.method = m) (hl : g.locals[k.val]? = some (.val (.int v))) (h : Goes p e below En Q (T.setTop { g with pc := g.pc + 1, stack := .int v :: g.stack })) : Goes p e below En Q (T.setTop g) := Gz (XS.iloadN X.here hx hg (hb hby hd) hl) h
theorem gI {p : Program} {l : Launch} {e : Env} {R : Room} {s : State} {m : MethodId} {as : Array Value} {below : List Frame} {meth : Method} {c : Code} {T : State} {L : List Loc} {C S : Nat} {En : Outcome → State → List Loc → Prop} {Q : Option Value → Heap → List Loc → Prop} {code : ByteArray} {g : JFrame} {k : Nat} {v : Int32} (X : Stand p l e R s m as below meth c T L C S) (hx : p.tables.exec = Jvm.exec) (hby : c.code = code) (hd : decode code g.pc = .ok (.iload k, 2)) (hg : g.method = m) (hl : g.locals[k]? = some (.val (.int v))) (h : Goes p e below En Q (T.setTop { g with pc := g.pc + 2, stack := .int v :: g.stack })) : Goes p e below En Q (T.setTop g) := Gz (XS.iload X.here hx hg (hb hby hd) hl) h
theorem gA {p : Program} {l : Launch} {e : Env} {R : Room} {s : State} {m : MethodId} {as : Array Value} {below : List Frame} {meth : Method} {c : Code} {T : State} {L : List Loc} {C S : Nat} {En : Outcome → State → List Loc → Prop} {Q : Option Value → Heap → List Loc → Prop} {code : ByteArray} {g : JFrame} {k : Fin 4} {v : Value} (X : Stand p l e R s m as below meth c T L C S) (hx : p.tables.exec = Jvm.exec) (hby : c.code = code) (hd : decode code g.pc = .ok (.aload_n k, 1)) (hg : g.method = m) (hl : g.locals[k.val]? = some (.val v)) (hv : v.isRef = true) (h : Goes p e below En Q (T.setTop { g with pc := g.pc + 1, stack := v :: g.stack })) : Goes p e below En Q (T.setTop g) := Gz (XS.aloadN X.here hx hg (hb hby hd) hl hv) h
abbrev DK (c : ByteArray) (pc : Nat) (i : Instr) (n : Nat) : Prop := decode c pc = .ok (i, n)
theorem gS {p : Program} {l : Launch} {e : Env} {R : Room} {s : State} {m : MethodId} {as : Array Value} {below : List Frame} {meth : Method} {c : Code} {T : State} {L : List Loc} {C S : Nat} {En : Outcome → State → List Loc → Prop} {Q : Option Value → Heap → List Loc → Prop} {code : ByteArray} {g : JFrame} {k : Nat} {x : Int32} {rest : List Value} (X : Stand p l e R s m as below meth c T L C S) (hx : p.tables.exec = Jvm.exec) (hby : c.code = code) (hd : decode code g.pc = .ok (.istore k, 2)) (l' : Array Slot) (h : Goes p e below En Q (T.setTop { g with pc := g.pc + 2, stack := rest, locals := l' })) (hg : g.method = m := by rfl) (hs : g.stack = .int x :: rest := by rfl) (hl : storeLocals g.locals k (.int x) = some l' := by rfl) : Goes p e below En Q (T.setTop g) := Gz (XS.istore X.here hx hg (hb hby hd) hs hl) h
theorem gs {p : Program} {l : Launch} {e : Env} {R : Room} {s : State} {m : MethodId} {as : Array Value} {below : List Frame} {meth : Method} {c : Code} {T : State} {L : List Loc} {C S : Nat} {En : Outcome → State → List Loc → Prop} {Q : Option Value → Heap → List Loc → Prop} {code : ByteArray} {g : JFrame} {k : Fin 4} {x : Int32} {rest : List Value} (X : Stand p l e R s m as below meth c T L C S) (hx : p.tables.exec = Jvm.exec) (hby : c.code = code) (hd : decode code g.pc = .ok (.istore_n k, 1)) (l' : Array Slot) (h : Goes p e below En Q (T.setTop { g with pc := g.pc + 1, stack := rest, locals := l' })) (hg : g.method = m := by rfl) (hs : g.stack = .int x :: rest := by rfl) (hl : storeLocals g.locals k.val (.int x) = some l' := by rfl) : Goes p e below En Q (T.setTop g) := Gz (XS.istoreN X.here hx hg (hb hby hd) hs hl) h
theorem gC {p : Program} {l : Launch} {e : Env} {R : Room} {s : State} {m : MethodId} {as : Array Value} {below : List Frame} {meth : Method} {c : Code} {T : State} {L : List Loc} {C S : Nat} {En : Outcome → State → List Loc → Prop} {Q : Option Value → Heap → List Loc → Prop} {code : ByteArray} {g : JFrame} {i : Int} (X : Stand p l e R s m as below meth c T L C S) (hx : p.tables.exec = Jvm.exec) (hby : c.code = code) (hd : decode code g.pc = .ok (.iconst i, 1)) (h : Goes p e below En Q (T.setTop { g with pc := g.pc + 1, stack := .int (Int32.ofInt i) :: g.stack })) (hg : g.method = m := by rfl) : Goes p e below En Q (T.setTop g) := Gz (XS.iconst X.here hx hg (hb hby hd)) h
theorem gB {p : Program} {l : Launch} {e : Env} {R : Room} {s : State} {m : MethodId} {as : Array Value} {below : List Frame} {meth : Method} {c : Code} {T : State} {L : List Loc} {C S : Nat} {En : Outcome → State → List Loc → Prop} {Q : Option Value → Heap → List Loc → Prop} {code : ByteArray} {g : JFrame} {i : Int} (X : Stand p l e R s m as below meth c T L C S) (hx : p.tables.exec = Jvm.exec) (hby : c.code = code) (hd : decode code g.pc = .ok (.bipush i, 2)) (h : Goes p e below En Q (T.setTop { g with pc := g.pc + 2, stack := .int (Int8.ofInt i).toInt32 :: g.stack })) (hg : g.method = m := by rfl) : Goes p e below En Q (T.setTop g) := Gz (XS.bipush X.here hx hg (hb hby hd)) h
theorem gG {p : Program} {l : Launch} {e : Env} {R : Room} {s : State} {m : MethodId} {as : Array Value} {below : List Frame} {meth : Method} {c : Code} {T : State} {L : List Loc} {C S : Nat} {En : Outcome → State → List Loc → Prop} {Q : Option Value → Heap → List Loc → Prop} {code : ByteArray} {g : JFrame} {o : Int} (X : Stand p l e R s m as below meth c T L C S) (hx : p.tables.exec = Jvm.exec) (hby : c.code = code) (hd : decode code g.pc = .ok (.goto o, 3)) (pc0 pc' : Nat) (h : Goes p e below En Q (T.setTop { g with pc := pc' })) (hg : g.method = m := by rfl) (hpc : g.pc = pc0 := by rfl) (ho : 0 ≤ (pc0 : Int) + o := by decide) (hp : ((pc0 : Int) + o).toNat = pc' := by decide) : Goes p e below En Q (T.setTop g) := Gz (XS.goto X.here hx hg hpc (hb hby hd) ho hp) h
theorem gY {p : Program} {l : Launch} {e : Env} {R : Room} {s : State} {m : MethodId} {as : Array Value} {below : List Frame} {meth : Method} {c : Code} {T : State} {L : List Loc} {C S : Nat} {En : Outcome → State → List Loc → Prop} {Q : Option Value → Heap → List Loc → Prop} {code : ByteArray} {g : JFrame} {cd : ClassFile.Cond} {o : Int} {x y : Int32} {rest : List Value} (X : Stand p l e R s m as below meth c T L C S) (hx : p.tables.exec = Jvm.exec) (hby : c.code = code) (hd : decode code g.pc = .ok (.if_icmp cd o, 3)) (pc0 pc' : Nat) (hc : if_icmp.holds cd x y = true) (h : Goes p e below En Q (T.setTop { g with pc := pc', stack := rest })) (hg : g.method = m := by rfl) (hpc : g.pc = pc0 := by rfl) (hs : g.stack = .int y :: .int x :: rest := by rfl) (ho : 0 ≤ (pc0 : Int) + o := by decide) (hp : ((pc0 : Int) + o).toNat = pc' := by decide) : Goes p e below En Q (T.setTop g) := Gz (XS.icmpYes X.here hx hg hpc (hb hby hd) hs hc ho hp) h
theorem gU {p : Program} {l : Launch} {e : Env} {R : Room} {s : State} {m : MethodId} {as : Array Value} {below : List Frame} {meth : Method} {c : Code} {T : State} {L : List Loc} {C S : Nat} {En : Outcome → State → List Loc → Prop} {Q : Option Value → Heap → List Loc → Prop} {code : ByteArray} {g : JFrame} {cd : ClassFile.Cond} {o : Int} {x y : Int32} {rest : List Value} (X : Stand p l e R s m as below meth c T L C S) (hx : p.tables.exec = Jvm.exec) (hby : c.code = code) (hd : decode code g.pc = .ok (.if_icmp cd o, 3)) (hc : if_icmp.holds cd x y = false) (h : Goes p e below En Q (T.setTop { g with pc := g.pc + 3, stack := rest })) (hg : g.method = m := by rfl) (hs : g.stack = .int y :: .int x :: rest := by rfl) : Goes p e below En Q (T.setTop g) := Gz (XS.icmpNo X.here hx hg (hb hby hd) hs hc) h
theorem gy {p : Program} {l : Launch} {e : Env} {R : Room} {s : State} {m : MethodId} {as : Array Value} {below : List Frame} {meth : Method} {c : Code} {T : State} {L : List Loc} {C S : Nat} {En : Outcome → State → List Loc → Prop} {Q : Option Value → Heap → List Loc → Prop} {code : ByteArray} {g : JFrame} {cd : ClassFile.Cond} {o : Int} {x : Int32} {rest : List Value} (X : Stand p l e R s m as below meth c T L C S) (hx : p.tables.exec = Jvm.exec) (hby : c.code = code) (hd : decode code g.pc = .ok (.ifCond cd o, 3)) (pc0 pc' : Nat) (hc : ifCond.holds cd x = true) (h : Goes p e below En Q (T.setTop { g with pc := pc', stack := rest })) (hg : g.method = m := by rfl) (hpc : g.pc = pc0 := by rfl) (hs : g.stack = .int x :: rest := by rfl) (ho : 0 ≤ (pc0 : Int) + o := by decide) (hp : ((pc0 : Int) + o).toNat = pc' := by decide) : Goes p e below En Q (T.setTop g) := Gz (XS.ifYes X.here hx hg hpc (hb hby hd) hs hc ho hp) h
theorem gu {p : Program} {l : Launch} {e : Env} {R : Room} {s : State} {m : MethodId} {as : Array Value} {below : List Frame} {meth : Method} {c : Code} {T : State} {L : List Loc} {C S : Nat} {En : Outcome → State → List Loc → Prop} {Q : Option Value → Heap → List Loc → Prop} {code : ByteArray} {g : JFrame} {cd : ClassFile.Cond} {o : Int} {x : Int32} {rest : List Value} (X : Stand p l e R s m as below meth c T L C S) (hx : p.tables.exec = Jvm.exec) (hby : c.code = code) (hd : decode code g.pc = .ok (.ifCond cd o, 3)) (hc : ifCond.holds cd x = false) (h : Goes p e below En Q (T.setTop { g with pc := g.pc + 3, stack := rest })) (hg : g.method = m := by rfl) (hs : g.stack = .int x :: rest := by rfl) : Goes p e below En Q (T.setTop g) := Gz (XS.ifNo X.here hx hg (hb hby hd) hs hc) h
theorem cVg {Z : State} {a0 : Array Value} {p : Program} {l : Launch} {e : Env} {R : Room} {s : State} {m : MethodId} {args : Array Value} {below : List Frame} {meth : Method} {c : Code} {T : State} {locs : List Loc} {cells slots : Nat} {En : Outcome → State → List Loc → Prop} {Q : Option Value → Heap → List Loc → Prop} {h : Heap} {ml : Nat} {code bytes : ByteArray} {maxL idx : Nat} {ret : Option FieldType} {rm : Room} {vs : Array Value} {Qc : Option Value → Heap → List Loc → Prop} {own C : String} {argsL rest st : List Value} {pc : Nat} {ls : Array Slot} {A : State} (X : Stand p l e R s m args below meth c T locs cells slots) (hx : p.tables.exec = Jvm.exec) (hZ : Z.Warmed39 s.vm) (hw : HW a0 Z) (hown : s.vm.findClass own = some m.cls) (hby : c.code = code) (hml : c.maxLocals = ml) (eT : T.heap = h) (y : MethodName) (i1 i2 i3 i4 i5 i6 W : Nat) (hM : Met l Z y bytes maxL ret rm [] vs h Qc) {b : Addr} (E : Exa Z h b C) (hd : decode code pc = .ok (.invokevirtual idx, 3)) (len : ∀ sig, parseMethodDescriptor y.desc = some sig → argsL.length = sig.parameters.length) (k : ∀ (v : Option Value) (T' : State) (L : List Loc), Stand p l e R s m args below meth c T' (locs ++ L) (cells + rm.cells) (slots + rm.slots) → Qc v T'.heap L → Goes p e below En Q (T'.setTop (mkF m (pc + 3) ls (v.toList ++ rest))))(hA : A = T.setTop (mkF m pc ls st) := by rfl) (w1 : tables_1[i1]? = some (.methodLink own idx y) := by rfl) (w2 : tables_1[i2]? = some (.declares y) := by rfl) (w3 : tables_1[i3]? = some (.selects C y y) := by rfl) (w4 : tables_1[i4]? = some (.instanceMethod y) := by rfl) (w5 : tables_1[i5]? = some (.code y bytes maxL ret) := by rfl) (w6 : tables_1[i6]? = some (.initialized y.cls) := by rfl) (hy : y.cls ≠ "java/lang/invoke/MethodHandle" ∧ y.cls ≠ "java/lang/invoke/VarHandle" := by decide) (hf : rm.frames + 1 ≤ R.frames := by decide) (hl : W + (maxL + 11) + rm.locals ≤ R.locals := by decide) (hc : cells + rm.cells ≤ R.cells := by decide) (hs : slots + rm.slots ≤ R.slots := by decide) (hls : ls.size = ml := by rfl) (hvs : vs = (.ref b :: argsL).toArray := by rfl) (hst : st = argsL.reverse ++ .ref b :: rest := by rfl) (hW : (rest.map fun v => v.category).sum = W := by rfl) : Goes p e below En Q A := by
  subst hA
  obtain ⟨cq, kq, qa, qb, qc⟩ := isOf hZ eT E
  subst hvs
  obtain ⟨v, _, ⟨T', L', k', n'⟩, -, X', ⟨Lc, hQ, l', y', z'⟩, st'⟩ := X.virtualBack hx (y := y) (z := y) hown (gz hZ hw i1 w1) (gz hZ hw i2 w2) (notFace_of_selects (args := #[]) (gz hZ hw i3 w3)) (gz hZ hw i3 w3) (gz hZ hw i4 w4) hy (backOf (W := W) hM hZ (gw hw i5 w5) (gw hw i6 w6) hf hl) qa qc (g := mkF m pc ls st) rfl (hls.trans hml.symm) (Steps.refl _) (argsL := argsL) (rest := rest) len hst (w0 (Nat.le_of_eq hW)) (hb hby hd) (fun _ _ => ⟨rfl, eT, hc, hs⟩)
  dsimp only [Pt.U, Pt.locs, Pt.cells, Pt.slots] at X' l' y' z' st' hQ
  subst l' y' z'
  exact Gs (fun _ tk => st'.trans tk) (k v T' Lc X' hQ)
theorem cV {n0 : Nat} {r : Option Value} {Z : State} {a0 : Array Value} {p : Program} {l : Launch} {e : Env} {R : Room} {s : State} {m : MethodId} {args : Array Value} {below : List Frame} {meth : Method} {c : Code} {T : State} {locs : List Loc} {cells slots : Nat} {En : Outcome → State → List Loc → Prop} {Q : Option Value → Heap → List Loc → Prop} {h : Heap} {ml : Nat} {code bytes : ByteArray} {maxL idx : Nat} {ret : Option FieldType} {rm : Room} {vs : Array Value} {Qc : Option Value → Heap → List Loc → Prop} {own C : String} {argsL rest st : List Value} {pc : Nat} {ls : Array Slot} {A : State} (X : Stand p l e R s m args below meth c T locs cells slots) (hx : p.tables.exec = Jvm.exec) (hZ : Z.Warmed39 s.vm) (hw : HW a0 Z) (hown : s.vm.findClass own = some m.cls) (hby : c.code = code) (hml : c.maxLocals = ml) (eT : T.heap = h) (y : MethodName) (i1 i2 i3 i4 i5 i6 W : Nat) (hM : Met l Z y bytes maxL ret rm [] vs h Qc) {b : Addr} (E : Exa Z h b C) (hd : decode code pc = .ok (.invokevirtual idx, 3)) (len : ∀ sig, parseMethodDescriptor y.desc = some sig → argsL.length = sig.parameters.length) (N : Fr n0 locs) (k : ∀ (T' : State) (L : List Loc), Stand p l e R s m args below meth c T' L cells slots → T'.heap = h → Fr n0 L → Goes p e below En Q (T'.setTop (mkF m (pc + 3) ls (r.toList ++ rest))))(hA : A = T.setTop (mkF m pc ls st) := by rfl) (w1 : tables_1[i1]? = some (.methodLink own idx y) := by rfl) (w2 : tables_1[i2]? = some (.declares y) := by rfl) (w3 : tables_1[i3]? = some (.selects C y y) := by rfl) (w4 : tables_1[i4]? = some (.instanceMethod y) := by rfl) (w5 : tables_1[i5]? = some (.code y bytes maxL ret) := by rfl) (w6 : tables_1[i6]? = some (.initialized y.cls) := by rfl) (hy : y.cls ≠ "java/lang/invoke/MethodHandle" ∧ y.cls ≠ "java/lang/invoke/VarHandle" := by decide) (hf : rm.frames + 1 ≤ R.frames := by decide) (hl : W + (maxL + 11) + rm.locals ≤ R.locals := by decide) (hc : cells + rm.cells ≤ R.cells := by decide) (hs : slots + rm.slots ≤ R.slots := by decide) (hls : ls.size = ml := by rfl) (hvs : vs = (.ref b :: argsL).toArray := by rfl) (hst : st = argsL.reverse ++ .ref b :: rest := by rfl) (hW : (rest.map fun v => v.category).sum = W := by rfl)(hQ : ∀ v h' L, Qc v h' L → v = r ∧ Fr n0 L ∧ h' = h := by exact fun _ _ _ q => q) (c0 : rm.cells = 0 := by rfl) (s0 : rm.slots = 0 := by rfl)  : Goes p e below En Q A := by
  subst hA
  refine cVg X hx hZ hw hown hby hml eT y i1 i2 i3 i4 i5 i6 W hM E hd len (fun v T' L X' q => ?_) rfl w1 w2 w3 w4 w5 w6 hy hf hl hc hs hls hvs hst hW
  obtain ⟨rfl, N', e'⟩ := hQ _ _ _ q
  rw [c0, s0] at X'
  exact k T' _ X' e' (N.app N')
theorem cSg {Z : State} {a0 : Array Value} {p : Program} {l : Launch} {e : Env} {R : Room} {s : State} {m : MethodId} {args : Array Value} {below : List Frame} {meth : Method} {c : Code} {T : State} {locs : List Loc} {cells slots : Nat} {En : Outcome → State → List Loc → Prop} {Q : Option Value → Heap → List Loc → Prop} {h : Heap} {ml : Nat} {code bytes : ByteArray} {maxL idx : Nat} {ret : Option FieldType} {rm : Room} {vs : Array Value} {Qc : Option Value → Heap → List Loc → Prop} {own : String} {argsL rest st : List Value} {pc : Nat} {ls : Array Slot} {A : State} (X : Stand p l e R s m args below meth c T locs cells slots) (hx : p.tables.exec = Jvm.exec) (hZ : Z.Warmed39 s.vm) (hw : HW a0 Z) (hown : s.vm.findClass own = some m.cls) (hby : c.code = code) (hml : c.maxLocals = ml) (eT : T.heap = h) (y : MethodName) (i1 i2 i5 i6 W : Nat) (hM : Met l Z y bytes maxL ret rm [] vs h Qc) (hd : decode code pc = .ok (.invokestatic idx, 3)) (len : ∀ sig, parseMethodDescriptor y.desc = some sig → argsL.length = sig.parameters.length) (k : ∀ (v : Option Value) (T' : State) (L : List Loc), Stand p l e R s m args below meth c T' (locs ++ L) (cells + rm.cells) (slots + rm.slots) → Qc v T'.heap L → Goes p e below En Q (T'.setTop (mkF m (pc + 3) ls (v.toList ++ rest))))(hA : A = T.setTop (mkF m pc ls st) := by rfl) (w1 : tables_1[i1]? = some (.methodLink own idx y) := by rfl) (w2 : tables_1[i2]? = some (.static y) := by rfl) (w5 : tables_1[i5]? = some (.code y bytes maxL ret) := by rfl) (w6 : tables_1[i6]? = some (.initialized y.cls) := by rfl) (hy : y.cls ≠ "java/lang/invoke/MethodHandle" ∧ y.cls ≠ "java/lang/invoke/VarHandle" := by decide) (hf : rm.frames + 1 ≤ R.frames := by decide) (hl : W + (maxL + 11) + rm.locals ≤ R.locals := by decide) (hc : cells + rm.cells ≤ R.cells := by decide) (hs : slots + rm.slots ≤ R.slots := by decide) (hls : ls.size = ml := by rfl) (hvs : vs = (argsL).toArray := by rfl) (hst : st = argsL.reverse ++ rest := by rfl) (hW : (rest.map fun v => v.category).sum = W := by rfl) : Goes p e below En Q A := by
  subst hA
  subst hvs
  obtain ⟨v, _, ⟨T', L', k', n'⟩, -, X', ⟨Lc, hQ, l', y', z'⟩, st'⟩ := Jvm.LawKit.callS X hx (y := y) hown (gz hZ hw i1 w1) (gz hZ hw i2 w2) (gz hZ hw i6 w6) (gz hZ hw i5 w5) hy (backOf (W := W) hM hZ (gw hw i5 w5) (gw hw i6 w6) hf hl) (g := mkF m pc ls st) rfl (hls.trans hml.symm) (argsL := argsL) (rest := rest) len hst (w0 (Nat.le_of_eq hW)) (hb hby hd) (fun _ _ => ⟨rfl, eT, hc, hs⟩)
  dsimp only [Pt.U, Pt.locs, Pt.cells, Pt.slots] at X' l' y' z' st' hQ
  subst l' y' z'
  exact Gs st' (k v T' Lc X' hQ)
theorem cS {n0 : Nat} {r : Option Value} {Z : State} {a0 : Array Value} {p : Program} {l : Launch} {e : Env} {R : Room} {s : State} {m : MethodId} {args : Array Value} {below : List Frame} {meth : Method} {c : Code} {T : State} {locs : List Loc} {cells slots : Nat} {En : Outcome → State → List Loc → Prop} {Q : Option Value → Heap → List Loc → Prop} {h : Heap} {ml : Nat} {code bytes : ByteArray} {maxL idx : Nat} {ret : Option FieldType} {rm : Room} {vs : Array Value} {Qc : Option Value → Heap → List Loc → Prop} {own : String} {argsL rest st : List Value} {pc : Nat} {ls : Array Slot} {A : State} (X : Stand p l e R s m args below meth c T locs cells slots) (hx : p.tables.exec = Jvm.exec) (hZ : Z.Warmed39 s.vm) (hw : HW a0 Z) (hown : s.vm.findClass own = some m.cls) (hby : c.code = code) (hml : c.maxLocals = ml) (eT : T.heap = h) (y : MethodName) (i1 i2 i5 i6 W : Nat) (hM : Met l Z y bytes maxL ret rm [] vs h Qc) (hd : decode code pc = .ok (.invokestatic idx, 3)) (len : ∀ sig, parseMethodDescriptor y.desc = some sig → argsL.length = sig.parameters.length) (N : Fr n0 locs) (k : ∀ (T' : State) (L : List Loc), Stand p l e R s m args below meth c T' L cells slots → T'.heap = h → Fr n0 L → Goes p e below En Q (T'.setTop (mkF m (pc + 3) ls (r.toList ++ rest))))(hA : A = T.setTop (mkF m pc ls st) := by rfl) (w1 : tables_1[i1]? = some (.methodLink own idx y) := by rfl) (w2 : tables_1[i2]? = some (.static y) := by rfl) (w5 : tables_1[i5]? = some (.code y bytes maxL ret) := by rfl) (w6 : tables_1[i6]? = some (.initialized y.cls) := by rfl) (hy : y.cls ≠ "java/lang/invoke/MethodHandle" ∧ y.cls ≠ "java/lang/invoke/VarHandle" := by decide) (hf : rm.frames + 1 ≤ R.frames := by decide) (hl : W + (maxL + 11) + rm.locals ≤ R.locals := by decide) (hc : cells + rm.cells ≤ R.cells := by decide) (hs : slots + rm.slots ≤ R.slots := by decide) (hls : ls.size = ml := by rfl) (hvs : vs = (argsL).toArray := by rfl) (hst : st = argsL.reverse ++ rest := by rfl) (hW : (rest.map fun v => v.category).sum = W := by rfl)(hQ : ∀ v h' L, Qc v h' L → v = r ∧ Fr n0 L ∧ h' = h := by exact fun _ _ _ q => q) (c0 : rm.cells = 0 := by rfl) (s0 : rm.slots = 0 := by rfl)  : Goes p e below En Q A := by
  subst hA
  refine cSg X hx hZ hw hown hby hml eT y i1 i2 i5 i6 W hM  hd len (fun v T' L X' q => ?_) rfl w1 w2 w5 w6 hy hf hl hc hs hls hvs hst hW
  obtain ⟨rfl, N', e'⟩ := hQ _ _ _ q
  rw [c0, s0] at X'
  exact k T' _ X' e' (N.app N')
theorem cIg {Z : State} {a0 : Array Value} {p : Program} {l : Launch} {e : Env} {R : Room} {s : State} {m : MethodId} {args : Array Value} {below : List Frame} {meth : Method} {c : Code} {T : State} {locs : List Loc} {cells slots : Nat} {En : Outcome → State → List Loc → Prop} {Q : Option Value → Heap → List Loc → Prop} {h : Heap} {ml : Nat} {code bytes : ByteArray} {maxL idx : Nat} {rm : Room} {vs : Array Value} {Qc : Option Value → Heap → List Loc → Prop} {own : String} {argsL rest st : List Value} {pc : Nat} {ls : Array Slot} {A : State} (X : Stand p l e R s m args below meth c T locs cells slots) (hx : p.tables.exec = Jvm.exec) (hZ : Z.Warmed39 s.vm) (hw : HW a0 Z) (hown : s.vm.findClass own = some m.cls) (hby : c.code = code) (hml : c.maxLocals = ml) (eT : T.heap = h) (y : MethodName) (i1 i4 i5 i6 W : Nat) (hM : Met l Z y bytes maxL none rm [] vs h Qc) {b : Addr} (hd : decode code pc = .ok (.invokespecial idx, 3)) (len : ∀ sig, parseMethodDescriptor y.desc = some sig → argsL.length = sig.parameters.length) (k : ∀ (v : Option Value) (T' : State) (L : List Loc), Stand p l e R s m args below meth c T' (locs ++ L) (cells + rm.cells) (slots + rm.slots) → Qc v T'.heap L → Goes p e below En Q (T'.setTop (mkF m (pc + 3) ls (v.toList ++ rest))))(hA : A = T.setTop (mkF m pc ls st) := by rfl) (w1 : tables_1[i1]? = some (.methodLink own idx y) := by rfl) (w4 : tables_1[i4]? = some (.instanceMethod y) := by rfl) (w5 : tables_1[i5]? = some (.code y bytes maxL none) := by rfl) (w6 : tables_1[i6]? = some (.initialized y.cls) := by rfl) (hi : y.name = "<init>" := by rfl) (hy : y.cls ≠ "java/lang/invoke/MethodHandle" ∧ y.cls ≠ "java/lang/invoke/VarHandle" := by decide) (hf : rm.frames + 1 ≤ R.frames := by decide) (hl : W + (maxL + 11) + rm.locals ≤ R.locals := by decide) (hc : cells + rm.cells ≤ R.cells := by decide) (hs : slots + rm.slots ≤ R.slots := by decide) (hls : ls.size = ml := by rfl) (hvs : vs = (.ref b :: argsL).toArray := by rfl) (hst : st = argsL.reverse ++ .ref b :: rest := by rfl) (hW : (rest.map fun v => v.category).sum = W := by rfl) : Goes p e below En Q A := by
  subst hA
  subst hvs
  obtain ⟨v, _, ⟨T', L', k', n'⟩, -, X', ⟨Lc, hQ, l', y', z'⟩, st'⟩ := X.specialBack hx (y := y) hi hown (gz hZ hw i1 w1) (gz hZ hw i4 w4) (gz hZ hw i5 w5) hy (backOf (W := W) hM hZ (gw hw i5 w5) (gw hw i6 w6) hf hl) (g := mkF m pc ls st) rfl (hls.trans hml.symm) (Steps.refl _) (a := b) (argsL := argsL) (rest := rest) len hst (w0 (Nat.le_of_eq hW)) (hb hby hd) (fun _ _ => ⟨rfl, eT, hc, hs⟩)
  dsimp only [Pt.U, Pt.locs, Pt.cells, Pt.slots] at X' l' y' z' st' hQ
  subst l' y' z'
  exact Gs (fun _ tk => st'.trans tk) (k v T' Lc X' hQ)
def Lat (c : Int32) : Prop := 0 ≤ c.toInt ∧ c.toInt ≤ 255
def Chr (c : Int32) : Prop := 0 ≤ c.toInt ∧ c.toInt ≤ 65535
theorem Lat.chr {c : Int32} (h : Lat c) : Chr c := ⟨h.1, by have := h.2; omega⟩
def lo8 (c : Int32) : Int32 := c.toInt8.toInt32
def hi8 (c : Int32) : Int32 := (c >>> ((8 : Int32) &&& 31)).toInt8.toInt32
def latV (cs : List Int32) : List Value := cs.map fun c => .int (lo8 c)
def utfV (cs : List Int32) : List Value := cs.flatMap fun c => [.int (lo8 c), .int (hi8 c)]
theorem own_shr0 (x : Int32) : x >>> ((0 : Int32) &&& 31) = x := by
  apply Int32.toInt_inj.mp
  rw [c_ishr x 0 0 (by decide)]; simp
theorem own_shl0 (x : Int32) : x <<< ((0 : Int32) &&& 31) = x := by
  have h := c_ishl x 0 0 (by decide)
  have a := rng32 x; have b := rng32 (x <<< ((0 : Int32) &&& 31))
  apply Int32.toInt_inj.mp
  simp only [Nat.pow_zero] at h
  omega
theorem own_nc {c : Int32} (h : Chr c) : nar .char c = c := by
  have q := c_i2c c
  obtain ⟨h1, h2⟩ := h
  apply Int32.toInt_inj.mp
  show c.toUInt32.toUInt16.toUInt32.toInt32.toInt = c.toInt
  omega
theorem own_backL {c : Int32} (h : Lat c) : (lo8 c &&& (255 : Int32)) = c := by
  obtain ⟨h1, h2⟩ := h
  have a := c_i2b c
  have b := c_mask (lo8 c) 255 8 (by decide) (by decide)
  apply Int32.toInt_inj.mp
  rw [b]
  show c.toInt8.toInt32.toInt % 256 = c.toInt
  omega
theorem own_i2c {c : Int32} (h : Chr c) : c.toUInt32.toUInt16.toUInt32.toInt32 = c := own_nc h
abbrev JS : String := "java/lang/String"
def StrOf (Z : State) (h : Heap) (a : Addr) (cs : List Int32) : Prop := ∃ (b : Addr) (kb : ClassId), Exa Z h a "java/lang/String" ∧ Fld Z h a "java/lang/String" "value" "[B" (.ref b) ∧
  ((Fld Z h a "java/lang/String" "coder" "B" (.int 0) ∧ (∀ c ∈ cs, Lat c) ∧ Arv Z h b kb .byte (Int32.ofNat cs.length) (latV cs) (.int 0)) ∨ False) ∧ cs.length ≤ 1000
section S
variable {Z : State} {h h' : Heap} {a b o : Addr} {kb : ClassId} {cs : List Int32} {z : Int32} {vs : List Value} {ws : List Addr} {a0 : Array Value}
theorem StrOf.latin (A : Exa Z h a "java/lang/String") (F : Fld Z h a "java/lang/String" "value" "[B" (.ref b)) (C : Fld Z h a "java/lang/String" "coder" "B" (.int 0)) (V : Arv Z h b kb .byte z vs (.int 0)) (hL : ∀ c ∈ cs, Lat c) (hz : z = Int32.ofNat cs.length) (hv : vs = latV cs) (hn : cs.length ≤ 1000) : StrOf Z h a cs := by
  subst hz hv; exact ⟨b, kb, A, F, Or.inl ⟨C, hL, V⟩, hn⟩
theorem StrOf.lt (S : StrOf Z h a cs) : a < h.size := by obtain ⟨b, kb, A, -⟩ := S; exact A.lt
theorem StrOf.exa (S : StrOf Z h a cs) : Exa Z h a "java/lang/String" := by obtain ⟨b, kb, A, -⟩ := S; exact A
theorem StrOf.ext (S : StrOf Z h a cs) (E : Ext h h') : StrOf Z h' a cs := by
  obtain ⟨b, kb, A, F, R, n⟩ := S
  exact ⟨b, kb, A.ext E, F.ext E, R.imp (fun ⟨C, L, V⟩ => ⟨C.ext E, L, V.ext E⟩) id, n⟩
def NB (Z : State) (h : Heap) (x : Addr) : Prop := ∀ (b : Addr) (kb : ClassId) (z : Int32) (vs : List Value) (d : Value), Arv Z h b kb .byte z vs d → x ≠ b
theorem own_nbE {C : String} {n : Nat} (E : Exa Z h o C) (w : (Cond.instantiable C n).before a0 Z = true) : NB Z h o := fun b kb z vs d V => E.neArv V w
theorem StrOf.keep (S : StrOf Z h a cs) (K : Keep h h' ws) (q : ∀ x ∈ ws, x ≠ a ∧ NB Z h x) : StrOf Z h' a cs := by
  obtain ⟨b, kb, A, F, R, n⟩ := S
  have ha : a ∉ ws := fun m => (q a m).1 rfl
  refine ⟨b, kb, A.keep K, F.keep K ha, ?_, n⟩
  rcases R with ⟨C, L, V⟩ | V
  · exact Or.inl ⟨C.keep K ha, L, V.keep K fun m => (q b m).2 _ _ _ _ _ V rfl⟩
  · exact V.elim
theorem StrOf.wr {sl : Nat} {v : Value} (S : StrOf Z h a cs) (W : Wr h h' o sl v) (q : o ≠ a) (r : NB Z h o) : StrOf Z h' a cs := S.keep (Keep.of_wr W) (allS ⟨q, r⟩ all0)
end S
theorem own_latGet {cs : List Int32} {j r : Int32} (h0 : ¬ j < 0) (h1 : j < Int32.ofNat cs.length) (hn : cs.length ≤ 1000) (hr : cs.getD j.toNatClampNeg 0 = r) : (latV cs).getD j.toNatClampNeg (.int 0) = .int (lo8 r) := by
  have hl : (Int32.ofNat cs.length).toInt = cs.length := Int32.toInt_ofNat_of_lt (by omega)
  rw [Int32.lt_iff_toInt_lt, hl] at h1
  rw [Int32.lt_iff_toInt_lt] at h0
  have e0 : (0 : Int32).toInt = 0 := by decide
  have hj : j.toNatClampNeg < cs.length := by simp only [Int32.toNatClampNeg]; omega
  subst hr
  simp [latV, List.getD_eq_getElem?_getD, List.getElem?_map, List.getElem?_eq_getElem hj]
theorem own_idx {cs : List Int32} {j : Int32} (h0 : ¬ j < 0) (h1 : j < Int32.ofNat cs.length) (hn : cs.length ≤ 1000) : j.toNatClampNeg < cs.length := by
  have hl : (Int32.ofNat cs.length).toInt = cs.length := Int32.toInt_ofNat_of_lt (by omega)
  rw [Int32.lt_iff_toInt_lt, hl] at h1
  rw [Int32.lt_iff_toInt_lt] at h0
  have e0 : (0 : Int32).toInt = 0 := by decide
  simp only [Int32.toNatClampNeg]; omega
theorem own_mem {cs : List Int32} {j r : Int32} (h0 : ¬ j < 0) (h1 : j < Int32.ofNat cs.length) (hn : cs.length ≤ 1000) (hr : cs.getD j.toNatClampNeg 0 = r) : r ∈ cs := by
  have hj := own_idx h0 h1 hn
  subst hr
  simp [List.getD_eq_getElem?_getD, List.getElem?_eq_getElem hj]
theorem StrOf.len {Z : State} {h : Heap} {a : Addr} {cs : List Int32} (S : StrOf Z h a cs) : cs.length ≤ 1000 := by obtain ⟨b, kb, -, -, -, n⟩ := S; exact n
theorem own_utfAt : ∀ (cs : List Int32) (i : Nat), i < cs.length → (utfV cs).getD (2 * i) (.int 0) = .int (lo8 (cs.getD i 0)) ∧ (utfV cs).getD (2 * i + 1) (.int 0) = .int (hi8 (cs.getD i 0))
  | [], i, h => by simp at h
  | c :: cs, 0, _ => ⟨rfl, rfl⟩
  | c :: cs, i + 1, h => by
    have q := own_utfAt cs i (by simpa using h)
    exact q
/-- the number of decimal digits of n < 10 ^ 13 -/
def own_len (n : Nat) : Nat := 1 + (if 10 ≤ n then 1 else 0) + (if 100 ≤ n then 1 else 0) + (if 1000 ≤ n then 1 else 0) + (if 10000 ≤ n then 1 else 0) + (if 100000 ≤ n then 1 else 0) + (if 1000000 ≤ n then 1 else 0) + (if 10000000 ≤ n then 1 else 0) + (if 100000000 ≤ n then 1 else 0) + (if 1000000000 ≤ n then 1 else 0) + (if 10000000000 ≤ n then 1 else 0) + (if 100000000000 ≤ n then 1 else 0) + (if 1000000000000 ≤ n then 1 else 0)
theorem own_ite {p q : Prop} [Decidable p] [Decidable q] (h : p ↔ q) : (if p then (1 : Nat) else 0) = if q then 1 else 0 := by
  by_cases hp : p
  · rw [if_pos hp, if_pos (h.mp hp)]
  · rw [if_neg hp, if_neg fun z => hp (h.mpr z)]
theorem own_lenS {n : Nat} (h : 10 ≤ n) (hn : n < 10000000000000) : own_len n = own_len (n / 10) + 1 := by
  unfold own_len
  rw [own_ite (p := 10 ≤ n / 10) (q := 100 ≤ n) (by omega), own_ite (p := 100 ≤ n / 10) (q := 1000 ≤ n) (by omega), own_ite (p := 1000 ≤ n / 10) (q := 10000 ≤ n) (by omega), own_ite (p := 10000 ≤ n / 10) (q := 100000 ≤ n) (by omega),
    own_ite (p := 100000 ≤ n / 10) (q := 1000000 ≤ n) (by omega), own_ite (p := 1000000 ≤ n / 10) (q := 10000000 ≤ n) (by omega), own_ite (p := 10000000 ≤ n / 10) (q := 100000000 ≤ n) (by omega), own_ite (p := 100000000 ≤ n / 10) (q := 1000000000 ≤ n) (by omega),
    own_ite (p := 1000000000 ≤ n / 10) (q := 10000000000 ≤ n) (by omega), own_ite (p := 10000000000 ≤ n / 10) (q := 100000000000 ≤ n) (by omega), own_ite (p := 100000000000 ≤ n / 10) (q := 1000000000000 ≤ n) (by omega), if_neg (c := 1000000000000 ≤ n / 10) (by omega), if_pos h]
  omega
theorem own_len1 {n : Nat} (h : n < 10) : own_len n = 1 := by
  unfold own_len
  simp only [if_neg (show ¬ 10 ≤ n by omega), if_neg (show ¬ 100 ≤ n by omega), if_neg (show ¬ 1000 ≤ n by omega), if_neg (show ¬ 10000 ≤ n by omega), if_neg (show ¬ 100000 ≤ n by omega), if_neg (show ¬ 1000000 ≤ n by omega), if_neg (show ¬ 10000000 ≤ n by omega), if_neg (show ¬ 100000000 ≤ n by omega), if_neg (show ¬ 1000000000 ≤ n by omega), if_neg (show ¬ 10000000000 ≤ n by omega), if_neg (show ¬ 100000000000 ≤ n by omega), if_neg (show ¬ 1000000000000 ≤ n by omega)]
theorem own_lenP (n : Nat) : 1 ≤ own_len n := by unfold own_len; omega
theorem own_len13 (n : Nat) : own_len n ≤ 13 := by
  have : ∀ (p : Prop) [Decidable p], (if p then (1 : Nat) else 0) ≤ 1 := fun p _ => by split <;> omega
  unfold own_len
  have h1 := this (10 ≤ n); have h2 := this (100 ≤ n); have h3 := this (1000 ≤ n); have h4 := this (10000 ≤ n); have h5 := this (100000 ≤ n); have h6 := this (1000000 ≤ n); have h7 := this (10000000 ≤ n); have h8 := this (100000000 ≤ n); have h9 := this (1000000000 ≤ n); have h10 := this (10000000000 ≤ n); have h11 := this (100000000000 ≤ n); have h12 := this (1000000000000 ≤ n)
  omega
/-- k digits are done, the rest of n is own_q n k -/
def own_q (n : Nat) : Nat → Nat
  | 0 => n
  | k + 1 => own_q n k / 10
theorem own_qle (n k : Nat) : own_q n k ≤ n := by
  induction k with
  | zero => exact Nat.le_refl _
  | succ k ih => exact Nat.le_trans (Nat.div_le_self _ _) ih
theorem own_qlen {n : Nat} (hn : n < 10000000000000) : ∀ k, k < own_len n → own_len (own_q n k) + k = own_len n := by
  intro k
  induction k with
  | zero => intro _; rfl
  | succ k ih =>
    intro h
    have i := ih (by omega)
    have h10 : 10 ≤ own_q n k := by
      rcases Nat.lt_or_ge (own_q n k) 10 with q | q
      · have := own_len1 q; omega
      · exact q
    have s := own_lenS h10 (Nat.lt_of_le_of_lt (own_qle n k) hn)
    show own_len (own_q n k / 10) + (k + 1) = own_len n
    omega
/-- the digits, the highest first, as chars -/
def own_dc (d : Nat) : Int32 := Int32.ofNat (48 + d)
def own_dg (n : Nat) : List Int32 := (List.range (own_len n)).map fun j => own_dc (own_q n (own_len n - 1 - j) % 10)
theorem own_dgL (n : Nat) : (own_dg n).length = own_len n := by simp [own_dg]
theorem own_dgG {n j : Nat} (h : j < own_len n) : (own_dg n).getD j 0 = own_dc (own_q n (own_len n - 1 - j) % 10) := by simp [own_dg, List.getD, h]
theorem own_dcT {d : Nat} (h : d < 10) : (own_dc d).toInt = 48 + d := by
  unfold own_dc; rw [Int32.toInt_ofNat_of_lt (by omega)]; omega
theorem own_dcL {d : Nat} (h : d < 10) : Lat (own_dc d) := ⟨by rw [own_dcT h]; omega, by rw [own_dcT h]; omega⟩
theorem own_dgLat (n : Nat) : ∀ c ∈ own_dg n, Lat c := fun c hc => by
  obtain ⟨j, -, rfl⟩ := List.mem_map.mp hc
  exact own_dcL (Nat.mod_lt _ (by omega))
/-- a buffer that holds the digits from p on -/
def own_bq (n p : Nat) : List Value := List.replicate p (.int 0) ++ (latV (own_dg n)).drop p
theorem own_bq0 (n : Nat) : own_bq n 0 = latV (own_dg n) := by simp [own_bq]
theorem own_bqL {n p : Nat} (h : p ≤ own_len n) : (own_bq n p).length = own_len n := by
  simp [own_bq, latV, own_dgL]; omega
theorem own_bqN (n : Nat) : own_bq n (own_len n) = List.replicate (own_len n) (.int 0) := by
  unfold own_bq
  rw [List.drop_eq_nil_of_le (by simp [latV, own_dgL]), List.append_nil]
theorem own_bqS {n j : Nat} (h : j < own_len n) {v : Value} (hv : v = .int (lo8 (own_dc (own_q n (own_len n - 1 - j) % 10)))) : (own_bq n (j + 1)).set j v = own_bq n j := by
  subst hv
  apply List.ext_getElem?
  intro i
  have hl : (latV (own_dg n)).length = own_len n := by simp [latV, own_dgL]
  have hg : ∀ i, i < own_len n → (latV (own_dg n))[i]? = some (.int (lo8 (own_dc (own_q n (own_len n - 1 - i) % 10)))) := fun i hi => by simp [latV, own_dg, hi]
  rw [List.getElem?_set]
  by_cases e : j = i
  · subst e
    rw [if_pos rfl, if_pos (by rw [own_bqL (by omega)]; exact h)]
    unfold own_bq
    rw [List.getElem?_append_right (by simp), List.getElem?_drop]
    simp [hg j h]
  · rw [if_neg e]
    unfold own_bq
    rcases Nat.lt_or_ge i j with q | q
    · rw [List.getElem?_append_left (by simp; omega), List.getElem?_append_left (by simp; omega)]
      simp [List.getElem?_replicate, q, Nat.lt_succ_of_lt q]
    · rw [List.getElem?_append_right (by simp; omega), List.getElem?_append_right (by simp; omega), List.getElem?_drop, List.getElem?_drop]
      congr 1
      simp
      omega
theorem own_i64 (k : Int64) : -9223372036854775808 ≤ k.toInt ∧ k.toInt < 9223372036854775808 := ⟨k.le_toInt, k.toInt_lt⟩
theorem own_neg {v : Int64} {n : Nat} (hv : v.toInt = n) : (-v).toInt = -(n : Int) := by
  have a := c_lneg v
  have r := own_i64 (-v)
  have q := own_i64 v
  omega
theorem own_gtP {v p : Int64} {n P : Nat} (hv : v.toInt = n) (hp : p.toInt = -(P : Int)) : 0 < lcmpW (-v) p ↔ n < P := by
  rw [lw_gt, Int64.lt_iff_toInt_lt, own_neg hv, hp]; omega
theorem own_v0 {v : Int64} {n : Nat} (hv : v.toInt = n) : ¬ (lcmpW v 0 < 0) := by
  rw [lw_lt, Int64.lt_iff_toInt_lt, hv]
  have : (0 : Int64).toInt = 0 := by decide
  omega
/-- the loop's long: -(own_q n k) -/
theorem own_ldv {i : Int64} {q : Nat} (hi : i.toInt = -(q : Int)) (hq : q < 10000000000000) : (i / (100 : Int64)).toInt = -((q / 100 : Nat) : Int) ∧ (((i / (100 : Int64)) * (100 : Int64)) - i).toInt32.toInt = ((q % 100 : Nat) : Int) := by
  have d := c_ldiv i 100 100 (by decide) (by decide)
  have m := c_lmul (i / 100) 100
  have s := c_lsub ((i / 100) * 100) i
  have c := c_l2i (((i / 100) * 100) - i)
  have r1 := own_i64 ((i / 100) * 100)
  have r2 := own_i64 (((i / 100) * 100) - i)
  have r3 := rng32 (((i / 100) * 100) - i).toInt32
  have e : (100 : Int64).toInt = 100 := by decide
  rw [e] at m
  have d1 : (i / 100).toInt = -((q / 100 : Nat) : Int) := by
    rcases Nat.eq_zero_or_pos q with z | z
    · have := d.1 (by omega); omega
    · have := d.2 (by omega); omega
  refine ⟨d1, ?_⟩
  omega
theorem own_idv {i : Int32} {q : Nat} (hi : i.toInt = -(q : Int)) (hq : q < 2147483648) : (i / (100 : Int32)).toInt = -((q / 100 : Nat) : Int) ∧ (((i / (100 : Int32)) * (100 : Int32)) - i).toInt = ((q % 100 : Nat) : Int) := by
  have d := c_idiv i 100 100 (by decide) (by decide)
  have m := c_imul (i / 100) 100
  have s := c_isub ((i / 100) * 100) i
  have r1 := rng32 ((i / 100) * 100)
  have r2 := rng32 (((i / 100) * 100) - i)
  have e : (100 : Int32).toInt = 100 := by decide
  rw [e] at m
  have d1 : (i / 100).toInt = -((q / 100 : Nat) : Int) := by
    rcases Nat.eq_zero_or_pos q with z | z
    · have := d.1 (by omega); omega
    · have := d.2 (by omega); omega
  refine ⟨d1, ?_⟩
  omega
/-- the tables of digits -/
def own_ones : List Value := (List.range 100).map fun r => .int (own_dc (r % 10))
def own_tens : List Value := (List.range 100).map fun r => .int (own_dc (r / 10))
theorem own_tabG (f : Nat → Int32) {r : Nat} (h : r < 100) (d : Value) : ((List.range 100).map fun r => Value.int (f r)).getD r d = .int (f r) := by simp [List.getD, h]
theorem own_rI {r : Int32} {m : Nat} (hr : r.toInt = (m : Int)) (hm : m < 100) : ¬ r < 0 ∧ r < 100 ∧ r.toNatClampNeg = m := by
  have e0 : (0 : Int32).toInt = 0 := by decide
  have e1 : (100 : Int32).toInt = 100 := by decide
  simp only [Int32.lt_iff_toInt_lt, e0, e1, Int32.toNatClampNeg]
  omega
theorem own_pI {p z : Nat} {zz : Int32} (hp : p ≤ 13) (hz : zz.toNatClampNeg = z) (hpz : p ≤ z) (h1 : 1 ≤ p) : (Int32.ofNat p + (-1 : Int32)) = Int32.ofNat (p - 1) ∧ ¬ (Int32.ofNat (p - 1) < 0) ∧ Int32.ofNat (p - 1) < zz ∧ (Int32.ofNat (p - 1)).toNatClampNeg = p - 1 := by
  have e0 : (0 : Int32).toInt = 0 := by decide
  have e1 : (-1 : Int32).toInt = -1 := by decide
  have l1 : (Int32.ofNat p).toInt = p := Int32.toInt_ofNat_of_lt (by omega)
  have l2 : (Int32.ofNat (p - 1)).toInt = (p - 1 : Nat) := Int32.toInt_ofNat_of_lt (by omega)
  have a := c_iadd (Int32.ofNat p) (-1)
  have r := rng32 (Int32.ofNat p + (-1))
  rw [e1, l1] at a
  simp only [Int32.toNatClampNeg] at hz ⊢
  simp only [← Int32.toInt_inj, Int32.lt_iff_toInt_lt, e0, l2]
  omega
theorem own_q2 (n k : Nat) : own_q n (k + 2) = own_q n k / 100 := by
  show own_q n k / 10 / 10 = own_q n k / 100
  rw [Nat.div_div_eq_div_mul]
theorem own_loopG {p : Program} {l : Launch} {e : Env} {R : Room} {s : State} {m : MethodId} {as : Array Value} {below : List Frame} {meth : Method} {c : Code} {C S : Nat} {En : Outcome → State → List Loc → Prop} {Q : Option Value → Heap → List Loc → Prop} {T0 : State} {L0 : List Loc}
    {ι : Type} {μ : ι → Nat} {I : ι → State → List Loc → Prop} {B : ι → State → State}
    (step : ∀ (i : ι) (T : State) (L : List Loc), Stand p l e R s m as below meth c T L C S → I i T L → (∀ (j : ι) (T' : State) (L' : List Loc), μ j < μ i → Stand p l e R s m as below meth c T' L' C S → I j T' L' → Goes p e below En Q (B j T')) → Goes p e below En Q (B i T))
    (i0 : ι) (X : Stand p l e R s m as below meth c T0 L0 C S) (hi : I i0 T0 L0) : Goes p e below En Q (B i0 T0) := by
  have key : ∀ (k : Nat) (i : ι), μ i ≤ k → ∀ (T : State) (L : List Loc), Stand p l e R s m as below meth c T L C S → I i T L → Goes p e below En Q (B i T) := by
    intro k
    induction k with
    | zero => intro i hk T L X h; exact step i T L X h (fun j T L hj => absurd hj (by omega))
    | succ k ih => intro i hk T L X h; exact step i T L X h (fun j T L hj X hI => ih j (by omega) T L X hI)
  exact key _ i0 (Nat.le_refl _) T0 L0 X hi
theorem own_bqT {n p j : Nat} {v : Value} (hp : p = j + 1) (h : j < own_len n) (hv : v = .int (lo8 (own_dc (own_q n (own_len n - 1 - j) % 10)))) : (own_bq n p).set j v = own_bq n j := by subst hp; exact own_bqS h hv
theorem own_arvE {Z : State} {h : Heap} {a : Addr} {k : ClassId} {ty : FieldType} {z : Int32} {vs vs' : List Value} {d : Value} (V : Arv Z h a k ty z vs d) (e : vs = vs') : Arv Z h a k ty z vs' d := e ▸ V
theorem own_dig1' (n k : Nat) : own_dc (own_q n k % 100 % 10) = own_dc (own_q n k % 10) := by rw [show own_q n k % 100 % 10 = own_q n k % 10 from by omega]
theorem own_dig2' (n k : Nat) : own_dc (own_q n k % 100 / 10) = own_dc (own_q n (k + 1) % 10) := by
  show _ = own_dc (own_q n k / 10 % 10)
  rw [show own_q n k % 100 / 10 = own_q n k / 10 % 10 from by omega]
theorem own_dig3' {n k : Nat} (h : own_q n k < 100) : own_dc (own_q n k / 10) = own_dc (own_q n (k + 1) % 10) := by
  show _ = own_dc (own_q n k / 10 % 10)
  rw [show own_q n k / 10 % 10 = own_q n k / 10 from by omega]
theorem own_nf2 {s : State} {args : Array Value} {y : MethodName} {S n d : String} {x : MethodName} (w : (Cond.selects S x ⟨y.cls, n, d⟩).before args s = true) : NotFace s y := fun r0 h0 => by
  obtain ⟨c, r, m2, -, -, h3, -, kk, h5, h6⟩ := Cond.selects_spec w
  have q0 := findClass_of_methodNamed h3
  have q1 : s.vm.findClass y.cls = some m2.cls := q0
  have q2 : s.vm.findClass y.cls = some r0.cls := findClass_of_methodNamed h0
  have e : m2.cls = r0.cls := Option.some.inj (q1.symm.trans q2)
  exact ⟨kk, by rw [← e]; exact h5, h6⟩
theorem own_sameM {Z : State} {a0 : Array Value} {y : MethodName} {S n d : String} {x : MethodName} (wi : (Cond.instanceMethod y).before a0 Z = true) (w : (Cond.selects S x ⟨y.cls, n, d⟩).before a0 Z = true) (hy : y.cls ≠ "java/lang/invoke/MethodHandle" ∧ y.cls ≠ "java/lang/invoke/VarHandle") : (Cond.sameMethod y.cls y.cls y.name y.desc).before a0 Z = true := by
  obtain ⟨mk, methM, hn, -⟩ := Cond.instanceMethod_spec wi
  obtain ⟨kk, h5, h6⟩ := own_nf2 w mk hn
  simp only [Cond.before, Cond.holds, Cond.value, findClass_of_methodNamed hn, State.methodFound?_of_named hn hy, hn]
  simp [h5, h6]
theorem own_selQ {Z s : State} {a0 args : Array Value} {y : MethodName} {S n d : String} {x : MethodName} (hZ : Z.Warmed39 s.vm) (w : (Cond.selects S x ⟨y.cls, n, d⟩).before a0 Z = true) (wp : (Cond.privateMethod y).before a0 Z = true) (wm : (Cond.instanceMethod y).before a0 Z = true) (hy : y.cls ≠ "java/lang/invoke/MethodHandle" ∧ y.cls ≠ "java/lang/invoke/VarHandle") : (Cond.selects y.cls y y).before args s = true := by
  obtain ⟨mk, methM, hn, -⟩ := Cond.instanceMethod_spec (mvT hZ wm : (Cond.instanceMethod y).before #[] s = true)
  obtain ⟨kk, h5, h6⟩ := own_nf2 (mvT hZ w : (Cond.selects S x ⟨y.cls, n, d⟩).before #[] s = true) mk hn
  exact selects_self_of_private (findClass_of_methodNamed hn) h5 h6 (Cond.privateMethod_at (mvP hZ wp (args := #[]))) (mvT hZ wm) hy
theorem own_unp {Z : State} {h : Heap} {a : Addr} {k : ClassId} {ty : FieldType} {z : Int32} {dv : Value} {n : Nat} (V : Arv Z h a k ty z (List.replicate n dv) dv) : Arv Z h a k ty z [] dv := V.pad fun i => by
  show ([] : List Value).getD i dv = (List.replicate n dv).getD i dv
  rw [List.getD, List.getD, List.getElem?_replicate]; split <;> rfl
theorem own_ofA (a b : Nat) : Int32.ofNat a + Int32.ofNat b = Int32.ofNat (a + b) := (Int32.ofNat_add ..).symm
theorem own_latA (ys xs : List Int32) : latV (ys ++ xs) = latV ys ++ latV xs := by simp [latV]
theorem own_latLen (ys : List Int32) : (latV ys).length = ys.length := by simp [latV]
theorem own_tnO {n : Nat} (h : n ≤ 1000) : (Int32.ofNat n).toNatClampNeg = n ∧ ¬ Int32.ofNat n < 0 ∧ (Int32.ofNat n).toInt = n := by
  have l : (Int32.ofNat n).toInt = n := Int32.toInt_ofNat_of_lt (by omega)
  have e0 : (0 : Int32).toInt = 0 := by decide
  refine ⟨?_, ?_, l⟩
  · show (Int32.ofNat n).toInt.toNat = n
    rw [l]; omega
  · rw [Int32.lt_iff_toInt_lt, l, e0]; omega
/-- what a copy of the whole of xs behind ys leaves -/
theorem own_cpL (ys xs : List Int32) : ((latV ys ++ List.replicate xs.length (Value.int 0)).take ys.length ++ latV xs ++ (latV ys ++ List.replicate xs.length (Value.int 0)).drop (ys.length + xs.length)) = latV (ys ++ xs) := by
  rw [own_latA, List.take_left' (own_latLen ys), List.drop_eq_nil_of_le (by simp [own_latLen]), List.append_nil]
theorem own_rgL (xs : List Int32) (z : Int32) : latV xs = (List.range xs.length).map fun i => (latV xs).getD (0 + i) (.int z) := by
  apply List.ext_getElem?
  intro i
  by_cases h : i < xs.length
  · simp [latV, h, List.getD]
  · simp [latV, h]
/-- a copy of the first n of a longer array into a fresh one -/
theorem own_cpN (xs : List Int32) {n : Nat} (h : n = xs.length) : ((List.replicate n (Value.int 0)).take 0 ++ latV xs ++ (List.replicate n (Value.int 0)).drop (0 + n)) = latV xs := by
  rw [List.take_zero, List.nil_append, Nat.zero_add, List.drop_eq_nil_of_le (by simp), List.append_nil]
theorem own_ecN {z : Int32} {m : Nat} (hz : ¬ z < 0) (h : m ≤ z.toNatClampNeg) (h1 : z.toNatClampNeg ≤ 1000) : ¬ ((0 : Int32) < Int32.ofNat m - z) := by
  have e0 : (0 : Int32).toInt = 0 := by decide
  have l : (Int32.ofNat m).toInt = m := Int32.toInt_ofNat_of_lt (by omega)
  have a := c_isub (Int32.ofNat m) z
  have r := rng32 (Int32.ofNat m - z)
  simp only [Int32.toNatClampNeg] at h h1
  rw [Int32.lt_iff_toInt_lt, e0] at hz
  rw [Int32.lt_iff_toInt_lt, e0]
  omega
theorem own_ltZ {z : Int32} {m : Nat} (hz : ¬ z < 0) (h : m < z.toNatClampNeg) (h1 : z.toNatClampNeg ≤ 1000) : Int32.ofNat m < z := by
  have e0 : (0 : Int32).toInt = 0 := by decide
  have l : (Int32.ofNat m).toInt = m := Int32.toInt_ofNat_of_lt (by omega)
  simp only [Int32.toNatClampNeg] at h h1
  rw [Int32.lt_iff_toInt_lt, e0] at hz
  rw [Int32.lt_iff_toInt_lt, l]
  omega
theorem own_neZ {z : Int32} {m : Nat} (h : Int32.ofNat m < z) : ¬ (Int32.ofNat m = z) := fun e => by rw [e] at h; exact Int32.lt_irrefl h
theorem own_padN {Z : State} {h : Heap} {a : Addr} {k : ClassId} {ty : FieldType} {z : Int32} {dv : Value} {vs : List Value} (F : Arv Z h a k ty z vs dv) (n : Nat) : Arv Z h a k ty z (vs ++ List.replicate n dv) dv := F.pad (pad_rep vs dv n)
theorem own_nz {Z : State} {h : Heap} {a : Addr} {k : ClassId} {ty : FieldType} {z : Int32} {dv : Value} {vs : List Value} (F : Arv Z h a k ty z vs dv) : ¬ z < 0 := F.choose_spec.2.2.2.1
theorem own_unpA {Z : State} {h : Heap} {a : Addr} {k : ClassId} {ty : FieldType} {z : Int32} {dv : Value} {n : Nat} {vs : List Value} (V : Arv Z h a k ty z (vs ++ List.replicate n dv) dv) : Arv Z h a k ty z vs dv := V.pad fun i => (pad_rep vs dv n i).symm
theorem own_rgP (xs : List Int32) (n : Nat) : latV xs ++ List.replicate n (Value.int 0) = (List.range (xs.length + n)).map fun i => (latV xs).getD (0 + i) (.int 0) := by
  apply List.ext_getElem?
  intro i
  rw [List.getElem?_append]
  by_cases h : i < xs.length
  · rw [if_pos (by rw [own_latLen]; exact h)]
    simp [latV, h, List.getD, Nat.lt_of_lt_of_le h (Nat.le_add_right _ _)]
  · rw [if_neg (by rw [own_latLen]; exact h)]
    by_cases h2 : i < xs.length + n
    · have h3 : i - xs.length < n := by omega
      simp [latV, h, h2, h3, List.getD, List.getElem?_replicate, own_latLen]
    · have h3 : ¬ i - xs.length < n := by omega
      simp [latV, h2, h3, List.getElem?_replicate]
def own_r (k : Nat) : Nat := k / 1000 + if 500 ≤ k % 1000 then 1 else 0
def own_f3 (r : Nat) : List Int32 := [own_dc (r % 1000 / 100), own_dc (r % 1000 / 10 % 10), own_dc (r % 1000 % 10)]
def own_tf (r : Nat) : List Int32 := (own_dg (r / 1000) ++ [(46 : Int32)]) ++ own_f3 r
theorem own_d4 (f : Nat) (h : f < 1000) : own_dg (1000 + f) = [(49 : Int32), own_dc (f / 100), own_dc (f / 10 % 10), own_dc (f % 10)] := by
  have l : own_len (1000 + f) = 4 := by
    unfold own_len
    simp only [if_pos (show 10 ≤ 1000 + f by omega), if_pos (show 100 ≤ 1000 + f by omega), if_pos (show 1000 ≤ 1000 + f by omega), if_neg (show ¬ 10000 ≤ 1000 + f by omega), if_neg (show ¬ 100000 ≤ 1000 + f by omega), if_neg (show ¬ 1000000 ≤ 1000 + f by omega), if_neg (show ¬ 10000000 ≤ 1000 + f by omega), if_neg (show ¬ 100000000 ≤ 1000 + f by omega), if_neg (show ¬ 1000000000 ≤ 1000 + f by omega), if_neg (show ¬ 10000000000 ≤ 1000 + f by omega), if_neg (show ¬ 100000000000 ≤ 1000 + f by omega), if_neg (show ¬ 1000000000000 ≤ 1000 + f by omega)]
  unfold own_dg
  rw [l]
  show [own_dc ((1000 + f) / 10 / 10 / 10 % 10), own_dc ((1000 + f) / 10 / 10 % 10), own_dc ((1000 + f) / 10 % 10), own_dc ((1000 + f) % 10)] = _
  rw [show (1000 + f) / 10 / 10 / 10 % 10 = 1 by omega, show (1000 + f) / 10 / 10 % 10 = f / 100 by omega, show (1000 + f) / 10 % 10 = f / 10 % 10 by omega, show (1000 + f) % 10 = f % 10 by omega]
  rfl
theorem own_f3L (r : Nat) : ∀ c ∈ own_f3 r, Lat c := fun c hc => by
  simp only [own_f3, List.mem_cons, List.not_mem_nil, or_false] at hc
  rcases hc with rfl | rfl | rfl
  · exact own_dcL (by omega)
  · exact own_dcL (by omega)
  · exact own_dcL (by omega)
theorem own_fmt {m : Int64} {k : Nat} {z : Int32} (hm : m.toInt = (k : Int)) (hz : z.toInt = if 500 ≤ k % 1000 then 1 else 0) : ((m / (1000 : Int64)) + z.toInt64).toInt = ((own_r k : Nat) : Int) := by
  have d := (c_ldiv m 1000 1000 (by decide) (by decide)).1 (by omega)
  have a := c_ladd (m / 1000) z.toInt64
  have e := c_i2l z
  have r := own_i64 ((m / 1000) + z.toInt64)
  have q := own_i64 m
  unfold own_r
  by_cases h : 500 ≤ k % 1000
  · rw [if_pos h] at hz ⊢; omega
  · rw [if_neg h] at hz ⊢; omega
theorem own_rem {m : Int64} {k : Nat} (hm : m.toInt = (k : Int)) : (m % (1000 : Int64)).toInt = ((k % 1000 : Nat) : Int) := by
  have d := (c_lrem m 1000 1000 (by decide)).1 (by omega)
  rw [lrem_mod] at d
  omega
theorem own_div {m : Int64} {k : Nat} (hm : m.toInt = (k : Int)) : (m / (1000 : Int64)).toInt = ((k / 1000 : Nat) : Int) := by
  have d := (c_ldiv m 1000 1000 (by decide) (by decide)).1 (by omega)
  omega
theorem own_rB {m : Int64} {k : Nat} (hm : m.toInt = (k : Int)) : own_r k / 1000 < 10000000000000 := by
  have q := own_i64 m
  unfold own_r
  split <;> omega
theorem own_500 {m : Int64} {k : Nat} (hm : m.toInt = (k : Int)) : (lcmpW (m % (1000 : Int64)) (500 : Int64)) < 0 ↔ ¬ 500 ≤ k % 1000 := by
  rw [lw_lt, Int64.lt_iff_toInt_lt, own_rem hm, show (500 : Int64).toInt = 500 from by decide]; omega
theorem own_1000 {m : Int64} {k : Nat} (hm : m.toInt = (k : Int)) : ((1000 : Int64) + (m % (1000 : Int64))).toInt = ((1000 + k % 1000 : Nat) : Int) := by
  have a := c_ladd 1000 (m % 1000)
  have r := own_i64 ((1000 : Int64) + (m % 1000))
  have q := own_rem hm
  have e : (1000 : Int64).toInt = 1000 := by decide
  rw [e] at a
  omega
theorem own_lat46 : Lat 46 := ⟨by decide, by decide⟩
theorem own_tfL (r : Nat) : ∀ c ∈ own_tf r, Lat c := fun c hc => by
  unfold own_tf at hc
  rw [List.mem_append, List.mem_append, List.mem_singleton] at hc
  rcases hc with (h | rfl) | h
  · exact own_dgLat _ _ h
  · exact own_lat46
  · exact own_f3L _ _ h
theorem own_tfN (r : Nat) : (own_tf r).length = own_len (r / 1000) + 4 := by
  unfold own_tf own_f3
  rw [List.length_append, List.length_append, own_dgL]; rfl
theorem own_tfD {r j : Nat} (h : j < own_len (r / 1000)) : (own_tf r).getD j 0 = own_dc (own_q (r / 1000) (own_len (r / 1000) - 1 - j) % 10) := by
  rw [← own_dgG h]
  unfold own_tf
  simp only [List.getD]
  rw [List.append_assoc, List.getElem?_append_left (by rw [own_dgL]; exact h)]
theorem own_tfE {r j : Nat} (hj : j < 4) : (own_tf r).getD (own_len (r / 1000) + j) 0 = ([(46 : Int32)] ++ own_f3 r).getD j 0 := by
  unfold own_tf
  simp only [List.getD]
  rw [List.append_assoc, List.getElem?_append_right (by rw [own_dgL]; omega), own_dgL, Nat.add_sub_cancel_left]
theorem own_qpow (n k : Nat) : own_q n k = n / 10 ^ k := by
  induction k with
  | zero => simp [own_q]
  | succ k ih => show own_q n k / 10 = _; rw [ih, Nat.div_div_eq_div_mul, Nat.pow_succ]
theorem own_chr {x : Int64} {d : Nat} (hx : x.toInt = (d : Int)) (hd : d < 10) : ((48 : Int64) + x).toInt32.toUInt32.toUInt16.toUInt32.toInt32 = own_dc d := by
  apply Int32.toInt_inj.mp
  rw [own_dcT hd]
  have a := c_ladd 48 x
  have e : (48 : Int64).toInt = 48 := by decide
  have r := own_i64 ((48 : Int64) + x)
  have b := c_l2i ((48 : Int64) + x)
  have r2 := rng32 ((48 : Int64) + x).toInt32
  have c := c_i2c ((48 : Int64) + x).toInt32
  rw [e] at a
  omega
theorem own_ldP {v p : Int64} {n P : Nat} (hv : v.toInt = (n : Int)) (hp : p.toInt = (P : Int)) (h1 : 1 ≤ P) : (v / p).toInt = ((n / P : Nat) : Int) := by
  have q := (c_ldiv v p P hp (by intro e; rw [e] at hp; have : (-1 : Int64).toInt = -1 := by decide
                                 omega)).1 (by omega)
  rw [q, hv]; exact (Int.natCast_ediv n P).symm
theorem own_lrP {v p : Int64} {n P : Nat} (hv : v.toInt = (n : Int)) (hp : p.toInt = (P : Int)) : (v % p).toInt = ((n % P : Nat) : Int) := by
  have q := (c_lrem v p P hp).1 (by omega)
  rw [lrem_mod] at q
  rw [q, hv]; exact (Int.natCast_emod n P).symm
theorem own_dgc {v p : Int64} {n P k : Nat} (hv : v.toInt = (n : Int)) (hp : p.toInt = (P : Int)) (hP : P = 10 ^ k) : ((48 : Int64) + ((v / p) % (10 : Int64))).toInt32.toUInt32.toUInt16.toUInt32.toInt32 = own_dc (own_q n k % 10) := by
  have h1 : 1 ≤ P := by rw [hP]; exact Nat.pos_of_ne_zero (by simp)
  have a := own_lrP (own_ldP hv hp h1) (show (10 : Int64).toInt = ((10 : Nat) : Int) from by decide)
  rw [hP, ← own_qpow] at a
  exact own_chr a (Nat.mod_lt _ (by decide))
theorem own_rl {m : Int64} {k : Nat} (hm : m.toInt = (k : Int)) : (((m / (2 : Int64)) + (250 : Int64)) / (500 : Int64)).toInt = ((own_r k : Nat) : Int) := by
  have a := own_ldP hm (show (2 : Int64).toInt = ((2 : Nat) : Int) from by decide) (by decide)
  have q := own_i64 m
  have b := c_ladd (m / 2) 250
  have r := own_i64 ((m / 2) + 250)
  have e : (250 : Int64).toInt = 250 := by decide
  rw [e, a] at b
  have c : ((m / 2) + 250).toInt = ((k / 2 + 250 : Nat) : Int) := by omega
  rw [own_ldP c (show (500 : Int64).toInt = ((500 : Nat) : Int) from by decide) (by decide)]
  unfold own_r
  congr 1
  split <;> omega
def own_b (p n : Nat) : Int32 := if p ≤ n then 1 else 0
theorem own_bO (p n : Nat) : own_b p n = Int32.ofNat (if p ≤ n then 1 else 0) := by unfold own_b; split <;> rfl
theorem own_bC {v p : Int64} {n P : Nat} (hv : v.toInt = (n : Int)) (hp : p.toInt = (P : Int)) : (lcmpW v p) < 0 ↔ ¬ P ≤ n := by
  rw [lw_lt, Int64.lt_iff_toInt_lt, hv, hp]; omega
theorem own_dsum (n : Nat) : ((((((((((((((1 : Int32) + own_b 10 n) + own_b 100 n) + own_b 1000 n) + own_b 10000 n) + own_b 100000 n) + own_b 1000000 n) + own_b 10000000 n) + own_b 100000000 n) + own_b 1000000000 n) + own_b 10000000000 n) + own_b 100000000000 n) + own_b 1000000000000 n)) = Int32.ofNat (own_len n) := by
  simp only [own_bO]
  rw [show (1 : Int32) = Int32.ofNat 1 from rfl]
  simp only [own_ofA]
  rfl
theorem own_ix {L j : Nat} {z : Int32} (hz : z.toInt = (j : Int)) (hL : L ≤ 13) (h1 : 1 ≤ j) (hj : j ≤ 4) : (Int32.ofNat (L + 4) - z) = Int32.ofNat (L + (4 - j)) := by
  apply Int32.toInt_inj.mp
  have l1 : (Int32.ofNat (L + 4)).toInt = (L + 4 : Nat) := Int32.toInt_ofNat_of_lt (by omega)
  have l2 : (Int32.ofNat (L + (4 - j))).toInt = (L + (4 - j) : Nat) := Int32.toInt_ofNat_of_lt (by omega)
  have a := c_isub (Int32.ofNat (L + 4)) z
  have r := rng32 (Int32.ofNat (L + 4) - z)
  rw [l1, hz] at a
  rw [l2]; omega
theorem own_iy {L i : Nat} {z : Int32} (hz : z.toInt = (i : Int)) (hL : L ≤ 13) (h1 : i < L) : ((Int32.ofNat L - (1 : Int32)) - z) = Int32.ofNat (L - 1 - i) := by
  apply Int32.toInt_inj.mp
  have l1 : (Int32.ofNat L).toInt = (L : Nat) := Int32.toInt_ofNat_of_lt (by omega)
  have l2 : (Int32.ofNat (L - 1 - i)).toInt = (L - 1 - i : Nat) := Int32.toInt_ofNat_of_lt (by omega)
  have e1 : (1 : Int32).toInt = 1 := by decide
  have a0 := c_isub (Int32.ofNat L) 1
  have r0 := rng32 (Int32.ofNat L - 1)
  have a := c_isub (Int32.ofNat L - 1) z
  have r := rng32 (Int32.ofNat L - 1 - z)
  rw [l1, e1] at a0
  rw [hz] at a
  rw [l2]; omega
theorem own_ltO {L i : Nat} {z : Int32} (hz : z.toInt = (i : Int)) (hL : L ≤ 1000) : z < Int32.ofNat L ↔ i < L := by
  have l1 : (Int32.ofNat L).toInt = (L : Nat) := Int32.toInt_ofNat_of_lt (by omega)
  rw [Int32.lt_iff_toInt_lt, l1, hz]; omega
theorem own_ltO' {L i : Nat} (h : i < L) (hL : L ≤ 1000) : Int32.ofNat i < Int32.ofNat L := (own_ltO (Int32.toInt_ofNat_of_lt (by omega)) hL).mpr h
theorem own_m0 (x : Int64) : 0 ≤ (x &&& (9223372036854775807 : Int64)).toInt := (c_andSL x 9223372036854775807).2.2 (by decide)
theorem own_m1 (x : Int64) : 0 ≤ (x &&& (16777215 : Int64)).toInt := (c_andSL x 16777215).2.2 (by decide)
theorem own_bump (k : Int32) : 0 ≤ (k &&& (1 : Int32)).toInt64.toInt ∧ (k &&& (1 : Int32)).toInt64.toInt ≤ 1 := by
  have h := c_and k 1 (by decide)
  have e : (1 : Int32).toInt = 1 := by decide
  rw [e] at h
  rw [c_i2l]; exact h
theorem own_add0 {f g : Int} (a : (f - g) % 18446744073709551616 = 0) (r : -9223372036854775808 ≤ f ∧ f < 9223372036854775808) (h0 : 0 ≤ g) (h1 : g < 9223372036854775808) : 0 ≤ f := by omega
theorem own_m2 (x : Int64) (k : Int32) : 0 ≤ (((((x &&& (9223372036854775807 : Int64)) / (1000 : Int64)) * (1000 : Int64)) + (499 : Int64)) + (k &&& (1 : Int32)).toInt64).toInt := by
  have h := own_m0 x
  have b := own_bump k
  generalize (x &&& (9223372036854775807 : Int64)) = w at *
  generalize (k &&& (1 : Int32)).toInt64 = z at *
  have r := own_i64 w
  have d := (c_ldiv w 1000 1000 (by decide) (by decide)).1 h
  have m := c_lmul (w / 1000) 1000
  have r1 := own_i64 ((w / 1000) * 1000)
  have a := c_ladd ((w / 1000) * 1000) 499
  have r2 := own_i64 ((w / 1000) * 1000 + 499)
  have a2 := c_ladd ((w / 1000) * 1000 + 499) z
  have r3 := own_i64 ((w / 1000) * 1000 + 499 + z)
  have e : (1000 : Int64).toInt = 1000 := by decide
  have e2 : (499 : Int64).toInt = 499 := by decide
  rw [e] at m
  rw [e2] at a
  have p1 : ((w / 1000) * 1000).toInt = w.toInt / 1000 * 1000 := by omega
  clear m r1
  have p2 : ((w / 1000) * 1000 + 499).toInt = w.toInt / 1000 * 1000 + 499 := by omega
  clear a r2
  have hc : 0 ≤ w.toInt / 1000 ∧ w.toInt / 1000 ≤ 9223372036854775 := by omega
  exact own_add0 a2 r3 (by omega) (by omega)
theorem own_m3 (x : Int64) (k : Int32) : 0 ≤ (((((x &&& (65535 : Int64))) * (1000 : Int64)) + (499 : Int64)) + (k &&& (1 : Int32)).toInt64).toInt := by
  have h := c_maskL x 65535 16 (by decide) (by decide)
  have b := own_bump k
  generalize (x &&& (65535 : Int64)) = w at *
  generalize (k &&& (1 : Int32)).toInt64 = z at *
  have m := c_lmul w 1000
  have r1 := own_i64 (w * 1000)
  have a := c_ladd (w * 1000) 499
  have r2 := own_i64 (w * 1000 + 499)
  have a2 := c_ladd (w * 1000 + 499) z
  have r3 := own_i64 (w * 1000 + 499 + z)
  have e : (1000 : Int64).toInt = 1000 := by decide
  have e2 : (499 : Int64).toInt = 499 := by decide
  rw [e] at m
  rw [e2] at a
  have p1 : (w * 1000).toInt = x.toInt % 65536 * 1000 := by omega
  clear m r1
  have p2 : (w * 1000 + 499).toInt = x.toInt % 65536 * 1000 + 499 := by omega
  clear a r2
  exact own_add0 a2 r3 (by omega) (by omega)
theorem own_nat {x : Int64} (h : 0 ≤ x.toInt) : x.toInt = ((x.toInt.toNat : Nat) : Int) := by omega
theorem own_pw0 {p : Int64} {P k : Nat} (hp : p.toInt = (P : Int)) (hP : P = 10 ^ k) : p ≠ 0 := fun e => by
  rw [e, show (0 : Int64).toInt = 0 from by decide] at hp
  have h1 : 1 ≤ P := by rw [hP]; exact Nat.pos_of_ne_zero (by simp)
  omega
theorem own_table {a0 : Array Value} {s : State} {C n : String} {W : Term} {f : Nat → Int32} (hf : Fit s) (hi : (Cond.initializedFor C n "[B").before a0 s = true) (h2 : (Cond.exactly (.static C n "[B") "[B").before a0 s = true) (h3 : (Cond.eq (.length (.static C n "[B")) (.int 100)).before a0 s = true) (h4 : (Cond.all (.static C n "[B") (.eq (.elem (.static C n "[B") (.index 0)) W)).before a0 s = true)
    (hW : ∀ i, i < 100 → W.eval a0 s none [i] s = some (.int (f i))) (harr : (Cond.arrayClass .byte).before a0 s = true) : ∃ (d : Addr) (k : ClassId), Sta s s.heap C n "[B" (.ref d) ∧ Arv s s.heap d k .byte 100 ((List.range 100).map fun r => Value.int (f r)) (.int 0) := by
  obtain ⟨d, cB, D, kB, hev, hfcB, hcell, hkB, hstat, hcls, -⟩ := Cond.exactly_spec h2
  have hl := Cond.eq_int h3 rfl
  obtain ⟨d', D', hev', harrAt, -⟩ := Term.length_spec hl
  cases hev.symm.trans hev'
  obtain ⟨hcell', hknA, -, -⟩ := State.arrayAt?_spec harrAt
  cases hcell.symm.trans hcell'
  have h31 := Jvm.Free.SBG.length_lt hev harrAt hl
  obtain ⟨cB', kB', comp, hnameB, hkB', hkindB⟩ := Cond.arrayClass_spec harr
  have eBA : ("[" ++ FieldType.toString .byte) = "[B" := by decide
  rw [eBA] at hnameB
  cases hfcB.symm.trans hnameB
  cases hkB.symm.trans hkB'
  have hA : Arr s s.heap d D .byte := ⟨hcell, ⟨fun k e => (by rw [e] at hstat; cases hstat), kB, by rw [hcls]; exact hkB, comp, hkindB⟩, hknA⟩
  have hsz : D.slots.size = 100 := by
    have e : (Term.length (.static C n "[B")).eval a0 s none [] s = some (.int (Int32.ofNat D.slots.size)) := by
      generalize Term.static C n "[B" = tt at hev
      simp [Term.eval, hev, harrAt, h31]
    have h2 : Int32.ofNat D.slots.size = 100 := by simpa using Option.some.inj (e.symm.trans hl)
    have := congrArg Int32.toInt h2
    rw [Int32.toInt_ofNat_small h31] at this
    have e100 : (100 : Int32).toInt = 100 := by decide
    omega
  have el : ∀ i, i < 100 → D.slots[i]? = some (.int (f i)) := fun i hi' => by
    have x := Cond.all_elim hev harrAt (by simpa [Cond.before, Cond.holds] using h4) i (by omega)
    have eL : (Term.elem (.static C n "[B") (.index 0)).eval a0 s none [i] s = D.slots[i]? := Jvm.Free.SBG.elem_at (ix := .index 0) hev harrAt (by omega) h31 rfl
    simp only [Cond.value, eL, hW i hi'] at x
    cases hq : D.slots[i]? with
    | none => simp [hq] at x
    | some v => cases v <;> simp [hq] at x; rw [x]
  refine ⟨d, D.cls, Sta.start hev (Or.inl hi), D, hA, rfl, by rw [hsz]; decide, by decide, fun i hi' => ?_, fun i hi' => ?_⟩
  · rw [own_tabG f (by omega), el i (by omega)]
  · rw [own_tabG f (by omega)]
    have e1 : (Nat.toInt32 i).toNatClampNeg = i := by simp only [Int32.toNatClampNeg, len_toInt (show i < 2 ^ 31 by omega)]; rfl
    exact elem_fits (j := Nat.toInt32 i) hf hA (idx_in hi' h31) (by rw [e1]; exact el i (by omega))
theorem own_tabO : ∀ i : Fin 100, (48 : Int32) + (Nat.toInt32 i.val % 10) = own_dc (i.val % 10) ∧ (48 : Int32) + Nat.toInt32 i.val / 10 = own_dc (i.val / 10) := by decide +kernel
theorem own_W1 {a0 : Array Value} {s : State} (i : Nat) (h : i < 100) : (Term.add (.int 48) (.rem (.index 0) (.int 10))).eval a0 s none [i] s = some (.int (own_dc (i % 10))) := by
  rw [← (own_tabO ⟨i, h⟩).1]; simp [Term.eval]
theorem own_W2 {a0 : Array Value} {s : State} (i : Nat) (h : i < 100) : (Term.add (.int 48) (.div (.index 0) (.int 10))).eval a0 s none [i] s = some (.int (own_dc (i / 10))) := by
  rw [← (own_tabO ⟨i, h⟩).2]; simp [Term.eval]
theorem own_joinJ {p : Program} {e : Env} {below : List Frame} {En : Outcome → State → List Loc → Prop} {Q : Option Value → Heap → List Loc → Prop} {A : State} {B : Int64 → State} {P : Int64 → Prop} (hB : ∀ z, P z → Goes p e below En Q (B z)) (k : (∀ z, P z → Goes p e below En Q (B z)) → Goes p e below En Q A) : Goes p e below En Q A := k hB
set_option maxRecDepth 65536
set_option maxHeartbeats 40000000
abbrev kc0 := jdk_29_method_65_code
abbrev kc1 := jdk_29_method_69_code
abbrev kc2 := jdk_35_method_12_code
abbrev kc3 := jdk_35_method_14_code
abbrev kc4 := jdk_35_method_15_code
abbrev kc5 := jdk_41_method_11_code
abbrev kc6 := jdk_41_method_12_code
abbrev kc7 := jdk_42_method_147_code
abbrev kc8 := jdk_42_method_150_code
abbrev kc9 := jdk_42_method_151_code
abbrev kc10 := jdk_42_method_152_code
abbrev kc11 := jdk_42_method_154_code
abbrev kc12 := jdk_42_method_155_code
abbrev kc13 := jdk_42_method_158_code
abbrev kc14 := jdk_42_method_53_code
abbrev kc15 := jdk_42_method_54_code
abbrev kc16 := jdk_42_method_56_code
abbrev kc17 := jdk_42_method_91_code
abbrev kc18 := jdk_42_method_92_code
abbrev kc19 := jdk_43_method_2_code
abbrev kc20 := jdk_43_method_47_code
abbrev kc21 := jdk_48_method_27_code
abbrev kc22 := jdk_65_method_121_code
abbrev kc23 := jdk_65_method_131_code
abbrev kc24 := jdk_65_method_132_code
abbrev kc25 := jdk_65_method_133_code
abbrev kc26 := jdk_67_method_16_code
abbrev kc27 := jdk_67_method_1_code
abbrev kc28 := jdk_67_method_42_code
abbrev kc29 := jdk_67_method_7_code
abbrev kc30 := jdk_67_method_93_code
abbrev kc31 := jdk_68_method_10_code
abbrev kc32 := jdk_68_method_22_code
abbrev kc33 := jdk_68_method_2_code
abbrev kc34 := jdk_68_method_33_code
abbrev kc35 := jdk_68_method_64_code
abbrev kc36 := jdk_68_method_68_code
abbrev kc37 := jdk_68_method_6_code
abbrev kc38 := jdk_68_method_71_code
abbrev kc39 := jdk_68_method_73_code
abbrev kc40 := jdk_68_method_9_code
abbrev kc41 := prog_27_method_5_code
theorem d0_0 : DK kc10 0 (.getstatic 38) 3 := by decide +kernel
theorem d0_3 : DK kc10 3 (.ifCond .eq 10) 3 := by decide +kernel
theorem d0_6 : DK kc10 6 (.aload_n 0) 1 := by decide +kernel
theorem d0_7 : DK kc10 7 (.getfield 15) 3 := by decide +kernel
theorem d0_10 : DK kc10 10 (.goto 4) 3 := by decide +kernel
theorem d0_14 : DK kc10 14 .ireturn 1 := by decide +kernel
theorem own_pn0 : plainName "java/lang/String" = true := by first | (simp [plainName, overriddenIn]; done) | decide +kernel
theorem own_ef_rs_coder0 (m : MethodId) (x0 : Addr) : entryFrame m #[(.ref x0)] 1 = mkF m 0 #[vr x0] [] := by first | (simp [entryFrame, mkF, argsToLocals, Value.category]; done) | rfl
def Q_rs_coder0 (Z : State) (a : Addr) (cz : Int32) (h0 : Heap) (n0 : Nat) (v : Option Value) (h : Heap) (L : List Loc) : Prop := v = some (.int 0) ∧ Fr n0 L ∧ h = h0
theorem rs_coder0 (l : Launch) (Z : State) (a0 : Array Value) (hw : HW a0 Z) (ws : List Jvm.Cond) (a : Addr) (cz : Int32) (h0 : Heap) (n0 : Nat) (Z0 : n0 ≤ h0.size) (F_coder_a : Fld Z h0 a "java/lang/String" "coder" "B" (.int 0)) (sgC : Sta Z h0 "java/lang/String" "COMPACT_STRINGS" "Z" (.int cz)) (hcz : ¬ (cz = 0)) :
  Met l Z mN0 jdk_42_method_152_code 1 (some .byte) ({ frames := 0, cells := 0, slots := 0, locals := 0 } : Room) ws #[(.ref a)] h0 (Q_rs_coder0 Z a cz h0 n0) := by
 refine own_met (plainFor_of_name own_pn0) ?_
 intro p e s m below meth c s₁ hret hx hby hlk hml hown hnm X0 e0 hZ hh
 have N0 := Fr.nil n0
 refine Gz (castTop (own_ef_rs_coder0 m a)) ?_
 show Goes _ _ _ _ _ (fT s₁ m 0 #[vr a] [])
 obtain ⟨T1, X1, e1, st1⟩ := getS2 X0 hx hZ hown (host := "") (Or.inl (gw hw 90 rfl)) Via.refl e0 sgC (g := (mkF m 0 #[vr a] [])) rfl (hb hby d0_0)
 refine Gs st1 ?_
 show Goes _ _ _ _ _ (fT T1 m 3 #[vr a] [(.int cz)])
 refine gu X1 hx hby d0_3 ((if0 _ _).trans (feq hcz).1) ?_
 refine gA X1 hx hby d0_6 rfl rfl rfl ?_
 obtain ⟨T2, X2, e2, st2⟩ := getF X1 hx hZ hown (host := "") (Or.inl (gw hw 91 rfl)) Via.refl e1 F_coder_a (g := (mkF m 7 #[vr a] [(.ref a)])) rfl rfl (hb hby d0_7)
 refine Gs st2 ?_
 show Goes _ _ _ _ _ (fT T2 m 10 #[vr a] [(.int 0)])
 refine gG X2 hx hby d0_10 10 14 ?_
 refine Goes.ret X2 (some (.int 0)) (fun h => by rw [hret] at h; cases h) hlk (by decide) (by decide) ?_ (fun fs hr => ?_)
 ·exact ⟨rfl, N0, e2⟩
 ·exact own_retN X2 hx (t := .byte) hret (by simp) rfl (hb hby d0_14) hr
theorem d1_0 : DK kc11 0 (.getstatic 38) 3 := by decide +kernel
theorem d1_3 : DK kc11 3 (.ifCond .eq 14) 3 := by decide +kernel
theorem d1_6 : DK kc11 6 (.aload_n 0) 1 := by decide +kernel
theorem d1_7 : DK kc11 7 (.getfield 15) 3 := by decide +kernel
theorem d1_10 : DK kc11 10 (.ifCond .ne 7) 3 := by decide +kernel
theorem d1_13 : DK kc11 13 (.iconst 1) 1 := by decide +kernel
theorem d1_14 : DK kc11 14 (.goto 4) 3 := by decide +kernel
theorem d1_18 : DK kc11 18 .ireturn 1 := by decide +kernel
theorem own_ef_rs_isl0 (m : MethodId) (x0 : Addr) : entryFrame m #[(.ref x0)] 1 = mkF m 0 #[vr x0] [] := by first | (simp [entryFrame, mkF, argsToLocals, Value.category]; done) | rfl
def Q_rs_isl0 (Z : State) (a : Addr) (cz : Int32) (h0 : Heap) (n0 : Nat) (v : Option Value) (h : Heap) (L : List Loc) : Prop := v = some (.int 1) ∧ Fr n0 L ∧ h = h0
theorem rs_isl0 (l : Launch) (Z : State) (a0 : Array Value) (hw : HW a0 Z) (ws : List Jvm.Cond) (a : Addr) (cz : Int32) (h0 : Heap) (n0 : Nat) (Z0 : n0 ≤ h0.size) (F_coder_a : Fld Z h0 a "java/lang/String" "coder" "B" (.int 0)) (sgC : Sta Z h0 "java/lang/String" "COMPACT_STRINGS" "Z" (.int cz)) (hcz : ¬ (cz = 0)) :
  Met l Z mN1 jdk_42_method_154_code 1 (some .boolean) ({ frames := 0, cells := 0, slots := 0, locals := 0 } : Room) ws #[(.ref a)] h0 (Q_rs_isl0 Z a cz h0 n0) := by
 refine own_met (plainFor_of_name own_pn0) ?_
 intro p e s m below meth c s₁ hret hx hby hlk hml hown hnm X0 e0 hZ hh
 have N0 := Fr.nil n0
 refine Gz (castTop (own_ef_rs_isl0 m a)) ?_
 show Goes _ _ _ _ _ (fT s₁ m 0 #[vr a] [])
 obtain ⟨T1, X1, e1, st1⟩ := getS2 X0 hx hZ hown (host := "") (Or.inl (gw hw 90 rfl)) Via.refl e0 sgC (g := (mkF m 0 #[vr a] [])) rfl (hb hby d1_0)
 refine Gs st1 ?_
 show Goes _ _ _ _ _ (fT T1 m 3 #[vr a] [(.int cz)])
 refine gu X1 hx hby d1_3 ((if0 _ _).trans (feq hcz).1) ?_
 refine gA X1 hx hby d1_6 rfl rfl rfl ?_
 obtain ⟨T2, X2, e2, st2⟩ := getF X1 hx hZ hown (host := "") (Or.inl (gw hw 91 rfl)) Via.refl e1 F_coder_a (g := (mkF m 7 #[vr a] [(.ref a)])) rfl rfl (hb hby d1_7)
 refine Gs st2 ?_
 show Goes _ _ _ _ _ (fT T2 m 10 #[vr a] [(.int 0)])
 refine gu X2 hx hby d1_10 ((if0 _ _).trans (teq (by decide : ((0 : Int32) = (0 : Int32)))).2) ?_
 refine gC X2 hx hby d1_13 ?_
 refine gG X2 hx hby d1_14 14 18 ?_
 refine Goes.ret X2 (some (.int 1)) (fun h => by rw [hret] at h; cases h) hlk (by decide) (by decide) ?_ (fun fs hr => ?_)
 ·exact ⟨rfl, N0, e2⟩
 ·exact own_retN X2 hx (t := .boolean) hret (by simp) rfl (hb hby d1_18) hr
theorem d2_0 : DK kc15 0 (.aload_n 0) 1 := by decide +kernel
theorem d2_1 : DK kc15 1 (.getfield 9) 3 := by decide +kernel
theorem d2_4 : DK kc15 4 .arraylength 1 := by decide +kernel
theorem d2_5 : DK kc15 5 (.aload_n 0) 1 := by decide +kernel
theorem d2_6 : DK kc15 6 (.invokevirtual 335) 3 := by decide +kernel
theorem own_pd0 : parseMethodDescriptor "()B" = some ⟨[], some .byte⟩ := by decide +kernel
theorem d2_9 : DK kc15 9 .ishr 1 := by decide +kernel
theorem d2_10 : DK kc15 10 .ireturn 1 := by decide +kernel
theorem own_ef_rs_len (m : MethodId) (x0 : Addr) : entryFrame m #[(.ref x0)] 1 = mkF m 0 #[vr x0] [] := by first | (simp [entryFrame, mkF, argsToLocals, Value.category]; done) | rfl
def Q_rs_len (Z : State) (a : Addr) (xs : List Int32) (cz : Int32) (h0 : Heap) (n0 : Nat) (v : Option Value) (h : Heap) (L : List Loc) : Prop := v = some (.int (Int32.ofNat xs.length)) ∧ Fr n0 L ∧ h = h0
theorem rs_len (l : Launch) (Z : State) (a0 : Array Value) (hw : HW a0 Z) (ws : List Jvm.Cond) (a : Addr) (xs : List Int32) (cz : Int32) (h0 : Heap) (n0 : Nat) (Z0 : n0 ≤ h0.size) (T_a : StrOf Z h0 a xs) (sgC : Sta Z h0 "java/lang/String" "COMPACT_STRINGS" "Z" (.int cz)) (hcz : ¬ (cz = 0)) :
  Met l Z mN2 jdk_42_method_54_code 1 (some .int) ({ frames := 1, cells := 0, slots := 0, locals := 13 } : Room) ws #[(.ref a)] h0 (Q_rs_len Z a xs cz h0 n0) := by
 refine own_met (plainFor_of_name own_pn0) ?_
 intro p e s m below meth c s₁ hret hx hby hlk hml hown hnm X0 e0 hZ hh
 have N0 := Fr.nil n0
 refine Gz (castTop (own_ef_rs_len m a)) ?_
 show Goes _ _ _ _ _ (fT s₁ m 0 #[vr a] [])
 obtain ⟨vb, kb, A_a, F_value_a, hrep, hlen⟩ := id T_a
 rcases hrep with ⟨F_coder_a, hall, V_vb⟩ | hf
 ·show Goes _ _ _ _ _ (fT s₁ m 0 #[vr a] [])
  refine gA X0 hx hby d2_0 rfl rfl rfl ?_
  obtain ⟨T1, X1, e1, st1⟩ := getF X0 hx hZ hown (host := "") (Or.inl (gw hw 84 rfl)) Via.refl e0 F_value_a (g := (mkF m 1 #[vr a] [(.ref a)])) rfl rfl (hb hby d2_1)
  refine Gs st1 ?_
  show Goes _ _ _ _ _ (fT T1 m 4 #[vr a] [(.ref vb)])
  obtain ⟨cl2, Ar2, -, S2, N2z, -, -⟩ := id V_vb
  refine Gs (fun _ tk => X1.arraylength hx (by rw [e1]; exact Ar2.1) (State.isArrayOf_alike hZ.alike Ar2.2.1) (g := (mkF m 4 #[vr a] [(.ref vb)])) rfl rfl (hb hby d2_4) _ tk) ?_
  rw [len_of S2 N2z]
  show Goes _ _ _ _ _ (fT T1 m 5 #[vr a] [(.int (Int32.ofNat xs.length))])
  refine gA X1 hx hby d2_5 rfl rfl rfl ?_
  refine cV X1 hx hZ hw hown hby hml e1 mN0 85 86 88 87 89 25 1 (rs_coder0 l Z a0 hw [] a cz h0 n0 Z0 F_coder_a sgC hcz) T_a.exa d2_6 (lenOf own_pd0 rfl) N0 (fun T3 L3 X3 e3 N3 => ?_)
  show Goes _ _ _ _ _ (fT T3 m 9 #[vr a] [(.int 0), (.int (Int32.ofNat xs.length))])
  refine Gz (XS.ishr X3.here hx rfl (hb hby d2_9) rfl) ?_
  show Goes _ _ _ _ _ (fT T3 m 10 #[vr a] [(.int ((Int32.ofNat xs.length) >>> ((0 : Int32) &&& 31)))])
  refine Goes.ret X3 (some (.int ((Int32.ofNat xs.length) >>> ((0 : Int32) &&& 31)))) (fun h => by rw [hret] at h; cases h) hlk (by decide) (by decide) ?_ (fun fs hr => ?_)
  ·exact ⟨(by rw [own_shr0]), N3, e3⟩
  ·exact retI X3 hx hret (hb hby d2_10) hr
 ·exact hf.elim
theorem d3_0 : DK kc5 0 (.iload_n 0) 1 := by decide +kernel
theorem d3_1 : DK kc5 1 (.ifCond .lt 8) 3 := by decide +kernel
theorem d3_4 : DK kc5 4 (.iload_n 0) 1 := by decide +kernel
theorem d3_5 : DK kc5 5 (.iload_n 1) 1 := by decide +kernel
theorem d3_6 : DK kc5 6 (.if_icmp .lt 10) 3 := by decide +kernel
theorem d3_16 : DK kc5 16 (.iload_n 0) 1 := by decide +kernel
theorem d3_17 : DK kc5 17 .ireturn 1 := by decide +kernel
theorem own_pn1 : plainName "jdk/internal/util/Preconditions" = true := by first | (simp [plainName, overriddenIn]; done) | decide +kernel
theorem own_ef_rs_pci (m : MethodId) (x0 : Int32) (x1 : Int32) (x2 : Value) (hx2 : x2.isRef = true) : entryFrame m #[(.int x0), (.int x1), x2] 3 = mkF m 0 #[vi x0, vi x1, .val x2] [] := by first | (simp [entryFrame, mkF, argsToLocals, Value.category]; done) | rfl | (rcases Jvm.Free.XT.refc hx2 with rfl | ⟨r, rfl⟩ <;> rfl)
def Q_rs_pci (Z : State) (j : Int32) (z : Int32) (fo : Value) (h0 : Heap) (n0 : Nat) (v : Option Value) (h : Heap) (L : List Loc) : Prop := v = some (.int j) ∧ Fr n0 L ∧ h = h0
theorem rs_pci (l : Launch) (Z : State) (a0 : Array Value) (hw : HW a0 Z) (ws : List Jvm.Cond) (j : Int32) (z : Int32) (fo : Value) (h0 : Heap) (n0 : Nat) (Z0 : n0 ≤ h0.size) (hj0 : ¬ (j < 0)) (hj1 : j < z) (r_fo : fo.isRef = true) :
  Met l Z mN3 jdk_41_method_11_code 3 (some .int) ({ frames := 0, cells := 0, slots := 0, locals := 0 } : Room) ws #[(.int j), (.int z), fo] h0 (Q_rs_pci Z j z fo h0 n0) := by
 refine own_met (plainFor_of_name own_pn1) ?_
 intro p e s m below meth c s₁ hret hx hby hlk hml hown hnm X0 e0 hZ hh
 have N0 := Fr.nil n0
 refine Gz (castTop (own_ef_rs_pci m j z fo r_fo)) ?_
 show Goes _ _ _ _ _ (fT s₁ m 0 #[vi j, vi z, .val fo] [])
 refine gN X0 hx hby d3_0 rfl rfl ?_
 refine gu X0 hx hby d3_1 ((if0 _ _).trans (flt hj0).1) ?_
 refine gN X0 hx hby d3_4 rfl rfl ?_
 refine gN X0 hx hby d3_5 rfl rfl ?_
 refine gY X0 hx hby d3_6 6 16 (tlt hj1).1 ?_
 refine gN X0 hx hby d3_16 rfl rfl ?_
 show Goes _ _ _ _ _ (fT s₁ m 17 #[vi j, vi z, .val fo] [(.int j)])
 refine Goes.ret X0 (some (.int j)) (fun h => by rw [hret] at h; cases h) hlk (by decide) (by decide) ?_ (fun fs hr => ?_)
 ·exact ⟨rfl, N0, e0⟩
 ·exact retI X0 hx hret (hb hby d3_17) hr
theorem d4_0 : DK kc12 0 (.iload_n 0) 1 := by decide +kernel
theorem d4_1 : DK kc12 1 (.iload_n 1) 1 := by decide +kernel
theorem d4_2 : DK kc12 2 (.getstatic 1053) 3 := by decide +kernel
theorem d4_5 : DK kc12 5 (.invokestatic 1059) 3 := by decide +kernel
theorem own_pd1 : parseMethodDescriptor "(IILjava/util/function/BiFunction;)I" = some ⟨[.int, .int, (.object "java/util/function/BiFunction")], some .int⟩ := by decide +kernel
theorem d4_8 : DK kc12 8 .pop 1 := by decide +kernel
theorem d4_9 : DK kc12 9 .return_ 1 := by decide +kernel
theorem own_ef_rs_sci (m : MethodId) (x0 : Int32) (x1 : Int32) : entryFrame m #[(.int x0), (.int x1)] 2 = mkF m 0 #[vi x0, vi x1] [] := by first | (simp [entryFrame, mkF, argsToLocals, Value.category]; done) | rfl
def Q_rs_sci (Z : State) (j : Int32) (z : Int32) (fo : Value) (h0 : Heap) (n0 : Nat) (v : Option Value) (h : Heap) (L : List Loc) : Prop := v = none ∧ Fr n0 L ∧ h = h0
theorem rs_sci (l : Launch) (Z : State) (a0 : Array Value) (hw : HW a0 Z) (ws : List Jvm.Cond) (j : Int32) (z : Int32) (fo : Value) (h0 : Heap) (n0 : Nat) (Z0 : n0 ≤ h0.size) (hj0 : ¬ (j < 0)) (hj1 : j < z) (sgF : Sta Z h0 "jdk/internal/util/Preconditions" "SIOOBE_FORMATTER" "Ljava/util/function/BiFunction;" fo) (r_fo : fo.isRef = true) :
  Met l Z mN4 jdk_42_method_155_code 2 none ({ frames := 1, cells := 0, slots := 0, locals := 14 } : Room) ws #[(.int j), (.int z)] h0 (Q_rs_sci Z j z fo h0 n0) := by
 refine own_met (plainFor_of_name own_pn0) ?_
 intro p e s m below meth c s₁ hret hx hby hlk hml hown hnm X0 e0 hZ hh
 have N0 := Fr.nil n0
 refine Gz (castTop (own_ef_rs_sci m j z)) ?_
 show Goes _ _ _ _ _ (fT s₁ m 0 #[vi j, vi z] [])
 refine gN X0 hx hby d4_0 rfl rfl ?_
 refine gN X0 hx hby d4_1 rfl rfl ?_
 obtain ⟨T1, X1, e1, st1⟩ := getS2 X0 hx hZ hown (host := "") (Or.inl (gw hw 140 rfl)) Via.refl e0 sgF (g := (mkF m 2 #[vi j, vi z] [(.int z), (.int j)])) rfl (hb hby d4_2)
 refine Gs st1 ?_
 show Goes _ _ _ _ _ (fT T1 m 5 #[vi j, vi z] [fo, (.int z), (.int j)])
 refine cS X1 hx hZ hw hown hby hml e1 mN3 224 225 226 141 0 (rs_pci l Z a0 hw [] j z fo h0 n0 Z0 hj0 hj1 r_fo) d4_5 (lenOf own_pd1 rfl) N0 (fun T2 L2 X2 e2 N2 => ?_)
 show Goes _ _ _ _ _ (fT T2 m 8 #[vi j, vi z] [(.int j)])
 refine Gz (XS.pop X2.here hx rfl (hb hby d4_8) rfl rfl) ?_
 refine Goes.ret X2 none (fun _ => rfl) hlk (by decide) (by decide) ?_ (fun fs hr => ?_)
 ·exact ⟨rfl, N2, e2⟩
 ·exact X2.returnOut hx hret (hb hby d4_9) hr
theorem d5_0 : DK kc19 0 (.iload_n 1) 1 := by decide +kernel
theorem d5_1 : DK kc19 1 (.aload_n 0) 1 := by decide +kernel
theorem d5_2 : DK kc19 2 .arraylength 1 := by decide +kernel
theorem d5_3 : DK kc19 3 (.invokestatic 9) 3 := by decide +kernel
theorem own_pd2 : parseMethodDescriptor "(II)V" = some ⟨[.int, .int], none⟩ := by decide +kernel
theorem d5_6 : DK kc19 6 (.aload_n 0) 1 := by decide +kernel
theorem d5_7 : DK kc19 7 (.iload_n 1) 1 := by decide +kernel
theorem d5_8 : DK kc19 8 .baload 1 := by decide +kernel
theorem d5_9 : DK kc19 9 (.sipush 255) 3 := by decide +kernel
theorem d5_12 : DK kc19 12 .iand 1 := by decide +kernel
theorem d5_13 : DK kc19 13 .i2c 1 := by decide +kernel
theorem d5_14 : DK kc19 14 .ireturn 1 := by decide +kernel
theorem own_pn2 : plainName "java/lang/StringLatin1" = true := by first | (simp [plainName, overriddenIn]; done) | decide +kernel
theorem own_ef_rs_l1c (m : MethodId) (x0 : Addr) (x1 : Int32) : entryFrame m #[(.ref x0), (.int x1)] 2 = mkF m 0 #[vr x0, vi x1] [] := by first | (simp [entryFrame, mkF, argsToLocals, Value.category]; done) | rfl
def Q_rs_l1c (Z : State) (b : Addr) (kb : ClassId) (xs : List Int32) (j : Int32) (r : Int32) (fo : Value) (h0 : Heap) (n0 : Nat) (v : Option Value) (h : Heap) (L : List Loc) : Prop := v = some (.int r) ∧ Fr n0 L ∧ h = h0
theorem rs_l1c (l : Launch) (Z : State) (a0 : Array Value) (hw : HW a0 Z) (ws : List Jvm.Cond) (b : Addr) (kb : ClassId) (xs : List Int32) (j : Int32) (r : Int32) (fo : Value) (h0 : Heap) (n0 : Nat) (Z0 : n0 ≤ h0.size) (V_b : Arv Z h0 b kb .byte (Int32.ofNat xs.length) (latV xs) (.int 0)) (hj0 : ¬ (j < 0)) (hj1 : j < Int32.ofNat xs.length) (hr : xs.getD j.toNatClampNeg 0 = r) (hlen : xs.length ≤ 1000) (hLr : Lat r) (sgF : Sta Z h0 "jdk/internal/util/Preconditions" "SIOOBE_FORMATTER" "Ljava/util/function/BiFunction;" fo) (r_fo : fo.isRef = true) :
  Met l Z mN5 jdk_43_method_2_code 2 (some .char) ({ frames := 2, cells := 0, slots := 0, locals := 27 } : Room) ws #[(.ref b), (.int j)] h0 (Q_rs_l1c Z b kb xs j r fo h0 n0) := by
 refine own_met (plainFor_of_name own_pn2) ?_
 intro p e s m below meth c s₁ hret hx hby hlk hml hown hnm X0 e0 hZ hh
 have N0 := Fr.nil n0
 refine Gz (castTop (own_ef_rs_l1c m b j)) ?_
 show Goes _ _ _ _ _ (fT s₁ m 0 #[vr b, vi j] [])
 refine gN X0 hx hby d5_0 rfl rfl ?_
 refine gA X0 hx hby d5_1 rfl rfl rfl ?_
 obtain ⟨cl1, Ar1, -, S1, N1z, -, -⟩ := id V_b
 refine Gs (fun _ tk => X0.arraylength hx (by rw [e0]; exact Ar1.1) (State.isArrayOf_alike hZ.alike Ar1.2.1) (g := (mkF m 2 #[vr b, vi j] [(.ref b), (.int j)])) rfl rfl (hb hby d5_2) _ tk) ?_
 rw [len_of S1 N1z]
 show Goes _ _ _ _ _ (fT s₁ m 3 #[vr b, vi j] [(.int (Int32.ofNat xs.length)), (.int j)])
 refine cS X0 hx hZ hw hown hby hml e0 mN4 221 222 223 25 0 (rs_sci l Z a0 hw [] j (Int32.ofNat xs.length) fo h0 n0 Z0 hj0 (by first | assumption | decide) sgF r_fo) d5_3 (lenOf own_pd2 rfl) N0 (fun T2 L2 X2 e2 N2 => ?_)
 show Goes _ _ _ _ _ (fT T2 m 6 #[vr b, vi j] [])
 refine gA X2 hx hby d5_6 rfl rfl rfl ?_
 refine gN X2 hx hby d5_7 rfl rfl ?_
 obtain ⟨cl3, Ar3, -, S3, N3z, H3, -⟩ := id V_b
 have hin3 : ¬ (j < 0 ∨ cl3.slots.size ≤ (j).toNatClampNeg) := inb_of S3 ⟨hj0, hj1⟩
 have hat3 : cl3.slots[(j).toNatClampNeg]? = some (.int (lo8 r)) := Has.at H3 hin3 (own_latGet hj0 hj1 hlen hr)
 refine Gs (fun _ tk => X2.baloadBytes hx (j := j) (v := (.int (lo8 r))) (by rw [e2]; exact Ar3.1) (State.isArrayOf_alike hZ.alike Ar3.2.1) Ar3.2.2 hin3 hat3 (g := (mkF m 8 #[vr b, vi j] [(.int j), (.ref b)])) rfl rfl (hb hby d5_8) _ tk) ?_
 show Goes _ _ _ _ _ (fT T2 m 9 #[vr b, vi j] [(.int (lo8 r))])
 refine Gz (XS.sipush X2.here hx rfl (hb hby d5_9)) ?_
 show Goes _ _ _ _ _ (fT T2 m 12 #[vr b, vi j] [(.int 255), (.int (lo8 r))])
 refine Gz (XS.iand X2.here hx rfl (hb hby d5_12) rfl) ?_
 show Goes _ _ _ _ _ (fT T2 m 13 #[vr b, vi j] [(.int ((lo8 r) &&& 255))])
 rw [own_backL hLr]
 show Goes _ _ _ _ _ (fT T2 m 13 #[vr b, vi j] [(.int r)])
 refine Gz (XS.i2c X2.here hx rfl (hb hby d5_13) rfl) ?_
 show Goes _ _ _ _ _ (fT T2 m 14 #[vr b, vi j] [(.int (r.toUInt32.toUInt16.toUInt32.toInt32))])
 rw [own_i2c hLr.chr]
 show Goes _ _ _ _ _ (fT T2 m 14 #[vr b, vi j] [(.int r)])
 refine Goes.ret X2 (some (.int r)) (fun h => by rw [hret] at h; cases h) hlk (by decide) (by decide) ?_ (fun fs hr => ?_)
 ·exact ⟨rfl, N2, e2⟩
 ·exact own_retN X2 hx (t := .char) hret (by simp) (own_nc hLr.chr) (hb hby d5_14) hr
theorem d6_0 : DK kc16 0 (.aload_n 0) 1 := by decide +kernel
theorem d6_1 : DK kc16 1 (.invokevirtual 492) 3 := by decide +kernel
theorem own_pd3 : parseMethodDescriptor "()Z" = some ⟨[], some .boolean⟩ := by decide +kernel
theorem d6_4 : DK kc16 4 (.ifCond .eq 12) 3 := by decide +kernel
theorem d6_7 : DK kc16 7 (.aload_n 0) 1 := by decide +kernel
theorem d6_8 : DK kc16 8 (.getfield 9) 3 := by decide +kernel
theorem d6_11 : DK kc16 11 (.iload_n 1) 1 := by decide +kernel
theorem d6_12 : DK kc16 12 (.invokestatic 495) 3 := by decide +kernel
theorem own_pd4 : parseMethodDescriptor "([BI)C" = some ⟨[(.array .byte), .int], some .char⟩ := by decide +kernel
theorem d6_15 : DK kc16 15 .ireturn 1 := by decide +kernel
theorem own_ef_rs_chr (m : MethodId) (x0 : Addr) (x1 : Int32) : entryFrame m #[(.ref x0), (.int x1)] 2 = mkF m 0 #[vr x0, vi x1] [] := by first | (simp [entryFrame, mkF, argsToLocals, Value.category]; done) | rfl
def Q_rs_chr (Z : State) (a : Addr) (xs : List Int32) (j : Int32) (r : Int32) (cz : Int32) (fo : Value) (h0 : Heap) (n0 : Nat) (v : Option Value) (h : Heap) (L : List Loc) : Prop := v = some (.int r) ∧ Fr n0 L ∧ h = h0
theorem rs_chr (l : Launch) (Z : State) (a0 : Array Value) (hw : HW a0 Z) (ws : List Jvm.Cond) (a : Addr) (xs : List Int32) (j : Int32) (r : Int32) (cz : Int32) (fo : Value) (h0 : Heap) (n0 : Nat) (Z0 : n0 ≤ h0.size) (T_a : StrOf Z h0 a xs) (sgC : Sta Z h0 "java/lang/String" "COMPACT_STRINGS" "Z" (.int cz)) (hcz : ¬ (cz = 0)) (hj0 : ¬ (j < 0)) (hj1 : j < Int32.ofNat xs.length) (hr : xs.getD j.toNatClampNeg 0 = r) (sgF : Sta Z h0 "jdk/internal/util/Preconditions" "SIOOBE_FORMATTER" "Ljava/util/function/BiFunction;" fo) (r_fo : fo.isRef = true) :
  Met l Z mN6 jdk_42_method_56_code 2 (some .char) ({ frames := 3, cells := 0, slots := 0, locals := 40 } : Room) ws #[(.ref a), (.int j)] h0 (Q_rs_chr Z a xs j r cz fo h0 n0) := by
 refine own_met (plainFor_of_name own_pn0) ?_
 intro p e s m below meth c s₁ hret hx hby hlk hml hown hnm X0 e0 hZ hh
 have N0 := Fr.nil n0
 refine Gz (castTop (own_ef_rs_chr m a j)) ?_
 show Goes _ _ _ _ _ (fT s₁ m 0 #[vr a, vi j] [])
 obtain ⟨vb, kb, A_a, F_value_a, hrep, hlen⟩ := id T_a
 rcases hrep with ⟨F_coder_a, hall, V_vb⟩ | hf
 ·show Goes _ _ _ _ _ (fT s₁ m 0 #[vr a, vi j] [])
  have hmem : r ∈ xs := own_mem hj0 hj1 hlen hr
  have hLr : Lat r := hall r hmem
  have hCr : Chr r := hLr.chr
  refine gA X0 hx hby d6_0 rfl rfl rfl ?_
  refine cV X0 hx hZ hw hown hby hml e0 mN1 145 146 148 147 149 25 0 (rs_isl0 l Z a0 hw [] a cz h0 n0 Z0 F_coder_a sgC hcz) T_a.exa d6_1 (lenOf own_pd3 rfl) N0 (fun T1 L1 X1 e1 N1 => ?_)
  show Goes _ _ _ _ _ (fT T1 m 4 #[vr a, vi j] [(.int 1)])
  refine gu X1 hx hby d6_4 ((if0 _ _).trans (feq (by decide : ¬ ((1 : Int32) = (0 : Int32)))).1) ?_
  refine gA X1 hx hby d6_7 rfl rfl rfl ?_
  obtain ⟨T2, X2, e2, st2⟩ := getF X1 hx hZ hown (host := "") (Or.inl (gw hw 84 rfl)) Via.refl e1 F_value_a (g := (mkF m 8 #[vr a, vi j] [(.ref a)])) rfl rfl (hb hby d6_8)
  refine Gs st2 ?_
  show Goes _ _ _ _ _ (fT T2 m 11 #[vr a, vi j] [(.ref vb)])
  refine gN X2 hx hby d6_11 rfl rfl ?_
  refine cS X2 hx hZ hw hown hby hml e2 mN5 218 219 220 152 0 (rs_l1c l Z a0 hw [] vb kb xs j r fo h0 n0 Z0 V_vb hj0 hj1 hr (by first | assumption | decide) (by first | assumption | decide) sgF r_fo) d6_12 (lenOf own_pd4 rfl) N1 (fun T3 L3 X3 e3 N3 => ?_)
  show Goes _ _ _ _ _ (fT T3 m 15 #[vr a, vi j] [(.int r)])
  refine Goes.ret X3 (some (.int r)) (fun h => by rw [hret] at h; cases h) hlk (by decide) (by decide) ?_ (fun fs hr => ?_)
  ·exact ⟨rfl, N3, e3⟩
  ·exact own_retN X3 hx (t := .char) hret (by simp) (own_nc hCr) (hb hby d6_15) hr
 ·exact hf.elim
theorem d7_0 : DK kc4 0 (.iconst 1) 1 := by decide +kernel
theorem d7_1 : DK kc4 1 (.istore_n 2) 1 := by decide +kernel
theorem d7_2 : DK kc4 2 (.lload_n 0) 1 := by decide +kernel
theorem d7_3 : DK kc4 3 (.lconst 0) 1 := by decide +kernel
theorem d7_4 : DK kc4 4 .lcmp 1 := by decide +kernel
theorem d7_5 : DK kc4 5 (.ifCond .lt 8) 3 := by decide +kernel
theorem d7_8 : DK kc4 8 (.iconst 0) 1 := by decide +kernel
theorem d7_9 : DK kc4 9 (.istore_n 2) 1 := by decide +kernel
theorem d7_10 : DK kc4 10 (.lload_n 0) 1 := by decide +kernel
theorem d7_11 : DK kc4 11 .lneg 1 := by decide +kernel
theorem d7_12 : DK kc4 12 (.lstore_n 0) 1 := by decide +kernel
theorem d7_13 : DK kc4 13 (.ldc2_w 140) 3 := by decide +kernel
theorem d7_16 : DK kc4 16 (.lstore_n 3) 1 := by decide +kernel
theorem d7_17 : DK kc4 17 (.iconst 1) 1 := by decide +kernel
theorem d7_18 : DK kc4 18 (.istore 5) 2 := by decide +kernel
theorem d7_20 : DK kc4 20 (.iload 5) 2 := by decide +kernel
theorem d7_22 : DK kc4 22 (.bipush 19) 2 := by decide +kernel
theorem d7_24 : DK kc4 24 (.if_icmp .ge 26) 3 := by decide +kernel
theorem d7_27 : DK kc4 27 (.lload_n 0) 1 := by decide +kernel
theorem d7_28 : DK kc4 28 (.lload_n 3) 1 := by decide +kernel
theorem d7_29 : DK kc4 29 .lcmp 1 := by decide +kernel
theorem d7_30 : DK kc4 30 (.ifCond .le 8) 3 := by decide +kernel
theorem d7_33 : DK kc4 33 (.iload 5) 2 := by decide +kernel
theorem d7_35 : DK kc4 35 (.iload_n 2) 1 := by decide +kernel
theorem d7_36 : DK kc4 36 .iadd 1 := by decide +kernel
theorem d7_37 : DK kc4 37 .ireturn 1 := by decide +kernel
theorem d7_38 : DK kc4 38 (.ldc2_w 53) 3 := by decide +kernel
theorem d7_41 : DK kc4 41 (.lload_n 3) 1 := by decide +kernel
theorem d7_42 : DK kc4 42 .lmul 1 := by decide +kernel
theorem d7_43 : DK kc4 43 (.lstore_n 3) 1 := by decide +kernel
theorem d7_44 : DK kc4 44 (.iinc 5 1) 3 := by decide +kernel
theorem d7_47 : DK kc4 47 (.goto (-27)) 3 := by decide +kernel
theorem own_pn3 : plainName "java/lang/Long" = true := by first | (simp [plainName, overriddenIn]; done) | decide +kernel
theorem own_ef_rm_ss (m : MethodId) (x0 : Int64) : entryFrame m #[(.long x0)] 6 = mkF m 0 #[.val (.long x0), .second, vu, vu, vu, vu] [] := by first | (simp [entryFrame, mkF, argsToLocals, Value.category]; done) | rfl
def Q_rm_ss (Z : State) (v : Int64) (n : Nat) (h0 : Heap) (n0 : Nat) (v : Option Value) (h : Heap) (L : List Loc) : Prop := v = some (.int (Int32.ofNat (own_len n))) ∧ Fr n0 L ∧ h = h0
theorem rm_ss (l : Launch) (Z : State) (a0 : Array Value) (hw : HW a0 Z) (ws : List Jvm.Cond) (v : Int64) (n : Nat) (h0 : Heap) (n0 : Nat) (Z0 : n0 ≤ h0.size) (hv : v.toInt = (n : Int)) (hn : n < 10000000000000) :
  Met l Z mN7 jdk_35_method_15_code 6 (some .int) ({ frames := 0, cells := 0, slots := 0, locals := 0 } : Room) ws #[(.long v)] h0 (Q_rm_ss Z v n h0 n0) := by
 refine own_met (plainFor_of_name own_pn3) ?_
 intro p e s m below meth c s₁ hret hx hby hlk hml hown hnm X0 e0 hZ hh
 have N0 := Fr.nil n0
 refine Gz (castTop (own_ef_rm_ss m v)) ?_
 show Goes _ _ _ _ _ (fT s₁ m 0 #[.val (.long v), .second, vu, vu, vu, vu] [])
 refine gC X0 hx hby d7_0 ?_
 refine gs X0 hx hby d7_1 #[.val (.long v), .second, vi 1, vu, vu, vu] ?_
 refine Gz (XS.lloadN X0.here hx rfl (hb hby d7_2) rfl) ?_
 refine Gz (XS.lconst X0.here hx rfl (hb hby d7_3)) ?_
 refine Gz (XS.lcmp X0.here hx rfl (hb hby d7_4) rfl) ?_
 show Goes _ _ _ _ _ (fT s₁ m 5 #[.val (.long v), .second, vi 1, vu, vu, vu] [(.int (lcmpW v (0 : Int64)))])
 refine gu X0 hx hby d7_5 ((if0 _ _).trans (flt (own_v0 hv)).1) ?_
 refine gC X0 hx hby d7_8 ?_
 refine gs X0 hx hby d7_9 #[.val (.long v), .second, vi 0, vu, vu, vu] ?_
 refine Gz (XS.lloadN X0.here hx rfl (hb hby d7_10) rfl) ?_
 show Goes _ _ _ _ _ (fT s₁ m 11 #[.val (.long v), .second, vi 0, vu, vu, vu] [(.long v)])
 refine Gz (XS.lneg X0.here hx rfl (hb hby d7_11) rfl) ?_
 show Goes _ _ _ _ _ (fT s₁ m 12 #[.val (.long v), .second, vi 0, vu, vu, vu] [(.long (-v))])
 refine Gz (XS.lstoreN X0.here hx rfl (hb hby d7_12) rfl (l' := #[.val (.long (-v)), .second, vi 0, vu, vu, vu]) rfl) ?_
 refine Gs (fun _ tk => Jvm.Stand.ldc2J X0 hx hown (gz hZ hw 47 rfl) rfl (hb hby d7_13) tk) ?_
 show Goes _ _ _ _ _ (fT s₁ m 16 #[.val (.long (-v)), .second, vi 0, vu, vu, vu] [(.long (-10 : Int64))])
 refine Gz (XS.lstoreN X0.here hx rfl (hb hby d7_16) rfl (l' := #[.val (.long (-v)), .second, vi 0, .val (.long (-10 : Int64)), .second, vu]) rfl) ?_
 refine gC X0 hx hby d7_17 ?_
 refine gS X0 hx hby d7_18 #[.val (.long (-v)), .second, vi 0, .val (.long (-10 : Int64)), .second, vi 1] ?_
 refine gI X0 hx hby d7_20 rfl rfl ?_
 refine gB X0 hx hby d7_22 ?_
 refine gU X0 hx hby d7_24 (tlt (by decide : ((1 : Int32) < (19 : Int32)))).2.1 ?_
 show Goes _ _ _ _ _ (fT s₁ m 27 #[.val (.long (-v)), .second, vi 0, .val (.long (-10 : Int64)), .second, vi 1] [])
 refine Gz (XS.lloadN X0.here hx rfl (hb hby d7_27) rfl) ?_
 refine Gz (XS.lloadN X0.here hx rfl (hb hby d7_28) rfl) ?_
 refine Gz (XS.lcmp X0.here hx rfl (hb hby d7_29) rfl) ?_
 show Goes _ _ _ _ _ (fT s₁ m 30 #[.val (.long (-v)), .second, vi 0, .val (.long (-10 : Int64)), .second, vi 1] [(.int (lcmpW (-v) (-10 : Int64)))])
 by_cases hc30_1 : (0 : Int32) < (lcmpW (-v) (-10 : Int64))
 ·refine gu X0 hx hby d7_30 ((if0 _ _).trans (tlt hc30_1).2.2.2) ?_
  have hk1 : n < 10 := (own_gtP (P := 10) hv (by decide)).mp hc30_1
  refine gI X0 hx hby d7_33 rfl rfl ?_
  refine gN X0 hx hby d7_35 rfl rfl ?_
  show Goes _ _ _ _ _ (fT s₁ m 36 #[.val (.long (-v)), .second, vi 0, .val (.long (-10 : Int64)), .second, vi 1] [(.int 0), (.int 1)])
  refine Gz (XS.iadd X0.here hx rfl (hb hby d7_36) rfl) ?_
  show Goes _ _ _ _ _ (fT s₁ m 37 #[.val (.long (-v)), .second, vi 0, .val (.long (-10 : Int64)), .second, vi 1] [(.int 1)])
  refine Goes.ret X0 (some (.int 1)) (fun h => by rw [hret] at h; cases h) hlk (by decide) (by decide) ?_ (fun fs hr => ?_)
  ·exact ⟨(congrArg (fun z => some (Value.int z)) (show (1 : Int32) = Int32.ofNat (own_len n) from by rw [show own_len n = 1 from by unfold own_len; simp only [if_neg (show ¬ 10 ≤ n by omega), if_neg (show ¬ 100 ≤ n by omega), if_neg (show ¬ 1000 ≤ n by omega), if_neg (show ¬ 10000 ≤ n by omega), if_neg (show ¬ 100000 ≤ n by omega), if_neg (show ¬ 1000000 ≤ n by omega), if_neg (show ¬ 10000000 ≤ n by omega), if_neg (show ¬ 100000000 ≤ n by omega), if_neg (show ¬ 1000000000 ≤ n by omega), if_neg (show ¬ 10000000000 ≤ n by omega), if_neg (show ¬ 100000000000 ≤ n by omega), if_neg (show ¬ 1000000000000 ≤ n by omega)]]; rfl)), N0, e0⟩
  ·exact retI X0 hx hret (hb hby d7_37) hr
 ·refine gy X0 hx hby d7_30 30 38 ((if0 _ _).trans (flt hc30_1).2.2.2) ?_
  have hk1 : ¬ n < 10 := fun q => hc30_1 ((own_gtP (P := 10) hv (by decide)).mpr q)
  refine Gs (fun _ tk => Jvm.Stand.ldc2J X0 hx hown (gz hZ hw 116 rfl) rfl (hb hby d7_38) tk) ?_
  show Goes _ _ _ _ _ (fT s₁ m 41 #[.val (.long (-v)), .second, vi 0, .val (.long (-10 : Int64)), .second, vi 1] [(.long (10 : Int64))])
  refine Gz (XS.lloadN X0.here hx rfl (hb hby d7_41) rfl) ?_
  show Goes _ _ _ _ _ (fT s₁ m 42 #[.val (.long (-v)), .second, vi 0, .val (.long (-10 : Int64)), .second, vi 1] [(.long (-10 : Int64)), (.long (10 : Int64))])
  refine Gz (XS.lmul X0.here hx rfl (hb hby d7_42) rfl) ?_
  rw [show ((10 : Int64) * (-10 : Int64)) = (-100 : Int64) from by decide]
  show Goes _ _ _ _ _ (fT s₁ m 43 #[.val (.long (-v)), .second, vi 0, .val (.long (-10 : Int64)), .second, vi 1] [(.long (-100 : Int64))])
  refine Gz (XS.lstoreN X0.here hx rfl (hb hby d7_43) rfl (l' := #[.val (.long (-v)), .second, vi 0, .val (.long (-100 : Int64)), .second, vi 1]) rfl) ?_
  show Goes _ _ _ _ _ (fT s₁ m 44 #[.val (.long (-v)), .second, vi 0, .val (.long (-100 : Int64)), .second, vi 1] [])
  refine Gz (XS.iinc X0.here hx rfl (hb hby d7_44) rfl (l' := #[.val (.long (-v)), .second, vi 0, .val (.long (-100 : Int64)), .second, vi ((1 : Int32) + (1 : Int32))]) rfl) ?_
  show Goes _ _ _ _ _ (fT s₁ m 47 #[.val (.long (-v)), .second, vi 0, .val (.long (-100 : Int64)), .second, vi 2] [])
  refine gG X0 hx hby d7_47 47 20 ?_
  refine gI X0 hx hby d7_20 rfl rfl ?_
  refine gB X0 hx hby d7_22 ?_
  refine gU X0 hx hby d7_24 (tlt (by decide : ((2 : Int32) < (19 : Int32)))).2.1 ?_
  refine Gz (XS.lloadN X0.here hx rfl (hb hby d7_27) rfl) ?_
  refine Gz (XS.lloadN X0.here hx rfl (hb hby d7_28) rfl) ?_
  show Goes _ _ _ _ _ (fT s₁ m 29 #[.val (.long (-v)), .second, vi 0, .val (.long (-100 : Int64)), .second, vi 2] [(.long (-100 : Int64)), (.long (-v))])
  refine Gz (XS.lcmp X0.here hx rfl (hb hby d7_29) rfl) ?_
  show Goes _ _ _ _ _ (fT s₁ m 30 #[.val (.long (-v)), .second, vi 0, .val (.long (-100 : Int64)), .second, vi 2] [(.int (lcmpW (-v) (-100 : Int64)))])
  by_cases hc30_2 : (0 : Int32) < (lcmpW (-v) (-100 : Int64))
  ·refine gu X0 hx hby d7_30 ((if0 _ _).trans (tlt hc30_2).2.2.2) ?_
   have hk2 : n < 100 := (own_gtP (P := 100) hv (by decide)).mp hc30_2
   refine gI X0 hx hby d7_33 rfl rfl ?_
   refine gN X0 hx hby d7_35 rfl rfl ?_
   show Goes _ _ _ _ _ (fT s₁ m 36 #[.val (.long (-v)), .second, vi 0, .val (.long (-100 : Int64)), .second, vi 2] [(.int 0), (.int 2)])
   refine Gz (XS.iadd X0.here hx rfl (hb hby d7_36) rfl) ?_
   show Goes _ _ _ _ _ (fT s₁ m 37 #[.val (.long (-v)), .second, vi 0, .val (.long (-100 : Int64)), .second, vi 2] [(.int 2)])
   refine Goes.ret X0 (some (.int 2)) (fun h => by rw [hret] at h; cases h) hlk (by decide) (by decide) ?_ (fun fs hr => ?_)
   ·exact ⟨(congrArg (fun z => some (Value.int z)) (show (2 : Int32) = Int32.ofNat (own_len n) from by rw [show own_len n = 2 from by unfold own_len; simp only [if_pos (show 10 ≤ n by omega), if_neg (show ¬ 100 ≤ n by omega), if_neg (show ¬ 1000 ≤ n by omega), if_neg (show ¬ 10000 ≤ n by omega), if_neg (show ¬ 100000 ≤ n by omega), if_neg (show ¬ 1000000 ≤ n by omega), if_neg (show ¬ 10000000 ≤ n by omega), if_neg (show ¬ 100000000 ≤ n by omega), if_neg (show ¬ 1000000000 ≤ n by omega), if_neg (show ¬ 10000000000 ≤ n by omega), if_neg (show ¬ 100000000000 ≤ n by omega), if_neg (show ¬ 1000000000000 ≤ n by omega)]]; rfl)), N0, e0⟩
   ·exact retI X0 hx hret (hb hby d7_37) hr
  ·refine gy X0 hx hby d7_30 30 38 ((if0 _ _).trans (flt hc30_2).2.2.2) ?_
   have hk2 : ¬ n < 100 := fun q => hc30_2 ((own_gtP (P := 100) hv (by decide)).mpr q)
   refine Gs (fun _ tk => Jvm.Stand.ldc2J X0 hx hown (gz hZ hw 116 rfl) rfl (hb hby d7_38) tk) ?_
   show Goes _ _ _ _ _ (fT s₁ m 41 #[.val (.long (-v)), .second, vi 0, .val (.long (-100 : Int64)), .second, vi 2] [(.long (10 : Int64))])
   refine Gz (XS.lloadN X0.here hx rfl (hb hby d7_41) rfl) ?_
   show Goes _ _ _ _ _ (fT s₁ m 42 #[.val (.long (-v)), .second, vi 0, .val (.long (-100 : Int64)), .second, vi 2] [(.long (-100 : Int64)), (.long (10 : Int64))])
   refine Gz (XS.lmul X0.here hx rfl (hb hby d7_42) rfl) ?_
   rw [show ((10 : Int64) * (-100 : Int64)) = (-1000 : Int64) from by decide]
   show Goes _ _ _ _ _ (fT s₁ m 43 #[.val (.long (-v)), .second, vi 0, .val (.long (-100 : Int64)), .second, vi 2] [(.long (-1000 : Int64))])
   refine Gz (XS.lstoreN X0.here hx rfl (hb hby d7_43) rfl (l' := #[.val (.long (-v)), .second, vi 0, .val (.long (-1000 : Int64)), .second, vi 2]) rfl) ?_
   show Goes _ _ _ _ _ (fT s₁ m 44 #[.val (.long (-v)), .second, vi 0, .val (.long (-1000 : Int64)), .second, vi 2] [])
   refine Gz (XS.iinc X0.here hx rfl (hb hby d7_44) rfl (l' := #[.val (.long (-v)), .second, vi 0, .val (.long (-1000 : Int64)), .second, vi ((2 : Int32) + (1 : Int32))]) rfl) ?_
   show Goes _ _ _ _ _ (fT s₁ m 47 #[.val (.long (-v)), .second, vi 0, .val (.long (-1000 : Int64)), .second, vi 3] [])
   refine gG X0 hx hby d7_47 47 20 ?_
   refine gI X0 hx hby d7_20 rfl rfl ?_
   refine gB X0 hx hby d7_22 ?_
   refine gU X0 hx hby d7_24 (tlt (by decide : ((3 : Int32) < (19 : Int32)))).2.1 ?_
   refine Gz (XS.lloadN X0.here hx rfl (hb hby d7_27) rfl) ?_
   refine Gz (XS.lloadN X0.here hx rfl (hb hby d7_28) rfl) ?_
   show Goes _ _ _ _ _ (fT s₁ m 29 #[.val (.long (-v)), .second, vi 0, .val (.long (-1000 : Int64)), .second, vi 3] [(.long (-1000 : Int64)), (.long (-v))])
   refine Gz (XS.lcmp X0.here hx rfl (hb hby d7_29) rfl) ?_
   show Goes _ _ _ _ _ (fT s₁ m 30 #[.val (.long (-v)), .second, vi 0, .val (.long (-1000 : Int64)), .second, vi 3] [(.int (lcmpW (-v) (-1000 : Int64)))])
   by_cases hc30_3 : (0 : Int32) < (lcmpW (-v) (-1000 : Int64))
   ·refine gu X0 hx hby d7_30 ((if0 _ _).trans (tlt hc30_3).2.2.2) ?_
    have hk3 : n < 1000 := (own_gtP (P := 1000) hv (by decide)).mp hc30_3
    refine gI X0 hx hby d7_33 rfl rfl ?_
    refine gN X0 hx hby d7_35 rfl rfl ?_
    show Goes _ _ _ _ _ (fT s₁ m 36 #[.val (.long (-v)), .second, vi 0, .val (.long (-1000 : Int64)), .second, vi 3] [(.int 0), (.int 3)])
    refine Gz (XS.iadd X0.here hx rfl (hb hby d7_36) rfl) ?_
    show Goes _ _ _ _ _ (fT s₁ m 37 #[.val (.long (-v)), .second, vi 0, .val (.long (-1000 : Int64)), .second, vi 3] [(.int 3)])
    refine Goes.ret X0 (some (.int 3)) (fun h => by rw [hret] at h; cases h) hlk (by decide) (by decide) ?_ (fun fs hr => ?_)
    ·exact ⟨(congrArg (fun z => some (Value.int z)) (show (3 : Int32) = Int32.ofNat (own_len n) from by rw [show own_len n = 3 from by unfold own_len; simp only [if_pos (show 10 ≤ n by omega), if_pos (show 100 ≤ n by omega), if_neg (show ¬ 1000 ≤ n by omega), if_neg (show ¬ 10000 ≤ n by omega), if_neg (show ¬ 100000 ≤ n by omega), if_neg (show ¬ 1000000 ≤ n by omega), if_neg (show ¬ 10000000 ≤ n by omega), if_neg (show ¬ 100000000 ≤ n by omega), if_neg (show ¬ 1000000000 ≤ n by omega), if_neg (show ¬ 10000000000 ≤ n by omega), if_neg (show ¬ 100000000000 ≤ n by omega), if_neg (show ¬ 1000000000000 ≤ n by omega)]]; rfl)), N0, e0⟩
    ·exact retI X0 hx hret (hb hby d7_37) hr
   ·refine gy X0 hx hby d7_30 30 38 ((if0 _ _).trans (flt hc30_3).2.2.2) ?_
    have hk3 : ¬ n < 1000 := fun q => hc30_3 ((own_gtP (P := 1000) hv (by decide)).mpr q)
    refine Gs (fun _ tk => Jvm.Stand.ldc2J X0 hx hown (gz hZ hw 116 rfl) rfl (hb hby d7_38) tk) ?_
    show Goes _ _ _ _ _ (fT s₁ m 41 #[.val (.long (-v)), .second, vi 0, .val (.long (-1000 : Int64)), .second, vi 3] [(.long (10 : Int64))])
    refine Gz (XS.lloadN X0.here hx rfl (hb hby d7_41) rfl) ?_
    show Goes _ _ _ _ _ (fT s₁ m 42 #[.val (.long (-v)), .second, vi 0, .val (.long (-1000 : Int64)), .second, vi 3] [(.long (-1000 : Int64)), (.long (10 : Int64))])
    refine Gz (XS.lmul X0.here hx rfl (hb hby d7_42) rfl) ?_
    rw [show ((10 : Int64) * (-1000 : Int64)) = (-10000 : Int64) from by decide]
    show Goes _ _ _ _ _ (fT s₁ m 43 #[.val (.long (-v)), .second, vi 0, .val (.long (-1000 : Int64)), .second, vi 3] [(.long (-10000 : Int64))])
    refine Gz (XS.lstoreN X0.here hx rfl (hb hby d7_43) rfl (l' := #[.val (.long (-v)), .second, vi 0, .val (.long (-10000 : Int64)), .second, vi 3]) rfl) ?_
    show Goes _ _ _ _ _ (fT s₁ m 44 #[.val (.long (-v)), .second, vi 0, .val (.long (-10000 : Int64)), .second, vi 3] [])
    refine Gz (XS.iinc X0.here hx rfl (hb hby d7_44) rfl (l' := #[.val (.long (-v)), .second, vi 0, .val (.long (-10000 : Int64)), .second, vi ((3 : Int32) + (1 : Int32))]) rfl) ?_
    show Goes _ _ _ _ _ (fT s₁ m 47 #[.val (.long (-v)), .second, vi 0, .val (.long (-10000 : Int64)), .second, vi 4] [])
    refine gG X0 hx hby d7_47 47 20 ?_
    refine gI X0 hx hby d7_20 rfl rfl ?_
    refine gB X0 hx hby d7_22 ?_
    refine gU X0 hx hby d7_24 (tlt (by decide : ((4 : Int32) < (19 : Int32)))).2.1 ?_
    refine Gz (XS.lloadN X0.here hx rfl (hb hby d7_27) rfl) ?_
    refine Gz (XS.lloadN X0.here hx rfl (hb hby d7_28) rfl) ?_
    show Goes _ _ _ _ _ (fT s₁ m 29 #[.val (.long (-v)), .second, vi 0, .val (.long (-10000 : Int64)), .second, vi 4] [(.long (-10000 : Int64)), (.long (-v))])
    refine Gz (XS.lcmp X0.here hx rfl (hb hby d7_29) rfl) ?_
    show Goes _ _ _ _ _ (fT s₁ m 30 #[.val (.long (-v)), .second, vi 0, .val (.long (-10000 : Int64)), .second, vi 4] [(.int (lcmpW (-v) (-10000 : Int64)))])
    by_cases hc30_4 : (0 : Int32) < (lcmpW (-v) (-10000 : Int64))
    ·refine gu X0 hx hby d7_30 ((if0 _ _).trans (tlt hc30_4).2.2.2) ?_
     have hk4 : n < 10000 := (own_gtP (P := 10000) hv (by decide)).mp hc30_4
     refine gI X0 hx hby d7_33 rfl rfl ?_
     refine gN X0 hx hby d7_35 rfl rfl ?_
     show Goes _ _ _ _ _ (fT s₁ m 36 #[.val (.long (-v)), .second, vi 0, .val (.long (-10000 : Int64)), .second, vi 4] [(.int 0), (.int 4)])
     refine Gz (XS.iadd X0.here hx rfl (hb hby d7_36) rfl) ?_
     show Goes _ _ _ _ _ (fT s₁ m 37 #[.val (.long (-v)), .second, vi 0, .val (.long (-10000 : Int64)), .second, vi 4] [(.int 4)])
     refine Goes.ret X0 (some (.int 4)) (fun h => by rw [hret] at h; cases h) hlk (by decide) (by decide) ?_ (fun fs hr => ?_)
     ·exact ⟨(congrArg (fun z => some (Value.int z)) (show (4 : Int32) = Int32.ofNat (own_len n) from by rw [show own_len n = 4 from by unfold own_len; simp only [if_pos (show 10 ≤ n by omega), if_pos (show 100 ≤ n by omega), if_pos (show 1000 ≤ n by omega), if_neg (show ¬ 10000 ≤ n by omega), if_neg (show ¬ 100000 ≤ n by omega), if_neg (show ¬ 1000000 ≤ n by omega), if_neg (show ¬ 10000000 ≤ n by omega), if_neg (show ¬ 100000000 ≤ n by omega), if_neg (show ¬ 1000000000 ≤ n by omega), if_neg (show ¬ 10000000000 ≤ n by omega), if_neg (show ¬ 100000000000 ≤ n by omega), if_neg (show ¬ 1000000000000 ≤ n by omega)]]; rfl)), N0, e0⟩
     ·exact retI X0 hx hret (hb hby d7_37) hr
    ·refine gy X0 hx hby d7_30 30 38 ((if0 _ _).trans (flt hc30_4).2.2.2) ?_
     have hk4 : ¬ n < 10000 := fun q => hc30_4 ((own_gtP (P := 10000) hv (by decide)).mpr q)
     refine Gs (fun _ tk => Jvm.Stand.ldc2J X0 hx hown (gz hZ hw 116 rfl) rfl (hb hby d7_38) tk) ?_
     show Goes _ _ _ _ _ (fT s₁ m 41 #[.val (.long (-v)), .second, vi 0, .val (.long (-10000 : Int64)), .second, vi 4] [(.long (10 : Int64))])
     refine Gz (XS.lloadN X0.here hx rfl (hb hby d7_41) rfl) ?_
     show Goes _ _ _ _ _ (fT s₁ m 42 #[.val (.long (-v)), .second, vi 0, .val (.long (-10000 : Int64)), .second, vi 4] [(.long (-10000 : Int64)), (.long (10 : Int64))])
     refine Gz (XS.lmul X0.here hx rfl (hb hby d7_42) rfl) ?_
     rw [show ((10 : Int64) * (-10000 : Int64)) = (-100000 : Int64) from by decide]
     show Goes _ _ _ _ _ (fT s₁ m 43 #[.val (.long (-v)), .second, vi 0, .val (.long (-10000 : Int64)), .second, vi 4] [(.long (-100000 : Int64))])
     refine Gz (XS.lstoreN X0.here hx rfl (hb hby d7_43) rfl (l' := #[.val (.long (-v)), .second, vi 0, .val (.long (-100000 : Int64)), .second, vi 4]) rfl) ?_
     show Goes _ _ _ _ _ (fT s₁ m 44 #[.val (.long (-v)), .second, vi 0, .val (.long (-100000 : Int64)), .second, vi 4] [])
     refine Gz (XS.iinc X0.here hx rfl (hb hby d7_44) rfl (l' := #[.val (.long (-v)), .second, vi 0, .val (.long (-100000 : Int64)), .second, vi ((4 : Int32) + (1 : Int32))]) rfl) ?_
     show Goes _ _ _ _ _ (fT s₁ m 47 #[.val (.long (-v)), .second, vi 0, .val (.long (-100000 : Int64)), .second, vi 5] [])
     refine gG X0 hx hby d7_47 47 20 ?_
     refine gI X0 hx hby d7_20 rfl rfl ?_
     refine gB X0 hx hby d7_22 ?_
     refine gU X0 hx hby d7_24 (tlt (by decide : ((5 : Int32) < (19 : Int32)))).2.1 ?_
     refine Gz (XS.lloadN X0.here hx rfl (hb hby d7_27) rfl) ?_
     refine Gz (XS.lloadN X0.here hx rfl (hb hby d7_28) rfl) ?_
     show Goes _ _ _ _ _ (fT s₁ m 29 #[.val (.long (-v)), .second, vi 0, .val (.long (-100000 : Int64)), .second, vi 5] [(.long (-100000 : Int64)), (.long (-v))])
     refine Gz (XS.lcmp X0.here hx rfl (hb hby d7_29) rfl) ?_
     show Goes _ _ _ _ _ (fT s₁ m 30 #[.val (.long (-v)), .second, vi 0, .val (.long (-100000 : Int64)), .second, vi 5] [(.int (lcmpW (-v) (-100000 : Int64)))])
     by_cases hc30_5 : (0 : Int32) < (lcmpW (-v) (-100000 : Int64))
     ·refine gu X0 hx hby d7_30 ((if0 _ _).trans (tlt hc30_5).2.2.2) ?_
      have hk5 : n < 100000 := (own_gtP (P := 100000) hv (by decide)).mp hc30_5
      refine gI X0 hx hby d7_33 rfl rfl ?_
      refine gN X0 hx hby d7_35 rfl rfl ?_
      show Goes _ _ _ _ _ (fT s₁ m 36 #[.val (.long (-v)), .second, vi 0, .val (.long (-100000 : Int64)), .second, vi 5] [(.int 0), (.int 5)])
      refine Gz (XS.iadd X0.here hx rfl (hb hby d7_36) rfl) ?_
      show Goes _ _ _ _ _ (fT s₁ m 37 #[.val (.long (-v)), .second, vi 0, .val (.long (-100000 : Int64)), .second, vi 5] [(.int 5)])
      refine Goes.ret X0 (some (.int 5)) (fun h => by rw [hret] at h; cases h) hlk (by decide) (by decide) ?_ (fun fs hr => ?_)
      ·exact ⟨(congrArg (fun z => some (Value.int z)) (show (5 : Int32) = Int32.ofNat (own_len n) from by rw [show own_len n = 5 from by unfold own_len; simp only [if_pos (show 10 ≤ n by omega), if_pos (show 100 ≤ n by omega), if_pos (show 1000 ≤ n by omega), if_pos (show 10000 ≤ n by omega), if_neg (show ¬ 100000 ≤ n by omega), if_neg (show ¬ 1000000 ≤ n by omega), if_neg (show ¬ 10000000 ≤ n by omega), if_neg (show ¬ 100000000 ≤ n by omega), if_neg (show ¬ 1000000000 ≤ n by omega), if_neg (show ¬ 10000000000 ≤ n by omega), if_neg (show ¬ 100000000000 ≤ n by omega), if_neg (show ¬ 1000000000000 ≤ n by omega)]]; rfl)), N0, e0⟩
      ·exact retI X0 hx hret (hb hby d7_37) hr
     ·refine gy X0 hx hby d7_30 30 38 ((if0 _ _).trans (flt hc30_5).2.2.2) ?_
      have hk5 : ¬ n < 100000 := fun q => hc30_5 ((own_gtP (P := 100000) hv (by decide)).mpr q)
      refine Gs (fun _ tk => Jvm.Stand.ldc2J X0 hx hown (gz hZ hw 116 rfl) rfl (hb hby d7_38) tk) ?_
      show Goes _ _ _ _ _ (fT s₁ m 41 #[.val (.long (-v)), .second, vi 0, .val (.long (-100000 : Int64)), .second, vi 5] [(.long (10 : Int64))])
      refine Gz (XS.lloadN X0.here hx rfl (hb hby d7_41) rfl) ?_
      show Goes _ _ _ _ _ (fT s₁ m 42 #[.val (.long (-v)), .second, vi 0, .val (.long (-100000 : Int64)), .second, vi 5] [(.long (-100000 : Int64)), (.long (10 : Int64))])
      refine Gz (XS.lmul X0.here hx rfl (hb hby d7_42) rfl) ?_
      rw [show ((10 : Int64) * (-100000 : Int64)) = (-1000000 : Int64) from by decide]
      show Goes _ _ _ _ _ (fT s₁ m 43 #[.val (.long (-v)), .second, vi 0, .val (.long (-100000 : Int64)), .second, vi 5] [(.long (-1000000 : Int64))])
      refine Gz (XS.lstoreN X0.here hx rfl (hb hby d7_43) rfl (l' := #[.val (.long (-v)), .second, vi 0, .val (.long (-1000000 : Int64)), .second, vi 5]) rfl) ?_
      show Goes _ _ _ _ _ (fT s₁ m 44 #[.val (.long (-v)), .second, vi 0, .val (.long (-1000000 : Int64)), .second, vi 5] [])
      refine Gz (XS.iinc X0.here hx rfl (hb hby d7_44) rfl (l' := #[.val (.long (-v)), .second, vi 0, .val (.long (-1000000 : Int64)), .second, vi ((5 : Int32) + (1 : Int32))]) rfl) ?_
      show Goes _ _ _ _ _ (fT s₁ m 47 #[.val (.long (-v)), .second, vi 0, .val (.long (-1000000 : Int64)), .second, vi 6] [])
      refine gG X0 hx hby d7_47 47 20 ?_
      refine gI X0 hx hby d7_20 rfl rfl ?_
      refine gB X0 hx hby d7_22 ?_
      refine gU X0 hx hby d7_24 (tlt (by decide : ((6 : Int32) < (19 : Int32)))).2.1 ?_
      refine Gz (XS.lloadN X0.here hx rfl (hb hby d7_27) rfl) ?_
      refine Gz (XS.lloadN X0.here hx rfl (hb hby d7_28) rfl) ?_
      show Goes _ _ _ _ _ (fT s₁ m 29 #[.val (.long (-v)), .second, vi 0, .val (.long (-1000000 : Int64)), .second, vi 6] [(.long (-1000000 : Int64)), (.long (-v))])
      refine Gz (XS.lcmp X0.here hx rfl (hb hby d7_29) rfl) ?_
      show Goes _ _ _ _ _ (fT s₁ m 30 #[.val (.long (-v)), .second, vi 0, .val (.long (-1000000 : Int64)), .second, vi 6] [(.int (lcmpW (-v) (-1000000 : Int64)))])
      by_cases hc30_6 : (0 : Int32) < (lcmpW (-v) (-1000000 : Int64))
      ·refine gu X0 hx hby d7_30 ((if0 _ _).trans (tlt hc30_6).2.2.2) ?_
       have hk6 : n < 1000000 := (own_gtP (P := 1000000) hv (by decide)).mp hc30_6
       refine gI X0 hx hby d7_33 rfl rfl ?_
       refine gN X0 hx hby d7_35 rfl rfl ?_
       show Goes _ _ _ _ _ (fT s₁ m 36 #[.val (.long (-v)), .second, vi 0, .val (.long (-1000000 : Int64)), .second, vi 6] [(.int 0), (.int 6)])
       refine Gz (XS.iadd X0.here hx rfl (hb hby d7_36) rfl) ?_
       show Goes _ _ _ _ _ (fT s₁ m 37 #[.val (.long (-v)), .second, vi 0, .val (.long (-1000000 : Int64)), .second, vi 6] [(.int 6)])
       refine Goes.ret X0 (some (.int 6)) (fun h => by rw [hret] at h; cases h) hlk (by decide) (by decide) ?_ (fun fs hr => ?_)
       ·exact ⟨(congrArg (fun z => some (Value.int z)) (show (6 : Int32) = Int32.ofNat (own_len n) from by rw [show own_len n = 6 from by unfold own_len; simp only [if_pos (show 10 ≤ n by omega), if_pos (show 100 ≤ n by omega), if_pos (show 1000 ≤ n by omega), if_pos (show 10000 ≤ n by omega), if_pos (show 100000 ≤ n by omega), if_neg (show ¬ 1000000 ≤ n by omega), if_neg (show ¬ 10000000 ≤ n by omega), if_neg (show ¬ 100000000 ≤ n by omega), if_neg (show ¬ 1000000000 ≤ n by omega), if_neg (show ¬ 10000000000 ≤ n by omega), if_neg (show ¬ 100000000000 ≤ n by omega), if_neg (show ¬ 1000000000000 ≤ n by omega)]]; rfl)), N0, e0⟩
       ·exact retI X0 hx hret (hb hby d7_37) hr
      ·refine gy X0 hx hby d7_30 30 38 ((if0 _ _).trans (flt hc30_6).2.2.2) ?_
       have hk6 : ¬ n < 1000000 := fun q => hc30_6 ((own_gtP (P := 1000000) hv (by decide)).mpr q)
       refine Gs (fun _ tk => Jvm.Stand.ldc2J X0 hx hown (gz hZ hw 116 rfl) rfl (hb hby d7_38) tk) ?_
       show Goes _ _ _ _ _ (fT s₁ m 41 #[.val (.long (-v)), .second, vi 0, .val (.long (-1000000 : Int64)), .second, vi 6] [(.long (10 : Int64))])
       refine Gz (XS.lloadN X0.here hx rfl (hb hby d7_41) rfl) ?_
       show Goes _ _ _ _ _ (fT s₁ m 42 #[.val (.long (-v)), .second, vi 0, .val (.long (-1000000 : Int64)), .second, vi 6] [(.long (-1000000 : Int64)), (.long (10 : Int64))])
       refine Gz (XS.lmul X0.here hx rfl (hb hby d7_42) rfl) ?_
       rw [show ((10 : Int64) * (-1000000 : Int64)) = (-10000000 : Int64) from by decide]
       show Goes _ _ _ _ _ (fT s₁ m 43 #[.val (.long (-v)), .second, vi 0, .val (.long (-1000000 : Int64)), .second, vi 6] [(.long (-10000000 : Int64))])
       refine Gz (XS.lstoreN X0.here hx rfl (hb hby d7_43) rfl (l' := #[.val (.long (-v)), .second, vi 0, .val (.long (-10000000 : Int64)), .second, vi 6]) rfl) ?_
       show Goes _ _ _ _ _ (fT s₁ m 44 #[.val (.long (-v)), .second, vi 0, .val (.long (-10000000 : Int64)), .second, vi 6] [])
       refine Gz (XS.iinc X0.here hx rfl (hb hby d7_44) rfl (l' := #[.val (.long (-v)), .second, vi 0, .val (.long (-10000000 : Int64)), .second, vi ((6 : Int32) + (1 : Int32))]) rfl) ?_
       show Goes _ _ _ _ _ (fT s₁ m 47 #[.val (.long (-v)), .second, vi 0, .val (.long (-10000000 : Int64)), .second, vi 7] [])
       refine gG X0 hx hby d7_47 47 20 ?_
       refine gI X0 hx hby d7_20 rfl rfl ?_
       refine gB X0 hx hby d7_22 ?_
       refine gU X0 hx hby d7_24 (tlt (by decide : ((7 : Int32) < (19 : Int32)))).2.1 ?_
       refine Gz (XS.lloadN X0.here hx rfl (hb hby d7_27) rfl) ?_
       refine Gz (XS.lloadN X0.here hx rfl (hb hby d7_28) rfl) ?_
       show Goes _ _ _ _ _ (fT s₁ m 29 #[.val (.long (-v)), .second, vi 0, .val (.long (-10000000 : Int64)), .second, vi 7] [(.long (-10000000 : Int64)), (.long (-v))])
       refine Gz (XS.lcmp X0.here hx rfl (hb hby d7_29) rfl) ?_
       show Goes _ _ _ _ _ (fT s₁ m 30 #[.val (.long (-v)), .second, vi 0, .val (.long (-10000000 : Int64)), .second, vi 7] [(.int (lcmpW (-v) (-10000000 : Int64)))])
       by_cases hc30_7 : (0 : Int32) < (lcmpW (-v) (-10000000 : Int64))
       ·refine gu X0 hx hby d7_30 ((if0 _ _).trans (tlt hc30_7).2.2.2) ?_
        have hk7 : n < 10000000 := (own_gtP (P := 10000000) hv (by decide)).mp hc30_7
        refine gI X0 hx hby d7_33 rfl rfl ?_
        refine gN X0 hx hby d7_35 rfl rfl ?_
        show Goes _ _ _ _ _ (fT s₁ m 36 #[.val (.long (-v)), .second, vi 0, .val (.long (-10000000 : Int64)), .second, vi 7] [(.int 0), (.int 7)])
        refine Gz (XS.iadd X0.here hx rfl (hb hby d7_36) rfl) ?_
        show Goes _ _ _ _ _ (fT s₁ m 37 #[.val (.long (-v)), .second, vi 0, .val (.long (-10000000 : Int64)), .second, vi 7] [(.int 7)])
        refine Goes.ret X0 (some (.int 7)) (fun h => by rw [hret] at h; cases h) hlk (by decide) (by decide) ?_ (fun fs hr => ?_)
        ·exact ⟨(congrArg (fun z => some (Value.int z)) (show (7 : Int32) = Int32.ofNat (own_len n) from by rw [show own_len n = 7 from by unfold own_len; simp only [if_pos (show 10 ≤ n by omega), if_pos (show 100 ≤ n by omega), if_pos (show 1000 ≤ n by omega), if_pos (show 10000 ≤ n by omega), if_pos (show 100000 ≤ n by omega), if_pos (show 1000000 ≤ n by omega), if_neg (show ¬ 10000000 ≤ n by omega), if_neg (show ¬ 100000000 ≤ n by omega), if_neg (show ¬ 1000000000 ≤ n by omega), if_neg (show ¬ 10000000000 ≤ n by omega), if_neg (show ¬ 100000000000 ≤ n by omega), if_neg (show ¬ 1000000000000 ≤ n by omega)]]; rfl)), N0, e0⟩
        ·exact retI X0 hx hret (hb hby d7_37) hr
       ·refine gy X0 hx hby d7_30 30 38 ((if0 _ _).trans (flt hc30_7).2.2.2) ?_
        have hk7 : ¬ n < 10000000 := fun q => hc30_7 ((own_gtP (P := 10000000) hv (by decide)).mpr q)
        refine Gs (fun _ tk => Jvm.Stand.ldc2J X0 hx hown (gz hZ hw 116 rfl) rfl (hb hby d7_38) tk) ?_
        show Goes _ _ _ _ _ (fT s₁ m 41 #[.val (.long (-v)), .second, vi 0, .val (.long (-10000000 : Int64)), .second, vi 7] [(.long (10 : Int64))])
        refine Gz (XS.lloadN X0.here hx rfl (hb hby d7_41) rfl) ?_
        show Goes _ _ _ _ _ (fT s₁ m 42 #[.val (.long (-v)), .second, vi 0, .val (.long (-10000000 : Int64)), .second, vi 7] [(.long (-10000000 : Int64)), (.long (10 : Int64))])
        refine Gz (XS.lmul X0.here hx rfl (hb hby d7_42) rfl) ?_
        rw [show ((10 : Int64) * (-10000000 : Int64)) = (-100000000 : Int64) from by decide]
        show Goes _ _ _ _ _ (fT s₁ m 43 #[.val (.long (-v)), .second, vi 0, .val (.long (-10000000 : Int64)), .second, vi 7] [(.long (-100000000 : Int64))])
        refine Gz (XS.lstoreN X0.here hx rfl (hb hby d7_43) rfl (l' := #[.val (.long (-v)), .second, vi 0, .val (.long (-100000000 : Int64)), .second, vi 7]) rfl) ?_
        show Goes _ _ _ _ _ (fT s₁ m 44 #[.val (.long (-v)), .second, vi 0, .val (.long (-100000000 : Int64)), .second, vi 7] [])
        refine Gz (XS.iinc X0.here hx rfl (hb hby d7_44) rfl (l' := #[.val (.long (-v)), .second, vi 0, .val (.long (-100000000 : Int64)), .second, vi ((7 : Int32) + (1 : Int32))]) rfl) ?_
        show Goes _ _ _ _ _ (fT s₁ m 47 #[.val (.long (-v)), .second, vi 0, .val (.long (-100000000 : Int64)), .second, vi 8] [])
        refine gG X0 hx hby d7_47 47 20 ?_
        refine gI X0 hx hby d7_20 rfl rfl ?_
        refine gB X0 hx hby d7_22 ?_
        refine gU X0 hx hby d7_24 (tlt (by decide : ((8 : Int32) < (19 : Int32)))).2.1 ?_
        refine Gz (XS.lloadN X0.here hx rfl (hb hby d7_27) rfl) ?_
        refine Gz (XS.lloadN X0.here hx rfl (hb hby d7_28) rfl) ?_
        show Goes _ _ _ _ _ (fT s₁ m 29 #[.val (.long (-v)), .second, vi 0, .val (.long (-100000000 : Int64)), .second, vi 8] [(.long (-100000000 : Int64)), (.long (-v))])
        refine Gz (XS.lcmp X0.here hx rfl (hb hby d7_29) rfl) ?_
        show Goes _ _ _ _ _ (fT s₁ m 30 #[.val (.long (-v)), .second, vi 0, .val (.long (-100000000 : Int64)), .second, vi 8] [(.int (lcmpW (-v) (-100000000 : Int64)))])
        by_cases hc30_8 : (0 : Int32) < (lcmpW (-v) (-100000000 : Int64))
        ·refine gu X0 hx hby d7_30 ((if0 _ _).trans (tlt hc30_8).2.2.2) ?_
         have hk8 : n < 100000000 := (own_gtP (P := 100000000) hv (by decide)).mp hc30_8
         refine gI X0 hx hby d7_33 rfl rfl ?_
         refine gN X0 hx hby d7_35 rfl rfl ?_
         show Goes _ _ _ _ _ (fT s₁ m 36 #[.val (.long (-v)), .second, vi 0, .val (.long (-100000000 : Int64)), .second, vi 8] [(.int 0), (.int 8)])
         refine Gz (XS.iadd X0.here hx rfl (hb hby d7_36) rfl) ?_
         show Goes _ _ _ _ _ (fT s₁ m 37 #[.val (.long (-v)), .second, vi 0, .val (.long (-100000000 : Int64)), .second, vi 8] [(.int 8)])
         refine Goes.ret X0 (some (.int 8)) (fun h => by rw [hret] at h; cases h) hlk (by decide) (by decide) ?_ (fun fs hr => ?_)
         ·exact ⟨(congrArg (fun z => some (Value.int z)) (show (8 : Int32) = Int32.ofNat (own_len n) from by rw [show own_len n = 8 from by unfold own_len; simp only [if_pos (show 10 ≤ n by omega), if_pos (show 100 ≤ n by omega), if_pos (show 1000 ≤ n by omega), if_pos (show 10000 ≤ n by omega), if_pos (show 100000 ≤ n by omega), if_pos (show 1000000 ≤ n by omega), if_pos (show 10000000 ≤ n by omega), if_neg (show ¬ 100000000 ≤ n by omega), if_neg (show ¬ 1000000000 ≤ n by omega), if_neg (show ¬ 10000000000 ≤ n by omega), if_neg (show ¬ 100000000000 ≤ n by omega), if_neg (show ¬ 1000000000000 ≤ n by omega)]]; rfl)), N0, e0⟩
         ·exact retI X0 hx hret (hb hby d7_37) hr
        ·refine gy X0 hx hby d7_30 30 38 ((if0 _ _).trans (flt hc30_8).2.2.2) ?_
         have hk8 : ¬ n < 100000000 := fun q => hc30_8 ((own_gtP (P := 100000000) hv (by decide)).mpr q)
         refine Gs (fun _ tk => Jvm.Stand.ldc2J X0 hx hown (gz hZ hw 116 rfl) rfl (hb hby d7_38) tk) ?_
         show Goes _ _ _ _ _ (fT s₁ m 41 #[.val (.long (-v)), .second, vi 0, .val (.long (-100000000 : Int64)), .second, vi 8] [(.long (10 : Int64))])
         refine Gz (XS.lloadN X0.here hx rfl (hb hby d7_41) rfl) ?_
         show Goes _ _ _ _ _ (fT s₁ m 42 #[.val (.long (-v)), .second, vi 0, .val (.long (-100000000 : Int64)), .second, vi 8] [(.long (-100000000 : Int64)), (.long (10 : Int64))])
         refine Gz (XS.lmul X0.here hx rfl (hb hby d7_42) rfl) ?_
         rw [show ((10 : Int64) * (-100000000 : Int64)) = (-1000000000 : Int64) from by decide]
         show Goes _ _ _ _ _ (fT s₁ m 43 #[.val (.long (-v)), .second, vi 0, .val (.long (-100000000 : Int64)), .second, vi 8] [(.long (-1000000000 : Int64))])
         refine Gz (XS.lstoreN X0.here hx rfl (hb hby d7_43) rfl (l' := #[.val (.long (-v)), .second, vi 0, .val (.long (-1000000000 : Int64)), .second, vi 8]) rfl) ?_
         show Goes _ _ _ _ _ (fT s₁ m 44 #[.val (.long (-v)), .second, vi 0, .val (.long (-1000000000 : Int64)), .second, vi 8] [])
         refine Gz (XS.iinc X0.here hx rfl (hb hby d7_44) rfl (l' := #[.val (.long (-v)), .second, vi 0, .val (.long (-1000000000 : Int64)), .second, vi ((8 : Int32) + (1 : Int32))]) rfl) ?_
         show Goes _ _ _ _ _ (fT s₁ m 47 #[.val (.long (-v)), .second, vi 0, .val (.long (-1000000000 : Int64)), .second, vi 9] [])
         refine gG X0 hx hby d7_47 47 20 ?_
         refine gI X0 hx hby d7_20 rfl rfl ?_
         refine gB X0 hx hby d7_22 ?_
         refine gU X0 hx hby d7_24 (tlt (by decide : ((9 : Int32) < (19 : Int32)))).2.1 ?_
         refine Gz (XS.lloadN X0.here hx rfl (hb hby d7_27) rfl) ?_
         refine Gz (XS.lloadN X0.here hx rfl (hb hby d7_28) rfl) ?_
         show Goes _ _ _ _ _ (fT s₁ m 29 #[.val (.long (-v)), .second, vi 0, .val (.long (-1000000000 : Int64)), .second, vi 9] [(.long (-1000000000 : Int64)), (.long (-v))])
         refine Gz (XS.lcmp X0.here hx rfl (hb hby d7_29) rfl) ?_
         show Goes _ _ _ _ _ (fT s₁ m 30 #[.val (.long (-v)), .second, vi 0, .val (.long (-1000000000 : Int64)), .second, vi 9] [(.int (lcmpW (-v) (-1000000000 : Int64)))])
         by_cases hc30_9 : (0 : Int32) < (lcmpW (-v) (-1000000000 : Int64))
         ·refine gu X0 hx hby d7_30 ((if0 _ _).trans (tlt hc30_9).2.2.2) ?_
          have hk9 : n < 1000000000 := (own_gtP (P := 1000000000) hv (by decide)).mp hc30_9
          refine gI X0 hx hby d7_33 rfl rfl ?_
          refine gN X0 hx hby d7_35 rfl rfl ?_
          show Goes _ _ _ _ _ (fT s₁ m 36 #[.val (.long (-v)), .second, vi 0, .val (.long (-1000000000 : Int64)), .second, vi 9] [(.int 0), (.int 9)])
          refine Gz (XS.iadd X0.here hx rfl (hb hby d7_36) rfl) ?_
          show Goes _ _ _ _ _ (fT s₁ m 37 #[.val (.long (-v)), .second, vi 0, .val (.long (-1000000000 : Int64)), .second, vi 9] [(.int 9)])
          refine Goes.ret X0 (some (.int 9)) (fun h => by rw [hret] at h; cases h) hlk (by decide) (by decide) ?_ (fun fs hr => ?_)
          ·exact ⟨(congrArg (fun z => some (Value.int z)) (show (9 : Int32) = Int32.ofNat (own_len n) from by rw [show own_len n = 9 from by unfold own_len; simp only [if_pos (show 10 ≤ n by omega), if_pos (show 100 ≤ n by omega), if_pos (show 1000 ≤ n by omega), if_pos (show 10000 ≤ n by omega), if_pos (show 100000 ≤ n by omega), if_pos (show 1000000 ≤ n by omega), if_pos (show 10000000 ≤ n by omega), if_pos (show 100000000 ≤ n by omega), if_neg (show ¬ 1000000000 ≤ n by omega), if_neg (show ¬ 10000000000 ≤ n by omega), if_neg (show ¬ 100000000000 ≤ n by omega), if_neg (show ¬ 1000000000000 ≤ n by omega)]]; rfl)), N0, e0⟩
          ·exact retI X0 hx hret (hb hby d7_37) hr
         ·refine gy X0 hx hby d7_30 30 38 ((if0 _ _).trans (flt hc30_9).2.2.2) ?_
          have hk9 : ¬ n < 1000000000 := fun q => hc30_9 ((own_gtP (P := 1000000000) hv (by decide)).mpr q)
          refine Gs (fun _ tk => Jvm.Stand.ldc2J X0 hx hown (gz hZ hw 116 rfl) rfl (hb hby d7_38) tk) ?_
          show Goes _ _ _ _ _ (fT s₁ m 41 #[.val (.long (-v)), .second, vi 0, .val (.long (-1000000000 : Int64)), .second, vi 9] [(.long (10 : Int64))])
          refine Gz (XS.lloadN X0.here hx rfl (hb hby d7_41) rfl) ?_
          show Goes _ _ _ _ _ (fT s₁ m 42 #[.val (.long (-v)), .second, vi 0, .val (.long (-1000000000 : Int64)), .second, vi 9] [(.long (-1000000000 : Int64)), (.long (10 : Int64))])
          refine Gz (XS.lmul X0.here hx rfl (hb hby d7_42) rfl) ?_
          rw [show ((10 : Int64) * (-1000000000 : Int64)) = (-10000000000 : Int64) from by decide]
          show Goes _ _ _ _ _ (fT s₁ m 43 #[.val (.long (-v)), .second, vi 0, .val (.long (-1000000000 : Int64)), .second, vi 9] [(.long (-10000000000 : Int64))])
          refine Gz (XS.lstoreN X0.here hx rfl (hb hby d7_43) rfl (l' := #[.val (.long (-v)), .second, vi 0, .val (.long (-10000000000 : Int64)), .second, vi 9]) rfl) ?_
          show Goes _ _ _ _ _ (fT s₁ m 44 #[.val (.long (-v)), .second, vi 0, .val (.long (-10000000000 : Int64)), .second, vi 9] [])
          refine Gz (XS.iinc X0.here hx rfl (hb hby d7_44) rfl (l' := #[.val (.long (-v)), .second, vi 0, .val (.long (-10000000000 : Int64)), .second, vi ((9 : Int32) + (1 : Int32))]) rfl) ?_
          show Goes _ _ _ _ _ (fT s₁ m 47 #[.val (.long (-v)), .second, vi 0, .val (.long (-10000000000 : Int64)), .second, vi 10] [])
          refine gG X0 hx hby d7_47 47 20 ?_
          refine gI X0 hx hby d7_20 rfl rfl ?_
          refine gB X0 hx hby d7_22 ?_
          refine gU X0 hx hby d7_24 (tlt (by decide : ((10 : Int32) < (19 : Int32)))).2.1 ?_
          refine Gz (XS.lloadN X0.here hx rfl (hb hby d7_27) rfl) ?_
          refine Gz (XS.lloadN X0.here hx rfl (hb hby d7_28) rfl) ?_
          show Goes _ _ _ _ _ (fT s₁ m 29 #[.val (.long (-v)), .second, vi 0, .val (.long (-10000000000 : Int64)), .second, vi 10] [(.long (-10000000000 : Int64)), (.long (-v))])
          refine Gz (XS.lcmp X0.here hx rfl (hb hby d7_29) rfl) ?_
          show Goes _ _ _ _ _ (fT s₁ m 30 #[.val (.long (-v)), .second, vi 0, .val (.long (-10000000000 : Int64)), .second, vi 10] [(.int (lcmpW (-v) (-10000000000 : Int64)))])
          by_cases hc30_10 : (0 : Int32) < (lcmpW (-v) (-10000000000 : Int64))
          ·refine gu X0 hx hby d7_30 ((if0 _ _).trans (tlt hc30_10).2.2.2) ?_
           have hk10 : n < 10000000000 := (own_gtP (P := 10000000000) hv (by decide)).mp hc30_10
           refine gI X0 hx hby d7_33 rfl rfl ?_
           refine gN X0 hx hby d7_35 rfl rfl ?_
           show Goes _ _ _ _ _ (fT s₁ m 36 #[.val (.long (-v)), .second, vi 0, .val (.long (-10000000000 : Int64)), .second, vi 10] [(.int 0), (.int 10)])
           refine Gz (XS.iadd X0.here hx rfl (hb hby d7_36) rfl) ?_
           show Goes _ _ _ _ _ (fT s₁ m 37 #[.val (.long (-v)), .second, vi 0, .val (.long (-10000000000 : Int64)), .second, vi 10] [(.int 10)])
           refine Goes.ret X0 (some (.int 10)) (fun h => by rw [hret] at h; cases h) hlk (by decide) (by decide) ?_ (fun fs hr => ?_)
           ·exact ⟨(congrArg (fun z => some (Value.int z)) (show (10 : Int32) = Int32.ofNat (own_len n) from by rw [show own_len n = 10 from by unfold own_len; simp only [if_pos (show 10 ≤ n by omega), if_pos (show 100 ≤ n by omega), if_pos (show 1000 ≤ n by omega), if_pos (show 10000 ≤ n by omega), if_pos (show 100000 ≤ n by omega), if_pos (show 1000000 ≤ n by omega), if_pos (show 10000000 ≤ n by omega), if_pos (show 100000000 ≤ n by omega), if_pos (show 1000000000 ≤ n by omega), if_neg (show ¬ 10000000000 ≤ n by omega), if_neg (show ¬ 100000000000 ≤ n by omega), if_neg (show ¬ 1000000000000 ≤ n by omega)]]; rfl)), N0, e0⟩
           ·exact retI X0 hx hret (hb hby d7_37) hr
          ·refine gy X0 hx hby d7_30 30 38 ((if0 _ _).trans (flt hc30_10).2.2.2) ?_
           have hk10 : ¬ n < 10000000000 := fun q => hc30_10 ((own_gtP (P := 10000000000) hv (by decide)).mpr q)
           refine Gs (fun _ tk => Jvm.Stand.ldc2J X0 hx hown (gz hZ hw 116 rfl) rfl (hb hby d7_38) tk) ?_
           show Goes _ _ _ _ _ (fT s₁ m 41 #[.val (.long (-v)), .second, vi 0, .val (.long (-10000000000 : Int64)), .second, vi 10] [(.long (10 : Int64))])
           refine Gz (XS.lloadN X0.here hx rfl (hb hby d7_41) rfl) ?_
           show Goes _ _ _ _ _ (fT s₁ m 42 #[.val (.long (-v)), .second, vi 0, .val (.long (-10000000000 : Int64)), .second, vi 10] [(.long (-10000000000 : Int64)), (.long (10 : Int64))])
           refine Gz (XS.lmul X0.here hx rfl (hb hby d7_42) rfl) ?_
           rw [show ((10 : Int64) * (-10000000000 : Int64)) = (-100000000000 : Int64) from by decide]
           show Goes _ _ _ _ _ (fT s₁ m 43 #[.val (.long (-v)), .second, vi 0, .val (.long (-10000000000 : Int64)), .second, vi 10] [(.long (-100000000000 : Int64))])
           refine Gz (XS.lstoreN X0.here hx rfl (hb hby d7_43) rfl (l' := #[.val (.long (-v)), .second, vi 0, .val (.long (-100000000000 : Int64)), .second, vi 10]) rfl) ?_
           show Goes _ _ _ _ _ (fT s₁ m 44 #[.val (.long (-v)), .second, vi 0, .val (.long (-100000000000 : Int64)), .second, vi 10] [])
           refine Gz (XS.iinc X0.here hx rfl (hb hby d7_44) rfl (l' := #[.val (.long (-v)), .second, vi 0, .val (.long (-100000000000 : Int64)), .second, vi ((10 : Int32) + (1 : Int32))]) rfl) ?_
           show Goes _ _ _ _ _ (fT s₁ m 47 #[.val (.long (-v)), .second, vi 0, .val (.long (-100000000000 : Int64)), .second, vi 11] [])
           refine gG X0 hx hby d7_47 47 20 ?_
           refine gI X0 hx hby d7_20 rfl rfl ?_
           refine gB X0 hx hby d7_22 ?_
           refine gU X0 hx hby d7_24 (tlt (by decide : ((11 : Int32) < (19 : Int32)))).2.1 ?_
           refine Gz (XS.lloadN X0.here hx rfl (hb hby d7_27) rfl) ?_
           refine Gz (XS.lloadN X0.here hx rfl (hb hby d7_28) rfl) ?_
           show Goes _ _ _ _ _ (fT s₁ m 29 #[.val (.long (-v)), .second, vi 0, .val (.long (-100000000000 : Int64)), .second, vi 11] [(.long (-100000000000 : Int64)), (.long (-v))])
           refine Gz (XS.lcmp X0.here hx rfl (hb hby d7_29) rfl) ?_
           show Goes _ _ _ _ _ (fT s₁ m 30 #[.val (.long (-v)), .second, vi 0, .val (.long (-100000000000 : Int64)), .second, vi 11] [(.int (lcmpW (-v) (-100000000000 : Int64)))])
           by_cases hc30_11 : (0 : Int32) < (lcmpW (-v) (-100000000000 : Int64))
           ·refine gu X0 hx hby d7_30 ((if0 _ _).trans (tlt hc30_11).2.2.2) ?_
            have hk11 : n < 100000000000 := (own_gtP (P := 100000000000) hv (by decide)).mp hc30_11
            refine gI X0 hx hby d7_33 rfl rfl ?_
            refine gN X0 hx hby d7_35 rfl rfl ?_
            show Goes _ _ _ _ _ (fT s₁ m 36 #[.val (.long (-v)), .second, vi 0, .val (.long (-100000000000 : Int64)), .second, vi 11] [(.int 0), (.int 11)])
            refine Gz (XS.iadd X0.here hx rfl (hb hby d7_36) rfl) ?_
            show Goes _ _ _ _ _ (fT s₁ m 37 #[.val (.long (-v)), .second, vi 0, .val (.long (-100000000000 : Int64)), .second, vi 11] [(.int 11)])
            refine Goes.ret X0 (some (.int 11)) (fun h => by rw [hret] at h; cases h) hlk (by decide) (by decide) ?_ (fun fs hr => ?_)
            ·exact ⟨(congrArg (fun z => some (Value.int z)) (show (11 : Int32) = Int32.ofNat (own_len n) from by rw [show own_len n = 11 from by unfold own_len; simp only [if_pos (show 10 ≤ n by omega), if_pos (show 100 ≤ n by omega), if_pos (show 1000 ≤ n by omega), if_pos (show 10000 ≤ n by omega), if_pos (show 100000 ≤ n by omega), if_pos (show 1000000 ≤ n by omega), if_pos (show 10000000 ≤ n by omega), if_pos (show 100000000 ≤ n by omega), if_pos (show 1000000000 ≤ n by omega), if_pos (show 10000000000 ≤ n by omega), if_neg (show ¬ 100000000000 ≤ n by omega), if_neg (show ¬ 1000000000000 ≤ n by omega)]]; rfl)), N0, e0⟩
            ·exact retI X0 hx hret (hb hby d7_37) hr
           ·refine gy X0 hx hby d7_30 30 38 ((if0 _ _).trans (flt hc30_11).2.2.2) ?_
            have hk11 : ¬ n < 100000000000 := fun q => hc30_11 ((own_gtP (P := 100000000000) hv (by decide)).mpr q)
            refine Gs (fun _ tk => Jvm.Stand.ldc2J X0 hx hown (gz hZ hw 116 rfl) rfl (hb hby d7_38) tk) ?_
            show Goes _ _ _ _ _ (fT s₁ m 41 #[.val (.long (-v)), .second, vi 0, .val (.long (-100000000000 : Int64)), .second, vi 11] [(.long (10 : Int64))])
            refine Gz (XS.lloadN X0.here hx rfl (hb hby d7_41) rfl) ?_
            show Goes _ _ _ _ _ (fT s₁ m 42 #[.val (.long (-v)), .second, vi 0, .val (.long (-100000000000 : Int64)), .second, vi 11] [(.long (-100000000000 : Int64)), (.long (10 : Int64))])
            refine Gz (XS.lmul X0.here hx rfl (hb hby d7_42) rfl) ?_
            rw [show ((10 : Int64) * (-100000000000 : Int64)) = (-1000000000000 : Int64) from by decide]
            show Goes _ _ _ _ _ (fT s₁ m 43 #[.val (.long (-v)), .second, vi 0, .val (.long (-100000000000 : Int64)), .second, vi 11] [(.long (-1000000000000 : Int64))])
            refine Gz (XS.lstoreN X0.here hx rfl (hb hby d7_43) rfl (l' := #[.val (.long (-v)), .second, vi 0, .val (.long (-1000000000000 : Int64)), .second, vi 11]) rfl) ?_
            show Goes _ _ _ _ _ (fT s₁ m 44 #[.val (.long (-v)), .second, vi 0, .val (.long (-1000000000000 : Int64)), .second, vi 11] [])
            refine Gz (XS.iinc X0.here hx rfl (hb hby d7_44) rfl (l' := #[.val (.long (-v)), .second, vi 0, .val (.long (-1000000000000 : Int64)), .second, vi ((11 : Int32) + (1 : Int32))]) rfl) ?_
            show Goes _ _ _ _ _ (fT s₁ m 47 #[.val (.long (-v)), .second, vi 0, .val (.long (-1000000000000 : Int64)), .second, vi 12] [])
            refine gG X0 hx hby d7_47 47 20 ?_
            refine gI X0 hx hby d7_20 rfl rfl ?_
            refine gB X0 hx hby d7_22 ?_
            refine gU X0 hx hby d7_24 (tlt (by decide : ((12 : Int32) < (19 : Int32)))).2.1 ?_
            refine Gz (XS.lloadN X0.here hx rfl (hb hby d7_27) rfl) ?_
            refine Gz (XS.lloadN X0.here hx rfl (hb hby d7_28) rfl) ?_
            show Goes _ _ _ _ _ (fT s₁ m 29 #[.val (.long (-v)), .second, vi 0, .val (.long (-1000000000000 : Int64)), .second, vi 12] [(.long (-1000000000000 : Int64)), (.long (-v))])
            refine Gz (XS.lcmp X0.here hx rfl (hb hby d7_29) rfl) ?_
            show Goes _ _ _ _ _ (fT s₁ m 30 #[.val (.long (-v)), .second, vi 0, .val (.long (-1000000000000 : Int64)), .second, vi 12] [(.int (lcmpW (-v) (-1000000000000 : Int64)))])
            by_cases hc30_12 : (0 : Int32) < (lcmpW (-v) (-1000000000000 : Int64))
            ·refine gu X0 hx hby d7_30 ((if0 _ _).trans (tlt hc30_12).2.2.2) ?_
             have hk12 : n < 1000000000000 := (own_gtP (P := 1000000000000) hv (by decide)).mp hc30_12
             refine gI X0 hx hby d7_33 rfl rfl ?_
             refine gN X0 hx hby d7_35 rfl rfl ?_
             show Goes _ _ _ _ _ (fT s₁ m 36 #[.val (.long (-v)), .second, vi 0, .val (.long (-1000000000000 : Int64)), .second, vi 12] [(.int 0), (.int 12)])
             refine Gz (XS.iadd X0.here hx rfl (hb hby d7_36) rfl) ?_
             show Goes _ _ _ _ _ (fT s₁ m 37 #[.val (.long (-v)), .second, vi 0, .val (.long (-1000000000000 : Int64)), .second, vi 12] [(.int 12)])
             refine Goes.ret X0 (some (.int 12)) (fun h => by rw [hret] at h; cases h) hlk (by decide) (by decide) ?_ (fun fs hr => ?_)
             ·exact ⟨(congrArg (fun z => some (Value.int z)) (show (12 : Int32) = Int32.ofNat (own_len n) from by rw [show own_len n = 12 from by unfold own_len; simp only [if_pos (show 10 ≤ n by omega), if_pos (show 100 ≤ n by omega), if_pos (show 1000 ≤ n by omega), if_pos (show 10000 ≤ n by omega), if_pos (show 100000 ≤ n by omega), if_pos (show 1000000 ≤ n by omega), if_pos (show 10000000 ≤ n by omega), if_pos (show 100000000 ≤ n by omega), if_pos (show 1000000000 ≤ n by omega), if_pos (show 10000000000 ≤ n by omega), if_pos (show 100000000000 ≤ n by omega), if_neg (show ¬ 1000000000000 ≤ n by omega)]]; rfl)), N0, e0⟩
             ·exact retI X0 hx hret (hb hby d7_37) hr
            ·refine gy X0 hx hby d7_30 30 38 ((if0 _ _).trans (flt hc30_12).2.2.2) ?_
             have hk12 : ¬ n < 1000000000000 := fun q => hc30_12 ((own_gtP (P := 1000000000000) hv (by decide)).mpr q)
             refine Gs (fun _ tk => Jvm.Stand.ldc2J X0 hx hown (gz hZ hw 116 rfl) rfl (hb hby d7_38) tk) ?_
             show Goes _ _ _ _ _ (fT s₁ m 41 #[.val (.long (-v)), .second, vi 0, .val (.long (-1000000000000 : Int64)), .second, vi 12] [(.long (10 : Int64))])
             refine Gz (XS.lloadN X0.here hx rfl (hb hby d7_41) rfl) ?_
             show Goes _ _ _ _ _ (fT s₁ m 42 #[.val (.long (-v)), .second, vi 0, .val (.long (-1000000000000 : Int64)), .second, vi 12] [(.long (-1000000000000 : Int64)), (.long (10 : Int64))])
             refine Gz (XS.lmul X0.here hx rfl (hb hby d7_42) rfl) ?_
             rw [show ((10 : Int64) * (-1000000000000 : Int64)) = (-10000000000000 : Int64) from by decide]
             show Goes _ _ _ _ _ (fT s₁ m 43 #[.val (.long (-v)), .second, vi 0, .val (.long (-1000000000000 : Int64)), .second, vi 12] [(.long (-10000000000000 : Int64))])
             refine Gz (XS.lstoreN X0.here hx rfl (hb hby d7_43) rfl (l' := #[.val (.long (-v)), .second, vi 0, .val (.long (-10000000000000 : Int64)), .second, vi 12]) rfl) ?_
             show Goes _ _ _ _ _ (fT s₁ m 44 #[.val (.long (-v)), .second, vi 0, .val (.long (-10000000000000 : Int64)), .second, vi 12] [])
             refine Gz (XS.iinc X0.here hx rfl (hb hby d7_44) rfl (l' := #[.val (.long (-v)), .second, vi 0, .val (.long (-10000000000000 : Int64)), .second, vi ((12 : Int32) + (1 : Int32))]) rfl) ?_
             show Goes _ _ _ _ _ (fT s₁ m 47 #[.val (.long (-v)), .second, vi 0, .val (.long (-10000000000000 : Int64)), .second, vi 13] [])
             refine gG X0 hx hby d7_47 47 20 ?_
             refine gI X0 hx hby d7_20 rfl rfl ?_
             refine gB X0 hx hby d7_22 ?_
             refine gU X0 hx hby d7_24 (tlt (by decide : ((13 : Int32) < (19 : Int32)))).2.1 ?_
             refine Gz (XS.lloadN X0.here hx rfl (hb hby d7_27) rfl) ?_
             refine Gz (XS.lloadN X0.here hx rfl (hb hby d7_28) rfl) ?_
             show Goes _ _ _ _ _ (fT s₁ m 29 #[.val (.long (-v)), .second, vi 0, .val (.long (-10000000000000 : Int64)), .second, vi 13] [(.long (-10000000000000 : Int64)), (.long (-v))])
             refine Gz (XS.lcmp X0.here hx rfl (hb hby d7_29) rfl) ?_
             show Goes _ _ _ _ _ (fT s₁ m 30 #[.val (.long (-v)), .second, vi 0, .val (.long (-10000000000000 : Int64)), .second, vi 13] [(.int (lcmpW (-v) (-10000000000000 : Int64)))])
             have hc30_13 : (0 : Int32) < (lcmpW (-v) (-10000000000000 : Int64)) := (own_gtP (P := 10000000000000) hv (by decide)).mpr hn
             refine gu X0 hx hby d7_30 ((if0 _ _).trans (tlt hc30_13).2.2.2) ?_
             refine gI X0 hx hby d7_33 rfl rfl ?_
             refine gN X0 hx hby d7_35 rfl rfl ?_
             show Goes _ _ _ _ _ (fT s₁ m 36 #[.val (.long (-v)), .second, vi 0, .val (.long (-10000000000000 : Int64)), .second, vi 13] [(.int 0), (.int 13)])
             refine Gz (XS.iadd X0.here hx rfl (hb hby d7_36) rfl) ?_
             show Goes _ _ _ _ _ (fT s₁ m 37 #[.val (.long (-v)), .second, vi 0, .val (.long (-10000000000000 : Int64)), .second, vi 13] [(.int 13)])
             refine Goes.ret X0 (some (.int 13)) (fun h => by rw [hret] at h; cases h) hlk (by decide) (by decide) ?_ (fun fs hr => ?_)
             ·exact ⟨(congrArg (fun z => some (Value.int z)) (show (13 : Int32) = Int32.ofNat (own_len n) from by rw [show own_len n = 13 from by unfold own_len; simp only [if_pos (show 10 ≤ n by omega), if_pos (show 100 ≤ n by omega), if_pos (show 1000 ≤ n by omega), if_pos (show 10000 ≤ n by omega), if_pos (show 100000 ≤ n by omega), if_pos (show 1000000 ≤ n by omega), if_pos (show 10000000 ≤ n by omega), if_pos (show 100000000 ≤ n by omega), if_pos (show 1000000000 ≤ n by omega), if_pos (show 10000000000 ≤ n by omega), if_pos (show 100000000000 ≤ n by omega), if_pos (show 1000000000000 ≤ n by omega)]]; rfl)), N0, e0⟩
             ·exact retI X0 hx hret (hb hby d7_37) hr
theorem d8_0 : DK kc3 0 (.iload_n 2) 1 := by decide +kernel
theorem d8_1 : DK kc3 1 (.istore 7) 2 := by decide +kernel
theorem d8_3 : DK kc3 3 (.lload_n 0) 1 := by decide +kernel
theorem d8_4 : DK kc3 4 (.lconst 0) 1 := by decide +kernel
theorem d8_5 : DK kc3 5 .lcmp 1 := by decide +kernel
theorem d8_6 : DK kc3 6 (.ifCond .ge 7) 3 := by decide +kernel
theorem d8_13 : DK kc3 13 (.iconst 0) 1 := by decide +kernel
theorem d8_14 : DK kc3 14 (.istore 8) 2 := by decide +kernel
theorem d8_16 : DK kc3 16 (.iload 8) 2 := by decide +kernel
theorem d8_18 : DK kc3 18 (.ifCond .ne 6) 3 := by decide +kernel
theorem d8_21 : DK kc3 21 (.lload_n 0) 1 := by decide +kernel
theorem d8_22 : DK kc3 22 .lneg 1 := by decide +kernel
theorem d8_23 : DK kc3 23 (.lstore_n 0) 1 := by decide +kernel
theorem d8_24 : DK kc3 24 (.lload_n 0) 1 := by decide +kernel
theorem d8_25 : DK kc3 25 (.ldc2_w 129) 3 := by decide +kernel
theorem d8_28 : DK kc3 28 .lcmp 1 := by decide +kernel
theorem d8_29 : DK kc3 29 (.ifCond .gt 53) 3 := by decide +kernel
theorem d8_82 : DK kc3 82 (.lload_n 0) 1 := by decide +kernel
theorem d8_83 : DK kc3 83 .l2i 1 := by decide +kernel
theorem d8_84 : DK kc3 84 (.istore 10) 2 := by decide +kernel
theorem d8_86 : DK kc3 86 (.iload 10) 2 := by decide +kernel
theorem d8_88 : DK kc3 88 (.bipush (-100)) 2 := by decide +kernel
theorem d8_90 : DK kc3 90 (.if_icmp .gt 53) 3 := by decide +kernel
theorem d8_143 : DK kc3 143 (.aload_n 3) 1 := by decide +kernel
theorem d8_144 : DK kc3 144 (.iinc 7 (-1)) 3 := by decide +kernel
theorem d8_147 : DK kc3 147 (.iload 7) 2 := by decide +kernel
theorem d8_149 : DK kc3 149 (.getstatic 133) 3 := by decide +kernel
theorem d8_152 : DK kc3 152 (.iload 10) 2 := by decide +kernel
theorem d8_154 : DK kc3 154 .ineg 1 := by decide +kernel
theorem d8_155 : DK kc3 155 .baload 1 := by decide +kernel
theorem d8_156 : DK kc3 156 .bastore 1 := by decide +kernel
theorem d8_157 : DK kc3 157 (.iload 10) 2 := by decide +kernel
theorem d8_159 : DK kc3 159 (.bipush (-9)) 2 := by decide +kernel
theorem d8_161 : DK kc3 161 (.if_icmp .ge 17) 3 := by decide +kernel
theorem d8_164 : DK kc3 164 (.aload_n 3) 1 := by decide +kernel
theorem d8_165 : DK kc3 165 (.iinc 7 (-1)) 3 := by decide +kernel
theorem d8_168 : DK kc3 168 (.iload 7) 2 := by decide +kernel
theorem d8_170 : DK kc3 170 (.getstatic 137) 3 := by decide +kernel
theorem d8_173 : DK kc3 173 (.iload 10) 2 := by decide +kernel
theorem d8_175 : DK kc3 175 .ineg 1 := by decide +kernel
theorem d8_176 : DK kc3 176 .baload 1 := by decide +kernel
theorem d8_177 : DK kc3 177 .bastore 1 := by decide +kernel
theorem d8_178 : DK kc3 178 (.iload 8) 2 := by decide +kernel
theorem d8_180 : DK kc3 180 (.ifCond .eq 12) 3 := by decide +kernel
theorem d8_192 : DK kc3 192 (.iload 7) 2 := by decide +kernel
theorem d8_194 : DK kc3 194 .ireturn 1 := by decide +kernel
theorem d8_93 : DK kc3 93 (.iload 10) 2 := by decide +kernel
theorem d8_95 : DK kc3 95 (.bipush 100) 2 := by decide +kernel
theorem d8_97 : DK kc3 97 .idiv 1 := by decide +kernel
theorem d8_98 : DK kc3 98 (.istore 9) 2 := by decide +kernel
theorem d8_100 : DK kc3 100 (.iload 9) 2 := by decide +kernel
theorem d8_102 : DK kc3 102 (.bipush 100) 2 := by decide +kernel
theorem d8_104 : DK kc3 104 .imul 1 := by decide +kernel
theorem d8_105 : DK kc3 105 (.iload 10) 2 := by decide +kernel
theorem d8_107 : DK kc3 107 .isub 1 := by decide +kernel
theorem d8_108 : DK kc3 108 (.istore 6) 2 := by decide +kernel
theorem d8_110 : DK kc3 110 (.iload 9) 2 := by decide +kernel
theorem d8_112 : DK kc3 112 (.istore 10) 2 := by decide +kernel
theorem d8_114 : DK kc3 114 (.aload_n 3) 1 := by decide +kernel
theorem d8_115 : DK kc3 115 (.iinc 7 (-1)) 3 := by decide +kernel
theorem d8_118 : DK kc3 118 (.iload 7) 2 := by decide +kernel
theorem d8_120 : DK kc3 120 (.getstatic 133) 3 := by decide +kernel
theorem d8_123 : DK kc3 123 (.iload 6) 2 := by decide +kernel
theorem d8_125 : DK kc3 125 .baload 1 := by decide +kernel
theorem d8_126 : DK kc3 126 .bastore 1 := by decide +kernel
theorem d8_127 : DK kc3 127 (.aload_n 3) 1 := by decide +kernel
theorem d8_128 : DK kc3 128 (.iinc 7 (-1)) 3 := by decide +kernel
theorem d8_131 : DK kc3 131 (.iload 7) 2 := by decide +kernel
theorem d8_133 : DK kc3 133 (.getstatic 137) 3 := by decide +kernel
theorem d8_136 : DK kc3 136 (.iload 6) 2 := by decide +kernel
theorem d8_138 : DK kc3 138 .baload 1 := by decide +kernel
theorem d8_139 : DK kc3 139 .bastore 1 := by decide +kernel
theorem d8_140 : DK kc3 140 (.goto (-54)) 3 := by decide +kernel
theorem d8_32 : DK kc3 32 (.lload_n 0) 1 := by decide +kernel
theorem d8_33 : DK kc3 33 (.ldc2_w 131) 3 := by decide +kernel
theorem d8_36 : DK kc3 36 .ldiv 1 := by decide +kernel
theorem d8_37 : DK kc3 37 (.lstore 4) 2 := by decide +kernel
theorem d8_39 : DK kc3 39 (.lload 4) 2 := by decide +kernel
theorem d8_41 : DK kc3 41 (.ldc2_w 131) 3 := by decide +kernel
theorem d8_44 : DK kc3 44 .lmul 1 := by decide +kernel
theorem d8_45 : DK kc3 45 (.lload_n 0) 1 := by decide +kernel
theorem d8_46 : DK kc3 46 .lsub 1 := by decide +kernel
theorem d8_47 : DK kc3 47 .l2i 1 := by decide +kernel
theorem d8_48 : DK kc3 48 (.istore 6) 2 := by decide +kernel
theorem d8_50 : DK kc3 50 (.lload 4) 2 := by decide +kernel
theorem d8_52 : DK kc3 52 (.lstore_n 0) 1 := by decide +kernel
theorem d8_53 : DK kc3 53 (.aload_n 3) 1 := by decide +kernel
theorem d8_54 : DK kc3 54 (.iinc 7 (-1)) 3 := by decide +kernel
theorem d8_57 : DK kc3 57 (.iload 7) 2 := by decide +kernel
theorem d8_59 : DK kc3 59 (.getstatic 133) 3 := by decide +kernel
theorem d8_62 : DK kc3 62 (.iload 6) 2 := by decide +kernel
theorem d8_64 : DK kc3 64 .baload 1 := by decide +kernel
theorem d8_65 : DK kc3 65 .bastore 1 := by decide +kernel
theorem d8_66 : DK kc3 66 (.aload_n 3) 1 := by decide +kernel
theorem d8_67 : DK kc3 67 (.iinc 7 (-1)) 3 := by decide +kernel
theorem d8_70 : DK kc3 70 (.iload 7) 2 := by decide +kernel
theorem d8_72 : DK kc3 72 (.getstatic 137) 3 := by decide +kernel
theorem d8_75 : DK kc3 75 (.iload 6) 2 := by decide +kernel
theorem d8_77 : DK kc3 77 .baload 1 := by decide +kernel
theorem d8_78 : DK kc3 78 .bastore 1 := by decide +kernel
theorem d8_79 : DK kc3 79 (.goto (-55)) 3 := by decide +kernel
theorem own_ef_rm_gc (m : MethodId) (x0 : Int64) (x1 : Int32) (x2 : Addr) : entryFrame m #[(.long x0), (.int x1), (.ref x2)] 11 = mkF m 0 #[.val (.long x0), .second, vi x1, vr x2, vu, vu, vu, vu, vu, vu, vu] [] := by first | (simp [entryFrame, mkF, argsToLocals, Value.category]; done) | rfl
def Q_rm_gc (Z : State) (v : Int64) (n : Nat) (b : Addr) (kb : ClassId) (z : Int32) (d1 : Addr) (k1 : ClassId) (d2 : Addr) (k2 : ClassId) (h0 : Heap) (n0 : Nat) (v : Option Value) (h : Heap) (L : List Loc) : Prop := v = some (.int 0) ∧ Fr n0 L ∧ Keep h0 h [b] ∧ Arv Z h b kb .byte z (latV (own_dg n)) (.int 0)
theorem rm_gc (l : Launch) (Z : State) (a0 : Array Value) (hw : HW a0 Z) (ws : List Jvm.Cond) (v : Int64) (n : Nat) (b : Addr) (kb : ClassId) (z : Int32) (d1 : Addr) (k1 : ClassId) (d2 : Addr) (k2 : ClassId) (h0 : Heap) (n0 : Nat) (Z0 : n0 ≤ h0.size) (V_b : Arv Z h0 b kb .byte z [] (.int 0)) (g_b : n0 ≤ b) (hv : v.toInt = (n : Int)) (hn : n < 10000000000000) (hz : own_len n ≤ z.toNatClampNeg) (S_DigitOnes : Sta Z h0 "java/lang/Integer" "DigitOnes" "[B" (.ref d1)) (S_DigitTens : Sta Z h0 "java/lang/Integer" "DigitTens" "[B" (.ref d2)) (V_d1 : Arv Z h0 d1 k1 .byte 100 own_ones (.int 0)) (V_d2 : Arv Z h0 d2 k2 .byte 100 own_tens (.int 0)) (ne_d1_b : d1 ≠ b) (ne_d2_b : d2 ≠ b) :
  Met l Z mN8 jdk_35_method_14_code 11 (some .int) ({ frames := 0, cells := 0, slots := 0, locals := 0 } : Room) ws #[(.long v), (.int (Int32.ofNat (own_len n))), (.ref b)] h0 (Q_rm_gc Z v n b kb z d1 k1 d2 k2 h0 n0) := by
 refine own_met (plainFor_of_name own_pn3) ?_
 intro p e s m below meth c s₁ hret hx hby hlk hml hown hnm X0 e0 hZ hh
 have N0 := Fr.nil n0
 refine Gz (castTop (own_ef_rm_gc m v (Int32.ofNat (own_len n)) b)) ?_
 have KP : Keep h0 h0 [b] := Keep.refl _ _
 show Goes _ _ _ _ _ (fT s₁ m 0 #[.val (.long v), .second, vi (Int32.ofNat (own_len n)), vr b, vu, vu, vu, vu, vu, vu, vu] [])
 refine gN X0 hx hby d8_0 rfl rfl ?_
 refine gS X0 hx hby d8_1 #[.val (.long v), .second, vi (Int32.ofNat (own_len n)), vr b, vu, vu, vu, vi (Int32.ofNat (own_len n)), vu, vu, vu] ?_
 refine Gz (XS.lloadN X0.here hx rfl (hb hby d8_3) rfl) ?_
 refine Gz (XS.lconst X0.here hx rfl (hb hby d8_4)) ?_
 refine Gz (XS.lcmp X0.here hx rfl (hb hby d8_5) rfl) ?_
 show Goes _ _ _ _ _ (fT s₁ m 6 #[.val (.long v), .second, vi (Int32.ofNat (own_len n)), vr b, vu, vu, vu, vi (Int32.ofNat (own_len n)), vu, vu, vu] [(.int (lcmpW v (0 : Int64)))])
 refine gy X0 hx hby d8_6 6 13 ((if0 _ _).trans (flt (own_v0 hv)).2.1) ?_
 refine gC X0 hx hby d8_13 ?_
 refine gS X0 hx hby d8_14 #[.val (.long v), .second, vi (Int32.ofNat (own_len n)), vr b, vu, vu, vu, vi (Int32.ofNat (own_len n)), vi 0, vu, vu] ?_
 refine gI X0 hx hby d8_16 rfl rfl ?_
 refine gu X0 hx hby d8_18 ((if0 _ _).trans (teq (by decide : ((0 : Int32) = (0 : Int32)))).2) ?_
 refine Gz (XS.lloadN X0.here hx rfl (hb hby d8_21) rfl) ?_
 show Goes _ _ _ _ _ (fT s₁ m 22 #[.val (.long v), .second, vi (Int32.ofNat (own_len n)), vr b, vu, vu, vu, vi (Int32.ofNat (own_len n)), vi 0, vu, vu] [(.long v)])
 refine Gz (XS.lneg X0.here hx rfl (hb hby d8_22) rfl) ?_
 show Goes _ _ _ _ _ (fT s₁ m 23 #[.val (.long v), .second, vi (Int32.ofNat (own_len n)), vr b, vu, vu, vu, vi (Int32.ofNat (own_len n)), vi 0, vu, vu] [(.long (-v))])
 refine Gz (XS.lstoreN X0.here hx rfl (hb hby d8_23) rfl (l' := #[.val (.long (-v)), .second, vi (Int32.ofNat (own_len n)), vr b, vu, vu, vu, vi (Int32.ofNat (own_len n)), vi 0, vu, vu]) rfl) ?_
 show Goes _ _ _ _ _ (fT s₁ m 24 #[.val (.long (-v)), .second, vi (Int32.ofNat (own_len n)), vr b, vu, vu, vu, vi (Int32.ofNat (own_len n)), vi 0, vu, vu] [])
 have h13 := own_len13 n
 have h1 := own_lenP n
 have hzn : ¬ z < 0 := V_b.choose_spec.2.2.2.1
 have V_b' : Arv Z h0 b kb .byte z (own_bq n (own_len n - 0)) (.int 0) := by rw [Nat.sub_zero, own_bqN]; have q := V_b.pad (pad_rep [] (.int 0) (own_len n)); rwa [List.nil_append] at q
 have hob : Ob h0 b := own_obA V_b
 have zS_DigitOnes := S_DigitOnes
 have zS_DigitTens := S_DigitTens
 have zV_d1 := V_d1
 have zV_d2 := V_d2
 refine own_loopG (ι := Nat × Int64 × Slot × Slot × Slot) (μ := fun i => own_len n - i.1) (I := fun i T L => i.1 < own_len n ∧ i.2.1.toInt = -((own_q n i.1 : Nat) : Int) ∧ ((i.2.2.1 = .unset ∧ i.2.2.2.1 = .unset ∧ i.2.2.2.2 = .unset) ∨ ∃ (qa : Int64) (ra : Int32), i.2.2.1 = .val (.long qa) ∧ i.2.2.2.1 = .second ∧ i.2.2.2.2 = vi ra) ∧ Fr n0 L ∧ n0 ≤ T.heap.size ∧ Keep h0 T.heap [b] ∧ Arv Z T.heap b kb .byte z (own_bq n (own_len n - i.1)) (.int 0)) (B := fun i T => T.setTop (mkF m 24 #[.val (.long i.2.1), .second, vi (Int32.ofNat (own_len n)), vr b, i.2.2.1, i.2.2.2.1, i.2.2.2.2, vi (Int32.ofNat (own_len n - i.1)), vi 0, vu, vu] [])) ?_ (0, -v, vu, vu, .unset) X0 ⟨h1, own_neg hv, Or.inl ⟨rfl, rfl, rfl⟩, N0, (by rw [e0]; exact Z0), (by rw [e0]; exact KP), (by rw [e0]; exact V_b')⟩
 rintro ⟨k, i, u4, u5, u6⟩ T L X ⟨hk, hi, hu, N, Z0, KP, V_b⟩ ih
 dsimp only at hk hi hu V_b ih ⊢
 have S_DigitOnes := own_staK zS_DigitOnes KP (allS hob all0)
 have S_DigitTens := own_staK zS_DigitTens KP (allS hob all0)
 have V_d1 := zV_d1.keep KP (ninS ne_d1_b nin0)
 have V_d2 := zV_d2.keep KP (ninS ne_d2_b nin0)
 show Goes _ _ _ _ _ (fT T m 24 #[.val (.long i), .second, vi (Int32.ofNat (own_len n)), vr b, u4, u5, u6, vi (Int32.ofNat (own_len n - k)), vi 0, vu, vu] [])
 have hqn : own_q n k < 10000000000000 := Nat.lt_of_le_of_lt (own_qle n k) hn
 have hql := own_qlen hn k hk
 refine Gz (XS.lloadN X.here hx rfl (hb hby d8_24) rfl) ?_
 refine Gs (fun _ tk => Jvm.Stand.ldc2J X hx hown (gz hZ hw 61 rfl) rfl (hb hby d8_25) tk) ?_
 show Goes _ _ _ _ _ (fT T m 28 #[.val (.long i), .second, vi (Int32.ofNat (own_len n)), vr b, u4, u5, u6, vi (Int32.ofNat (own_len n - k)), vi 0, vu, vu] [(.long (-2147483648 : Int64)), (.long i)])
 refine Gz (XS.lcmp X.here hx rfl (hb hby d8_28) rfl) ?_
 show Goes _ _ _ _ _ (fT T m 29 #[.val (.long i), .second, vi (Int32.ofNat (own_len n)), vr b, u4, u5, u6, vi (Int32.ofNat (own_len n - k)), vi 0, vu, vu] [(.int (lcmpW i (-2147483648 : Int64)))])
 by_cases hc29_1 : (0 : Int32) < (lcmpW i (-2147483648 : Int64))
 ·refine gy X hx hby d8_29 29 82 ((if0 _ _).trans (tlt hc29_1).2.2.1) ?_
  have hsm : own_q n k < 2147483648 := by have z := (lw_gt _ _).mp hc29_1; rw [Int64.lt_iff_toInt_lt, hi, show (-2147483648 : Int64).toInt = -2147483648 from by decide] at z; omega
  refine Gz (XS.lloadN X.here hx rfl (hb hby d8_82) rfl) ?_
  show Goes _ _ _ _ _ (fT T m 83 #[.val (.long i), .second, vi (Int32.ofNat (own_len n)), vr b, u4, u5, u6, vi (Int32.ofNat (own_len n - k)), vi 0, vu, vu] [(.long i)])
  refine Gz (XS.l2i X.here hx rfl (hb hby d8_83) rfl) ?_
  show Goes _ _ _ _ _ (fT T m 84 #[.val (.long i), .second, vi (Int32.ofNat (own_len n)), vr b, u4, u5, u6, vi (Int32.ofNat (own_len n - k)), vi 0, vu, vu] [(.int (i.toInt32))])
  refine gS X hx hby d8_84 #[.val (.long i), .second, vi (Int32.ofNat (own_len n)), vr b, u4, u5, u6, vi (Int32.ofNat (own_len n - k)), vi 0, vu, vi (i.toInt32)] ?_
  show Goes _ _ _ _ _ (fT T m 86 #[.val (.long i), .second, vi (Int32.ofNat (own_len n)), vr b, u4, u5, u6, vi (Int32.ofNat (own_len n - k)), vi 0, vu, vi (i.toInt32)] [])
  have hi2 : i.toInt32.toInt = -((own_q n k : Nat) : Int) := by have z := c_l2i i; have y := rng32 i.toInt32; omega
  clear ih
  generalize hil : i.toInt32 = i0 at hi2 ⊢
  generalize i = il
  refine own_loopG (ι := Nat × Int32 × Slot × Slot) (μ := fun i => own_len n - i.1) (I := fun i T L => i.1 < own_len n ∧ i.2.1.toInt = -((own_q n i.1 : Nat) : Int) ∧ own_q n i.1 < 2147483648 ∧ ((i.2.2.1 = .unset ∧ i.2.2.2 = .unset) ∨ (∃ ra : Int32, i.2.2.1 = vi ra ∧ i.2.2.2 = .unset) ∨ ∃ (ra qb : Int32), i.2.2.1 = vi ra ∧ i.2.2.2 = vi qb) ∧ Fr n0 L ∧ n0 ≤ T.heap.size ∧ Keep h0 T.heap [b] ∧ Arv Z T.heap b kb .byte z (own_bq n (own_len n - i.1)) (.int 0)) (B := fun i T => T.setTop (mkF m 86 #[.val (.long il), .second, vi (Int32.ofNat (own_len n)), vr b, u4, u5, i.2.2.1, vi (Int32.ofNat (own_len n - i.1)), vi 0, i.2.2.2, vi i.2.1] [])) ?_ (k, i0, u6, .unset) X ⟨hk, hi2, hsm, ?_, N, Z0, KP, V_b⟩
  ·clear hk hi hi2 hsm hqn hql hil
   rintro ⟨k, i, u6, u9⟩ T L X ⟨hk, hi, hsm, hu, N, Z0, KP, V_b⟩ ih
   dsimp only at hk hi hsm hu V_b ih ⊢
   have S_DigitOnes := own_staK zS_DigitOnes KP (allS hob all0)
   have S_DigitTens := own_staK zS_DigitTens KP (allS hob all0)
   have V_d1 := zV_d1.keep KP (ninS ne_d1_b nin0)
   have V_d2 := zV_d2.keep KP (ninS ne_d2_b nin0)
   show Goes _ _ _ _ _ (fT T m 86 #[.val (.long il), .second, vi (Int32.ofNat (own_len n)), vr b, u4, u5, u6, vi (Int32.ofNat (own_len n - k)), vi 0, u9, vi i] [])
   have hqn : own_q n k < 10000000000000 := Nat.lt_of_le_of_lt (own_qle n k) hn
   have hql := own_qlen hn k hk
   have hp1 := own_pI (p := own_len n - k) (by omega) (rfl : z.toNatClampNeg = z.toNatClampNeg) (by omega) (by omega)
   refine gI X hx hby d8_86 rfl rfl ?_
   refine gB X hx hby d8_88 ?_
   by_cases hc90_2 : (-100 : Int32) < i
   ·refine gY X hx hby d8_90 90 143 (tlt hc90_2).2.2.1 ?_
    have hlt : own_q n k < 100 := by have z := hc90_2; rw [Int32.lt_iff_toInt_lt, hi, show (-100 : Int32).toInt = -100 from by decide] at z; omega
    have hng : (-i).toInt = ((own_q n k : Nat) : Int) := by have z := c_ineg i; have y := rng32 (-i); omega
    refine gA X hx hby d8_143 rfl rfl rfl ?_
    show Goes _ _ _ _ _ (fT T m 144 #[.val (.long il), .second, vi (Int32.ofNat (own_len n)), vr b, u4, u5, u6, vi (Int32.ofNat (own_len n - k)), vi 0, u9, vi i] [(.ref b)])
    refine Gz (XS.iinc X.here hx rfl (hb hby d8_144) rfl (l' := #[.val (.long il), .second, vi (Int32.ofNat (own_len n)), vr b, u4, u5, u6, vi ((Int32.ofNat (own_len n - k)) + (-1 : Int32)), vi 0, u9, vi i]) rfl) ?_
    show Goes _ _ _ _ _ (fT T m 147 #[.val (.long il), .second, vi (Int32.ofNat (own_len n)), vr b, u4, u5, u6, vi ((Int32.ofNat (own_len n - k)) + (-1 : Int32)), vi 0, u9, vi i] [(.ref b)])
    rw [hp1.1]
    show Goes _ _ _ _ _ (fT T m 147 #[.val (.long il), .second, vi (Int32.ofNat (own_len n)), vr b, u4, u5, u6, vi (Int32.ofNat (own_len n - k - 1)), vi 0, u9, vi i] [(.ref b)])
    refine gI X hx hby d8_147 rfl rfl ?_
    obtain ⟨T3, X3, e3, st3⟩ := getS2 X hx hZ hown (host := "") (Or.inl (gw hw 62 rfl)) Via.refl rfl S_DigitOnes (g := (mkF m 149 #[.val (.long il), .second, vi (Int32.ofNat (own_len n)), vr b, u4, u5, u6, vi (Int32.ofNat (own_len n - k - 1)), vi 0, u9, vi i] [(.int (Int32.ofNat (own_len n - k - 1))), (.ref b)])) rfl (hb hby d8_149)
    refine Gs st3 ?_
    show Goes _ _ _ _ _ (fT T3 m 152 #[.val (.long il), .second, vi (Int32.ofNat (own_len n)), vr b, u4, u5, u6, vi (Int32.ofNat (own_len n - k - 1)), vi 0, u9, vi i] [(.ref d1), (.int (Int32.ofNat (own_len n - k - 1))), (.ref b)])
    refine gI X3 hx hby d8_152 rfl rfl ?_
    show Goes _ _ _ _ _ (fT T3 m 154 #[.val (.long il), .second, vi (Int32.ofNat (own_len n)), vr b, u4, u5, u6, vi (Int32.ofNat (own_len n - k - 1)), vi 0, u9, vi i] [(.int i), (.ref d1), (.int (Int32.ofNat (own_len n - k - 1))), (.ref b)])
    refine Gz (XS.ineg X3.here hx rfl (hb hby d8_154) rfl) ?_
    show Goes _ _ _ _ _ (fT T3 m 155 #[.val (.long il), .second, vi (Int32.ofNat (own_len n)), vr b, u4, u5, u6, vi (Int32.ofNat (own_len n - k - 1)), vi 0, u9, vi i] [(.int (-i)), (.ref d1), (.int (Int32.ofNat (own_len n - k - 1))), (.ref b)])
    obtain ⟨cl4, Ar4, -, S4, N4z, H4, -⟩ := id V_d1
    have hin4 : ¬ ((-i) < 0 ∨ cl4.slots.size ≤ ((-i)).toNatClampNeg) := inb_of S4 ⟨(own_rI hng hlt).1, (own_rI hng hlt).2.1⟩
    have hat4 : cl4.slots[((-i)).toNatClampNeg]? = some (.int (own_dc ((own_q n k) % 10))) := Has.at H4 hin4 (by rw [(own_rI hng hlt).2.2]; exact own_tabG (fun r => own_dc (r % 10)) hlt _)
    refine Gs (fun _ tk => X3.baloadBytes hx (j := (-i)) (v := (.int (own_dc ((own_q n k) % 10)))) (by rw [e3]; exact Ar4.1) (State.isArrayOf_alike hZ.alike Ar4.2.1) Ar4.2.2 hin4 hat4 (g := (mkF m 155 #[.val (.long il), .second, vi (Int32.ofNat (own_len n)), vr b, u4, u5, u6, vi (Int32.ofNat (own_len n - k - 1)), vi 0, u9, vi i] [(.int (-i)), (.ref d1), (.int (Int32.ofNat (own_len n - k - 1))), (.ref b)])) rfl rfl (hb hby d8_155) _ tk) ?_
    show Goes _ _ _ _ _ (fT T3 m 156 #[.val (.long il), .second, vi (Int32.ofNat (own_len n)), vr b, u4, u5, u6, vi (Int32.ofNat (own_len n - k - 1)), vi 0, u9, vi i] [(.int (own_dc ((own_q n k) % 10))), (.int (Int32.ofNat (own_len n - k - 1))), (.ref b)])
    obtain ⟨cl5, Ar5, q5, S5, N5z, H5, G5⟩ := V_b
    have hin5 : ¬ ((Int32.ofNat (own_len n - k - 1)) < 0 ∨ cl5.slots.size ≤ ((Int32.ofNat (own_len n - k - 1))).toNatClampNeg) := inb_of S5 ⟨hp1.2.1, hp1.2.2.1⟩
    obtain ⟨T5, h5, X5, e5, W5, st5⟩ := stB X3 hx hZ e3 Ar5 (j := (Int32.ofNat (own_len n - k - 1))) hin5 (g := (mkF m 156 #[.val (.long il), .second, vi (Int32.ofNat (own_len n)), vr b, u4, u5, u6, vi (Int32.ofNat (own_len n - k - 1)), vi 0, u9, vi i] [(.int (own_dc ((own_q n k) % 10))), (.int (Int32.ofNat (own_len n - k - 1))), (.ref b)])) rfl rfl (hb hby d8_156)
    have Vn5 := Arv.set Ar5 q5 S5 N5z H5 G5 (fits_nar_byte _) W5 (own_len n - k - 1) hp1.2.2.2 (by rw [own_bqL (by omega)]; omega)
    have N5 := Fr.snoc X5 N g_b
    replace S_DigitOnes := S_DigitOnes.wr W5
    replace S_DigitTens := S_DigitTens.wr W5
    replace V_d1 := V_d1.other W5 ne_d1_b
    replace V_d2 := V_d2.other W5 ne_d2_b
    replace KP := KP.wr W5 (Or.inl (List.mem_of_getElem? (i := 0) rfl))
    have hv5 : Value.int (lo8 (own_dc ((own_q n k) % 10))) = .int (lo8 (own_dc (own_q n (own_len n - 1 - (own_len n - k - 1)) % 10))) := congrArg (fun z => Value.int (lo8 z)) (by rw [show own_len n - 1 - (own_len n - k - 1) = k from by omega])
    have V_b : Arv Z h5 b kb .byte z (own_bq n (own_len n - k - 1)) (.int 0) := own_arvE Vn5 (own_bqT (by omega) (by omega) hv5)
    replace Z0 : n0 ≤ h5.size := by rw [W5.size]; exact Z0
    refine Gs st5 ?_
    show Goes _ _ _ _ _ (fT T5 m 157 #[.val (.long il), .second, vi (Int32.ofNat (own_len n)), vr b, u4, u5, u6, vi (Int32.ofNat (own_len n - k - 1)), vi 0, u9, vi i] [])
    refine gI X5 hx hby d8_157 rfl rfl ?_
    refine gB X5 hx hby d8_159 ?_
    by_cases hc161_6 : i < (-9 : Int32)
    ·refine gU X5 hx hby d8_161 (tlt hc161_6).2.1 ?_
     have hten : 10 ≤ own_q n k := by have z := hc161_6; rw [Int32.lt_iff_toInt_lt, hi, show (-9 : Int32).toInt = -9 from by decide] at z; omega
     have hend : own_len n = k + 2 := by have z := own_lenS hten hqn; have y := own_len1 (n := own_q n k / 10) (by omega); omega
     have hp2 := own_pI (p := own_len n - k - 1) (by omega) (rfl : z.toNatClampNeg = z.toNatClampNeg) (by omega) (by omega)
     refine gA X5 hx hby d8_164 rfl rfl rfl ?_
     show Goes _ _ _ _ _ (fT T5 m 165 #[.val (.long il), .second, vi (Int32.ofNat (own_len n)), vr b, u4, u5, u6, vi (Int32.ofNat (own_len n - k - 1)), vi 0, u9, vi i] [(.ref b)])
     refine Gz (XS.iinc X5.here hx rfl (hb hby d8_165) rfl (l' := #[.val (.long il), .second, vi (Int32.ofNat (own_len n)), vr b, u4, u5, u6, vi ((Int32.ofNat (own_len n - k - 1)) + (-1 : Int32)), vi 0, u9, vi i]) rfl) ?_
     show Goes _ _ _ _ _ (fT T5 m 168 #[.val (.long il), .second, vi (Int32.ofNat (own_len n)), vr b, u4, u5, u6, vi ((Int32.ofNat (own_len n - k - 1)) + (-1 : Int32)), vi 0, u9, vi i] [(.ref b)])
     rw [hp2.1]
     show Goes _ _ _ _ _ (fT T5 m 168 #[.val (.long il), .second, vi (Int32.ofNat (own_len n)), vr b, u4, u5, u6, vi (Int32.ofNat (own_len n - k - 1 - 1)), vi 0, u9, vi i] [(.ref b)])
     refine gI X5 hx hby d8_168 rfl rfl ?_
     obtain ⟨T7, X7, e7, st7⟩ := getS2 X5 hx hZ hown (host := "") (Or.inl (gw hw 119 rfl)) Via.refl e5 S_DigitTens (g := (mkF m 170 #[.val (.long il), .second, vi (Int32.ofNat (own_len n)), vr b, u4, u5, u6, vi (Int32.ofNat (own_len n - k - 1 - 1)), vi 0, u9, vi i] [(.int (Int32.ofNat (own_len n - k - 1 - 1))), (.ref b)])) rfl (hb hby d8_170)
     refine Gs st7 ?_
     show Goes _ _ _ _ _ (fT T7 m 173 #[.val (.long il), .second, vi (Int32.ofNat (own_len n)), vr b, u4, u5, u6, vi (Int32.ofNat (own_len n - k - 1 - 1)), vi 0, u9, vi i] [(.ref d2), (.int (Int32.ofNat (own_len n - k - 1 - 1))), (.ref b)])
     refine gI X7 hx hby d8_173 rfl rfl ?_
     show Goes _ _ _ _ _ (fT T7 m 175 #[.val (.long il), .second, vi (Int32.ofNat (own_len n)), vr b, u4, u5, u6, vi (Int32.ofNat (own_len n - k - 1 - 1)), vi 0, u9, vi i] [(.int i), (.ref d2), (.int (Int32.ofNat (own_len n - k - 1 - 1))), (.ref b)])
     refine Gz (XS.ineg X7.here hx rfl (hb hby d8_175) rfl) ?_
     show Goes _ _ _ _ _ (fT T7 m 176 #[.val (.long il), .second, vi (Int32.ofNat (own_len n)), vr b, u4, u5, u6, vi (Int32.ofNat (own_len n - k - 1 - 1)), vi 0, u9, vi i] [(.int (-i)), (.ref d2), (.int (Int32.ofNat (own_len n - k - 1 - 1))), (.ref b)])
     obtain ⟨cl8, Ar8, -, S8, N8z, H8, -⟩ := id V_d2
     have hin8 : ¬ ((-i) < 0 ∨ cl8.slots.size ≤ ((-i)).toNatClampNeg) := inb_of S8 ⟨(own_rI hng hlt).1, (own_rI hng hlt).2.1⟩
     have hat8 : cl8.slots[((-i)).toNatClampNeg]? = some (.int (own_dc ((own_q n k) / 10))) := Has.at H8 hin8 (by rw [(own_rI hng hlt).2.2]; exact own_tabG (fun r => own_dc (r / 10)) hlt _)
     refine Gs (fun _ tk => X7.baloadBytes hx (j := (-i)) (v := (.int (own_dc ((own_q n k) / 10)))) (by rw [e7]; exact Ar8.1) (State.isArrayOf_alike hZ.alike Ar8.2.1) Ar8.2.2 hin8 hat8 (g := (mkF m 176 #[.val (.long il), .second, vi (Int32.ofNat (own_len n)), vr b, u4, u5, u6, vi (Int32.ofNat (own_len n - k - 1 - 1)), vi 0, u9, vi i] [(.int (-i)), (.ref d2), (.int (Int32.ofNat (own_len n - k - 1 - 1))), (.ref b)])) rfl rfl (hb hby d8_176) _ tk) ?_
     show Goes _ _ _ _ _ (fT T7 m 177 #[.val (.long il), .second, vi (Int32.ofNat (own_len n)), vr b, u4, u5, u6, vi (Int32.ofNat (own_len n - k - 1 - 1)), vi 0, u9, vi i] [(.int (own_dc ((own_q n k) / 10))), (.int (Int32.ofNat (own_len n - k - 1 - 1))), (.ref b)])
     obtain ⟨cl9, Ar9, q9, S9, N9z, H9, G9⟩ := V_b
     have hin9 : ¬ ((Int32.ofNat (own_len n - k - 1 - 1)) < 0 ∨ cl9.slots.size ≤ ((Int32.ofNat (own_len n - k - 1 - 1))).toNatClampNeg) := inb_of S9 ⟨hp2.2.1, hp2.2.2.1⟩
     obtain ⟨T9, h9, X9, e9, W9, st9⟩ := stB X7 hx hZ e7 Ar9 (j := (Int32.ofNat (own_len n - k - 1 - 1))) hin9 (g := (mkF m 177 #[.val (.long il), .second, vi (Int32.ofNat (own_len n)), vr b, u4, u5, u6, vi (Int32.ofNat (own_len n - k - 1 - 1)), vi 0, u9, vi i] [(.int (own_dc ((own_q n k) / 10))), (.int (Int32.ofNat (own_len n - k - 1 - 1))), (.ref b)])) rfl rfl (hb hby d8_177)
     have Vn9 := Arv.set Ar9 q9 S9 N9z H9 G9 (fits_nar_byte _) W9 (own_len n - k - 1 - 1) hp2.2.2.2 (by rw [own_bqL (by omega)]; omega)
     have N9 := Fr.snoc X9 N5 g_b
     replace S_DigitOnes := S_DigitOnes.wr W9
     replace S_DigitTens := S_DigitTens.wr W9
     replace V_d1 := V_d1.other W9 ne_d1_b
     replace V_d2 := V_d2.other W9 ne_d2_b
     replace KP := KP.wr W9 (Or.inl (List.mem_of_getElem? (i := 0) rfl))
     have hv9 : Value.int (lo8 (own_dc ((own_q n k) / 10))) = .int (lo8 (own_dc (own_q n (own_len n - 1 - (own_len n - k - 1 - 1)) % 10))) := congrArg (fun z => Value.int (lo8 z)) (by rw [show own_len n - 1 - (own_len n - k - 1 - 1) = k + 1 from by omega]; exact own_dig3' hlt)
     have V_b : Arv Z h9 b kb .byte z (own_bq n (own_len n - k - 1 - 1)) (.int 0) := own_arvE Vn9 (own_bqT (by omega) (by omega) hv9)
     replace Z0 : n0 ≤ h9.size := by rw [W9.size]; exact Z0
     refine Gs st9 ?_
     show Goes _ _ _ _ _ (fT T9 m 178 #[.val (.long il), .second, vi (Int32.ofNat (own_len n)), vr b, u4, u5, u6, vi (Int32.ofNat (own_len n - k - 1 - 1)), vi 0, u9, vi i] [])
     refine gI X9 hx hby d8_178 rfl rfl ?_
     refine gy X9 hx hby d8_180 180 192 ((if0 _ _).trans (teq (by decide : ((0 : Int32) = (0 : Int32)))).1) ?_
     refine gI X9 hx hby d8_192 rfl rfl ?_
     show Goes _ _ _ _ _ (fT T9 m 194 #[.val (.long il), .second, vi (Int32.ofNat (own_len n)), vr b, u4, u5, u6, vi (Int32.ofNat (own_len n - k - 1 - 1)), vi 0, u9, vi i] [(.int (Int32.ofNat (own_len n - k - 1 - 1)))])
     have hz0 : own_len n - k - 1 - 1 = 0 := by omega
     rw [hz0] at V_b
     rw [own_bq0] at V_b
     refine Goes.ret X9 (some (.int (Int32.ofNat (own_len n - k - 1 - 1)))) (fun h => by rw [hret] at h; cases h) hlk (by decide) (by decide) ?_ (fun fs hr => ?_)
     ·rw [e9]; exact ⟨(congrArg (fun z => some (Value.int z)) (show Int32.ofNat (own_len n - k - 1 - 1) = 0 from by rw [hz0]; rfl)), N9, KP, V_b⟩
     ·exact retI X9 hx hret (hb hby d8_194) hr
    ·refine gY X5 hx hby d8_161 161 178 (flt hc161_6).2.1 ?_
     have hten : own_q n k < 10 := by have z := hc161_6; rw [Int32.lt_iff_toInt_lt, hi, show (-9 : Int32).toInt = -9 from by decide] at z; omega
     have hend : own_len n = k + 1 := by have y := own_len1 hten; omega
     refine gI X5 hx hby d8_178 rfl rfl ?_
     refine gy X5 hx hby d8_180 180 192 ((if0 _ _).trans (teq (by decide : ((0 : Int32) = (0 : Int32)))).1) ?_
     refine gI X5 hx hby d8_192 rfl rfl ?_
     show Goes _ _ _ _ _ (fT T5 m 194 #[.val (.long il), .second, vi (Int32.ofNat (own_len n)), vr b, u4, u5, u6, vi (Int32.ofNat (own_len n - k - 1)), vi 0, u9, vi i] [(.int (Int32.ofNat (own_len n - k - 1)))])
     have hz0 : own_len n - k - 1 = 0 := by omega
     rw [hz0] at V_b
     rw [own_bq0] at V_b
     refine Goes.ret X5 (some (.int (Int32.ofNat (own_len n - k - 1)))) (fun h => by rw [hret] at h; cases h) hlk (by decide) (by decide) ?_ (fun fs hr => ?_)
     ·rw [e5]; exact ⟨(congrArg (fun z => some (Value.int z)) (show Int32.ofNat (own_len n - k - 1) = 0 from by rw [hz0]; rfl)), N5, KP, V_b⟩
     ·exact retI X5 hx hret (hb hby d8_194) hr
   ·refine gU X hx hby d8_90 (flt hc90_2).2.2.1 ?_
    have hbig : 100 ≤ own_q n k := by have z := hc90_2; rw [Int32.lt_iff_toInt_lt, hi, show (-100 : Int32).toInt = -100 from by decide] at z; omega
    have hl2 : own_len (own_q n (k + 1)) + (k + 1) = own_len n := own_qlen hn (k + 1) (by have z := own_lenS (n := own_q n k) (by omega) hqn; have y := own_lenP (own_q n k / 10); omega)
    have hk2 : k + 2 < own_len n := by have z := own_lenS (n := own_q n (k + 1)) (by show 10 ≤ own_q n k / 10; omega) (by show own_q n k / 10 < 10000000000000; omega); have y := own_lenP (own_q n (k + 1) / 10); omega
    have hd := own_idv hi hsm
    have hm : own_q n k % 100 < 100 := Nat.mod_lt _ (by omega)
    have hp2 := own_pI (p := own_len n - k - 1) (by omega) (rfl : z.toNatClampNeg = z.toNatClampNeg) (by omega) (by omega)
    obtain ⟨rfl, rfl⟩ | ⟨ra, rfl, rfl⟩ | ⟨ra, qb, rfl, rfl⟩ := hu
    ·show Goes _ _ _ _ _ (fT T m 93 #[.val (.long il), .second, vi (Int32.ofNat (own_len n)), vr b, u4, u5, vu, vi (Int32.ofNat (own_len n - k)), vi 0, vu, vi i] [])
     refine gI X hx hby d8_93 rfl rfl ?_
     refine gB X hx hby d8_95 ?_
     refine Gz (XS.idiv X.here hx rfl (hb hby d8_97) rfl (by decide)) ?_
     show Goes _ _ _ _ _ (fT T m 98 #[.val (.long il), .second, vi (Int32.ofNat (own_len n)), vr b, u4, u5, vu, vi (Int32.ofNat (own_len n - k)), vi 0, vu, vi i] [(.int (i / (100 : Int32)))])
     refine gS X hx hby d8_98 #[.val (.long il), .second, vi (Int32.ofNat (own_len n)), vr b, u4, u5, vu, vi (Int32.ofNat (own_len n - k)), vi 0, vi (i / (100 : Int32)), vi i] ?_
     refine gI X hx hby d8_100 rfl rfl ?_
     refine gB X hx hby d8_102 ?_
     show Goes _ _ _ _ _ (fT T m 104 #[.val (.long il), .second, vi (Int32.ofNat (own_len n)), vr b, u4, u5, vu, vi (Int32.ofNat (own_len n - k)), vi 0, vi (i / (100 : Int32)), vi i] [(.int 100), (.int (i / (100 : Int32)))])
     refine Gz (XS.imul X.here hx rfl (hb hby d8_104) rfl) ?_
     show Goes _ _ _ _ _ (fT T m 105 #[.val (.long il), .second, vi (Int32.ofNat (own_len n)), vr b, u4, u5, vu, vi (Int32.ofNat (own_len n - k)), vi 0, vi (i / (100 : Int32)), vi i] [(.int ((i / (100 : Int32)) * (100 : Int32)))])
     refine gI X hx hby d8_105 rfl rfl ?_
     show Goes _ _ _ _ _ (fT T m 107 #[.val (.long il), .second, vi (Int32.ofNat (own_len n)), vr b, u4, u5, vu, vi (Int32.ofNat (own_len n - k)), vi 0, vi (i / (100 : Int32)), vi i] [(.int i), (.int ((i / (100 : Int32)) * (100 : Int32)))])
     refine Gz (XS.isub X.here hx rfl (hb hby d8_107) rfl) ?_
     show Goes _ _ _ _ _ (fT T m 108 #[.val (.long il), .second, vi (Int32.ofNat (own_len n)), vr b, u4, u5, vu, vi (Int32.ofNat (own_len n - k)), vi 0, vi (i / (100 : Int32)), vi i] [(.int (((i / (100 : Int32)) * (100 : Int32)) - i))])
     refine gS X hx hby d8_108 #[.val (.long il), .second, vi (Int32.ofNat (own_len n)), vr b, u4, u5, vi (((i / (100 : Int32)) * (100 : Int32)) - i), vi (Int32.ofNat (own_len n - k)), vi 0, vi (i / (100 : Int32)), vi i] ?_
     refine gI X hx hby d8_110 rfl rfl ?_
     refine gS X hx hby d8_112 #[.val (.long il), .second, vi (Int32.ofNat (own_len n)), vr b, u4, u5, vi (((i / (100 : Int32)) * (100 : Int32)) - i), vi (Int32.ofNat (own_len n - k)), vi 0, vi (i / (100 : Int32)), vi (i / (100 : Int32))] ?_
     refine gA X hx hby d8_114 rfl rfl rfl ?_
     show Goes _ _ _ _ _ (fT T m 115 #[.val (.long il), .second, vi (Int32.ofNat (own_len n)), vr b, u4, u5, vi (((i / (100 : Int32)) * (100 : Int32)) - i), vi (Int32.ofNat (own_len n - k)), vi 0, vi (i / (100 : Int32)), vi (i / (100 : Int32))] [(.ref b)])
     refine Gz (XS.iinc X.here hx rfl (hb hby d8_115) rfl (l' := #[.val (.long il), .second, vi (Int32.ofNat (own_len n)), vr b, u4, u5, vi (((i / (100 : Int32)) * (100 : Int32)) - i), vi ((Int32.ofNat (own_len n - k)) + (-1 : Int32)), vi 0, vi (i / (100 : Int32)), vi (i / (100 : Int32))]) rfl) ?_
     show Goes _ _ _ _ _ (fT T m 118 #[.val (.long il), .second, vi (Int32.ofNat (own_len n)), vr b, u4, u5, vi (((i / (100 : Int32)) * (100 : Int32)) - i), vi ((Int32.ofNat (own_len n - k)) + (-1 : Int32)), vi 0, vi (i / (100 : Int32)), vi (i / (100 : Int32))] [(.ref b)])
     rw [hp1.1]
     show Goes _ _ _ _ _ (fT T m 118 #[.val (.long il), .second, vi (Int32.ofNat (own_len n)), vr b, u4, u5, vi (((i / (100 : Int32)) * (100 : Int32)) - i), vi (Int32.ofNat (own_len n - k - 1)), vi 0, vi (i / (100 : Int32)), vi (i / (100 : Int32))] [(.ref b)])
     refine gI X hx hby d8_118 rfl rfl ?_
     obtain ⟨T10, X10, e10, st10⟩ := getS2 X hx hZ hown (host := "") (Or.inl (gw hw 62 rfl)) Via.refl rfl S_DigitOnes (g := (mkF m 120 #[.val (.long il), .second, vi (Int32.ofNat (own_len n)), vr b, u4, u5, vi (((i / (100 : Int32)) * (100 : Int32)) - i), vi (Int32.ofNat (own_len n - k - 1)), vi 0, vi (i / (100 : Int32)), vi (i / (100 : Int32))] [(.int (Int32.ofNat (own_len n - k - 1))), (.ref b)])) rfl (hb hby d8_120)
     refine Gs st10 ?_
     show Goes _ _ _ _ _ (fT T10 m 123 #[.val (.long il), .second, vi (Int32.ofNat (own_len n)), vr b, u4, u5, vi (((i / (100 : Int32)) * (100 : Int32)) - i), vi (Int32.ofNat (own_len n - k - 1)), vi 0, vi (i / (100 : Int32)), vi (i / (100 : Int32))] [(.ref d1), (.int (Int32.ofNat (own_len n - k - 1))), (.ref b)])
     refine gI X10 hx hby d8_123 rfl rfl ?_
     obtain ⟨cl11, Ar11, -, S11, N11z, H11, -⟩ := id V_d1
     have hin11 : ¬ ((((i / (100 : Int32)) * (100 : Int32)) - i) < 0 ∨ cl11.slots.size ≤ ((((i / (100 : Int32)) * (100 : Int32)) - i)).toNatClampNeg) := inb_of S11 ⟨(own_rI hd.2 hm).1, (own_rI hd.2 hm).2.1⟩
     have hat11 : cl11.slots[((((i / (100 : Int32)) * (100 : Int32)) - i)).toNatClampNeg]? = some (.int (own_dc ((own_q n k % 100) % 10))) := Has.at H11 hin11 (by rw [(own_rI hd.2 hm).2.2]; exact own_tabG (fun r => own_dc (r % 10)) hm _)
     refine Gs (fun _ tk => X10.baloadBytes hx (j := (((i / (100 : Int32)) * (100 : Int32)) - i)) (v := (.int (own_dc ((own_q n k % 100) % 10)))) (by rw [e10]; exact Ar11.1) (State.isArrayOf_alike hZ.alike Ar11.2.1) Ar11.2.2 hin11 hat11 (g := (mkF m 125 #[.val (.long il), .second, vi (Int32.ofNat (own_len n)), vr b, u4, u5, vi (((i / (100 : Int32)) * (100 : Int32)) - i), vi (Int32.ofNat (own_len n - k - 1)), vi 0, vi (i / (100 : Int32)), vi (i / (100 : Int32))] [(.int (((i / (100 : Int32)) * (100 : Int32)) - i)), (.ref d1), (.int (Int32.ofNat (own_len n - k - 1))), (.ref b)])) rfl rfl (hb hby d8_125) _ tk) ?_
     show Goes _ _ _ _ _ (fT T10 m 126 #[.val (.long il), .second, vi (Int32.ofNat (own_len n)), vr b, u4, u5, vi (((i / (100 : Int32)) * (100 : Int32)) - i), vi (Int32.ofNat (own_len n - k - 1)), vi 0, vi (i / (100 : Int32)), vi (i / (100 : Int32))] [(.int (own_dc ((own_q n k % 100) % 10))), (.int (Int32.ofNat (own_len n - k - 1))), (.ref b)])
     obtain ⟨cl12, Ar12, q12, S12, N12z, H12, G12⟩ := V_b
     have hin12 : ¬ ((Int32.ofNat (own_len n - k - 1)) < 0 ∨ cl12.slots.size ≤ ((Int32.ofNat (own_len n - k - 1))).toNatClampNeg) := inb_of S12 ⟨hp1.2.1, hp1.2.2.1⟩
     obtain ⟨T12, h12, X12, e12, W12, st12⟩ := stB X10 hx hZ e10 Ar12 (j := (Int32.ofNat (own_len n - k - 1))) hin12 (g := (mkF m 126 #[.val (.long il), .second, vi (Int32.ofNat (own_len n)), vr b, u4, u5, vi (((i / (100 : Int32)) * (100 : Int32)) - i), vi (Int32.ofNat (own_len n - k - 1)), vi 0, vi (i / (100 : Int32)), vi (i / (100 : Int32))] [(.int (own_dc ((own_q n k % 100) % 10))), (.int (Int32.ofNat (own_len n - k - 1))), (.ref b)])) rfl rfl (hb hby d8_126)
     have Vn12 := Arv.set Ar12 q12 S12 N12z H12 G12 (fits_nar_byte _) W12 (own_len n - k - 1) hp1.2.2.2 (by rw [own_bqL (by omega)]; omega)
     have N12 := Fr.snoc X12 N g_b
     replace S_DigitOnes := S_DigitOnes.wr W12
     replace S_DigitTens := S_DigitTens.wr W12
     replace V_d1 := V_d1.other W12 ne_d1_b
     replace V_d2 := V_d2.other W12 ne_d2_b
     replace KP := KP.wr W12 (Or.inl (List.mem_of_getElem? (i := 0) rfl))
     have hv12 : Value.int (lo8 (own_dc ((own_q n k % 100) % 10))) = .int (lo8 (own_dc (own_q n (own_len n - 1 - (own_len n - k - 1)) % 10))) := congrArg (fun z => Value.int (lo8 z)) (by rw [show own_len n - 1 - (own_len n - k - 1) = k from by omega]; exact own_dig1' n k)
     have V_b : Arv Z h12 b kb .byte z (own_bq n (own_len n - k - 1)) (.int 0) := own_arvE Vn12 (own_bqT (by omega) (by omega) hv12)
     replace Z0 : n0 ≤ h12.size := by rw [W12.size]; exact Z0
     refine Gs st12 ?_
     show Goes _ _ _ _ _ (fT T12 m 127 #[.val (.long il), .second, vi (Int32.ofNat (own_len n)), vr b, u4, u5, vi (((i / (100 : Int32)) * (100 : Int32)) - i), vi (Int32.ofNat (own_len n - k - 1)), vi 0, vi (i / (100 : Int32)), vi (i / (100 : Int32))] [])
     refine gA X12 hx hby d8_127 rfl rfl rfl ?_
     show Goes _ _ _ _ _ (fT T12 m 128 #[.val (.long il), .second, vi (Int32.ofNat (own_len n)), vr b, u4, u5, vi (((i / (100 : Int32)) * (100 : Int32)) - i), vi (Int32.ofNat (own_len n - k - 1)), vi 0, vi (i / (100 : Int32)), vi (i / (100 : Int32))] [(.ref b)])
     refine Gz (XS.iinc X12.here hx rfl (hb hby d8_128) rfl (l' := #[.val (.long il), .second, vi (Int32.ofNat (own_len n)), vr b, u4, u5, vi (((i / (100 : Int32)) * (100 : Int32)) - i), vi ((Int32.ofNat (own_len n - k - 1)) + (-1 : Int32)), vi 0, vi (i / (100 : Int32)), vi (i / (100 : Int32))]) rfl) ?_
     show Goes _ _ _ _ _ (fT T12 m 131 #[.val (.long il), .second, vi (Int32.ofNat (own_len n)), vr b, u4, u5, vi (((i / (100 : Int32)) * (100 : Int32)) - i), vi ((Int32.ofNat (own_len n - k - 1)) + (-1 : Int32)), vi 0, vi (i / (100 : Int32)), vi (i / (100 : Int32))] [(.ref b)])
     rw [hp2.1]
     show Goes _ _ _ _ _ (fT T12 m 131 #[.val (.long il), .second, vi (Int32.ofNat (own_len n)), vr b, u4, u5, vi (((i / (100 : Int32)) * (100 : Int32)) - i), vi (Int32.ofNat (own_len n - k - 1 - 1)), vi 0, vi (i / (100 : Int32)), vi (i / (100 : Int32))] [(.ref b)])
     refine gI X12 hx hby d8_131 rfl rfl ?_
     obtain ⟨T13, X13, e13, st13⟩ := getS2 X12 hx hZ hown (host := "") (Or.inl (gw hw 119 rfl)) Via.refl e12 S_DigitTens (g := (mkF m 133 #[.val (.long il), .second, vi (Int32.ofNat (own_len n)), vr b, u4, u5, vi (((i / (100 : Int32)) * (100 : Int32)) - i), vi (Int32.ofNat (own_len n - k - 1 - 1)), vi 0, vi (i / (100 : Int32)), vi (i / (100 : Int32))] [(.int (Int32.ofNat (own_len n - k - 1 - 1))), (.ref b)])) rfl (hb hby d8_133)
     refine Gs st13 ?_
     show Goes _ _ _ _ _ (fT T13 m 136 #[.val (.long il), .second, vi (Int32.ofNat (own_len n)), vr b, u4, u5, vi (((i / (100 : Int32)) * (100 : Int32)) - i), vi (Int32.ofNat (own_len n - k - 1 - 1)), vi 0, vi (i / (100 : Int32)), vi (i / (100 : Int32))] [(.ref d2), (.int (Int32.ofNat (own_len n - k - 1 - 1))), (.ref b)])
     refine gI X13 hx hby d8_136 rfl rfl ?_
     obtain ⟨cl14, Ar14, -, S14, N14z, H14, -⟩ := id V_d2
     have hin14 : ¬ ((((i / (100 : Int32)) * (100 : Int32)) - i) < 0 ∨ cl14.slots.size ≤ ((((i / (100 : Int32)) * (100 : Int32)) - i)).toNatClampNeg) := inb_of S14 ⟨(own_rI hd.2 hm).1, (own_rI hd.2 hm).2.1⟩
     have hat14 : cl14.slots[((((i / (100 : Int32)) * (100 : Int32)) - i)).toNatClampNeg]? = some (.int (own_dc ((own_q n k % 100) / 10))) := Has.at H14 hin14 (by rw [(own_rI hd.2 hm).2.2]; exact own_tabG (fun r => own_dc (r / 10)) hm _)
     refine Gs (fun _ tk => X13.baloadBytes hx (j := (((i / (100 : Int32)) * (100 : Int32)) - i)) (v := (.int (own_dc ((own_q n k % 100) / 10)))) (by rw [e13]; exact Ar14.1) (State.isArrayOf_alike hZ.alike Ar14.2.1) Ar14.2.2 hin14 hat14 (g := (mkF m 138 #[.val (.long il), .second, vi (Int32.ofNat (own_len n)), vr b, u4, u5, vi (((i / (100 : Int32)) * (100 : Int32)) - i), vi (Int32.ofNat (own_len n - k - 1 - 1)), vi 0, vi (i / (100 : Int32)), vi (i / (100 : Int32))] [(.int (((i / (100 : Int32)) * (100 : Int32)) - i)), (.ref d2), (.int (Int32.ofNat (own_len n - k - 1 - 1))), (.ref b)])) rfl rfl (hb hby d8_138) _ tk) ?_
     show Goes _ _ _ _ _ (fT T13 m 139 #[.val (.long il), .second, vi (Int32.ofNat (own_len n)), vr b, u4, u5, vi (((i / (100 : Int32)) * (100 : Int32)) - i), vi (Int32.ofNat (own_len n - k - 1 - 1)), vi 0, vi (i / (100 : Int32)), vi (i / (100 : Int32))] [(.int (own_dc ((own_q n k % 100) / 10))), (.int (Int32.ofNat (own_len n - k - 1 - 1))), (.ref b)])
     obtain ⟨cl15, Ar15, q15, S15, N15z, H15, G15⟩ := V_b
     have hin15 : ¬ ((Int32.ofNat (own_len n - k - 1 - 1)) < 0 ∨ cl15.slots.size ≤ ((Int32.ofNat (own_len n - k - 1 - 1))).toNatClampNeg) := inb_of S15 ⟨hp2.2.1, hp2.2.2.1⟩
     obtain ⟨T15, h15, X15, e15, W15, st15⟩ := stB X13 hx hZ e13 Ar15 (j := (Int32.ofNat (own_len n - k - 1 - 1))) hin15 (g := (mkF m 139 #[.val (.long il), .second, vi (Int32.ofNat (own_len n)), vr b, u4, u5, vi (((i / (100 : Int32)) * (100 : Int32)) - i), vi (Int32.ofNat (own_len n - k - 1 - 1)), vi 0, vi (i / (100 : Int32)), vi (i / (100 : Int32))] [(.int (own_dc ((own_q n k % 100) / 10))), (.int (Int32.ofNat (own_len n - k - 1 - 1))), (.ref b)])) rfl rfl (hb hby d8_139)
     have Vn15 := Arv.set Ar15 q15 S15 N15z H15 G15 (fits_nar_byte _) W15 (own_len n - k - 1 - 1) hp2.2.2.2 (by rw [own_bqL (by omega)]; omega)
     have N15 := Fr.snoc X15 N12 g_b
     replace S_DigitOnes := S_DigitOnes.wr W15
     replace S_DigitTens := S_DigitTens.wr W15
     replace V_d1 := V_d1.other W15 ne_d1_b
     replace V_d2 := V_d2.other W15 ne_d2_b
     replace KP := KP.wr W15 (Or.inl (List.mem_of_getElem? (i := 0) rfl))
     have hv15 : Value.int (lo8 (own_dc ((own_q n k % 100) / 10))) = .int (lo8 (own_dc (own_q n (own_len n - 1 - (own_len n - k - 1 - 1)) % 10))) := congrArg (fun z => Value.int (lo8 z)) (by rw [show own_len n - 1 - (own_len n - k - 1 - 1) = k + 1 from by omega]; exact own_dig2' n k)
     have V_b : Arv Z h15 b kb .byte z (own_bq n (own_len n - k - 1 - 1)) (.int 0) := own_arvE Vn15 (own_bqT (by omega) (by omega) hv15)
     replace Z0 : n0 ≤ h15.size := by rw [W15.size]; exact Z0
     refine Gs st15 ?_
     show Goes _ _ _ _ _ (fT T15 m 140 #[.val (.long il), .second, vi (Int32.ofNat (own_len n)), vr b, u4, u5, vi (((i / (100 : Int32)) * (100 : Int32)) - i), vi (Int32.ofNat (own_len n - k - 1 - 1)), vi 0, vi (i / (100 : Int32)), vi (i / (100 : Int32))] [])
     refine gG X15 hx hby d8_140 140 86 ?_
     show Goes _ _ _ _ _ (fT T15 m 86 #[.val (.long il), .second, vi (Int32.ofNat (own_len n)), vr b, u4, u5, vi (((i / (100 : Int32)) * (100 : Int32)) - i), vi (Int32.ofNat (own_len n - k - 1 - 1)), vi 0, vi (i / (100 : Int32)), vi (i / (100 : Int32))] [])
     exact ih (k + 2, _, _, _) _ _ (by show own_len n - (k + 2) < own_len n - k; omega) X15 ⟨hk2, by show _ = -((own_q n (k + 2) : Nat) : Int); rw [own_q2]; exact hd.1, by show own_q n (k + 2) < _; rw [own_q2]; omega, Or.inr (Or.inr ⟨_, _, rfl, rfl⟩), N15, (by rw [e15]; exact Z0), (by rw [e15]; exact KP), (by rw [e15]; exact V_b)⟩
    ·show Goes _ _ _ _ _ (fT T m 93 #[.val (.long il), .second, vi (Int32.ofNat (own_len n)), vr b, u4, u5, vi ra, vi (Int32.ofNat (own_len n - k)), vi 0, vu, vi i] [])
     refine gI X hx hby d8_93 rfl rfl ?_
     refine gB X hx hby d8_95 ?_
     refine Gz (XS.idiv X.here hx rfl (hb hby d8_97) rfl (by decide)) ?_
     show Goes _ _ _ _ _ (fT T m 98 #[.val (.long il), .second, vi (Int32.ofNat (own_len n)), vr b, u4, u5, vi ra, vi (Int32.ofNat (own_len n - k)), vi 0, vu, vi i] [(.int (i / (100 : Int32)))])
     refine gS X hx hby d8_98 #[.val (.long il), .second, vi (Int32.ofNat (own_len n)), vr b, u4, u5, vi ra, vi (Int32.ofNat (own_len n - k)), vi 0, vi (i / (100 : Int32)), vi i] ?_
     refine gI X hx hby d8_100 rfl rfl ?_
     refine gB X hx hby d8_102 ?_
     show Goes _ _ _ _ _ (fT T m 104 #[.val (.long il), .second, vi (Int32.ofNat (own_len n)), vr b, u4, u5, vi ra, vi (Int32.ofNat (own_len n - k)), vi 0, vi (i / (100 : Int32)), vi i] [(.int 100), (.int (i / (100 : Int32)))])
     refine Gz (XS.imul X.here hx rfl (hb hby d8_104) rfl) ?_
     show Goes _ _ _ _ _ (fT T m 105 #[.val (.long il), .second, vi (Int32.ofNat (own_len n)), vr b, u4, u5, vi ra, vi (Int32.ofNat (own_len n - k)), vi 0, vi (i / (100 : Int32)), vi i] [(.int ((i / (100 : Int32)) * (100 : Int32)))])
     refine gI X hx hby d8_105 rfl rfl ?_
     show Goes _ _ _ _ _ (fT T m 107 #[.val (.long il), .second, vi (Int32.ofNat (own_len n)), vr b, u4, u5, vi ra, vi (Int32.ofNat (own_len n - k)), vi 0, vi (i / (100 : Int32)), vi i] [(.int i), (.int ((i / (100 : Int32)) * (100 : Int32)))])
     refine Gz (XS.isub X.here hx rfl (hb hby d8_107) rfl) ?_
     show Goes _ _ _ _ _ (fT T m 108 #[.val (.long il), .second, vi (Int32.ofNat (own_len n)), vr b, u4, u5, vi ra, vi (Int32.ofNat (own_len n - k)), vi 0, vi (i / (100 : Int32)), vi i] [(.int (((i / (100 : Int32)) * (100 : Int32)) - i))])
     refine gS X hx hby d8_108 #[.val (.long il), .second, vi (Int32.ofNat (own_len n)), vr b, u4, u5, vi (((i / (100 : Int32)) * (100 : Int32)) - i), vi (Int32.ofNat (own_len n - k)), vi 0, vi (i / (100 : Int32)), vi i] ?_
     refine gI X hx hby d8_110 rfl rfl ?_
     refine gS X hx hby d8_112 #[.val (.long il), .second, vi (Int32.ofNat (own_len n)), vr b, u4, u5, vi (((i / (100 : Int32)) * (100 : Int32)) - i), vi (Int32.ofNat (own_len n - k)), vi 0, vi (i / (100 : Int32)), vi (i / (100 : Int32))] ?_
     refine gA X hx hby d8_114 rfl rfl rfl ?_
     show Goes _ _ _ _ _ (fT T m 115 #[.val (.long il), .second, vi (Int32.ofNat (own_len n)), vr b, u4, u5, vi (((i / (100 : Int32)) * (100 : Int32)) - i), vi (Int32.ofNat (own_len n - k)), vi 0, vi (i / (100 : Int32)), vi (i / (100 : Int32))] [(.ref b)])
     refine Gz (XS.iinc X.here hx rfl (hb hby d8_115) rfl (l' := #[.val (.long il), .second, vi (Int32.ofNat (own_len n)), vr b, u4, u5, vi (((i / (100 : Int32)) * (100 : Int32)) - i), vi ((Int32.ofNat (own_len n - k)) + (-1 : Int32)), vi 0, vi (i / (100 : Int32)), vi (i / (100 : Int32))]) rfl) ?_
     show Goes _ _ _ _ _ (fT T m 118 #[.val (.long il), .second, vi (Int32.ofNat (own_len n)), vr b, u4, u5, vi (((i / (100 : Int32)) * (100 : Int32)) - i), vi ((Int32.ofNat (own_len n - k)) + (-1 : Int32)), vi 0, vi (i / (100 : Int32)), vi (i / (100 : Int32))] [(.ref b)])
     rw [hp1.1]
     show Goes _ _ _ _ _ (fT T m 118 #[.val (.long il), .second, vi (Int32.ofNat (own_len n)), vr b, u4, u5, vi (((i / (100 : Int32)) * (100 : Int32)) - i), vi (Int32.ofNat (own_len n - k - 1)), vi 0, vi (i / (100 : Int32)), vi (i / (100 : Int32))] [(.ref b)])
     refine gI X hx hby d8_118 rfl rfl ?_
     obtain ⟨T16, X16, e16, st16⟩ := getS2 X hx hZ hown (host := "") (Or.inl (gw hw 62 rfl)) Via.refl rfl S_DigitOnes (g := (mkF m 120 #[.val (.long il), .second, vi (Int32.ofNat (own_len n)), vr b, u4, u5, vi (((i / (100 : Int32)) * (100 : Int32)) - i), vi (Int32.ofNat (own_len n - k - 1)), vi 0, vi (i / (100 : Int32)), vi (i / (100 : Int32))] [(.int (Int32.ofNat (own_len n - k - 1))), (.ref b)])) rfl (hb hby d8_120)
     refine Gs st16 ?_
     show Goes _ _ _ _ _ (fT T16 m 123 #[.val (.long il), .second, vi (Int32.ofNat (own_len n)), vr b, u4, u5, vi (((i / (100 : Int32)) * (100 : Int32)) - i), vi (Int32.ofNat (own_len n - k - 1)), vi 0, vi (i / (100 : Int32)), vi (i / (100 : Int32))] [(.ref d1), (.int (Int32.ofNat (own_len n - k - 1))), (.ref b)])
     refine gI X16 hx hby d8_123 rfl rfl ?_
     obtain ⟨cl17, Ar17, -, S17, N17z, H17, -⟩ := id V_d1
     have hin17 : ¬ ((((i / (100 : Int32)) * (100 : Int32)) - i) < 0 ∨ cl17.slots.size ≤ ((((i / (100 : Int32)) * (100 : Int32)) - i)).toNatClampNeg) := inb_of S17 ⟨(own_rI hd.2 hm).1, (own_rI hd.2 hm).2.1⟩
     have hat17 : cl17.slots[((((i / (100 : Int32)) * (100 : Int32)) - i)).toNatClampNeg]? = some (.int (own_dc ((own_q n k % 100) % 10))) := Has.at H17 hin17 (by rw [(own_rI hd.2 hm).2.2]; exact own_tabG (fun r => own_dc (r % 10)) hm _)
     refine Gs (fun _ tk => X16.baloadBytes hx (j := (((i / (100 : Int32)) * (100 : Int32)) - i)) (v := (.int (own_dc ((own_q n k % 100) % 10)))) (by rw [e16]; exact Ar17.1) (State.isArrayOf_alike hZ.alike Ar17.2.1) Ar17.2.2 hin17 hat17 (g := (mkF m 125 #[.val (.long il), .second, vi (Int32.ofNat (own_len n)), vr b, u4, u5, vi (((i / (100 : Int32)) * (100 : Int32)) - i), vi (Int32.ofNat (own_len n - k - 1)), vi 0, vi (i / (100 : Int32)), vi (i / (100 : Int32))] [(.int (((i / (100 : Int32)) * (100 : Int32)) - i)), (.ref d1), (.int (Int32.ofNat (own_len n - k - 1))), (.ref b)])) rfl rfl (hb hby d8_125) _ tk) ?_
     show Goes _ _ _ _ _ (fT T16 m 126 #[.val (.long il), .second, vi (Int32.ofNat (own_len n)), vr b, u4, u5, vi (((i / (100 : Int32)) * (100 : Int32)) - i), vi (Int32.ofNat (own_len n - k - 1)), vi 0, vi (i / (100 : Int32)), vi (i / (100 : Int32))] [(.int (own_dc ((own_q n k % 100) % 10))), (.int (Int32.ofNat (own_len n - k - 1))), (.ref b)])
     obtain ⟨cl18, Ar18, q18, S18, N18z, H18, G18⟩ := V_b
     have hin18 : ¬ ((Int32.ofNat (own_len n - k - 1)) < 0 ∨ cl18.slots.size ≤ ((Int32.ofNat (own_len n - k - 1))).toNatClampNeg) := inb_of S18 ⟨hp1.2.1, hp1.2.2.1⟩
     obtain ⟨T18, h18, X18, e18, W18, st18⟩ := stB X16 hx hZ e16 Ar18 (j := (Int32.ofNat (own_len n - k - 1))) hin18 (g := (mkF m 126 #[.val (.long il), .second, vi (Int32.ofNat (own_len n)), vr b, u4, u5, vi (((i / (100 : Int32)) * (100 : Int32)) - i), vi (Int32.ofNat (own_len n - k - 1)), vi 0, vi (i / (100 : Int32)), vi (i / (100 : Int32))] [(.int (own_dc ((own_q n k % 100) % 10))), (.int (Int32.ofNat (own_len n - k - 1))), (.ref b)])) rfl rfl (hb hby d8_126)
     have Vn18 := Arv.set Ar18 q18 S18 N18z H18 G18 (fits_nar_byte _) W18 (own_len n - k - 1) hp1.2.2.2 (by rw [own_bqL (by omega)]; omega)
     have N18 := Fr.snoc X18 N g_b
     replace S_DigitOnes := S_DigitOnes.wr W18
     replace S_DigitTens := S_DigitTens.wr W18
     replace V_d1 := V_d1.other W18 ne_d1_b
     replace V_d2 := V_d2.other W18 ne_d2_b
     replace KP := KP.wr W18 (Or.inl (List.mem_of_getElem? (i := 0) rfl))
     have hv18 : Value.int (lo8 (own_dc ((own_q n k % 100) % 10))) = .int (lo8 (own_dc (own_q n (own_len n - 1 - (own_len n - k - 1)) % 10))) := congrArg (fun z => Value.int (lo8 z)) (by rw [show own_len n - 1 - (own_len n - k - 1) = k from by omega]; exact own_dig1' n k)
     have V_b : Arv Z h18 b kb .byte z (own_bq n (own_len n - k - 1)) (.int 0) := own_arvE Vn18 (own_bqT (by omega) (by omega) hv18)
     replace Z0 : n0 ≤ h18.size := by rw [W18.size]; exact Z0
     refine Gs st18 ?_
     show Goes _ _ _ _ _ (fT T18 m 127 #[.val (.long il), .second, vi (Int32.ofNat (own_len n)), vr b, u4, u5, vi (((i / (100 : Int32)) * (100 : Int32)) - i), vi (Int32.ofNat (own_len n - k - 1)), vi 0, vi (i / (100 : Int32)), vi (i / (100 : Int32))] [])
     refine gA X18 hx hby d8_127 rfl rfl rfl ?_
     show Goes _ _ _ _ _ (fT T18 m 128 #[.val (.long il), .second, vi (Int32.ofNat (own_len n)), vr b, u4, u5, vi (((i / (100 : Int32)) * (100 : Int32)) - i), vi (Int32.ofNat (own_len n - k - 1)), vi 0, vi (i / (100 : Int32)), vi (i / (100 : Int32))] [(.ref b)])
     refine Gz (XS.iinc X18.here hx rfl (hb hby d8_128) rfl (l' := #[.val (.long il), .second, vi (Int32.ofNat (own_len n)), vr b, u4, u5, vi (((i / (100 : Int32)) * (100 : Int32)) - i), vi ((Int32.ofNat (own_len n - k - 1)) + (-1 : Int32)), vi 0, vi (i / (100 : Int32)), vi (i / (100 : Int32))]) rfl) ?_
     show Goes _ _ _ _ _ (fT T18 m 131 #[.val (.long il), .second, vi (Int32.ofNat (own_len n)), vr b, u4, u5, vi (((i / (100 : Int32)) * (100 : Int32)) - i), vi ((Int32.ofNat (own_len n - k - 1)) + (-1 : Int32)), vi 0, vi (i / (100 : Int32)), vi (i / (100 : Int32))] [(.ref b)])
     rw [hp2.1]
     show Goes _ _ _ _ _ (fT T18 m 131 #[.val (.long il), .second, vi (Int32.ofNat (own_len n)), vr b, u4, u5, vi (((i / (100 : Int32)) * (100 : Int32)) - i), vi (Int32.ofNat (own_len n - k - 1 - 1)), vi 0, vi (i / (100 : Int32)), vi (i / (100 : Int32))] [(.ref b)])
     refine gI X18 hx hby d8_131 rfl rfl ?_
     obtain ⟨T19, X19, e19, st19⟩ := getS2 X18 hx hZ hown (host := "") (Or.inl (gw hw 119 rfl)) Via.refl e18 S_DigitTens (g := (mkF m 133 #[.val (.long il), .second, vi (Int32.ofNat (own_len n)), vr b, u4, u5, vi (((i / (100 : Int32)) * (100 : Int32)) - i), vi (Int32.ofNat (own_len n - k - 1 - 1)), vi 0, vi (i / (100 : Int32)), vi (i / (100 : Int32))] [(.int (Int32.ofNat (own_len n - k - 1 - 1))), (.ref b)])) rfl (hb hby d8_133)
     refine Gs st19 ?_
     show Goes _ _ _ _ _ (fT T19 m 136 #[.val (.long il), .second, vi (Int32.ofNat (own_len n)), vr b, u4, u5, vi (((i / (100 : Int32)) * (100 : Int32)) - i), vi (Int32.ofNat (own_len n - k - 1 - 1)), vi 0, vi (i / (100 : Int32)), vi (i / (100 : Int32))] [(.ref d2), (.int (Int32.ofNat (own_len n - k - 1 - 1))), (.ref b)])
     refine gI X19 hx hby d8_136 rfl rfl ?_
     obtain ⟨cl20, Ar20, -, S20, N20z, H20, -⟩ := id V_d2
     have hin20 : ¬ ((((i / (100 : Int32)) * (100 : Int32)) - i) < 0 ∨ cl20.slots.size ≤ ((((i / (100 : Int32)) * (100 : Int32)) - i)).toNatClampNeg) := inb_of S20 ⟨(own_rI hd.2 hm).1, (own_rI hd.2 hm).2.1⟩
     have hat20 : cl20.slots[((((i / (100 : Int32)) * (100 : Int32)) - i)).toNatClampNeg]? = some (.int (own_dc ((own_q n k % 100) / 10))) := Has.at H20 hin20 (by rw [(own_rI hd.2 hm).2.2]; exact own_tabG (fun r => own_dc (r / 10)) hm _)
     refine Gs (fun _ tk => X19.baloadBytes hx (j := (((i / (100 : Int32)) * (100 : Int32)) - i)) (v := (.int (own_dc ((own_q n k % 100) / 10)))) (by rw [e19]; exact Ar20.1) (State.isArrayOf_alike hZ.alike Ar20.2.1) Ar20.2.2 hin20 hat20 (g := (mkF m 138 #[.val (.long il), .second, vi (Int32.ofNat (own_len n)), vr b, u4, u5, vi (((i / (100 : Int32)) * (100 : Int32)) - i), vi (Int32.ofNat (own_len n - k - 1 - 1)), vi 0, vi (i / (100 : Int32)), vi (i / (100 : Int32))] [(.int (((i / (100 : Int32)) * (100 : Int32)) - i)), (.ref d2), (.int (Int32.ofNat (own_len n - k - 1 - 1))), (.ref b)])) rfl rfl (hb hby d8_138) _ tk) ?_
     show Goes _ _ _ _ _ (fT T19 m 139 #[.val (.long il), .second, vi (Int32.ofNat (own_len n)), vr b, u4, u5, vi (((i / (100 : Int32)) * (100 : Int32)) - i), vi (Int32.ofNat (own_len n - k - 1 - 1)), vi 0, vi (i / (100 : Int32)), vi (i / (100 : Int32))] [(.int (own_dc ((own_q n k % 100) / 10))), (.int (Int32.ofNat (own_len n - k - 1 - 1))), (.ref b)])
     obtain ⟨cl21, Ar21, q21, S21, N21z, H21, G21⟩ := V_b
     have hin21 : ¬ ((Int32.ofNat (own_len n - k - 1 - 1)) < 0 ∨ cl21.slots.size ≤ ((Int32.ofNat (own_len n - k - 1 - 1))).toNatClampNeg) := inb_of S21 ⟨hp2.2.1, hp2.2.2.1⟩
     obtain ⟨T21, h21, X21, e21, W21, st21⟩ := stB X19 hx hZ e19 Ar21 (j := (Int32.ofNat (own_len n - k - 1 - 1))) hin21 (g := (mkF m 139 #[.val (.long il), .second, vi (Int32.ofNat (own_len n)), vr b, u4, u5, vi (((i / (100 : Int32)) * (100 : Int32)) - i), vi (Int32.ofNat (own_len n - k - 1 - 1)), vi 0, vi (i / (100 : Int32)), vi (i / (100 : Int32))] [(.int (own_dc ((own_q n k % 100) / 10))), (.int (Int32.ofNat (own_len n - k - 1 - 1))), (.ref b)])) rfl rfl (hb hby d8_139)
     have Vn21 := Arv.set Ar21 q21 S21 N21z H21 G21 (fits_nar_byte _) W21 (own_len n - k - 1 - 1) hp2.2.2.2 (by rw [own_bqL (by omega)]; omega)
     have N21 := Fr.snoc X21 N18 g_b
     replace S_DigitOnes := S_DigitOnes.wr W21
     replace S_DigitTens := S_DigitTens.wr W21
     replace V_d1 := V_d1.other W21 ne_d1_b
     replace V_d2 := V_d2.other W21 ne_d2_b
     replace KP := KP.wr W21 (Or.inl (List.mem_of_getElem? (i := 0) rfl))
     have hv21 : Value.int (lo8 (own_dc ((own_q n k % 100) / 10))) = .int (lo8 (own_dc (own_q n (own_len n - 1 - (own_len n - k - 1 - 1)) % 10))) := congrArg (fun z => Value.int (lo8 z)) (by rw [show own_len n - 1 - (own_len n - k - 1 - 1) = k + 1 from by omega]; exact own_dig2' n k)
     have V_b : Arv Z h21 b kb .byte z (own_bq n (own_len n - k - 1 - 1)) (.int 0) := own_arvE Vn21 (own_bqT (by omega) (by omega) hv21)
     replace Z0 : n0 ≤ h21.size := by rw [W21.size]; exact Z0
     refine Gs st21 ?_
     show Goes _ _ _ _ _ (fT T21 m 140 #[.val (.long il), .second, vi (Int32.ofNat (own_len n)), vr b, u4, u5, vi (((i / (100 : Int32)) * (100 : Int32)) - i), vi (Int32.ofNat (own_len n - k - 1 - 1)), vi 0, vi (i / (100 : Int32)), vi (i / (100 : Int32))] [])
     refine gG X21 hx hby d8_140 140 86 ?_
     show Goes _ _ _ _ _ (fT T21 m 86 #[.val (.long il), .second, vi (Int32.ofNat (own_len n)), vr b, u4, u5, vi (((i / (100 : Int32)) * (100 : Int32)) - i), vi (Int32.ofNat (own_len n - k - 1 - 1)), vi 0, vi (i / (100 : Int32)), vi (i / (100 : Int32))] [])
     exact ih (k + 2, _, _, _) _ _ (by show own_len n - (k + 2) < own_len n - k; omega) X21 ⟨hk2, by show _ = -((own_q n (k + 2) : Nat) : Int); rw [own_q2]; exact hd.1, by show own_q n (k + 2) < _; rw [own_q2]; omega, Or.inr (Or.inr ⟨_, _, rfl, rfl⟩), N21, (by rw [e21]; exact Z0), (by rw [e21]; exact KP), (by rw [e21]; exact V_b)⟩
    ·show Goes _ _ _ _ _ (fT T m 93 #[.val (.long il), .second, vi (Int32.ofNat (own_len n)), vr b, u4, u5, vi ra, vi (Int32.ofNat (own_len n - k)), vi 0, vi qb, vi i] [])
     refine gI X hx hby d8_93 rfl rfl ?_
     refine gB X hx hby d8_95 ?_
     refine Gz (XS.idiv X.here hx rfl (hb hby d8_97) rfl (by decide)) ?_
     show Goes _ _ _ _ _ (fT T m 98 #[.val (.long il), .second, vi (Int32.ofNat (own_len n)), vr b, u4, u5, vi ra, vi (Int32.ofNat (own_len n - k)), vi 0, vi qb, vi i] [(.int (i / (100 : Int32)))])
     refine gS X hx hby d8_98 #[.val (.long il), .second, vi (Int32.ofNat (own_len n)), vr b, u4, u5, vi ra, vi (Int32.ofNat (own_len n - k)), vi 0, vi (i / (100 : Int32)), vi i] ?_
     refine gI X hx hby d8_100 rfl rfl ?_
     refine gB X hx hby d8_102 ?_
     show Goes _ _ _ _ _ (fT T m 104 #[.val (.long il), .second, vi (Int32.ofNat (own_len n)), vr b, u4, u5, vi ra, vi (Int32.ofNat (own_len n - k)), vi 0, vi (i / (100 : Int32)), vi i] [(.int 100), (.int (i / (100 : Int32)))])
     refine Gz (XS.imul X.here hx rfl (hb hby d8_104) rfl) ?_
     show Goes _ _ _ _ _ (fT T m 105 #[.val (.long il), .second, vi (Int32.ofNat (own_len n)), vr b, u4, u5, vi ra, vi (Int32.ofNat (own_len n - k)), vi 0, vi (i / (100 : Int32)), vi i] [(.int ((i / (100 : Int32)) * (100 : Int32)))])
     refine gI X hx hby d8_105 rfl rfl ?_
     show Goes _ _ _ _ _ (fT T m 107 #[.val (.long il), .second, vi (Int32.ofNat (own_len n)), vr b, u4, u5, vi ra, vi (Int32.ofNat (own_len n - k)), vi 0, vi (i / (100 : Int32)), vi i] [(.int i), (.int ((i / (100 : Int32)) * (100 : Int32)))])
     refine Gz (XS.isub X.here hx rfl (hb hby d8_107) rfl) ?_
     show Goes _ _ _ _ _ (fT T m 108 #[.val (.long il), .second, vi (Int32.ofNat (own_len n)), vr b, u4, u5, vi ra, vi (Int32.ofNat (own_len n - k)), vi 0, vi (i / (100 : Int32)), vi i] [(.int (((i / (100 : Int32)) * (100 : Int32)) - i))])
     refine gS X hx hby d8_108 #[.val (.long il), .second, vi (Int32.ofNat (own_len n)), vr b, u4, u5, vi (((i / (100 : Int32)) * (100 : Int32)) - i), vi (Int32.ofNat (own_len n - k)), vi 0, vi (i / (100 : Int32)), vi i] ?_
     refine gI X hx hby d8_110 rfl rfl ?_
     refine gS X hx hby d8_112 #[.val (.long il), .second, vi (Int32.ofNat (own_len n)), vr b, u4, u5, vi (((i / (100 : Int32)) * (100 : Int32)) - i), vi (Int32.ofNat (own_len n - k)), vi 0, vi (i / (100 : Int32)), vi (i / (100 : Int32))] ?_
     refine gA X hx hby d8_114 rfl rfl rfl ?_
     show Goes _ _ _ _ _ (fT T m 115 #[.val (.long il), .second, vi (Int32.ofNat (own_len n)), vr b, u4, u5, vi (((i / (100 : Int32)) * (100 : Int32)) - i), vi (Int32.ofNat (own_len n - k)), vi 0, vi (i / (100 : Int32)), vi (i / (100 : Int32))] [(.ref b)])
     refine Gz (XS.iinc X.here hx rfl (hb hby d8_115) rfl (l' := #[.val (.long il), .second, vi (Int32.ofNat (own_len n)), vr b, u4, u5, vi (((i / (100 : Int32)) * (100 : Int32)) - i), vi ((Int32.ofNat (own_len n - k)) + (-1 : Int32)), vi 0, vi (i / (100 : Int32)), vi (i / (100 : Int32))]) rfl) ?_
     show Goes _ _ _ _ _ (fT T m 118 #[.val (.long il), .second, vi (Int32.ofNat (own_len n)), vr b, u4, u5, vi (((i / (100 : Int32)) * (100 : Int32)) - i), vi ((Int32.ofNat (own_len n - k)) + (-1 : Int32)), vi 0, vi (i / (100 : Int32)), vi (i / (100 : Int32))] [(.ref b)])
     rw [hp1.1]
     show Goes _ _ _ _ _ (fT T m 118 #[.val (.long il), .second, vi (Int32.ofNat (own_len n)), vr b, u4, u5, vi (((i / (100 : Int32)) * (100 : Int32)) - i), vi (Int32.ofNat (own_len n - k - 1)), vi 0, vi (i / (100 : Int32)), vi (i / (100 : Int32))] [(.ref b)])
     refine gI X hx hby d8_118 rfl rfl ?_
     obtain ⟨T22, X22, e22, st22⟩ := getS2 X hx hZ hown (host := "") (Or.inl (gw hw 62 rfl)) Via.refl rfl S_DigitOnes (g := (mkF m 120 #[.val (.long il), .second, vi (Int32.ofNat (own_len n)), vr b, u4, u5, vi (((i / (100 : Int32)) * (100 : Int32)) - i), vi (Int32.ofNat (own_len n - k - 1)), vi 0, vi (i / (100 : Int32)), vi (i / (100 : Int32))] [(.int (Int32.ofNat (own_len n - k - 1))), (.ref b)])) rfl (hb hby d8_120)
     refine Gs st22 ?_
     show Goes _ _ _ _ _ (fT T22 m 123 #[.val (.long il), .second, vi (Int32.ofNat (own_len n)), vr b, u4, u5, vi (((i / (100 : Int32)) * (100 : Int32)) - i), vi (Int32.ofNat (own_len n - k - 1)), vi 0, vi (i / (100 : Int32)), vi (i / (100 : Int32))] [(.ref d1), (.int (Int32.ofNat (own_len n - k - 1))), (.ref b)])
     refine gI X22 hx hby d8_123 rfl rfl ?_
     obtain ⟨cl23, Ar23, -, S23, N23z, H23, -⟩ := id V_d1
     have hin23 : ¬ ((((i / (100 : Int32)) * (100 : Int32)) - i) < 0 ∨ cl23.slots.size ≤ ((((i / (100 : Int32)) * (100 : Int32)) - i)).toNatClampNeg) := inb_of S23 ⟨(own_rI hd.2 hm).1, (own_rI hd.2 hm).2.1⟩
     have hat23 : cl23.slots[((((i / (100 : Int32)) * (100 : Int32)) - i)).toNatClampNeg]? = some (.int (own_dc ((own_q n k % 100) % 10))) := Has.at H23 hin23 (by rw [(own_rI hd.2 hm).2.2]; exact own_tabG (fun r => own_dc (r % 10)) hm _)
     refine Gs (fun _ tk => X22.baloadBytes hx (j := (((i / (100 : Int32)) * (100 : Int32)) - i)) (v := (.int (own_dc ((own_q n k % 100) % 10)))) (by rw [e22]; exact Ar23.1) (State.isArrayOf_alike hZ.alike Ar23.2.1) Ar23.2.2 hin23 hat23 (g := (mkF m 125 #[.val (.long il), .second, vi (Int32.ofNat (own_len n)), vr b, u4, u5, vi (((i / (100 : Int32)) * (100 : Int32)) - i), vi (Int32.ofNat (own_len n - k - 1)), vi 0, vi (i / (100 : Int32)), vi (i / (100 : Int32))] [(.int (((i / (100 : Int32)) * (100 : Int32)) - i)), (.ref d1), (.int (Int32.ofNat (own_len n - k - 1))), (.ref b)])) rfl rfl (hb hby d8_125) _ tk) ?_
     show Goes _ _ _ _ _ (fT T22 m 126 #[.val (.long il), .second, vi (Int32.ofNat (own_len n)), vr b, u4, u5, vi (((i / (100 : Int32)) * (100 : Int32)) - i), vi (Int32.ofNat (own_len n - k - 1)), vi 0, vi (i / (100 : Int32)), vi (i / (100 : Int32))] [(.int (own_dc ((own_q n k % 100) % 10))), (.int (Int32.ofNat (own_len n - k - 1))), (.ref b)])
     obtain ⟨cl24, Ar24, q24, S24, N24z, H24, G24⟩ := V_b
     have hin24 : ¬ ((Int32.ofNat (own_len n - k - 1)) < 0 ∨ cl24.slots.size ≤ ((Int32.ofNat (own_len n - k - 1))).toNatClampNeg) := inb_of S24 ⟨hp1.2.1, hp1.2.2.1⟩
     obtain ⟨T24, h24, X24, e24, W24, st24⟩ := stB X22 hx hZ e22 Ar24 (j := (Int32.ofNat (own_len n - k - 1))) hin24 (g := (mkF m 126 #[.val (.long il), .second, vi (Int32.ofNat (own_len n)), vr b, u4, u5, vi (((i / (100 : Int32)) * (100 : Int32)) - i), vi (Int32.ofNat (own_len n - k - 1)), vi 0, vi (i / (100 : Int32)), vi (i / (100 : Int32))] [(.int (own_dc ((own_q n k % 100) % 10))), (.int (Int32.ofNat (own_len n - k - 1))), (.ref b)])) rfl rfl (hb hby d8_126)
     have Vn24 := Arv.set Ar24 q24 S24 N24z H24 G24 (fits_nar_byte _) W24 (own_len n - k - 1) hp1.2.2.2 (by rw [own_bqL (by omega)]; omega)
     have N24 := Fr.snoc X24 N g_b
     replace S_DigitOnes := S_DigitOnes.wr W24
     replace S_DigitTens := S_DigitTens.wr W24
     replace V_d1 := V_d1.other W24 ne_d1_b
     replace V_d2 := V_d2.other W24 ne_d2_b
     replace KP := KP.wr W24 (Or.inl (List.mem_of_getElem? (i := 0) rfl))
     have hv24 : Value.int (lo8 (own_dc ((own_q n k % 100) % 10))) = .int (lo8 (own_dc (own_q n (own_len n - 1 - (own_len n - k - 1)) % 10))) := congrArg (fun z => Value.int (lo8 z)) (by rw [show own_len n - 1 - (own_len n - k - 1) = k from by omega]; exact own_dig1' n k)
     have V_b : Arv Z h24 b kb .byte z (own_bq n (own_len n - k - 1)) (.int 0) := own_arvE Vn24 (own_bqT (by omega) (by omega) hv24)
     replace Z0 : n0 ≤ h24.size := by rw [W24.size]; exact Z0
     refine Gs st24 ?_
     show Goes _ _ _ _ _ (fT T24 m 127 #[.val (.long il), .second, vi (Int32.ofNat (own_len n)), vr b, u4, u5, vi (((i / (100 : Int32)) * (100 : Int32)) - i), vi (Int32.ofNat (own_len n - k - 1)), vi 0, vi (i / (100 : Int32)), vi (i / (100 : Int32))] [])
     refine gA X24 hx hby d8_127 rfl rfl rfl ?_
     show Goes _ _ _ _ _ (fT T24 m 128 #[.val (.long il), .second, vi (Int32.ofNat (own_len n)), vr b, u4, u5, vi (((i / (100 : Int32)) * (100 : Int32)) - i), vi (Int32.ofNat (own_len n - k - 1)), vi 0, vi (i / (100 : Int32)), vi (i / (100 : Int32))] [(.ref b)])
     refine Gz (XS.iinc X24.here hx rfl (hb hby d8_128) rfl (l' := #[.val (.long il), .second, vi (Int32.ofNat (own_len n)), vr b, u4, u5, vi (((i / (100 : Int32)) * (100 : Int32)) - i), vi ((Int32.ofNat (own_len n - k - 1)) + (-1 : Int32)), vi 0, vi (i / (100 : Int32)), vi (i / (100 : Int32))]) rfl) ?_
     show Goes _ _ _ _ _ (fT T24 m 131 #[.val (.long il), .second, vi (Int32.ofNat (own_len n)), vr b, u4, u5, vi (((i / (100 : Int32)) * (100 : Int32)) - i), vi ((Int32.ofNat (own_len n - k - 1)) + (-1 : Int32)), vi 0, vi (i / (100 : Int32)), vi (i / (100 : Int32))] [(.ref b)])
     rw [hp2.1]
     show Goes _ _ _ _ _ (fT T24 m 131 #[.val (.long il), .second, vi (Int32.ofNat (own_len n)), vr b, u4, u5, vi (((i / (100 : Int32)) * (100 : Int32)) - i), vi (Int32.ofNat (own_len n - k - 1 - 1)), vi 0, vi (i / (100 : Int32)), vi (i / (100 : Int32))] [(.ref b)])
     refine gI X24 hx hby d8_131 rfl rfl ?_
     obtain ⟨T25, X25, e25, st25⟩ := getS2 X24 hx hZ hown (host := "") (Or.inl (gw hw 119 rfl)) Via.refl e24 S_DigitTens (g := (mkF m 133 #[.val (.long il), .second, vi (Int32.ofNat (own_len n)), vr b, u4, u5, vi (((i / (100 : Int32)) * (100 : Int32)) - i), vi (Int32.ofNat (own_len n - k - 1 - 1)), vi 0, vi (i / (100 : Int32)), vi (i / (100 : Int32))] [(.int (Int32.ofNat (own_len n - k - 1 - 1))), (.ref b)])) rfl (hb hby d8_133)
     refine Gs st25 ?_
     show Goes _ _ _ _ _ (fT T25 m 136 #[.val (.long il), .second, vi (Int32.ofNat (own_len n)), vr b, u4, u5, vi (((i / (100 : Int32)) * (100 : Int32)) - i), vi (Int32.ofNat (own_len n - k - 1 - 1)), vi 0, vi (i / (100 : Int32)), vi (i / (100 : Int32))] [(.ref d2), (.int (Int32.ofNat (own_len n - k - 1 - 1))), (.ref b)])
     refine gI X25 hx hby d8_136 rfl rfl ?_
     obtain ⟨cl26, Ar26, -, S26, N26z, H26, -⟩ := id V_d2
     have hin26 : ¬ ((((i / (100 : Int32)) * (100 : Int32)) - i) < 0 ∨ cl26.slots.size ≤ ((((i / (100 : Int32)) * (100 : Int32)) - i)).toNatClampNeg) := inb_of S26 ⟨(own_rI hd.2 hm).1, (own_rI hd.2 hm).2.1⟩
     have hat26 : cl26.slots[((((i / (100 : Int32)) * (100 : Int32)) - i)).toNatClampNeg]? = some (.int (own_dc ((own_q n k % 100) / 10))) := Has.at H26 hin26 (by rw [(own_rI hd.2 hm).2.2]; exact own_tabG (fun r => own_dc (r / 10)) hm _)
     refine Gs (fun _ tk => X25.baloadBytes hx (j := (((i / (100 : Int32)) * (100 : Int32)) - i)) (v := (.int (own_dc ((own_q n k % 100) / 10)))) (by rw [e25]; exact Ar26.1) (State.isArrayOf_alike hZ.alike Ar26.2.1) Ar26.2.2 hin26 hat26 (g := (mkF m 138 #[.val (.long il), .second, vi (Int32.ofNat (own_len n)), vr b, u4, u5, vi (((i / (100 : Int32)) * (100 : Int32)) - i), vi (Int32.ofNat (own_len n - k - 1 - 1)), vi 0, vi (i / (100 : Int32)), vi (i / (100 : Int32))] [(.int (((i / (100 : Int32)) * (100 : Int32)) - i)), (.ref d2), (.int (Int32.ofNat (own_len n - k - 1 - 1))), (.ref b)])) rfl rfl (hb hby d8_138) _ tk) ?_
     show Goes _ _ _ _ _ (fT T25 m 139 #[.val (.long il), .second, vi (Int32.ofNat (own_len n)), vr b, u4, u5, vi (((i / (100 : Int32)) * (100 : Int32)) - i), vi (Int32.ofNat (own_len n - k - 1 - 1)), vi 0, vi (i / (100 : Int32)), vi (i / (100 : Int32))] [(.int (own_dc ((own_q n k % 100) / 10))), (.int (Int32.ofNat (own_len n - k - 1 - 1))), (.ref b)])
     obtain ⟨cl27, Ar27, q27, S27, N27z, H27, G27⟩ := V_b
     have hin27 : ¬ ((Int32.ofNat (own_len n - k - 1 - 1)) < 0 ∨ cl27.slots.size ≤ ((Int32.ofNat (own_len n - k - 1 - 1))).toNatClampNeg) := inb_of S27 ⟨hp2.2.1, hp2.2.2.1⟩
     obtain ⟨T27, h27, X27, e27, W27, st27⟩ := stB X25 hx hZ e25 Ar27 (j := (Int32.ofNat (own_len n - k - 1 - 1))) hin27 (g := (mkF m 139 #[.val (.long il), .second, vi (Int32.ofNat (own_len n)), vr b, u4, u5, vi (((i / (100 : Int32)) * (100 : Int32)) - i), vi (Int32.ofNat (own_len n - k - 1 - 1)), vi 0, vi (i / (100 : Int32)), vi (i / (100 : Int32))] [(.int (own_dc ((own_q n k % 100) / 10))), (.int (Int32.ofNat (own_len n - k - 1 - 1))), (.ref b)])) rfl rfl (hb hby d8_139)
     have Vn27 := Arv.set Ar27 q27 S27 N27z H27 G27 (fits_nar_byte _) W27 (own_len n - k - 1 - 1) hp2.2.2.2 (by rw [own_bqL (by omega)]; omega)
     have N27 := Fr.snoc X27 N24 g_b
     replace S_DigitOnes := S_DigitOnes.wr W27
     replace S_DigitTens := S_DigitTens.wr W27
     replace V_d1 := V_d1.other W27 ne_d1_b
     replace V_d2 := V_d2.other W27 ne_d2_b
     replace KP := KP.wr W27 (Or.inl (List.mem_of_getElem? (i := 0) rfl))
     have hv27 : Value.int (lo8 (own_dc ((own_q n k % 100) / 10))) = .int (lo8 (own_dc (own_q n (own_len n - 1 - (own_len n - k - 1 - 1)) % 10))) := congrArg (fun z => Value.int (lo8 z)) (by rw [show own_len n - 1 - (own_len n - k - 1 - 1) = k + 1 from by omega]; exact own_dig2' n k)
     have V_b : Arv Z h27 b kb .byte z (own_bq n (own_len n - k - 1 - 1)) (.int 0) := own_arvE Vn27 (own_bqT (by omega) (by omega) hv27)
     replace Z0 : n0 ≤ h27.size := by rw [W27.size]; exact Z0
     refine Gs st27 ?_
     show Goes _ _ _ _ _ (fT T27 m 140 #[.val (.long il), .second, vi (Int32.ofNat (own_len n)), vr b, u4, u5, vi (((i / (100 : Int32)) * (100 : Int32)) - i), vi (Int32.ofNat (own_len n - k - 1 - 1)), vi 0, vi (i / (100 : Int32)), vi (i / (100 : Int32))] [])
     refine gG X27 hx hby d8_140 140 86 ?_
     show Goes _ _ _ _ _ (fT T27 m 86 #[.val (.long il), .second, vi (Int32.ofNat (own_len n)), vr b, u4, u5, vi (((i / (100 : Int32)) * (100 : Int32)) - i), vi (Int32.ofNat (own_len n - k - 1 - 1)), vi 0, vi (i / (100 : Int32)), vi (i / (100 : Int32))] [])
     exact ih (k + 2, _, _, _) _ _ (by show own_len n - (k + 2) < own_len n - k; omega) X27 ⟨hk2, by show _ = -((own_q n (k + 2) : Nat) : Int); rw [own_q2]; exact hd.1, by show own_q n (k + 2) < _; rw [own_q2]; omega, Or.inr (Or.inr ⟨_, _, rfl, rfl⟩), N27, (by rw [e27]; exact Z0), (by rw [e27]; exact KP), (by rw [e27]; exact V_b)⟩
  ·rcases hu with ⟨-, -, rfl⟩ | ⟨qa, ra, -, -, rfl⟩
   ·exact Or.inl ⟨rfl, rfl⟩
   ·exact Or.inr (Or.inl ⟨_, rfl, rfl⟩)
 ·refine gu X hx hby d8_29 ((if0 _ _).trans (flt hc29_1).2.2.1) ?_
  have hbig : 2147483648 ≤ own_q n k := by
   rcases Nat.lt_or_ge (own_q n k) 2147483648 with y | y
   ·exact absurd ((lw_gt _ _).mpr (by rw [Int64.lt_iff_toInt_lt, hi, show (-2147483648 : Int64).toInt = -2147483648 from by decide]; omega)) hc29_1
   ·exact y
  have hl2 : own_len (own_q n (k + 1)) + (k + 1) = own_len n := own_qlen hn (k + 1) (by have z := own_lenS (n := own_q n k) (by omega) hqn; have y := own_lenP (own_q n k / 10); omega)
  have hk2 : k + 2 < own_len n := by have z := own_lenS (n := own_q n (k + 1)) (by show 10 ≤ own_q n k / 10; omega) (by show own_q n k / 10 < 10000000000000; omega); have y := own_lenP (own_q n (k + 1) / 10); omega
  have hd := own_ldv hi hqn
  have hm : own_q n k % 100 < 100 := Nat.mod_lt _ (by omega)
  have hp1 := own_pI (p := own_len n - k) (by omega) (rfl : z.toNatClampNeg = z.toNatClampNeg) (by omega) (by omega)
  have hp2 := own_pI (p := own_len n - k - 1) (by omega) (rfl : z.toNatClampNeg = z.toNatClampNeg) (by omega) (by omega)
  obtain ⟨rfl, rfl, rfl⟩ | ⟨qa, ra, rfl, rfl, rfl⟩ := hu
  ·show Goes _ _ _ _ _ (fT T m 32 #[.val (.long i), .second, vi (Int32.ofNat (own_len n)), vr b, vu, vu, vu, vi (Int32.ofNat (own_len n - k)), vi 0, vu, vu] [])
   refine Gz (XS.lloadN X.here hx rfl (hb hby d8_32) rfl) ?_
   refine Gs (fun _ tk => Jvm.Stand.ldc2J X hx hown (gz hZ hw 232 rfl) rfl (hb hby d8_33) tk) ?_
   show Goes _ _ _ _ _ (fT T m 36 #[.val (.long i), .second, vi (Int32.ofNat (own_len n)), vr b, vu, vu, vu, vi (Int32.ofNat (own_len n - k)), vi 0, vu, vu] [(.long (100 : Int64)), (.long i)])
   refine Gz (XS.ldiv X.here hx rfl (hb hby d8_36) rfl (by decide)) ?_
   show Goes _ _ _ _ _ (fT T m 37 #[.val (.long i), .second, vi (Int32.ofNat (own_len n)), vr b, vu, vu, vu, vi (Int32.ofNat (own_len n - k)), vi 0, vu, vu] [(.long (i / (100 : Int64)))])
   refine Gz (XS.lstore X.here hx rfl (hb hby d8_37) rfl (l' := #[.val (.long i), .second, vi (Int32.ofNat (own_len n)), vr b, .val (.long (i / (100 : Int64))), .second, vu, vi (Int32.ofNat (own_len n - k)), vi 0, vu, vu]) rfl) ?_
   refine Gz (XS.lload X.here hx rfl (hb hby d8_39) rfl) ?_
   refine Gs (fun _ tk => Jvm.Stand.ldc2J X hx hown (gz hZ hw 232 rfl) rfl (hb hby d8_41) tk) ?_
   show Goes _ _ _ _ _ (fT T m 44 #[.val (.long i), .second, vi (Int32.ofNat (own_len n)), vr b, .val (.long (i / (100 : Int64))), .second, vu, vi (Int32.ofNat (own_len n - k)), vi 0, vu, vu] [(.long (100 : Int64)), (.long (i / (100 : Int64)))])
   refine Gz (XS.lmul X.here hx rfl (hb hby d8_44) rfl) ?_
   show Goes _ _ _ _ _ (fT T m 45 #[.val (.long i), .second, vi (Int32.ofNat (own_len n)), vr b, .val (.long (i / (100 : Int64))), .second, vu, vi (Int32.ofNat (own_len n - k)), vi 0, vu, vu] [(.long ((i / (100 : Int64)) * (100 : Int64)))])
   refine Gz (XS.lloadN X.here hx rfl (hb hby d8_45) rfl) ?_
   show Goes _ _ _ _ _ (fT T m 46 #[.val (.long i), .second, vi (Int32.ofNat (own_len n)), vr b, .val (.long (i / (100 : Int64))), .second, vu, vi (Int32.ofNat (own_len n - k)), vi 0, vu, vu] [(.long i), (.long ((i / (100 : Int64)) * (100 : Int64)))])
   refine Gz (XS.lsub X.here hx rfl (hb hby d8_46) rfl) ?_
   show Goes _ _ _ _ _ (fT T m 47 #[.val (.long i), .second, vi (Int32.ofNat (own_len n)), vr b, .val (.long (i / (100 : Int64))), .second, vu, vi (Int32.ofNat (own_len n - k)), vi 0, vu, vu] [(.long (((i / (100 : Int64)) * (100 : Int64)) - i))])
   refine Gz (XS.l2i X.here hx rfl (hb hby d8_47) rfl) ?_
   show Goes _ _ _ _ _ (fT T m 48 #[.val (.long i), .second, vi (Int32.ofNat (own_len n)), vr b, .val (.long (i / (100 : Int64))), .second, vu, vi (Int32.ofNat (own_len n - k)), vi 0, vu, vu] [(.int ((((i / (100 : Int64)) * (100 : Int64)) - i).toInt32))])
   refine gS X hx hby d8_48 #[.val (.long i), .second, vi (Int32.ofNat (own_len n)), vr b, .val (.long (i / (100 : Int64))), .second, .val (.int ((((i / (100 : Int64)) * (100 : Int64)) - i).toInt32)), vi (Int32.ofNat (own_len n - k)), vi 0, vu, vu] ?_
   refine Gz (XS.lload X.here hx rfl (hb hby d8_50) rfl) ?_
   refine Gz (XS.lstoreN X.here hx rfl (hb hby d8_52) rfl (l' := #[.val (.long (i / (100 : Int64))), .second, vi (Int32.ofNat (own_len n)), vr b, .val (.long (i / (100 : Int64))), .second, .val (.int ((((i / (100 : Int64)) * (100 : Int64)) - i).toInt32)), vi (Int32.ofNat (own_len n - k)), vi 0, vu, vu]) rfl) ?_
   refine gA X hx hby d8_53 rfl rfl rfl ?_
   show Goes _ _ _ _ _ (fT T m 54 #[.val (.long (i / (100 : Int64))), .second, vi (Int32.ofNat (own_len n)), vr b, .val (.long (i / (100 : Int64))), .second, .val (.int ((((i / (100 : Int64)) * (100 : Int64)) - i).toInt32)), vi (Int32.ofNat (own_len n - k)), vi 0, vu, vu] [(.ref b)])
   refine Gz (XS.iinc X.here hx rfl (hb hby d8_54) rfl (l' := #[.val (.long (i / (100 : Int64))), .second, vi (Int32.ofNat (own_len n)), vr b, .val (.long (i / (100 : Int64))), .second, .val (.int ((((i / (100 : Int64)) * (100 : Int64)) - i).toInt32)), vi ((Int32.ofNat (own_len n - k)) + (-1 : Int32)), vi 0, vu, vu]) rfl) ?_
   show Goes _ _ _ _ _ (fT T m 57 #[.val (.long (i / (100 : Int64))), .second, vi (Int32.ofNat (own_len n)), vr b, .val (.long (i / (100 : Int64))), .second, .val (.int ((((i / (100 : Int64)) * (100 : Int64)) - i).toInt32)), vi ((Int32.ofNat (own_len n - k)) + (-1 : Int32)), vi 0, vu, vu] [(.ref b)])
   rw [hp1.1]
   show Goes _ _ _ _ _ (fT T m 57 #[.val (.long (i / (100 : Int64))), .second, vi (Int32.ofNat (own_len n)), vr b, .val (.long (i / (100 : Int64))), .second, .val (.int ((((i / (100 : Int64)) * (100 : Int64)) - i).toInt32)), vi (Int32.ofNat (own_len n - k - 1)), vi 0, vu, vu] [(.ref b)])
   refine gI X hx hby d8_57 rfl rfl ?_
   obtain ⟨T28, X28, e28, st28⟩ := getS2 X hx hZ hown (host := "") (Or.inl (gw hw 62 rfl)) Via.refl rfl S_DigitOnes (g := (mkF m 59 #[.val (.long (i / (100 : Int64))), .second, vi (Int32.ofNat (own_len n)), vr b, .val (.long (i / (100 : Int64))), .second, .val (.int ((((i / (100 : Int64)) * (100 : Int64)) - i).toInt32)), vi (Int32.ofNat (own_len n - k - 1)), vi 0, vu, vu] [(.int (Int32.ofNat (own_len n - k - 1))), (.ref b)])) rfl (hb hby d8_59)
   refine Gs st28 ?_
   show Goes _ _ _ _ _ (fT T28 m 62 #[.val (.long (i / (100 : Int64))), .second, vi (Int32.ofNat (own_len n)), vr b, .val (.long (i / (100 : Int64))), .second, .val (.int ((((i / (100 : Int64)) * (100 : Int64)) - i).toInt32)), vi (Int32.ofNat (own_len n - k - 1)), vi 0, vu, vu] [(.ref d1), (.int (Int32.ofNat (own_len n - k - 1))), (.ref b)])
   refine gI X28 hx hby d8_62 rfl rfl ?_
   obtain ⟨cl29, Ar29, -, S29, N29z, H29, -⟩ := id V_d1
   have hin29 : ¬ (((((i / (100 : Int64)) * (100 : Int64)) - i).toInt32) < 0 ∨ cl29.slots.size ≤ (((((i / (100 : Int64)) * (100 : Int64)) - i).toInt32)).toNatClampNeg) := inb_of S29 ⟨(own_rI hd.2 hm).1, (own_rI hd.2 hm).2.1⟩
   have hat29 : cl29.slots[(((((i / (100 : Int64)) * (100 : Int64)) - i).toInt32)).toNatClampNeg]? = some (.int (own_dc ((own_q n k % 100) % 10))) := Has.at H29 hin29 (by rw [(own_rI hd.2 hm).2.2]; exact own_tabG (fun r => own_dc (r % 10)) hm _)
   refine Gs (fun _ tk => X28.baloadBytes hx (j := ((((i / (100 : Int64)) * (100 : Int64)) - i).toInt32)) (v := (.int (own_dc ((own_q n k % 100) % 10)))) (by rw [e28]; exact Ar29.1) (State.isArrayOf_alike hZ.alike Ar29.2.1) Ar29.2.2 hin29 hat29 (g := (mkF m 64 #[.val (.long (i / (100 : Int64))), .second, vi (Int32.ofNat (own_len n)), vr b, .val (.long (i / (100 : Int64))), .second, .val (.int ((((i / (100 : Int64)) * (100 : Int64)) - i).toInt32)), vi (Int32.ofNat (own_len n - k - 1)), vi 0, vu, vu] [(.int ((((i / (100 : Int64)) * (100 : Int64)) - i).toInt32)), (.ref d1), (.int (Int32.ofNat (own_len n - k - 1))), (.ref b)])) rfl rfl (hb hby d8_64) _ tk) ?_
   show Goes _ _ _ _ _ (fT T28 m 65 #[.val (.long (i / (100 : Int64))), .second, vi (Int32.ofNat (own_len n)), vr b, .val (.long (i / (100 : Int64))), .second, .val (.int ((((i / (100 : Int64)) * (100 : Int64)) - i).toInt32)), vi (Int32.ofNat (own_len n - k - 1)), vi 0, vu, vu] [(.int (own_dc ((own_q n k % 100) % 10))), (.int (Int32.ofNat (own_len n - k - 1))), (.ref b)])
   obtain ⟨cl30, Ar30, q30, S30, N30z, H30, G30⟩ := V_b
   have hin30 : ¬ ((Int32.ofNat (own_len n - k - 1)) < 0 ∨ cl30.slots.size ≤ ((Int32.ofNat (own_len n - k - 1))).toNatClampNeg) := inb_of S30 ⟨hp1.2.1, hp1.2.2.1⟩
   obtain ⟨T30, h30, X30, e30, W30, st30⟩ := stB X28 hx hZ e28 Ar30 (j := (Int32.ofNat (own_len n - k - 1))) hin30 (g := (mkF m 65 #[.val (.long (i / (100 : Int64))), .second, vi (Int32.ofNat (own_len n)), vr b, .val (.long (i / (100 : Int64))), .second, .val (.int ((((i / (100 : Int64)) * (100 : Int64)) - i).toInt32)), vi (Int32.ofNat (own_len n - k - 1)), vi 0, vu, vu] [(.int (own_dc ((own_q n k % 100) % 10))), (.int (Int32.ofNat (own_len n - k - 1))), (.ref b)])) rfl rfl (hb hby d8_65)
   have Vn30 := Arv.set Ar30 q30 S30 N30z H30 G30 (fits_nar_byte _) W30 (own_len n - k - 1) hp1.2.2.2 (by rw [own_bqL (by omega)]; omega)
   have N30 := Fr.snoc X30 N g_b
   replace S_DigitOnes := S_DigitOnes.wr W30
   replace S_DigitTens := S_DigitTens.wr W30
   replace V_d1 := V_d1.other W30 ne_d1_b
   replace V_d2 := V_d2.other W30 ne_d2_b
   replace KP := KP.wr W30 (Or.inl (List.mem_of_getElem? (i := 0) rfl))
   have hv30 : Value.int (lo8 (own_dc ((own_q n k % 100) % 10))) = .int (lo8 (own_dc (own_q n (own_len n - 1 - (own_len n - k - 1)) % 10))) := congrArg (fun z => Value.int (lo8 z)) (by rw [show own_len n - 1 - (own_len n - k - 1) = k from by omega]; exact own_dig1' n k)
   have V_b : Arv Z h30 b kb .byte z (own_bq n (own_len n - k - 1)) (.int 0) := own_arvE Vn30 (own_bqT (by omega) (by omega) hv30)
   replace Z0 : n0 ≤ h30.size := by rw [W30.size]; exact Z0
   refine Gs st30 ?_
   show Goes _ _ _ _ _ (fT T30 m 66 #[.val (.long (i / (100 : Int64))), .second, vi (Int32.ofNat (own_len n)), vr b, .val (.long (i / (100 : Int64))), .second, .val (.int ((((i / (100 : Int64)) * (100 : Int64)) - i).toInt32)), vi (Int32.ofNat (own_len n - k - 1)), vi 0, vu, vu] [])
   refine gA X30 hx hby d8_66 rfl rfl rfl ?_
   show Goes _ _ _ _ _ (fT T30 m 67 #[.val (.long (i / (100 : Int64))), .second, vi (Int32.ofNat (own_len n)), vr b, .val (.long (i / (100 : Int64))), .second, .val (.int ((((i / (100 : Int64)) * (100 : Int64)) - i).toInt32)), vi (Int32.ofNat (own_len n - k - 1)), vi 0, vu, vu] [(.ref b)])
   refine Gz (XS.iinc X30.here hx rfl (hb hby d8_67) rfl (l' := #[.val (.long (i / (100 : Int64))), .second, vi (Int32.ofNat (own_len n)), vr b, .val (.long (i / (100 : Int64))), .second, .val (.int ((((i / (100 : Int64)) * (100 : Int64)) - i).toInt32)), vi ((Int32.ofNat (own_len n - k - 1)) + (-1 : Int32)), vi 0, vu, vu]) rfl) ?_
   show Goes _ _ _ _ _ (fT T30 m 70 #[.val (.long (i / (100 : Int64))), .second, vi (Int32.ofNat (own_len n)), vr b, .val (.long (i / (100 : Int64))), .second, .val (.int ((((i / (100 : Int64)) * (100 : Int64)) - i).toInt32)), vi ((Int32.ofNat (own_len n - k - 1)) + (-1 : Int32)), vi 0, vu, vu] [(.ref b)])
   rw [hp2.1]
   show Goes _ _ _ _ _ (fT T30 m 70 #[.val (.long (i / (100 : Int64))), .second, vi (Int32.ofNat (own_len n)), vr b, .val (.long (i / (100 : Int64))), .second, .val (.int ((((i / (100 : Int64)) * (100 : Int64)) - i).toInt32)), vi (Int32.ofNat (own_len n - k - 1 - 1)), vi 0, vu, vu] [(.ref b)])
   refine gI X30 hx hby d8_70 rfl rfl ?_
   obtain ⟨T31, X31, e31, st31⟩ := getS2 X30 hx hZ hown (host := "") (Or.inl (gw hw 119 rfl)) Via.refl e30 S_DigitTens (g := (mkF m 72 #[.val (.long (i / (100 : Int64))), .second, vi (Int32.ofNat (own_len n)), vr b, .val (.long (i / (100 : Int64))), .second, .val (.int ((((i / (100 : Int64)) * (100 : Int64)) - i).toInt32)), vi (Int32.ofNat (own_len n - k - 1 - 1)), vi 0, vu, vu] [(.int (Int32.ofNat (own_len n - k - 1 - 1))), (.ref b)])) rfl (hb hby d8_72)
   refine Gs st31 ?_
   show Goes _ _ _ _ _ (fT T31 m 75 #[.val (.long (i / (100 : Int64))), .second, vi (Int32.ofNat (own_len n)), vr b, .val (.long (i / (100 : Int64))), .second, .val (.int ((((i / (100 : Int64)) * (100 : Int64)) - i).toInt32)), vi (Int32.ofNat (own_len n - k - 1 - 1)), vi 0, vu, vu] [(.ref d2), (.int (Int32.ofNat (own_len n - k - 1 - 1))), (.ref b)])
   refine gI X31 hx hby d8_75 rfl rfl ?_
   obtain ⟨cl32, Ar32, -, S32, N32z, H32, -⟩ := id V_d2
   have hin32 : ¬ (((((i / (100 : Int64)) * (100 : Int64)) - i).toInt32) < 0 ∨ cl32.slots.size ≤ (((((i / (100 : Int64)) * (100 : Int64)) - i).toInt32)).toNatClampNeg) := inb_of S32 ⟨(own_rI hd.2 hm).1, (own_rI hd.2 hm).2.1⟩
   have hat32 : cl32.slots[(((((i / (100 : Int64)) * (100 : Int64)) - i).toInt32)).toNatClampNeg]? = some (.int (own_dc ((own_q n k % 100) / 10))) := Has.at H32 hin32 (by rw [(own_rI hd.2 hm).2.2]; exact own_tabG (fun r => own_dc (r / 10)) hm _)
   refine Gs (fun _ tk => X31.baloadBytes hx (j := ((((i / (100 : Int64)) * (100 : Int64)) - i).toInt32)) (v := (.int (own_dc ((own_q n k % 100) / 10)))) (by rw [e31]; exact Ar32.1) (State.isArrayOf_alike hZ.alike Ar32.2.1) Ar32.2.2 hin32 hat32 (g := (mkF m 77 #[.val (.long (i / (100 : Int64))), .second, vi (Int32.ofNat (own_len n)), vr b, .val (.long (i / (100 : Int64))), .second, .val (.int ((((i / (100 : Int64)) * (100 : Int64)) - i).toInt32)), vi (Int32.ofNat (own_len n - k - 1 - 1)), vi 0, vu, vu] [(.int ((((i / (100 : Int64)) * (100 : Int64)) - i).toInt32)), (.ref d2), (.int (Int32.ofNat (own_len n - k - 1 - 1))), (.ref b)])) rfl rfl (hb hby d8_77) _ tk) ?_
   show Goes _ _ _ _ _ (fT T31 m 78 #[.val (.long (i / (100 : Int64))), .second, vi (Int32.ofNat (own_len n)), vr b, .val (.long (i / (100 : Int64))), .second, .val (.int ((((i / (100 : Int64)) * (100 : Int64)) - i).toInt32)), vi (Int32.ofNat (own_len n - k - 1 - 1)), vi 0, vu, vu] [(.int (own_dc ((own_q n k % 100) / 10))), (.int (Int32.ofNat (own_len n - k - 1 - 1))), (.ref b)])
   obtain ⟨cl33, Ar33, q33, S33, N33z, H33, G33⟩ := V_b
   have hin33 : ¬ ((Int32.ofNat (own_len n - k - 1 - 1)) < 0 ∨ cl33.slots.size ≤ ((Int32.ofNat (own_len n - k - 1 - 1))).toNatClampNeg) := inb_of S33 ⟨hp2.2.1, hp2.2.2.1⟩
   obtain ⟨T33, h33, X33, e33, W33, st33⟩ := stB X31 hx hZ e31 Ar33 (j := (Int32.ofNat (own_len n - k - 1 - 1))) hin33 (g := (mkF m 78 #[.val (.long (i / (100 : Int64))), .second, vi (Int32.ofNat (own_len n)), vr b, .val (.long (i / (100 : Int64))), .second, .val (.int ((((i / (100 : Int64)) * (100 : Int64)) - i).toInt32)), vi (Int32.ofNat (own_len n - k - 1 - 1)), vi 0, vu, vu] [(.int (own_dc ((own_q n k % 100) / 10))), (.int (Int32.ofNat (own_len n - k - 1 - 1))), (.ref b)])) rfl rfl (hb hby d8_78)
   have Vn33 := Arv.set Ar33 q33 S33 N33z H33 G33 (fits_nar_byte _) W33 (own_len n - k - 1 - 1) hp2.2.2.2 (by rw [own_bqL (by omega)]; omega)
   have N33 := Fr.snoc X33 N30 g_b
   replace S_DigitOnes := S_DigitOnes.wr W33
   replace S_DigitTens := S_DigitTens.wr W33
   replace V_d1 := V_d1.other W33 ne_d1_b
   replace V_d2 := V_d2.other W33 ne_d2_b
   replace KP := KP.wr W33 (Or.inl (List.mem_of_getElem? (i := 0) rfl))
   have hv33 : Value.int (lo8 (own_dc ((own_q n k % 100) / 10))) = .int (lo8 (own_dc (own_q n (own_len n - 1 - (own_len n - k - 1 - 1)) % 10))) := congrArg (fun z => Value.int (lo8 z)) (by rw [show own_len n - 1 - (own_len n - k - 1 - 1) = k + 1 from by omega]; exact own_dig2' n k)
   have V_b : Arv Z h33 b kb .byte z (own_bq n (own_len n - k - 1 - 1)) (.int 0) := own_arvE Vn33 (own_bqT (by omega) (by omega) hv33)
   replace Z0 : n0 ≤ h33.size := by rw [W33.size]; exact Z0
   refine Gs st33 ?_
   show Goes _ _ _ _ _ (fT T33 m 79 #[.val (.long (i / (100 : Int64))), .second, vi (Int32.ofNat (own_len n)), vr b, .val (.long (i / (100 : Int64))), .second, .val (.int ((((i / (100 : Int64)) * (100 : Int64)) - i).toInt32)), vi (Int32.ofNat (own_len n - k - 1 - 1)), vi 0, vu, vu] [])
   refine gG X33 hx hby d8_79 79 24 ?_
   show Goes _ _ _ _ _ (fT T33 m 24 #[.val (.long (i / (100 : Int64))), .second, vi (Int32.ofNat (own_len n)), vr b, .val (.long (i / (100 : Int64))), .second, .val (.int ((((i / (100 : Int64)) * (100 : Int64)) - i).toInt32)), vi (Int32.ofNat (own_len n - k - 1 - 1)), vi 0, vu, vu] [])
   exact ih (k + 2, _, _, _, _) _ _ (by show own_len n - (k + 2) < own_len n - k; omega) X33 ⟨hk2, by show _ = -((own_q n (k + 2) : Nat) : Int); rw [own_q2]; exact hd.1, Or.inr ⟨_, _, rfl, rfl, rfl⟩, N33, (by rw [e33]; exact Z0), (by rw [e33]; exact KP), (by rw [e33]; exact V_b)⟩
  ·show Goes _ _ _ _ _ (fT T m 32 #[.val (.long i), .second, vi (Int32.ofNat (own_len n)), vr b, .val (.long qa), .second, vi ra, vi (Int32.ofNat (own_len n - k)), vi 0, vu, vu] [])
   refine Gz (XS.lloadN X.here hx rfl (hb hby d8_32) rfl) ?_
   refine Gs (fun _ tk => Jvm.Stand.ldc2J X hx hown (gz hZ hw 232 rfl) rfl (hb hby d8_33) tk) ?_
   show Goes _ _ _ _ _ (fT T m 36 #[.val (.long i), .second, vi (Int32.ofNat (own_len n)), vr b, .val (.long qa), .second, vi ra, vi (Int32.ofNat (own_len n - k)), vi 0, vu, vu] [(.long (100 : Int64)), (.long i)])
   refine Gz (XS.ldiv X.here hx rfl (hb hby d8_36) rfl (by decide)) ?_
   show Goes _ _ _ _ _ (fT T m 37 #[.val (.long i), .second, vi (Int32.ofNat (own_len n)), vr b, .val (.long qa), .second, vi ra, vi (Int32.ofNat (own_len n - k)), vi 0, vu, vu] [(.long (i / (100 : Int64)))])
   refine Gz (XS.lstore X.here hx rfl (hb hby d8_37) rfl (l' := #[.val (.long i), .second, vi (Int32.ofNat (own_len n)), vr b, .val (.long (i / (100 : Int64))), .second, vi ra, vi (Int32.ofNat (own_len n - k)), vi 0, vu, vu]) rfl) ?_
   refine Gz (XS.lload X.here hx rfl (hb hby d8_39) rfl) ?_
   refine Gs (fun _ tk => Jvm.Stand.ldc2J X hx hown (gz hZ hw 232 rfl) rfl (hb hby d8_41) tk) ?_
   show Goes _ _ _ _ _ (fT T m 44 #[.val (.long i), .second, vi (Int32.ofNat (own_len n)), vr b, .val (.long (i / (100 : Int64))), .second, vi ra, vi (Int32.ofNat (own_len n - k)), vi 0, vu, vu] [(.long (100 : Int64)), (.long (i / (100 : Int64)))])
   refine Gz (XS.lmul X.here hx rfl (hb hby d8_44) rfl) ?_
   show Goes _ _ _ _ _ (fT T m 45 #[.val (.long i), .second, vi (Int32.ofNat (own_len n)), vr b, .val (.long (i / (100 : Int64))), .second, vi ra, vi (Int32.ofNat (own_len n - k)), vi 0, vu, vu] [(.long ((i / (100 : Int64)) * (100 : Int64)))])
   refine Gz (XS.lloadN X.here hx rfl (hb hby d8_45) rfl) ?_
   show Goes _ _ _ _ _ (fT T m 46 #[.val (.long i), .second, vi (Int32.ofNat (own_len n)), vr b, .val (.long (i / (100 : Int64))), .second, vi ra, vi (Int32.ofNat (own_len n - k)), vi 0, vu, vu] [(.long i), (.long ((i / (100 : Int64)) * (100 : Int64)))])
   refine Gz (XS.lsub X.here hx rfl (hb hby d8_46) rfl) ?_
   show Goes _ _ _ _ _ (fT T m 47 #[.val (.long i), .second, vi (Int32.ofNat (own_len n)), vr b, .val (.long (i / (100 : Int64))), .second, vi ra, vi (Int32.ofNat (own_len n - k)), vi 0, vu, vu] [(.long (((i / (100 : Int64)) * (100 : Int64)) - i))])
   refine Gz (XS.l2i X.here hx rfl (hb hby d8_47) rfl) ?_
   show Goes _ _ _ _ _ (fT T m 48 #[.val (.long i), .second, vi (Int32.ofNat (own_len n)), vr b, .val (.long (i / (100 : Int64))), .second, vi ra, vi (Int32.ofNat (own_len n - k)), vi 0, vu, vu] [(.int ((((i / (100 : Int64)) * (100 : Int64)) - i).toInt32))])
   refine gS X hx hby d8_48 #[.val (.long i), .second, vi (Int32.ofNat (own_len n)), vr b, .val (.long (i / (100 : Int64))), .second, .val (.int ((((i / (100 : Int64)) * (100 : Int64)) - i).toInt32)), vi (Int32.ofNat (own_len n - k)), vi 0, vu, vu] ?_
   refine Gz (XS.lload X.here hx rfl (hb hby d8_50) rfl) ?_
   refine Gz (XS.lstoreN X.here hx rfl (hb hby d8_52) rfl (l' := #[.val (.long (i / (100 : Int64))), .second, vi (Int32.ofNat (own_len n)), vr b, .val (.long (i / (100 : Int64))), .second, .val (.int ((((i / (100 : Int64)) * (100 : Int64)) - i).toInt32)), vi (Int32.ofNat (own_len n - k)), vi 0, vu, vu]) rfl) ?_
   refine gA X hx hby d8_53 rfl rfl rfl ?_
   show Goes _ _ _ _ _ (fT T m 54 #[.val (.long (i / (100 : Int64))), .second, vi (Int32.ofNat (own_len n)), vr b, .val (.long (i / (100 : Int64))), .second, .val (.int ((((i / (100 : Int64)) * (100 : Int64)) - i).toInt32)), vi (Int32.ofNat (own_len n - k)), vi 0, vu, vu] [(.ref b)])
   refine Gz (XS.iinc X.here hx rfl (hb hby d8_54) rfl (l' := #[.val (.long (i / (100 : Int64))), .second, vi (Int32.ofNat (own_len n)), vr b, .val (.long (i / (100 : Int64))), .second, .val (.int ((((i / (100 : Int64)) * (100 : Int64)) - i).toInt32)), vi ((Int32.ofNat (own_len n - k)) + (-1 : Int32)), vi 0, vu, vu]) rfl) ?_
   show Goes _ _ _ _ _ (fT T m 57 #[.val (.long (i / (100 : Int64))), .second, vi (Int32.ofNat (own_len n)), vr b, .val (.long (i / (100 : Int64))), .second, .val (.int ((((i / (100 : Int64)) * (100 : Int64)) - i).toInt32)), vi ((Int32.ofNat (own_len n - k)) + (-1 : Int32)), vi 0, vu, vu] [(.ref b)])
   rw [hp1.1]
   show Goes _ _ _ _ _ (fT T m 57 #[.val (.long (i / (100 : Int64))), .second, vi (Int32.ofNat (own_len n)), vr b, .val (.long (i / (100 : Int64))), .second, .val (.int ((((i / (100 : Int64)) * (100 : Int64)) - i).toInt32)), vi (Int32.ofNat (own_len n - k - 1)), vi 0, vu, vu] [(.ref b)])
   refine gI X hx hby d8_57 rfl rfl ?_
   obtain ⟨T34, X34, e34, st34⟩ := getS2 X hx hZ hown (host := "") (Or.inl (gw hw 62 rfl)) Via.refl rfl S_DigitOnes (g := (mkF m 59 #[.val (.long (i / (100 : Int64))), .second, vi (Int32.ofNat (own_len n)), vr b, .val (.long (i / (100 : Int64))), .second, .val (.int ((((i / (100 : Int64)) * (100 : Int64)) - i).toInt32)), vi (Int32.ofNat (own_len n - k - 1)), vi 0, vu, vu] [(.int (Int32.ofNat (own_len n - k - 1))), (.ref b)])) rfl (hb hby d8_59)
   refine Gs st34 ?_
   show Goes _ _ _ _ _ (fT T34 m 62 #[.val (.long (i / (100 : Int64))), .second, vi (Int32.ofNat (own_len n)), vr b, .val (.long (i / (100 : Int64))), .second, .val (.int ((((i / (100 : Int64)) * (100 : Int64)) - i).toInt32)), vi (Int32.ofNat (own_len n - k - 1)), vi 0, vu, vu] [(.ref d1), (.int (Int32.ofNat (own_len n - k - 1))), (.ref b)])
   refine gI X34 hx hby d8_62 rfl rfl ?_
   obtain ⟨cl35, Ar35, -, S35, N35z, H35, -⟩ := id V_d1
   have hin35 : ¬ (((((i / (100 : Int64)) * (100 : Int64)) - i).toInt32) < 0 ∨ cl35.slots.size ≤ (((((i / (100 : Int64)) * (100 : Int64)) - i).toInt32)).toNatClampNeg) := inb_of S35 ⟨(own_rI hd.2 hm).1, (own_rI hd.2 hm).2.1⟩
   have hat35 : cl35.slots[(((((i / (100 : Int64)) * (100 : Int64)) - i).toInt32)).toNatClampNeg]? = some (.int (own_dc ((own_q n k % 100) % 10))) := Has.at H35 hin35 (by rw [(own_rI hd.2 hm).2.2]; exact own_tabG (fun r => own_dc (r % 10)) hm _)
   refine Gs (fun _ tk => X34.baloadBytes hx (j := ((((i / (100 : Int64)) * (100 : Int64)) - i).toInt32)) (v := (.int (own_dc ((own_q n k % 100) % 10)))) (by rw [e34]; exact Ar35.1) (State.isArrayOf_alike hZ.alike Ar35.2.1) Ar35.2.2 hin35 hat35 (g := (mkF m 64 #[.val (.long (i / (100 : Int64))), .second, vi (Int32.ofNat (own_len n)), vr b, .val (.long (i / (100 : Int64))), .second, .val (.int ((((i / (100 : Int64)) * (100 : Int64)) - i).toInt32)), vi (Int32.ofNat (own_len n - k - 1)), vi 0, vu, vu] [(.int ((((i / (100 : Int64)) * (100 : Int64)) - i).toInt32)), (.ref d1), (.int (Int32.ofNat (own_len n - k - 1))), (.ref b)])) rfl rfl (hb hby d8_64) _ tk) ?_
   show Goes _ _ _ _ _ (fT T34 m 65 #[.val (.long (i / (100 : Int64))), .second, vi (Int32.ofNat (own_len n)), vr b, .val (.long (i / (100 : Int64))), .second, .val (.int ((((i / (100 : Int64)) * (100 : Int64)) - i).toInt32)), vi (Int32.ofNat (own_len n - k - 1)), vi 0, vu, vu] [(.int (own_dc ((own_q n k % 100) % 10))), (.int (Int32.ofNat (own_len n - k - 1))), (.ref b)])
   obtain ⟨cl36, Ar36, q36, S36, N36z, H36, G36⟩ := V_b
   have hin36 : ¬ ((Int32.ofNat (own_len n - k - 1)) < 0 ∨ cl36.slots.size ≤ ((Int32.ofNat (own_len n - k - 1))).toNatClampNeg) := inb_of S36 ⟨hp1.2.1, hp1.2.2.1⟩
   obtain ⟨T36, h36, X36, e36, W36, st36⟩ := stB X34 hx hZ e34 Ar36 (j := (Int32.ofNat (own_len n - k - 1))) hin36 (g := (mkF m 65 #[.val (.long (i / (100 : Int64))), .second, vi (Int32.ofNat (own_len n)), vr b, .val (.long (i / (100 : Int64))), .second, .val (.int ((((i / (100 : Int64)) * (100 : Int64)) - i).toInt32)), vi (Int32.ofNat (own_len n - k - 1)), vi 0, vu, vu] [(.int (own_dc ((own_q n k % 100) % 10))), (.int (Int32.ofNat (own_len n - k - 1))), (.ref b)])) rfl rfl (hb hby d8_65)
   have Vn36 := Arv.set Ar36 q36 S36 N36z H36 G36 (fits_nar_byte _) W36 (own_len n - k - 1) hp1.2.2.2 (by rw [own_bqL (by omega)]; omega)
   have N36 := Fr.snoc X36 N g_b
   replace S_DigitTens := S_DigitTens.wr W36
   replace V_d2 := V_d2.other W36 ne_d2_b
   replace KP := KP.wr W36 (Or.inl (List.mem_of_getElem? (i := 0) rfl))
   have hv36 : Value.int (lo8 (own_dc ((own_q n k % 100) % 10))) = .int (lo8 (own_dc (own_q n (own_len n - 1 - (own_len n - k - 1)) % 10))) := congrArg (fun z => Value.int (lo8 z)) (by rw [show own_len n - 1 - (own_len n - k - 1) = k from by omega]; exact own_dig1' n k)
   have V_b : Arv Z h36 b kb .byte z (own_bq n (own_len n - k - 1)) (.int 0) := own_arvE Vn36 (own_bqT (by omega) (by omega) hv36)
   replace Z0 : n0 ≤ h36.size := by rw [W36.size]; exact Z0
   refine Gs st36 ?_
   show Goes _ _ _ _ _ (fT T36 m 66 #[.val (.long (i / (100 : Int64))), .second, vi (Int32.ofNat (own_len n)), vr b, .val (.long (i / (100 : Int64))), .second, .val (.int ((((i / (100 : Int64)) * (100 : Int64)) - i).toInt32)), vi (Int32.ofNat (own_len n - k - 1)), vi 0, vu, vu] [])
   refine gA X36 hx hby d8_66 rfl rfl rfl ?_
   show Goes _ _ _ _ _ (fT T36 m 67 #[.val (.long (i / (100 : Int64))), .second, vi (Int32.ofNat (own_len n)), vr b, .val (.long (i / (100 : Int64))), .second, .val (.int ((((i / (100 : Int64)) * (100 : Int64)) - i).toInt32)), vi (Int32.ofNat (own_len n - k - 1)), vi 0, vu, vu] [(.ref b)])
   refine Gz (XS.iinc X36.here hx rfl (hb hby d8_67) rfl (l' := #[.val (.long (i / (100 : Int64))), .second, vi (Int32.ofNat (own_len n)), vr b, .val (.long (i / (100 : Int64))), .second, .val (.int ((((i / (100 : Int64)) * (100 : Int64)) - i).toInt32)), vi ((Int32.ofNat (own_len n - k - 1)) + (-1 : Int32)), vi 0, vu, vu]) rfl) ?_
   show Goes _ _ _ _ _ (fT T36 m 70 #[.val (.long (i / (100 : Int64))), .second, vi (Int32.ofNat (own_len n)), vr b, .val (.long (i / (100 : Int64))), .second, .val (.int ((((i / (100 : Int64)) * (100 : Int64)) - i).toInt32)), vi ((Int32.ofNat (own_len n - k - 1)) + (-1 : Int32)), vi 0, vu, vu] [(.ref b)])
   rw [hp2.1]
   show Goes _ _ _ _ _ (fT T36 m 70 #[.val (.long (i / (100 : Int64))), .second, vi (Int32.ofNat (own_len n)), vr b, .val (.long (i / (100 : Int64))), .second, .val (.int ((((i / (100 : Int64)) * (100 : Int64)) - i).toInt32)), vi (Int32.ofNat (own_len n - k - 1 - 1)), vi 0, vu, vu] [(.ref b)])
   refine gI X36 hx hby d8_70 rfl rfl ?_
   obtain ⟨T37, X37, e37, st37⟩ := getS2 X36 hx hZ hown (host := "") (Or.inl (gw hw 119 rfl)) Via.refl e36 S_DigitTens (g := (mkF m 72 #[.val (.long (i / (100 : Int64))), .second, vi (Int32.ofNat (own_len n)), vr b, .val (.long (i / (100 : Int64))), .second, .val (.int ((((i / (100 : Int64)) * (100 : Int64)) - i).toInt32)), vi (Int32.ofNat (own_len n - k - 1 - 1)), vi 0, vu, vu] [(.int (Int32.ofNat (own_len n - k - 1 - 1))), (.ref b)])) rfl (hb hby d8_72)
   refine Gs st37 ?_
   show Goes _ _ _ _ _ (fT T37 m 75 #[.val (.long (i / (100 : Int64))), .second, vi (Int32.ofNat (own_len n)), vr b, .val (.long (i / (100 : Int64))), .second, .val (.int ((((i / (100 : Int64)) * (100 : Int64)) - i).toInt32)), vi (Int32.ofNat (own_len n - k - 1 - 1)), vi 0, vu, vu] [(.ref d2), (.int (Int32.ofNat (own_len n - k - 1 - 1))), (.ref b)])
   refine gI X37 hx hby d8_75 rfl rfl ?_
   obtain ⟨cl38, Ar38, -, S38, N38z, H38, -⟩ := id V_d2
   have hin38 : ¬ (((((i / (100 : Int64)) * (100 : Int64)) - i).toInt32) < 0 ∨ cl38.slots.size ≤ (((((i / (100 : Int64)) * (100 : Int64)) - i).toInt32)).toNatClampNeg) := inb_of S38 ⟨(own_rI hd.2 hm).1, (own_rI hd.2 hm).2.1⟩
   have hat38 : cl38.slots[(((((i / (100 : Int64)) * (100 : Int64)) - i).toInt32)).toNatClampNeg]? = some (.int (own_dc ((own_q n k % 100) / 10))) := Has.at H38 hin38 (by rw [(own_rI hd.2 hm).2.2]; exact own_tabG (fun r => own_dc (r / 10)) hm _)
   refine Gs (fun _ tk => X37.baloadBytes hx (j := ((((i / (100 : Int64)) * (100 : Int64)) - i).toInt32)) (v := (.int (own_dc ((own_q n k % 100) / 10)))) (by rw [e37]; exact Ar38.1) (State.isArrayOf_alike hZ.alike Ar38.2.1) Ar38.2.2 hin38 hat38 (g := (mkF m 77 #[.val (.long (i / (100 : Int64))), .second, vi (Int32.ofNat (own_len n)), vr b, .val (.long (i / (100 : Int64))), .second, .val (.int ((((i / (100 : Int64)) * (100 : Int64)) - i).toInt32)), vi (Int32.ofNat (own_len n - k - 1 - 1)), vi 0, vu, vu] [(.int ((((i / (100 : Int64)) * (100 : Int64)) - i).toInt32)), (.ref d2), (.int (Int32.ofNat (own_len n - k - 1 - 1))), (.ref b)])) rfl rfl (hb hby d8_77) _ tk) ?_
   show Goes _ _ _ _ _ (fT T37 m 78 #[.val (.long (i / (100 : Int64))), .second, vi (Int32.ofNat (own_len n)), vr b, .val (.long (i / (100 : Int64))), .second, .val (.int ((((i / (100 : Int64)) * (100 : Int64)) - i).toInt32)), vi (Int32.ofNat (own_len n - k - 1 - 1)), vi 0, vu, vu] [(.int (own_dc ((own_q n k % 100) / 10))), (.int (Int32.ofNat (own_len n - k - 1 - 1))), (.ref b)])
   obtain ⟨cl39, Ar39, q39, S39, N39z, H39, G39⟩ := V_b
   have hin39 : ¬ ((Int32.ofNat (own_len n - k - 1 - 1)) < 0 ∨ cl39.slots.size ≤ ((Int32.ofNat (own_len n - k - 1 - 1))).toNatClampNeg) := inb_of S39 ⟨hp2.2.1, hp2.2.2.1⟩
   obtain ⟨T39, h39, X39, e39, W39, st39⟩ := stB X37 hx hZ e37 Ar39 (j := (Int32.ofNat (own_len n - k - 1 - 1))) hin39 (g := (mkF m 78 #[.val (.long (i / (100 : Int64))), .second, vi (Int32.ofNat (own_len n)), vr b, .val (.long (i / (100 : Int64))), .second, .val (.int ((((i / (100 : Int64)) * (100 : Int64)) - i).toInt32)), vi (Int32.ofNat (own_len n - k - 1 - 1)), vi 0, vu, vu] [(.int (own_dc ((own_q n k % 100) / 10))), (.int (Int32.ofNat (own_len n - k - 1 - 1))), (.ref b)])) rfl rfl (hb hby d8_78)
   have Vn39 := Arv.set Ar39 q39 S39 N39z H39 G39 (fits_nar_byte _) W39 (own_len n - k - 1 - 1) hp2.2.2.2 (by rw [own_bqL (by omega)]; omega)
   have N39 := Fr.snoc X39 N36 g_b
   replace KP := KP.wr W39 (Or.inl (List.mem_of_getElem? (i := 0) rfl))
   have hv39 : Value.int (lo8 (own_dc ((own_q n k % 100) / 10))) = .int (lo8 (own_dc (own_q n (own_len n - 1 - (own_len n - k - 1 - 1)) % 10))) := congrArg (fun z => Value.int (lo8 z)) (by rw [show own_len n - 1 - (own_len n - k - 1 - 1) = k + 1 from by omega]; exact own_dig2' n k)
   have V_b : Arv Z h39 b kb .byte z (own_bq n (own_len n - k - 1 - 1)) (.int 0) := own_arvE Vn39 (own_bqT (by omega) (by omega) hv39)
   replace Z0 : n0 ≤ h39.size := by rw [W39.size]; exact Z0
   refine Gs st39 ?_
   show Goes _ _ _ _ _ (fT T39 m 79 #[.val (.long (i / (100 : Int64))), .second, vi (Int32.ofNat (own_len n)), vr b, .val (.long (i / (100 : Int64))), .second, .val (.int ((((i / (100 : Int64)) * (100 : Int64)) - i).toInt32)), vi (Int32.ofNat (own_len n - k - 1 - 1)), vi 0, vu, vu] [])
   refine gG X39 hx hby d8_79 79 24 ?_
   show Goes _ _ _ _ _ (fT T39 m 24 #[.val (.long (i / (100 : Int64))), .second, vi (Int32.ofNat (own_len n)), vr b, .val (.long (i / (100 : Int64))), .second, .val (.int ((((i / (100 : Int64)) * (100 : Int64)) - i).toInt32)), vi (Int32.ofNat (own_len n - k - 1 - 1)), vi 0, vu, vu] [])
   exact ih (k + 2, _, _, _, _) _ _ (by show own_len n - (k + 2) < own_len n - k; omega) X39 ⟨hk2, by show _ = -((own_q n (k + 2) : Nat) : Int); rw [own_q2]; exact hd.1, Or.inr ⟨_, _, rfl, rfl, rfl⟩, N39, (by rw [e39]; exact Z0), (by rw [e39]; exact KP), (by rw [e39]; exact V_b)⟩
theorem d9_0 : DK kc33 0 (.aload_n 0) 1 := by decide +kernel
theorem d9_1 : DK kc33 1 (.invokespecial 3) 3 := by decide +kernel
theorem d9_4 : DK kc33 4 (.getstatic 18) 3 := by decide +kernel
theorem d9_7 : DK kc33 7 (.ifCond .eq 18) 3 := by decide +kernel
theorem d9_10 : DK kc33 10 (.aload_n 0) 1 := by decide +kernel
theorem d9_11 : DK kc33 11 (.iload_n 1) 1 := by decide +kernel
theorem d9_12 : DK kc33 12 (.newarray .byte) 2 := by decide +kernel
theorem d9_14 : DK kc33 14 (.putfield 15) 3 := by decide +kernel
theorem d9_17 : DK kc33 17 (.aload_n 0) 1 := by decide +kernel
theorem d9_18 : DK kc33 18 (.iconst 0) 1 := by decide +kernel
theorem d9_19 : DK kc33 19 (.putfield 22) 3 := by decide +kernel
theorem d9_22 : DK kc33 22 (.goto 16) 3 := by decide +kernel
theorem d9_38 : DK kc33 38 .return_ 1 := by decide +kernel
theorem own_pn4 : plainName "java/lang/AbstractStringBuilder" = true := by first | (simp [plainName, overriddenIn]; done) | decide +kernel
theorem own_ef_rm_asbi (m : MethodId) (x0 : Addr) : entryFrame m #[(.ref x0), (.int 16)] 2 = mkF m 0 #[vr x0, vi 16] [] := by first | (simp [entryFrame, mkF, argsToLocals, Value.category]; done) | rfl
def Q_rm_asbi (Z : State) (a : Addr) (cz : Int32) (h0 : Heap) (n0 : Nat) (v : Option Value) (h : Heap) (L : List Loc) : Prop := ∃ b : Addr, ∃ kb : ClassId, v = none ∧ Fr n0 L ∧ Keep h0 h [a] ∧ Fld Z h a "java/lang/AbstractStringBuilder" "value" "[B" (.ref b) ∧ Fld Z h a "java/lang/AbstractStringBuilder" "count" "I" (.int 0) ∧ Fld Z h a "java/lang/AbstractStringBuilder" "coder" "B" (.int 0) ∧ Arv Z h b kb .byte 16 [] (.int 0) ∧ Exa Z h b "[B" ∧ n0 ≤ b ∧ h0.size ≤ b
theorem rm_asbi (l : Launch) (Z : State) (a0 : Array Value) (hw : HW a0 Z) (ws : List Jvm.Cond) (a : Addr) (cz : Int32) (h0 : Heap) (n0 : Nat) (Z0 : n0 ≤ h0.size) (A_a : Exa Z h0 a "java/lang/StringBuilder") (F_value_a : Fld Z h0 a "java/lang/AbstractStringBuilder" "value" "[B" .null) (F_count_a : Fld Z h0 a "java/lang/AbstractStringBuilder" "count" "I" (.int 0)) (F_coder_a : Fld Z h0 a "java/lang/AbstractStringBuilder" "coder" "B" (.int 0)) (g_a : n0 ≤ a) (sgC : Sta Z h0 "java/lang/String" "COMPACT_STRINGS" "Z" (.int cz)) (hcz : ¬ (cz = 0)) :
  Met l Z mN9 jdk_68_method_2_code 2 none ({ frames := 1, cells := 1, slots := 16, locals := 12 } : Room) ws #[(.ref a), (.int 16)] h0 (Q_rm_asbi Z a cz h0 n0) := by
 refine own_met (plainFor_of_name own_pn4) ?_
 intro p e s m below meth c s₁ hret hx hby hlk hml hown hnm X0 e0 hZ hh
 have N0 := Fr.nil n0
 refine Gz (castTop (own_ef_rm_asbi m a)) ?_
 have KP : Keep h0 h0 [a] := Keep.refl _ _
 show Goes _ _ _ _ _ (fT s₁ m 0 #[vr a, vi 16] [])
 refine gA X0 hx hby d9_0 rfl rfl rfl ?_
 obtain ⟨T1, X1, e1, st1⟩ := initO X0 hx hZ hown (gw hw 21 rfl) (gw hw 22 rfl) (gw hw 23 rfl) e0 (g := (mkF m 1 #[vr a, vi 16] [(.ref a)])) rfl hml.symm rfl (hb hby d9_1) (by decide) (W := 0) (wz rfl) (by decide)
 refine Gs st1 ?_
 show Goes _ _ _ _ _ (fT T1 m 4 #[vr a, vi 16] [])
 obtain ⟨T2, X2, e2, st2⟩ := getS2 X1 hx hZ hown (host := "") (Or.inl (gw hw 24 rfl)) Via.refl e1 sgC (g := (mkF m 4 #[vr a, vi 16] [])) rfl (hb hby d9_4)
 refine Gs st2 ?_
 show Goes _ _ _ _ _ (fT T2 m 7 #[vr a, vi 16] [(.int cz)])
 refine gu X2 hx hby d9_7 ((if0 _ _).trans (feq hcz).1) ?_
 refine gA X2 hx hby d9_10 rfl rfl rfl ?_
 refine gN X2 hx hby d9_11 rfl rfl ?_
 obtain ⟨T3, h3, k3, X3, e3, E3, A3, AE3, st3⟩ := newPE X2 hx hZ (gw hw 26 rfl) e2 (g := (mkF m 12 #[vr a, vi 16] [(.int 16), (.ref a)])) rfl (hb hby d9_12) rfl (by decide) (cap := 16) (by decide) (by decide) (by decide) (by decide) (ad := "[B") rfl
 obtain ⟨b3, gq3⟩ : ∃ z, z = h0.size := ⟨_, rfl⟩
 rw [← gq3] at A3 st3 AE3
 have g_b3 : n0 ≤ b3 := by rw [gq3]; exact Z0
 have sz_b3 : h0.size ≤ b3 := by rw [gq3]; exact KP.1
 have ne_a_b3 : a ≠ b3 := by rw [gq3]; exact Nat.ne_of_lt A_a.lt
 replace A_a := A_a.ext E3
 replace F_value_a := F_value_a.ext E3
 replace F_count_a := F_count_a.ext E3
 replace F_coder_a := F_coder_a.ext E3
 replace KP := KP.ext E3
 replace Z0 : n0 ≤ h3.size := Nat.le_trans Z0 E3.1
 have A_b3 : Exa Z h3 b3 "[B" := AE3
 have V_b3 : Arv Z h3 b3 k3 .byte 16 [(.int 0), (.int 0), (.int 0), (.int 0), (.int 0), (.int 0), (.int 0), (.int 0), (.int 0), (.int 0), (.int 0), (.int 0), (.int 0), (.int 0), (.int 0), (.int 0)] (.int 0) := (Arv.new A3 (by decide)).pad (pad_rep [] (.int 0) 16)
 refine Gs st3 ?_
 show Goes _ _ _ _ _ (fT T3 m 14 #[vr a, vi 16] [(.ref b3), (.ref a)])
 obtain ⟨T4, h4, X4, e4, W4, st4⟩ := putF X3 hx hZ hown (host := "") (Or.inl (gw hw 27 rfl)) Via.refl e3 F_value_a A_a (Or.inl (gw hw 28 rfl)) (gw hw 10 rfl) (ty := (.array .byte)) (by decide) rfl rfl (g := (mkF m 14 #[vr a, vi 16] [(.ref b3), (.ref a)])) rfl rfl (hb hby d9_14)
 have N4 := Fr.snoc X4 N0 g_a
 replace A_a := A_a.wr W4
 replace F_count_a := F_count_a.other W4 (Or.inr (slot_ne (Or.inl (gw hw 42 rfl)) (Or.inl (gw hw 28 rfl)) (by decide) (t := .int) (t' := (.array .byte)) (by decide) (by decide)))
 replace F_coder_a := F_coder_a.other W4 (Or.inr (slot_ne (Or.inl (gw hw 30 rfl)) (Or.inl (gw hw 28 rfl)) (by decide) (t := .byte) (t' := (.array .byte)) (by decide) (by decide)))
 replace V_b3 := V_b3.other W4 (Ne.symm ne_a_b3)
 replace A_b3 := A_b3.wr W4
 replace KP := KP.wr W4 (Or.inl (List.mem_of_getElem? (i := 0) rfl))
 replace F_value_a := F_value_a.same W4
 replace Z0 : n0 ≤ h4.size := by rw [W4.size]; exact Z0
 refine Gs st4 ?_
 show Goes _ _ _ _ _ (fT T4 m 17 #[vr a, vi 16] [])
 refine gA X4 hx hby d9_17 rfl rfl rfl ?_
 refine gC X4 hx hby d9_18 ?_
 obtain ⟨T5, h5, X5, e5, W5, st5⟩ := putFN X4 hx hZ hown (gw hw 29 rfl) Via.refl e4 F_coder_a A_a (Or.inl (gw hw 30 rfl)) (gw hw 10 rfl) (ty := .byte) (v' := .int 0) (by decide) rfl rfl (g := (mkF m 19 #[vr a, vi 16] [(.int 0), (.ref a)])) rfl rfl (hb hby d9_19)
 have N5 := Fr.snoc X5 N4 g_a
 replace F_value_a := F_value_a.other W5 (Or.inr (slot_ne (Or.inl (gw hw 28 rfl)) (Or.inl (gw hw 30 rfl)) (by decide) (t := (.array .byte)) (t' := .byte) (by decide) (by decide)))
 replace F_count_a := F_count_a.other W5 (Or.inr (slot_ne (Or.inl (gw hw 42 rfl)) (Or.inl (gw hw 30 rfl)) (by decide) (t := .int) (t' := .byte) (by decide) (by decide)))
 replace V_b3 := V_b3.other W5 (Ne.symm ne_a_b3)
 replace A_b3 := A_b3.wr W5
 replace KP := KP.wr W5 (Or.inl (List.mem_of_getElem? (i := 0) rfl))
 replace F_coder_a := F_coder_a.same W5
 replace Z0 : n0 ≤ h5.size := by rw [W5.size]; exact Z0
 refine Gs st5 ?_
 show Goes _ _ _ _ _ (fT T5 m 22 #[vr a, vi 16] [])
 refine gG X5 hx hby d9_22 22 38 ?_
 replace V_b3 := own_unp (n := 16) V_b3
 refine Goes.ret X5 none (fun _ => rfl) hlk (by decide) (by decide) ?_ (fun fs hr => ?_)
 ·rw [e5]; exact ⟨b3, k3, rfl, N5, KP, F_value_a, F_count_a, F_coder_a, V_b3, A_b3, g_b3, sz_b3⟩
 ·exact X5.returnOut hx hret (hb hby d9_38) hr
theorem d10_0 : DK kc27 0 (.aload_n 0) 1 := by decide +kernel
theorem d10_1 : DK kc27 1 (.bipush 16) 2 := by decide +kernel
theorem d10_3 : DK kc27 3 (.invokespecial 1) 3 := by decide +kernel
theorem own_pd5 : parseMethodDescriptor "(I)V" = some ⟨[.int], none⟩ := by decide +kernel
theorem d10_6 : DK kc27 6 .return_ 1 := by decide +kernel
theorem own_pn5 : plainName "java/lang/StringBuilder" = true := by first | (simp [plainName, overriddenIn]; done) | decide +kernel
theorem own_ef_rm_sbi (m : MethodId) (x0 : Addr) : entryFrame m #[(.ref x0)] 1 = mkF m 0 #[vr x0] [] := by first | (simp [entryFrame, mkF, argsToLocals, Value.category]; done) | rfl
def Q_rm_sbi (Z : State) (a : Addr) (cz : Int32) (h0 : Heap) (n0 : Nat) (v : Option Value) (h : Heap) (L : List Loc) : Prop := ∃ b : Addr, ∃ kb : ClassId, v = none ∧ Fr n0 L ∧ Keep h0 h [a] ∧ Fld Z h a "java/lang/AbstractStringBuilder" "value" "[B" (.ref b) ∧ Fld Z h a "java/lang/AbstractStringBuilder" "count" "I" (.int 0) ∧ Fld Z h a "java/lang/AbstractStringBuilder" "coder" "B" (.int 0) ∧ Arv Z h b kb .byte 16 [] (.int 0) ∧ Exa Z h b "[B" ∧ n0 ≤ b ∧ h0.size ≤ b
theorem rm_sbi (l : Launch) (Z : State) (a0 : Array Value) (hw : HW a0 Z) (ws : List Jvm.Cond) (a : Addr) (cz : Int32) (h0 : Heap) (n0 : Nat) (Z0 : n0 ≤ h0.size) (A_a : Exa Z h0 a "java/lang/StringBuilder") (F_value_a : Fld Z h0 a "java/lang/AbstractStringBuilder" "value" "[B" .null) (F_count_a : Fld Z h0 a "java/lang/AbstractStringBuilder" "count" "I" (.int 0)) (F_coder_a : Fld Z h0 a "java/lang/AbstractStringBuilder" "coder" "B" (.int 0)) (g_a : n0 ≤ a) (sgC : Sta Z h0 "java/lang/String" "COMPACT_STRINGS" "Z" (.int cz)) (hcz : ¬ (cz = 0)) :
  Met l Z mN10 jdk_67_method_1_code 1 none ({ frames := 2, cells := 1, slots := 16, locals := 25 } : Room) ws #[(.ref a)] h0 (Q_rm_sbi Z a cz h0 n0) := by
 refine own_met (plainFor_of_name own_pn5) ?_
 intro p e s m below meth c s₁ hret hx hby hlk hml hown hnm X0 e0 hZ hh
 have N0 := Fr.nil n0
 refine Gz (castTop (own_ef_rm_sbi m a)) ?_
 have KP : Keep h0 h0 [a] := Keep.refl _ _
 show Goes _ _ _ _ _ (fT s₁ m 0 #[vr a] [])
 refine gA X0 hx hby d10_0 rfl rfl rfl ?_
 refine gB X0 hx hby d10_1 ?_
 have szs1 : h0.size ≤ h0.size := KP.1
 refine cIg X0 hx hZ hw hown hby hml e0 mN9 15 16 20 19 0 (rm_asbi l Z a0 hw [] a cz h0 n0 Z0 A_a F_value_a F_count_a F_coder_a g_a sgC hcz) d10_3 (lenOf own_pd5 rfl) (fun _ T1 L1 X1 hQ1 => ?_)
 obtain ⟨b1, kb1, rfl, N1q, K1, F_value_a_1', F_count_a_1', F_coder_a_1', V_b1_1', A_b1_1', g_b1_1', sz_b1_1'⟩ := hQ1
 have N1 := Fr.app N0 N1q
 replace KP := KP.trans K1 (allS (Or.inl (List.mem_of_getElem? (i := 0) rfl)) all0)
 replace Z0 := Nat.le_trans Z0 K1.1
 have F_value_a := F_value_a_1'
 have F_count_a := F_count_a_1'
 have F_coder_a := F_coder_a_1'
 have V_b1 := V_b1_1'
 have A_b1 := A_b1_1'
 have g_b1 := g_b1_1'
 have szc_b1 := sz_b1_1'
 have sz_b1 : h0.size ≤ b1 := Nat.le_trans szs1 szc_b1
 show Goes _ _ _ _ _ (fT T1 m 6 #[vr a] [])
 refine Goes.ret X1 none (fun _ => rfl) hlk (by decide) (by decide) ?_ (fun fs hr => ?_)
 ·exact ⟨b1, kb1, rfl, N1, KP, F_value_a, F_count_a, F_coder_a, V_b1, A_b1, g_b1, sz_b1⟩
 ·exact X1.returnOut hx hret (hb hby d10_6) hr
theorem d11_0 : DK kc36 0 (.getstatic 18) 3 := by decide +kernel
theorem d11_3 : DK kc36 3 (.ifCond .eq 14) 3 := by decide +kernel
theorem d11_6 : DK kc36 6 (.aload_n 0) 1 := by decide +kernel
theorem d11_7 : DK kc36 7 (.getfield 22) 3 := by decide +kernel
theorem d11_10 : DK kc36 10 (.ifCond .ne 7) 3 := by decide +kernel
theorem d11_13 : DK kc36 13 (.iconst 1) 1 := by decide +kernel
theorem d11_14 : DK kc36 14 (.goto 4) 3 := by decide +kernel
theorem d11_18 : DK kc36 18 .ireturn 1 := by decide +kernel
theorem own_ef_rm_isl (m : MethodId) (x0 : Addr) : entryFrame m #[(.ref x0)] 1 = mkF m 0 #[vr x0] [] := by first | (simp [entryFrame, mkF, argsToLocals, Value.category]; done) | rfl
def Q_rm_isl (Z : State) (a : Addr) (cz : Int32) (h0 : Heap) (n0 : Nat) (v : Option Value) (h : Heap) (L : List Loc) : Prop := v = some (.int 1) ∧ Fr n0 L ∧ h = h0
theorem rm_isl (l : Launch) (Z : State) (a0 : Array Value) (hw : HW a0 Z) (ws : List Jvm.Cond) (a : Addr) (cz : Int32) (h0 : Heap) (n0 : Nat) (Z0 : n0 ≤ h0.size) (F_coder_a : Fld Z h0 a "java/lang/AbstractStringBuilder" "coder" "B" (.int 0)) (sgC : Sta Z h0 "java/lang/String" "COMPACT_STRINGS" "Z" (.int cz)) (hcz : ¬ (cz = 0)) :
  Met l Z mN11 jdk_68_method_68_code 1 (some .boolean) ({ frames := 0, cells := 0, slots := 0, locals := 0 } : Room) ws #[(.ref a)] h0 (Q_rm_isl Z a cz h0 n0) := by
 refine own_met (plainFor_of_name own_pn4) ?_
 intro p e s m below meth c s₁ hret hx hby hlk hml hown hnm X0 e0 hZ hh
 have N0 := Fr.nil n0
 refine Gz (castTop (own_ef_rm_isl m a)) ?_
 show Goes _ _ _ _ _ (fT s₁ m 0 #[vr a] [])
 obtain ⟨T1, X1, e1, st1⟩ := getS2 X0 hx hZ hown (host := "") (Or.inl (gw hw 24 rfl)) Via.refl e0 sgC (g := (mkF m 0 #[vr a] [])) rfl (hb hby d11_0)
 refine Gs st1 ?_
 show Goes _ _ _ _ _ (fT T1 m 3 #[vr a] [(.int cz)])
 refine gu X1 hx hby d11_3 ((if0 _ _).trans (feq hcz).1) ?_
 refine gA X1 hx hby d11_6 rfl rfl rfl ?_
 obtain ⟨T2, X2, e2, st2⟩ := getF X1 hx hZ hown (host := "") (Or.inl (gw hw 29 rfl)) Via.refl e1 F_coder_a (g := (mkF m 7 #[vr a] [(.ref a)])) rfl rfl (hb hby d11_7)
 refine Gs st2 ?_
 show Goes _ _ _ _ _ (fT T2 m 10 #[vr a] [(.int 0)])
 refine gu X2 hx hby d11_10 ((if0 _ _).trans (teq (by decide : ((0 : Int32) = (0 : Int32)))).2) ?_
 refine gC X2 hx hby d11_13 ?_
 refine gG X2 hx hby d11_14 14 18 ?_
 refine Goes.ret X2 (some (.int 1)) (fun h => by rw [hret] at h; cases h) hlk (by decide) (by decide) ?_ (fun fs hr => ?_)
 ·exact ⟨rfl, N0, e2⟩
 ·exact own_retN X2 hx (t := .boolean) hret (by simp) rfl (hb hby d11_18) hr
theorem d12_0 : DK kc40 0 (.aload_n 0) 1 := by decide +kernel
theorem d12_1 : DK kc40 1 (.getfield 15) 3 := by decide +kernel
theorem d12_4 : DK kc40 4 .arraylength 1 := by decide +kernel
theorem d12_5 : DK kc40 5 (.aload_n 0) 1 := by decide +kernel
theorem d12_6 : DK kc40 6 (.getfield 22) 3 := by decide +kernel
theorem d12_9 : DK kc40 9 .ishr 1 := by decide +kernel
theorem d12_10 : DK kc40 10 (.istore_n 2) 1 := by decide +kernel
theorem d12_11 : DK kc40 11 (.iload_n 1) 1 := by decide +kernel
theorem d12_12 : DK kc40 12 (.iload_n 2) 1 := by decide +kernel
theorem d12_13 : DK kc40 13 .isub 1 := by decide +kernel
theorem d12_14 : DK kc40 14 (.ifCond .le 24) 3 := by decide +kernel
theorem d12_38 : DK kc40 38 .return_ 1 := by decide +kernel
theorem own_ef_rm_ec (m : MethodId) (x0 : Addr) (x1 : Int32) : entryFrame m #[(.ref x0), (.int x1)] 3 = mkF m 0 #[vr x0, vi x1, vu] [] := by first | (simp [entryFrame, mkF, argsToLocals, Value.category]; done) | rfl
def Q_rm_ec (Z : State) (a : Addr) (b : Addr) (kb : ClassId) (z : Int32) (vs : List Value) (mn : Int32) (h0 : Heap) (n0 : Nat) (v : Option Value) (h : Heap) (L : List Loc) : Prop := v = none ∧ Fr n0 L ∧ h = h0
theorem rm_ec (l : Launch) (Z : State) (a0 : Array Value) (hw : HW a0 Z) (ws : List Jvm.Cond) (a : Addr) (b : Addr) (kb : ClassId) (z : Int32) (vs : List Value) (mn : Int32) (h0 : Heap) (n0 : Nat) (Z0 : n0 ≤ h0.size) (F_value_a : Fld Z h0 a "java/lang/AbstractStringBuilder" "value" "[B" (.ref b)) (F_coder_a : Fld Z h0 a "java/lang/AbstractStringBuilder" "coder" "B" (.int 0)) (V_b : Arv Z h0 b kb .byte z vs (.int 0)) (hm : ¬ ((0 : Int32) < mn - z)) :
  Met l Z mN12 jdk_68_method_9_code 3 none ({ frames := 0, cells := 0, slots := 0, locals := 0 } : Room) ws #[(.ref a), (.int mn)] h0 (Q_rm_ec Z a b kb z vs mn h0 n0) := by
 refine own_met (plainFor_of_name own_pn4) ?_
 intro p e s m below meth c s₁ hret hx hby hlk hml hown hnm X0 e0 hZ hh
 have N0 := Fr.nil n0
 refine Gz (castTop (own_ef_rm_ec m a mn)) ?_
 show Goes _ _ _ _ _ (fT s₁ m 0 #[vr a, vi mn, vu] [])
 refine gA X0 hx hby d12_0 rfl rfl rfl ?_
 obtain ⟨T1, X1, e1, st1⟩ := getF X0 hx hZ hown (host := "") (Or.inl (gw hw 27 rfl)) Via.refl e0 F_value_a (g := (mkF m 1 #[vr a, vi mn, vu] [(.ref a)])) rfl rfl (hb hby d12_1)
 refine Gs st1 ?_
 show Goes _ _ _ _ _ (fT T1 m 4 #[vr a, vi mn, vu] [(.ref b)])
 obtain ⟨cl2, Ar2, -, S2, N2z, -, -⟩ := id V_b
 refine Gs (fun _ tk => X1.arraylength hx (by rw [e1]; exact Ar2.1) (State.isArrayOf_alike hZ.alike Ar2.2.1) (g := (mkF m 4 #[vr a, vi mn, vu] [(.ref b)])) rfl rfl (hb hby d12_4) _ tk) ?_
 rw [len_of S2 N2z]
 show Goes _ _ _ _ _ (fT T1 m 5 #[vr a, vi mn, vu] [(.int z)])
 refine gA X1 hx hby d12_5 rfl rfl rfl ?_
 obtain ⟨T3, X3, e3, st3⟩ := getF X1 hx hZ hown (host := "") (Or.inl (gw hw 29 rfl)) Via.refl e1 F_coder_a (g := (mkF m 6 #[vr a, vi mn, vu] [(.ref a), (.int z)])) rfl rfl (hb hby d12_6)
 refine Gs st3 ?_
 show Goes _ _ _ _ _ (fT T3 m 9 #[vr a, vi mn, vu] [(.int 0), (.int z)])
 refine Gz (XS.ishr X3.here hx rfl (hb hby d12_9) rfl) ?_
 show Goes _ _ _ _ _ (fT T3 m 10 #[vr a, vi mn, vu] [(.int (z >>> ((0 : Int32) &&& 31)))])
 rw [own_shr0]
 show Goes _ _ _ _ _ (fT T3 m 10 #[vr a, vi mn, vu] [(.int z)])
 refine gs X3 hx hby d12_10 #[vr a, vi mn, vi z] ?_
 refine gN X3 hx hby d12_11 rfl rfl ?_
 refine gN X3 hx hby d12_12 rfl rfl ?_
 show Goes _ _ _ _ _ (fT T3 m 13 #[vr a, vi mn, vi z] [(.int z), (.int mn)])
 refine Gz (XS.isub X3.here hx rfl (hb hby d12_13) rfl) ?_
 show Goes _ _ _ _ _ (fT T3 m 14 #[vr a, vi mn, vi z] [(.int (mn - z))])
 refine gy X3 hx hby d12_14 14 38 ((if0 _ _).trans (flt hm).2.2.2) ?_
 refine Goes.ret X3 none (fun _ => rfl) hlk (by decide) (by decide) ?_ (fun fs hr => ?_)
 ·exact ⟨rfl, N0, e3⟩
 ·exact X3.returnOut hx hret (hb hby d12_38) hr
theorem d13_0 : DK kc34 0 (.aload_n 0) 1 := by decide +kernel
theorem d13_1 : DK kc34 1 (.getfield 79) 3 := by decide +kernel
theorem d13_4 : DK kc34 4 (.istore_n 3) 1 := by decide +kernel
theorem d13_5 : DK kc34 5 (.iload_n 3) 1 := by decide +kernel
theorem d13_6 : DK kc34 6 (.lload_n 1) 1 := by decide +kernel
theorem d13_7 : DK kc34 7 (.invokestatic 254) 3 := by decide +kernel
theorem own_pd6 : parseMethodDescriptor "(J)I" = some ⟨[.long], some .int⟩ := by decide +kernel
theorem d13_10 : DK kc34 10 .iadd 1 := by decide +kernel
theorem d13_11 : DK kc34 11 (.istore 4) 2 := by decide +kernel
theorem d13_13 : DK kc34 13 (.aload_n 0) 1 := by decide +kernel
theorem d13_14 : DK kc34 14 (.iload 4) 2 := by decide +kernel
theorem d13_16 : DK kc34 16 (.invokevirtual 100) 3 := by decide +kernel
theorem d13_19 : DK kc34 19 (.aload_n 0) 1 := by decide +kernel
theorem d13_20 : DK kc34 20 (.invokevirtual 83) 3 := by decide +kernel
theorem d13_23 : DK kc34 23 (.ifCond .eq 17) 3 := by decide +kernel
theorem d13_26 : DK kc34 26 (.lload_n 1) 1 := by decide +kernel
theorem d13_27 : DK kc34 27 (.iload 4) 2 := by decide +kernel
theorem d13_29 : DK kc34 29 (.aload_n 0) 1 := by decide +kernel
theorem d13_30 : DK kc34 30 (.getfield 15) 3 := by decide +kernel
theorem d13_33 : DK kc34 33 (.invokestatic 259) 3 := by decide +kernel
theorem own_pd7 : parseMethodDescriptor "(JI[B)I" = some ⟨[.long, .int, (.array .byte)], some .int⟩ := by decide +kernel
theorem d13_36 : DK kc34 36 .pop 1 := by decide +kernel
theorem d13_37 : DK kc34 37 (.goto 15) 3 := by decide +kernel
theorem d13_52 : DK kc34 52 (.aload_n 0) 1 := by decide +kernel
theorem d13_53 : DK kc34 53 (.iload 4) 2 := by decide +kernel
theorem d13_55 : DK kc34 55 (.putfield 79) 3 := by decide +kernel
theorem d13_58 : DK kc34 58 (.aload_n 0) 1 := by decide +kernel
theorem d13_59 : DK kc34 59 .areturn 1 := by decide +kernel
theorem own_ef_rm_aj (m : MethodId) (x0 : Addr) (x1 : Int64) : entryFrame m #[(.ref x0), (.long x1)] 5 = mkF m 0 #[vr x0, .val (.long x1), .second, vu, vu] [] := by first | (simp [entryFrame, mkF, argsToLocals, Value.category]; done) | rfl
def Q_rm_aj (Z : State) (a : Addr) (b : Addr) (kb : ClassId) (v : Int64) (n : Nat) (d1 : Addr) (k1 : ClassId) (d2 : Addr) (k2 : ClassId) (cz : Int32) (h0 : Heap) (n0 : Nat) (v : Option Value) (h : Heap) (L : List Loc) : Prop := v = some (.ref a) ∧ Fr n0 L ∧ Keep h0 h [a, b] ∧ Fld Z h a "java/lang/AbstractStringBuilder" "value" "[B" (.ref b) ∧ Fld Z h a "java/lang/AbstractStringBuilder" "count" "I" (.int (Int32.ofNat (own_len n))) ∧ Fld Z h a "java/lang/AbstractStringBuilder" "coder" "B" (.int 0) ∧ Arv Z h b kb .byte 16 (latV (own_dg n)) (.int 0)
theorem rm_aj (l : Launch) (Z : State) (a0 : Array Value) (hw : HW a0 Z) (ws : List Jvm.Cond) (a : Addr) (b : Addr) (kb : ClassId) (v : Int64) (n : Nat) (d1 : Addr) (k1 : ClassId) (d2 : Addr) (k2 : ClassId) (cz : Int32) (h0 : Heap) (n0 : Nat) (Z0 : n0 ≤ h0.size) (A_a : Exa Z h0 a "java/lang/StringBuilder") (F_value_a : Fld Z h0 a "java/lang/AbstractStringBuilder" "value" "[B" (.ref b)) (F_count_a : Fld Z h0 a "java/lang/AbstractStringBuilder" "count" "I" (.int 0)) (F_coder_a : Fld Z h0 a "java/lang/AbstractStringBuilder" "coder" "B" (.int 0)) (V_b : Arv Z h0 b kb .byte 16 [] (.int 0)) (g_a : n0 ≤ a) (g_b : n0 ≤ b) (ne_a_b : a ≠ b) (hv : v.toInt = (n : Int)) (hn : n < 10000000000000) (S_DigitOnes : Sta Z h0 "java/lang/Integer" "DigitOnes" "[B" (.ref d1)) (S_DigitTens : Sta Z h0 "java/lang/Integer" "DigitTens" "[B" (.ref d2)) (V_d1 : Arv Z h0 d1 k1 .byte 100 own_ones (.int 0)) (V_d2 : Arv Z h0 d2 k2 .byte 100 own_tens (.int 0)) (ne_d1_b : d1 ≠ b) (ne_d2_b : d2 ≠ b) (ne_d1_a : d1 ≠ a) (ne_d2_a : d2 ≠ a) (sgC : Sta Z h0 "java/lang/String" "COMPACT_STRINGS" "Z" (.int cz)) (hcz : ¬ (cz = 0)) :
  Met l Z mN13 jdk_68_method_33_code 5 (some (.object "java/lang/AbstractStringBuilder")) ({ frames := 1, cells := 0, slots := 0, locals := 22 } : Room) ws #[(.ref a), (.long v)] h0 (Q_rm_aj Z a b kb v n d1 k1 d2 k2 cz h0 n0) := by
 refine own_met (plainFor_of_name own_pn4) ?_
 intro p e s m below meth c s₁ hret hx hby hlk hml hown hnm X0 e0 hZ hh
 have N0 := Fr.nil n0
 refine Gz (castTop (own_ef_rm_aj m a v)) ?_
 have KP : Keep h0 h0 [a, b] := Keep.refl _ _
 show Goes _ _ _ _ _ (fT s₁ m 0 #[vr a, .val (.long v), .second, vu, vu] [])
 have h13 := own_len13 n
 refine gA X0 hx hby d13_0 rfl rfl rfl ?_
 obtain ⟨T1, X1, e1, st1⟩ := getF X0 hx hZ hown (host := "") (Or.inl (gw hw 41 rfl)) Via.refl e0 F_count_a (g := (mkF m 1 #[vr a, .val (.long v), .second, vu, vu] [(.ref a)])) rfl rfl (hb hby d13_1)
 refine Gs st1 ?_
 show Goes _ _ _ _ _ (fT T1 m 4 #[vr a, .val (.long v), .second, vu, vu] [(.int 0)])
 refine gs X1 hx hby d13_4 #[vr a, .val (.long v), .second, vi 0, vu] ?_
 refine gN X1 hx hby d13_5 rfl rfl ?_
 refine Gz (XS.lloadN X1.here hx rfl (hb hby d13_6) rfl) ?_
 refine cS X1 hx hZ hw hown hby hml e1 mN7 43 44 46 45 1 (rm_ss l Z a0 hw [] v n h0 n0 Z0 hv hn) d13_7 (lenOf own_pd6 rfl) N0 (fun T2 L2 X2 e2 N2 => ?_)
 show Goes _ _ _ _ _ (fT T2 m 10 #[vr a, .val (.long v), .second, vi 0, vu] [(.int (Int32.ofNat (own_len n))), (.int 0)])
 refine Gz (XS.iadd X2.here hx rfl (hb hby d13_10) rfl) ?_
 show Goes _ _ _ _ _ (fT T2 m 11 #[vr a, .val (.long v), .second, vi 0, vu] [(.int ((0 : Int32) + (Int32.ofNat (own_len n))))])
 rw [Int32.zero_add]
 show Goes _ _ _ _ _ (fT T2 m 11 #[vr a, .val (.long v), .second, vi 0, vu] [(.int (Int32.ofNat (own_len n)))])
 refine gS X2 hx hby d13_11 #[vr a, .val (.long v), .second, vi 0, vi (Int32.ofNat (own_len n))] ?_
 refine gA X2 hx hby d13_13 rfl rfl rfl ?_
 refine gI X2 hx hby d13_14 rfl rfl ?_
 obtain ⟨cq3, q3, q3'⟩ := A_a.cell
 obtain ⟨_, _, ⟨T3, L3, k3, n3⟩, -, X3, ⟨Lc3, hQ3, l3, y3, z3⟩, st3⟩ := X2.privateBack hx (y := mN12) hown (gz hZ hw 48 rfl) (gz hZ hw 49 rfl) (own_selQ hZ (gw hw 51 rfl) (gw hw 50 rfl) (gw hw 49 rfl) (by decide)) (Cond.privateMethod_at (mvP hZ (gw hw 50 rfl) (args := #[]))) (gz hZ hw 52 rfl) (by decide) (backOf (W := 0) (rm_ec l Z a0 hw [] a b kb (16 : Int32) [] (Int32.ofNat (own_len n)) h0 n0 Z0 F_value_a F_coder_a V_b (own_ecN (by decide) (Nat.le_trans h13 (by decide)) (by decide))) hZ (gw hw 52 rfl) (gw hw 19 rfl) (by decide) (by decide)) (g := (mkF m 16 #[vr a, .val (.long v), .second, vi 0, vi (Int32.ofNat (own_len n))] [(.int (Int32.ofNat (own_len n))), (.ref a)])) rfl hml.symm (Steps.refl _) (a := a) (by rw [e2]; exact q3) q3' (argsL := [(.int (Int32.ofNat (own_len n)))]) (rest := []) (lenOf own_pd5 rfl) rfl (wz rfl) (hb hby d13_16) (fun _ _ => ⟨rfl, e2, z0, z0⟩)
 dsimp only [Pt.U, Pt.locs, Pt.cells, Pt.slots] at X3 l3 y3 z3 st3 hQ3
 subst l3 y3 z3
 obtain ⟨rfl, N3q, e3⟩ := hQ3
 have N3 := Fr.app N2 N3q
 refine Gs (fun _ tk => st3.trans tk) ?_
 show Goes _ _ _ _ _ (fT T3 m 19 #[vr a, .val (.long v), .second, vi 0, vi (Int32.ofNat (own_len n))] [])
 refine gA X3 hx hby d13_19 rfl rfl rfl ?_
 refine cV X3 hx hZ hw hown hby hml e3 mN11 53 54 56 55 57 19 0 (rm_isl l Z a0 hw [] a cz h0 n0 Z0 F_coder_a sgC hcz) A_a d13_20 (lenOf own_pd3 rfl) N3 (fun T4 L4 X4 e4 N4 => ?_)
 show Goes _ _ _ _ _ (fT T4 m 23 #[vr a, .val (.long v), .second, vi 0, vi (Int32.ofNat (own_len n))] [(.int 1)])
 refine gu X4 hx hby d13_23 ((if0 _ _).trans (feq (by decide : ¬ ((1 : Int32) = (0 : Int32)))).1) ?_
 refine Gz (XS.lloadN X4.here hx rfl (hb hby d13_26) rfl) ?_
 refine gI X4 hx hby d13_27 rfl rfl ?_
 refine gA X4 hx hby d13_29 rfl rfl rfl ?_
 obtain ⟨T5, X5, e5, st5⟩ := getF X4 hx hZ hown (host := "") (Or.inl (gw hw 27 rfl)) Via.refl e4 F_value_a (g := (mkF m 30 #[vr a, .val (.long v), .second, vi 0, vi (Int32.ofNat (own_len n))] [(.ref a), (.int (Int32.ofNat (own_len n))), (.long v)])) rfl rfl (hb hby d13_30)
 refine Gs st5 ?_
 show Goes _ _ _ _ _ (fT T5 m 33 #[vr a, .val (.long v), .second, vi 0, vi (Int32.ofNat (own_len n))] [(.ref b), (.int (Int32.ofNat (own_len n))), (.long v)])
 refine cSg X5 hx hZ hw hown hby hml e5 mN8 58 59 60 45 0 (rm_gc l Z a0 hw [] v n b kb (16 : Int32) d1 k1 d2 k2 h0 n0 Z0 V_b g_b hv hn (Nat.le_trans h13 (by decide)) S_DigitOnes S_DigitTens V_d1 V_d2 ne_d1_b ne_d2_b) d13_33 (lenOf own_pd7 rfl) (fun _ T6 L6 X6 hQ6 => ?_)
 obtain ⟨rfl, N6q, K6, V_b_6'⟩ := hQ6
 have N6 := Fr.app N4 N6q
 replace A_a := A_a.keep K6
 replace F_value_a := F_value_a.keep K6 (ninS ne_a_b nin0)
 replace F_count_a := F_count_a.keep K6 (ninS ne_a_b nin0)
 replace F_coder_a := F_coder_a.keep K6 (ninS ne_a_b nin0)
 replace KP := KP.trans K6 (allS (Or.inl (List.mem_of_getElem? (i := 1) rfl)) all0)
 replace Z0 := Nat.le_trans Z0 K6.1
 have V_b := V_b_6'
 show Goes _ _ _ _ _ (fT T6 m 36 #[vr a, .val (.long v), .second, vi 0, vi (Int32.ofNat (own_len n))] [(.int 0)])
 refine Gz (XS.pop X6.here hx rfl (hb hby d13_36) rfl rfl) ?_
 refine gG X6 hx hby d13_37 37 52 ?_
 refine gA X6 hx hby d13_52 rfl rfl rfl ?_
 refine gI X6 hx hby d13_53 rfl rfl ?_
 obtain ⟨T7, h7, X7, e7, W7, st7⟩ := putF X6 hx hZ hown (host := "") (Or.inl (gw hw 41 rfl)) Via.refl rfl F_count_a A_a (Or.inl (gw hw 42 rfl)) (gw hw 10 rfl) (ty := .int) (by decide) rfl rfl (g := (mkF m 55 #[vr a, .val (.long v), .second, vi 0, vi (Int32.ofNat (own_len n))] [(.int (Int32.ofNat (own_len n))), (.ref a)])) rfl rfl (hb hby d13_55)
 have N7 := Fr.snoc X7 N6 g_a
 replace F_value_a := F_value_a.other W7 (Or.inr (slot_ne (Or.inl (gw hw 28 rfl)) (Or.inl (gw hw 42 rfl)) (by decide) (t := (.array .byte)) (t' := .int) (by decide) (by decide)))
 replace F_coder_a := F_coder_a.other W7 (Or.inr (slot_ne (Or.inl (gw hw 30 rfl)) (Or.inl (gw hw 42 rfl)) (by decide) (t := .byte) (t' := .int) (by decide) (by decide)))
 replace V_b := V_b.other W7 (Ne.symm ne_a_b)
 replace KP := KP.wr W7 (Or.inl (List.mem_of_getElem? (i := 0) rfl))
 replace F_count_a := F_count_a.same W7
 replace Z0 : n0 ≤ h7.size := by rw [W7.size]; exact Z0
 refine Gs st7 ?_
 show Goes _ _ _ _ _ (fT T7 m 58 #[vr a, .val (.long v), .second, vi 0, vi (Int32.ofNat (own_len n))] [])
 refine gA X7 hx hby d13_58 rfl rfl rfl ?_
 refine Goes.ret X7 (some (.ref a)) (fun h => by rw [hret] at h; cases h) hlk (by decide) (by decide) ?_ (fun fs hr => ?_)
 ·rw [e7]; exact ⟨rfl, N7, KP, F_value_a, F_count_a, F_coder_a, V_b⟩
 ·exact own_retA X7 hx hret rfl rfl (hb hby d13_59) hr
theorem d14_0 : DK kc26 0 (.aload_n 0) 1 := by decide +kernel
theorem d14_1 : DK kc26 1 (.lload_n 1) 1 := by decide +kernel
theorem d14_2 : DK kc26 2 (.invokespecial 56) 3 := by decide +kernel
theorem own_pd8 : parseMethodDescriptor "(J)Ljava/lang/AbstractStringBuilder;" = some ⟨[.long], some (.object "java/lang/AbstractStringBuilder")⟩ := by decide +kernel
theorem d14_5 : DK kc26 5 .pop 1 := by decide +kernel
theorem d14_6 : DK kc26 6 (.aload_n 0) 1 := by decide +kernel
theorem d14_7 : DK kc26 7 .areturn 1 := by decide +kernel
theorem own_ef_rm_sj (m : MethodId) (x0 : Addr) (x1 : Int64) : entryFrame m #[(.ref x0), (.long x1)] 3 = mkF m 0 #[vr x0, .val (.long x1), .second] [] := by first | (simp [entryFrame, mkF, argsToLocals, Value.category]; done) | rfl
def Q_rm_sj (Z : State) (a : Addr) (b : Addr) (kb : ClassId) (v : Int64) (n : Nat) (d1 : Addr) (k1 : ClassId) (d2 : Addr) (k2 : ClassId) (cz : Int32) (h0 : Heap) (n0 : Nat) (v : Option Value) (h : Heap) (L : List Loc) : Prop := v = some (.ref a) ∧ Fr n0 L ∧ Keep h0 h [a, b] ∧ Fld Z h a "java/lang/AbstractStringBuilder" "value" "[B" (.ref b) ∧ Fld Z h a "java/lang/AbstractStringBuilder" "count" "I" (.int (Int32.ofNat (own_len n))) ∧ Fld Z h a "java/lang/AbstractStringBuilder" "coder" "B" (.int 0) ∧ Arv Z h b kb .byte 16 (latV (own_dg n)) (.int 0)
theorem rm_sj (l : Launch) (Z : State) (a0 : Array Value) (hw : HW a0 Z) (ws : List Jvm.Cond) (a : Addr) (b : Addr) (kb : ClassId) (v : Int64) (n : Nat) (d1 : Addr) (k1 : ClassId) (d2 : Addr) (k2 : ClassId) (cz : Int32) (h0 : Heap) (n0 : Nat) (Z0 : n0 ≤ h0.size) (A_a : Exa Z h0 a "java/lang/StringBuilder") (F_value_a : Fld Z h0 a "java/lang/AbstractStringBuilder" "value" "[B" (.ref b)) (F_count_a : Fld Z h0 a "java/lang/AbstractStringBuilder" "count" "I" (.int 0)) (F_coder_a : Fld Z h0 a "java/lang/AbstractStringBuilder" "coder" "B" (.int 0)) (V_b : Arv Z h0 b kb .byte 16 [] (.int 0)) (g_a : n0 ≤ a) (g_b : n0 ≤ b) (ne_a_b : a ≠ b) (hv : v.toInt = (n : Int)) (hn : n < 10000000000000) (S_DigitOnes : Sta Z h0 "java/lang/Integer" "DigitOnes" "[B" (.ref d1)) (S_DigitTens : Sta Z h0 "java/lang/Integer" "DigitTens" "[B" (.ref d2)) (V_d1 : Arv Z h0 d1 k1 .byte 100 own_ones (.int 0)) (V_d2 : Arv Z h0 d2 k2 .byte 100 own_tens (.int 0)) (ne_d1_b : d1 ≠ b) (ne_d2_b : d2 ≠ b) (ne_d1_a : d1 ≠ a) (ne_d2_a : d2 ≠ a) (sgC : Sta Z h0 "java/lang/String" "COMPACT_STRINGS" "Z" (.int cz)) (hcz : ¬ (cz = 0)) :
  Met l Z mN14 jdk_67_method_16_code 3 (some (.object "java/lang/StringBuilder")) ({ frames := 2, cells := 0, slots := 0, locals := 38 } : Room) ws #[(.ref a), (.long v)] h0 (Q_rm_sj Z a b kb v n d1 k1 d2 k2 cz h0 n0) := by
 refine own_met (plainFor_of_name own_pn5) ?_
 intro p e s m below meth c s₁ hret hx hby hlk hml hown hnm X0 e0 hZ hh
 have N0 := Fr.nil n0
 refine Gz (castTop (own_ef_rm_sj m a v)) ?_
 have KP : Keep h0 h0 [a, b] := Keep.refl _ _
 show Goes _ _ _ _ _ (fT s₁ m 0 #[vr a, .val (.long v), .second] [])
 refine gA X0 hx hby d14_0 rfl rfl rfl ?_
 refine Gz (XS.lloadN X0.here hx rfl (hb hby d14_1) rfl) ?_
 obtain ⟨_, _, ⟨T1, L1, k1, n1⟩, -, X1, ⟨Lc1, hQ1, l1, y1, z1⟩, st1⟩ := superBack X0 hx hZ (K := "java/lang/StringBuilder") (y := mN13) hown (gw hw 36 rfl) (own_sameM (gw hw 37 rfl) (gw hw 51 rfl) (by decide)) (gw hw 37 rfl) (gw hw 38 rfl) (by decide) (backOf (W := 0) (rm_aj l Z a0 hw [] a b kb v n d1 k1 d2 k2 cz h0 n0 Z0 A_a F_value_a F_count_a F_coder_a V_b g_a g_b ne_a_b hv hn S_DigitOnes S_DigitTens V_d1 V_d2 ne_d1_b ne_d2_b ne_d1_a ne_d2_a sgC hcz) hZ (gw hw 40 rfl) (gw hw 19 rfl) (by decide) (by decide)) e0 (Ins.self A_a) (g := (mkF m 2 #[vr a, .val (.long v), .second] [(.long v), (.ref a)])) rfl hml.symm (gw hw 40 rfl) (argsL := [(.long v)]) (rest := []) (lenOf own_pd8 rfl) rfl (wz rfl) (hb hby d14_2) (fun _ _ => ⟨rfl, e0, z0, z0⟩)
 dsimp only [Pt.U, Pt.locs, Pt.cells, Pt.slots] at X1 l1 y1 z1 st1 hQ1
 subst l1 y1 z1
 obtain ⟨rfl, N1q, K1, F_value_a_1', F_count_a_1', F_coder_a_1', V_b_1'⟩ := hQ1
 have N1 := Fr.app N0 N1q
 replace KP := KP.trans K1 (allS (Or.inl (List.mem_of_getElem? (i := 0) rfl)) (allS (Or.inl (List.mem_of_getElem? (i := 1) rfl)) all0))
 replace Z0 := Nat.le_trans Z0 K1.1
 have F_value_a := F_value_a_1'
 have F_count_a := F_count_a_1'
 have F_coder_a := F_coder_a_1'
 have V_b := V_b_1'
 refine Gs (fun _ tk => st1.trans tk) ?_
 show Goes _ _ _ _ _ (fT T1 m 5 #[vr a, .val (.long v), .second] [(.ref a)])
 refine Gz (XS.pop X1.here hx rfl (hb hby d14_5) rfl rfl) ?_
 refine gA X1 hx hby d14_6 rfl rfl rfl ?_
 refine Goes.ret X1 (some (.ref a)) (fun h => by rw [hret] at h; cases h) hlk (by decide) (by decide) ?_ (fun fs hr => ?_)
 ·exact ⟨rfl, N1, KP, F_value_a, F_count_a, F_coder_a, V_b⟩
 ·exact own_retA X1 hx hret rfl rfl (hb hby d14_7) hr
theorem d15_0 : DK kc7 0 (.aload_n 0) 1 := by decide +kernel
theorem d15_1 : DK kc7 1 (.invokevirtual 335) 3 := by decide +kernel
theorem d15_4 : DK kc7 4 (.iload_n 3) 1 := by decide +kernel
theorem d15_5 : DK kc7 5 (.if_icmp .ne 23) 3 := by decide +kernel
theorem d15_8 : DK kc7 8 (.aload_n 0) 1 := by decide +kernel
theorem d15_9 : DK kc7 9 (.getfield 9) 3 := by decide +kernel
theorem d15_12 : DK kc7 12 (.iconst 0) 1 := by decide +kernel
theorem d15_13 : DK kc7 13 (.aload_n 1) 1 := by decide +kernel
theorem d15_14 : DK kc7 14 (.iload_n 2) 1 := by decide +kernel
theorem d15_15 : DK kc7 15 (.iload_n 3) 1 := by decide +kernel
theorem d15_16 : DK kc7 16 .ishl 1 := by decide +kernel
theorem d15_17 : DK kc7 17 (.aload_n 0) 1 := by decide +kernel
theorem d15_18 : DK kc7 18 (.getfield 9) 3 := by decide +kernel
theorem d15_21 : DK kc7 21 .arraylength 1 := by decide +kernel
theorem d15_22 : DK kc7 22 (.invokestatic 212) 3 := by decide +kernel
theorem d15_25 : DK kc7 25 (.goto 18) 3 := by decide +kernel
theorem d15_43 : DK kc7 43 .return_ 1 := by decide +kernel
theorem own_ef_rm_gb (m : MethodId) (x0 : Addr) (x1 : Addr) (x2 : Int32) : entryFrame m #[(.ref x0), (.ref x1), (.int x2), (.int 0)] 4 = mkF m 0 #[vr x0, vr x1, vi x2, vi 0] [] := by first | (simp [entryFrame, mkF, argsToLocals, Value.category]; done) | rfl
def Q_rm_gb (Z : State) (x : Addr) (xs : List Int32) (db : Addr) (dk : ClassId) (ys : List Int32) (cn : Nat) (z : Int32) (cz : Int32) (h0 : Heap) (n0 : Nat) (v : Option Value) (h : Heap) (L : List Loc) : Prop := v = none ∧ Fr n0 L ∧ Keep h0 h [db] ∧ Arv Z h db dk .byte z (latV (ys ++ xs)) (.int 0)
theorem rm_gb (l : Launch) (Z : State) (a0 : Array Value) (hw : HW a0 Z) (ws : List Jvm.Cond) (x : Addr) (xs : List Int32) (db : Addr) (dk : ClassId) (ys : List Int32) (cn : Nat) (z : Int32) (cz : Int32) (h0 : Heap) (n0 : Nat) (Z0 : n0 ≤ h0.size) (T_x : StrOf Z h0 x xs) (V_db : Arv Z h0 db dk .byte z (latV ys) (.int 0)) (g_db : n0 ≤ db) (hcn : cn = ys.length) (hfit : cn + xs.length ≤ z.toNatClampNeg) (hz : z.toNatClampNeg ≤ 1000) (sgC : Sta Z h0 "java/lang/String" "COMPACT_STRINGS" "Z" (.int cz)) (hcz : ¬ (cz = 0)) :
  Met l Z mN15 jdk_42_method_147_code 4 none ({ frames := 1, cells := 0, slots := 0, locals := 18 } : Room) ws #[(.ref x), (.ref db), (.int (Int32.ofNat cn)), (.int 0)] h0 (Q_rm_gb Z x xs db dk ys cn z cz h0 n0) := by
 refine own_met (plainFor_of_name own_pn0) ?_
 intro p e s m below meth c s₁ hret hx hby hlk hml hown hnm X0 e0 hZ hh
 have N0 := Fr.nil n0
 refine Gz (castTop (own_ef_rm_gb m x db (Int32.ofNat cn))) ?_
 have KP : Keep h0 h0 [db] := Keep.refl _ _
 show Goes _ _ _ _ _ (fT s₁ m 0 #[vr x, vr db, vi (Int32.ofNat cn), vi 0] [])
 obtain ⟨vb, kb, A_x, F_value_x, hrep, hlen⟩ := id T_x
 rcases hrep with ⟨F_coder_x, hall, V_vb⟩ | hf
 ·show Goes _ _ _ _ _ (fT s₁ m 0 #[vr x, vr db, vi (Int32.ofNat cn), vi 0] [])
  refine gA X0 hx hby d15_0 rfl rfl rfl ?_
  refine cV X0 hx hZ hw hown hby hml e0 mN0 85 86 88 87 89 25 0 (rs_coder0 l Z a0 hw [] x cz h0 n0 Z0 F_coder_x sgC hcz) T_x.exa d15_1 (lenOf own_pd0 rfl) N0 (fun T1 L1 X1 e1 N1 => ?_)
  show Goes _ _ _ _ _ (fT T1 m 4 #[vr x, vr db, vi (Int32.ofNat cn), vi 0] [(.int 0)])
  refine gN X1 hx hby d15_4 rfl rfl ?_
  refine gU X1 hx hby d15_5 (teq (by decide : ((0 : Int32) = (0 : Int32)))).2 ?_
  refine gA X1 hx hby d15_8 rfl rfl rfl ?_
  obtain ⟨T2, X2, e2, st2⟩ := getF X1 hx hZ hown (host := "") (Or.inl (gw hw 84 rfl)) Via.refl e1 F_value_x (g := (mkF m 9 #[vr x, vr db, vi (Int32.ofNat cn), vi 0] [(.ref x)])) rfl rfl (hb hby d15_9)
  refine Gs st2 ?_
  show Goes _ _ _ _ _ (fT T2 m 12 #[vr x, vr db, vi (Int32.ofNat cn), vi 0] [(.ref vb)])
  refine gC X2 hx hby d15_12 ?_
  refine gA X2 hx hby d15_13 rfl rfl rfl ?_
  refine gN X2 hx hby d15_14 rfl rfl ?_
  refine gN X2 hx hby d15_15 rfl rfl ?_
  show Goes _ _ _ _ _ (fT T2 m 16 #[vr x, vr db, vi (Int32.ofNat cn), vi 0] [(.int 0), (.int (Int32.ofNat cn)), (.ref db), (.int 0), (.ref vb)])
  refine Gz (XS.ishl X2.here hx rfl (hb hby d15_16) rfl) ?_
  show Goes _ _ _ _ _ (fT T2 m 17 #[vr x, vr db, vi (Int32.ofNat cn), vi 0] [(.int ((Int32.ofNat cn) <<< ((0 : Int32) &&& 31))), (.ref db), (.int 0), (.ref vb)])
  rw [own_shl0]
  show Goes _ _ _ _ _ (fT T2 m 17 #[vr x, vr db, vi (Int32.ofNat cn), vi 0] [(.int (Int32.ofNat cn)), (.ref db), (.int 0), (.ref vb)])
  refine gA X2 hx hby d15_17 rfl rfl rfl ?_
  obtain ⟨T3, X3, e3, st3⟩ := getF X2 hx hZ hown (host := "") (Or.inl (gw hw 84 rfl)) Via.refl e2 F_value_x (g := (mkF m 18 #[vr x, vr db, vi (Int32.ofNat cn), vi 0] [(.ref x), (.int (Int32.ofNat cn)), (.ref db), (.int 0), (.ref vb)])) rfl rfl (hb hby d15_18)
  refine Gs st3 ?_
  show Goes _ _ _ _ _ (fT T3 m 21 #[vr x, vr db, vi (Int32.ofNat cn), vi 0] [(.ref vb), (.int (Int32.ofNat cn)), (.ref db), (.int 0), (.ref vb)])
  obtain ⟨cl4, Ar4, -, S4, N4z, -, -⟩ := id V_vb
  refine Gs (fun _ tk => X3.arraylength hx (by rw [e3]; exact Ar4.1) (State.isArrayOf_alike hZ.alike Ar4.2.1) (g := (mkF m 21 #[vr x, vr db, vi (Int32.ofNat cn), vi 0] [(.ref vb), (.int (Int32.ofNat cn)), (.ref db), (.int 0), (.ref vb)])) rfl rfl (hb hby d15_21) _ tk) ?_
  rw [len_of S4 N4z]
  show Goes _ _ _ _ _ (fT T3 m 22 #[vr x, vr db, vi (Int32.ofNat cn), vi 0] [(.int (Int32.ofNat xs.length)), (.int (Int32.ofNat cn)), (.ref db), (.int 0), (.ref vb)])
  replace V_db := own_padN V_db xs.length
  have oc := own_tnO (n := cn) (by omega)
  have ox := own_tnO (n := xs.length) (by omega)
  have tn0 : (0 : Int32).toNatClampNeg = 0 := by decide
  obtain ⟨T5, h5, L5, X5, e5, N5, K5, Vn5, st5⟩ := cpA X3 hx hZ hown (gw hw 108 rfl) (gw hw 111 rfl) (gw hw 109 rfl) (gw hw 110 rfl) e3 V_vb V_db (us := (latV xs)) (Or.inl ⟨rfl, rfl⟩) (by decide) oc.2.1 ox.2.1 (by rw [tn0, ox.1]; omega) (by rw [oc.1, ox.1]; omega) (by rw [ox.1, tn0]; exact own_rgL xs 0) (by rw [oc.1, ox.1, List.length_append, own_latLen, List.length_replicate]; omega) N1 g_db (g := (mkF m 22 #[vr x, vr db, vi (Int32.ofNat cn), vi 0] [(.int (Int32.ofNat xs.length)), (.int (Int32.ofNat cn)), (.ref db), (.int 0), (.ref vb)])) rfl hml.symm rfl (hb hby d15_22) (by decide) (W := 0) (wz rfl) (by decide)
  replace KP := KP.trans K5 (allS (Or.inl (List.mem_of_getElem? (i := 0) rfl)) all0)
  replace Z0 := Nat.le_trans Z0 K5.1
  have V_db : Arv Z h5 db _ .byte z (latV (ys ++ xs)) (.int 0) := own_arvE Vn5 (by rw [oc.1, ox.1, hcn]; exact own_cpL ys xs)
  refine Gs st5 ?_
  show Goes _ _ _ _ _ (fT T5 m 25 #[vr x, vr db, vi (Int32.ofNat cn), vi 0] [])
  refine gG X5 hx hby d15_25 25 43 ?_
  refine Goes.ret X5 none (fun _ => rfl) hlk (by decide) (by decide) ?_ (fun fs hr => ?_)
  ·rw [e5]; exact ⟨rfl, N5, KP, V_db⟩
  ·exact X5.returnOut hx hret (hb hby d15_43) hr
 ·exact hf.elim
theorem d16_0 : DK kc38 0 (.getstatic 18) 3 := by decide +kernel
theorem d16_3 : DK kc38 3 (.ifCond .eq 18) 3 := by decide +kernel
theorem d16_6 : DK kc38 6 (.aload_n 0) 1 := by decide +kernel
theorem d16_7 : DK kc38 7 (.getfield 22) 3 := by decide +kernel
theorem d16_10 : DK kc38 10 (.aload_n 1) 1 := by decide +kernel
theorem d16_11 : DK kc38 11 (.invokevirtual 40) 3 := by decide +kernel
theorem d16_14 : DK kc38 14 (.if_icmp .eq 7) 3 := by decide +kernel
theorem d16_21 : DK kc38 21 .return_ 1 := by decide +kernel
theorem own_ef_rm_inn (m : MethodId) (x0 : Addr) (x1 : Addr) : entryFrame m #[(.ref x0), (.ref x1)] 2 = mkF m 0 #[vr x0, vr x1] [] := by first | (simp [entryFrame, mkF, argsToLocals, Value.category]; done) | rfl
def Q_rm_inn (Z : State) (a : Addr) (x : Addr) (xs : List Int32) (cz : Int32) (h0 : Heap) (n0 : Nat) (v : Option Value) (h : Heap) (L : List Loc) : Prop := v = none ∧ Fr n0 L ∧ h = h0
theorem rm_inn (l : Launch) (Z : State) (a0 : Array Value) (hw : HW a0 Z) (ws : List Jvm.Cond) (a : Addr) (x : Addr) (xs : List Int32) (cz : Int32) (h0 : Heap) (n0 : Nat) (Z0 : n0 ≤ h0.size) (F_coder_a : Fld Z h0 a "java/lang/AbstractStringBuilder" "coder" "B" (.int 0)) (T_x : StrOf Z h0 x xs) (sgC : Sta Z h0 "java/lang/String" "COMPACT_STRINGS" "Z" (.int cz)) (hcz : ¬ (cz = 0)) :
  Met l Z mN16 jdk_68_method_71_code 2 none ({ frames := 1, cells := 0, slots := 0, locals := 13 } : Room) ws #[(.ref a), (.ref x)] h0 (Q_rm_inn Z a x xs cz h0 n0) := by
 refine own_met (plainFor_of_name own_pn4) ?_
 intro p e s m below meth c s₁ hret hx hby hlk hml hown hnm X0 e0 hZ hh
 have N0 := Fr.nil n0
 refine Gz (castTop (own_ef_rm_inn m a x)) ?_
 show Goes _ _ _ _ _ (fT s₁ m 0 #[vr a, vr x] [])
 obtain ⟨vb, kb, A_x, F_value_x, hrep, hlen⟩ := id T_x
 rcases hrep with ⟨F_coder_x, hall, V_vb⟩ | hf
 ·show Goes _ _ _ _ _ (fT s₁ m 0 #[vr a, vr x] [])
  obtain ⟨T1, X1, e1, st1⟩ := getS2 X0 hx hZ hown (host := "") (Or.inl (gw hw 24 rfl)) Via.refl e0 sgC (g := (mkF m 0 #[vr a, vr x] [])) rfl (hb hby d16_0)
  refine Gs st1 ?_
  show Goes _ _ _ _ _ (fT T1 m 3 #[vr a, vr x] [(.int cz)])
  refine gu X1 hx hby d16_3 ((if0 _ _).trans (feq hcz).1) ?_
  refine gA X1 hx hby d16_6 rfl rfl rfl ?_
  obtain ⟨T2, X2, e2, st2⟩ := getF X1 hx hZ hown (host := "") (Or.inl (gw hw 29 rfl)) Via.refl e1 F_coder_a (g := (mkF m 7 #[vr a, vr x] [(.ref a)])) rfl rfl (hb hby d16_7)
  refine Gs st2 ?_
  show Goes _ _ _ _ _ (fT T2 m 10 #[vr a, vr x] [(.int 0)])
  refine gA X2 hx hby d16_10 rfl rfl rfl ?_
  refine cV X2 hx hZ hw hown hby hml e2 mN0 102 86 88 87 89 25 1 (rs_coder0 l Z a0 hw [] x cz h0 n0 Z0 F_coder_x sgC hcz) T_x.exa d16_11 (lenOf own_pd0 rfl) N0 (fun T3 L3 X3 e3 N3 => ?_)
  show Goes _ _ _ _ _ (fT T3 m 14 #[vr a, vr x] [(.int 0), (.int 0)])
  refine gY X3 hx hby d16_14 14 21 (teq (by decide : ((0 : Int32) = (0 : Int32)))).1 ?_
  refine Goes.ret X3 none (fun _ => rfl) hlk (by decide) (by decide) ?_ (fun fs hr => ?_)
  ·exact ⟨rfl, N3, e3⟩
  ·exact X3.returnOut hx hret (hb hby d16_21) hr
 ·exact hf.elim
theorem d17_0 : DK kc39 0 (.aload_n 0) 1 := by decide +kernel
theorem d17_1 : DK kc39 1 (.aload_n 2) 1 := by decide +kernel
theorem d17_2 : DK kc39 2 (.invokevirtual 397) 3 := by decide +kernel
theorem own_pd9 : parseMethodDescriptor "(Ljava/lang/String;)V" = some ⟨[(.object "java/lang/String")], none⟩ := by decide +kernel
theorem d17_5 : DK kc39 5 (.aload_n 2) 1 := by decide +kernel
theorem d17_6 : DK kc39 6 (.aload_n 0) 1 := by decide +kernel
theorem d17_7 : DK kc39 7 (.getfield 15) 3 := by decide +kernel
theorem d17_10 : DK kc39 10 (.iload_n 1) 1 := by decide +kernel
theorem d17_11 : DK kc39 11 (.aload_n 0) 1 := by decide +kernel
theorem d17_12 : DK kc39 12 (.getfield 22) 3 := by decide +kernel
theorem d17_15 : DK kc39 15 (.invokevirtual 399) 3 := by decide +kernel
theorem own_pd10 : parseMethodDescriptor "([BIB)V" = some ⟨[(.array .byte), .int, .byte], none⟩ := by decide +kernel
theorem d17_18 : DK kc39 18 .return_ 1 := by decide +kernel
theorem own_ef_rm_psa (m : MethodId) (x0 : Addr) (x1 : Int32) (x2 : Addr) : entryFrame m #[(.ref x0), (.int x1), (.ref x2)] 3 = mkF m 0 #[vr x0, vi x1, vr x2] [] := by first | (simp [entryFrame, mkF, argsToLocals, Value.category]; done) | rfl
def Q_rm_psa (Z : State) (a : Addr) (x : Addr) (xs : List Int32) (db : Addr) (dk : ClassId) (ys : List Int32) (cn : Nat) (z : Int32) (cz : Int32) (h0 : Heap) (n0 : Nat) (v : Option Value) (h : Heap) (L : List Loc) : Prop := v = none ∧ Fr n0 L ∧ Keep h0 h [db] ∧ Arv Z h db dk .byte z (latV (ys ++ xs)) (.int 0)
theorem rm_psa (l : Launch) (Z : State) (a0 : Array Value) (hw : HW a0 Z) (ws : List Jvm.Cond) (a : Addr) (x : Addr) (xs : List Int32) (db : Addr) (dk : ClassId) (ys : List Int32) (cn : Nat) (z : Int32) (cz : Int32) (h0 : Heap) (n0 : Nat) (Z0 : n0 ≤ h0.size) (A_a : Exa Z h0 a "java/lang/StringBuilder") (F_value_a : Fld Z h0 a "java/lang/AbstractStringBuilder" "value" "[B" (.ref db)) (F_count_a : Fld Z h0 a "java/lang/AbstractStringBuilder" "count" "I" (.int (Int32.ofNat cn))) (F_coder_a : Fld Z h0 a "java/lang/AbstractStringBuilder" "coder" "B" (.int 0)) (V_db : Arv Z h0 db dk .byte z (latV ys) (.int 0)) (T_x : StrOf Z h0 x xs) (g_a : n0 ≤ a) (g_db : n0 ≤ db) (ne_a_db : a ≠ db) (hcn : cn = ys.length) (hfit : cn + xs.length ≤ z.toNatClampNeg) (hz : z.toNatClampNeg ≤ 1000) (sgC : Sta Z h0 "java/lang/String" "COMPACT_STRINGS" "Z" (.int cz)) (hcz : ¬ (cz = 0)) :
  Met l Z mN17 jdk_68_method_73_code 3 none ({ frames := 2, cells := 0, slots := 0, locals := 33 } : Room) ws #[(.ref a), (.int (Int32.ofNat cn)), (.ref x)] h0 (Q_rm_psa Z a x xs db dk ys cn z cz h0 n0) := by
 refine own_met (plainFor_of_name own_pn4) ?_
 intro p e s m below meth c s₁ hret hx hby hlk hml hown hnm X0 e0 hZ hh
 have N0 := Fr.nil n0
 refine Gz (castTop (own_ef_rm_psa m a (Int32.ofNat cn) x)) ?_
 have KP : Keep h0 h0 [db] := Keep.refl _ _
 show Goes _ _ _ _ _ (fT s₁ m 0 #[vr a, vi (Int32.ofNat cn), vr x] [])
 refine gA X0 hx hby d17_0 rfl rfl rfl ?_
 refine gA X0 hx hby d17_1 rfl rfl rfl ?_
 obtain ⟨cq1, q1, q1'⟩ := A_a.cell
 obtain ⟨_, _, ⟨T1, L1, k1, n1⟩, -, X1, ⟨Lc1, hQ1, l1, y1, z1⟩, st1⟩ := X0.privateBack hx (y := mN16) hown (gz hZ hw 97 rfl) (gz hZ hw 98 rfl) (own_selQ hZ (gw hw 51 rfl) (gw hw 99 rfl) (gw hw 98 rfl) (by decide)) (Cond.privateMethod_at (mvP hZ (gw hw 99 rfl) (args := #[]))) (gz hZ hw 101 rfl) (by decide) (backOf (W := 0) (rm_inn l Z a0 hw [] a x xs cz h0 n0 Z0 F_coder_a T_x sgC hcz) hZ (gw hw 101 rfl) (gw hw 19 rfl) (by decide) (by decide)) (g := (mkF m 2 #[vr a, vi (Int32.ofNat cn), vr x] [(.ref x), (.ref a)])) rfl hml.symm (Steps.refl _) (a := a) (by rw [e0]; exact q1) q1' (argsL := [(.ref x)]) (rest := []) (lenOf own_pd9 rfl) rfl (wz rfl) (hb hby d17_2) (fun _ _ => ⟨rfl, e0, z0, z0⟩)
 dsimp only [Pt.U, Pt.locs, Pt.cells, Pt.slots] at X1 l1 y1 z1 st1 hQ1
 subst l1 y1 z1
 obtain ⟨rfl, N1q, e1⟩ := hQ1
 have N1 := Fr.app N0 N1q
 refine Gs (fun _ tk => st1.trans tk) ?_
 show Goes _ _ _ _ _ (fT T1 m 5 #[vr a, vi (Int32.ofNat cn), vr x] [])
 refine gA X1 hx hby d17_5 rfl rfl rfl ?_
 refine gA X1 hx hby d17_6 rfl rfl rfl ?_
 obtain ⟨T2, X2, e2, st2⟩ := getF X1 hx hZ hown (host := "") (Or.inl (gw hw 27 rfl)) Via.refl e1 F_value_a (g := (mkF m 7 #[vr a, vi (Int32.ofNat cn), vr x] [(.ref a), (.ref x)])) rfl rfl (hb hby d17_7)
 refine Gs st2 ?_
 show Goes _ _ _ _ _ (fT T2 m 10 #[vr a, vi (Int32.ofNat cn), vr x] [(.ref db), (.ref x)])
 refine gN X2 hx hby d17_10 rfl rfl ?_
 refine gA X2 hx hby d17_11 rfl rfl rfl ?_
 obtain ⟨T3, X3, e3, st3⟩ := getF X2 hx hZ hown (host := "") (Or.inl (gw hw 29 rfl)) Via.refl e2 F_coder_a (g := (mkF m 12 #[vr a, vi (Int32.ofNat cn), vr x] [(.ref a), (.int (Int32.ofNat cn)), (.ref db), (.ref x)])) rfl rfl (hb hby d17_12)
 refine Gs st3 ?_
 show Goes _ _ _ _ _ (fT T3 m 15 #[vr a, vi (Int32.ofNat cn), vr x] [(.int 0), (.int (Int32.ofNat cn)), (.ref db), (.ref x)])
 refine cVg X3 hx hZ hw hown hby hml e3 mN15 103 104 106 105 107 25 0 (rm_gb l Z a0 hw [] x xs db dk ys cn z cz h0 n0 Z0 T_x V_db g_db hcn hfit hz sgC hcz) T_x.exa d17_15 (lenOf own_pd10 rfl) (fun _ T4 L4 X4 hQ4 => ?_)
 obtain ⟨rfl, N4q, K4, V_db_4'⟩ := hQ4
 have N4 := Fr.app N1 N4q
 replace KP := KP.trans K4 (allS (Or.inl (List.mem_of_getElem? (i := 0) rfl)) all0)
 replace Z0 := Nat.le_trans Z0 K4.1
 have V_db := V_db_4'
 show Goes _ _ _ _ _ (fT T4 m 18 #[vr a, vi (Int32.ofNat cn), vr x] [])
 refine Goes.ret X4 none (fun _ => rfl) hlk (by decide) (by decide) ?_ (fun fs hr => ?_)
 ·exact ⟨rfl, N4, KP, V_db⟩
 ·exact X4.returnOut hx hret (hb hby d17_18) hr
theorem d18_0 : DK kc32 0 (.aload_n 1) 1 := by decide +kernel
theorem d18_1 : DK kc32 1 (.ifnonnull 8) 3 := by decide +kernel
theorem d18_9 : DK kc32 9 (.aload_n 1) 1 := by decide +kernel
theorem d18_10 : DK kc32 10 (.invokevirtual 32) 3 := by decide +kernel
theorem own_pd11 : parseMethodDescriptor "()I" = some ⟨[], some .int⟩ := by decide +kernel
theorem d18_13 : DK kc32 13 (.istore_n 2) 1 := by decide +kernel
theorem d18_14 : DK kc32 14 (.aload_n 0) 1 := by decide +kernel
theorem d18_15 : DK kc32 15 (.aload_n 0) 1 := by decide +kernel
theorem d18_16 : DK kc32 16 (.getfield 79) 3 := by decide +kernel
theorem d18_19 : DK kc32 19 (.iload_n 2) 1 := by decide +kernel
theorem d18_20 : DK kc32 20 .iadd 1 := by decide +kernel
theorem d18_21 : DK kc32 21 (.invokevirtual 100) 3 := by decide +kernel
theorem d18_24 : DK kc32 24 (.aload_n 0) 1 := by decide +kernel
theorem d18_25 : DK kc32 25 (.aload_n 0) 1 := by decide +kernel
theorem d18_26 : DK kc32 26 (.getfield 79) 3 := by decide +kernel
theorem d18_29 : DK kc32 29 (.aload_n 1) 1 := by decide +kernel
theorem d18_30 : DK kc32 30 (.invokevirtual 208) 3 := by decide +kernel
theorem own_pd12 : parseMethodDescriptor "(ILjava/lang/String;)V" = some ⟨[.int, (.object "java/lang/String")], none⟩ := by decide +kernel
theorem d18_33 : DK kc32 33 (.aload_n 0) 1 := by decide +kernel
theorem d18_34 : DK kc32 34 .dup 1 := by decide +kernel
theorem d18_35 : DK kc32 35 (.getfield 79) 3 := by decide +kernel
theorem d18_38 : DK kc32 38 (.iload_n 2) 1 := by decide +kernel
theorem d18_39 : DK kc32 39 .iadd 1 := by decide +kernel
theorem d18_40 : DK kc32 40 (.putfield 79) 3 := by decide +kernel
theorem d18_43 : DK kc32 43 (.aload_n 0) 1 := by decide +kernel
theorem d18_44 : DK kc32 44 .areturn 1 := by decide +kernel
theorem own_ef_rm_as (m : MethodId) (x0 : Addr) (x1 : Addr) : entryFrame m #[(.ref x0), (.ref x1)] 3 = mkF m 0 #[vr x0, vr x1, vu] [] := by first | (simp [entryFrame, mkF, argsToLocals, Value.category]; done) | rfl
def Q_rm_as (Z : State) (a : Addr) (x : Addr) (xs : List Int32) (db : Addr) (dk : ClassId) (ys : List Int32) (cn : Nat) (z : Int32) (cz : Int32) (h0 : Heap) (n0 : Nat) (v : Option Value) (h : Heap) (L : List Loc) : Prop := v = some (.ref a) ∧ Fr n0 L ∧ Keep h0 h [a, db] ∧ Fld Z h a "java/lang/AbstractStringBuilder" "value" "[B" (.ref db) ∧ Fld Z h a "java/lang/AbstractStringBuilder" "count" "I" (.int (Int32.ofNat (cn + xs.length))) ∧ Fld Z h a "java/lang/AbstractStringBuilder" "coder" "B" (.int 0) ∧ Arv Z h db dk .byte z (latV (ys ++ xs)) (.int 0)
theorem rm_as (l : Launch) (Z : State) (a0 : Array Value) (hw : HW a0 Z) (ws : List Jvm.Cond) (a : Addr) (x : Addr) (xs : List Int32) (db : Addr) (dk : ClassId) (ys : List Int32) (cn : Nat) (z : Int32) (cz : Int32) (h0 : Heap) (n0 : Nat) (Z0 : n0 ≤ h0.size) (A_a : Exa Z h0 a "java/lang/StringBuilder") (F_value_a : Fld Z h0 a "java/lang/AbstractStringBuilder" "value" "[B" (.ref db)) (F_count_a : Fld Z h0 a "java/lang/AbstractStringBuilder" "count" "I" (.int (Int32.ofNat cn))) (F_coder_a : Fld Z h0 a "java/lang/AbstractStringBuilder" "coder" "B" (.int 0)) (V_db : Arv Z h0 db dk .byte z (latV ys) (.int 0)) (T_x : StrOf Z h0 x xs) (g_a : n0 ≤ a) (g_db : n0 ≤ db) (ne_a_db : a ≠ db) (hcn : cn = ys.length) (hfit : cn + xs.length ≤ z.toNatClampNeg) (hz : z.toNatClampNeg ≤ 1000) (sgC : Sta Z h0 "java/lang/String" "COMPACT_STRINGS" "Z" (.int cz)) (hcz : ¬ (cz = 0)) :
  Met l Z mN18 jdk_68_method_22_code 3 (some (.object "java/lang/AbstractStringBuilder")) ({ frames := 3, cells := 0, slots := 0, locals := 47 } : Room) ws #[(.ref a), (.ref x)] h0 (Q_rm_as Z a x xs db dk ys cn z cz h0 n0) := by
 refine own_met (plainFor_of_name own_pn4) ?_
 intro p e s m below meth c s₁ hret hx hby hlk hml hown hnm X0 e0 hZ hh
 have N0 := Fr.nil n0
 refine Gz (castTop (own_ef_rm_as m a x)) ?_
 have KP : Keep h0 h0 [a, db] := Keep.refl _ _
 show Goes _ _ _ _ _ (fT s₁ m 0 #[vr a, vr x, vu] [])
 refine gA X0 hx hby d18_0 rfl rfl rfl ?_
 refine Gz (XS.ifnonnullYes X0.here hx rfl (pc0 := 1) (pc' := 9) rfl (hb hby d18_1) rfl (by decide) (by decide)) ?_
 refine gA X0 hx hby d18_9 rfl rfl rfl ?_
 refine cV X0 hx hZ hw hown hby hml e0 mN2 79 80 82 81 83 25 0 (rs_len l Z a0 hw [] x xs cz h0 n0 Z0 T_x sgC hcz) T_x.exa d18_10 (lenOf own_pd11 rfl) N0 (fun T1 L1 X1 e1 N1 => ?_)
 show Goes _ _ _ _ _ (fT T1 m 13 #[vr a, vr x, vu] [(.int (Int32.ofNat xs.length))])
 refine gs X1 hx hby d18_13 #[vr a, vr x, vi (Int32.ofNat xs.length)] ?_
 refine gA X1 hx hby d18_14 rfl rfl rfl ?_
 refine gA X1 hx hby d18_15 rfl rfl rfl ?_
 obtain ⟨T2, X2, e2, st2⟩ := getF X1 hx hZ hown (host := "") (Or.inl (gw hw 41 rfl)) Via.refl e1 F_count_a (g := (mkF m 16 #[vr a, vr x, vi (Int32.ofNat xs.length)] [(.ref a), (.ref a)])) rfl rfl (hb hby d18_16)
 refine Gs st2 ?_
 show Goes _ _ _ _ _ (fT T2 m 19 #[vr a, vr x, vi (Int32.ofNat xs.length)] [(.int (Int32.ofNat cn)), (.ref a)])
 refine gN X2 hx hby d18_19 rfl rfl ?_
 show Goes _ _ _ _ _ (fT T2 m 20 #[vr a, vr x, vi (Int32.ofNat xs.length)] [(.int (Int32.ofNat xs.length)), (.int (Int32.ofNat cn)), (.ref a)])
 refine Gz (XS.iadd X2.here hx rfl (hb hby d18_20) rfl) ?_
 show Goes _ _ _ _ _ (fT T2 m 21 #[vr a, vr x, vi (Int32.ofNat xs.length)] [(.int ((Int32.ofNat cn) + (Int32.ofNat xs.length))), (.ref a)])
 rw [own_ofA]
 show Goes _ _ _ _ _ (fT T2 m 21 #[vr a, vr x, vi (Int32.ofNat xs.length)] [(.int (Int32.ofNat (cn + xs.length))), (.ref a)])
 obtain ⟨cq3, q3, q3'⟩ := A_a.cell
 obtain ⟨_, _, ⟨T3, L3, k3, n3⟩, -, X3, ⟨Lc3, hQ3, l3, y3, z3⟩, st3⟩ := X2.privateBack hx (y := mN12) hown (gz hZ hw 48 rfl) (gz hZ hw 49 rfl) (own_selQ hZ (gw hw 51 rfl) (gw hw 50 rfl) (gw hw 49 rfl) (by decide)) (Cond.privateMethod_at (mvP hZ (gw hw 50 rfl) (args := #[]))) (gz hZ hw 52 rfl) (by decide) (backOf (W := 0) (rm_ec l Z a0 hw [] a db dk z (latV ys) (Int32.ofNat (cn + xs.length)) h0 n0 Z0 F_value_a F_coder_a V_db (own_ecN (own_nz V_db) hfit hz)) hZ (gw hw 52 rfl) (gw hw 19 rfl) (by decide) (by decide)) (g := (mkF m 21 #[vr a, vr x, vi (Int32.ofNat xs.length)] [(.int (Int32.ofNat (cn + xs.length))), (.ref a)])) rfl hml.symm (Steps.refl _) (a := a) (by rw [e2]; exact q3) q3' (argsL := [(.int (Int32.ofNat (cn + xs.length)))]) (rest := []) (lenOf own_pd5 rfl) rfl (wz rfl) (hb hby d18_21) (fun _ _ => ⟨rfl, e2, z0, z0⟩)
 dsimp only [Pt.U, Pt.locs, Pt.cells, Pt.slots] at X3 l3 y3 z3 st3 hQ3
 subst l3 y3 z3
 obtain ⟨rfl, N3q, e3⟩ := hQ3
 have N3 := Fr.app N1 N3q
 refine Gs (fun _ tk => st3.trans tk) ?_
 show Goes _ _ _ _ _ (fT T3 m 24 #[vr a, vr x, vi (Int32.ofNat xs.length)] [])
 refine gA X3 hx hby d18_24 rfl rfl rfl ?_
 refine gA X3 hx hby d18_25 rfl rfl rfl ?_
 obtain ⟨T4, X4, e4, st4⟩ := getF X3 hx hZ hown (host := "") (Or.inl (gw hw 41 rfl)) Via.refl e3 F_count_a (g := (mkF m 26 #[vr a, vr x, vi (Int32.ofNat xs.length)] [(.ref a), (.ref a)])) rfl rfl (hb hby d18_26)
 refine Gs st4 ?_
 show Goes _ _ _ _ _ (fT T4 m 29 #[vr a, vr x, vi (Int32.ofNat xs.length)] [(.int (Int32.ofNat cn)), (.ref a)])
 refine gA X4 hx hby d18_29 rfl rfl rfl ?_
 obtain ⟨cq5, q5, q5'⟩ := A_a.cell
 obtain ⟨_, _, ⟨T5, L5, k5, n5⟩, -, X5, ⟨Lc5, hQ5, l5, y5, z5⟩, st5⟩ := X4.privateBack hx (y := mN17) hown (gz hZ hw 92 rfl) (gz hZ hw 93 rfl) (own_selQ hZ (gw hw 51 rfl) (gw hw 94 rfl) (gw hw 93 rfl) (by decide)) (Cond.privateMethod_at (mvP hZ (gw hw 94 rfl) (args := #[]))) (gz hZ hw 96 rfl) (by decide) (backOf (W := 0) (rm_psa l Z a0 hw [] a x xs db dk ys cn z cz h0 n0 Z0 A_a F_value_a F_count_a F_coder_a V_db T_x g_a g_db ne_a_db hcn hfit hz sgC hcz) hZ (gw hw 96 rfl) (gw hw 19 rfl) (by decide) (by decide)) (g := (mkF m 30 #[vr a, vr x, vi (Int32.ofNat xs.length)] [(.ref x), (.int (Int32.ofNat cn)), (.ref a)])) rfl hml.symm (Steps.refl _) (a := a) (by rw [e4]; exact q5) q5' (argsL := [(.int (Int32.ofNat cn)), (.ref x)]) (rest := []) (lenOf own_pd12 rfl) rfl (wz rfl) (hb hby d18_30) (fun _ _ => ⟨rfl, e4, z0, z0⟩)
 dsimp only [Pt.U, Pt.locs, Pt.cells, Pt.slots] at X5 l5 y5 z5 st5 hQ5
 subst l5 y5 z5
 obtain ⟨rfl, N5q, K5, V_db_5'⟩ := hQ5
 have N5 := Fr.app N3 N5q
 replace A_a := A_a.keep K5
 replace F_value_a := F_value_a.keep K5 (ninS ne_a_db nin0)
 replace F_count_a := F_count_a.keep K5 (ninS ne_a_db nin0)
 replace F_coder_a := F_coder_a.keep K5 (ninS ne_a_db nin0)
 replace KP := KP.trans K5 (allS (Or.inl (List.mem_of_getElem? (i := 1) rfl)) all0)
 replace Z0 := Nat.le_trans Z0 K5.1
 have V_db := V_db_5'
 refine Gs (fun _ tk => st5.trans tk) ?_
 show Goes _ _ _ _ _ (fT T5 m 33 #[vr a, vr x, vi (Int32.ofNat xs.length)] [])
 refine gA X5 hx hby d18_33 rfl rfl rfl ?_
 refine Gz (XS.dup X5.here hx rfl (hb hby d18_34) rfl rfl) ?_
 obtain ⟨T6, X6, e6, st6⟩ := getF X5 hx hZ hown (host := "") (Or.inl (gw hw 41 rfl)) Via.refl rfl F_count_a (g := (mkF m 35 #[vr a, vr x, vi (Int32.ofNat xs.length)] [(.ref a), (.ref a)])) rfl rfl (hb hby d18_35)
 refine Gs st6 ?_
 show Goes _ _ _ _ _ (fT T6 m 38 #[vr a, vr x, vi (Int32.ofNat xs.length)] [(.int (Int32.ofNat cn)), (.ref a)])
 refine gN X6 hx hby d18_38 rfl rfl ?_
 show Goes _ _ _ _ _ (fT T6 m 39 #[vr a, vr x, vi (Int32.ofNat xs.length)] [(.int (Int32.ofNat xs.length)), (.int (Int32.ofNat cn)), (.ref a)])
 refine Gz (XS.iadd X6.here hx rfl (hb hby d18_39) rfl) ?_
 show Goes _ _ _ _ _ (fT T6 m 40 #[vr a, vr x, vi (Int32.ofNat xs.length)] [(.int ((Int32.ofNat cn) + (Int32.ofNat xs.length))), (.ref a)])
 rw [own_ofA]
 show Goes _ _ _ _ _ (fT T6 m 40 #[vr a, vr x, vi (Int32.ofNat xs.length)] [(.int (Int32.ofNat (cn + xs.length))), (.ref a)])
 obtain ⟨T7, h7, X7, e7, W7, st7⟩ := putF X6 hx hZ hown (host := "") (Or.inl (gw hw 41 rfl)) Via.refl e6 F_count_a A_a (Or.inl (gw hw 42 rfl)) (gw hw 10 rfl) (ty := .int) (by decide) rfl rfl (g := (mkF m 40 #[vr a, vr x, vi (Int32.ofNat xs.length)] [(.int (Int32.ofNat (cn + xs.length))), (.ref a)])) rfl rfl (hb hby d18_40)
 have N7 := Fr.snoc X7 N5 g_a
 replace F_value_a := F_value_a.other W7 (Or.inr (slot_ne (Or.inl (gw hw 28 rfl)) (Or.inl (gw hw 42 rfl)) (by decide) (t := (.array .byte)) (t' := .int) (by decide) (by decide)))
 replace F_coder_a := F_coder_a.other W7 (Or.inr (slot_ne (Or.inl (gw hw 30 rfl)) (Or.inl (gw hw 42 rfl)) (by decide) (t := .byte) (t' := .int) (by decide) (by decide)))
 replace V_db := V_db.other W7 (Ne.symm ne_a_db)
 replace KP := KP.wr W7 (Or.inl (List.mem_of_getElem? (i := 0) rfl))
 replace F_count_a := F_count_a.same W7
 replace Z0 : n0 ≤ h7.size := by rw [W7.size]; exact Z0
 refine Gs st7 ?_
 show Goes _ _ _ _ _ (fT T7 m 43 #[vr a, vr x, vi (Int32.ofNat xs.length)] [])
 refine gA X7 hx hby d18_43 rfl rfl rfl ?_
 refine Goes.ret X7 (some (.ref a)) (fun h => by rw [hret] at h; cases h) hlk (by decide) (by decide) ?_ (fun fs hr => ?_)
 ·rw [e7]; exact ⟨rfl, N7, KP, F_value_a, F_count_a, F_coder_a, V_db⟩
 ·exact own_retA X7 hx hret rfl rfl (hb hby d18_44) hr
theorem d19_0 : DK kc29 0 (.aload_n 0) 1 := by decide +kernel
theorem d19_1 : DK kc29 1 (.aload_n 1) 1 := by decide +kernel
theorem d19_2 : DK kc29 2 (.invokespecial 29) 3 := by decide +kernel
theorem own_pd13 : parseMethodDescriptor "(Ljava/lang/String;)Ljava/lang/AbstractStringBuilder;" = some ⟨[(.object "java/lang/String")], some (.object "java/lang/AbstractStringBuilder")⟩ := by decide +kernel
theorem d19_5 : DK kc29 5 .pop 1 := by decide +kernel
theorem d19_6 : DK kc29 6 (.aload_n 0) 1 := by decide +kernel
theorem d19_7 : DK kc29 7 .areturn 1 := by decide +kernel
theorem own_ef_rm_ssb (m : MethodId) (x0 : Addr) (x1 : Addr) : entryFrame m #[(.ref x0), (.ref x1)] 2 = mkF m 0 #[vr x0, vr x1] [] := by first | (simp [entryFrame, mkF, argsToLocals, Value.category]; done) | rfl
def Q_rm_ssb (Z : State) (a : Addr) (x : Addr) (xs : List Int32) (db : Addr) (dk : ClassId) (ys : List Int32) (cn : Nat) (z : Int32) (cz : Int32) (h0 : Heap) (n0 : Nat) (v : Option Value) (h : Heap) (L : List Loc) : Prop := v = some (.ref a) ∧ Fr n0 L ∧ Keep h0 h [a, db] ∧ Fld Z h a "java/lang/AbstractStringBuilder" "value" "[B" (.ref db) ∧ Fld Z h a "java/lang/AbstractStringBuilder" "count" "I" (.int (Int32.ofNat (cn + xs.length))) ∧ Fld Z h a "java/lang/AbstractStringBuilder" "coder" "B" (.int 0) ∧ Arv Z h db dk .byte z (latV (ys ++ xs)) (.int 0)
theorem rm_ssb (l : Launch) (Z : State) (a0 : Array Value) (hw : HW a0 Z) (ws : List Jvm.Cond) (a : Addr) (x : Addr) (xs : List Int32) (db : Addr) (dk : ClassId) (ys : List Int32) (cn : Nat) (z : Int32) (cz : Int32) (h0 : Heap) (n0 : Nat) (Z0 : n0 ≤ h0.size) (A_a : Exa Z h0 a "java/lang/StringBuilder") (F_value_a : Fld Z h0 a "java/lang/AbstractStringBuilder" "value" "[B" (.ref db)) (F_count_a : Fld Z h0 a "java/lang/AbstractStringBuilder" "count" "I" (.int (Int32.ofNat cn))) (F_coder_a : Fld Z h0 a "java/lang/AbstractStringBuilder" "coder" "B" (.int 0)) (V_db : Arv Z h0 db dk .byte z (latV ys) (.int 0)) (T_x : StrOf Z h0 x xs) (g_a : n0 ≤ a) (g_db : n0 ≤ db) (ne_a_db : a ≠ db) (hcn : cn = ys.length) (hfit : cn + xs.length ≤ z.toNatClampNeg) (hz : z.toNatClampNeg ≤ 1000) (sgC : Sta Z h0 "java/lang/String" "COMPACT_STRINGS" "Z" (.int cz)) (hcz : ¬ (cz = 0)) :
  Met l Z mN19 jdk_67_method_7_code 2 (some (.object "java/lang/StringBuilder")) ({ frames := 4, cells := 0, slots := 0, locals := 61 } : Room) ws #[(.ref a), (.ref x)] h0 (Q_rm_ssb Z a x xs db dk ys cn z cz h0 n0) := by
 refine own_met (plainFor_of_name own_pn5) ?_
 intro p e s m below meth c s₁ hret hx hby hlk hml hown hnm X0 e0 hZ hh
 have N0 := Fr.nil n0
 refine Gz (castTop (own_ef_rm_ssb m a x)) ?_
 have KP : Keep h0 h0 [a, db] := Keep.refl _ _
 show Goes _ _ _ _ _ (fT s₁ m 0 #[vr a, vr x] [])
 refine gA X0 hx hby d19_0 rfl rfl rfl ?_
 refine gA X0 hx hby d19_1 rfl rfl rfl ?_
 obtain ⟨_, _, ⟨T1, L1, k1, n1⟩, -, X1, ⟨Lc1, hQ1, l1, y1, z1⟩, st1⟩ := superBack X0 hx hZ (K := "java/lang/StringBuilder") (y := mN18) hown (gw hw 75 rfl) (own_sameM (gw hw 76 rfl) (gw hw 51 rfl) (by decide)) (gw hw 76 rfl) (gw hw 38 rfl) (by decide) (backOf (W := 0) (rm_as l Z a0 hw [] a x xs db dk ys cn z cz h0 n0 Z0 A_a F_value_a F_count_a F_coder_a V_db T_x g_a g_db ne_a_db hcn hfit hz sgC hcz) hZ (gw hw 78 rfl) (gw hw 19 rfl) (by decide) (by decide)) e0 (Ins.self A_a) (g := (mkF m 2 #[vr a, vr x] [(.ref x), (.ref a)])) rfl hml.symm (gw hw 78 rfl) (argsL := [(.ref x)]) (rest := []) (lenOf own_pd13 rfl) rfl (wz rfl) (hb hby d19_2) (fun _ _ => ⟨rfl, e0, z0, z0⟩)
 dsimp only [Pt.U, Pt.locs, Pt.cells, Pt.slots] at X1 l1 y1 z1 st1 hQ1
 subst l1 y1 z1
 obtain ⟨rfl, N1q, K1, F_value_a_1', F_count_a_1', F_coder_a_1', V_db_1'⟩ := hQ1
 have N1 := Fr.app N0 N1q
 replace KP := KP.trans K1 (allS (Or.inl (List.mem_of_getElem? (i := 0) rfl)) (allS (Or.inl (List.mem_of_getElem? (i := 1) rfl)) all0))
 replace Z0 := Nat.le_trans Z0 K1.1
 have F_value_a := F_value_a_1'
 have F_count_a := F_count_a_1'
 have F_coder_a := F_coder_a_1'
 have V_db := V_db_1'
 refine Gs (fun _ tk => st1.trans tk) ?_
 show Goes _ _ _ _ _ (fT T1 m 5 #[vr a, vr x] [(.ref a)])
 refine Gz (XS.pop X1.here hx rfl (hb hby d19_5) rfl rfl) ?_
 refine gA X1 hx hby d19_6 rfl rfl rfl ?_
 refine Goes.ret X1 (some (.ref a)) (fun h => by rw [hret] at h; cases h) hlk (by decide) (by decide) ?_ (fun fs hr => ?_)
 ·exact ⟨rfl, N1, KP, F_value_a, F_count_a, F_coder_a, V_db⟩
 ·exact own_retA X1 hx hret rfl rfl (hb hby d19_7) hr
theorem d20_0 : DK kc0 0 (.iload_n 0) 1 := by decide +kernel
theorem d20_1 : DK kc0 1 (.iload_n 1) 1 := by decide +kernel
theorem d20_2 : DK kc0 2 (.if_icmp .lt 7) 3 := by decide +kernel
theorem d20_9 : DK kc0 9 (.iload_n 1) 1 := by decide +kernel
theorem d20_10 : DK kc0 10 .ireturn 1 := by decide +kernel
theorem own_ef_rm_mx18 (m : MethodId)  : entryFrame m #[(.int 1), (.int 18)] 2 = mkF m 0 #[vi 1, vi 18] [] := by first | (simp [entryFrame, mkF, argsToLocals, Value.category]; done) | rfl
def Q_rm_mx18 (Z : State)  (h0 : Heap) (n0 : Nat) (v : Option Value) (h : Heap) (L : List Loc) : Prop := v = some (.int 18) ∧ Fr n0 L ∧ h = h0
theorem rm_mx18 (l : Launch) (Z : State) (a0 : Array Value) (hw : HW a0 Z) (ws : List Jvm.Cond)  (h0 : Heap) (n0 : Nat) (Z0 : n0 ≤ h0.size) :
  Met l Z mN20 jdk_29_method_65_code 2 (some .int) ({ frames := 0, cells := 0, slots := 0, locals := 0 } : Room) ws #[(.int 1), (.int 18)] h0 (Q_rm_mx18 Z  h0 n0) := by
 refine own_met (Jvm.Free.JP.mathPlain rfl (by decide +kernel)) ?_
 intro p e s m below meth c s₁ hret hx hby hlk hml hown hnm X0 e0 hZ hh
 have N0 := Fr.nil n0
 refine Gz (castTop (own_ef_rm_mx18 m )) ?_
 show Goes _ _ _ _ _ (fT s₁ m 0 #[vi 1, vi 18] [])
 refine gN X0 hx hby d20_0 rfl rfl ?_
 refine gN X0 hx hby d20_1 rfl rfl ?_
 refine gY X0 hx hby d20_2 2 9 (tlt (by decide : ((1 : Int32) < (18 : Int32)))).1 ?_
 refine gN X0 hx hby d20_9 rfl rfl ?_
 refine Goes.ret X0 (some (.int 18)) (fun h => by rw [hret] at h; cases h) hlk (by decide) (by decide) ?_ (fun fs hr => ?_)
 ·exact ⟨rfl, N0, e0⟩
 ·exact retI X0 hx hret (hb hby d20_10) hr
theorem d21_0 : DK kc21 0 (.iload_n 0) 1 := by decide +kernel
theorem d21_1 : DK kc21 1 (.iload_n 1) 1 := by decide +kernel
theorem d21_2 : DK kc21 2 (.iload_n 2) 1 := by decide +kernel
theorem d21_3 : DK kc21 3 (.invokestatic 194) 3 := by decide +kernel
theorem own_pd14 : parseMethodDescriptor "(II)I" = some ⟨[.int, .int], some .int⟩ := by decide +kernel
theorem d21_6 : DK kc21 6 .iadd 1 := by decide +kernel
theorem d21_7 : DK kc21 7 (.istore_n 3) 1 := by decide +kernel
theorem d21_8 : DK kc21 8 (.iconst 0) 1 := by decide +kernel
theorem d21_9 : DK kc21 9 (.iload_n 3) 1 := by decide +kernel
theorem d21_10 : DK kc21 10 (.if_icmp .ge 11) 3 := by decide +kernel
theorem d21_13 : DK kc21 13 (.iload_n 3) 1 := by decide +kernel
theorem d21_14 : DK kc21 14 (.ldc 200) 2 := by decide +kernel
theorem d21_16 : DK kc21 16 (.if_icmp .gt 5) 3 := by decide +kernel
theorem d21_19 : DK kc21 19 (.iload_n 3) 1 := by decide +kernel
theorem d21_20 : DK kc21 20 .ireturn 1 := by decide +kernel
theorem own_pn6 : plainName "jdk/internal/util/ArraysSupport" = true := by first | (simp [plainName, overriddenIn]; done) | decide +kernel
theorem own_ef_rm_nl (m : MethodId)  : entryFrame m #[(.int 16), (.int 1), (.int 18)] 4 = mkF m 0 #[vi 16, vi 1, vi 18, vu] [] := by first | (simp [entryFrame, mkF, argsToLocals, Value.category]; done) | rfl
def Q_rm_nl (Z : State)  (h0 : Heap) (n0 : Nat) (v : Option Value) (h : Heap) (L : List Loc) : Prop := v = some (.int 34) ∧ Fr n0 L ∧ h = h0
theorem rm_nl (l : Launch) (Z : State) (a0 : Array Value) (hw : HW a0 Z) (ws : List Jvm.Cond)  (h0 : Heap) (n0 : Nat) (Z0 : n0 ≤ h0.size) :
  Met l Z mN21 jdk_48_method_27_code 4 (some .int) ({ frames := 1, cells := 0, slots := 0, locals := 14 } : Room) ws #[(.int 16), (.int 1), (.int 18)] h0 (Q_rm_nl Z  h0 n0) := by
 refine own_met (plainFor_of_name own_pn6) ?_
 intro p e s m below meth c s₁ hret hx hby hlk hml hown hnm X0 e0 hZ hh
 have N0 := Fr.nil n0
 refine Gz (castTop (own_ef_rm_nl m )) ?_
 show Goes _ _ _ _ _ (fT s₁ m 0 #[vi 16, vi 1, vi 18, vu] [])
 refine gN X0 hx hby d21_0 rfl rfl ?_
 refine gN X0 hx hby d21_1 rfl rfl ?_
 refine gN X0 hx hby d21_2 rfl rfl ?_
 refine cS X0 hx hZ hw hown hby hml e0 mN20 242 243 244 167 1 (rm_mx18 l Z a0 hw []  h0 n0 Z0) d21_3 (lenOf own_pd14 rfl) N0 (fun T1 L1 X1 e1 N1 => ?_)
 show Goes _ _ _ _ _ (fT T1 m 6 #[vi 16, vi 1, vi 18, vu] [(.int 18), (.int 16)])
 refine Gz (XS.iadd X1.here hx rfl (hb hby d21_6) rfl) ?_
 show Goes _ _ _ _ _ (fT T1 m 7 #[vi 16, vi 1, vi 18, vu] [(.int 34)])
 refine gs X1 hx hby d21_7 #[vi 16, vi 1, vi 18, vi 34] ?_
 refine gC X1 hx hby d21_8 ?_
 refine gN X1 hx hby d21_9 rfl rfl ?_
 refine gU X1 hx hby d21_10 (tlt (by decide : ((0 : Int32) < (34 : Int32)))).2.1 ?_
 refine gN X1 hx hby d21_13 rfl rfl ?_
 refine Gz (Jvm.Stand.ldcI X1 hx hown (gz hZ hw 245 rfl) rfl (hb hby d21_14)) ?_
 show Goes _ _ _ _ _ (fT T1 m 16 #[vi 16, vi 1, vi 18, vi 34] [(.int 2147483639), (.int 34)])
 refine gU X1 hx hby d21_16 (flt (by decide : ¬ ((2147483639 : Int32) < (34 : Int32)))).2.2.1 ?_
 refine gN X1 hx hby d21_19 rfl rfl ?_
 refine Goes.ret X1 (some (.int 34)) (fun h => by rw [hret] at h; cases h) hlk (by decide) (by decide) ?_ (fun fs hr => ?_)
 ·exact ⟨rfl, N1, e1⟩
 ·exact retI X1 hx hret (hb hby d21_20) hr
theorem d22_0 : DK kc31 0 (.aload_n 0) 1 := by decide +kernel
theorem d22_1 : DK kc31 1 (.getfield 15) 3 := by decide +kernel
theorem d22_4 : DK kc31 4 .arraylength 1 := by decide +kernel
theorem d22_5 : DK kc31 5 (.istore_n 2) 1 := by decide +kernel
theorem d22_6 : DK kc31 6 (.iload_n 1) 1 := by decide +kernel
theorem d22_7 : DK kc31 7 (.aload_n 0) 1 := by decide +kernel
theorem d22_8 : DK kc31 8 (.getfield 22) 3 := by decide +kernel
theorem d22_11 : DK kc31 11 .ishl 1 := by decide +kernel
theorem d22_12 : DK kc31 12 (.istore_n 3) 1 := by decide +kernel
theorem d22_13 : DK kc31 13 (.iload_n 3) 1 := by decide +kernel
theorem d22_14 : DK kc31 14 (.iload_n 2) 1 := by decide +kernel
theorem d22_15 : DK kc31 15 .isub 1 := by decide +kernel
theorem d22_16 : DK kc31 16 (.istore 4) 2 := by decide +kernel
theorem d22_18 : DK kc31 18 (.iload_n 2) 1 := by decide +kernel
theorem d22_19 : DK kc31 19 (.iload 4) 2 := by decide +kernel
theorem d22_21 : DK kc31 21 (.iload_n 2) 1 := by decide +kernel
theorem d22_22 : DK kc31 22 (.iconst 2) 1 := by decide +kernel
theorem d22_23 : DK kc31 23 (.aload_n 0) 1 := by decide +kernel
theorem d22_24 : DK kc31 24 (.getfield 22) 3 := by decide +kernel
theorem d22_27 : DK kc31 27 .ishl 1 := by decide +kernel
theorem d22_28 : DK kc31 28 .iadd 1 := by decide +kernel
theorem d22_29 : DK kc31 29 (.invokestatic 114) 3 := by decide +kernel
theorem own_pd15 : parseMethodDescriptor "(III)I" = some ⟨[.int, .int, .int], some .int⟩ := by decide +kernel
theorem d22_32 : DK kc31 32 (.istore 5) 2 := by decide +kernel
theorem d22_34 : DK kc31 34 (.iload 5) 2 := by decide +kernel
theorem d22_36 : DK kc31 36 (.ldc 39) 2 := by decide +kernel
theorem d22_38 : DK kc31 38 (.if_icmp .ne 13) 3 := by decide +kernel
theorem d22_51 : DK kc31 51 (.iload 5) 2 := by decide +kernel
theorem d22_53 : DK kc31 53 (.aload_n 0) 1 := by decide +kernel
theorem d22_54 : DK kc31 54 (.getfield 22) 3 := by decide +kernel
theorem d22_57 : DK kc31 57 .ishr 1 := by decide +kernel
theorem d22_58 : DK kc31 58 .ireturn 1 := by decide +kernel
theorem own_ef_rm_nc (m : MethodId) (x0 : Addr) : entryFrame m #[(.ref x0), (.int 17)] 6 = mkF m 0 #[vr x0, vi 17, vu, vu, vu, vu] [] := by first | (simp [entryFrame, mkF, argsToLocals, Value.category]; done) | rfl
def Q_rm_nc (Z : State) (a : Addr) (b : Addr) (kb : ClassId) (ys : List Int32) (h0 : Heap) (n0 : Nat) (v : Option Value) (h : Heap) (L : List Loc) : Prop := v = some (.int 34) ∧ Fr n0 L ∧ h = h0
theorem rm_nc (l : Launch) (Z : State) (a0 : Array Value) (hw : HW a0 Z) (ws : List Jvm.Cond) (a : Addr) (b : Addr) (kb : ClassId) (ys : List Int32) (h0 : Heap) (n0 : Nat) (Z0 : n0 ≤ h0.size) (F_value_a : Fld Z h0 a "java/lang/AbstractStringBuilder" "value" "[B" (.ref b)) (F_coder_a : Fld Z h0 a "java/lang/AbstractStringBuilder" "coder" "B" (.int 0)) (V_b : Arv Z h0 b kb .byte 16 (latV ys) (.int 0)) :
  Met l Z mN22 jdk_68_method_10_code 6 (some .int) ({ frames := 2, cells := 0, slots := 0, locals := 29 } : Room) ws #[(.ref a), (.int 17)] h0 (Q_rm_nc Z a b kb ys h0 n0) := by
 refine own_met (plainFor_of_name own_pn4) ?_
 intro p e s m below meth c s₁ hret hx hby hlk hml hown hnm X0 e0 hZ hh
 have N0 := Fr.nil n0
 refine Gz (castTop (own_ef_rm_nc m a)) ?_
 show Goes _ _ _ _ _ (fT s₁ m 0 #[vr a, vi 17, vu, vu, vu, vu] [])
 refine gA X0 hx hby d22_0 rfl rfl rfl ?_
 obtain ⟨T1, X1, e1, st1⟩ := getF X0 hx hZ hown (host := "") (Or.inl (gw hw 27 rfl)) Via.refl e0 F_value_a (g := (mkF m 1 #[vr a, vi 17, vu, vu, vu, vu] [(.ref a)])) rfl rfl (hb hby d22_1)
 refine Gs st1 ?_
 show Goes _ _ _ _ _ (fT T1 m 4 #[vr a, vi 17, vu, vu, vu, vu] [(.ref b)])
 obtain ⟨cl2, Ar2, -, S2, N2z, -, -⟩ := id V_b
 refine Gs (fun _ tk => X1.arraylength hx (by rw [e1]; exact Ar2.1) (State.isArrayOf_alike hZ.alike Ar2.2.1) (g := (mkF m 4 #[vr a, vi 17, vu, vu, vu, vu] [(.ref b)])) rfl rfl (hb hby d22_4) _ tk) ?_
 rw [len_of S2 N2z]
 show Goes _ _ _ _ _ (fT T1 m 5 #[vr a, vi 17, vu, vu, vu, vu] [(.int 16)])
 refine gs X1 hx hby d22_5 #[vr a, vi 17, vi 16, vu, vu, vu] ?_
 refine gN X1 hx hby d22_6 rfl rfl ?_
 refine gA X1 hx hby d22_7 rfl rfl rfl ?_
 obtain ⟨T3, X3, e3, st3⟩ := getF X1 hx hZ hown (host := "") (Or.inl (gw hw 29 rfl)) Via.refl e1 F_coder_a (g := (mkF m 8 #[vr a, vi 17, vi 16, vu, vu, vu] [(.ref a), (.int 17)])) rfl rfl (hb hby d22_8)
 refine Gs st3 ?_
 show Goes _ _ _ _ _ (fT T3 m 11 #[vr a, vi 17, vi 16, vu, vu, vu] [(.int 0), (.int 17)])
 refine Gz (XS.ishl X3.here hx rfl (hb hby d22_11) rfl) ?_
 show Goes _ _ _ _ _ (fT T3 m 12 #[vr a, vi 17, vi 16, vu, vu, vu] [(.int 17)])
 refine gs X3 hx hby d22_12 #[vr a, vi 17, vi 16, vi 17, vu, vu] ?_
 refine gN X3 hx hby d22_13 rfl rfl ?_
 refine gN X3 hx hby d22_14 rfl rfl ?_
 show Goes _ _ _ _ _ (fT T3 m 15 #[vr a, vi 17, vi 16, vi 17, vu, vu] [(.int 16), (.int 17)])
 refine Gz (XS.isub X3.here hx rfl (hb hby d22_15) rfl) ?_
 show Goes _ _ _ _ _ (fT T3 m 16 #[vr a, vi 17, vi 16, vi 17, vu, vu] [(.int 1)])
 refine gS X3 hx hby d22_16 #[vr a, vi 17, vi 16, vi 17, vi 1, vu] ?_
 refine gN X3 hx hby d22_18 rfl rfl ?_
 refine gI X3 hx hby d22_19 rfl rfl ?_
 refine gN X3 hx hby d22_21 rfl rfl ?_
 refine gC X3 hx hby d22_22 ?_
 refine gA X3 hx hby d22_23 rfl rfl rfl ?_
 show Goes _ _ _ _ _ (fT T3 m 24 #[vr a, vi 17, vi 16, vi 17, vi 1, vu] [(.ref a), (.int 2), (.int 16), (.int 1), (.int 16)])
 obtain ⟨T4, X4, e4, st4⟩ := getF X3 hx hZ hown (host := "") (Or.inl (gw hw 29 rfl)) Via.refl e3 F_coder_a (g := (mkF m 24 #[vr a, vi 17, vi 16, vi 17, vi 1, vu] [(.ref a), (.int 2), (.int 16), (.int 1), (.int 16)])) rfl rfl (hb hby d22_24)
 refine Gs st4 ?_
 show Goes _ _ _ _ _ (fT T4 m 27 #[vr a, vi 17, vi 16, vi 17, vi 1, vu] [(.int 0), (.int 2), (.int 16), (.int 1), (.int 16)])
 refine Gz (XS.ishl X4.here hx rfl (hb hby d22_27) rfl) ?_
 show Goes _ _ _ _ _ (fT T4 m 28 #[vr a, vi 17, vi 16, vi 17, vi 1, vu] [(.int 2), (.int 16), (.int 1), (.int 16)])
 refine Gz (XS.iadd X4.here hx rfl (hb hby d22_28) rfl) ?_
 show Goes _ _ _ _ _ (fT T4 m 29 #[vr a, vi 17, vi 16, vi 17, vi 1, vu] [(.int 18), (.int 1), (.int 16)])
 refine cS X4 hx hZ hw hown hby hml e4 mN21 238 239 241 240 0 (rm_nl l Z a0 hw []  h0 n0 Z0) d22_29 (lenOf own_pd15 rfl) N0 (fun T5 L5 X5 e5 N5 => ?_)
 show Goes _ _ _ _ _ (fT T5 m 32 #[vr a, vi 17, vi 16, vi 17, vi 1, vu] [(.int 34)])
 refine gS X5 hx hby d22_32 #[vr a, vi 17, vi 16, vi 17, vi 1, vi 34] ?_
 refine gI X5 hx hby d22_34 rfl rfl ?_
 refine Gz (Jvm.Stand.ldcI X5 hx hown (gz hZ hw 246 rfl) rfl (hb hby d22_36)) ?_
 show Goes _ _ _ _ _ (fT T5 m 38 #[vr a, vi 17, vi 16, vi 17, vi 1, vi 34] [(.int 2147483647), (.int 34)])
 refine gY X5 hx hby d22_38 38 51 (feq (by decide : ¬ ((34 : Int32) = (2147483647 : Int32)))).2 ?_
 refine gI X5 hx hby d22_51 rfl rfl ?_
 refine gA X5 hx hby d22_53 rfl rfl rfl ?_
 obtain ⟨T6, X6, e6, st6⟩ := getF X5 hx hZ hown (host := "") (Or.inl (gw hw 29 rfl)) Via.refl e5 F_coder_a (g := (mkF m 54 #[vr a, vi 17, vi 16, vi 17, vi 1, vi 34] [(.ref a), (.int 34)])) rfl rfl (hb hby d22_54)
 refine Gs st6 ?_
 show Goes _ _ _ _ _ (fT T6 m 57 #[vr a, vi 17, vi 16, vi 17, vi 1, vi 34] [(.int 0), (.int 34)])
 refine Gz (XS.ishr X6.here hx rfl (hb hby d22_57) rfl) ?_
 show Goes _ _ _ _ _ (fT T6 m 58 #[vr a, vi 17, vi 16, vi 17, vi 1, vi 34] [(.int 34)])
 refine Goes.ret X6 (some (.int 34)) (fun h => by rw [hret] at h; cases h) hlk (by decide) (by decide) ?_ (fun fs hr => ?_)
 ·exact ⟨rfl, N5, e6⟩
 ·exact retI X6 hx hret (hb hby d22_58) hr
theorem d23_0 : DK kc1 0 (.iload_n 0) 1 := by decide +kernel
theorem d23_1 : DK kc1 1 (.iload_n 1) 1 := by decide +kernel
theorem d23_2 : DK kc1 2 (.if_icmp .gt 7) 3 := by decide +kernel
theorem d23_5 : DK kc1 5 (.iload_n 0) 1 := by decide +kernel
theorem d23_6 : DK kc1 6 (.goto 4) 3 := by decide +kernel
theorem d23_10 : DK kc1 10 .ireturn 1 := by decide +kernel
theorem own_ef_rm_mn16 (m : MethodId)  : entryFrame m #[(.int 16), (.int 34)] 2 = mkF m 0 #[vi 16, vi 34] [] := by first | (simp [entryFrame, mkF, argsToLocals, Value.category]; done) | rfl
def Q_rm_mn16 (Z : State)  (h0 : Heap) (n0 : Nat) (v : Option Value) (h : Heap) (L : List Loc) : Prop := v = some (.int 16) ∧ Fr n0 L ∧ h = h0
theorem rm_mn16 (l : Launch) (Z : State) (a0 : Array Value) (hw : HW a0 Z) (ws : List Jvm.Cond)  (h0 : Heap) (n0 : Nat) (Z0 : n0 ≤ h0.size) :
  Met l Z mN23 jdk_29_method_69_code 2 (some .int) ({ frames := 0, cells := 0, slots := 0, locals := 0 } : Room) ws #[(.int 16), (.int 34)] h0 (Q_rm_mn16 Z  h0 n0) := by
 refine own_met (Jvm.Free.JP.mathPlain rfl (by decide +kernel)) ?_
 intro p e s m below meth c s₁ hret hx hby hlk hml hown hnm X0 e0 hZ hh
 have N0 := Fr.nil n0
 refine Gz (castTop (own_ef_rm_mn16 m )) ?_
 show Goes _ _ _ _ _ (fT s₁ m 0 #[vi 16, vi 34] [])
 refine gN X0 hx hby d23_0 rfl rfl ?_
 refine gN X0 hx hby d23_1 rfl rfl ?_
 refine gU X0 hx hby d23_2 (flt (by decide : ¬ ((34 : Int32) < (16 : Int32)))).2.2.1 ?_
 refine gN X0 hx hby d23_5 rfl rfl ?_
 refine gG X0 hx hby d23_6 6 10 ?_
 refine Goes.ret X0 (some (.int 16)) (fun h => by rw [hret] at h; cases h) hlk (by decide) (by decide) ?_ (fun fs hr => ?_)
 ·exact ⟨rfl, N0, e0⟩
 ·exact retI X0 hx hret (hb hby d23_10) hr
theorem d24_0 : DK kc22 0 (.iload_n 1) 1 := by decide +kernel
theorem d24_1 : DK kc22 1 (.aload_n 0) 1 := by decide +kernel
theorem d24_2 : DK kc22 2 .arraylength 1 := by decide +kernel
theorem d24_3 : DK kc22 3 (.if_icmp .ne 11) 3 := by decide +kernel
theorem d24_14 : DK kc22 14 (.iload_n 1) 1 := by decide +kernel
theorem d24_15 : DK kc22 15 (.newarray .byte) 2 := by decide +kernel
theorem d24_17 : DK kc22 17 (.astore_n 2) 1 := by decide +kernel
theorem d24_18 : DK kc22 18 (.aload_n 0) 1 := by decide +kernel
theorem d24_19 : DK kc22 19 (.iconst 0) 1 := by decide +kernel
theorem d24_20 : DK kc22 20 (.aload_n 2) 1 := by decide +kernel
theorem d24_21 : DK kc22 21 (.iconst 0) 1 := by decide +kernel
theorem d24_22 : DK kc22 22 (.aload_n 0) 1 := by decide +kernel
theorem d24_23 : DK kc22 23 .arraylength 1 := by decide +kernel
theorem d24_24 : DK kc22 24 (.iload_n 1) 1 := by decide +kernel
theorem d24_25 : DK kc22 25 (.invokestatic 304) 3 := by decide +kernel
theorem d24_28 : DK kc22 28 (.invokestatic 150) 3 := by decide +kernel
theorem d24_31 : DK kc22 31 (.aload_n 2) 1 := by decide +kernel
theorem d24_32 : DK kc22 32 .areturn 1 := by decide +kernel
theorem own_pn7 : plainName "java/util/Arrays" = true := by first | (simp [plainName, overriddenIn]; done) | decide +kernel
theorem own_ef_rm_co (m : MethodId) (x0 : Addr) : entryFrame m #[(.ref x0), (.int 34)] 3 = mkF m 0 #[vr x0, vi 34, vu] [] := by first | (simp [entryFrame, mkF, argsToLocals, Value.category]; done) | rfl
def Q_rm_co (Z : State) (b : Addr) (kb : ClassId) (ys : List Int32) (h0 : Heap) (n0 : Nat) (v : Option Value) (h : Heap) (L : List Loc) : Prop := ∃ y : Addr, ∃ ky : ClassId, v = some (.ref y) ∧ Fr n0 L ∧ Keep h0 h [] ∧ Arv Z h y ky .byte 34 (latV ys) (.int 0) ∧ n0 ≤ y ∧ h0.size ≤ y
theorem rm_co (l : Launch) (Z : State) (a0 : Array Value) (hw : HW a0 Z) (ws : List Jvm.Cond) (b : Addr) (kb : ClassId) (ys : List Int32) (h0 : Heap) (n0 : Nat) (Z0 : n0 ≤ h0.size) (V_b : Arv Z h0 b kb .byte 16 (latV ys) (.int 0)) (h14 : ys.length = 14) :
  Met l Z mN24 jdk_65_method_121_code 3 (some (.array .byte)) ({ frames := 1, cells := 1, slots := 34, locals := 18 } : Room) ws #[(.ref b), (.int 34)] h0 (Q_rm_co Z b kb ys h0 n0) := by
 refine own_met (plainFor_of_name own_pn7) ?_
 intro p e s m below meth c s₁ hret hx hby hlk hml hown hnm X0 e0 hZ hh
 have N0 := Fr.nil n0
 refine Gz (castTop (own_ef_rm_co m b)) ?_
 have KP : Keep h0 h0 [] := Keep.refl _ _
 show Goes _ _ _ _ _ (fT s₁ m 0 #[vr b, vi 34, vu] [])
 refine gN X0 hx hby d24_0 rfl rfl ?_
 refine gA X0 hx hby d24_1 rfl rfl rfl ?_
 obtain ⟨cl1, Ar1, -, S1, N1z, -, -⟩ := id V_b
 refine Gs (fun _ tk => X0.arraylength hx (by rw [e0]; exact Ar1.1) (State.isArrayOf_alike hZ.alike Ar1.2.1) (g := (mkF m 2 #[vr b, vi 34, vu] [(.ref b), (.int 34)])) rfl rfl (hb hby d24_2) _ tk) ?_
 rw [len_of S1 N1z]
 show Goes _ _ _ _ _ (fT s₁ m 3 #[vr b, vi 34, vu] [(.int 16), (.int 34)])
 refine gY X0 hx hby d24_3 3 14 (feq (by decide : ¬ ((34 : Int32) = (16 : Int32)))).2 ?_
 refine gN X0 hx hby d24_14 rfl rfl ?_
 obtain ⟨T2, h2, k2, X2, e2, E2, A2, st2⟩ := newP X0 hx hZ (gw hw 26 rfl) e0 (g := (mkF m 15 #[vr b, vi 34, vu] [(.int 34)])) rfl (hb hby d24_15) rfl (by decide) (cap := 34) (by decide) (by decide) (by decide) (by decide)
 obtain ⟨b2, gq2⟩ : ∃ z, z = h0.size := ⟨_, rfl⟩
 rw [← gq2] at A2 st2
 have g_b2 : n0 ≤ b2 := by rw [gq2]; exact Z0
 have sz_b2 : h0.size ≤ b2 := by rw [gq2]; exact KP.1
 replace V_b := V_b.ext E2
 replace KP := KP.ext E2
 replace Z0 : n0 ≤ h2.size := Nat.le_trans Z0 E2.1
 have V_b2 : Arv Z h2 b2 k2 .byte 34 [(.int 0), (.int 0), (.int 0), (.int 0), (.int 0), (.int 0), (.int 0), (.int 0), (.int 0), (.int 0), (.int 0), (.int 0), (.int 0), (.int 0), (.int 0), (.int 0), (.int 0), (.int 0), (.int 0), (.int 0), (.int 0), (.int 0), (.int 0), (.int 0), (.int 0), (.int 0), (.int 0), (.int 0), (.int 0), (.int 0), (.int 0), (.int 0), (.int 0), (.int 0)] (.int 0) := (Arv.new A2 (by decide)).pad (pad_rep [] (.int 0) 34)
 refine Gs st2 ?_
 show Goes _ _ _ _ _ (fT T2 m 17 #[vr b, vi 34, vu] [(.ref b2)])
 refine Gz (XS.astoreN X2.here hx rfl (hb hby d24_17) rfl rfl (l' := #[vr b, vi 34, vr b2]) rfl) ?_
 refine gA X2 hx hby d24_18 rfl rfl rfl ?_
 refine gC X2 hx hby d24_19 ?_
 refine gA X2 hx hby d24_20 rfl rfl rfl ?_
 refine gC X2 hx hby d24_21 ?_
 refine gA X2 hx hby d24_22 rfl rfl rfl ?_
 show Goes _ _ _ _ _ (fT T2 m 23 #[vr b, vi 34, vr b2] [(.ref b), (.int 0), (.ref b2), (.int 0), (.ref b)])
 obtain ⟨cl3, Ar3, -, S3, N3z, -, -⟩ := id V_b
 refine Gs (fun _ tk => X2.arraylength hx (by rw [e2]; exact Ar3.1) (State.isArrayOf_alike hZ.alike Ar3.2.1) (g := (mkF m 23 #[vr b, vi 34, vr b2] [(.ref b), (.int 0), (.ref b2), (.int 0), (.ref b)])) rfl rfl (hb hby d24_23) _ tk) ?_
 rw [len_of S3 N3z]
 show Goes _ _ _ _ _ (fT T2 m 24 #[vr b, vi 34, vr b2] [(.int 16), (.int 0), (.ref b2), (.int 0), (.ref b)])
 refine gN X2 hx hby d24_24 rfl rfl ?_
 refine cS X2 hx hZ hw hown hby hml e2 mN23 165 166 168 167 4 (rm_mn16 l Z a0 hw []  h2 n0 Z0) d24_25 (lenOf own_pd14 rfl) N0 (fun T4 L4 X4 e4 N4 => ?_)
 show Goes _ _ _ _ _ (fT T4 m 28 #[vr b, vi 34, vr b2] [(.int 16), (.int 0), (.ref b2), (.int 0), (.ref b)])
 replace V_b2 : Arv Z h2 b2 k2 .byte 34 (List.replicate 34 (.int 0)) (.int 0) := V_b2
 have tn0 : (0 : Int32).toNatClampNeg = 0 := by decide
 have e16 : (16 : Int32).toNatClampNeg = 16 := by decide
 obtain ⟨T5, h5, L5, X5, e5, N5, K5, Vn5, st5⟩ := cpA X4 hx hZ hown (gw hw 169 rfl) (gw hw 111 rfl) (gw hw 109 rfl) (gw hw 110 rfl) e4 V_b V_b2 (us := (latV ys ++ List.replicate 2 (.int 0))) (Or.inl ⟨rfl, rfl⟩) (by decide) (by decide) (by decide) (by decide) (by decide) (by rw [tn0, e16]; have q := own_rgP ys 2; rw [h14] at q; exact q) (by decide) N4 g_b2 (g := (mkF m 28 #[vr b, vi 34, vr b2] [(.int 16), (.int 0), (.ref b2), (.int 0), (.ref b)])) rfl hml.symm rfl (hb hby d24_28) (by decide) (W := 0) (wz rfl) (by decide)
 replace KP := KP.trans K5 (allS (Or.inr sz_b2) all0)
 replace Z0 := Nat.le_trans Z0 K5.1
 have V_b2 : Arv Z h5 b2 _ .byte 34 (latV ys ++ List.replicate 20 (.int 0)) (.int 0) := own_arvE Vn5 (by rw [tn0, e16, List.take_zero, List.nil_append, List.append_assoc]; rfl)
 refine Gs st5 ?_
 show Goes _ _ _ _ _ (fT T5 m 31 #[vr b, vi 34, vr b2] [])
 replace V_b2 := own_unpA V_b2
 refine gA X5 hx hby d24_31 rfl rfl rfl ?_
 refine Goes.ret X5 (some (.ref b2)) (fun h => by rw [hret] at h; cases h) hlk (by decide) (by decide) ?_ (fun fs hr => ?_)
 ·rw [e5]; exact ⟨b2, k2, rfl, N5, KP, V_b2, g_b2, sz_b2⟩
 ·exact own_retA X5 hx hret rfl rfl (hb hby d24_32) hr
theorem d12_17 : DK kc40 17 (.aload_n 0) 1 := by decide +kernel
theorem d12_18 : DK kc40 18 (.aload_n 0) 1 := by decide +kernel
theorem d12_19 : DK kc40 19 (.getfield 15) 3 := by decide +kernel
theorem d12_22 : DK kc40 22 (.aload_n 0) 1 := by decide +kernel
theorem d12_23 : DK kc40 23 (.iload_n 1) 1 := by decide +kernel
theorem d12_24 : DK kc40 24 (.invokevirtual 104) 3 := by decide +kernel
theorem own_pd16 : parseMethodDescriptor "(I)I" = some ⟨[.int], some .int⟩ := by decide +kernel
theorem d12_27 : DK kc40 27 (.aload_n 0) 1 := by decide +kernel
theorem d12_28 : DK kc40 28 (.getfield 22) 3 := by decide +kernel
theorem d12_31 : DK kc40 31 .ishl 1 := by decide +kernel
theorem d12_32 : DK kc40 32 (.invokestatic 108) 3 := by decide +kernel
theorem own_pd17 : parseMethodDescriptor "([BI)[B" = some ⟨[(.array .byte), .int], some (.array .byte)⟩ := by decide +kernel
theorem d12_35 : DK kc40 35 (.putfield 15) 3 := by decide +kernel
theorem own_ef_rm_ecg (m : MethodId) (x0 : Addr) : entryFrame m #[(.ref x0), (.int 17)] 3 = mkF m 0 #[vr x0, vi 17, vu] [] := by first | (simp [entryFrame, mkF, argsToLocals, Value.category]; done) | rfl
def Q_rm_ecg (Z : State) (a : Addr) (b : Addr) (kb : ClassId) (ys : List Int32) (h0 : Heap) (n0 : Nat) (v : Option Value) (h : Heap) (L : List Loc) : Prop := ∃ y : Addr, ∃ ky : ClassId, v = none ∧ Fr n0 L ∧ Keep h0 h [a] ∧ Fld Z h a "java/lang/AbstractStringBuilder" "value" "[B" (.ref y) ∧ Fld Z h a "java/lang/AbstractStringBuilder" "coder" "B" (.int 0) ∧ Fld Z h a "java/lang/AbstractStringBuilder" "count" "I" (.int (Int32.ofNat 14)) ∧ Arv Z h y ky .byte 34 (latV ys) (.int 0) ∧ n0 ≤ y ∧ h0.size ≤ y
theorem rm_ecg (l : Launch) (Z : State) (a0 : Array Value) (hw : HW a0 Z) (ws : List Jvm.Cond) (a : Addr) (b : Addr) (kb : ClassId) (ys : List Int32) (h0 : Heap) (n0 : Nat) (Z0 : n0 ≤ h0.size) (A_a : Exa Z h0 a "java/lang/StringBuilder") (F_value_a : Fld Z h0 a "java/lang/AbstractStringBuilder" "value" "[B" (.ref b)) (F_coder_a : Fld Z h0 a "java/lang/AbstractStringBuilder" "coder" "B" (.int 0)) (V_b : Arv Z h0 b kb .byte 16 (latV ys) (.int 0)) (F_count_a : Fld Z h0 a "java/lang/AbstractStringBuilder" "count" "I" (.int (Int32.ofNat 14))) (g_a : n0 ≤ a) (h14 : ys.length = 14) :
  Met l Z mN12 jdk_68_method_9_code 3 none ({ frames := 3, cells := 1, slots := 34, locals := 48 } : Room) ws #[(.ref a), (.int 17)] h0 (Q_rm_ecg Z a b kb ys h0 n0) := by
 refine own_met (plainFor_of_name own_pn4) ?_
 intro p e s m below meth c s₁ hret hx hby hlk hml hown hnm X0 e0 hZ hh
 have N0 := Fr.nil n0
 refine Gz (castTop (own_ef_rm_ecg m a)) ?_
 have KP : Keep h0 h0 [a] := Keep.refl _ _
 show Goes _ _ _ _ _ (fT s₁ m 0 #[vr a, vi 17, vu] [])
 refine gA X0 hx hby d12_0 rfl rfl rfl ?_
 obtain ⟨T1, X1, e1, st1⟩ := getF X0 hx hZ hown (host := "") (Or.inl (gw hw 27 rfl)) Via.refl e0 F_value_a (g := (mkF m 1 #[vr a, vi 17, vu] [(.ref a)])) rfl rfl (hb hby d12_1)
 refine Gs st1 ?_
 show Goes _ _ _ _ _ (fT T1 m 4 #[vr a, vi 17, vu] [(.ref b)])
 obtain ⟨cl2, Ar2, -, S2, N2z, -, -⟩ := id V_b
 refine Gs (fun _ tk => X1.arraylength hx (by rw [e1]; exact Ar2.1) (State.isArrayOf_alike hZ.alike Ar2.2.1) (g := (mkF m 4 #[vr a, vi 17, vu] [(.ref b)])) rfl rfl (hb hby d12_4) _ tk) ?_
 rw [len_of S2 N2z]
 show Goes _ _ _ _ _ (fT T1 m 5 #[vr a, vi 17, vu] [(.int 16)])
 refine gA X1 hx hby d12_5 rfl rfl rfl ?_
 obtain ⟨T3, X3, e3, st3⟩ := getF X1 hx hZ hown (host := "") (Or.inl (gw hw 29 rfl)) Via.refl e1 F_coder_a (g := (mkF m 6 #[vr a, vi 17, vu] [(.ref a), (.int 16)])) rfl rfl (hb hby d12_6)
 refine Gs st3 ?_
 show Goes _ _ _ _ _ (fT T3 m 9 #[vr a, vi 17, vu] [(.int 0), (.int 16)])
 refine Gz (XS.ishr X3.here hx rfl (hb hby d12_9) rfl) ?_
 show Goes _ _ _ _ _ (fT T3 m 10 #[vr a, vi 17, vu] [(.int 16)])
 refine gs X3 hx hby d12_10 #[vr a, vi 17, vi 16] ?_
 refine gN X3 hx hby d12_11 rfl rfl ?_
 refine gN X3 hx hby d12_12 rfl rfl ?_
 show Goes _ _ _ _ _ (fT T3 m 13 #[vr a, vi 17, vi 16] [(.int 16), (.int 17)])
 refine Gz (XS.isub X3.here hx rfl (hb hby d12_13) rfl) ?_
 show Goes _ _ _ _ _ (fT T3 m 14 #[vr a, vi 17, vi 16] [(.int 1)])
 refine gu X3 hx hby d12_14 ((if0 _ _).trans (tlt (by decide : ((0 : Int32) < (1 : Int32)))).2.2.2) ?_
 refine gA X3 hx hby d12_17 rfl rfl rfl ?_
 refine gA X3 hx hby d12_18 rfl rfl rfl ?_
 obtain ⟨T4, X4, e4, st4⟩ := getF X3 hx hZ hown (host := "") (Or.inl (gw hw 27 rfl)) Via.refl e3 F_value_a (g := (mkF m 19 #[vr a, vi 17, vi 16] [(.ref a), (.ref a)])) rfl rfl (hb hby d12_19)
 refine Gs st4 ?_
 show Goes _ _ _ _ _ (fT T4 m 22 #[vr a, vi 17, vi 16] [(.ref b), (.ref a)])
 refine gA X4 hx hby d12_22 rfl rfl rfl ?_
 refine gN X4 hx hby d12_23 rfl rfl ?_
 obtain ⟨cq5, q5, q5'⟩ := A_a.cell
 obtain ⟨_, _, ⟨T5, L5, k5, n5⟩, -, X5, ⟨Lc5, hQ5, l5, y5, z5⟩, st5⟩ := X4.privateBack hx (y := mN22) hown (gz hZ hw 233 rfl) (gz hZ hw 234 rfl) (own_selQ hZ (gw hw 51 rfl) (gw hw 235 rfl) (gw hw 234 rfl) (by decide)) (Cond.privateMethod_at (mvP hZ (gw hw 235 rfl) (args := #[]))) (gz hZ hw 237 rfl) (by decide) (backOf (W := 2) (rm_nc l Z a0 hw [] a b kb ys h0 n0 Z0 F_value_a F_coder_a V_b) hZ (gw hw 237 rfl) (gw hw 19 rfl) (by decide) (by decide)) (g := (mkF m 24 #[vr a, vi 17, vi 16] [(.int 17), (.ref a), (.ref b), (.ref a)])) rfl hml.symm (Steps.refl _) (a := a) (by rw [e4]; exact q5) q5' (argsL := [(.int 17)]) (rest := [(.ref b), (.ref a)]) (lenOf own_pd16 rfl) rfl (wz rfl) (hb hby d12_24) (fun _ _ => ⟨rfl, e4, z0, z0⟩)
 dsimp only [Pt.U, Pt.locs, Pt.cells, Pt.slots] at X5 l5 y5 z5 st5 hQ5
 subst l5 y5 z5
 obtain ⟨rfl, N5q, e5⟩ := hQ5
 have N5 := Fr.app N0 N5q
 refine Gs (fun _ tk => st5.trans tk) ?_
 show Goes _ _ _ _ _ (fT T5 m 27 #[vr a, vi 17, vi 16] [(.int 34), (.ref b), (.ref a)])
 refine gA X5 hx hby d12_27 rfl rfl rfl ?_
 obtain ⟨T6, X6, e6, st6⟩ := getF X5 hx hZ hown (host := "") (Or.inl (gw hw 29 rfl)) Via.refl e5 F_coder_a (g := (mkF m 28 #[vr a, vi 17, vi 16] [(.ref a), (.int 34), (.ref b), (.ref a)])) rfl rfl (hb hby d12_28)
 refine Gs st6 ?_
 show Goes _ _ _ _ _ (fT T6 m 31 #[vr a, vi 17, vi 16] [(.int 0), (.int 34), (.ref b), (.ref a)])
 refine Gz (XS.ishl X6.here hx rfl (hb hby d12_31) rfl) ?_
 show Goes _ _ _ _ _ (fT T6 m 32 #[vr a, vi 17, vi 16] [(.int 34), (.ref b), (.ref a)])
 have ltc7_a : a < h0.size := A_a.lt
 have ltc7_b : b < h0.size := V_b.lt
 have szs7 : h0.size ≤ h0.size := KP.1
 refine cSg X6 hx hZ hw hown hby hml e6 mN24 247 248 249 157 1 (rm_co l Z a0 hw [] b kb ys h0 n0 Z0 V_b h14) d12_32 (lenOf own_pd17 rfl) (fun _ T7 L7 X7 hQ7 => ?_)
 obtain ⟨y7, ky7, rfl, N7q, K7, V_y7_7', g_y7_7', sz_y7_7'⟩ := hQ7
 have N7 := Fr.app N5 N7q
 replace A_a := A_a.keep K7
 replace F_value_a := F_value_a.keep K7 nin0
 replace F_coder_a := F_coder_a.keep K7 nin0
 replace F_count_a := F_count_a.keep K7 nin0
 replace KP := KP.trans K7 all0
 replace Z0 := Nat.le_trans Z0 K7.1
 have V_y7 := V_y7_7'
 have g_y7 := g_y7_7'
 have szc_y7 := sz_y7_7'
 have ne_a_y7 : a ≠ y7 := Nat.ne_of_lt (Nat.lt_of_lt_of_le ltc7_a szc_y7)
 have ne_b_y7 : b ≠ y7 := Nat.ne_of_lt (Nat.lt_of_lt_of_le ltc7_b szc_y7)
 have sz_y7 : h0.size ≤ y7 := Nat.le_trans szs7 szc_y7
 show Goes _ _ _ _ _ (fT T7 m 35 #[vr a, vi 17, vi 16] [(.ref y7), (.ref a)])
 obtain ⟨T8, h8, X8, e8, W8, st8⟩ := putF X7 hx hZ hown (host := "") (Or.inl (gw hw 27 rfl)) Via.refl rfl F_value_a A_a (Or.inl (gw hw 28 rfl)) (gw hw 10 rfl) (ty := (.array .byte)) (by decide) rfl rfl (g := (mkF m 35 #[vr a, vi 17, vi 16] [(.ref y7), (.ref a)])) rfl rfl (hb hby d12_35)
 have N8 := Fr.snoc X8 N7 g_a
 replace F_coder_a := F_coder_a.other W8 (Or.inr (slot_ne (Or.inl (gw hw 30 rfl)) (Or.inl (gw hw 28 rfl)) (by decide) (t := .byte) (t' := (.array .byte)) (by decide) (by decide)))
 replace F_count_a := F_count_a.other W8 (Or.inr (slot_ne (Or.inl (gw hw 42 rfl)) (Or.inl (gw hw 28 rfl)) (by decide) (t := .int) (t' := (.array .byte)) (by decide) (by decide)))
 replace V_y7 := V_y7.other W8 (Ne.symm ne_a_y7)
 replace KP := KP.wr W8 (Or.inl (List.mem_of_getElem? (i := 0) rfl))
 replace F_value_a := F_value_a.same W8
 replace Z0 : n0 ≤ h8.size := by rw [W8.size]; exact Z0
 refine Gs st8 ?_
 show Goes _ _ _ _ _ (fT T8 m 38 #[vr a, vi 17, vi 16] [])
 refine Goes.ret X8 none (fun _ => rfl) hlk (by decide) (by decide) ?_ (fun fs hr => ?_)
 ·rw [e8]; exact ⟨y7, ky7, rfl, N8, KP, F_value_a, F_coder_a, F_count_a, V_y7, g_y7, sz_y7⟩
 ·exact X8.returnOut hx hret (hb hby d12_38) hr
theorem own_ef_rm_ag (m : MethodId) (x0 : Addr) (x1 : Addr) : entryFrame m #[(.ref x0), (.ref x1)] 3 = mkF m 0 #[vr x0, vr x1, vu] [] := by first | (simp [entryFrame, mkF, argsToLocals, Value.category]; done) | rfl
def Q_rm_ag (Z : State) (a : Addr) (x : Addr) (xs : List Int32) (b : Addr) (kb : ClassId) (ys : List Int32) (cz : Int32) (h0 : Heap) (n0 : Nat) (v : Option Value) (h : Heap) (L : List Loc) : Prop := ∃ y : Addr, ∃ ky : ClassId, v = some (.ref a) ∧ Fr n0 L ∧ Keep h0 h [a] ∧ Fld Z h a "java/lang/AbstractStringBuilder" "value" "[B" (.ref y) ∧ Fld Z h a "java/lang/AbstractStringBuilder" "count" "I" (.int (Int32.ofNat (14 + xs.length))) ∧ Fld Z h a "java/lang/AbstractStringBuilder" "coder" "B" (.int 0) ∧ Arv Z h y ky .byte 34 (latV (ys ++ xs)) (.int 0) ∧ n0 ≤ y ∧ h0.size ≤ y
theorem rm_ag (l : Launch) (Z : State) (a0 : Array Value) (hw : HW a0 Z) (ws : List Jvm.Cond) (a : Addr) (x : Addr) (xs : List Int32) (b : Addr) (kb : ClassId) (ys : List Int32) (cz : Int32) (h0 : Heap) (n0 : Nat) (Z0 : n0 ≤ h0.size) (A_a : Exa Z h0 a "java/lang/StringBuilder") (F_value_a : Fld Z h0 a "java/lang/AbstractStringBuilder" "value" "[B" (.ref b)) (F_count_a : Fld Z h0 a "java/lang/AbstractStringBuilder" "count" "I" (.int (Int32.ofNat 14))) (F_coder_a : Fld Z h0 a "java/lang/AbstractStringBuilder" "coder" "B" (.int 0)) (V_b : Arv Z h0 b kb .byte 16 (latV ys) (.int 0)) (T_x : StrOf Z h0 x xs) (g_a : n0 ≤ a) (ne_a_x : a ≠ x) (h14 : ys.length = 14) (h3 : xs.length = 3) (sgC : Sta Z h0 "java/lang/String" "COMPACT_STRINGS" "Z" (.int cz)) (hcz : ¬ (cz = 0)) :
  Met l Z mN18 jdk_68_method_22_code 3 (some (.object "java/lang/AbstractStringBuilder")) ({ frames := 4, cells := 1, slots := 34, locals := 62 } : Room) ws #[(.ref a), (.ref x)] h0 (Q_rm_ag Z a x xs b kb ys cz h0 n0) := by
 refine own_met (plainFor_of_name own_pn4) ?_
 intro p e s m below meth c s₁ hret hx hby hlk hml hown hnm X0 e0 hZ hh
 have N0 := Fr.nil n0
 refine Gz (castTop (own_ef_rm_ag m a x)) ?_
 have KP : Keep h0 h0 [a] := Keep.refl _ _
 show Goes _ _ _ _ _ (fT s₁ m 0 #[vr a, vr x, vu] [])
 refine gA X0 hx hby d18_0 rfl rfl rfl ?_
 refine Gz (XS.ifnonnullYes X0.here hx rfl (pc0 := 1) (pc' := 9) rfl (hb hby d18_1) rfl (by decide) (by decide)) ?_
 refine gA X0 hx hby d18_9 rfl rfl rfl ?_
 refine cV X0 hx hZ hw hown hby hml e0 mN2 79 80 82 81 83 25 0 (rs_len l Z a0 hw [] x xs cz h0 n0 Z0 T_x sgC hcz) T_x.exa d18_10 (lenOf own_pd11 rfl) N0 (fun T1 L1 X1 e1 N1 => ?_)
 show Goes _ _ _ _ _ (fT T1 m 13 #[vr a, vr x, vu] [(.int (Int32.ofNat xs.length))])
 refine gs X1 hx hby d18_13 #[vr a, vr x, vi (Int32.ofNat xs.length)] ?_
 refine gA X1 hx hby d18_14 rfl rfl rfl ?_
 refine gA X1 hx hby d18_15 rfl rfl rfl ?_
 obtain ⟨T2, X2, e2, st2⟩ := getF X1 hx hZ hown (host := "") (Or.inl (gw hw 41 rfl)) Via.refl e1 F_count_a (g := (mkF m 16 #[vr a, vr x, vi (Int32.ofNat xs.length)] [(.ref a), (.ref a)])) rfl rfl (hb hby d18_16)
 refine Gs st2 ?_
 show Goes _ _ _ _ _ (fT T2 m 19 #[vr a, vr x, vi (Int32.ofNat xs.length)] [(.int (Int32.ofNat 14)), (.ref a)])
 refine gN X2 hx hby d18_19 rfl rfl ?_
 show Goes _ _ _ _ _ (fT T2 m 20 #[vr a, vr x, vi (Int32.ofNat xs.length)] [(.int (Int32.ofNat xs.length)), (.int (Int32.ofNat 14)), (.ref a)])
 refine Gz (XS.iadd X2.here hx rfl (hb hby d18_20) rfl) ?_
 show Goes _ _ _ _ _ (fT T2 m 21 #[vr a, vr x, vi (Int32.ofNat xs.length)] [(.int ((Int32.ofNat 14) + (Int32.ofNat xs.length))), (.ref a)])
 rw [own_ofA, show (Int32.ofNat (14 + xs.length)) = 17 from by rw [h3]; rfl]
 show Goes _ _ _ _ _ (fT T2 m 21 #[vr a, vr x, vi (Int32.ofNat xs.length)] [(.int 17), (.ref a)])
 have ltc3_a : a < h0.size := A_a.lt
 have ltc3_b : b < h0.size := V_b.lt
 have ltc3_x : x < h0.size := T_x.lt
 have szs3 : h0.size ≤ h0.size := KP.1
 obtain ⟨cq3, q3, q3'⟩ := A_a.cell
 obtain ⟨_, _, ⟨T3, L3, k3, n3⟩, -, X3, ⟨Lc3, hQ3, l3, y3, z3⟩, st3⟩ := X2.privateBack hx (y := mN12) hown (gz hZ hw 48 rfl) (gz hZ hw 49 rfl) (own_selQ hZ (gw hw 51 rfl) (gw hw 50 rfl) (gw hw 49 rfl) (by decide)) (Cond.privateMethod_at (mvP hZ (gw hw 50 rfl) (args := #[]))) (gz hZ hw 52 rfl) (by decide) (backOf (W := 0) (rm_ecg l Z a0 hw [] a b kb ys h0 n0 Z0 A_a F_value_a F_coder_a V_b F_count_a g_a h14) hZ (gw hw 52 rfl) (gw hw 19 rfl) (by decide) (by decide)) (g := (mkF m 21 #[vr a, vr x, vi (Int32.ofNat xs.length)] [(.int 17), (.ref a)])) rfl hml.symm (Steps.refl _) (a := a) (by rw [e2]; exact q3) q3' (argsL := [(.int 17)]) (rest := []) (lenOf own_pd5 rfl) rfl (wz rfl) (hb hby d18_21) (fun _ _ => ⟨rfl, e2, (by decide : 0 + 1 ≤ _), (by decide : 0 + 34 ≤ _)⟩)
 dsimp only [Pt.U, Pt.locs, Pt.cells, Pt.slots] at X3 l3 y3 z3 st3 hQ3
 subst l3 y3 z3
 obtain ⟨y3, ky3, rfl, N3q, K3, F_value_a_3', F_coder_a_3', F_count_a_3', V_y3_3', g_y3_3', sz_y3_3'⟩ := hQ3
 have N3 := Fr.app N1 N3q
 replace sgC := own_staK sgC K3 (allS (own_obE A_a) all0)
 replace T_x := T_x.keep K3 (allS ⟨ne_a_x, (own_nbE A_a (gw hw 10 rfl))⟩ all0)
 replace A_a := A_a.keep K3
 replace KP := KP.trans K3 (allS (Or.inl (List.mem_of_getElem? (i := 0) rfl)) all0)
 replace Z0 := Nat.le_trans Z0 K3.1
 have F_value_a := F_value_a_3'
 have F_coder_a := F_coder_a_3'
 have F_count_a := F_count_a_3'
 have V_y3 := V_y3_3'
 have g_y3 := g_y3_3'
 have szc_y3 := sz_y3_3'
 have ne_a_y3 : a ≠ y3 := Nat.ne_of_lt (Nat.lt_of_lt_of_le ltc3_a szc_y3)
 have ne_b_y3 : b ≠ y3 := Nat.ne_of_lt (Nat.lt_of_lt_of_le ltc3_b szc_y3)
 have ne_x_y3 : x ≠ y3 := Nat.ne_of_lt (Nat.lt_of_lt_of_le ltc3_x szc_y3)
 have sz_y3 : h0.size ≤ y3 := Nat.le_trans szs3 szc_y3
 refine Gs (fun _ tk => st3.trans tk) ?_
 show Goes _ _ _ _ _ (fT T3 m 24 #[vr a, vr x, vi (Int32.ofNat xs.length)] [])
 refine gA X3 hx hby d18_24 rfl rfl rfl ?_
 refine gA X3 hx hby d18_25 rfl rfl rfl ?_
 obtain ⟨T4, X4, e4, st4⟩ := getF X3 hx hZ hown (host := "") (Or.inl (gw hw 41 rfl)) Via.refl rfl F_count_a (g := (mkF m 26 #[vr a, vr x, vi (Int32.ofNat xs.length)] [(.ref a), (.ref a)])) rfl rfl (hb hby d18_26)
 refine Gs st4 ?_
 show Goes _ _ _ _ _ (fT T4 m 29 #[vr a, vr x, vi (Int32.ofNat xs.length)] [(.int (Int32.ofNat 14)), (.ref a)])
 refine gA X4 hx hby d18_29 rfl rfl rfl ?_
 obtain ⟨cq5, q5, q5'⟩ := A_a.cell
 obtain ⟨_, _, ⟨T5, L5, k5, n5⟩, -, X5, ⟨Lc5, hQ5, l5, y5, z5⟩, st5⟩ := X4.privateBack hx (y := mN17) hown (gz hZ hw 92 rfl) (gz hZ hw 93 rfl) (own_selQ hZ (gw hw 51 rfl) (gw hw 94 rfl) (gw hw 93 rfl) (by decide)) (Cond.privateMethod_at (mvP hZ (gw hw 94 rfl) (args := #[]))) (gz hZ hw 96 rfl) (by decide) (backOf (W := 0) (rm_psa l Z a0 hw [] a x xs y3 ky3 ys 14 (34 : Int32) cz T3.heap n0 Z0 A_a F_value_a F_count_a F_coder_a V_y3 T_x g_a g_y3 ne_a_y3 h14.symm (by rw [h3]; decide) (by decide) sgC hcz) hZ (gw hw 96 rfl) (gw hw 19 rfl) (by decide) (by decide)) (g := (mkF m 30 #[vr a, vr x, vi (Int32.ofNat xs.length)] [(.ref x), (.int (Int32.ofNat 14)), (.ref a)])) rfl hml.symm (Steps.refl _) (a := a) (by rw [e4]; exact q5) q5' (argsL := [(.int (Int32.ofNat 14)), (.ref x)]) (rest := []) (lenOf own_pd12 rfl) rfl (wz rfl) (hb hby d18_30) (fun _ _ => ⟨rfl, e4, (by decide : 1 + 0 ≤ _), (by decide : 34 + 0 ≤ _)⟩)
 dsimp only [Pt.U, Pt.locs, Pt.cells, Pt.slots] at X5 l5 y5 z5 st5 hQ5
 subst l5 y5 z5
 obtain ⟨rfl, N5q, K5, V_y3_5'⟩ := hQ5
 have N5 := Fr.app N3 N5q
 replace A_a := A_a.keep K5
 replace F_value_a := F_value_a.keep K5 (ninS ne_a_y3 nin0)
 replace F_coder_a := F_coder_a.keep K5 (ninS ne_a_y3 nin0)
 replace F_count_a := F_count_a.keep K5 (ninS ne_a_y3 nin0)
 replace KP := KP.trans K5 (allS (Or.inr sz_y3) all0)
 replace Z0 := Nat.le_trans Z0 K5.1
 have V_y3 := V_y3_5'
 refine Gs (fun _ tk => st5.trans tk) ?_
 show Goes _ _ _ _ _ (fT T5 m 33 #[vr a, vr x, vi (Int32.ofNat xs.length)] [])
 refine gA X5 hx hby d18_33 rfl rfl rfl ?_
 refine Gz (XS.dup X5.here hx rfl (hb hby d18_34) rfl rfl) ?_
 obtain ⟨T6, X6, e6, st6⟩ := getF X5 hx hZ hown (host := "") (Or.inl (gw hw 41 rfl)) Via.refl rfl F_count_a (g := (mkF m 35 #[vr a, vr x, vi (Int32.ofNat xs.length)] [(.ref a), (.ref a)])) rfl rfl (hb hby d18_35)
 refine Gs st6 ?_
 show Goes _ _ _ _ _ (fT T6 m 38 #[vr a, vr x, vi (Int32.ofNat xs.length)] [(.int (Int32.ofNat 14)), (.ref a)])
 refine gN X6 hx hby d18_38 rfl rfl ?_
 show Goes _ _ _ _ _ (fT T6 m 39 #[vr a, vr x, vi (Int32.ofNat xs.length)] [(.int (Int32.ofNat xs.length)), (.int (Int32.ofNat 14)), (.ref a)])
 refine Gz (XS.iadd X6.here hx rfl (hb hby d18_39) rfl) ?_
 show Goes _ _ _ _ _ (fT T6 m 40 #[vr a, vr x, vi (Int32.ofNat xs.length)] [(.int ((Int32.ofNat 14) + (Int32.ofNat xs.length))), (.ref a)])
 rw [own_ofA]
 show Goes _ _ _ _ _ (fT T6 m 40 #[vr a, vr x, vi (Int32.ofNat xs.length)] [(.int (Int32.ofNat (14 + xs.length))), (.ref a)])
 obtain ⟨T7, h7, X7, e7, W7, st7⟩ := putF X6 hx hZ hown (host := "") (Or.inl (gw hw 41 rfl)) Via.refl e6 F_count_a A_a (Or.inl (gw hw 42 rfl)) (gw hw 10 rfl) (ty := .int) (by decide) rfl rfl (g := (mkF m 40 #[vr a, vr x, vi (Int32.ofNat xs.length)] [(.int (Int32.ofNat (14 + xs.length))), (.ref a)])) rfl rfl (hb hby d18_40)
 have N7 := Fr.snoc X7 N5 g_a
 replace F_value_a := F_value_a.other W7 (Or.inr (slot_ne (Or.inl (gw hw 28 rfl)) (Or.inl (gw hw 42 rfl)) (by decide) (t := (.array .byte)) (t' := .int) (by decide) (by decide)))
 replace F_coder_a := F_coder_a.other W7 (Or.inr (slot_ne (Or.inl (gw hw 30 rfl)) (Or.inl (gw hw 42 rfl)) (by decide) (t := .byte) (t' := .int) (by decide) (by decide)))
 replace V_y3 := V_y3.other W7 (Ne.symm ne_a_y3)
 replace KP := KP.wr W7 (Or.inl (List.mem_of_getElem? (i := 0) rfl))
 replace F_count_a := F_count_a.same W7
 replace Z0 : n0 ≤ h7.size := by rw [W7.size]; exact Z0
 refine Gs st7 ?_
 show Goes _ _ _ _ _ (fT T7 m 43 #[vr a, vr x, vi (Int32.ofNat xs.length)] [])
 refine gA X7 hx hby d18_43 rfl rfl rfl ?_
 refine Goes.ret X7 (some (.ref a)) (fun h => by rw [hret] at h; cases h) hlk (by decide) (by decide) ?_ (fun fs hr => ?_)
 ·rw [e7]; exact ⟨y3, ky3, rfl, N7, KP, F_value_a, F_count_a, F_coder_a, V_y3, g_y3, sz_y3⟩
 ·exact own_retA X7 hx hret rfl rfl (hb hby d18_44) hr
theorem own_ef_rm_sg (m : MethodId) (x0 : Addr) (x1 : Addr) : entryFrame m #[(.ref x0), (.ref x1)] 2 = mkF m 0 #[vr x0, vr x1] [] := by first | (simp [entryFrame, mkF, argsToLocals, Value.category]; done) | rfl
def Q_rm_sg (Z : State) (a : Addr) (x : Addr) (xs : List Int32) (b : Addr) (kb : ClassId) (ys : List Int32) (cz : Int32) (h0 : Heap) (n0 : Nat) (v : Option Value) (h : Heap) (L : List Loc) : Prop := ∃ y : Addr, ∃ ky : ClassId, v = some (.ref a) ∧ Fr n0 L ∧ Keep h0 h [a] ∧ Fld Z h a "java/lang/AbstractStringBuilder" "value" "[B" (.ref y) ∧ Fld Z h a "java/lang/AbstractStringBuilder" "count" "I" (.int (Int32.ofNat (14 + xs.length))) ∧ Fld Z h a "java/lang/AbstractStringBuilder" "coder" "B" (.int 0) ∧ Arv Z h y ky .byte 34 (latV (ys ++ xs)) (.int 0) ∧ n0 ≤ y ∧ h0.size ≤ y
theorem rm_sg (l : Launch) (Z : State) (a0 : Array Value) (hw : HW a0 Z) (ws : List Jvm.Cond) (a : Addr) (x : Addr) (xs : List Int32) (b : Addr) (kb : ClassId) (ys : List Int32) (cz : Int32) (h0 : Heap) (n0 : Nat) (Z0 : n0 ≤ h0.size) (A_a : Exa Z h0 a "java/lang/StringBuilder") (F_value_a : Fld Z h0 a "java/lang/AbstractStringBuilder" "value" "[B" (.ref b)) (F_count_a : Fld Z h0 a "java/lang/AbstractStringBuilder" "count" "I" (.int (Int32.ofNat 14))) (F_coder_a : Fld Z h0 a "java/lang/AbstractStringBuilder" "coder" "B" (.int 0)) (V_b : Arv Z h0 b kb .byte 16 (latV ys) (.int 0)) (T_x : StrOf Z h0 x xs) (g_a : n0 ≤ a) (ne_a_x : a ≠ x) (h14 : ys.length = 14) (h3 : xs.length = 3) (sgC : Sta Z h0 "java/lang/String" "COMPACT_STRINGS" "Z" (.int cz)) (hcz : ¬ (cz = 0)) :
  Met l Z mN19 jdk_67_method_7_code 2 (some (.object "java/lang/StringBuilder")) ({ frames := 5, cells := 1, slots := 34, locals := 76 } : Room) ws #[(.ref a), (.ref x)] h0 (Q_rm_sg Z a x xs b kb ys cz h0 n0) := by
 refine own_met (plainFor_of_name own_pn5) ?_
 intro p e s m below meth c s₁ hret hx hby hlk hml hown hnm X0 e0 hZ hh
 have N0 := Fr.nil n0
 refine Gz (castTop (own_ef_rm_sg m a x)) ?_
 have KP : Keep h0 h0 [a] := Keep.refl _ _
 show Goes _ _ _ _ _ (fT s₁ m 0 #[vr a, vr x] [])
 refine gA X0 hx hby d19_0 rfl rfl rfl ?_
 refine gA X0 hx hby d19_1 rfl rfl rfl ?_
 have ltc1_a : a < h0.size := A_a.lt
 have ltc1_b : b < h0.size := V_b.lt
 have ltc1_x : x < h0.size := T_x.lt
 have szs1 : h0.size ≤ h0.size := KP.1
 obtain ⟨_, _, ⟨T1, L1, k1, n1⟩, -, X1, ⟨Lc1, hQ1, l1, y1, z1⟩, st1⟩ := superBack X0 hx hZ (K := "java/lang/StringBuilder") (y := mN18) hown (gw hw 75 rfl) (own_sameM (gw hw 76 rfl) (gw hw 51 rfl) (by decide)) (gw hw 76 rfl) (gw hw 38 rfl) (by decide) (backOf (W := 0) (rm_ag l Z a0 hw [] a x xs b kb ys cz h0 n0 Z0 A_a F_value_a F_count_a F_coder_a V_b T_x g_a ne_a_x h14 h3 sgC hcz) hZ (gw hw 78 rfl) (gw hw 19 rfl) (by decide) (by decide)) e0 (Ins.self A_a) (g := (mkF m 2 #[vr a, vr x] [(.ref x), (.ref a)])) rfl hml.symm (gw hw 78 rfl) (argsL := [(.ref x)]) (rest := []) (lenOf own_pd13 rfl) rfl (wz rfl) (hb hby d19_2) (fun _ _ => ⟨rfl, e0, (by decide : 0 + 1 ≤ _), (by decide : 0 + 34 ≤ _)⟩)
 dsimp only [Pt.U, Pt.locs, Pt.cells, Pt.slots] at X1 l1 y1 z1 st1 hQ1
 subst l1 y1 z1
 obtain ⟨y1, ky1, rfl, N1q, K1, F_value_a_1', F_count_a_1', F_coder_a_1', V_y1_1', g_y1_1', sz_y1_1'⟩ := hQ1
 have N1 := Fr.app N0 N1q
 replace T_x := T_x.keep K1 (allS ⟨ne_a_x, (own_nbE A_a (gw hw 10 rfl))⟩ all0)
 replace KP := KP.trans K1 (allS (Or.inl (List.mem_of_getElem? (i := 0) rfl)) all0)
 replace Z0 := Nat.le_trans Z0 K1.1
 have F_value_a := F_value_a_1'
 have F_count_a := F_count_a_1'
 have F_coder_a := F_coder_a_1'
 have V_y1 := V_y1_1'
 have g_y1 := g_y1_1'
 have szc_y1 := sz_y1_1'
 have ne_a_y1 : a ≠ y1 := Nat.ne_of_lt (Nat.lt_of_lt_of_le ltc1_a szc_y1)
 have ne_b_y1 : b ≠ y1 := Nat.ne_of_lt (Nat.lt_of_lt_of_le ltc1_b szc_y1)
 have ne_x_y1 : x ≠ y1 := Nat.ne_of_lt (Nat.lt_of_lt_of_le ltc1_x szc_y1)
 have sz_y1 : h0.size ≤ y1 := Nat.le_trans szs1 szc_y1
 refine Gs (fun _ tk => st1.trans tk) ?_
 show Goes _ _ _ _ _ (fT T1 m 5 #[vr a, vr x] [(.ref a)])
 refine Gz (XS.pop X1.here hx rfl (hb hby d19_5) rfl rfl) ?_
 refine gA X1 hx hby d19_6 rfl rfl rfl ?_
 refine Goes.ret X1 (some (.ref a)) (fun h => by rw [hret] at h; cases h) hlk (by decide) (by decide) ?_ (fun fs hr => ?_)
 ·exact ⟨y1, ky1, rfl, N1, KP, F_value_a, F_count_a, F_coder_a, V_y1, g_y1, sz_y1⟩
 ·exact own_retA X1 hx hret rfl rfl (hb hby d19_7) hr
theorem d25_0 : DK kc9 0 (.aload_n 0) 1 := by decide +kernel
theorem d25_1 : DK kc9 1 (.invokespecial 1) 3 := by decide +kernel
theorem d25_4 : DK kc9 4 (.aload_n 0) 1 := by decide +kernel
theorem d25_5 : DK kc9 5 (.aload_n 1) 1 := by decide +kernel
theorem d25_6 : DK kc9 6 (.putfield 9) 3 := by decide +kernel
theorem d25_9 : DK kc9 9 (.aload_n 0) 1 := by decide +kernel
theorem d25_10 : DK kc9 10 (.iload_n 2) 1 := by decide +kernel
theorem d25_11 : DK kc9 11 (.putfield 15) 3 := by decide +kernel
theorem d25_14 : DK kc9 14 .return_ 1 := by decide +kernel
theorem own_ef_rm_ibb (m : MethodId) (x0 : Addr) (x1 : Addr) : entryFrame m #[(.ref x0), (.ref x1), (.int 0)] 3 = mkF m 0 #[vr x0, vr x1, vi 0] [] := by first | (simp [entryFrame, mkF, argsToLocals, Value.category]; done) | rfl
def Q_rm_ibb (Z : State) (a : Addr) (y : Addr) (h0 : Heap) (n0 : Nat) (v : Option Value) (h : Heap) (L : List Loc) : Prop := v = none ∧ Fr n0 L ∧ Keep h0 h [a] ∧ Fld Z h a "java/lang/String" "value" "[B" (.ref y) ∧ Fld Z h a "java/lang/String" "coder" "B" (.int 0)
theorem rm_ibb (l : Launch) (Z : State) (a0 : Array Value) (hw : HW a0 Z) (ws : List Jvm.Cond) (a : Addr) (y : Addr) (h0 : Heap) (n0 : Nat) (Z0 : n0 ≤ h0.size) (A_a : Exa Z h0 a "java/lang/String") (F_value_a : Fld Z h0 a "java/lang/String" "value" "[B" .null) (F_coder_a : Fld Z h0 a "java/lang/String" "coder" "B" (.int 0)) (g_a : n0 ≤ a) :
  Met l Z mN25 jdk_42_method_151_code 3 none ({ frames := 1, cells := 0, slots := 0, locals := 12 } : Room) ws #[(.ref a), (.ref y), (.int 0)] h0 (Q_rm_ibb Z a y h0 n0) := by
 refine own_met (plainFor_of_name own_pn0) ?_
 intro p e s m below meth c s₁ hret hx hby hlk hml hown hnm X0 e0 hZ hh
 have N0 := Fr.nil n0
 refine Gz (castTop (own_ef_rm_ibb m a y)) ?_
 have KP : Keep h0 h0 [a] := Keep.refl _ _
 show Goes _ _ _ _ _ (fT s₁ m 0 #[vr a, vr y, vi 0] [])
 refine gA X0 hx hby d25_0 rfl rfl rfl ?_
 obtain ⟨T1, X1, e1, st1⟩ := initO X0 hx hZ hown (gw hw 125 rfl) (gw hw 22 rfl) (gw hw 23 rfl) e0 (g := (mkF m 1 #[vr a, vr y, vi 0] [(.ref a)])) rfl hml.symm rfl (hb hby d25_1) (by decide) (W := 0) (wz rfl) (by decide)
 refine Gs st1 ?_
 show Goes _ _ _ _ _ (fT T1 m 4 #[vr a, vr y, vi 0] [])
 refine gA X1 hx hby d25_4 rfl rfl rfl ?_
 refine gA X1 hx hby d25_5 rfl rfl rfl ?_
 obtain ⟨T2, h2, X2, e2, W2, st2⟩ := putF X1 hx hZ hown (host := "") (Or.inl (gw hw 84 rfl)) Via.refl e1 F_value_a A_a (Or.inr ⟨(gw hw 66 rfl), rfl, hnm⟩) (gw hw 65 rfl) (ty := (.array .byte)) (by decide) rfl rfl (g := (mkF m 6 #[vr a, vr y, vi 0] [(.ref y), (.ref a)])) rfl rfl (hb hby d25_6)
 have N2 := Fr.snoc X2 N0 g_a
 replace A_a := A_a.wr W2
 replace F_coder_a := F_coder_a.other W2 (Or.inr (slot_ne (Or.inr (gw hw 67 rfl)) (Or.inr (gw hw 66 rfl)) (by decide) (t := .byte) (t' := (.array .byte)) (by decide) (by decide)))
 replace KP := KP.wr W2 (Or.inl (List.mem_of_getElem? (i := 0) rfl))
 replace F_value_a := F_value_a.same W2
 replace Z0 : n0 ≤ h2.size := by rw [W2.size]; exact Z0
 refine Gs st2 ?_
 show Goes _ _ _ _ _ (fT T2 m 9 #[vr a, vr y, vi 0] [])
 refine gA X2 hx hby d25_9 rfl rfl rfl ?_
 refine gN X2 hx hby d25_10 rfl rfl ?_
 obtain ⟨T3, h3, X3, e3, W3, st3⟩ := putFN X2 hx hZ hown (gw hw 91 rfl) Via.refl e2 F_coder_a A_a (Or.inr ⟨(gw hw 67 rfl), rfl, hnm⟩) (gw hw 65 rfl) (ty := .byte) (v' := .int 0) (by decide) rfl rfl (g := (mkF m 11 #[vr a, vr y, vi 0] [(.int 0), (.ref a)])) rfl rfl (hb hby d25_11)
 have N3 := Fr.snoc X3 N2 g_a
 replace F_value_a := F_value_a.other W3 (Or.inr (slot_ne (Or.inr (gw hw 66 rfl)) (Or.inr (gw hw 67 rfl)) (by decide) (t := (.array .byte)) (t' := .byte) (by decide) (by decide)))
 replace KP := KP.wr W3 (Or.inl (List.mem_of_getElem? (i := 0) rfl))
 replace F_coder_a := F_coder_a.same W3
 replace Z0 : n0 ≤ h3.size := by rw [W3.size]; exact Z0
 refine Gs st3 ?_
 show Goes _ _ _ _ _ (fT T3 m 14 #[vr a, vr y, vi 0] [])
 refine Goes.ret X3 none (fun _ => rfl) hlk (by decide) (by decide) ?_ (fun fs hr => ?_)
 ·rw [e3]; exact ⟨rfl, N3, KP, F_value_a, F_coder_a⟩
 ·exact X3.returnOut hx hret (hb hby d25_14) hr
theorem d26_0 : DK kc2 0 (.lload_n 0) 1 := by decide +kernel
theorem d26_1 : DK kc2 1 (.invokestatic 118) 3 := by decide +kernel
theorem d26_4 : DK kc2 4 (.istore_n 2) 1 := by decide +kernel
theorem d26_5 : DK kc2 5 (.getstatic 13) 3 := by decide +kernel
theorem d26_8 : DK kc2 8 (.ifCond .eq 24) 3 := by decide +kernel
theorem d26_11 : DK kc2 11 (.iload_n 2) 1 := by decide +kernel
theorem d26_12 : DK kc2 12 (.newarray .byte) 2 := by decide +kernel
theorem d26_14 : DK kc2 14 (.astore_n 3) 1 := by decide +kernel
theorem d26_15 : DK kc2 15 (.lload_n 0) 1 := by decide +kernel
theorem d26_16 : DK kc2 16 (.iload_n 2) 1 := by decide +kernel
theorem d26_17 : DK kc2 17 (.aload_n 3) 1 := by decide +kernel
theorem d26_18 : DK kc2 18 (.invokestatic 121) 3 := by decide +kernel
theorem d26_21 : DK kc2 21 .pop 1 := by decide +kernel
theorem d26_22 : DK kc2 22 (.new 5) 3 := by decide +kernel
theorem d26_25 : DK kc2 25 .dup 1 := by decide +kernel
theorem d26_26 : DK kc2 26 (.aload_n 3) 1 := by decide +kernel
theorem d26_27 : DK kc2 27 (.iconst 0) 1 := by decide +kernel
theorem d26_28 : DK kc2 28 (.invokespecial 112) 3 := by decide +kernel
theorem own_pd18 : parseMethodDescriptor "([BB)V" = some ⟨[(.array .byte), .byte], none⟩ := by decide +kernel
theorem d26_31 : DK kc2 31 .areturn 1 := by decide +kernel
theorem own_ef_rm_lts (m : MethodId) (x0 : Int64) : entryFrame m #[(.long x0)] 4 = mkF m 0 #[.val (.long x0), .second, vu, vu] [] := by first | (simp [entryFrame, mkF, argsToLocals, Value.category]; done) | rfl
def Q_rm_lts (Z : State) (v : Int64) (n : Nat) (d1 : Addr) (k1 : ClassId) (d2 : Addr) (k2 : ClassId) (cz : Int32) (h0 : Heap) (n0 : Nat) (v : Option Value) (h : Heap) (L : List Loc) : Prop := ∃ u : Addr, v = some (.ref u) ∧ Fr n0 L ∧ Keep h0 h [] ∧ StrOf Z h u (own_dg n) ∧ n0 ≤ u ∧ h0.size ≤ u
theorem rm_lts (l : Launch) (Z : State) (a0 : Array Value) (hw : HW a0 Z) (ws : List Jvm.Cond) (v : Int64) (n : Nat) (d1 : Addr) (k1 : ClassId) (d2 : Addr) (k2 : ClassId) (cz : Int32) (h0 : Heap) (n0 : Nat) (Z0 : n0 ≤ h0.size) (hv : v.toInt = (n : Int)) (hn : n < 10000000000000) (S_DigitOnes : Sta Z h0 "java/lang/Integer" "DigitOnes" "[B" (.ref d1)) (S_DigitTens : Sta Z h0 "java/lang/Integer" "DigitTens" "[B" (.ref d2)) (V_d1 : Arv Z h0 d1 k1 .byte 100 own_ones (.int 0)) (V_d2 : Arv Z h0 d2 k2 .byte 100 own_tens (.int 0)) (sgC : Sta Z h0 "java/lang/String" "COMPACT_STRINGS" "Z" (.int cz)) (hcz : ¬ (cz = 0)) :
  Met l Z mN26 jdk_35_method_12_code 4 (some (.object "java/lang/String")) ({ frames := 2, cells := 2, slots := 17, locals := 27 } : Room) ws #[(.long v)] h0 (Q_rm_lts Z v n d1 k1 d2 k2 cz h0 n0) := by
 refine own_met (plainFor_of_name own_pn3) ?_
 intro p e s m below meth c s₁ hret hx hby hlk hml hown hnm X0 e0 hZ hh
 have N0 := Fr.nil n0
 refine Gz (castTop (own_ef_rm_lts m v)) ?_
 have KP : Keep h0 h0 [] := Keep.refl _ _
 show Goes _ _ _ _ _ (fT s₁ m 0 #[.val (.long v), .second, vu, vu] [])
 have h13 := own_len13 n
 have ol := own_tnO (n := own_len n) (by omega)
 refine Gz (XS.lloadN X0.here hx rfl (hb hby d26_0) rfl) ?_
 refine cS X0 hx hZ hw hown hby hml e0 mN7 115 44 46 45 0 (rm_ss l Z a0 hw [] v n h0 n0 Z0 hv hn) d26_1 (lenOf own_pd6 rfl) N0 (fun T1 L1 X1 e1 N1 => ?_)
 show Goes _ _ _ _ _ (fT T1 m 4 #[.val (.long v), .second, vu, vu] [(.int (Int32.ofNat (own_len n)))])
 refine gs X1 hx hby d26_4 #[.val (.long v), .second, vi (Int32.ofNat (own_len n)), vu] ?_
 obtain ⟨T2, X2, e2, st2⟩ := getS2 X1 hx hZ hown (host := "") (Or.inl (gw hw 117 rfl)) Via.refl e1 sgC (g := (mkF m 5 #[.val (.long v), .second, vi (Int32.ofNat (own_len n)), vu] [])) rfl (hb hby d26_5)
 refine Gs st2 ?_
 show Goes _ _ _ _ _ (fT T2 m 8 #[.val (.long v), .second, vi (Int32.ofNat (own_len n)), vu] [(.int cz)])
 refine gu X2 hx hby d26_8 ((if0 _ _).trans (feq hcz).1) ?_
 refine gN X2 hx hby d26_11 rfl rfl ?_
 obtain ⟨T3, h3, k3, X3, e3, E3, A3, st3⟩ := newP X2 hx hZ (gw hw 26 rfl) e2 (g := (mkF m 12 #[.val (.long v), .second, vi (Int32.ofNat (own_len n)), vu] [(.int (Int32.ofNat (own_len n)))])) rfl (hb hby d26_12) rfl ol.2.1 (cap := 13) (by rw [ol.1]; exact h13) (by decide) (by decide) (by decide)
 obtain ⟨b3, gq3⟩ : ∃ z, z = h0.size := ⟨_, rfl⟩
 rw [← gq3] at A3 st3
 have g_b3 : n0 ≤ b3 := by rw [gq3]; exact Z0
 have sz_b3 : h0.size ≤ b3 := by rw [gq3]; exact KP.1
 have ne_d1_b3 : d1 ≠ b3 := by rw [gq3]; exact Nat.ne_of_lt V_d1.lt
 have ne_d2_b3 : d2 ≠ b3 := by rw [gq3]; exact Nat.ne_of_lt V_d2.lt
 replace S_DigitOnes := S_DigitOnes.ext E3
 replace S_DigitTens := S_DigitTens.ext E3
 replace V_d1 := V_d1.ext E3
 replace V_d2 := V_d2.ext E3
 replace KP := KP.ext E3
 replace Z0 : n0 ≤ h3.size := Nat.le_trans Z0 E3.1
 have V_b3 : Arv Z h3 b3 k3 .byte (Int32.ofNat (own_len n)) [] (.int 0) := Arv.new A3 ol.2.1
 refine Gs st3 ?_
 show Goes _ _ _ _ _ (fT T3 m 14 #[.val (.long v), .second, vi (Int32.ofNat (own_len n)), vu] [(.ref b3)])
 refine Gz (XS.astoreN X3.here hx rfl (hb hby d26_14) rfl rfl (l' := #[.val (.long v), .second, vi (Int32.ofNat (own_len n)), vr b3]) rfl) ?_
 refine Gz (XS.lloadN X3.here hx rfl (hb hby d26_15) rfl) ?_
 refine gN X3 hx hby d26_16 rfl rfl ?_
 refine gA X3 hx hby d26_17 rfl rfl rfl ?_
 refine cSg X3 hx hZ hw hown hby hml e3 mN8 118 59 60 45 0 (rm_gc l Z a0 hw [] v n b3 k3 (Int32.ofNat (own_len n)) d1 k1 d2 k2 h3 n0 Z0 V_b3 g_b3 hv hn (Nat.le_of_eq ol.1.symm) S_DigitOnes S_DigitTens V_d1 V_d2 ne_d1_b3 ne_d2_b3) d26_18 (lenOf own_pd7 rfl) (fun _ T4 L4 X4 hQ4 => ?_)
 obtain ⟨rfl, N4q, K4, V_b3_4'⟩ := hQ4
 have N4 := Fr.app N1 N4q
 replace V_d1 := V_d1.keep K4 (ninS ne_d1_b3 nin0)
 replace V_d2 := V_d2.keep K4 (ninS ne_d2_b3 nin0)
 replace KP := KP.trans K4 (allS (Or.inr sz_b3) all0)
 replace Z0 := Nat.le_trans Z0 K4.1
 have V_b3 := V_b3_4'
 show Goes _ _ _ _ _ (fT T4 m 21 #[.val (.long v), .second, vi (Int32.ofNat (own_len n)), vr b3] [(.int 0)])
 refine Gz (XS.pop X4.here hx rfl (hb hby d26_21) rfl rfl) ?_
 obtain ⟨T5, h5, X5, e5, E5, A5, D5, U5, st5⟩ := newO X4 hx hZ hown (gw hw 120 rfl) (gw hw 65 rfl) (gw hw 25 rfl) rfl (g := (mkF m 22 #[.val (.long v), .second, vi (Int32.ofNat (own_len n)), vr b3] [])) rfl (hb hby d26_22) (by decide) (by decide)
 obtain ⟨b5, gq5⟩ : ∃ z, z = T4.heap.size := ⟨_, rfl⟩
 rw [← gq5] at A5 st5 D5
 have g_b5 : n0 ≤ b5 := by rw [gq5]; exact Z0
 have sz_b5 : h0.size ≤ b5 := by rw [gq5]; exact KP.1
 have ne_d1_b5 : d1 ≠ b5 := by rw [gq5]; exact Nat.ne_of_lt V_d1.lt
 have ne_d2_b5 : d2 ≠ b5 := by rw [gq5]; exact Nat.ne_of_lt V_d2.lt
 have ne_b3_b5 : b3 ≠ b5 := by rw [gq5]; exact Nat.ne_of_lt V_b3.lt
 replace V_b3 := V_b3.ext E5
 replace KP := KP.ext E5
 replace Z0 : n0 ≤ h5.size := Nat.le_trans Z0 E5.1
 have A_b5 : Exa Z h5 b5 "java/lang/String" := A5
 have F_value_b5 : Fld Z h5 b5 "java/lang/String" "value" "[B" .null := D5 (Or.inr (gw hw 66 rfl)) (ty := (.array .byte)) (by decide)
 have F_coder_b5 : Fld Z h5 b5 "java/lang/String" "coder" "B" (.int 0) := D5 (Or.inr (gw hw 67 rfl)) (ty := .byte) (by decide)
 refine Gs st5 ?_
 show Goes _ _ _ _ _ (fT T5 m 25 #[.val (.long v), .second, vi (Int32.ofNat (own_len n)), vr b3] [(.ref b5)])
 refine Gz (XS.dup X5.here hx rfl (hb hby d26_25) rfl rfl) ?_
 refine gA X5 hx hby d26_26 rfl rfl rfl ?_
 refine gC X5 hx hby d26_27 ?_
 refine cIg X5 hx hZ hw hown hby hml e5 mN25 121 122 124 25 1 (rm_ibb l Z a0 hw [] b5 b3 h5 n0 Z0 A_b5 F_value_b5 F_coder_b5 g_b5) d26_28 (lenOf own_pd18 rfl) (fun _ T6 L6 X6 hQ6 => ?_)
 obtain ⟨rfl, N6q, K6, F_value_b5_6', F_coder_b5_6'⟩ := hQ6
 have N6 := Fr.app N4 N6q
 replace V_b3 := V_b3.keep K6 (ninS ne_b3_b5 nin0)
 replace A_b5 := A_b5.keep K6
 replace KP := KP.trans K6 (allS (Or.inr sz_b5) all0)
 replace Z0 := Nat.le_trans Z0 K6.1
 have F_value_b5 := F_value_b5_6'
 have F_coder_b5 := F_coder_b5_6'
 show Goes _ _ _ _ _ (fT T6 m 31 #[.val (.long v), .second, vi (Int32.ofNat (own_len n)), vr b3] [(.ref b5)])
 have T_b5 : StrOf Z T6.heap b5 (own_dg n) := StrOf.latin A_b5 F_value_b5 F_coder_b5 V_b3 (own_dgLat n) (by rw [own_dgL]) rfl (by rw [own_dgL]; omega)
 refine Goes.ret X6 (some (.ref b5)) (fun h => by rw [hret] at h; cases h) hlk (by decide) (by decide) ?_ (fun fs hr => ?_)
 ·exact ⟨b5, rfl, N6, KP, T_b5, g_b5, sz_b5⟩
 ·exact own_retA X6 hx hret rfl rfl (hb hby d26_31) hr
theorem d27_0 : DK kc23 0 (.iload_n 1) 1 := by decide +kernel
theorem d27_1 : DK kc23 1 (.iload_n 0) 1 := by decide +kernel
theorem d27_2 : DK kc23 2 (.if_icmp .ge 35) 3 := by decide +kernel
theorem d27_37 : DK kc23 37 .return_ 1 := by decide +kernel
theorem own_ef_rm_ckl (m : MethodId) (x0 : Int32) (x1 : Int32) : entryFrame m #[(.int x0), (.int x1)] 2 = mkF m 0 #[vi x0, vi x1] [] := by first | (simp [entryFrame, mkF, argsToLocals, Value.category]; done) | rfl
def Q_rm_ckl (Z : State) (f : Int32) (t : Int32) (h0 : Heap) (n0 : Nat) (v : Option Value) (h : Heap) (L : List Loc) : Prop := v = none ∧ Fr n0 L ∧ h = h0
theorem rm_ckl (l : Launch) (Z : State) (a0 : Array Value) (hw : HW a0 Z) (ws : List Jvm.Cond) (f : Int32) (t : Int32) (h0 : Heap) (n0 : Nat) (Z0 : n0 ≤ h0.size) (ht : ¬ (t < f)) :
  Met l Z mN27 jdk_65_method_131_code 2 none ({ frames := 0, cells := 0, slots := 0, locals := 0 } : Room) ws #[(.int f), (.int t)] h0 (Q_rm_ckl Z f t h0 n0) := by
 refine own_met (plainFor_of_name own_pn7) ?_
 intro p e s m below meth c s₁ hret hx hby hlk hml hown hnm X0 e0 hZ hh
 have N0 := Fr.nil n0
 refine Gz (castTop (own_ef_rm_ckl m f t)) ?_
 show Goes _ _ _ _ _ (fT s₁ m 0 #[vi f, vi t] [])
 refine gN X0 hx hby d27_0 rfl rfl ?_
 refine gN X0 hx hby d27_1 rfl rfl ?_
 refine gY X0 hx hby d27_2 2 37 (flt ht).2.1 ?_
 refine Goes.ret X0 none (fun _ => rfl) hlk (by decide) (by decide) ?_ (fun fs hr => ?_)
 ·exact ⟨rfl, N0, e0⟩
 ·exact X0.returnOut hx hret (hb hby d27_37) hr
theorem own_ef_rm_mn3 (m : MethodId)  : entryFrame m #[(.int 3), (.int 3)] 2 = mkF m 0 #[vi 3, vi 3] [] := by first | (simp [entryFrame, mkF, argsToLocals, Value.category]; done) | rfl
def Q_rm_mn3 (Z : State)  (h0 : Heap) (n0 : Nat) (v : Option Value) (h : Heap) (L : List Loc) : Prop := v = some (.int 3) ∧ Fr n0 L ∧ h = h0
theorem rm_mn3 (l : Launch) (Z : State) (a0 : Array Value) (hw : HW a0 Z) (ws : List Jvm.Cond)  (h0 : Heap) (n0 : Nat) (Z0 : n0 ≤ h0.size) :
  Met l Z mN23 jdk_29_method_69_code 2 (some .int) ({ frames := 0, cells := 0, slots := 0, locals := 0 } : Room) ws #[(.int 3), (.int 3)] h0 (Q_rm_mn3 Z  h0 n0) := by
 refine own_met (Jvm.Free.JP.mathPlain rfl (by decide +kernel)) ?_
 intro p e s m below meth c s₁ hret hx hby hlk hml hown hnm X0 e0 hZ hh
 have N0 := Fr.nil n0
 refine Gz (castTop (own_ef_rm_mn3 m )) ?_
 show Goes _ _ _ _ _ (fT s₁ m 0 #[vi 3, vi 3] [])
 refine gN X0 hx hby d23_0 rfl rfl ?_
 refine gN X0 hx hby d23_1 rfl rfl ?_
 refine gU X0 hx hby d23_2 (flt (by decide : ¬ ((3 : Int32) < (3 : Int32)))).2.2.1 ?_
 refine gN X0 hx hby d23_5 rfl rfl ?_
 refine gG X0 hx hby d23_6 6 10 ?_
 refine Goes.ret X0 (some (.int 3)) (fun h => by rw [hret] at h; cases h) hlk (by decide) (by decide) ?_ (fun fs hr => ?_)
 ·exact ⟨rfl, N0, e0⟩
 ·exact retI X0 hx hret (hb hby d23_10) hr
theorem d28_0 : DK kc25 0 (.iload_n 1) 1 := by decide +kernel
theorem d28_1 : DK kc25 1 (.iload_n 2) 1 := by decide +kernel
theorem d28_2 : DK kc25 2 (.invokestatic 343) 3 := by decide +kernel
theorem d28_5 : DK kc25 5 (.iload_n 2) 1 := by decide +kernel
theorem d28_6 : DK kc25 6 (.iload_n 1) 1 := by decide +kernel
theorem d28_7 : DK kc25 7 .isub 1 := by decide +kernel
theorem d28_8 : DK kc25 8 (.istore_n 3) 1 := by decide +kernel
theorem d28_9 : DK kc25 9 (.iload_n 3) 1 := by decide +kernel
theorem d28_10 : DK kc25 10 (.newarray .byte) 2 := by decide +kernel
theorem d28_12 : DK kc25 12 (.astore 4) 2 := by decide +kernel
theorem d28_14 : DK kc25 14 (.aload_n 0) 1 := by decide +kernel
theorem d28_15 : DK kc25 15 (.iload_n 1) 1 := by decide +kernel
theorem d28_16 : DK kc25 16 (.aload 4) 2 := by decide +kernel
theorem d28_18 : DK kc25 18 (.iconst 0) 1 := by decide +kernel
theorem d28_19 : DK kc25 19 (.aload_n 0) 1 := by decide +kernel
theorem d28_20 : DK kc25 20 .arraylength 1 := by decide +kernel
theorem d28_21 : DK kc25 21 (.iload_n 1) 1 := by decide +kernel
theorem d28_22 : DK kc25 22 .isub 1 := by decide +kernel
theorem d28_23 : DK kc25 23 (.iload_n 3) 1 := by decide +kernel
theorem d28_24 : DK kc25 24 (.invokestatic 304) 3 := by decide +kernel
theorem d28_27 : DK kc25 27 (.invokestatic 150) 3 := by decide +kernel
theorem d28_30 : DK kc25 30 (.aload 4) 2 := by decide +kernel
theorem d28_32 : DK kc25 32 .areturn 1 := by decide +kernel
theorem own_ef_rm_crb4 (m : MethodId) (x0 : Addr) : entryFrame m #[(.ref x0), (.int 1), (.int 4)] 5 = mkF m 0 #[vr x0, vi 1, vi 4, vu, vu] [] := by first | (simp [entryFrame, mkF, argsToLocals, Value.category]; done) | rfl
def Q_rm_crb4 (Z : State) (b : Addr) (kb : ClassId) (c0 : Int32) (c1 : Int32) (c2 : Int32) (c3 : Int32) (h0 : Heap) (n0 : Nat) (v : Option Value) (h : Heap) (L : List Loc) : Prop := ∃ y : Addr, ∃ ky : ClassId, v = some (.ref y) ∧ Fr n0 L ∧ Keep h0 h [] ∧ Arv Z h y ky .byte 3 [(.int (lo8 c1)), (.int (lo8 c2)), (.int (lo8 c3))] (.int 0) ∧ n0 ≤ y ∧ h0.size ≤ y
theorem rm_crb4 (l : Launch) (Z : State) (a0 : Array Value) (hw : HW a0 Z) (ws : List Jvm.Cond) (b : Addr) (kb : ClassId) (c0 : Int32) (c1 : Int32) (c2 : Int32) (c3 : Int32) (h0 : Heap) (n0 : Nat) (Z0 : n0 ≤ h0.size) (V_b : Arv Z h0 b kb .byte 4 [(.int (lo8 c0)), (.int (lo8 c1)), (.int (lo8 c2)), (.int (lo8 c3))] (.int 0)) :
  Met l Z mN28 jdk_65_method_133_code 5 (some (.array .byte)) ({ frames := 1, cells := 1, slots := 3, locals := 18 } : Room) ws #[(.ref b), (.int 1), (.int 4)] h0 (Q_rm_crb4 Z b kb c0 c1 c2 c3 h0 n0) := by
 refine own_met (plainFor_of_name own_pn7) ?_
 intro p e s m below meth c s₁ hret hx hby hlk hml hown hnm X0 e0 hZ hh
 have N0 := Fr.nil n0
 refine Gz (castTop (own_ef_rm_crb4 m b)) ?_
 have KP : Keep h0 h0 [] := Keep.refl _ _
 show Goes _ _ _ _ _ (fT s₁ m 0 #[vr b, vi 1, vi 4, vu, vu] [])
 refine gN X0 hx hby d28_0 rfl rfl ?_
 refine gN X0 hx hby d28_1 rfl rfl ?_
 refine cS X0 hx hZ hw hown hby hml e0 mN27 162 163 164 157 0 (rm_ckl l Z a0 hw [] (1 : Int32) (4 : Int32) h0 n0 Z0 (by decide)) d28_2 (lenOf own_pd2 rfl) N0 (fun T1 L1 X1 e1 N1 => ?_)
 show Goes _ _ _ _ _ (fT T1 m 5 #[vr b, vi 1, vi 4, vu, vu] [])
 refine gN X1 hx hby d28_5 rfl rfl ?_
 refine gN X1 hx hby d28_6 rfl rfl ?_
 show Goes _ _ _ _ _ (fT T1 m 7 #[vr b, vi 1, vi 4, vu, vu] [(.int 1), (.int 4)])
 refine Gz (XS.isub X1.here hx rfl (hb hby d28_7) rfl) ?_
 show Goes _ _ _ _ _ (fT T1 m 8 #[vr b, vi 1, vi 4, vu, vu] [(.int 3)])
 refine gs X1 hx hby d28_8 #[vr b, vi 1, vi 4, vi 3, vu] ?_
 refine gN X1 hx hby d28_9 rfl rfl ?_
 obtain ⟨T2, h2, k2, X2, e2, E2, A2, st2⟩ := newP X1 hx hZ (gw hw 26 rfl) e1 (g := (mkF m 10 #[vr b, vi 1, vi 4, vi 3, vu] [(.int 3)])) rfl (hb hby d28_10) rfl (by decide) (cap := 3) (by decide) (by decide) (by decide) (by decide)
 obtain ⟨b2, gq2⟩ : ∃ z, z = h0.size := ⟨_, rfl⟩
 rw [← gq2] at A2 st2
 have g_b2 : n0 ≤ b2 := by rw [gq2]; exact Z0
 have sz_b2 : h0.size ≤ b2 := by rw [gq2]; exact KP.1
 replace V_b := V_b.ext E2
 replace KP := KP.ext E2
 replace Z0 : n0 ≤ h2.size := Nat.le_trans Z0 E2.1
 have V_b2 : Arv Z h2 b2 k2 .byte 3 [(.int 0), (.int 0), (.int 0)] (.int 0) := (Arv.new A2 (by decide)).pad (pad_rep [] (.int 0) 3)
 refine Gs st2 ?_
 show Goes _ _ _ _ _ (fT T2 m 12 #[vr b, vi 1, vi 4, vi 3, vu] [(.ref b2)])
 refine Gz (XS.astore X2.here hx rfl (hb hby d28_12) rfl rfl (l' := #[vr b, vi 1, vi 4, vi 3, vr b2]) rfl) ?_
 refine gA X2 hx hby d28_14 rfl rfl rfl ?_
 refine gN X2 hx hby d28_15 rfl rfl ?_
 refine Gz (XS.aload X2.here hx rfl (hb hby d28_16) rfl rfl) ?_
 refine gC X2 hx hby d28_18 ?_
 refine gA X2 hx hby d28_19 rfl rfl rfl ?_
 show Goes _ _ _ _ _ (fT T2 m 20 #[vr b, vi 1, vi 4, vi 3, vr b2] [(.ref b), (.int 0), (.ref b2), (.int 1), (.ref b)])
 obtain ⟨cl3, Ar3, -, S3, N3z, -, -⟩ := id V_b
 refine Gs (fun _ tk => X2.arraylength hx (by rw [e2]; exact Ar3.1) (State.isArrayOf_alike hZ.alike Ar3.2.1) (g := (mkF m 20 #[vr b, vi 1, vi 4, vi 3, vr b2] [(.ref b), (.int 0), (.ref b2), (.int 1), (.ref b)])) rfl rfl (hb hby d28_20) _ tk) ?_
 rw [len_of S3 N3z]
 show Goes _ _ _ _ _ (fT T2 m 21 #[vr b, vi 1, vi 4, vi 3, vr b2] [(.int 4), (.int 0), (.ref b2), (.int 1), (.ref b)])
 refine gN X2 hx hby d28_21 rfl rfl ?_
 show Goes _ _ _ _ _ (fT T2 m 22 #[vr b, vi 1, vi 4, vi 3, vr b2] [(.int 1), (.int 4), (.int 0), (.ref b2), (.int 1), (.ref b)])
 refine Gz (XS.isub X2.here hx rfl (hb hby d28_22) rfl) ?_
 show Goes _ _ _ _ _ (fT T2 m 23 #[vr b, vi 1, vi 4, vi 3, vr b2] [(.int 3), (.int 0), (.ref b2), (.int 1), (.ref b)])
 refine gN X2 hx hby d28_23 rfl rfl ?_
 refine cS X2 hx hZ hw hown hby hml e2 mN23 165 166 168 167 4 (rm_mn3 l Z a0 hw []  h2 n0 Z0) d28_24 (lenOf own_pd14 rfl) N1 (fun T4 L4 X4 e4 N4 => ?_)
 show Goes _ _ _ _ _ (fT T4 m 27 #[vr b, vi 1, vi 4, vi 3, vr b2] [(.int 3), (.int 0), (.ref b2), (.int 1), (.ref b)])
 obtain ⟨T5, h5, L5, X5, e5, N5, K5, Vn5, st5⟩ := cpA X4 hx hZ hown (gw hw 169 rfl) (gw hw 111 rfl) (gw hw 109 rfl) (gw hw 110 rfl) e4 V_b V_b2 (us := [(.int (lo8 c1)), (.int (lo8 c2)), (.int (lo8 c3))]) (Or.inl ⟨rfl, rfl⟩) (by decide) (by decide) (by decide) (by decide) (by decide) rfl (by decide) N4 g_b2 (g := (mkF m 27 #[vr b, vi 1, vi 4, vi 3, vr b2] [(.int 3), (.int 0), (.ref b2), (.int 1), (.ref b)])) rfl hml.symm rfl (hb hby d28_27) (by decide) (W := 0) (wz rfl) (by decide)
 replace KP := KP.trans K5 (allS (Or.inr sz_b2) all0)
 replace Z0 := Nat.le_trans Z0 K5.1
 have V_b2 : Arv Z h5 b2 _ .byte 3 [(.int (lo8 c1)), (.int (lo8 c2)), (.int (lo8 c3))] (.int 0) := Vn5
 refine Gs st5 ?_
 show Goes _ _ _ _ _ (fT T5 m 30 #[vr b, vi 1, vi 4, vi 3, vr b2] [])
 refine Gz (XS.aload X5.here hx rfl (hb hby d28_30) rfl rfl) ?_
 refine Goes.ret X5 (some (.ref b2)) (fun h => by rw [hret] at h; cases h) hlk (by decide) (by decide) ?_ (fun fs hr => ?_)
 ·rw [e5]; exact ⟨b2, k2, rfl, N5, KP, V_b2, g_b2, sz_b2⟩
 ·exact own_retA X5 hx hret rfl rfl (hb hby d28_32) hr
theorem d29_0 : DK kc24 0 (.iload_n 1) 1 := by decide +kernel
theorem d29_1 : DK kc24 1 (.ifCond .ne 9) 3 := by decide +kernel
theorem d29_10 : DK kc24 10 (.aload_n 0) 1 := by decide +kernel
theorem d29_11 : DK kc24 11 (.iload_n 1) 1 := by decide +kernel
theorem d29_12 : DK kc24 12 (.iload_n 2) 1 := by decide +kernel
theorem d29_13 : DK kc24 13 (.invokestatic 339) 3 := by decide +kernel
theorem own_pd19 : parseMethodDescriptor "([BII)[B" = some ⟨[(.array .byte), .int, .int], some (.array .byte)⟩ := by decide +kernel
theorem d29_16 : DK kc24 16 .areturn 1 := by decide +kernel
theorem own_ef_rm_cor4 (m : MethodId) (x0 : Addr) : entryFrame m #[(.ref x0), (.int 1), (.int 4)] 3 = mkF m 0 #[vr x0, vi 1, vi 4] [] := by first | (simp [entryFrame, mkF, argsToLocals, Value.category]; done) | rfl
def Q_rm_cor4 (Z : State) (b : Addr) (kb : ClassId) (c0 : Int32) (c1 : Int32) (c2 : Int32) (c3 : Int32) (h0 : Heap) (n0 : Nat) (v : Option Value) (h : Heap) (L : List Loc) : Prop := ∃ y : Addr, ∃ ky : ClassId, v = some (.ref y) ∧ Fr n0 L ∧ Keep h0 h [] ∧ Arv Z h y ky .byte 3 [(.int (lo8 c1)), (.int (lo8 c2)), (.int (lo8 c3))] (.int 0) ∧ n0 ≤ y ∧ h0.size ≤ y
theorem rm_cor4 (l : Launch) (Z : State) (a0 : Array Value) (hw : HW a0 Z) (ws : List Jvm.Cond) (b : Addr) (kb : ClassId) (c0 : Int32) (c1 : Int32) (c2 : Int32) (c3 : Int32) (h0 : Heap) (n0 : Nat) (Z0 : n0 ≤ h0.size) (V_b : Arv Z h0 b kb .byte 4 [(.int (lo8 c0)), (.int (lo8 c1)), (.int (lo8 c2)), (.int (lo8 c3))] (.int 0)) :
  Met l Z mN29 jdk_65_method_132_code 3 (some (.array .byte)) ({ frames := 2, cells := 1, slots := 3, locals := 34 } : Room) ws #[(.ref b), (.int 1), (.int 4)] h0 (Q_rm_cor4 Z b kb c0 c1 c2 c3 h0 n0) := by
 refine own_met (plainFor_of_name own_pn7) ?_
 intro p e s m below meth c s₁ hret hx hby hlk hml hown hnm X0 e0 hZ hh
 have N0 := Fr.nil n0
 refine Gz (castTop (own_ef_rm_cor4 m b)) ?_
 have KP : Keep h0 h0 [] := Keep.refl _ _
 show Goes _ _ _ _ _ (fT s₁ m 0 #[vr b, vi 1, vi 4] [])
 refine gN X0 hx hby d29_0 rfl rfl ?_
 refine gy X0 hx hby d29_1 1 10 ((if0 _ _).trans (feq (by decide : ¬ ((1 : Int32) = (0 : Int32)))).2) ?_
 refine gA X0 hx hby d29_10 rfl rfl rfl ?_
 refine gN X0 hx hby d29_11 rfl rfl ?_
 refine gN X0 hx hby d29_12 rfl rfl ?_
 have szs1 : h0.size ≤ h0.size := KP.1
 refine cSg X0 hx hZ hw hown hby hml e0 mN28 159 160 161 157 0 (rm_crb4 l Z a0 hw [] b kb c0 c1 c2 c3 h0 n0 Z0 V_b) d29_13 (lenOf own_pd19 rfl) (fun _ T1 L1 X1 hQ1 => ?_)
 obtain ⟨y1, ky1, rfl, N1q, K1, V_y1_1', g_y1_1', sz_y1_1'⟩ := hQ1
 have N1 := Fr.app N0 N1q
 replace KP := KP.trans K1 all0
 replace Z0 := Nat.le_trans Z0 K1.1
 have V_y1 := V_y1_1'
 have g_y1 := g_y1_1'
 have szc_y1 := sz_y1_1'
 have sz_y1 : h0.size ≤ y1 := Nat.le_trans szs1 szc_y1
 show Goes _ _ _ _ _ (fT T1 m 16 #[vr b, vi 1, vi 4] [(.ref y1)])
 refine Goes.ret X1 (some (.ref y1)) (fun h => by rw [hret] at h; cases h) hlk (by decide) (by decide) ?_ (fun fs hr => ?_)
 ·exact ⟨y1, ky1, rfl, N1, KP, V_y1, g_y1, sz_y1⟩
 ·exact own_retA X1 hx hret rfl rfl (hb hby d29_16) hr
theorem d30_0 : DK kc20 0 (.iload_n 2) 1 := by decide +kernel
theorem d30_1 : DK kc20 1 (.ifCond .ne 6) 3 := by decide +kernel
theorem d30_7 : DK kc20 7 (.new 1) 3 := by decide +kernel
theorem d30_10 : DK kc20 10 .dup 1 := by decide +kernel
theorem d30_11 : DK kc20 11 (.aload_n 0) 1 := by decide +kernel
theorem d30_12 : DK kc20 12 (.iload_n 1) 1 := by decide +kernel
theorem d30_13 : DK kc20 13 (.iload_n 1) 1 := by decide +kernel
theorem d30_14 : DK kc20 14 (.iload_n 2) 1 := by decide +kernel
theorem d30_15 : DK kc20 15 .iadd 1 := by decide +kernel
theorem d30_16 : DK kc20 16 (.invokestatic 232) 3 := by decide +kernel
theorem d30_19 : DK kc20 19 (.iconst 0) 1 := by decide +kernel
theorem d30_20 : DK kc20 20 (.invokespecial 112) 3 := by decide +kernel
theorem d30_23 : DK kc20 23 .areturn 1 := by decide +kernel
theorem own_ef_rm_ns4 (m : MethodId) (x0 : Addr) : entryFrame m #[(.ref x0), (.int 1), (.int 3)] 3 = mkF m 0 #[vr x0, vi 1, vi 3] [] := by first | (simp [entryFrame, mkF, argsToLocals, Value.category]; done) | rfl
def Q_rm_ns4 (Z : State) (b : Addr) (kb : ClassId) (c0 : Int32) (c1 : Int32) (c2 : Int32) (c3 : Int32) (h0 : Heap) (n0 : Nat) (v : Option Value) (h : Heap) (L : List Loc) : Prop := ∃ u : Addr, v = some (.ref u) ∧ Fr n0 L ∧ Keep h0 h [] ∧ StrOf Z h u [c1, c2, c3] ∧ n0 ≤ u ∧ h0.size ≤ u
theorem rm_ns4 (l : Launch) (Z : State) (a0 : Array Value) (hw : HW a0 Z) (ws : List Jvm.Cond) (b : Addr) (kb : ClassId) (c0 : Int32) (c1 : Int32) (c2 : Int32) (c3 : Int32) (h0 : Heap) (n0 : Nat) (Z0 : n0 ≤ h0.size) (V_b : Arv Z h0 b kb .byte 4 [(.int (lo8 c0)), (.int (lo8 c1)), (.int (lo8 c2)), (.int (lo8 c3))] (.int 0)) (hL_c1 : Lat c1) (hL_c2 : Lat c2) (hL_c3 : Lat c3) :
  Met l Z mN30 jdk_43_method_47_code 3 (some (.object "java/lang/String")) ({ frames := 3, cells := 2, slots := 7, locals := 50 } : Room) ws #[(.ref b), (.int 1), (.int 3)] h0 (Q_rm_ns4 Z b kb c0 c1 c2 c3 h0 n0) := by
 refine own_met (plainFor_of_name own_pn2) ?_
 intro p e s m below meth c s₁ hret hx hby hlk hml hown hnm X0 e0 hZ hh
 have N0 := Fr.nil n0
 refine Gz (castTop (own_ef_rm_ns4 m b)) ?_
 have KP : Keep h0 h0 [] := Keep.refl _ _
 show Goes _ _ _ _ _ (fT s₁ m 0 #[vr b, vi 1, vi 3] [])
 refine gN X0 hx hby d30_0 rfl rfl ?_
 refine gy X0 hx hby d30_1 1 7 ((if0 _ _).trans (feq (by decide : ¬ ((3 : Int32) = (0 : Int32)))).2) ?_
 obtain ⟨T1, h1, X1, e1, E1, A1, D1, U1, st1⟩ := newO X0 hx hZ hown (gw hw 154 rfl) (gw hw 65 rfl) (gw hw 25 rfl) e0 (g := (mkF m 7 #[vr b, vi 1, vi 3] [])) rfl (hb hby d30_7) (by decide) (by decide)
 obtain ⟨b1, gq1⟩ : ∃ z, z = h0.size := ⟨_, rfl⟩
 rw [← gq1] at A1 st1 D1
 have g_b1 : n0 ≤ b1 := by rw [gq1]; exact Z0
 have sz_b1 : h0.size ≤ b1 := by rw [gq1]; exact KP.1
 have ne_b_b1 : b ≠ b1 := by rw [gq1]; exact Nat.ne_of_lt V_b.lt
 replace V_b := V_b.ext E1
 replace KP := KP.ext E1
 replace Z0 : n0 ≤ h1.size := Nat.le_trans Z0 E1.1
 have A_b1 : Exa Z h1 b1 "java/lang/String" := A1
 have F_value_b1 : Fld Z h1 b1 "java/lang/String" "value" "[B" .null := D1 (Or.inr (gw hw 66 rfl)) (ty := (.array .byte)) (by decide)
 have F_coder_b1 : Fld Z h1 b1 "java/lang/String" "coder" "B" (.int 0) := D1 (Or.inr (gw hw 67 rfl)) (ty := .byte) (by decide)
 refine Gs st1 ?_
 show Goes _ _ _ _ _ (fT T1 m 10 #[vr b, vi 1, vi 3] [(.ref b1)])
 refine Gz (XS.dup X1.here hx rfl (hb hby d30_10) rfl rfl) ?_
 refine gA X1 hx hby d30_11 rfl rfl rfl ?_
 refine gN X1 hx hby d30_12 rfl rfl ?_
 refine gN X1 hx hby d30_13 rfl rfl ?_
 refine gN X1 hx hby d30_14 rfl rfl ?_
 show Goes _ _ _ _ _ (fT T1 m 15 #[vr b, vi 1, vi 3] [(.int 3), (.int 1), (.int 1), (.ref b), (.ref b1), (.ref b1)])
 refine Gz (XS.iadd X1.here hx rfl (hb hby d30_15) rfl) ?_
 show Goes _ _ _ _ _ (fT T1 m 16 #[vr b, vi 1, vi 3] [(.int 4), (.int 1), (.ref b), (.ref b1), (.ref b1)])
 have ltc2_b : b < h1.size := V_b.lt
 have ltc2_b1 : b1 < h1.size := A_b1.lt
 refine cSg X1 hx hZ hw hown hby hml e1 mN29 155 156 158 157 2 (rm_cor4 l Z a0 hw [] b kb c0 c1 c2 c3 h1 n0 Z0 V_b) d30_16 (lenOf own_pd19 rfl) (fun _ T2 L2 X2 hQ2 => ?_)
 obtain ⟨y2, ky2, rfl, N2q, K2, V_y2_2', g_y2_2', sz_y2_2'⟩ := hQ2
 have N2 := Fr.app N0 N2q
 replace A_b1 := A_b1.keep K2
 replace F_value_b1 := F_value_b1.keep K2 nin0
 replace F_coder_b1 := F_coder_b1.keep K2 nin0
 replace KP := KP.trans K2 all0
 replace Z0 := Nat.le_trans Z0 K2.1
 have V_y2 := V_y2_2'
 have g_y2 := g_y2_2'
 have szc_y2 := sz_y2_2'
 have ne_b_y2 : b ≠ y2 := Nat.ne_of_lt (Nat.lt_of_lt_of_le ltc2_b szc_y2)
 have ne_b1_y2 : b1 ≠ y2 := Nat.ne_of_lt (Nat.lt_of_lt_of_le ltc2_b1 szc_y2)
 show Goes _ _ _ _ _ (fT T2 m 19 #[vr b, vi 1, vi 3] [(.ref y2), (.ref b1), (.ref b1)])
 refine gC X2 hx hby d30_19 ?_
 refine cIg X2 hx hZ hw hown hby hml rfl mN25 170 122 124 25 1 (rm_ibb l Z a0 hw [] b1 y2 T2.heap n0 Z0 A_b1 F_value_b1 F_coder_b1 g_b1) d30_20 (lenOf own_pd18 rfl) (fun _ T3 L3 X3 hQ3 => ?_)
 obtain ⟨rfl, N3q, K3, F_value_b1_3', F_coder_b1_3'⟩ := hQ3
 have N3 := Fr.app N2 N3q
 replace A_b1 := A_b1.keep K3
 replace V_y2 := V_y2.keep K3 (ninS (Ne.symm ne_b1_y2) nin0)
 replace KP := KP.trans K3 (allS (Or.inr sz_b1) all0)
 replace Z0 := Nat.le_trans Z0 K3.1
 have F_value_b1 := F_value_b1_3'
 have F_coder_b1 := F_coder_b1_3'
 show Goes _ _ _ _ _ (fT T3 m 23 #[vr b, vi 1, vi 3] [(.ref b1)])
 have T_b1 : StrOf Z T3.heap b1 [c1, c2, c3] := StrOf.latin A_b1 F_value_b1 F_coder_b1 V_y2 (by intro c hc; simp only [List.mem_cons, List.not_mem_nil, or_false] at hc; rcases hc with rfl | rfl | rfl <;> assumption) rfl rfl (Nat.le_of_ble_eq_true rfl)
 refine Goes.ret X3 (some (.ref b1)) (fun h => by rw [hret] at h; cases h) hlk (by decide) (by decide) ?_ (fun fs hr => ?_)
 ·exact ⟨b1, rfl, N3, KP, T_b1, g_b1, sz_b1⟩
 ·exact own_retA X3 hx hret rfl rfl (hb hby d30_23) hr
theorem d31_0 : DK kc6 0 (.iload_n 0) 1 := by decide +kernel
theorem d31_1 : DK kc6 1 (.ifCond .lt 13) 3 := by decide +kernel
theorem d31_4 : DK kc6 4 (.iload_n 0) 1 := by decide +kernel
theorem d31_5 : DK kc6 5 (.iload_n 1) 1 := by decide +kernel
theorem d31_6 : DK kc6 6 (.if_icmp .gt 8) 3 := by decide +kernel
theorem d31_9 : DK kc6 9 (.iload_n 1) 1 := by decide +kernel
theorem d31_10 : DK kc6 10 (.iload_n 2) 1 := by decide +kernel
theorem d31_11 : DK kc6 11 (.if_icmp .le 11) 3 := by decide +kernel
theorem d31_22 : DK kc6 22 (.iload_n 0) 1 := by decide +kernel
theorem d31_23 : DK kc6 23 .ireturn 1 := by decide +kernel
theorem own_ef_rm_pcf (m : MethodId) (x3 : Value) (hx3 : x3.isRef = true) : entryFrame m #[(.int 1), (.int 4), (.int 4), x3] 4 = mkF m 0 #[vi 1, vi 4, vi 4, .val x3] [] := by first | (simp [entryFrame, mkF, argsToLocals, Value.category]; done) | rfl | (rcases Jvm.Free.XT.refc hx3 with rfl | ⟨r, rfl⟩ <;> rfl)
def Q_rm_pcf (Z : State) (fo : Value) (h0 : Heap) (n0 : Nat) (v : Option Value) (h : Heap) (L : List Loc) : Prop := v = some (.int 1) ∧ Fr n0 L ∧ h = h0
theorem rm_pcf (l : Launch) (Z : State) (a0 : Array Value) (hw : HW a0 Z) (ws : List Jvm.Cond) (fo : Value) (h0 : Heap) (n0 : Nat) (Z0 : n0 ≤ h0.size) (r_fo : fo.isRef = true) :
  Met l Z mN31 jdk_41_method_12_code 4 (some .int) ({ frames := 0, cells := 0, slots := 0, locals := 0 } : Room) ws #[(.int 1), (.int 4), (.int 4), fo] h0 (Q_rm_pcf Z fo h0 n0) := by
 refine own_met (plainFor_of_name own_pn1) ?_
 intro p e s m below meth c s₁ hret hx hby hlk hml hown hnm X0 e0 hZ hh
 have N0 := Fr.nil n0
 refine Gz (castTop (own_ef_rm_pcf m fo r_fo)) ?_
 show Goes _ _ _ _ _ (fT s₁ m 0 #[vi 1, vi 4, vi 4, .val fo] [])
 refine gN X0 hx hby d31_0 rfl rfl ?_
 refine gu X0 hx hby d31_1 ((if0 _ _).trans (flt (by decide : ¬ ((1 : Int32) < (0 : Int32)))).1) ?_
 refine gN X0 hx hby d31_4 rfl rfl ?_
 refine gN X0 hx hby d31_5 rfl rfl ?_
 refine gU X0 hx hby d31_6 (flt (by decide : ¬ ((4 : Int32) < (1 : Int32)))).2.2.1 ?_
 refine gN X0 hx hby d31_9 rfl rfl ?_
 show Goes _ _ _ _ _ (fT s₁ m 10 #[vi 1, vi 4, vi 4, .val fo] [(.int 4)])
 refine gN X0 hx hby d31_10 rfl rfl ?_
 refine gY X0 hx hby d31_11 11 22 (flt (by decide : ¬ ((4 : Int32) < (4 : Int32)))).2.2.2 ?_
 refine gN X0 hx hby d31_22 rfl rfl ?_
 refine Goes.ret X0 (some (.int 1)) (fun h => by rw [hret] at h; cases h) hlk (by decide) (by decide) ?_ (fun fs hr => ?_)
 ·exact ⟨rfl, N0, e0⟩
 ·exact retI X0 hx hret (hb hby d31_23) hr
theorem d32_0 : DK kc13 0 (.iload_n 0) 1 := by decide +kernel
theorem d32_1 : DK kc13 1 (.iload_n 1) 1 := by decide +kernel
theorem d32_2 : DK kc13 2 (.iload_n 2) 1 := by decide +kernel
theorem d32_3 : DK kc13 3 (.getstatic 1053) 3 := by decide +kernel
theorem d32_6 : DK kc13 6 (.invokestatic 1062) 3 := by decide +kernel
theorem own_pd20 : parseMethodDescriptor "(IIILjava/util/function/BiFunction;)I" = some ⟨[.int, .int, .int, (.object "java/util/function/BiFunction")], some .int⟩ := by decide +kernel
theorem d32_9 : DK kc13 9 .pop 1 := by decide +kernel
theorem d32_10 : DK kc13 10 .return_ 1 := by decide +kernel
theorem own_ef_rm_cbb (m : MethodId)  : entryFrame m #[(.int 1), (.int 4), (.int 4)] 3 = mkF m 0 #[vi 1, vi 4, vi 4] [] := by first | (simp [entryFrame, mkF, argsToLocals, Value.category]; done) | rfl
def Q_rm_cbb (Z : State) (fo : Value) (h0 : Heap) (n0 : Nat) (v : Option Value) (h : Heap) (L : List Loc) : Prop := v = none ∧ Fr n0 L ∧ h = h0
theorem rm_cbb (l : Launch) (Z : State) (a0 : Array Value) (hw : HW a0 Z) (ws : List Jvm.Cond) (fo : Value) (h0 : Heap) (n0 : Nat) (Z0 : n0 ≤ h0.size) (sgF : Sta Z h0 "jdk/internal/util/Preconditions" "SIOOBE_FORMATTER" "Ljava/util/function/BiFunction;" fo) (r_fo : fo.isRef = true) :
  Met l Z mN32 jdk_42_method_158_code 3 none ({ frames := 1, cells := 0, slots := 0, locals := 15 } : Room) ws #[(.int 1), (.int 4), (.int 4)] h0 (Q_rm_cbb Z fo h0 n0) := by
 refine own_met (plainFor_of_name own_pn0) ?_
 intro p e s m below meth c s₁ hret hx hby hlk hml hown hnm X0 e0 hZ hh
 have N0 := Fr.nil n0
 refine Gz (castTop (own_ef_rm_cbb m )) ?_
 show Goes _ _ _ _ _ (fT s₁ m 0 #[vi 1, vi 4, vi 4] [])
 refine gN X0 hx hby d32_0 rfl rfl ?_
 refine gN X0 hx hby d32_1 rfl rfl ?_
 refine gN X0 hx hby d32_2 rfl rfl ?_
 obtain ⟨T1, X1, e1, st1⟩ := getS2 X0 hx hZ hown (host := "") (Or.inl (gw hw 140 rfl)) Via.refl e0 sgF (g := (mkF m 3 #[vi 1, vi 4, vi 4] [(.int 4), (.int 4), (.int 1)])) rfl (hb hby d32_3)
 refine Gs st1 ?_
 show Goes _ _ _ _ _ (fT T1 m 6 #[vi 1, vi 4, vi 4] [fo, (.int 4), (.int 4), (.int 1)])
 refine cS X1 hx hZ hw hown hby hml e1 mN31 142 143 144 141 0 (rm_pcf l Z a0 hw [] fo h0 n0 Z0 r_fo) d32_6 (lenOf own_pd20 rfl) N0 (fun T2 L2 X2 e2 N2 => ?_)
 show Goes _ _ _ _ _ (fT T2 m 9 #[vi 1, vi 4, vi 4] [(.int 1)])
 refine Gz (XS.pop X2.here hx rfl (hb hby d32_9) rfl rfl) ?_
 refine Goes.ret X2 none (fun _ => rfl) hlk (by decide) (by decide) ?_ (fun fs hr => ?_)
 ·exact ⟨rfl, N2, e2⟩
 ·exact X2.returnOut hx hret (hb hby d32_10) hr
theorem d33_0 : DK kc18 0 (.aload_n 0) 1 := by decide +kernel
theorem d33_1 : DK kc18 1 (.invokevirtual 505) 3 := by decide +kernel
theorem d33_4 : DK kc18 4 (.istore_n 3) 1 := by decide +kernel
theorem d33_5 : DK kc18 5 (.iload_n 1) 1 := by decide +kernel
theorem d33_6 : DK kc18 6 (.iload_n 2) 1 := by decide +kernel
theorem d33_7 : DK kc18 7 (.iload_n 3) 1 := by decide +kernel
theorem d33_8 : DK kc18 8 (.invokestatic 521) 3 := by decide +kernel
theorem own_pd21 : parseMethodDescriptor "(III)V" = some ⟨[.int, .int, .int], none⟩ := by decide +kernel
theorem d33_11 : DK kc18 11 (.iload_n 1) 1 := by decide +kernel
theorem d33_12 : DK kc18 12 (.ifCond .ne 10) 3 := by decide +kernel
theorem d33_22 : DK kc18 22 (.iload_n 2) 1 := by decide +kernel
theorem d33_23 : DK kc18 23 (.iload_n 1) 1 := by decide +kernel
theorem d33_24 : DK kc18 24 .isub 1 := by decide +kernel
theorem d33_25 : DK kc18 25 (.istore 4) 2 := by decide +kernel
theorem d33_27 : DK kc18 27 (.aload_n 0) 1 := by decide +kernel
theorem d33_28 : DK kc18 28 (.invokevirtual 492) 3 := by decide +kernel
theorem d33_31 : DK kc18 31 (.ifCond .eq 16) 3 := by decide +kernel
theorem d33_34 : DK kc18 34 (.aload_n 0) 1 := by decide +kernel
theorem d33_35 : DK kc18 35 (.getfield 9) 3 := by decide +kernel
theorem d33_38 : DK kc18 38 (.iload_n 1) 1 := by decide +kernel
theorem d33_39 : DK kc18 39 (.iload 4) 2 := by decide +kernel
theorem d33_41 : DK kc18 41 (.invokestatic 685) 3 := by decide +kernel
theorem own_pd22 : parseMethodDescriptor "([BII)Ljava/lang/String;" = some ⟨[(.array .byte), .int, .int], some (.object "java/lang/String")⟩ := by decide +kernel
theorem d33_44 : DK kc18 44 (.goto 13) 3 := by decide +kernel
theorem d33_57 : DK kc18 57 .areturn 1 := by decide +kernel
theorem own_ef_rm_sb2 (m : MethodId) (x0 : Addr) : entryFrame m #[(.ref x0), (.int 1), (.int 4)] 5 = mkF m 0 #[vr x0, vi 1, vi 4, vu, vu] [] := by first | (simp [entryFrame, mkF, argsToLocals, Value.category]; done) | rfl
def Q_rm_sb2 (Z : State) (a : Addr) (c0 : Int32) (c1 : Int32) (c2 : Int32) (c3 : Int32) (cz : Int32) (fo : Value) (h0 : Heap) (n0 : Nat) (v : Option Value) (h : Heap) (L : List Loc) : Prop := ∃ u : Addr, v = some (.ref u) ∧ Fr n0 L ∧ Keep h0 h [] ∧ StrOf Z h u [c1, c2, c3] ∧ n0 ≤ u ∧ h0.size ≤ u
theorem rm_sb2 (l : Launch) (Z : State) (a0 : Array Value) (hw : HW a0 Z) (ws : List Jvm.Cond) (a : Addr) (c0 : Int32) (c1 : Int32) (c2 : Int32) (c3 : Int32) (cz : Int32) (fo : Value) (h0 : Heap) (n0 : Nat) (Z0 : n0 ≤ h0.size) (T_a : StrOf Z h0 a [c0, c1, c2, c3]) (sgC : Sta Z h0 "java/lang/String" "COMPACT_STRINGS" "Z" (.int cz)) (hcz : ¬ (cz = 0)) (sgF : Sta Z h0 "jdk/internal/util/Preconditions" "SIOOBE_FORMATTER" "Ljava/util/function/BiFunction;" fo) (r_fo : fo.isRef = true) :
  Met l Z mN33 jdk_42_method_92_code 5 (some (.object "java/lang/String")) ({ frames := 4, cells := 2, slots := 7, locals := 64 } : Room) ws #[(.ref a), (.int 1), (.int 4)] h0 (Q_rm_sb2 Z a c0 c1 c2 c3 cz fo h0 n0) := by
 refine own_met (plainFor_of_name own_pn0) ?_
 intro p e s m below meth c s₁ hret hx hby hlk hml hown hnm X0 e0 hZ hh
 have N0 := Fr.nil n0
 refine Gz (castTop (own_ef_rm_sb2 m a)) ?_
 have KP : Keep h0 h0 [] := Keep.refl _ _
 show Goes _ _ _ _ _ (fT s₁ m 0 #[vr a, vi 1, vi 4, vu, vu] [])
 obtain ⟨vb, kb, A_a, F_value_a, hrep, hlen⟩ := id T_a
 rcases hrep with ⟨F_coder_a, hall, V_vb⟩ | hf
 ·show Goes _ _ _ _ _ (fT s₁ m 0 #[vr a, vi 1, vi 4, vu, vu] [])
  have hL_c1 : Lat c1 := hall c1 (by simp)
  have hL_c2 : Lat c2 := hall c2 (by simp)
  have hL_c3 : Lat c3 := hall c3 (by simp)
  have V_vb : Arv Z h0 vb kb .byte 4 [(.int (lo8 c0)), (.int (lo8 c1)), (.int (lo8 c2)), (.int (lo8 c3))] (.int 0) := V_vb
  refine gA X0 hx hby d33_0 rfl rfl rfl ?_
  refine cV X0 hx hZ hw hown hby hml e0 mN2 131 80 82 81 83 25 0 (rs_len l Z a0 hw [] a [c0, c1, c2, c3] cz h0 n0 Z0 T_a sgC hcz) T_a.exa d33_1 (lenOf own_pd11 rfl) N0 (fun T1 L1 X1 e1 N1 => ?_)
  show Goes _ _ _ _ _ (fT T1 m 4 #[vr a, vi 1, vi 4, vu, vu] [(.int 4)])
  refine gs X1 hx hby d33_4 #[vr a, vi 1, vi 4, vi 4, vu] ?_
  refine gN X1 hx hby d33_5 rfl rfl ?_
  refine gN X1 hx hby d33_6 rfl rfl ?_
  refine gN X1 hx hby d33_7 rfl rfl ?_
  refine cS X1 hx hZ hw hown hby hml e1 mN32 137 138 139 25 0 (rm_cbb l Z a0 hw [] fo h0 n0 Z0 sgF r_fo) d33_8 (lenOf own_pd21 rfl) N1 (fun T2 L2 X2 e2 N2 => ?_)
  show Goes _ _ _ _ _ (fT T2 m 11 #[vr a, vi 1, vi 4, vi 4, vu] [])
  refine gN X2 hx hby d33_11 rfl rfl ?_
  refine gy X2 hx hby d33_12 12 22 ((if0 _ _).trans (feq (by decide : ¬ ((1 : Int32) = (0 : Int32)))).2) ?_
  refine gN X2 hx hby d33_22 rfl rfl ?_
  refine gN X2 hx hby d33_23 rfl rfl ?_
  show Goes _ _ _ _ _ (fT T2 m 24 #[vr a, vi 1, vi 4, vi 4, vu] [(.int 1), (.int 4)])
  refine Gz (XS.isub X2.here hx rfl (hb hby d33_24) rfl) ?_
  show Goes _ _ _ _ _ (fT T2 m 25 #[vr a, vi 1, vi 4, vi 4, vu] [(.int 3)])
  refine gS X2 hx hby d33_25 #[vr a, vi 1, vi 4, vi 4, vi 3] ?_
  refine gA X2 hx hby d33_27 rfl rfl rfl ?_
  refine cV X2 hx hZ hw hown hby hml e2 mN1 145 146 148 147 149 25 0 (rs_isl0 l Z a0 hw [] a cz h0 n0 Z0 F_coder_a sgC hcz) T_a.exa d33_28 (lenOf own_pd3 rfl) N2 (fun T3 L3 X3 e3 N3 => ?_)
  show Goes _ _ _ _ _ (fT T3 m 31 #[vr a, vi 1, vi 4, vi 4, vi 3] [(.int 1)])
  refine gu X3 hx hby d33_31 ((if0 _ _).trans (feq (by decide : ¬ ((1 : Int32) = (0 : Int32)))).1) ?_
  refine gA X3 hx hby d33_34 rfl rfl rfl ?_
  obtain ⟨T4, X4, e4, st4⟩ := getF X3 hx hZ hown (host := "") (Or.inl (gw hw 84 rfl)) Via.refl e3 F_value_a (g := (mkF m 35 #[vr a, vi 1, vi 4, vi 4, vi 3] [(.ref a)])) rfl rfl (hb hby d33_35)
  refine Gs st4 ?_
  show Goes _ _ _ _ _ (fT T4 m 38 #[vr a, vi 1, vi 4, vi 4, vi 3] [(.ref vb)])
  refine gN X4 hx hby d33_38 rfl rfl ?_
  refine gI X4 hx hby d33_39 rfl rfl ?_
  have szs5 : h0.size ≤ h0.size := KP.1
  refine cSg X4 hx hZ hw hown hby hml e4 mN30 150 151 153 152 0 (rm_ns4 l Z a0 hw [] vb kb c0 c1 c2 c3 h0 n0 Z0 V_vb hL_c1 hL_c2 hL_c3) d33_41 (lenOf own_pd22 rfl) (fun _ T5 L5 X5 hQ5 => ?_)
  obtain ⟨u5, rfl, N5q, K5, T_u5_5', g_u5_5', sz_u5_5'⟩ := hQ5
  have N5 := Fr.app N3 N5q
  replace T_a := T_a.keep K5 all0
  replace KP := KP.trans K5 all0
  replace Z0 := Nat.le_trans Z0 K5.1
  have T_u5 := T_u5_5'
  have g_u5 := g_u5_5'
  have szc_u5 := sz_u5_5'
  have sz_u5 : h0.size ≤ u5 := Nat.le_trans szs5 szc_u5
  show Goes _ _ _ _ _ (fT T5 m 44 #[vr a, vi 1, vi 4, vi 4, vi 3] [(.ref u5)])
  refine gG X5 hx hby d33_44 44 57 ?_
  refine Goes.ret X5 (some (.ref u5)) (fun h => by rw [hret] at h; cases h) hlk (by decide) (by decide) ?_ (fun fs hr => ?_)
  ·exact ⟨u5, rfl, N5, KP, T_u5, g_u5, sz_u5⟩
  ·exact own_retA X5 hx hret rfl rfl (hb hby d33_57) hr
 ·exact hf.elim
theorem d34_0 : DK kc17 0 (.aload_n 0) 1 := by decide +kernel
theorem d34_1 : DK kc17 1 (.iload_n 1) 1 := by decide +kernel
theorem d34_2 : DK kc17 2 (.aload_n 0) 1 := by decide +kernel
theorem d34_3 : DK kc17 3 (.invokevirtual 505) 3 := by decide +kernel
theorem d34_6 : DK kc17 6 (.invokevirtual 681) 3 := by decide +kernel
theorem own_pd23 : parseMethodDescriptor "(II)Ljava/lang/String;" = some ⟨[.int, .int], some (.object "java/lang/String")⟩ := by decide +kernel
theorem d34_9 : DK kc17 9 .areturn 1 := by decide +kernel
theorem own_ef_rm_sb1 (m : MethodId) (x0 : Addr) : entryFrame m #[(.ref x0), (.int 1)] 2 = mkF m 0 #[vr x0, vi 1] [] := by first | (simp [entryFrame, mkF, argsToLocals, Value.category]; done) | rfl
def Q_rm_sb1 (Z : State) (a : Addr) (c0 : Int32) (c1 : Int32) (c2 : Int32) (c3 : Int32) (cz : Int32) (fo : Value) (h0 : Heap) (n0 : Nat) (v : Option Value) (h : Heap) (L : List Loc) : Prop := ∃ u : Addr, v = some (.ref u) ∧ Fr n0 L ∧ Keep h0 h [] ∧ StrOf Z h u [c1, c2, c3] ∧ n0 ≤ u ∧ h0.size ≤ u
theorem rm_sb1 (l : Launch) (Z : State) (a0 : Array Value) (hw : HW a0 Z) (ws : List Jvm.Cond) (a : Addr) (c0 : Int32) (c1 : Int32) (c2 : Int32) (c3 : Int32) (cz : Int32) (fo : Value) (h0 : Heap) (n0 : Nat) (Z0 : n0 ≤ h0.size) (T_a : StrOf Z h0 a [c0, c1, c2, c3]) (sgC : Sta Z h0 "java/lang/String" "COMPACT_STRINGS" "Z" (.int cz)) (hcz : ¬ (cz = 0)) (sgF : Sta Z h0 "jdk/internal/util/Preconditions" "SIOOBE_FORMATTER" "Ljava/util/function/BiFunction;" fo) (r_fo : fo.isRef = true) :
  Met l Z mN34 jdk_42_method_91_code 2 (some (.object "java/lang/String")) ({ frames := 5, cells := 2, slots := 7, locals := 80 } : Room) ws #[(.ref a), (.int 1)] h0 (Q_rm_sb1 Z a c0 c1 c2 c3 cz fo h0 n0) := by
 refine own_met (plainFor_of_name own_pn0) ?_
 intro p e s m below meth c s₁ hret hx hby hlk hml hown hnm X0 e0 hZ hh
 have N0 := Fr.nil n0
 refine Gz (castTop (own_ef_rm_sb1 m a)) ?_
 have KP : Keep h0 h0 [] := Keep.refl _ _
 show Goes _ _ _ _ _ (fT s₁ m 0 #[vr a, vi 1] [])
 refine gA X0 hx hby d34_0 rfl rfl rfl ?_
 refine gN X0 hx hby d34_1 rfl rfl ?_
 refine gA X0 hx hby d34_2 rfl rfl rfl ?_
 refine cV X0 hx hZ hw hown hby hml e0 mN2 131 80 82 81 83 25 2 (rs_len l Z a0 hw [] a [c0, c1, c2, c3] cz h0 n0 Z0 T_a sgC hcz) T_a.exa d34_3 (lenOf own_pd11 rfl) N0 (fun T1 L1 X1 e1 N1 => ?_)
 show Goes _ _ _ _ _ (fT T1 m 6 #[vr a, vi 1] [(.int 4), (.int 1), (.ref a)])
 have szs2 : h0.size ≤ h0.size := KP.1
 refine cVg X1 hx hZ hw hown hby hml e1 mN33 132 133 135 134 136 25 0 (rm_sb2 l Z a0 hw [] a c0 c1 c2 c3 cz fo h0 n0 Z0 T_a sgC hcz sgF r_fo) T_a.exa d34_6 (lenOf own_pd23 rfl) (fun _ T2 L2 X2 hQ2 => ?_)
 obtain ⟨u2, rfl, N2q, K2, T_u2_2', g_u2_2', sz_u2_2'⟩ := hQ2
 have N2 := Fr.app N1 N2q
 replace T_a := T_a.keep K2 all0
 replace KP := KP.trans K2 all0
 replace Z0 := Nat.le_trans Z0 K2.1
 have T_u2 := T_u2_2'
 have g_u2 := g_u2_2'
 have szc_u2 := sz_u2_2'
 have sz_u2 : h0.size ≤ u2 := Nat.le_trans szs2 szc_u2
 show Goes _ _ _ _ _ (fT T2 m 9 #[vr a, vi 1] [(.ref u2)])
 refine Goes.ret X2 (some (.ref u2)) (fun h => by rw [hret] at h; cases h) hlk (by decide) (by decide) ?_ (fun fs hr => ?_)
 ·exact ⟨u2, rfl, N2, KP, T_u2, g_u2, sz_u2⟩
 ·exact own_retA X2 hx hret rfl rfl (hb hby d34_9) hr
theorem d23_9 : DK kc1 9 (.iload_n 1) 1 := by decide +kernel
theorem own_ef_rm_mnl (m : MethodId) (x0 : Int32) (x1 : Int32) : entryFrame m #[(.int x0), (.int x1)] 2 = mkF m 0 #[vi x0, vi x1] [] := by first | (simp [entryFrame, mkF, argsToLocals, Value.category]; done) | rfl
def Q_rm_mnl (Z : State) (x : Int32) (y : Int32) (h0 : Heap) (n0 : Nat) (v : Option Value) (h : Heap) (L : List Loc) : Prop := v = some (.int y) ∧ Fr n0 L ∧ h = h0
theorem rm_mnl (l : Launch) (Z : State) (a0 : Array Value) (hw : HW a0 Z) (ws : List Jvm.Cond) (x : Int32) (y : Int32) (h0 : Heap) (n0 : Nat) (Z0 : n0 ≤ h0.size) (hlt : y < x) :
  Met l Z mN23 jdk_29_method_69_code 2 (some .int) ({ frames := 0, cells := 0, slots := 0, locals := 0 } : Room) ws #[(.int x), (.int y)] h0 (Q_rm_mnl Z x y h0 n0) := by
 refine own_met (Jvm.Free.JP.mathPlain rfl (by decide +kernel)) ?_
 intro p e s m below meth c s₁ hret hx hby hlk hml hown hnm X0 e0 hZ hh
 have N0 := Fr.nil n0
 refine Gz (castTop (own_ef_rm_mnl m x y)) ?_
 show Goes _ _ _ _ _ (fT s₁ m 0 #[vi x, vi y] [])
 refine gN X0 hx hby d23_0 rfl rfl ?_
 refine gN X0 hx hby d23_1 rfl rfl ?_
 refine gY X0 hx hby d23_2 2 9 (tlt hlt).2.2.1 ?_
 refine gN X0 hx hby d23_9 rfl rfl ?_
 refine Goes.ret X0 (some (.int y)) (fun h => by rw [hret] at h; cases h) hlk (by decide) (by decide) ?_ (fun fs hr => ?_)
 ·exact ⟨rfl, N0, e0⟩
 ·exact retI X0 hx hret (hb hby d23_10) hr
theorem own_ef_rm_crb (m : MethodId) (x0 : Addr) (x2 : Int32) : entryFrame m #[(.ref x0), (.int 0), (.int x2)] 5 = mkF m 0 #[vr x0, vi 0, vi x2, vu, vu] [] := by first | (simp [entryFrame, mkF, argsToLocals, Value.category]; done) | rfl
def Q_rm_crb (Z : State) (b : Addr) (kb : ClassId) (ys : List Int32) (cn : Nat) (z : Int32) (h0 : Heap) (n0 : Nat) (v : Option Value) (h : Heap) (L : List Loc) : Prop := ∃ y : Addr, ∃ ky : ClassId, v = some (.ref y) ∧ Fr n0 L ∧ Keep h0 h [] ∧ Arv Z h y ky .byte (Int32.ofNat cn) (latV ys) (.int 0) ∧ n0 ≤ y ∧ h0.size ≤ y
theorem rm_crb (l : Launch) (Z : State) (a0 : Array Value) (hw : HW a0 Z) (ws : List Jvm.Cond) (b : Addr) (kb : ClassId) (ys : List Int32) (cn : Nat) (z : Int32) (h0 : Heap) (n0 : Nat) (Z0 : n0 ≤ h0.size) (V_b : Arv Z h0 b kb .byte z (latV ys) (.int 0)) (hcn : cn = ys.length) (hlt : cn < z.toNatClampNeg) (hz : z.toNatClampNeg ≤ 34) :
  Met l Z mN28 jdk_65_method_133_code 5 (some (.array .byte)) ({ frames := 1, cells := 1, slots := 34, locals := 18 } : Room) ws #[(.ref b), (.int 0), (.int (Int32.ofNat cn))] h0 (Q_rm_crb Z b kb ys cn z h0 n0) := by
 refine own_met (plainFor_of_name own_pn7) ?_
 intro p e s m below meth c s₁ hret hx hby hlk hml hown hnm X0 e0 hZ hh
 have N0 := Fr.nil n0
 refine Gz (castTop (own_ef_rm_crb m b (Int32.ofNat cn))) ?_
 have KP : Keep h0 h0 [] := Keep.refl _ _
 show Goes _ _ _ _ _ (fT s₁ m 0 #[vr b, vi 0, vi (Int32.ofNat cn), vu, vu] [])
 have oc := own_tnO (n := cn) (by omega)
 have hltz := own_ltZ (own_nz V_b) hlt (by omega)
 have tn0 : (0 : Int32).toNatClampNeg = 0 := by decide
 refine gN X0 hx hby d28_0 rfl rfl ?_
 refine gN X0 hx hby d28_1 rfl rfl ?_
 refine cS X0 hx hZ hw hown hby hml e0 mN27 162 163 164 157 0 (rm_ckl l Z a0 hw [] (0 : Int32) (Int32.ofNat cn) h0 n0 Z0 oc.2.1) d28_2 (lenOf own_pd2 rfl) N0 (fun T1 L1 X1 e1 N1 => ?_)
 show Goes _ _ _ _ _ (fT T1 m 5 #[vr b, vi 0, vi (Int32.ofNat cn), vu, vu] [])
 refine gN X1 hx hby d28_5 rfl rfl ?_
 refine gN X1 hx hby d28_6 rfl rfl ?_
 show Goes _ _ _ _ _ (fT T1 m 7 #[vr b, vi 0, vi (Int32.ofNat cn), vu, vu] [(.int 0), (.int (Int32.ofNat cn))])
 refine Gz (XS.isub X1.here hx rfl (hb hby d28_7) rfl) ?_
 show Goes _ _ _ _ _ (fT T1 m 8 #[vr b, vi 0, vi (Int32.ofNat cn), vu, vu] [(.int ((Int32.ofNat cn) - 0))])
 rw [Int32.sub_zero]
 show Goes _ _ _ _ _ (fT T1 m 8 #[vr b, vi 0, vi (Int32.ofNat cn), vu, vu] [(.int (Int32.ofNat cn))])
 refine gs X1 hx hby d28_8 #[vr b, vi 0, vi (Int32.ofNat cn), vi (Int32.ofNat cn), vu] ?_
 refine gN X1 hx hby d28_9 rfl rfl ?_
 obtain ⟨T2, h2, k2, X2, e2, E2, A2, st2⟩ := newP X1 hx hZ (gw hw 26 rfl) e1 (g := (mkF m 10 #[vr b, vi 0, vi (Int32.ofNat cn), vi (Int32.ofNat cn), vu] [(.int (Int32.ofNat cn))])) rfl (hb hby d28_10) rfl oc.2.1 (cap := 34) (by rw [oc.1]; omega) (by decide) (by decide) (by decide)
 obtain ⟨b2, gq2⟩ : ∃ z, z = h0.size := ⟨_, rfl⟩
 rw [← gq2] at A2 st2
 have g_b2 : n0 ≤ b2 := by rw [gq2]; exact Z0
 have sz_b2 : h0.size ≤ b2 := by rw [gq2]; exact KP.1
 have ne_b_b2 : b ≠ b2 := by rw [gq2]; exact Nat.ne_of_lt V_b.lt
 replace V_b := V_b.ext E2
 replace KP := KP.ext E2
 replace Z0 : n0 ≤ h2.size := Nat.le_trans Z0 E2.1
 have V_b2 : Arv Z h2 b2 k2 .byte (Int32.ofNat cn) [] (.int 0) := Arv.new A2 oc.2.1
 refine Gs st2 ?_
 show Goes _ _ _ _ _ (fT T2 m 12 #[vr b, vi 0, vi (Int32.ofNat cn), vi (Int32.ofNat cn), vu] [(.ref b2)])
 refine Gz (XS.astore X2.here hx rfl (hb hby d28_12) rfl rfl (l' := #[vr b, vi 0, vi (Int32.ofNat cn), vi (Int32.ofNat cn), vr b2]) rfl) ?_
 refine gA X2 hx hby d28_14 rfl rfl rfl ?_
 refine gN X2 hx hby d28_15 rfl rfl ?_
 refine Gz (XS.aload X2.here hx rfl (hb hby d28_16) rfl rfl) ?_
 refine gC X2 hx hby d28_18 ?_
 refine gA X2 hx hby d28_19 rfl rfl rfl ?_
 show Goes _ _ _ _ _ (fT T2 m 20 #[vr b, vi 0, vi (Int32.ofNat cn), vi (Int32.ofNat cn), vr b2] [(.ref b), (.int 0), (.ref b2), (.int 0), (.ref b)])
 obtain ⟨cl3, Ar3, -, S3, N3z, -, -⟩ := id V_b
 refine Gs (fun _ tk => X2.arraylength hx (by rw [e2]; exact Ar3.1) (State.isArrayOf_alike hZ.alike Ar3.2.1) (g := (mkF m 20 #[vr b, vi 0, vi (Int32.ofNat cn), vi (Int32.ofNat cn), vr b2] [(.ref b), (.int 0), (.ref b2), (.int 0), (.ref b)])) rfl rfl (hb hby d28_20) _ tk) ?_
 rw [len_of S3 N3z]
 show Goes _ _ _ _ _ (fT T2 m 21 #[vr b, vi 0, vi (Int32.ofNat cn), vi (Int32.ofNat cn), vr b2] [(.int z), (.int 0), (.ref b2), (.int 0), (.ref b)])
 refine gN X2 hx hby d28_21 rfl rfl ?_
 show Goes _ _ _ _ _ (fT T2 m 22 #[vr b, vi 0, vi (Int32.ofNat cn), vi (Int32.ofNat cn), vr b2] [(.int 0), (.int z), (.int 0), (.ref b2), (.int 0), (.ref b)])
 refine Gz (XS.isub X2.here hx rfl (hb hby d28_22) rfl) ?_
 show Goes _ _ _ _ _ (fT T2 m 23 #[vr b, vi 0, vi (Int32.ofNat cn), vi (Int32.ofNat cn), vr b2] [(.int (z - 0)), (.int 0), (.ref b2), (.int 0), (.ref b)])
 rw [Int32.sub_zero]
 show Goes _ _ _ _ _ (fT T2 m 23 #[vr b, vi 0, vi (Int32.ofNat cn), vi (Int32.ofNat cn), vr b2] [(.int z), (.int 0), (.ref b2), (.int 0), (.ref b)])
 refine gN X2 hx hby d28_23 rfl rfl ?_
 refine cS X2 hx hZ hw hown hby hml e2 mN23 165 166 168 167 4 (rm_mnl l Z a0 hw [] z (Int32.ofNat cn) h2 n0 Z0 hltz) d28_24 (lenOf own_pd14 rfl) N1 (fun T4 L4 X4 e4 N4 => ?_)
 show Goes _ _ _ _ _ (fT T4 m 27 #[vr b, vi 0, vi (Int32.ofNat cn), vi (Int32.ofNat cn), vr b2] [(.int (Int32.ofNat cn)), (.int 0), (.ref b2), (.int 0), (.ref b)])
 replace V_b2 := own_padN V_b2 cn
 rw [List.nil_append] at V_b2
 obtain ⟨T5, h5, L5, X5, e5, N5, K5, Vn5, st5⟩ := cpA X4 hx hZ hown (gw hw 169 rfl) (gw hw 111 rfl) (gw hw 109 rfl) (gw hw 110 rfl) e4 V_b V_b2 (us := (latV ys)) (Or.inl ⟨rfl, rfl⟩) (by decide) (by decide) oc.2.1 (by rw [tn0, oc.1]; omega) (by rw [tn0, oc.1]; omega) (by rw [tn0, oc.1, hcn]; exact own_rgL ys 0) (by rw [tn0, oc.1, List.length_replicate]; omega) N4 g_b2 (g := (mkF m 27 #[vr b, vi 0, vi (Int32.ofNat cn), vi (Int32.ofNat cn), vr b2] [(.int (Int32.ofNat cn)), (.int 0), (.ref b2), (.int 0), (.ref b)])) rfl hml.symm rfl (hb hby d28_27) (by decide) (W := 0) (wz rfl) (by decide)
 replace KP := KP.trans K5 (allS (Or.inr sz_b2) all0)
 replace Z0 := Nat.le_trans Z0 K5.1
 have V_b2 : Arv Z h5 b2 _ .byte (Int32.ofNat cn) (latV ys) (.int 0) := own_arvE Vn5 (by rw [tn0, oc.1]; exact own_cpN ys hcn)
 refine Gs st5 ?_
 show Goes _ _ _ _ _ (fT T5 m 30 #[vr b, vi 0, vi (Int32.ofNat cn), vi (Int32.ofNat cn), vr b2] [])
 refine Gz (XS.aload X5.here hx rfl (hb hby d28_30) rfl rfl) ?_
 refine Goes.ret X5 (some (.ref b2)) (fun h => by rw [hret] at h; cases h) hlk (by decide) (by decide) ?_ (fun fs hr => ?_)
 ·rw [e5]; exact ⟨b2, k2, rfl, N5, KP, V_b2, g_b2, sz_b2⟩
 ·exact own_retA X5 hx hret rfl rfl (hb hby d28_32) hr
theorem d29_4 : DK kc24 4 (.iload_n 2) 1 := by decide +kernel
theorem d29_5 : DK kc24 5 (.aload_n 0) 1 := by decide +kernel
theorem d29_6 : DK kc24 6 .arraylength 1 := by decide +kernel
theorem d29_7 : DK kc24 7 (.if_icmp .eq 10) 3 := by decide +kernel
theorem own_ef_rm_cor (m : MethodId) (x0 : Addr) (x2 : Int32) : entryFrame m #[(.ref x0), (.int 0), (.int x2)] 3 = mkF m 0 #[vr x0, vi 0, vi x2] [] := by first | (simp [entryFrame, mkF, argsToLocals, Value.category]; done) | rfl
def Q_rm_cor (Z : State) (b : Addr) (kb : ClassId) (ys : List Int32) (cn : Nat) (z : Int32) (h0 : Heap) (n0 : Nat) (v : Option Value) (h : Heap) (L : List Loc) : Prop := ∃ y : Addr, ∃ ky : ClassId, v = some (.ref y) ∧ Fr n0 L ∧ Keep h0 h [] ∧ Arv Z h y ky .byte (Int32.ofNat cn) (latV ys) (.int 0) ∧ n0 ≤ y ∧ h0.size ≤ y
theorem rm_cor (l : Launch) (Z : State) (a0 : Array Value) (hw : HW a0 Z) (ws : List Jvm.Cond) (b : Addr) (kb : ClassId) (ys : List Int32) (cn : Nat) (z : Int32) (h0 : Heap) (n0 : Nat) (Z0 : n0 ≤ h0.size) (V_b : Arv Z h0 b kb .byte z (latV ys) (.int 0)) (hcn : cn = ys.length) (hlt : cn < z.toNatClampNeg) (hz : z.toNatClampNeg ≤ 34) :
  Met l Z mN29 jdk_65_method_132_code 3 (some (.array .byte)) ({ frames := 2, cells := 1, slots := 34, locals := 34 } : Room) ws #[(.ref b), (.int 0), (.int (Int32.ofNat cn))] h0 (Q_rm_cor Z b kb ys cn z h0 n0) := by
 refine own_met (plainFor_of_name own_pn7) ?_
 intro p e s m below meth c s₁ hret hx hby hlk hml hown hnm X0 e0 hZ hh
 have N0 := Fr.nil n0
 refine Gz (castTop (own_ef_rm_cor m b (Int32.ofNat cn))) ?_
 have KP : Keep h0 h0 [] := Keep.refl _ _
 show Goes _ _ _ _ _ (fT s₁ m 0 #[vr b, vi 0, vi (Int32.ofNat cn)] [])
 have hltz := own_neZ (own_ltZ (own_nz V_b) hlt (by omega))
 refine gN X0 hx hby d29_0 rfl rfl ?_
 refine gu X0 hx hby d29_1 ((if0 _ _).trans (teq (by decide : ((0 : Int32) = (0 : Int32)))).2) ?_
 refine gN X0 hx hby d29_4 rfl rfl ?_
 refine gA X0 hx hby d29_5 rfl rfl rfl ?_
 obtain ⟨cl1, Ar1, -, S1, N1z, -, -⟩ := id V_b
 refine Gs (fun _ tk => X0.arraylength hx (by rw [e0]; exact Ar1.1) (State.isArrayOf_alike hZ.alike Ar1.2.1) (g := (mkF m 6 #[vr b, vi 0, vi (Int32.ofNat cn)] [(.ref b), (.int (Int32.ofNat cn))])) rfl rfl (hb hby d29_6) _ tk) ?_
 rw [len_of S1 N1z]
 show Goes _ _ _ _ _ (fT s₁ m 7 #[vr b, vi 0, vi (Int32.ofNat cn)] [(.int z), (.int (Int32.ofNat cn))])
 refine gU X0 hx hby d29_7 (feq hltz).1 ?_
 refine gA X0 hx hby d29_10 rfl rfl rfl ?_
 refine gN X0 hx hby d29_11 rfl rfl ?_
 refine gN X0 hx hby d29_12 rfl rfl ?_
 have ltc2_b : b < h0.size := V_b.lt
 have szs2 : h0.size ≤ h0.size := KP.1
 refine cSg X0 hx hZ hw hown hby hml e0 mN28 159 160 161 157 0 (rm_crb l Z a0 hw [] b kb ys cn z h0 n0 Z0 V_b hcn hlt hz) d29_13 (lenOf own_pd19 rfl) (fun _ T2 L2 X2 hQ2 => ?_)
 obtain ⟨y2, ky2, rfl, N2q, K2, V_y2_2', g_y2_2', sz_y2_2'⟩ := hQ2
 have N2 := Fr.app N0 N2q
 replace KP := KP.trans K2 all0
 replace Z0 := Nat.le_trans Z0 K2.1
 have V_y2 := V_y2_2'
 have g_y2 := g_y2_2'
 have szc_y2 := sz_y2_2'
 have ne_b_y2 : b ≠ y2 := Nat.ne_of_lt (Nat.lt_of_lt_of_le ltc2_b szc_y2)
 have sz_y2 : h0.size ≤ y2 := Nat.le_trans szs2 szc_y2
 show Goes _ _ _ _ _ (fT T2 m 16 #[vr b, vi 0, vi (Int32.ofNat cn)] [(.ref y2)])
 refine Goes.ret X2 (some (.ref y2)) (fun h => by rw [hret] at h; cases h) hlk (by decide) (by decide) ?_ (fun fs hr => ?_)
 ·exact ⟨y2, ky2, rfl, N2, KP, V_y2, g_y2, sz_y2⟩
 ·exact own_retA X2 hx hret rfl rfl (hb hby d29_16) hr
theorem d29_17 : DK kc24 17 (.aload_n 0) 1 := by decide +kernel
theorem d29_18 : DK kc24 18 (.invokevirtual 310) 3 := by decide +kernel
theorem d29_21 : DK kc24 21 (.checkcast 311) 3 := by decide +kernel
theorem d29_24 : DK kc24 24 .areturn 1 := by decide +kernel
theorem own_ef_rm_core (m : MethodId) (x0 : Addr) (x2 : Int32) : entryFrame m #[(.ref x0), (.int 0), (.int x2)] 3 = mkF m 0 #[vr x0, vi 0, vi x2] [] := by first | (simp [entryFrame, mkF, argsToLocals, Value.category]; done) | rfl
def Q_rm_core (Z : State) (b : Addr) (kb : ClassId) (ys : List Int32) (cn : Nat) (z : Int32) (h0 : Heap) (n0 : Nat) (v : Option Value) (h : Heap) (L : List Loc) : Prop := ∃ y : Addr, ∃ ky : ClassId, v = some (.ref y) ∧ Fr n0 L ∧ Keep h0 h [] ∧ Arv Z h y ky .byte (Int32.ofNat cn) (latV ys) (.int 0) ∧ n0 ≤ y ∧ h0.size ≤ y
theorem rm_core (l : Launch) (Z : State) (a0 : Array Value) (hw : HW a0 Z) (ws : List Jvm.Cond) (b : Addr) (kb : ClassId) (ys : List Int32) (cn : Nat) (z : Int32) (h0 : Heap) (n0 : Nat) (Z0 : n0 ≤ h0.size) (V_b : Arv Z h0 b kb .byte z (latV ys) (.int 0)) (A_b : Exa Z h0 b "[B") (hcn : cn = ys.length) (hlt : cn = z.toNatClampNeg) (hz : z.toNatClampNeg ≤ 34) :
  Met l Z mN29 jdk_65_method_132_code 3 (some (.array .byte)) ({ frames := 1, cells := 1, slots := 34, locals := 14 } : Room) ws #[(.ref b), (.int 0), (.int (Int32.ofNat cn))] h0 (Q_rm_core Z b kb ys cn z h0 n0) := by
 refine own_met (plainFor_of_name own_pn7) ?_
 intro p e s m below meth c s₁ hret hx hby hlk hml hown hnm X0 e0 hZ hh
 have N0 := Fr.nil n0
 refine Gz (castTop (own_ef_rm_core m b (Int32.ofNat cn))) ?_
 have KP : Keep h0 h0 [] := Keep.refl _ _
 show Goes _ _ _ _ _ (fT s₁ m 0 #[vr b, vi 0, vi (Int32.ofNat cn)] [])
 have ez : Int32.ofNat cn = z := by rw [hlt]; exact (back32 (own_nz V_b)).1
 refine gN X0 hx hby d29_0 rfl rfl ?_
 refine gu X0 hx hby d29_1 ((if0 _ _).trans (teq (by decide : ((0 : Int32) = (0 : Int32)))).2) ?_
 refine gN X0 hx hby d29_4 rfl rfl ?_
 refine gA X0 hx hby d29_5 rfl rfl rfl ?_
 obtain ⟨cl1, Ar1, -, S1, N1z, -, -⟩ := id V_b
 refine Gs (fun _ tk => X0.arraylength hx (by rw [e0]; exact Ar1.1) (State.isArrayOf_alike hZ.alike Ar1.2.1) (g := (mkF m 6 #[vr b, vi 0, vi (Int32.ofNat cn)] [(.ref b), (.int (Int32.ofNat cn))])) rfl rfl (hb hby d29_6) _ tk) ?_
 rw [len_of S1 N1z]
 show Goes _ _ _ _ _ (fT s₁ m 7 #[vr b, vi 0, vi (Int32.ofNat cn)] [(.int z), (.int (Int32.ofNat cn))])
 refine gY X0 hx hby d29_7 7 17 (teq ez).1 ?_
 refine gA X0 hx hby d29_17 rfl rfl rfl ?_
 obtain ⟨T2, h2, X2, e2, E2, A2, AE2, st2⟩ := cloneH X0 hx hZ hown (gw hw 252 rfl) (gw hw 253 rfl) (gw hw 257 rfl) (gw hw 255 rfl) (gw hw 256 rfl) (gw hw 258 rfl) e0 V_b.arh A_b (g := (mkF m 18 #[vr b, vi 0, vi (Int32.ofNat cn)] [(.ref b)])) rfl hml.symm rfl (hb hby d29_18) (by decide) (W := 0) (cap := 34) (wz rfl) (by decide) hz (by decide) (by decide)
 obtain ⟨b2, gq2⟩ : ∃ z, z = h0.size := ⟨_, rfl⟩
 rw [← gq2] at A2 st2 AE2
 have g_b2 : n0 ≤ b2 := by rw [gq2]; exact Z0
 have sz_b2 : h0.size ≤ b2 := by rw [gq2]; exact KP.1
 replace KP := KP.ext E2
 replace Z0 : n0 ≤ h2.size := Nat.le_trans Z0 E2.1
 have V_b2 : Arv Z h2 b2 kb .byte (Int32.ofNat cn) (latV ys) (.int 0) := by rw [ez]; exact A2
 have A_b2 : Exa Z h2 b2 "[B" := AE2
 refine Gs st2 ?_
 show Goes _ _ _ _ _ (fT T2 m 21 #[vr b, vi 0, vi (Int32.ofNat cn)] [(.ref b2)])
 obtain ⟨T3, X3, e3, st3⟩ := castY X2 hx hZ hown (gw hw 259 rfl) e2 (Ins.self A_b2) (g := (mkF m 21 #[vr b, vi 0, vi (Int32.ofNat cn)] [(.ref b2)])) rfl rfl (hb hby d29_21)
 refine Gs st3 ?_
 show Goes _ _ _ _ _ (fT T3 m 24 #[vr b, vi 0, vi (Int32.ofNat cn)] [(.ref b2)])
 refine Goes.ret X3 (some (.ref b2)) (fun h => by rw [hret] at h; cases h) hlk (by decide) (by decide) ?_ (fun fs hr => ?_)
 ·rw [e3]; exact ⟨b2, kb, rfl, N0, KP, V_b2, g_b2, sz_b2⟩
 ·exact own_retA X3 hx hret rfl rfl (hb hby d29_24) hr
theorem d35_0 : DK kc35 0 (.aload_n 0) 1 := by decide +kernel
theorem d35_1 : DK kc35 1 (.getfield 15) 3 := by decide +kernel
theorem d35_4 : DK kc35 4 .areturn 1 := by decide +kernel
theorem own_ef_rm_gv (m : MethodId) (x0 : Addr) : entryFrame m #[(.ref x0)] 1 = mkF m 0 #[vr x0] [] := by first | (simp [entryFrame, mkF, argsToLocals, Value.category]; done) | rfl
def Q_rm_gv (Z : State) (a : Addr) (b : Addr) (h0 : Heap) (n0 : Nat) (v : Option Value) (h : Heap) (L : List Loc) : Prop := v = some (.ref b) ∧ Fr n0 L ∧ h = h0
theorem rm_gv (l : Launch) (Z : State) (a0 : Array Value) (hw : HW a0 Z) (ws : List Jvm.Cond) (a : Addr) (b : Addr) (h0 : Heap) (n0 : Nat) (Z0 : n0 ≤ h0.size) (F_value_a : Fld Z h0 a "java/lang/AbstractStringBuilder" "value" "[B" (.ref b)) :
  Met l Z mN35 jdk_68_method_64_code 1 (some (.array .byte)) ({ frames := 0, cells := 0, slots := 0, locals := 0 } : Room) ws #[(.ref a)] h0 (Q_rm_gv Z a b h0 n0) := by
 refine own_met (plainFor_of_name own_pn4) ?_
 intro p e s m below meth c s₁ hret hx hby hlk hml hown hnm X0 e0 hZ hh
 have N0 := Fr.nil n0
 refine Gz (castTop (own_ef_rm_gv m a)) ?_
 show Goes _ _ _ _ _ (fT s₁ m 0 #[vr a] [])
 refine gA X0 hx hby d35_0 rfl rfl rfl ?_
 obtain ⟨T1, X1, e1, st1⟩ := getF X0 hx hZ hown (host := "") (Or.inl (gw hw 27 rfl)) Via.refl e0 F_value_a (g := (mkF m 1 #[vr a] [(.ref a)])) rfl rfl (hb hby d35_1)
 refine Gs st1 ?_
 show Goes _ _ _ _ _ (fT T1 m 4 #[vr a] [(.ref b)])
 refine Goes.ret X1 (some (.ref b)) (fun h => by rw [hret] at h; cases h) hlk (by decide) (by decide) ?_ (fun fs hr => ?_)
 ·exact ⟨rfl, N0, e1⟩
 ·exact own_retA X1 hx hret rfl rfl (hb hby d35_4) hr
theorem d36_0 : DK kc37 0 (.aload_n 0) 1 := by decide +kernel
theorem d36_1 : DK kc37 1 (.getfield 79) 3 := by decide +kernel
theorem d36_4 : DK kc37 4 .ireturn 1 := by decide +kernel
theorem own_ef_rm_al (m : MethodId) (x0 : Addr) : entryFrame m #[(.ref x0)] 1 = mkF m 0 #[vr x0] [] := by first | (simp [entryFrame, mkF, argsToLocals, Value.category]; done) | rfl
def Q_rm_al (Z : State) (a : Addr) (cn : Nat) (h0 : Heap) (n0 : Nat) (v : Option Value) (h : Heap) (L : List Loc) : Prop := v = some (.int (Int32.ofNat cn)) ∧ Fr n0 L ∧ h = h0
theorem rm_al (l : Launch) (Z : State) (a0 : Array Value) (hw : HW a0 Z) (ws : List Jvm.Cond) (a : Addr) (cn : Nat) (h0 : Heap) (n0 : Nat) (Z0 : n0 ≤ h0.size) (F_count_a : Fld Z h0 a "java/lang/AbstractStringBuilder" "count" "I" (.int (Int32.ofNat cn))) :
  Met l Z mN36 jdk_68_method_6_code 1 (some .int) ({ frames := 0, cells := 0, slots := 0, locals := 0 } : Room) ws #[(.ref a)] h0 (Q_rm_al Z a cn h0 n0) := by
 refine own_met (plainFor_of_name own_pn4) ?_
 intro p e s m below meth c s₁ hret hx hby hlk hml hown hnm X0 e0 hZ hh
 have N0 := Fr.nil n0
 refine Gz (castTop (own_ef_rm_al m a)) ?_
 show Goes _ _ _ _ _ (fT s₁ m 0 #[vr a] [])
 refine gA X0 hx hby d36_0 rfl rfl rfl ?_
 obtain ⟨T1, X1, e1, st1⟩ := getF X0 hx hZ hown (host := "") (Or.inl (gw hw 41 rfl)) Via.refl e0 F_count_a (g := (mkF m 1 #[vr a] [(.ref a)])) rfl rfl (hb hby d36_1)
 refine Gs st1 ?_
 show Goes _ _ _ _ _ (fT T1 m 4 #[vr a] [(.int (Int32.ofNat cn))])
 refine Goes.ret X1 (some (.int (Int32.ofNat cn))) (fun h => by rw [hret] at h; cases h) hlk (by decide) (by decide) ?_ (fun fs hr => ?_)
 ·exact ⟨rfl, N0, e1⟩
 ·exact retI X1 hx hret (hb hby d36_4) hr
theorem d37_0 : DK kc30 0 (.aload_n 0) 1 := by decide +kernel
theorem d37_1 : DK kc30 1 (.invokespecial 343) 3 := by decide +kernel
theorem d37_4 : DK kc30 4 .ireturn 1 := by decide +kernel
theorem own_ef_rm_sl (m : MethodId) (x0 : Addr) : entryFrame m #[(.ref x0)] 1 = mkF m 0 #[vr x0] [] := by first | (simp [entryFrame, mkF, argsToLocals, Value.category]; done) | rfl
def Q_rm_sl (Z : State) (a : Addr) (cn : Nat) (h0 : Heap) (n0 : Nat) (v : Option Value) (h : Heap) (L : List Loc) : Prop := v = some (.int (Int32.ofNat cn)) ∧ Fr n0 L ∧ h = h0
theorem rm_sl (l : Launch) (Z : State) (a0 : Array Value) (hw : HW a0 Z) (ws : List Jvm.Cond) (a : Addr) (cn : Nat) (h0 : Heap) (n0 : Nat) (Z0 : n0 ≤ h0.size) (A_a : Exa Z h0 a "java/lang/StringBuilder") (F_count_a : Fld Z h0 a "java/lang/AbstractStringBuilder" "count" "I" (.int (Int32.ofNat cn))) :
  Met l Z mN37 jdk_67_method_93_code 1 (some .int) ({ frames := 1, cells := 0, slots := 0, locals := 12 } : Room) ws #[(.ref a)] h0 (Q_rm_sl Z a cn h0 n0) := by
 refine own_met (plainFor_of_name own_pn5) ?_
 intro p e s m below meth c s₁ hret hx hby hlk hml hown hnm X0 e0 hZ hh
 have N0 := Fr.nil n0
 refine Gz (castTop (own_ef_rm_sl m a)) ?_
 show Goes _ _ _ _ _ (fT s₁ m 0 #[vr a] [])
 refine gA X0 hx hby d37_0 rfl rfl rfl ?_
 obtain ⟨_, _, ⟨T1, L1, k1, n1⟩, -, X1, ⟨Lc1, hQ1, l1, y1, z1⟩, st1⟩ := superBack X0 hx hZ (K := "java/lang/StringBuilder") (y := mN36) hown (gw hw 194 rfl) (own_sameM (gw hw 190 rfl) (gw hw 51 rfl) (by decide)) (gw hw 190 rfl) (gw hw 38 rfl) (by decide) (backOf (W := 0) (rm_al l Z a0 hw [] a cn h0 n0 Z0 F_count_a) hZ (gw hw 195 rfl) (gw hw 19 rfl) (by decide) (by decide)) e0 (Ins.self A_a) (g := (mkF m 1 #[vr a] [(.ref a)])) rfl hml.symm (gw hw 195 rfl) (argsL := []) (rest := []) (lenOf own_pd11 rfl) rfl (wz rfl) (hb hby d37_1) (fun _ _ => ⟨rfl, e0, z0, z0⟩)
 dsimp only [Pt.U, Pt.locs, Pt.cells, Pt.slots] at X1 l1 y1 z1 st1 hQ1
 subst l1 y1 z1
 obtain ⟨rfl, N1q, e1⟩ := hQ1
 have N1 := Fr.app N0 N1q
 refine Gs (fun _ tk => st1.trans tk) ?_
 show Goes _ _ _ _ _ (fT T1 m 4 #[vr a] [(.int (Int32.ofNat cn))])
 refine Goes.ret X1 (some (.int (Int32.ofNat cn))) (fun h => by rw [hret] at h; cases h) hlk (by decide) (by decide) ?_ (fun fs hr => ?_)
 ·exact ⟨rfl, N1, e1⟩
 ·exact retI X1 hx hret (hb hby d37_4) hr
theorem d38_0 : DK kc8 0 (.aload_n 0) 1 := by decide +kernel
theorem d38_1 : DK kc8 1 (.invokespecial 1) 3 := by decide +kernel
theorem d38_4 : DK kc8 4 (.aload_n 1) 1 := by decide +kernel
theorem d38_5 : DK kc8 5 (.invokevirtual 552) 3 := by decide +kernel
theorem own_pd24 : parseMethodDescriptor "()[B" = some ⟨[], some (.array .byte)⟩ := by decide +kernel
theorem d38_8 : DK kc8 8 (.astore_n 3) 1 := by decide +kernel
theorem d38_9 : DK kc8 9 (.aload_n 1) 1 := by decide +kernel
theorem d38_10 : DK kc8 10 (.invokevirtual 549) 3 := by decide +kernel
theorem d38_13 : DK kc8 13 (.istore 4) 2 := by decide +kernel
theorem d38_15 : DK kc8 15 (.aload_n 1) 1 := by decide +kernel
theorem d38_16 : DK kc8 16 (.invokevirtual 1047) 3 := by decide +kernel
theorem d38_19 : DK kc8 19 (.ifCond .eq 22) 3 := by decide +kernel
theorem d38_22 : DK kc8 22 (.aload_n 0) 1 := by decide +kernel
theorem d38_23 : DK kc8 23 (.iconst 0) 1 := by decide +kernel
theorem d38_24 : DK kc8 24 (.putfield 15) 3 := by decide +kernel
theorem d38_27 : DK kc8 27 (.aload_n 0) 1 := by decide +kernel
theorem d38_28 : DK kc8 28 (.aload_n 3) 1 := by decide +kernel
theorem d38_29 : DK kc8 29 (.iconst 0) 1 := by decide +kernel
theorem d38_30 : DK kc8 30 (.iload 4) 2 := by decide +kernel
theorem d38_32 : DK kc8 32 (.invokestatic 54) 3 := by decide +kernel
theorem d38_35 : DK kc8 35 (.putfield 9) 3 := by decide +kernel
theorem d38_38 : DK kc8 38 (.goto 59) 3 := by decide +kernel
theorem d38_97 : DK kc8 97 .return_ 1 := by decide +kernel
theorem own_ef_rm_tsi0 (m : MethodId) (x0 : Addr) (x1 : Addr) : entryFrame m #[(.ref x0), (.ref x1), .null] 5 = mkF m 0 #[vr x0, vr x1, .val .null, vu, vu] [] := by first | (simp [entryFrame, mkF, argsToLocals, Value.category]; done) | rfl
def Q_rm_tsi0 (Z : State) (a : Addr) (w : Addr) (b : Addr) (kb : ClassId) (ys : List Int32) (cn : Nat) (z : Int32) (cz : Int32) (h0 : Heap) (n0 : Nat) (v : Option Value) (h : Heap) (L : List Loc) : Prop := v = none ∧ Fr n0 L ∧ Keep h0 h [a] ∧ StrOf Z h a ys
theorem rm_tsi0 (l : Launch) (Z : State) (a0 : Array Value) (hw : HW a0 Z) (ws : List Jvm.Cond) (a : Addr) (w : Addr) (b : Addr) (kb : ClassId) (ys : List Int32) (cn : Nat) (z : Int32) (cz : Int32) (h0 : Heap) (n0 : Nat) (Z0 : n0 ≤ h0.size) (A_a : Exa Z h0 a "java/lang/String") (F_value_a : Fld Z h0 a "java/lang/String" "value" "[B" .null) (F_coder_a : Fld Z h0 a "java/lang/String" "coder" "B" (.int 0)) (g_a : n0 ≤ a) (A_w : Exa Z h0 w "java/lang/StringBuilder") (F_value_w : Fld Z h0 w "java/lang/AbstractStringBuilder" "value" "[B" (.ref b)) (F_count_w : Fld Z h0 w "java/lang/AbstractStringBuilder" "count" "I" (.int (Int32.ofNat cn))) (F_coder_w : Fld Z h0 w "java/lang/AbstractStringBuilder" "coder" "B" (.int 0)) (V_b : Arv Z h0 b kb .byte z (latV ys) (.int 0)) (hcn : cn = ys.length) (hlt : cn < z.toNatClampNeg) (hz : z.toNatClampNeg ≤ 34) (hall : ∀ c ∈ ys, Lat c) (sgC : Sta Z h0 "java/lang/String" "COMPACT_STRINGS" "Z" (.int cz)) (hcz : ¬ (cz = 0)) (ne_w_a : w ≠ a) (ne_b_a : b ≠ a) :
  Met l Z mN38 jdk_42_method_150_code 5 none ({ frames := 3, cells := 1, slots := 34, locals := 49 } : Room) ws #[(.ref a), (.ref w), .null] h0 (Q_rm_tsi0 Z a w b kb ys cn z cz h0 n0) := by
 refine own_met (plainFor_of_name own_pn0) ?_
 intro p e s m below meth c s₁ hret hx hby hlk hml hown hnm X0 e0 hZ hh
 have N0 := Fr.nil n0
 refine Gz (castTop (own_ef_rm_tsi0 m a w)) ?_
 have KP : Keep h0 h0 [a] := Keep.refl _ _
 show Goes _ _ _ _ _ (fT s₁ m 0 #[vr a, vr w, .val .null, vu, vu] [])
 have hn34 : cn ≤ 34 := by omega
 refine gA X0 hx hby d38_0 rfl rfl rfl ?_
 obtain ⟨T1, X1, e1, st1⟩ := initO X0 hx hZ hown (gw hw 125 rfl) (gw hw 22 rfl) (gw hw 23 rfl) e0 (g := (mkF m 1 #[vr a, vr w, .val .null, vu, vu] [(.ref a)])) rfl hml.symm rfl (hb hby d38_1) (by decide) (W := 0) (wz rfl) (by decide)
 refine Gs st1 ?_
 show Goes _ _ _ _ _ (fT T1 m 4 #[vr a, vr w, .val .null, vu, vu] [])
 refine gA X1 hx hby d38_4 rfl rfl rfl ?_
 refine cV X1 hx hZ hw hown hby hml e1 mN35 183 184 186 185 187 19 0 (rm_gv l Z a0 hw [] w b h0 n0 Z0 F_value_w) A_w d38_5 (lenOf own_pd24 rfl) N0 (fun T2 L2 X2 e2 N2 => ?_)
 show Goes _ _ _ _ _ (fT T2 m 8 #[vr a, vr w, .val .null, vu, vu] [(.ref b)])
 refine Gz (XS.astoreN X2.here hx rfl (hb hby d38_8) rfl rfl (l' := #[vr a, vr w, .val .null, vr b, vu]) rfl) ?_
 refine gA X2 hx hby d38_9 rfl rfl rfl ?_
 obtain ⟨cq3, kq3, q3a, q3b, q3c⟩ := isOf hZ e2 A_w
 obtain ⟨_, _, ⟨T3, L3, k3, n3⟩, -, X3, ⟨Lc3, hQ3, l3, y3, z3⟩, st3⟩ := X2.virtualBack hx (y := mN36) (z := mN37) hown (gz hZ hw 188 rfl) (gz hZ hw 189 rfl) (own_nf2 (mvT hZ (gw hw 51 rfl) (args := #[]))) (gz hZ hw 191 rfl) (gz hZ hw 192 rfl) (by decide) (backOf (W := 0) (rm_sl l Z a0 hw [] w cn h0 n0 Z0 A_w F_count_w) hZ (gw hw 193 rfl) (gw hw 11 rfl) (by decide) (by decide)) q3a q3c (g := (mkF m 10 #[vr a, vr w, .val .null, vr b, vu] [(.ref w)])) rfl hml.symm (Steps.refl _) (argsL := []) (rest := []) (lenOf own_pd11 rfl) rfl (wz rfl) (hb hby d38_10) (fun _ _ => ⟨rfl, e2, z0, z0⟩)
 dsimp only [Pt.U, Pt.locs, Pt.cells, Pt.slots] at X3 l3 y3 z3 st3 hQ3
 subst l3 y3 z3
 obtain ⟨rfl, N3q, e3⟩ := hQ3
 have N3 := Fr.app N2 N3q
 refine Gs (fun _ tk => st3.trans tk) ?_
 show Goes _ _ _ _ _ (fT T3 m 13 #[vr a, vr w, .val .null, vr b, vu] [(.int (Int32.ofNat cn))])
 refine gS X3 hx hby d38_13 #[vr a, vr w, .val .null, vr b, vi (Int32.ofNat cn)] ?_
 refine gA X3 hx hby d38_15 rfl rfl rfl ?_
 refine cV X3 hx hZ hw hown hby hml e3 mN11 196 54 56 55 57 19 0 (rm_isl l Z a0 hw [] w cz h0 n0 Z0 F_coder_w sgC hcz) A_w d38_16 (lenOf own_pd3 rfl) N3 (fun T4 L4 X4 e4 N4 => ?_)
 show Goes _ _ _ _ _ (fT T4 m 19 #[vr a, vr w, .val .null, vr b, vi (Int32.ofNat cn)] [(.int 1)])
 refine gu X4 hx hby d38_19 ((if0 _ _).trans (feq (by decide : ¬ ((1 : Int32) = (0 : Int32)))).1) ?_
 refine gA X4 hx hby d38_22 rfl rfl rfl ?_
 refine gC X4 hx hby d38_23 ?_
 obtain ⟨T5, h5, X5, e5, W5, st5⟩ := putFN X4 hx hZ hown (gw hw 91 rfl) Via.refl e4 F_coder_a A_a (Or.inr ⟨(gw hw 67 rfl), rfl, hnm⟩) (gw hw 65 rfl) (ty := .byte) (v' := .int 0) (by decide) rfl rfl (g := (mkF m 24 #[vr a, vr w, .val .null, vr b, vi (Int32.ofNat cn)] [(.int 0), (.ref a)])) rfl rfl (hb hby d38_24)
 have N5 := Fr.snoc X5 N4 g_a
 replace A_a := A_a.wr W5
 replace F_value_a := F_value_a.other W5 (Or.inr (slot_ne (Or.inr (gw hw 66 rfl)) (Or.inr (gw hw 67 rfl)) (by decide) (t := (.array .byte)) (t' := .byte) (by decide) (by decide)))
 replace A_w := A_w.wr W5
 replace V_b := V_b.other W5 ne_b_a
 replace KP := KP.wr W5 (Or.inl (List.mem_of_getElem? (i := 0) rfl))
 replace F_coder_a := F_coder_a.same W5
 replace Z0 : n0 ≤ h5.size := by rw [W5.size]; exact Z0
 refine Gs st5 ?_
 show Goes _ _ _ _ _ (fT T5 m 27 #[vr a, vr w, .val .null, vr b, vi (Int32.ofNat cn)] [])
 refine gA X5 hx hby d38_27 rfl rfl rfl ?_
 refine gA X5 hx hby d38_28 rfl rfl rfl ?_
 refine gC X5 hx hby d38_29 ?_
 refine gI X5 hx hby d38_30 rfl rfl ?_
 have ltc6_a : a < h5.size := A_a.lt
 have ltc6_w : w < h5.size := A_w.lt
 have ltc6_b : b < h5.size := V_b.lt
 refine cSg X5 hx hZ hw hown hby hml e5 mN29 197 156 158 157 1 (rm_cor l Z a0 hw [] b kb ys cn z h5 n0 Z0 V_b hcn hlt hz) d38_32 (lenOf own_pd19 rfl) (fun _ T6 L6 X6 hQ6 => ?_)
 obtain ⟨y6, ky6, rfl, N6q, K6, V_y6_6', g_y6_6', sz_y6_6'⟩ := hQ6
 have N6 := Fr.app N5 N6q
 replace A_a := A_a.keep K6
 replace F_value_a := F_value_a.keep K6 nin0
 replace F_coder_a := F_coder_a.keep K6 nin0
 replace KP := KP.trans K6 all0
 replace Z0 := Nat.le_trans Z0 K6.1
 have V_y6 := V_y6_6'
 have g_y6 := g_y6_6'
 have szc_y6 := sz_y6_6'
 have ne_a_y6 : a ≠ y6 := Nat.ne_of_lt (Nat.lt_of_lt_of_le ltc6_a szc_y6)
 have ne_w_y6 : w ≠ y6 := Nat.ne_of_lt (Nat.lt_of_lt_of_le ltc6_w szc_y6)
 have ne_b_y6 : b ≠ y6 := Nat.ne_of_lt (Nat.lt_of_lt_of_le ltc6_b szc_y6)
 show Goes _ _ _ _ _ (fT T6 m 35 #[vr a, vr w, .val .null, vr b, vi (Int32.ofNat cn)] [(.ref y6), (.ref a)])
 obtain ⟨T7, h7, X7, e7, W7, st7⟩ := putF X6 hx hZ hown (host := "") (Or.inl (gw hw 84 rfl)) Via.refl rfl F_value_a A_a (Or.inr ⟨(gw hw 66 rfl), rfl, hnm⟩) (gw hw 65 rfl) (ty := (.array .byte)) (by decide) rfl rfl (g := (mkF m 35 #[vr a, vr w, .val .null, vr b, vi (Int32.ofNat cn)] [(.ref y6), (.ref a)])) rfl rfl (hb hby d38_35)
 have N7 := Fr.snoc X7 N6 g_a
 replace A_a := A_a.wr W7
 replace F_coder_a := F_coder_a.other W7 (Or.inr (slot_ne (Or.inr (gw hw 67 rfl)) (Or.inr (gw hw 66 rfl)) (by decide) (t := .byte) (t' := (.array .byte)) (by decide) (by decide)))
 replace V_y6 := V_y6.other W7 (Ne.symm ne_a_y6)
 replace KP := KP.wr W7 (Or.inl (List.mem_of_getElem? (i := 0) rfl))
 replace F_value_a := F_value_a.same W7
 replace Z0 : n0 ≤ h7.size := by rw [W7.size]; exact Z0
 refine Gs st7 ?_
 show Goes _ _ _ _ _ (fT T7 m 38 #[vr a, vr w, .val .null, vr b, vi (Int32.ofNat cn)] [])
 refine gG X7 hx hby d38_38 38 97 ?_
 have T_a : StrOf Z h7 a ys := StrOf.latin A_a F_value_a F_coder_a V_y6 hall (by rw [hcn]) rfl (by omega)
 refine Goes.ret X7 none (fun _ => rfl) hlk (by decide) (by decide) ?_ (fun fs hr => ?_)
 ·rw [e7]; exact ⟨rfl, N7, KP, T_a⟩
 ·exact X7.returnOut hx hret (hb hby d38_97) hr
theorem d39_0 : DK kc14 0 (.aload_n 0) 1 := by decide +kernel
theorem d39_1 : DK kc14 1 (.aload_n 1) 1 := by decide +kernel
theorem d39_2 : DK kc14 2 .aconst_null 1 := by decide +kernel
theorem d39_3 : DK kc14 3 (.invokespecial 489) 3 := by decide +kernel
theorem own_pd25 : parseMethodDescriptor "(Ljava/lang/AbstractStringBuilder;Ljava/lang/Void;)V" = some ⟨[(.object "java/lang/AbstractStringBuilder"), (.object "java/lang/Void")], none⟩ := by decide +kernel
theorem d39_6 : DK kc14 6 .return_ 1 := by decide +kernel
theorem own_ef_rm_tss0 (m : MethodId) (x0 : Addr) (x1 : Addr) : entryFrame m #[(.ref x0), (.ref x1)] 2 = mkF m 0 #[vr x0, vr x1] [] := by first | (simp [entryFrame, mkF, argsToLocals, Value.category]; done) | rfl
def Q_rm_tss0 (Z : State) (a : Addr) (w : Addr) (b : Addr) (kb : ClassId) (ys : List Int32) (cn : Nat) (z : Int32) (cz : Int32) (h0 : Heap) (n0 : Nat) (v : Option Value) (h : Heap) (L : List Loc) : Prop := v = none ∧ Fr n0 L ∧ Keep h0 h [a] ∧ StrOf Z h a ys
theorem rm_tss0 (l : Launch) (Z : State) (a0 : Array Value) (hw : HW a0 Z) (ws : List Jvm.Cond) (a : Addr) (w : Addr) (b : Addr) (kb : ClassId) (ys : List Int32) (cn : Nat) (z : Int32) (cz : Int32) (h0 : Heap) (n0 : Nat) (Z0 : n0 ≤ h0.size) (A_a : Exa Z h0 a "java/lang/String") (F_value_a : Fld Z h0 a "java/lang/String" "value" "[B" .null) (F_coder_a : Fld Z h0 a "java/lang/String" "coder" "B" (.int 0)) (g_a : n0 ≤ a) (A_w : Exa Z h0 w "java/lang/StringBuilder") (F_value_w : Fld Z h0 w "java/lang/AbstractStringBuilder" "value" "[B" (.ref b)) (F_count_w : Fld Z h0 w "java/lang/AbstractStringBuilder" "count" "I" (.int (Int32.ofNat cn))) (F_coder_w : Fld Z h0 w "java/lang/AbstractStringBuilder" "coder" "B" (.int 0)) (V_b : Arv Z h0 b kb .byte z (latV ys) (.int 0)) (hcn : cn = ys.length) (hlt : cn < z.toNatClampNeg) (hz : z.toNatClampNeg ≤ 34) (hall : ∀ c ∈ ys, Lat c) (sgC : Sta Z h0 "java/lang/String" "COMPACT_STRINGS" "Z" (.int cz)) (hcz : ¬ (cz = 0)) (ne_w_a : w ≠ a) (ne_b_a : b ≠ a) :
  Met l Z mN39 jdk_42_method_53_code 2 none ({ frames := 4, cells := 1, slots := 34, locals := 65 } : Room) ws #[(.ref a), (.ref w)] h0 (Q_rm_tss0 Z a w b kb ys cn z cz h0 n0) := by
 refine own_met (plainFor_of_name own_pn0) ?_
 intro p e s m below meth c s₁ hret hx hby hlk hml hown hnm X0 e0 hZ hh
 have N0 := Fr.nil n0
 refine Gz (castTop (own_ef_rm_tss0 m a w)) ?_
 have KP : Keep h0 h0 [a] := Keep.refl _ _
 show Goes _ _ _ _ _ (fT s₁ m 0 #[vr a, vr w] [])
 refine gA X0 hx hby d39_0 rfl rfl rfl ?_
 refine gA X0 hx hby d39_1 rfl rfl rfl ?_
 refine Gz (XS.aconstNull X0.here hx rfl (hb hby d39_2)) ?_
 refine cIg X0 hx hZ hw hown hby hml e0 mN38 180 181 182 25 0 (rm_tsi0 l Z a0 hw [] a w b kb ys cn z cz h0 n0 Z0 A_a F_value_a F_coder_a g_a A_w F_value_w F_count_w F_coder_w V_b hcn hlt hz hall sgC hcz ne_w_a ne_b_a) d39_3 (lenOf own_pd25 rfl) (fun _ T1 L1 X1 hQ1 => ?_)
 obtain ⟨rfl, N1q, K1, T_a_1'⟩ := hQ1
 have N1 := Fr.app N0 N1q
 replace KP := KP.trans K1 (allS (Or.inl (List.mem_of_getElem? (i := 0) rfl)) all0)
 replace Z0 := Nat.le_trans Z0 K1.1
 have T_a := T_a_1'
 show Goes _ _ _ _ _ (fT T1 m 6 #[vr a, vr w] [])
 refine Goes.ret X1 none (fun _ => rfl) hlk (by decide) (by decide) ?_ (fun fs hr => ?_)
 ·exact ⟨rfl, N1, KP, T_a⟩
 ·exact X1.returnOut hx hret (hb hby d39_6) hr
theorem d40_0 : DK kc28 0 (.new 18) 3 := by decide +kernel
theorem d40_3 : DK kc28 3 .dup 1 := by decide +kernel
theorem d40_4 : DK kc28 4 (.aload_n 0) 1 := by decide +kernel
theorem d40_5 : DK kc28 5 (.invokespecial 137) 3 := by decide +kernel
theorem own_pd26 : parseMethodDescriptor "(Ljava/lang/StringBuilder;)V" = some ⟨[(.object "java/lang/StringBuilder")], none⟩ := by decide +kernel
theorem d40_8 : DK kc28 8 .areturn 1 := by decide +kernel
theorem own_ef_rm_tst0 (m : MethodId) (x0 : Addr) : entryFrame m #[(.ref x0)] 1 = mkF m 0 #[vr x0] [] := by first | (simp [entryFrame, mkF, argsToLocals, Value.category]; done) | rfl
def Q_rm_tst0 (Z : State) (w : Addr) (b : Addr) (kb : ClassId) (ys : List Int32) (cn : Nat) (z : Int32) (cz : Int32) (h0 : Heap) (n0 : Nat) (v : Option Value) (h : Heap) (L : List Loc) : Prop := ∃ u : Addr, v = some (.ref u) ∧ Fr n0 L ∧ Keep h0 h [] ∧ StrOf Z h u ys
theorem rm_tst0 (l : Launch) (Z : State) (a0 : Array Value) (hw : HW a0 Z) (ws : List Jvm.Cond) (w : Addr) (b : Addr) (kb : ClassId) (ys : List Int32) (cn : Nat) (z : Int32) (cz : Int32) (h0 : Heap) (n0 : Nat) (Z0 : n0 ≤ h0.size) (A_w : Exa Z h0 w "java/lang/StringBuilder") (F_value_w : Fld Z h0 w "java/lang/AbstractStringBuilder" "value" "[B" (.ref b)) (F_count_w : Fld Z h0 w "java/lang/AbstractStringBuilder" "count" "I" (.int (Int32.ofNat cn))) (F_coder_w : Fld Z h0 w "java/lang/AbstractStringBuilder" "coder" "B" (.int 0)) (V_b : Arv Z h0 b kb .byte z (latV ys) (.int 0)) (hcn : cn = ys.length) (hlt : cn < z.toNatClampNeg) (hz : z.toNatClampNeg ≤ 34) (hall : ∀ c ∈ ys, Lat c) (sgC : Sta Z h0 "java/lang/String" "COMPACT_STRINGS" "Z" (.int cz)) (hcz : ¬ (cz = 0)) :
  Met l Z mN40 jdk_67_method_42_code 1 (some (.object "java/lang/String")) ({ frames := 5, cells := 2, slots := 38, locals := 79 } : Room) ws #[(.ref w)] h0 (Q_rm_tst0 Z w b kb ys cn z cz h0 n0) := by
 refine own_met (plainFor_of_name own_pn5) ?_
 intro p e s m below meth c s₁ hret hx hby hlk hml hown hnm X0 e0 hZ hh
 have N0 := Fr.nil n0
 refine Gz (castTop (own_ef_rm_tst0 m w)) ?_
 have KP : Keep h0 h0 [] := Keep.refl _ _
 show Goes _ _ _ _ _ (fT s₁ m 0 #[vr w] [])
 obtain ⟨T1, h1, X1, e1, E1, A1, D1, U1, st1⟩ := newO X0 hx hZ hown (gw hw 176 rfl) (gw hw 65 rfl) (gw hw 25 rfl) e0 (g := (mkF m 0 #[vr w] [])) rfl (hb hby d40_0) (by decide) (by decide)
 obtain ⟨b1, gq1⟩ : ∃ z, z = h0.size := ⟨_, rfl⟩
 rw [← gq1] at A1 st1 D1
 have g_b1 : n0 ≤ b1 := by rw [gq1]; exact Z0
 have sz_b1 : h0.size ≤ b1 := by rw [gq1]; exact KP.1
 have ne_w_b1 : w ≠ b1 := by rw [gq1]; exact Nat.ne_of_lt A_w.lt
 have ne_b_b1 : b ≠ b1 := by rw [gq1]; exact Nat.ne_of_lt V_b.lt
 replace A_w := A_w.ext E1
 replace F_value_w := F_value_w.ext E1
 replace F_count_w := F_count_w.ext E1
 replace F_coder_w := F_coder_w.ext E1
 replace V_b := V_b.ext E1
 replace sgC := sgC.ext E1
 replace KP := KP.ext E1
 replace Z0 : n0 ≤ h1.size := Nat.le_trans Z0 E1.1
 have A_b1 : Exa Z h1 b1 "java/lang/String" := A1
 have F_value_b1 : Fld Z h1 b1 "java/lang/String" "value" "[B" .null := D1 (Or.inr (gw hw 66 rfl)) (ty := (.array .byte)) (by decide)
 have F_coder_b1 : Fld Z h1 b1 "java/lang/String" "coder" "B" (.int 0) := D1 (Or.inr (gw hw 67 rfl)) (ty := .byte) (by decide)
 refine Gs st1 ?_
 show Goes _ _ _ _ _ (fT T1 m 3 #[vr w] [(.ref b1)])
 refine Gz (XS.dup X1.here hx rfl (hb hby d40_3) rfl rfl) ?_
 refine gA X1 hx hby d40_4 rfl rfl rfl ?_
 refine cIg X1 hx hZ hw hown hby hml e1 mN39 177 178 179 25 1 (rm_tss0 l Z a0 hw [] b1 w b kb ys cn z cz h1 n0 Z0 A_b1 F_value_b1 F_coder_b1 g_b1 A_w F_value_w F_count_w F_coder_w V_b hcn hlt hz hall sgC hcz ne_w_b1 ne_b_b1) d40_5 (lenOf own_pd26 rfl) (fun _ T2 L2 X2 hQ2 => ?_)
 obtain ⟨rfl, N2q, K2, T_b1_2'⟩ := hQ2
 have N2 := Fr.app N0 N2q
 replace KP := KP.trans K2 (allS (Or.inr sz_b1) all0)
 replace Z0 := Nat.le_trans Z0 K2.1
 have T_b1 := T_b1_2'
 show Goes _ _ _ _ _ (fT T2 m 8 #[vr w] [(.ref b1)])
 refine Goes.ret X2 (some (.ref b1)) (fun h => by rw [hret] at h; cases h) hlk (by decide) (by decide) ?_ (fun fs hr => ?_)
 ·exact ⟨b1, rfl, N2, KP, T_b1⟩
 ·exact own_retA X2 hx hret rfl rfl (hb hby d40_8) hr
theorem own_ef_rm_tsi1 (m : MethodId) (x0 : Addr) (x1 : Addr) : entryFrame m #[(.ref x0), (.ref x1), .null] 5 = mkF m 0 #[vr x0, vr x1, .val .null, vu, vu] [] := by first | (simp [entryFrame, mkF, argsToLocals, Value.category]; done) | rfl
def Q_rm_tsi1 (Z : State) (a : Addr) (w : Addr) (b : Addr) (kb : ClassId) (ys : List Int32) (cn : Nat) (z : Int32) (cz : Int32) (h0 : Heap) (n0 : Nat) (v : Option Value) (h : Heap) (L : List Loc) : Prop := v = none ∧ Fr n0 L ∧ Keep h0 h [a] ∧ StrOf Z h a ys
theorem rm_tsi1 (l : Launch) (Z : State) (a0 : Array Value) (hw : HW a0 Z) (ws : List Jvm.Cond) (a : Addr) (w : Addr) (b : Addr) (kb : ClassId) (ys : List Int32) (cn : Nat) (z : Int32) (cz : Int32) (h0 : Heap) (n0 : Nat) (Z0 : n0 ≤ h0.size) (A_a : Exa Z h0 a "java/lang/String") (F_value_a : Fld Z h0 a "java/lang/String" "value" "[B" .null) (F_coder_a : Fld Z h0 a "java/lang/String" "coder" "B" (.int 0)) (g_a : n0 ≤ a) (A_w : Exa Z h0 w "java/lang/StringBuilder") (F_value_w : Fld Z h0 w "java/lang/AbstractStringBuilder" "value" "[B" (.ref b)) (F_count_w : Fld Z h0 w "java/lang/AbstractStringBuilder" "count" "I" (.int (Int32.ofNat cn))) (F_coder_w : Fld Z h0 w "java/lang/AbstractStringBuilder" "coder" "B" (.int 0)) (V_b : Arv Z h0 b kb .byte z (latV ys) (.int 0)) (A_b : Exa Z h0 b "[B") (hcn : cn = ys.length) (hlt : cn = z.toNatClampNeg) (hz : z.toNatClampNeg ≤ 34) (hall : ∀ c ∈ ys, Lat c) (sgC : Sta Z h0 "java/lang/String" "COMPACT_STRINGS" "Z" (.int cz)) (hcz : ¬ (cz = 0)) (ne_w_a : w ≠ a) (ne_b_a : b ≠ a) :
  Met l Z mN38 jdk_42_method_150_code 5 none ({ frames := 2, cells := 1, slots := 34, locals := 29 } : Room) ws #[(.ref a), (.ref w), .null] h0 (Q_rm_tsi1 Z a w b kb ys cn z cz h0 n0) := by
 refine own_met (plainFor_of_name own_pn0) ?_
 intro p e s m below meth c s₁ hret hx hby hlk hml hown hnm X0 e0 hZ hh
 have N0 := Fr.nil n0
 refine Gz (castTop (own_ef_rm_tsi1 m a w)) ?_
 have KP : Keep h0 h0 [a] := Keep.refl _ _
 show Goes _ _ _ _ _ (fT s₁ m 0 #[vr a, vr w, .val .null, vu, vu] [])
 have hn34 : cn ≤ 34 := by omega
 refine gA X0 hx hby d38_0 rfl rfl rfl ?_
 obtain ⟨T1, X1, e1, st1⟩ := initO X0 hx hZ hown (gw hw 125 rfl) (gw hw 22 rfl) (gw hw 23 rfl) e0 (g := (mkF m 1 #[vr a, vr w, .val .null, vu, vu] [(.ref a)])) rfl hml.symm rfl (hb hby d38_1) (by decide) (W := 0) (wz rfl) (by decide)
 refine Gs st1 ?_
 show Goes _ _ _ _ _ (fT T1 m 4 #[vr a, vr w, .val .null, vu, vu] [])
 refine gA X1 hx hby d38_4 rfl rfl rfl ?_
 refine cV X1 hx hZ hw hown hby hml e1 mN35 183 184 186 185 187 19 0 (rm_gv l Z a0 hw [] w b h0 n0 Z0 F_value_w) A_w d38_5 (lenOf own_pd24 rfl) N0 (fun T2 L2 X2 e2 N2 => ?_)
 show Goes _ _ _ _ _ (fT T2 m 8 #[vr a, vr w, .val .null, vu, vu] [(.ref b)])
 refine Gz (XS.astoreN X2.here hx rfl (hb hby d38_8) rfl rfl (l' := #[vr a, vr w, .val .null, vr b, vu]) rfl) ?_
 refine gA X2 hx hby d38_9 rfl rfl rfl ?_
 obtain ⟨cq3, kq3, q3a, q3b, q3c⟩ := isOf hZ e2 A_w
 obtain ⟨_, _, ⟨T3, L3, k3, n3⟩, -, X3, ⟨Lc3, hQ3, l3, y3, z3⟩, st3⟩ := X2.virtualBack hx (y := mN36) (z := mN37) hown (gz hZ hw 188 rfl) (gz hZ hw 189 rfl) (own_nf2 (mvT hZ (gw hw 51 rfl) (args := #[]))) (gz hZ hw 191 rfl) (gz hZ hw 192 rfl) (by decide) (backOf (W := 0) (rm_sl l Z a0 hw [] w cn h0 n0 Z0 A_w F_count_w) hZ (gw hw 193 rfl) (gw hw 11 rfl) (by decide) (by decide)) q3a q3c (g := (mkF m 10 #[vr a, vr w, .val .null, vr b, vu] [(.ref w)])) rfl hml.symm (Steps.refl _) (argsL := []) (rest := []) (lenOf own_pd11 rfl) rfl (wz rfl) (hb hby d38_10) (fun _ _ => ⟨rfl, e2, z0, z0⟩)
 dsimp only [Pt.U, Pt.locs, Pt.cells, Pt.slots] at X3 l3 y3 z3 st3 hQ3
 subst l3 y3 z3
 obtain ⟨rfl, N3q, e3⟩ := hQ3
 have N3 := Fr.app N2 N3q
 refine Gs (fun _ tk => st3.trans tk) ?_
 show Goes _ _ _ _ _ (fT T3 m 13 #[vr a, vr w, .val .null, vr b, vu] [(.int (Int32.ofNat cn))])
 refine gS X3 hx hby d38_13 #[vr a, vr w, .val .null, vr b, vi (Int32.ofNat cn)] ?_
 refine gA X3 hx hby d38_15 rfl rfl rfl ?_
 refine cV X3 hx hZ hw hown hby hml e3 mN11 196 54 56 55 57 19 0 (rm_isl l Z a0 hw [] w cz h0 n0 Z0 F_coder_w sgC hcz) A_w d38_16 (lenOf own_pd3 rfl) N3 (fun T4 L4 X4 e4 N4 => ?_)
 show Goes _ _ _ _ _ (fT T4 m 19 #[vr a, vr w, .val .null, vr b, vi (Int32.ofNat cn)] [(.int 1)])
 refine gu X4 hx hby d38_19 ((if0 _ _).trans (feq (by decide : ¬ ((1 : Int32) = (0 : Int32)))).1) ?_
 refine gA X4 hx hby d38_22 rfl rfl rfl ?_
 refine gC X4 hx hby d38_23 ?_
 obtain ⟨T5, h5, X5, e5, W5, st5⟩ := putFN X4 hx hZ hown (gw hw 91 rfl) Via.refl e4 F_coder_a A_a (Or.inr ⟨(gw hw 67 rfl), rfl, hnm⟩) (gw hw 65 rfl) (ty := .byte) (v' := .int 0) (by decide) rfl rfl (g := (mkF m 24 #[vr a, vr w, .val .null, vr b, vi (Int32.ofNat cn)] [(.int 0), (.ref a)])) rfl rfl (hb hby d38_24)
 have N5 := Fr.snoc X5 N4 g_a
 replace A_a := A_a.wr W5
 replace F_value_a := F_value_a.other W5 (Or.inr (slot_ne (Or.inr (gw hw 66 rfl)) (Or.inr (gw hw 67 rfl)) (by decide) (t := (.array .byte)) (t' := .byte) (by decide) (by decide)))
 replace A_w := A_w.wr W5
 replace V_b := V_b.other W5 ne_b_a
 replace A_b := A_b.wr W5
 replace KP := KP.wr W5 (Or.inl (List.mem_of_getElem? (i := 0) rfl))
 replace F_coder_a := F_coder_a.same W5
 replace Z0 : n0 ≤ h5.size := by rw [W5.size]; exact Z0
 refine Gs st5 ?_
 show Goes _ _ _ _ _ (fT T5 m 27 #[vr a, vr w, .val .null, vr b, vi (Int32.ofNat cn)] [])
 refine gA X5 hx hby d38_27 rfl rfl rfl ?_
 refine gA X5 hx hby d38_28 rfl rfl rfl ?_
 refine gC X5 hx hby d38_29 ?_
 refine gI X5 hx hby d38_30 rfl rfl ?_
 have ltc6_a : a < h5.size := A_a.lt
 have ltc6_w : w < h5.size := A_w.lt
 have ltc6_b : b < h5.size := V_b.lt
 refine cSg X5 hx hZ hw hown hby hml e5 mN29 197 156 158 157 1 (rm_core l Z a0 hw [] b kb ys cn z h5 n0 Z0 V_b A_b hcn hlt hz) d38_32 (lenOf own_pd19 rfl) (fun _ T6 L6 X6 hQ6 => ?_)
 obtain ⟨y6, ky6, rfl, N6q, K6, V_y6_6', g_y6_6', sz_y6_6'⟩ := hQ6
 have N6 := Fr.app N5 N6q
 replace A_a := A_a.keep K6
 replace F_value_a := F_value_a.keep K6 nin0
 replace F_coder_a := F_coder_a.keep K6 nin0
 replace KP := KP.trans K6 all0
 replace Z0 := Nat.le_trans Z0 K6.1
 have V_y6 := V_y6_6'
 have g_y6 := g_y6_6'
 have szc_y6 := sz_y6_6'
 have ne_a_y6 : a ≠ y6 := Nat.ne_of_lt (Nat.lt_of_lt_of_le ltc6_a szc_y6)
 have ne_w_y6 : w ≠ y6 := Nat.ne_of_lt (Nat.lt_of_lt_of_le ltc6_w szc_y6)
 have ne_b_y6 : b ≠ y6 := Nat.ne_of_lt (Nat.lt_of_lt_of_le ltc6_b szc_y6)
 show Goes _ _ _ _ _ (fT T6 m 35 #[vr a, vr w, .val .null, vr b, vi (Int32.ofNat cn)] [(.ref y6), (.ref a)])
 obtain ⟨T7, h7, X7, e7, W7, st7⟩ := putF X6 hx hZ hown (host := "") (Or.inl (gw hw 84 rfl)) Via.refl rfl F_value_a A_a (Or.inr ⟨(gw hw 66 rfl), rfl, hnm⟩) (gw hw 65 rfl) (ty := (.array .byte)) (by decide) rfl rfl (g := (mkF m 35 #[vr a, vr w, .val .null, vr b, vi (Int32.ofNat cn)] [(.ref y6), (.ref a)])) rfl rfl (hb hby d38_35)
 have N7 := Fr.snoc X7 N6 g_a
 replace A_a := A_a.wr W7
 replace F_coder_a := F_coder_a.other W7 (Or.inr (slot_ne (Or.inr (gw hw 67 rfl)) (Or.inr (gw hw 66 rfl)) (by decide) (t := .byte) (t' := (.array .byte)) (by decide) (by decide)))
 replace V_y6 := V_y6.other W7 (Ne.symm ne_a_y6)
 replace KP := KP.wr W7 (Or.inl (List.mem_of_getElem? (i := 0) rfl))
 replace F_value_a := F_value_a.same W7
 replace Z0 : n0 ≤ h7.size := by rw [W7.size]; exact Z0
 refine Gs st7 ?_
 show Goes _ _ _ _ _ (fT T7 m 38 #[vr a, vr w, .val .null, vr b, vi (Int32.ofNat cn)] [])
 refine gG X7 hx hby d38_38 38 97 ?_
 have T_a : StrOf Z h7 a ys := StrOf.latin A_a F_value_a F_coder_a V_y6 hall (by rw [hcn]) rfl (by omega)
 refine Goes.ret X7 none (fun _ => rfl) hlk (by decide) (by decide) ?_ (fun fs hr => ?_)
 ·rw [e7]; exact ⟨rfl, N7, KP, T_a⟩
 ·exact X7.returnOut hx hret (hb hby d38_97) hr
theorem own_ef_rm_tss1 (m : MethodId) (x0 : Addr) (x1 : Addr) : entryFrame m #[(.ref x0), (.ref x1)] 2 = mkF m 0 #[vr x0, vr x1] [] := by first | (simp [entryFrame, mkF, argsToLocals, Value.category]; done) | rfl
def Q_rm_tss1 (Z : State) (a : Addr) (w : Addr) (b : Addr) (kb : ClassId) (ys : List Int32) (cn : Nat) (z : Int32) (cz : Int32) (h0 : Heap) (n0 : Nat) (v : Option Value) (h : Heap) (L : List Loc) : Prop := v = none ∧ Fr n0 L ∧ Keep h0 h [a] ∧ StrOf Z h a ys
theorem rm_tss1 (l : Launch) (Z : State) (a0 : Array Value) (hw : HW a0 Z) (ws : List Jvm.Cond) (a : Addr) (w : Addr) (b : Addr) (kb : ClassId) (ys : List Int32) (cn : Nat) (z : Int32) (cz : Int32) (h0 : Heap) (n0 : Nat) (Z0 : n0 ≤ h0.size) (A_a : Exa Z h0 a "java/lang/String") (F_value_a : Fld Z h0 a "java/lang/String" "value" "[B" .null) (F_coder_a : Fld Z h0 a "java/lang/String" "coder" "B" (.int 0)) (g_a : n0 ≤ a) (A_w : Exa Z h0 w "java/lang/StringBuilder") (F_value_w : Fld Z h0 w "java/lang/AbstractStringBuilder" "value" "[B" (.ref b)) (F_count_w : Fld Z h0 w "java/lang/AbstractStringBuilder" "count" "I" (.int (Int32.ofNat cn))) (F_coder_w : Fld Z h0 w "java/lang/AbstractStringBuilder" "coder" "B" (.int 0)) (V_b : Arv Z h0 b kb .byte z (latV ys) (.int 0)) (A_b : Exa Z h0 b "[B") (hcn : cn = ys.length) (hlt : cn = z.toNatClampNeg) (hz : z.toNatClampNeg ≤ 34) (hall : ∀ c ∈ ys, Lat c) (sgC : Sta Z h0 "java/lang/String" "COMPACT_STRINGS" "Z" (.int cz)) (hcz : ¬ (cz = 0)) (ne_w_a : w ≠ a) (ne_b_a : b ≠ a) :
  Met l Z mN39 jdk_42_method_53_code 2 none ({ frames := 3, cells := 1, slots := 34, locals := 45 } : Room) ws #[(.ref a), (.ref w)] h0 (Q_rm_tss1 Z a w b kb ys cn z cz h0 n0) := by
 refine own_met (plainFor_of_name own_pn0) ?_
 intro p e s m below meth c s₁ hret hx hby hlk hml hown hnm X0 e0 hZ hh
 have N0 := Fr.nil n0
 refine Gz (castTop (own_ef_rm_tss1 m a w)) ?_
 have KP : Keep h0 h0 [a] := Keep.refl _ _
 show Goes _ _ _ _ _ (fT s₁ m 0 #[vr a, vr w] [])
 refine gA X0 hx hby d39_0 rfl rfl rfl ?_
 refine gA X0 hx hby d39_1 rfl rfl rfl ?_
 refine Gz (XS.aconstNull X0.here hx rfl (hb hby d39_2)) ?_
 refine cIg X0 hx hZ hw hown hby hml e0 mN38 180 181 182 25 0 (rm_tsi1 l Z a0 hw [] a w b kb ys cn z cz h0 n0 Z0 A_a F_value_a F_coder_a g_a A_w F_value_w F_count_w F_coder_w V_b A_b hcn hlt hz hall sgC hcz ne_w_a ne_b_a) d39_3 (lenOf own_pd25 rfl) (fun _ T1 L1 X1 hQ1 => ?_)
 obtain ⟨rfl, N1q, K1, T_a_1'⟩ := hQ1
 have N1 := Fr.app N0 N1q
 replace KP := KP.trans K1 (allS (Or.inl (List.mem_of_getElem? (i := 0) rfl)) all0)
 replace Z0 := Nat.le_trans Z0 K1.1
 have T_a := T_a_1'
 show Goes _ _ _ _ _ (fT T1 m 6 #[vr a, vr w] [])
 refine Goes.ret X1 none (fun _ => rfl) hlk (by decide) (by decide) ?_ (fun fs hr => ?_)
 ·exact ⟨rfl, N1, KP, T_a⟩
 ·exact X1.returnOut hx hret (hb hby d39_6) hr
theorem own_ef_rm_tst1 (m : MethodId) (x0 : Addr) : entryFrame m #[(.ref x0)] 1 = mkF m 0 #[vr x0] [] := by first | (simp [entryFrame, mkF, argsToLocals, Value.category]; done) | rfl
def Q_rm_tst1 (Z : State) (w : Addr) (b : Addr) (kb : ClassId) (ys : List Int32) (cn : Nat) (z : Int32) (cz : Int32) (h0 : Heap) (n0 : Nat) (v : Option Value) (h : Heap) (L : List Loc) : Prop := ∃ u : Addr, v = some (.ref u) ∧ Fr n0 L ∧ Keep h0 h [] ∧ StrOf Z h u ys
theorem rm_tst1 (l : Launch) (Z : State) (a0 : Array Value) (hw : HW a0 Z) (ws : List Jvm.Cond) (w : Addr) (b : Addr) (kb : ClassId) (ys : List Int32) (cn : Nat) (z : Int32) (cz : Int32) (h0 : Heap) (n0 : Nat) (Z0 : n0 ≤ h0.size) (A_w : Exa Z h0 w "java/lang/StringBuilder") (F_value_w : Fld Z h0 w "java/lang/AbstractStringBuilder" "value" "[B" (.ref b)) (F_count_w : Fld Z h0 w "java/lang/AbstractStringBuilder" "count" "I" (.int (Int32.ofNat cn))) (F_coder_w : Fld Z h0 w "java/lang/AbstractStringBuilder" "coder" "B" (.int 0)) (V_b : Arv Z h0 b kb .byte z (latV ys) (.int 0)) (A_b : Exa Z h0 b "[B") (hcn : cn = ys.length) (hlt : cn = z.toNatClampNeg) (hz : z.toNatClampNeg ≤ 34) (hall : ∀ c ∈ ys, Lat c) (sgC : Sta Z h0 "java/lang/String" "COMPACT_STRINGS" "Z" (.int cz)) (hcz : ¬ (cz = 0)) :
  Met l Z mN40 jdk_67_method_42_code 1 (some (.object "java/lang/String")) ({ frames := 4, cells := 2, slots := 38, locals := 59 } : Room) ws #[(.ref w)] h0 (Q_rm_tst1 Z w b kb ys cn z cz h0 n0) := by
 refine own_met (plainFor_of_name own_pn5) ?_
 intro p e s m below meth c s₁ hret hx hby hlk hml hown hnm X0 e0 hZ hh
 have N0 := Fr.nil n0
 refine Gz (castTop (own_ef_rm_tst1 m w)) ?_
 have KP : Keep h0 h0 [] := Keep.refl _ _
 show Goes _ _ _ _ _ (fT s₁ m 0 #[vr w] [])
 obtain ⟨T1, h1, X1, e1, E1, A1, D1, U1, st1⟩ := newO X0 hx hZ hown (gw hw 176 rfl) (gw hw 65 rfl) (gw hw 25 rfl) e0 (g := (mkF m 0 #[vr w] [])) rfl (hb hby d40_0) (by decide) (by decide)
 obtain ⟨b1, gq1⟩ : ∃ z, z = h0.size := ⟨_, rfl⟩
 rw [← gq1] at A1 st1 D1
 have g_b1 : n0 ≤ b1 := by rw [gq1]; exact Z0
 have sz_b1 : h0.size ≤ b1 := by rw [gq1]; exact KP.1
 have ne_w_b1 : w ≠ b1 := by rw [gq1]; exact Nat.ne_of_lt A_w.lt
 have ne_b_b1 : b ≠ b1 := by rw [gq1]; exact Nat.ne_of_lt V_b.lt
 replace A_w := A_w.ext E1
 replace F_value_w := F_value_w.ext E1
 replace F_count_w := F_count_w.ext E1
 replace F_coder_w := F_coder_w.ext E1
 replace V_b := V_b.ext E1
 replace A_b := A_b.ext E1
 replace sgC := sgC.ext E1
 replace KP := KP.ext E1
 replace Z0 : n0 ≤ h1.size := Nat.le_trans Z0 E1.1
 have A_b1 : Exa Z h1 b1 "java/lang/String" := A1
 have F_value_b1 : Fld Z h1 b1 "java/lang/String" "value" "[B" .null := D1 (Or.inr (gw hw 66 rfl)) (ty := (.array .byte)) (by decide)
 have F_coder_b1 : Fld Z h1 b1 "java/lang/String" "coder" "B" (.int 0) := D1 (Or.inr (gw hw 67 rfl)) (ty := .byte) (by decide)
 refine Gs st1 ?_
 show Goes _ _ _ _ _ (fT T1 m 3 #[vr w] [(.ref b1)])
 refine Gz (XS.dup X1.here hx rfl (hb hby d40_3) rfl rfl) ?_
 refine gA X1 hx hby d40_4 rfl rfl rfl ?_
 refine cIg X1 hx hZ hw hown hby hml e1 mN39 177 178 179 25 1 (rm_tss1 l Z a0 hw [] b1 w b kb ys cn z cz h1 n0 Z0 A_b1 F_value_b1 F_coder_b1 g_b1 A_w F_value_w F_count_w F_coder_w V_b A_b hcn hlt hz hall sgC hcz ne_w_b1 ne_b_b1) d40_5 (lenOf own_pd26 rfl) (fun _ T2 L2 X2 hQ2 => ?_)
 obtain ⟨rfl, N2q, K2, T_b1_2'⟩ := hQ2
 have N2 := Fr.app N0 N2q
 replace KP := KP.trans K2 (allS (Or.inr sz_b1) all0)
 replace Z0 := Nat.le_trans Z0 K2.1
 have T_b1 := T_b1_2'
 show Goes _ _ _ _ _ (fT T2 m 8 #[vr w] [(.ref b1)])
 refine Goes.ret X2 (some (.ref b1)) (fun h => by rw [hret] at h; cases h) hlk (by decide) (by decide) ?_ (fun fs hr => ?_)
 ·exact ⟨b1, rfl, N2, KP, T_b1⟩
 ·exact own_retA X2 hx hret rfl rfl (hb hby d40_8) hr
theorem d41_0 : DK kc41 0 (.lload_n 0) 1 := by decide +kernel
theorem d41_1 : DK kc41 1 (.ldc2_w 89) 3 := by decide +kernel
theorem d41_4 : DK kc41 4 .ldiv 1 := by decide +kernel
theorem d41_5 : DK kc41 5 (.lload_n 0) 1 := by decide +kernel
theorem d41_6 : DK kc41 6 (.ldc2_w 89) 3 := by decide +kernel
theorem d41_9 : DK kc41 9 .lrem 1 := by decide +kernel
theorem d41_10 : DK kc41 10 (.ldc2_w 91) 3 := by decide +kernel
theorem d41_13 : DK kc41 13 .lcmp 1 := by decide +kernel
theorem d41_14 : DK kc41 14 (.ifCond .lt 7) 3 := by decide +kernel
theorem d41_22 : DK kc41 22 .i2l 1 := by decide +kernel
theorem d41_23 : DK kc41 23 .ladd 1 := by decide +kernel
theorem d41_24 : DK kc41 24 (.lstore_n 2) 1 := by decide +kernel
theorem d41_25 : DK kc41 25 (.new 59) 3 := by decide +kernel
theorem d41_28 : DK kc41 28 .dup 1 := by decide +kernel
theorem d41_29 : DK kc41 29 (.invokespecial 61) 3 := by decide +kernel
theorem own_pd27 : parseMethodDescriptor "()V" = some ⟨[], none⟩ := by decide +kernel
theorem d41_32 : DK kc41 32 (.lload_n 2) 1 := by decide +kernel
theorem d41_33 : DK kc41 33 (.ldc2_w 89) 3 := by decide +kernel
theorem d41_36 : DK kc41 36 .ldiv 1 := by decide +kernel
theorem d41_37 : DK kc41 37 (.invokevirtual 93) 3 := by decide +kernel
theorem own_pd28 : parseMethodDescriptor "(J)Ljava/lang/StringBuilder;" = some ⟨[.long], some (.object "java/lang/StringBuilder")⟩ := by decide +kernel
theorem d41_40 : DK kc41 40 (.ldc 96) 2 := by decide +kernel
theorem own_strW {a0 : Array Value} {Z : State} (hw : HW a0 Z) : ∀ a ∈ Bundle.stringAtoms, a.before a0 Z = true := by
 intro a ha
 simp only [Bundle.stringAtoms, List.mem_cons, List.not_mem_nil, or_false] at ha
 rcases ha with rfl | rfl | rfl | rfl | rfl | rfl | rfl
 ·exact (gw hw 25 rfl)
 ·exact (gw hw 65 rfl)
 ·exact (gw hw 26 rfl)
 ·exact (gw hw 66 rfl)
 ·exact (gw hw 67 rfl)
 ·exact (gw hw 68 rfl)
 ·exact (gw hw 69 rfl)
theorem own_EW {a0 : Array Value} {Z : State} (hw : HW a0 Z) : EW Z a0 consts_1 := (EW.cons (gw hw 64 rfl) (by decide) EW.nil)
theorem d41_42 : DK kc41 42 (.invokevirtual 68) 3 := by decide +kernel
theorem own_pd29 : parseMethodDescriptor "(Ljava/lang/String;)Ljava/lang/StringBuilder;" = some ⟨[(.object "java/lang/String")], some (.object "java/lang/StringBuilder")⟩ := by decide +kernel
theorem d41_45 : DK kc41 45 (.ldc2_w 89) 3 := by decide +kernel
theorem d41_48 : DK kc41 48 (.lload_n 2) 1 := by decide +kernel
theorem d41_49 : DK kc41 49 (.ldc2_w 89) 3 := by decide +kernel
theorem d41_52 : DK kc41 52 .lrem 1 := by decide +kernel
theorem d41_53 : DK kc41 53 .ladd 1 := by decide +kernel
theorem d41_54 : DK kc41 54 (.invokestatic 98) 3 := by decide +kernel
theorem own_pd30 : parseMethodDescriptor "(J)Ljava/lang/String;" = some ⟨[.long], some (.object "java/lang/String")⟩ := by decide +kernel
theorem d41_57 : DK kc41 57 (.iconst 1) 1 := by decide +kernel
theorem d41_58 : DK kc41 58 (.invokevirtual 101) 3 := by decide +kernel
theorem own_pd31 : parseMethodDescriptor "(I)Ljava/lang/String;" = some ⟨[.int], some (.object "java/lang/String")⟩ := by decide +kernel
theorem d41_61 : DK kc41 61 (.invokevirtual 68) 3 := by decide +kernel
theorem d41_64 : DK kc41 64 (.invokevirtual 71) 3 := by decide +kernel
theorem own_pd32 : parseMethodDescriptor "()Ljava/lang/String;" = some ⟨[], some (.object "java/lang/String")⟩ := by decide +kernel
theorem d41_67 : DK kc41 67 .areturn 1 := by decide +kernel
theorem d41_21 : DK kc41 21 (.iconst 0) 1 := by decide +kernel
theorem d41_17 : DK kc41 17 (.iconst 1) 1 := by decide +kernel
theorem d41_18 : DK kc41 18 (.goto 4) 3 := by decide +kernel
theorem own_pn8 : plainName "org/stripeward/scenario/Time" = true := by first | (simp [plainName, overriddenIn]; done) | decide +kernel
theorem own_ef_rm_tf (m : MethodId) (x0 : Int64) : entryFrame m #[(.long x0)] 4 = mkF m 0 #[.val (.long x0), .second, vu, vu] [] := by first | (simp [entryFrame, mkF, argsToLocals, Value.category]; done) | rfl
def Q_rm_tf (Z : State) (v : Int64) (k : Nat) (d1 : Addr) (k1 : ClassId) (d2 : Addr) (k2 : ClassId) (cz : Int32) (fo : Value) (h0 : Heap) (n0 : Nat) (v : Option Value) (h : Heap) (L : List Loc) : Prop := ∃ u : Addr, v = some (.ref u) ∧ Fr n0 L ∧ Keep h0 h [] ∧ StrOf Z h u (own_tf (own_r k))
theorem rm_tf (l : Launch) (Z : State) (a0 : Array Value) (hw : HW a0 Z) (ws : List Jvm.Cond) (v : Int64) (k : Nat) (d1 : Addr) (k1 : ClassId) (d2 : Addr) (k2 : ClassId) (cz : Int32) (fo : Value) (h0 : Heap) (n0 : Nat) (Z0 : n0 ≤ h0.size) (hm : v.toInt = (k : Int)) (S_DigitOnes : Sta Z h0 "java/lang/Integer" "DigitOnes" "[B" (.ref d1)) (S_DigitTens : Sta Z h0 "java/lang/Integer" "DigitTens" "[B" (.ref d2)) (V_d1 : Arv Z h0 d1 k1 .byte 100 own_ones (.int 0)) (V_d2 : Arv Z h0 d2 k2 .byte 100 own_tens (.int 0)) (sgC : Sta Z h0 "java/lang/String" "COMPACT_STRINGS" "Z" (.int cz)) (hcz : ¬ (cz = 0)) (sgF : Sta Z h0 "jdk/internal/util/Preconditions" "SIOOBE_FORMATTER" "Ljava/util/function/BiFunction;" fo) (r_fo : fo.isRef = true) :
  MetH l Z mN41 prog_27_method_5_code 4 (some (.object "java/lang/String")) ({ frames := 6, cells := 11, slots := 124, locals := 94 } : Room) ws #[(.long v)] h0 (Q_rm_tf Z v k d1 k1 d2 k2 cz fo h0 n0) := by
 refine own_metH (plainFor_of_name own_pn8) ?_
 intro p e s m below meth c s₁ hret hx hby hlk hml hown hnm X0 e0 hZ hh hC0
 have N0 := Fr.nil n0
 have hS : s.Since s.vm h0.size := (State.WarmedH.refl s).since _
 have hk : h0.size ≤ h0.size := Nat.le_refl _
 replace hZ : Z.Warmed39 (s.setVm s.vm).vm := hZ
 have hR : CHr Z consts_1 s.vm h0 s.vm h0 := CHr.refl hC0
 refine Gz (castTop (own_ef_rm_tf m v)) ?_
 have KP : Keep h0 h0 [] := Keep.refl _ _
 show Goes _ _ _ _ _ (fT s₁ m 0 #[.val (.long v), .second, vu, vu] [])
 refine Gz (XS.lloadN X0.here hx rfl (hb hby d41_0) rfl) ?_
 refine Gs (fun _ tk => Jvm.Stand.ldc2J X0 hx hown (gz hZ hw 7 rfl) rfl (hb hby d41_1) tk) ?_
 show Goes _ _ _ _ _ (fT s₁ m 4 #[.val (.long v), .second, vu, vu] [(.long (1000 : Int64)), (.long v)])
 refine Gz (XS.ldiv X0.here hx rfl (hb hby d41_4) rfl (by decide)) ?_
 show Goes _ _ _ _ _ (fT s₁ m 5 #[.val (.long v), .second, vu, vu] [(.long (v / (1000 : Int64)))])
 refine Gz (XS.lloadN X0.here hx rfl (hb hby d41_5) rfl) ?_
 refine Gs (fun _ tk => Jvm.Stand.ldc2J X0 hx hown (gz hZ hw 7 rfl) rfl (hb hby d41_6) tk) ?_
 show Goes _ _ _ _ _ (fT s₁ m 9 #[.val (.long v), .second, vu, vu] [(.long (1000 : Int64)), (.long v), (.long (v / (1000 : Int64)))])
 refine Gz (XS.lrem X0.here hx rfl (hb hby d41_9) rfl (by decide)) ?_
 rw [lrem_mod]
 show Goes _ _ _ _ _ (fT s₁ m 10 #[.val (.long v), .second, vu, vu] [(.long (v % (1000 : Int64))), (.long (v / (1000 : Int64)))])
 refine Gs (fun _ tk => Jvm.Stand.ldc2J X0 hx hown (gz hZ hw 8 rfl) rfl (hb hby d41_10) tk) ?_
 show Goes _ _ _ _ _ (fT s₁ m 13 #[.val (.long v), .second, vu, vu] [(.long (500 : Int64)), (.long (v % (1000 : Int64))), (.long (v / (1000 : Int64)))])
 refine Gz (XS.lcmp X0.here hx rfl (hb hby d41_13) rfl) ?_
 show Goes _ _ _ _ _ (fT s₁ m 14 #[.val (.long v), .second, vu, vu] [(.int (lcmpW (v % (1000 : Int64)) (500 : Int64))), (.long (v / (1000 : Int64)))])
 refine own_joinP (P := fun z => z.toInt = if 500 ≤ k % 1000 then 1 else 0) (B := fun z => s₁.setTop (mkF m 22 #[.val (.long v), .second, vu, vu] [(.int z), (.long (v / (1000 : Int64)))])) ?_ ?_
 ·intro z hz
  show Goes _ _ _ _ _ (fT s₁ m 22 #[.val (.long v), .second, vu, vu] [(.int z), (.long (v / (1000 : Int64)))])
  refine Gz (XS.i2l X0.here hx rfl (hb hby d41_22) rfl) ?_
  show Goes _ _ _ _ _ (fT s₁ m 23 #[.val (.long v), .second, vu, vu] [(.long (z.toInt64)), (.long (v / (1000 : Int64)))])
  refine Gz (XS.ladd X0.here hx rfl (hb hby d41_23) rfl) ?_
  show Goes _ _ _ _ _ (fT s₁ m 24 #[.val (.long v), .second, vu, vu] [(.long ((v / (1000 : Int64)) + (z.toInt64)))])
  have hr := own_fmt hm hz
  generalize ((v / (1000 : Int64)) + (z.toInt64)) = rr at hr ⊢
  show Goes _ _ _ _ _ (fT s₁ m 24 #[.val (.long v), .second, vu, vu] [(.long rr)])
  refine Gz (XS.lstoreN X0.here hx rfl (hb hby d41_24) rfl (l' := #[.val (.long v), .second, .val (.long rr), .second]) rfl) ?_
  obtain ⟨T1, h1, X1, e1, E1, A1, D1, U1, st1⟩ := newO X0 hx hZ hown (gw hw 9 rfl) (gw hw 10 rfl) (gw hw 11 rfl) e0 (g := (mkF m 25 #[.val (.long v), .second, .val (.long rr), .second] [])) rfl (hb hby d41_25) (by decide) (by decide)
  obtain ⟨b1, gq1⟩ : ∃ z, z = h0.size := ⟨_, rfl⟩
  rw [← gq1] at A1 st1 D1
  have g_b1 : n0 ≤ b1 := by rw [gq1]; exact Z0
  have sz_b1 : h0.size ≤ b1 := by rw [gq1]; exact KP.1
  have ne_d1_b1 : d1 ≠ b1 := by rw [gq1]; exact Nat.ne_of_lt V_d1.lt
  have ne_d2_b1 : d2 ≠ b1 := by rw [gq1]; exact Nat.ne_of_lt V_d2.lt
  have Sf_b1 : Safe Z consts_1 s.vm h0 b1 := Safe.new (Nat.le_of_eq gq1.symm)
  replace Sf_b1 := Safe.ext E1 hR.1 Sf_b1
  replace hR := hR.trans (CHr.ext E1 hR.1)
  replace S_DigitOnes := S_DigitOnes.ext E1
  replace S_DigitTens := S_DigitTens.ext E1
  replace V_d1 := V_d1.ext E1
  replace V_d2 := V_d2.ext E1
  replace sgC := sgC.ext E1
  replace sgF := sgF.ext E1
  replace KP := KP.ext E1
  replace Z0 : n0 ≤ h1.size := Nat.le_trans Z0 E1.1
  replace hk := Nat.le_trans hk E1.1
  have A_b1 : Exa Z h1 b1 "java/lang/StringBuilder" := A1
  have F_value_b1 : Fld Z h1 b1 "java/lang/AbstractStringBuilder" "value" "[B" .null := D1 (Or.inl (gw hw 28 rfl)) (ty := (.array .byte)) (by decide)
  have F_coder_b1 : Fld Z h1 b1 "java/lang/AbstractStringBuilder" "coder" "B" (.int 0) := D1 (Or.inl (gw hw 30 rfl)) (ty := .byte) (by decide)
  have F_count_b1 : Fld Z h1 b1 "java/lang/AbstractStringBuilder" "count" "I" (.int 0) := D1 (Or.inl (gw hw 42 rfl)) (ty := .int) (by decide)
  refine Gs st1 ?_
  show Goes _ _ _ _ _ (fT T1 m 28 #[.val (.long v), .second, .val (.long rr), .second] [(.ref b1)])
  refine Gz (XS.dup X1.here hx rfl (hb hby d41_28) rfl rfl) ?_
  have ltc2_d1 : d1 < h1.size := V_d1.lt
  have ltc2_d2 : d2 < h1.size := V_d2.lt
  have ltc2_b1 : b1 < h1.size := A_b1.lt
  have szs2 : h0.size ≤ h1.size := KP.1
  refine cIg X1 hx hZ hw hown hby hml e1 mN10 12 13 14 11 1 (rm_sbi l Z a0 hw [] b1 cz h1 n0 Z0 A_b1 F_value_b1 F_count_b1 F_coder_b1 g_b1 sgC hcz) d41_29 (lenOf own_pd27 rfl) (fun _ T2 L2 X2 hQ2 => ?_)
  obtain ⟨b2, kb2, rfl, N2q, K2, F_value_b1_2', F_count_b1_2', F_coder_b1_2', V_b2_2', A_b2_2', g_b2_2', sz_b2_2'⟩ := hQ2
  have N2 := Fr.app N0 N2q
  have Sf_b2 : Safe Z consts_1 s.vm h1 b2 := Safe.new sz_b2_2'
  replace S_DigitOnes := own_staK S_DigitOnes K2 (allS (own_obE A_b1) all0)
  replace S_DigitTens := own_staK S_DigitTens K2 (allS (own_obE A_b1) all0)
  replace sgC := own_staK sgC K2 (allS (own_obE A_b1) all0)
  replace sgF := own_staK sgF K2 (allS (own_obE A_b1) all0)
  have Sf_b1' := Safe.keep K2 (allS Sf_b1 all0) hR.1 Sf_b1
  have Sf_b2' := Safe.keep K2 (allS Sf_b1 all0) hR.1 Sf_b2
  replace hR := hR.trans (CHr.keep K2 (allS Sf_b1 all0) hR.1)
  replace Sf_b1 := Sf_b1'
  replace Sf_b2 := Sf_b2'
  replace V_d1 := V_d1.keep K2 (ninS ne_d1_b1 nin0)
  replace V_d2 := V_d2.keep K2 (ninS ne_d2_b1 nin0)
  replace A_b1 := A_b1.keep K2
  replace KP := KP.trans K2 (allS (Or.inr sz_b1) all0)
  replace Z0 := Nat.le_trans Z0 K2.1
  replace hk := Nat.le_trans hk K2.1
  have F_value_b1 := F_value_b1_2'
  have F_count_b1 := F_count_b1_2'
  have F_coder_b1 := F_coder_b1_2'
  have V_b2 := V_b2_2'
  have A_b2 := A_b2_2'
  have g_b2 := g_b2_2'
  have szc_b2 := sz_b2_2'
  have ne_d1_b2 : d1 ≠ b2 := Nat.ne_of_lt (Nat.lt_of_lt_of_le ltc2_d1 szc_b2)
  have ne_d2_b2 : d2 ≠ b2 := Nat.ne_of_lt (Nat.lt_of_lt_of_le ltc2_d2 szc_b2)
  have ne_b1_b2 : b1 ≠ b2 := Nat.ne_of_lt (Nat.lt_of_lt_of_le ltc2_b1 szc_b2)
  have sz_b2 : h0.size ≤ b2 := Nat.le_trans szs2 szc_b2
  show Goes _ _ _ _ _ (fT T2 m 32 #[.val (.long v), .second, .val (.long rr), .second] [(.ref b1)])
  refine Gz (XS.lloadN X2.here hx rfl (hb hby d41_32) rfl) ?_
  refine Gs (fun _ tk => Jvm.Stand.ldc2J X2 hx hown (gz hZ hw 7 rfl) rfl (hb hby d41_33) tk) ?_
  show Goes _ _ _ _ _ (fT T2 m 36 #[.val (.long v), .second, .val (.long rr), .second] [(.long (1000 : Int64)), (.long rr), (.ref b1)])
  refine Gz (XS.ldiv X2.here hx rfl (hb hby d41_36) rfl (by decide)) ?_
  show Goes _ _ _ _ _ (fT T2 m 37 #[.val (.long v), .second, .val (.long rr), .second] [(.long (rr / (1000 : Int64))), (.ref b1)])
  refine cVg X2 hx hZ hw hown hby hml rfl mN14 31 32 34 33 35 11 0 (rm_sj l Z a0 hw [] b1 b2 kb2 (rr / (1000 : Int64)) (own_r k / 1000) d1 k1 d2 k2 cz T2.heap n0 Z0 A_b1 F_value_b1 F_count_b1 F_coder_b1 V_b2 g_b1 g_b2 ne_b1_b2 (own_div hr) (own_rB hm) S_DigitOnes S_DigitTens V_d1 V_d2 ne_d1_b2 ne_d2_b2 ne_d1_b1 ne_d2_b1 sgC hcz) A_b1 d41_37 (lenOf own_pd28 rfl) (fun _ T3 L3 X3 hQ3 => ?_)
  obtain ⟨rfl, N3q, K3, F_value_b1_3', F_count_b1_3', F_coder_b1_3', V_b2_3'⟩ := hQ3
  have N3 := Fr.app N2 N3q
  replace S_DigitOnes := own_staK S_DigitOnes K3 (allS (own_obE A_b1) (allS (own_obA V_b2) all0))
  replace S_DigitTens := own_staK S_DigitTens K3 (allS (own_obE A_b1) (allS (own_obA V_b2) all0))
  replace sgC := own_staK sgC K3 (allS (own_obE A_b1) (allS (own_obA V_b2) all0))
  replace sgF := own_staK sgF K3 (allS (own_obE A_b1) (allS (own_obA V_b2) all0))
  have Sf_b1' := Safe.keep K3 (allS Sf_b1 (allS Sf_b2 all0)) hR.1 Sf_b1
  have Sf_b2' := Safe.keep K3 (allS Sf_b1 (allS Sf_b2 all0)) hR.1 Sf_b2
  replace hR := hR.trans (CHr.keep K3 (allS Sf_b1 (allS Sf_b2 all0)) hR.1)
  replace Sf_b1 := Sf_b1'
  replace Sf_b2 := Sf_b2'
  replace V_d1 := V_d1.keep K3 (ninS ne_d1_b1 (ninS ne_d1_b2 nin0))
  replace V_d2 := V_d2.keep K3 (ninS ne_d2_b1 (ninS ne_d2_b2 nin0))
  replace A_b1 := A_b1.keep K3
  replace A_b2 := A_b2.keep K3
  replace KP := KP.trans K3 (allS (Or.inr sz_b1) (allS (Or.inr sz_b2) all0))
  replace Z0 := Nat.le_trans Z0 K3.1
  replace hk := Nat.le_trans hk K3.1
  have F_value_b1 := F_value_b1_3'
  have F_count_b1 := F_count_b1_3'
  have F_coder_b1 := F_coder_b1_3'
  have V_b2 := V_b2_3'
  show Goes _ _ _ _ _ (fT T3 m 40 #[.val (.long v), .second, .val (.long rr), .second] [(.ref b1)])
  have lt_b1 : b1 < T3.heap.size := A_b1.lt
  have lt_b2 : b2 < T3.heap.size := A_b2.lt
  obtain ⟨c4, T4, h4, kk4, cb4, kc4, X4, e4, E4, hS, hk4, hZ, hown, A_c4, F_coder_c4, F_value_c4, V_cb4, -, -, hC4, hL4, hsf4, st4⟩ := ldcCH X3 hx hZ hown (gw hw 64 rfl) (own_strW hw) rfl hS hk (own_EW hw) (List.mem_of_getElem? (i := 0) rfl) hR.1 (vs := [(.int 46)]) (z := (1 : Int32)) ⟨by first | decide | rfl, by first | decide | rfl⟩ (by decide) (by decide) (g := (mkF m 40 #[.val (.long v), .second, .val (.long rr), .second] [(.ref b1)])) rfl (hb hby d41_40) (n := 4) (by decide) (by decide) (by decide) (by decide)
  replace S_DigitOnes := S_DigitOnes.ext E4
  replace S_DigitTens := S_DigitTens.ext E4
  replace V_d1 := V_d1.ext E4
  replace V_d2 := V_d2.ext E4
  replace sgC := sgC.ext E4
  replace sgF := sgF.ext E4
  replace A_b1 := A_b1.ext E4
  replace A_b2 := A_b2.ext E4
  replace F_value_b1 := F_value_b1.ext E4
  replace F_count_b1 := F_count_b1.ext E4
  replace F_coder_b1 := F_coder_b1.ext E4
  replace V_b2 := V_b2.ext E4
  replace KP := KP.ext E4
  replace Sf_b1 := hC4.safe lt_b1 Sf_b1
  replace Sf_b2 := hC4.safe lt_b2 Sf_b2
  replace hR := hR.trans hC4
  replace Z0 : n0 ≤ h4.size := Nat.le_trans Z0 E4.1
  replace hk := hk4
  have ne_b1_c4 : b1 ≠ c4 := (hsf4 _ Sf_b1).1
  have ne_b1_cb4 : b1 ≠ cb4 := (hsf4 _ Sf_b1).2
  have ne_b2_c4 : b2 ≠ c4 := (hsf4 _ Sf_b2).1
  have ne_b2_cb4 : b2 ≠ cb4 := (hsf4 _ Sf_b2).2
  refine Gs st4 ?_
  show Goes _ _ _ _ _ (fT T4 m 42 #[.val (.long v), .second, .val (.long rr), .second] [(.ref c4), (.ref b1)])
  have T_c4 : StrOf Z h4 c4 [(46 : Int32)] := StrOf.latin A_c4 F_value_c4 F_coder_c4 V_cb4 (by intro c hc; rw [List.mem_singleton.mp hc]; exact own_lat46) rfl rfl (Nat.le_of_ble_eq_true rfl)
  refine cVg X4 hx hZ hw hown hby hml e4 mN19 70 71 73 72 74 11 0 (rm_ssb l Z a0 hw [] b1 c4 [(46 : Int32)] b2 kb2 (own_dg (own_r k / 1000)) (own_len (own_r k / 1000)) (16 : Int32) cz h4 n0 Z0 A_b1 F_value_b1 F_count_b1 F_coder_b1 V_b2 T_c4 g_b1 g_b2 ne_b1_b2 (own_dgL _).symm (Nat.le_trans (Nat.add_le_add_right (own_len13 _) _) (by decide)) (by decide) sgC hcz) A_b1 d41_42 (lenOf own_pd29 rfl) (fun _ T5 L5 X5 hQ5 => ?_)
  obtain ⟨rfl, N5q, K5, F_value_b1_5', F_count_b1_5', F_coder_b1_5', V_b2_5'⟩ := hQ5
  have N5 := Fr.app N3 N5q
  replace S_DigitOnes := own_staK S_DigitOnes K5 (allS (own_obE A_b1) (allS (own_obE A_b2) all0))
  replace S_DigitTens := own_staK S_DigitTens K5 (allS (own_obE A_b1) (allS (own_obE A_b2) all0))
  replace sgC := own_staK sgC K5 (allS (own_obE A_b1) (allS (own_obE A_b2) all0))
  replace sgF := own_staK sgF K5 (allS (own_obE A_b1) (allS (own_obE A_b2) all0))
  have Sf_b1' := Safe.keep K5 (allS Sf_b1 (allS Sf_b2 all0)) hR.1 Sf_b1
  have Sf_b2' := Safe.keep K5 (allS Sf_b1 (allS Sf_b2 all0)) hR.1 Sf_b2
  replace hR := hR.trans (CHr.keep K5 (allS Sf_b1 (allS Sf_b2 all0)) hR.1)
  replace Sf_b1 := Sf_b1'
  replace Sf_b2 := Sf_b2'
  replace V_d1 := V_d1.keep K5 (ninS ne_d1_b1 (ninS ne_d1_b2 nin0))
  replace V_d2 := V_d2.keep K5 (ninS ne_d2_b1 (ninS ne_d2_b2 nin0))
  replace A_b1 := A_b1.keep K5
  replace A_b2 := A_b2.keep K5
  replace A_c4 := A_c4.keep K5
  replace V_cb4 := V_cb4.keep K5 (ninS (Ne.symm ne_b1_cb4) (ninS (Ne.symm ne_b2_cb4) nin0))
  replace KP := KP.trans K5 (allS (Or.inr sz_b1) (allS (Or.inr sz_b2) all0))
  replace Z0 := Nat.le_trans Z0 K5.1
  replace hk := Nat.le_trans hk K5.1
  have F_value_b1 := F_value_b1_5'
  have F_count_b1 := F_count_b1_5'
  have F_coder_b1 := F_coder_b1_5'
  have V_b2 := V_b2_5'
  show Goes _ _ _ _ _ (fT T5 m 45 #[.val (.long v), .second, .val (.long rr), .second] [(.ref b1)])
  refine Gs (fun _ tk => Jvm.Stand.ldc2J X5 hx hown (gz hZ hw 7 rfl) rfl (hb hby d41_45) tk) ?_
  show Goes _ _ _ _ _ (fT T5 m 48 #[.val (.long v), .second, .val (.long rr), .second] [(.long (1000 : Int64)), (.ref b1)])
  refine Gz (XS.lloadN X5.here hx rfl (hb hby d41_48) rfl) ?_
  refine Gs (fun _ tk => Jvm.Stand.ldc2J X5 hx hown (gz hZ hw 7 rfl) rfl (hb hby d41_49) tk) ?_
  show Goes _ _ _ _ _ (fT T5 m 52 #[.val (.long v), .second, .val (.long rr), .second] [(.long (1000 : Int64)), (.long rr), (.long (1000 : Int64)), (.ref b1)])
  refine Gz (XS.lrem X5.here hx rfl (hb hby d41_52) rfl (by decide)) ?_
  rw [lrem_mod]
  show Goes _ _ _ _ _ (fT T5 m 53 #[.val (.long v), .second, .val (.long rr), .second] [(.long (rr % (1000 : Int64))), (.long (1000 : Int64)), (.ref b1)])
  refine Gz (XS.ladd X5.here hx rfl (hb hby d41_53) rfl) ?_
  show Goes _ _ _ _ _ (fT T5 m 54 #[.val (.long v), .second, .val (.long rr), .second] [(.long ((1000 : Int64) + (rr % (1000 : Int64)))), (.ref b1)])
  have ltc6_d1 : d1 < T5.heap.size := V_d1.lt
  have ltc6_d2 : d2 < T5.heap.size := V_d2.lt
  have ltc6_b1 : b1 < T5.heap.size := A_b1.lt
  have ltc6_b2 : b2 < T5.heap.size := A_b2.lt
  have ltc6_c4 : c4 < T5.heap.size := A_c4.lt
  have ltc6_cb4 : cb4 < T5.heap.size := V_cb4.lt
  refine cSg X5 hx hZ hw hown hby hml rfl mN26 112 113 114 45 1 (rm_lts l Z a0 hw [] ((1000 : Int64) + (rr % (1000 : Int64))) (1000 + own_r k % 1000) d1 k1 d2 k2 cz T5.heap n0 Z0 (own_1000 hr) (by omega) S_DigitOnes S_DigitTens V_d1 V_d2 sgC hcz) d41_54 (lenOf own_pd30 rfl) (fun _ T6 L6 X6 hQ6 => ?_)
  obtain ⟨u6, rfl, N6q, K6, T_u6_6', g_u6_6', sz_u6_6'⟩ := hQ6
  have N6 := Fr.app N5 N6q
  replace sgC := own_staK sgC K6 all0
  replace sgF := own_staK sgF K6 all0
  have Sf_b1' := Safe.keep K6 all0 hR.1 Sf_b1
  have Sf_b2' := Safe.keep K6 all0 hR.1 Sf_b2
  replace hR := hR.trans (CHr.keep K6 all0 hR.1)
  replace Sf_b1 := Sf_b1'
  replace Sf_b2 := Sf_b2'
  replace V_d1 := V_d1.keep K6 nin0
  replace V_d2 := V_d2.keep K6 nin0
  replace A_b1 := A_b1.keep K6
  replace A_b2 := A_b2.keep K6
  replace A_c4 := A_c4.keep K6
  replace V_cb4 := V_cb4.keep K6 nin0
  replace F_value_b1 := F_value_b1.keep K6 nin0
  replace F_count_b1 := F_count_b1.keep K6 nin0
  replace F_coder_b1 := F_coder_b1.keep K6 nin0
  replace V_b2 := V_b2.keep K6 nin0
  replace KP := KP.trans K6 all0
  replace Z0 := Nat.le_trans Z0 K6.1
  replace hk := Nat.le_trans hk K6.1
  have T_u6 := T_u6_6'
  have g_u6 := g_u6_6'
  have szc_u6 := sz_u6_6'
  have ne_d1_u6 : d1 ≠ u6 := Nat.ne_of_lt (Nat.lt_of_lt_of_le ltc6_d1 szc_u6)
  have ne_d2_u6 : d2 ≠ u6 := Nat.ne_of_lt (Nat.lt_of_lt_of_le ltc6_d2 szc_u6)
  have ne_b1_u6 : b1 ≠ u6 := Nat.ne_of_lt (Nat.lt_of_lt_of_le ltc6_b1 szc_u6)
  have ne_b2_u6 : b2 ≠ u6 := Nat.ne_of_lt (Nat.lt_of_lt_of_le ltc6_b2 szc_u6)
  have ne_c4_u6 : c4 ≠ u6 := Nat.ne_of_lt (Nat.lt_of_lt_of_le ltc6_c4 szc_u6)
  have ne_cb4_u6 : cb4 ≠ u6 := Nat.ne_of_lt (Nat.lt_of_lt_of_le ltc6_cb4 szc_u6)
  show Goes _ _ _ _ _ (fT T6 m 57 #[.val (.long v), .second, .val (.long rr), .second] [(.ref u6), (.ref b1)])
  rw [own_d4 _ (Nat.mod_lt _ (by decide))] at T_u6
  refine gC X6 hx hby d41_57 ?_
  have ltc7_d1 : d1 < T6.heap.size := V_d1.lt
  have ltc7_d2 : d2 < T6.heap.size := V_d2.lt
  have ltc7_b1 : b1 < T6.heap.size := A_b1.lt
  have ltc7_b2 : b2 < T6.heap.size := A_b2.lt
  have ltc7_c4 : c4 < T6.heap.size := A_c4.lt
  have ltc7_cb4 : cb4 < T6.heap.size := V_cb4.lt
  have ltc7_u6 : u6 < T6.heap.size := T_u6.lt
  refine cVg X6 hx hZ hw hown hby hml rfl mN34 126 127 129 128 130 25 1 (rm_sb1 l Z a0 hw [] u6 (49 : Int32) (own_dc (own_r k % 1000 / 100)) (own_dc (own_r k % 1000 / 10 % 10)) (own_dc (own_r k % 1000 % 10)) cz fo T6.heap n0 Z0 T_u6 sgC hcz sgF r_fo) T_u6.exa d41_58 (lenOf own_pd31 rfl) (fun _ T7 L7 X7 hQ7 => ?_)
  obtain ⟨u7, rfl, N7q, K7, T_u7_7', g_u7_7', sz_u7_7'⟩ := hQ7
  have N7 := Fr.app N6 N7q
  replace sgC := own_staK sgC K7 all0
  have Sf_b1' := Safe.keep K7 all0 hR.1 Sf_b1
  have Sf_b2' := Safe.keep K7 all0 hR.1 Sf_b2
  replace hR := hR.trans (CHr.keep K7 all0 hR.1)
  replace Sf_b1 := Sf_b1'
  replace Sf_b2 := Sf_b2'
  replace T_u6 := T_u6.keep K7 all0
  replace V_d1 := V_d1.keep K7 nin0
  replace V_d2 := V_d2.keep K7 nin0
  replace A_b1 := A_b1.keep K7
  replace A_b2 := A_b2.keep K7
  replace A_c4 := A_c4.keep K7
  replace V_cb4 := V_cb4.keep K7 nin0
  replace F_value_b1 := F_value_b1.keep K7 nin0
  replace F_count_b1 := F_count_b1.keep K7 nin0
  replace F_coder_b1 := F_coder_b1.keep K7 nin0
  replace V_b2 := V_b2.keep K7 nin0
  replace KP := KP.trans K7 all0
  replace Z0 := Nat.le_trans Z0 K7.1
  replace hk := Nat.le_trans hk K7.1
  have T_u7 := T_u7_7'
  have g_u7 := g_u7_7'
  have szc_u7 := sz_u7_7'
  have ne_d1_u7 : d1 ≠ u7 := Nat.ne_of_lt (Nat.lt_of_lt_of_le ltc7_d1 szc_u7)
  have ne_d2_u7 : d2 ≠ u7 := Nat.ne_of_lt (Nat.lt_of_lt_of_le ltc7_d2 szc_u7)
  have ne_b1_u7 : b1 ≠ u7 := Nat.ne_of_lt (Nat.lt_of_lt_of_le ltc7_b1 szc_u7)
  have ne_b2_u7 : b2 ≠ u7 := Nat.ne_of_lt (Nat.lt_of_lt_of_le ltc7_b2 szc_u7)
  have ne_c4_u7 : c4 ≠ u7 := Nat.ne_of_lt (Nat.lt_of_lt_of_le ltc7_c4 szc_u7)
  have ne_cb4_u7 : cb4 ≠ u7 := Nat.ne_of_lt (Nat.lt_of_lt_of_le ltc7_cb4 szc_u7)
  have ne_u6_u7 : u6 ≠ u7 := Nat.ne_of_lt (Nat.lt_of_lt_of_le ltc7_u6 szc_u7)
  show Goes _ _ _ _ _ (fT T7 m 61 #[.val (.long v), .second, .val (.long rr), .second] [(.ref u7), (.ref b1)])
  have h13 := own_len13 (own_r k / 1000)
  rcases (show own_len (own_r k / 1000) ≤ 11 ∨ own_len (own_r k / 1000) = 12 ∨ own_len (own_r k / 1000) = 13 by omega) with hl | hl | hl
  ·show Goes _ _ _ _ _ (fT T7 m 61 #[.val (.long v), .second, .val (.long rr), .second] [(.ref u7), (.ref b1)])
   refine cVg X7 hx hZ hw hown hby hml rfl mN19 70 71 73 72 74 11 0 (rm_ssb l Z a0 hw [] b1 u7 [(own_dc (own_r k % 1000 / 100)), (own_dc (own_r k % 1000 / 10 % 10)), (own_dc (own_r k % 1000 % 10))] b2 kb2 ((own_dg (own_r k / 1000)) ++ [(46 : Int32)]) ((own_len (own_r k / 1000)) + [(46 : Int32)].length) (16 : Int32) cz T7.heap n0 Z0 A_b1 F_value_b1 F_count_b1 F_coder_b1 V_b2 T_u7 g_b1 g_b2 ne_b1_b2 (by rw [List.length_append, own_dgL]) (by rw [show (16 : Int32).toNatClampNeg = 16 from by decide]; show own_len (own_r k / 1000) + 1 + 3 ≤ 16; omega) (by decide) sgC hcz) A_b1 d41_61 (lenOf own_pd29 rfl) (fun _ T8 L8 X8 hQ8 => ?_)
   obtain ⟨rfl, N8q, K8, F_value_b1_8', F_count_b1_8', F_coder_b1_8', V_b2_8'⟩ := hQ8
   have N8 := Fr.app N7 N8q
   replace sgC := own_staK sgC K8 (allS (own_obE A_b1) (allS (own_obE A_b2) all0))
   have Sf_b1' := Safe.keep K8 (allS Sf_b1 (allS Sf_b2 all0)) hR.1 Sf_b1
   have Sf_b2' := Safe.keep K8 (allS Sf_b1 (allS Sf_b2 all0)) hR.1 Sf_b2
   replace hR := hR.trans (CHr.keep K8 (allS Sf_b1 (allS Sf_b2 all0)) hR.1)
   replace Sf_b1 := Sf_b1'
   replace Sf_b2 := Sf_b2'
   replace V_d1 := V_d1.keep K8 (ninS ne_d1_b1 (ninS ne_d1_b2 nin0))
   replace V_d2 := V_d2.keep K8 (ninS ne_d2_b1 (ninS ne_d2_b2 nin0))
   replace A_b1 := A_b1.keep K8
   replace A_b2 := A_b2.keep K8
   replace A_c4 := A_c4.keep K8
   replace V_cb4 := V_cb4.keep K8 (ninS (Ne.symm ne_b1_cb4) (ninS (Ne.symm ne_b2_cb4) nin0))
   replace KP := KP.trans K8 (allS (Or.inr sz_b1) (allS (Or.inr sz_b2) all0))
   replace Z0 := Nat.le_trans Z0 K8.1
   replace hk := Nat.le_trans hk K8.1
   have F_value_b1 := F_value_b1_8'
   have F_count_b1 := F_count_b1_8'
   have F_coder_b1 := F_coder_b1_8'
   have V_b2 := V_b2_8'
   show Goes _ _ _ _ _ (fT T8 m 64 #[.val (.long v), .second, .val (.long rr), .second] [(.ref b1)])
   refine cVg X8 hx hZ hw hown hby hml rfl mN40 171 172 174 173 175 11 0 (rm_tst0 l Z a0 hw [] b1 b2 kb2 (((own_dg (own_r k / 1000)) ++ [(46 : Int32)]) ++ [(own_dc (own_r k % 1000 / 100)), (own_dc (own_r k % 1000 / 10 % 10)), (own_dc (own_r k % 1000 % 10))]) (((own_len (own_r k / 1000)) + [(46 : Int32)].length) + [(own_dc (own_r k % 1000 / 100)), (own_dc (own_r k % 1000 / 10 % 10)), (own_dc (own_r k % 1000 % 10))].length) (16 : Int32) cz T8.heap n0 Z0 A_b1 F_value_b1 F_count_b1 F_coder_b1 V_b2 (by rw [List.length_append, List.length_append, own_dgL]) (by rw [show (16 : Int32).toNatClampNeg = 16 from by decide]; show own_len (own_r k / 1000) + 1 + 3 < 16; omega) (by decide) (own_tfL (own_r k)) sgC hcz) A_b1 d41_64 (lenOf own_pd32 rfl) (fun _ T9 L9 X9 hQ9 => ?_)
   obtain ⟨u9, rfl, N9q, K9, T_u9_9'⟩ := hQ9
   have N9 := Fr.app N8 N9q
   replace sgC := own_staK sgC K9 all0
   have Sf_b1' := Safe.keep K9 all0 hR.1 Sf_b1
   have Sf_b2' := Safe.keep K9 all0 hR.1 Sf_b2
   replace hR := hR.trans (CHr.keep K9 all0 hR.1)
   replace Sf_b1 := Sf_b1'
   replace Sf_b2 := Sf_b2'
   replace V_d1 := V_d1.keep K9 nin0
   replace V_d2 := V_d2.keep K9 nin0
   replace A_b1 := A_b1.keep K9
   replace A_b2 := A_b2.keep K9
   replace A_c4 := A_c4.keep K9
   replace V_cb4 := V_cb4.keep K9 nin0
   replace F_value_b1 := F_value_b1.keep K9 nin0
   replace F_count_b1 := F_count_b1.keep K9 nin0
   replace F_coder_b1 := F_coder_b1.keep K9 nin0
   replace V_b2 := V_b2.keep K9 nin0
   replace KP := KP.trans K9 all0
   replace Z0 := Nat.le_trans Z0 K9.1
   replace hk := Nat.le_trans hk K9.1
   have T_u9 := T_u9_9'
   show Goes _ _ _ _ _ (fT T9 m 67 #[.val (.long v), .second, .val (.long rr), .second] [(.ref u9)])
   have T_u9 : StrOf Z T9.heap u9 (own_tf (own_r k)) := T_u9
   refine Goes.retH X9 hS rfl hk hZ (own_EW hw) hh hR (some (.ref u9)) (fun h => by rw [hret] at h; cases h) hlk (by decide) (by decide) ?_ (fun fs hr => ?_)
   ·exact ⟨u9, rfl, N9, KP, T_u9⟩
   ·exact own_retA X9 hx hret rfl rfl (hb hby d41_67) hr
  ·show Goes _ _ _ _ _ (fT T7 m 61 #[.val (.long v), .second, .val (.long rr), .second] [(.ref u7), (.ref b1)])
   refine cVg X7 hx hZ hw hown hby hml rfl mN19 70 71 73 72 74 11 0 (rm_ssb l Z a0 hw [] b1 u7 [(own_dc (own_r k % 1000 / 100)), (own_dc (own_r k % 1000 / 10 % 10)), (own_dc (own_r k % 1000 % 10))] b2 kb2 ((own_dg (own_r k / 1000)) ++ [(46 : Int32)]) ((own_len (own_r k / 1000)) + [(46 : Int32)].length) (16 : Int32) cz T7.heap n0 Z0 A_b1 F_value_b1 F_count_b1 F_coder_b1 V_b2 T_u7 g_b1 g_b2 ne_b1_b2 (by rw [List.length_append, own_dgL]) (by rw [show (16 : Int32).toNatClampNeg = 16 from by decide]; show own_len (own_r k / 1000) + 1 + 3 ≤ 16; omega) (by decide) sgC hcz) A_b1 d41_61 (lenOf own_pd29 rfl) (fun _ T10 L10 X10 hQ10 => ?_)
   obtain ⟨rfl, N10q, K10, F_value_b1_10', F_count_b1_10', F_coder_b1_10', V_b2_10'⟩ := hQ10
   have N10 := Fr.app N7 N10q
   replace sgC := own_staK sgC K10 (allS (own_obE A_b1) (allS (own_obE A_b2) all0))
   have Sf_b1' := Safe.keep K10 (allS Sf_b1 (allS Sf_b2 all0)) hR.1 Sf_b1
   replace hR := hR.trans (CHr.keep K10 (allS Sf_b1 (allS Sf_b2 all0)) hR.1)
   replace Sf_b1 := Sf_b1'
   replace V_d1 := V_d1.keep K10 (ninS ne_d1_b1 (ninS ne_d1_b2 nin0))
   replace V_d2 := V_d2.keep K10 (ninS ne_d2_b1 (ninS ne_d2_b2 nin0))
   replace A_b1 := A_b1.keep K10
   replace A_b2 := A_b2.keep K10
   replace A_c4 := A_c4.keep K10
   replace V_cb4 := V_cb4.keep K10 (ninS (Ne.symm ne_b1_cb4) (ninS (Ne.symm ne_b2_cb4) nin0))
   replace KP := KP.trans K10 (allS (Or.inr sz_b1) (allS (Or.inr sz_b2) all0))
   replace Z0 := Nat.le_trans Z0 K10.1
   replace hk := Nat.le_trans hk K10.1
   have F_value_b1 := F_value_b1_10'
   have F_count_b1 := F_count_b1_10'
   have F_coder_b1 := F_coder_b1_10'
   have V_b2 := V_b2_10'
   show Goes _ _ _ _ _ (fT T10 m 64 #[.val (.long v), .second, .val (.long rr), .second] [(.ref b1)])
   refine cVg X10 hx hZ hw hown hby hml rfl mN40 171 172 174 173 175 11 0 (rm_tst1 l Z a0 hw [] b1 b2 kb2 (((own_dg (own_r k / 1000)) ++ [(46 : Int32)]) ++ [(own_dc (own_r k % 1000 / 100)), (own_dc (own_r k % 1000 / 10 % 10)), (own_dc (own_r k % 1000 % 10))]) (((own_len (own_r k / 1000)) + [(46 : Int32)].length) + [(own_dc (own_r k % 1000 / 100)), (own_dc (own_r k % 1000 / 10 % 10)), (own_dc (own_r k % 1000 % 10))].length) (16 : Int32) cz T10.heap n0 Z0 A_b1 F_value_b1 F_count_b1 F_coder_b1 V_b2 A_b2 (by rw [List.length_append, List.length_append, own_dgL]) (by rw [show (16 : Int32).toNatClampNeg = 16 from by decide]; show own_len (own_r k / 1000) + 1 + 3 = 16; omega) (by decide) (own_tfL (own_r k)) sgC hcz) A_b1 d41_64 (lenOf own_pd32 rfl) (fun _ T11 L11 X11 hQ11 => ?_)
   obtain ⟨u11, rfl, N11q, K11, T_u11_11'⟩ := hQ11
   have N11 := Fr.app N10 N11q
   replace sgC := own_staK sgC K11 all0
   have Sf_b1' := Safe.keep K11 all0 hR.1 Sf_b1
   replace hR := hR.trans (CHr.keep K11 all0 hR.1)
   replace Sf_b1 := Sf_b1'
   replace V_d1 := V_d1.keep K11 nin0
   replace V_d2 := V_d2.keep K11 nin0
   replace A_b1 := A_b1.keep K11
   replace A_b2 := A_b2.keep K11
   replace A_c4 := A_c4.keep K11
   replace V_cb4 := V_cb4.keep K11 nin0
   replace F_value_b1 := F_value_b1.keep K11 nin0
   replace F_count_b1 := F_count_b1.keep K11 nin0
   replace F_coder_b1 := F_coder_b1.keep K11 nin0
   replace V_b2 := V_b2.keep K11 nin0
   replace KP := KP.trans K11 all0
   replace Z0 := Nat.le_trans Z0 K11.1
   replace hk := Nat.le_trans hk K11.1
   have T_u11 := T_u11_11'
   show Goes _ _ _ _ _ (fT T11 m 67 #[.val (.long v), .second, .val (.long rr), .second] [(.ref u11)])
   have T_u11 : StrOf Z T11.heap u11 (own_tf (own_r k)) := T_u11
   refine Goes.retH X11 hS rfl hk hZ (own_EW hw) hh hR (some (.ref u11)) (fun h => by rw [hret] at h; cases h) hlk (by decide) (by decide) ?_ (fun fs hr => ?_)
   ·exact ⟨u11, rfl, N11, KP, T_u11⟩
   ·exact own_retA X11 hx hret rfl rfl (hb hby d41_67) hr
  ·show Goes _ _ _ _ _ (fT T7 m 61 #[.val (.long v), .second, .val (.long rr), .second] [(.ref u7), (.ref b1)])
   replace F_count_b1 : Fld Z T7.heap b1 "java/lang/AbstractStringBuilder" "count" "I" (.int (Int32.ofNat 14)) := by have q := F_count_b1; rw [hl] at q; exact q
   have ltc12_d1 : d1 < T7.heap.size := V_d1.lt
   have ltc12_d2 : d2 < T7.heap.size := V_d2.lt
   have ltc12_b1 : b1 < T7.heap.size := A_b1.lt
   have ltc12_b2 : b2 < T7.heap.size := A_b2.lt
   have ltc12_c4 : c4 < T7.heap.size := A_c4.lt
   have ltc12_cb4 : cb4 < T7.heap.size := V_cb4.lt
   have ltc12_u6 : u6 < T7.heap.size := T_u6.lt
   have ltc12_u7 : u7 < T7.heap.size := T_u7.lt
   refine cVg X7 hx hZ hw hown hby hml rfl mN19 70 71 73 72 74 11 0 (rm_sg l Z a0 hw [] b1 u7 [(own_dc (own_r k % 1000 / 100)), (own_dc (own_r k % 1000 / 10 % 10)), (own_dc (own_r k % 1000 % 10))] b2 kb2 ((own_dg (own_r k / 1000)) ++ [(46 : Int32)]) cz T7.heap n0 Z0 A_b1 F_value_b1 F_count_b1 F_coder_b1 V_b2 T_u7 g_b1 ne_b1_u7 (by rw [List.length_append, own_dgL, hl]; rfl) rfl sgC hcz) A_b1 d41_61 (lenOf own_pd29 rfl) (fun _ T12 L12 X12 hQ12 => ?_)
   obtain ⟨y12, ky12, rfl, N12q, K12, F_value_b1_12', F_count_b1_12', F_coder_b1_12', V_y12_12', g_y12_12', sz_y12_12'⟩ := hQ12
   have N12 := Fr.app N7 N12q
   replace sgC := own_staK sgC K12 (allS (own_obE A_b1) all0)
   replace hR := hR.trans (CHr.keep K12 (allS Sf_b1 all0) hR.1)
   replace T_u6 := T_u6.keep K12 (allS ⟨ne_b1_u6, (own_nbE A_b1 (gw hw 10 rfl))⟩ all0)
   replace T_u7 := T_u7.keep K12 (allS ⟨ne_b1_u7, (own_nbE A_b1 (gw hw 10 rfl))⟩ all0)
   replace A_b1 := A_b1.keep K12
   replace KP := KP.trans K12 (allS (Or.inr sz_b1) all0)
   replace Z0 := Nat.le_trans Z0 K12.1
   replace hk := Nat.le_trans hk K12.1
   have F_value_b1 := F_value_b1_12'
   have F_count_b1 := F_count_b1_12'
   have F_coder_b1 := F_coder_b1_12'
   have V_y12 := V_y12_12'
   have g_y12 := g_y12_12'
   have szc_y12 := sz_y12_12'
   have ne_d1_y12 : d1 ≠ y12 := Nat.ne_of_lt (Nat.lt_of_lt_of_le ltc12_d1 szc_y12)
   have ne_d2_y12 : d2 ≠ y12 := Nat.ne_of_lt (Nat.lt_of_lt_of_le ltc12_d2 szc_y12)
   have ne_b1_y12 : b1 ≠ y12 := Nat.ne_of_lt (Nat.lt_of_lt_of_le ltc12_b1 szc_y12)
   have ne_b2_y12 : b2 ≠ y12 := Nat.ne_of_lt (Nat.lt_of_lt_of_le ltc12_b2 szc_y12)
   have ne_c4_y12 : c4 ≠ y12 := Nat.ne_of_lt (Nat.lt_of_lt_of_le ltc12_c4 szc_y12)
   have ne_cb4_y12 : cb4 ≠ y12 := Nat.ne_of_lt (Nat.lt_of_lt_of_le ltc12_cb4 szc_y12)
   have ne_u6_y12 : u6 ≠ y12 := Nat.ne_of_lt (Nat.lt_of_lt_of_le ltc12_u6 szc_y12)
   have ne_u7_y12 : u7 ≠ y12 := Nat.ne_of_lt (Nat.lt_of_lt_of_le ltc12_u7 szc_y12)
   show Goes _ _ _ _ _ (fT T12 m 64 #[.val (.long v), .second, .val (.long rr), .second] [(.ref b1)])
   refine cVg X12 hx hZ hw hown hby hml rfl mN40 171 172 174 173 175 11 0 (rm_tst0 l Z a0 hw [] b1 y12 ky12 (((own_dg (own_r k / 1000)) ++ [(46 : Int32)]) ++ [(own_dc (own_r k % 1000 / 100)), (own_dc (own_r k % 1000 / 10 % 10)), (own_dc (own_r k % 1000 % 10))]) (14 + [(own_dc (own_r k % 1000 / 100)), (own_dc (own_r k % 1000 / 10 % 10)), (own_dc (own_r k % 1000 % 10))].length) (34 : Int32) cz T12.heap n0 Z0 A_b1 F_value_b1 F_count_b1 F_coder_b1 V_y12 (by rw [List.length_append, List.length_append, own_dgL, hl]; rfl) (by show 17 < _; decide) (by decide) (own_tfL (own_r k)) sgC hcz) A_b1 d41_64 (lenOf own_pd32 rfl) (fun _ T13 L13 X13 hQ13 => ?_)
   obtain ⟨u13, rfl, N13q, K13, T_u13_13'⟩ := hQ13
   have N13 := Fr.app N12 N13q
   replace hR := hR.trans (CHr.keep K13 all0 hR.1)
   replace T_u6 := T_u6.keep K13 all0
   replace T_u7 := T_u7.keep K13 all0
   replace KP := KP.trans K13 all0
   replace Z0 := Nat.le_trans Z0 K13.1
   replace hk := Nat.le_trans hk K13.1
   have T_u13 := T_u13_13'
   show Goes _ _ _ _ _ (fT T13 m 67 #[.val (.long v), .second, .val (.long rr), .second] [(.ref u13)])
   have T_u13 : StrOf Z T13.heap u13 (own_tf (own_r k)) := T_u13
   refine Goes.retH X13 hS rfl hk hZ (own_EW hw) hh hR (some (.ref u13)) (fun h => by rw [hret] at h; cases h) hlk (by decide) (by decide) ?_ (fun fs hr => ?_)
   ·exact ⟨u13, rfl, N13, KP, T_u13⟩
   ·exact own_retA X13 hx hret rfl rfl (hb hby d41_67) hr
 intro J22
 by_cases hc14_14 : (lcmpW (v % (1000 : Int64)) (500 : Int64)) < 0
 ·refine gy X0 hx hby d41_14 14 21 ((if0 _ _).trans (tlt hc14_14).1) ?_
  refine gC X0 hx hby d41_21 ?_
  show Goes _ _ _ _ _ (fT s₁ m 22 #[.val (.long v), .second, vu, vu] [(.int 0), (.long (v / (1000 : Int64)))])
  exact J22 _ (by rw [if_neg ((own_500 hm).mp hc14_14)]; decide)
 ·refine gu X0 hx hby d41_14 ((if0 _ _).trans (flt hc14_14).1) ?_
  refine gC X0 hx hby d41_17 ?_
  refine gG X0 hx hby d41_18 18 22 ?_
  show Goes _ _ _ _ _ (fT s₁ m 22 #[.val (.long v), .second, vu, vu] [(.int 1), (.long (v / (1000 : Int64)))])
  exact J22 _ (by rw [if_pos (Classical.not_not.mp fun q => hc14_14 ((own_500 hm).mpr q))]; decide)
theorem d42_0 : decode method_2_code 0 = .ok (.iload 4, 2) := by decide +kernel
theorem d42_2 : decode method_2_code 2 = .ok (.iload_n 1, 1) := by decide +kernel
theorem d42_3 : decode method_2_code 3 = .ok (.if_icmp .ge 30, 3) := by decide +kernel
theorem d42_6 : decode method_2_code 6 = .ok (.aload_n 0, 1) := by decide +kernel
theorem d42_7 : decode method_2_code 7 = .ok (.iload_n 1, 1) := by decide +kernel
theorem d42_8 : decode method_2_code 8 = .ok (.iconst 1, 1) := by decide +kernel
theorem d42_9 : decode method_2_code 9 = .ok (.isub, 1) := by decide +kernel
theorem d42_10 : decode method_2_code 10 = .ok (.iload 4, 2) := by decide +kernel
theorem d42_12 : decode method_2_code 12 = .ok (.isub, 1) := by decide +kernel
theorem d42_13 : decode method_2_code 13 = .ok (.invokevirtual 7, 3) := by decide +kernel
theorem own_pd33 : parseMethodDescriptor "(I)C" = some ⟨[.int], some .char⟩ := by decide +kernel
theorem d42_16 : decode method_2_code 16 = .ok (.ldc2_w 13, 3) := by decide +kernel
theorem d42_19 : decode method_2_code 19 = .ok (.lload_n 2, 1) := by decide +kernel
theorem d42_20 : decode method_2_code 20 = .ok (.lload 5, 2) := by decide +kernel
theorem d42_22 : decode method_2_code 22 = .ok (.ldiv, 1) := by decide +kernel
theorem d42_23 : decode method_2_code 23 = .ok (.ldc2_w 15, 3) := by decide +kernel
theorem d42_26 : decode method_2_code 26 = .ok (.lrem, 1) := by decide +kernel
theorem d42_27 : decode method_2_code 27 = .ok (.ladd, 1) := by decide +kernel
theorem d42_28 : decode method_2_code 28 = .ok (.l2i, 1) := by decide +kernel
theorem d42_29 : decode method_2_code 29 = .ok (.i2c, 1) := by decide +kernel
theorem d42_30 : decode method_2_code 30 = .ok (.if_icmp .ne 7, 3) := by decide +kernel
theorem d42_33 : decode method_2_code 33 = .ok (.iconst 1, 1) := by decide +kernel
theorem d42_34 : decode method_2_code 34 = .ok (.goto 4, 3) := by decide +kernel
theorem d42_38 : decode method_2_code 38 = .ok (.ireturn, 1) := by decide +kernel
theorem own_pn9 : plainName "org/stripeward/scenario/TimeFormatPinLaw" = true := by first | (simp [plainName, overriddenIn]; done) | decide +kernel
theorem own_ef_rm_dig (m : MethodId) (x0 : Addr) (x1 : Int32) (x2 : Int64) (x3 : Int32) (x4 : Int64) : entryFrame m #[(.ref x0), (.int x1), (.long x2), (.int x3), (.long x4)] 7 = mkF m 0 #[vr x0, vi x1, .val (.long x2), .second, vi x3, .val (.long x4), .second] [] := by first | (simp [entryFrame, mkF, argsToLocals, Value.category]; done) | rfl
def Q_rm_dig (Z : State) (a : Addr) (r : Nat) (v : Int64) (i : Int32) (ii : Nat) (pw : Int64) (PW : Nat) (cz : Int32) (fo : Value) (h0 : Heap) (n0 : Nat) (v : Option Value) (h : Heap) (L : List Loc) : Prop := v = some (.int 1) ∧ Fr n0 L ∧ h = h0
theorem rm_dig (l : Launch) (Z : State) (a0 : Array Value) (hw : HW a0 Z) (ws : List Jvm.Cond) (a : Addr) (r : Nat) (v : Int64) (i : Int32) (ii : Nat) (pw : Int64) (PW : Nat) (cz : Int32) (fo : Value) (h0 : Heap) (n0 : Nat) (Z0 : n0 ≤ h0.size) (T_a : StrOf Z h0 a (own_tf r)) (hv : v.toInt = ((r / 1000 : Nat) : Int)) (hi : i.toInt = ((ii : Nat) : Int)) (hp : pw.toInt = ((PW : Nat) : Int)) (hP : PW = 10 ^ ii) (sgC : Sta Z h0 "java/lang/String" "COMPACT_STRINGS" "Z" (.int cz)) (hcz : ¬ (cz = 0)) (sgF : Sta Z h0 "jdk/internal/util/Preconditions" "SIOOBE_FORMATTER" "Ljava/util/function/BiFunction;" fo) (r_fo : fo.isRef = true) :
  Met l Z mN42 method_2_code 7 (some .boolean) ({ frames := 4, cells := 0, slots := 0, locals := 53 } : Room) ws #[(.ref a), (.int (Int32.ofNat (own_len (r / 1000)))), (.long v), (.int i), (.long pw)] h0 (Q_rm_dig Z a r v i ii pw PW cz fo h0 n0) := by
 refine own_met (plainFor_of_name own_pn9) ?_
 intro p e s m below meth c s₁ hret hx hby hlk hml hown hnm X0 e0 hZ hh
 have N0 := Fr.nil n0
 refine Gz (castTop (own_ef_rm_dig m a (Int32.ofNat (own_len (r / 1000))) v i pw)) ?_
 show Goes _ _ _ _ _ (fT s₁ m 0 #[vr a, vi (Int32.ofNat (own_len (r / 1000))), .val (.long v), .second, vi i, .val (.long pw), .second] [])
 have h13 := own_len13 (r / 1000)
 refine gI X0 hx hby d42_0 rfl rfl ?_
 refine gN X0 hx hby d42_2 rfl rfl ?_
 by_cases hc3_1 : i < (Int32.ofNat (own_len (r / 1000)))
 ·refine gU X0 hx hby d42_3 (tlt hc3_1).2.1 ?_
  have hlt : ii < (own_len (r / 1000)) := (own_ltO hi (by omega)).mp hc3_1
  refine gA X0 hx hby d42_6 rfl rfl rfl ?_
  refine gN X0 hx hby d42_7 rfl rfl ?_
  refine gC X0 hx hby d42_8 ?_
  show Goes _ _ _ _ _ (fT s₁ m 9 #[vr a, vi (Int32.ofNat (own_len (r / 1000))), .val (.long v), .second, vi i, .val (.long pw), .second] [(.int 1), (.int (Int32.ofNat (own_len (r / 1000)))), (.ref a)])
  refine Gz (XS.isub X0.here hx rfl (hb hby d42_9) rfl) ?_
  show Goes _ _ _ _ _ (fT s₁ m 10 #[vr a, vi (Int32.ofNat (own_len (r / 1000))), .val (.long v), .second, vi i, .val (.long pw), .second] [(.int ((Int32.ofNat (own_len (r / 1000))) - 1)), (.ref a)])
  refine gI X0 hx hby d42_10 rfl rfl ?_
  show Goes _ _ _ _ _ (fT s₁ m 12 #[vr a, vi (Int32.ofNat (own_len (r / 1000))), .val (.long v), .second, vi i, .val (.long pw), .second] [(.int i), (.int ((Int32.ofNat (own_len (r / 1000))) - 1)), (.ref a)])
  refine Gz (XS.isub X0.here hx rfl (hb hby d42_12) rfl) ?_
  show Goes _ _ _ _ _ (fT s₁ m 13 #[vr a, vi (Int32.ofNat (own_len (r / 1000))), .val (.long v), .second, vi i, .val (.long pw), .second] [(.int (((Int32.ofNat (own_len (r / 1000))) - 1) - i)), (.ref a)])
  rw [own_iy hi h13 hlt]
  show Goes _ _ _ _ _ (fT s₁ m 13 #[vr a, vi (Int32.ofNat (own_len (r / 1000))), .val (.long v), .second, vi i, .val (.long pw), .second] [(.int (Int32.ofNat ((own_len (r / 1000)) - 1 - ii))), (.ref a)])
  refine cV X0 hx hZ hw hown hby hml e0 mN6 213 214 216 215 217 25 0 (rs_chr l Z a0 hw [] a (own_tf r) (Int32.ofNat ((own_len (r / 1000)) - 1 - ii)) (own_dc (own_q (r / 1000) ii % 10)) cz fo h0 n0 Z0 T_a sgC hcz (own_tnO (by omega)).2.1 (own_ltO' (by rw [own_tfN]; omega) (by rw [own_tfN]; omega)) (by rw [(own_tnO (n := (own_len (r / 1000)) - 1 - ii) (by omega)).1, own_tfD (by omega), show (own_len (r / 1000)) - 1 - ((own_len (r / 1000)) - 1 - ii) = ii from by omega]) sgF r_fo) T_a.exa d42_13 (lenOf own_pd33 rfl) N0 (fun T2 L2 X2 e2 N2 => ?_)
  show Goes _ _ _ _ _ (fT T2 m 16 #[vr a, vi (Int32.ofNat (own_len (r / 1000))), .val (.long v), .second, vi i, .val (.long pw), .second] [(.int (own_dc (own_q (r / 1000) ii % 10)))])
  refine Gs (fun _ tk => Jvm.Stand.ldc2J X2 hx hown (gz hZ hw 227 rfl) rfl (hb hby d42_16) tk) ?_
  show Goes _ _ _ _ _ (fT T2 m 19 #[vr a, vi (Int32.ofNat (own_len (r / 1000))), .val (.long v), .second, vi i, .val (.long pw), .second] [(.long (48 : Int64)), (.int (own_dc (own_q (r / 1000) ii % 10)))])
  refine Gz (XS.lloadN X2.here hx rfl (hb hby d42_19) rfl) ?_
  refine Gz (XS.lload X2.here hx rfl (hb hby d42_20) rfl) ?_
  refine Gz (XS.ldiv X2.here hx rfl (hb hby d42_22) rfl (own_pw0 hp hP)) ?_
  show Goes _ _ _ _ _ (fT T2 m 23 #[vr a, vi (Int32.ofNat (own_len (r / 1000))), .val (.long v), .second, vi i, .val (.long pw), .second] [(.long (v / pw)), (.long (48 : Int64)), (.int (own_dc (own_q (r / 1000) ii % 10)))])
  refine Gs (fun _ tk => Jvm.Stand.ldc2J X2 hx hown (gz hZ hw 201 rfl) rfl (hb hby d42_23) tk) ?_
  show Goes _ _ _ _ _ (fT T2 m 26 #[vr a, vi (Int32.ofNat (own_len (r / 1000))), .val (.long v), .second, vi i, .val (.long pw), .second] [(.long (10 : Int64)), (.long (v / pw)), (.long (48 : Int64)), (.int (own_dc (own_q (r / 1000) ii % 10)))])
  refine Gz (XS.lrem X2.here hx rfl (hb hby d42_26) rfl (by decide)) ?_
  rw [lrem_mod]
  show Goes _ _ _ _ _ (fT T2 m 27 #[vr a, vi (Int32.ofNat (own_len (r / 1000))), .val (.long v), .second, vi i, .val (.long pw), .second] [(.long ((v / pw) % (10 : Int64))), (.long (48 : Int64)), (.int (own_dc (own_q (r / 1000) ii % 10)))])
  refine Gz (XS.ladd X2.here hx rfl (hb hby d42_27) rfl) ?_
  show Goes _ _ _ _ _ (fT T2 m 28 #[vr a, vi (Int32.ofNat (own_len (r / 1000))), .val (.long v), .second, vi i, .val (.long pw), .second] [(.long ((48 : Int64) + ((v / pw) % (10 : Int64)))), (.int (own_dc (own_q (r / 1000) ii % 10)))])
  refine Gz (XS.l2i X2.here hx rfl (hb hby d42_28) rfl) ?_
  show Goes _ _ _ _ _ (fT T2 m 29 #[vr a, vi (Int32.ofNat (own_len (r / 1000))), .val (.long v), .second, vi i, .val (.long pw), .second] [(.int (((48 : Int64) + ((v / pw) % (10 : Int64))).toInt32)), (.int (own_dc (own_q (r / 1000) ii % 10)))])
  refine Gz (XS.i2c X2.here hx rfl (hb hby d42_29) rfl) ?_
  show Goes _ _ _ _ _ (fT T2 m 30 #[vr a, vi (Int32.ofNat (own_len (r / 1000))), .val (.long v), .second, vi i, .val (.long pw), .second] [(.int ((((48 : Int64) + ((v / pw) % (10 : Int64))).toInt32).toUInt32.toUInt16.toUInt32.toInt32)), (.int (own_dc (own_q (r / 1000) ii % 10)))])
  refine gU X2 hx hby d42_30 (teq (own_dgc hv hp hP).symm).2 ?_
  refine gC X2 hx hby d42_33 ?_
  refine gG X2 hx hby d42_34 34 38 ?_
  refine Goes.ret X2 (some (.int 1)) (fun h => by rw [hret] at h; cases h) hlk (by decide) (by decide) ?_ (fun fs hr => ?_)
  ·exact ⟨rfl, N2, e2⟩
  ·exact own_retN X2 hx (t := .boolean) hret (by simp) rfl (hb hby d42_38) hr
 ·refine gY X0 hx hby d42_3 3 33 (flt hc3_1).2.1 ?_
  refine gC X0 hx hby d42_33 ?_
  refine gG X0 hx hby d42_34 34 38 ?_
  refine Goes.ret X0 (some (.int 1)) (fun h => by rw [hret] at h; cases h) hlk (by decide) (by decide) ?_ (fun fs hr => ?_)
  ·exact ⟨rfl, N0, e0⟩
  ·exact own_retN X0 hx (t := .boolean) hret (by simp) rfl (hb hby d42_38) hr
theorem own_pd34 : parseMethodDescriptor "(Ljava/lang/String;IJIJ)Z" = some ⟨[(.object "java/lang/String"), .int, .long, .int, .long], some .boolean⟩ := by decide +kernel
theorem own_ef_rm_law (m : MethodId) (x0 : Int64) (x1 : Int32) : entryFrame m #[(.long x0), (.int x1)] maxLocals = mkF m 0 #[.val (.long x0), .second, vi x1, vu, vu, vu, vu, vu, vu, vu, vu, vu, vu, vu, vu, vu, vu, vu, vu] [] := by first | (simp [entryFrame, mkF, argsToLocals, Value.category, maxLocals]; done) | rfl
def Q_rm_law (Z : State) (x0 : Int64) (x1 : Int32) (d1 : Addr) (k1 : ClassId) (d2 : Addr) (k2 : ClassId) (cz : Int32) (fo : Value) (h0 : Heap) (n0 : Nat) (v : Option Value) (h : Heap) (L : List Loc) : Prop := v = some (.int 1) ∧ Fr n0 L
theorem rm_law (l : Launch) (Z : State) (a0 : Array Value) (hw : HW a0 Z) (ws : List Jvm.Cond) (x0 : Int64) (x1 : Int32) (d1 : Addr) (k1 : ClassId) (d2 : Addr) (k2 : ClassId) (cz : Int32) (fo : Value) (h0 : Heap) (n0 : Nat) (Z0 : n0 ≤ h0.size) (S_DigitOnes : Sta Z h0 "java/lang/Integer" "DigitOnes" "[B" (.ref d1)) (S_DigitTens : Sta Z h0 "java/lang/Integer" "DigitTens" "[B" (.ref d2)) (V_d1 : Arv Z h0 d1 k1 .byte 100 own_ones (.int 0)) (V_d2 : Arv Z h0 d2 k2 .byte 100 own_tens (.int 0)) (sgC : Sta Z h0 "java/lang/String" "COMPACT_STRINGS" "Z" (.int cz)) (hcz : ¬ (cz = 0)) (sgF : Sta Z h0 "jdk/internal/util/Preconditions" "SIOOBE_FORMATTER" "Ljava/util/function/BiFunction;" fo) (r_fo : fo.isRef = true) :
  MetH l Z x code maxLocals ret room_1 ws #[(.long x0), (.int x1)] h0 (Q_rm_law Z x0 x1 d1 k1 d2 k2 cz fo h0 n0) := by
 refine own_metH (plainFor_of_name own_pn9) ?_
 intro p e s m below meth c s₁ hret hx hby hlk hml hown hnm X0 e0 hZ hh hC0
 have N0 := Fr.nil n0
 have hS : s.Since s.vm h0.size := (State.WarmedH.refl s).since _
 have hk : h0.size ≤ h0.size := Nat.le_refl _
 replace hZ : Z.Warmed39 (s.setVm s.vm).vm := hZ
 have hR : CHr Z consts_1 s.vm h0 s.vm h0 := CHr.refl hC0
 refine Gz (castTop (own_ef_rm_law m x0 x1)) ?_
 show Goes _ _ _ _ _ (fT s₁ m 0 #[.val (.long x0), .second, vi x1, vu, vu, vu, vu, vu, vu, vu, vu, vu, vu, vu, vu, vu, vu, vu, vu] [])
 refine Gz (XS.lloadN X0.here hx rfl (hb hby at_0) rfl) ?_
 refine Gs (fun _ tk => Jvm.Stand.ldc2J X0 hx hown (gz hZ hw 0 rfl) rfl (hb hby at_1) tk) ?_
 show Goes _ _ _ _ _ (fT s₁ m 4 #[.val (.long x0), .second, vi x1, vu, vu, vu, vu, vu, vu, vu, vu, vu, vu, vu, vu, vu, vu, vu, vu] [(.long (9223372036854775807 : Int64)), (.long x0)])
 refine Gz (XS.land X0.here hx rfl (hb hby at_4) rfl) ?_
 show Goes _ _ _ _ _ (fT s₁ m 5 #[.val (.long x0), .second, vi x1, vu, vu, vu, vu, vu, vu, vu, vu, vu, vu, vu, vu, vu, vu, vu, vu] [(.long (x0 &&& (9223372036854775807 : Int64)))])
 refine Gz (XS.lstoreN X0.here hx rfl (hb hby at_5) rfl (l' := #[.val (.long x0), .second, vi x1, .val (.long (x0 &&& (9223372036854775807 : Int64))), .second, vu, vu, vu, vu, vu, vu, vu, vu, vu, vu, vu, vu, vu, vu]) rfl) ?_
 refine gN X0 hx hby at_6 rfl rfl ?_
 refine gC X0 hx hby at_7 ?_
 show Goes _ _ _ _ _ (fT s₁ m 8 #[.val (.long x0), .second, vi x1, .val (.long (x0 &&& (9223372036854775807 : Int64))), .second, vu, vu, vu, vu, vu, vu, vu, vu, vu, vu, vu, vu, vu, vu] [(.int 3), (.int x1)])
 refine Gz (XS.iand X0.here hx rfl (hb hby at_8) rfl) ?_
 show Goes _ _ _ _ _ (fT s₁ m 9 #[.val (.long x0), .second, vi x1, .val (.long (x0 &&& (9223372036854775807 : Int64))), .second, vu, vu, vu, vu, vu, vu, vu, vu, vu, vu, vu, vu, vu, vu] [(.int (x1 &&& 3))])
 refine gS X0 hx hby at_9 #[.val (.long x0), .second, vi x1, .val (.long (x0 &&& (9223372036854775807 : Int64))), .second, vi (x1 &&& 3), vu, vu, vu, vu, vu, vu, vu, vu, vu, vu, vu, vu, vu] ?_
 refine gN X0 hx hby at_11 rfl rfl ?_
 refine gC X0 hx hby at_12 ?_
 show Goes _ _ _ _ _ (fT s₁ m 13 #[.val (.long x0), .second, vi x1, .val (.long (x0 &&& (9223372036854775807 : Int64))), .second, vi (x1 &&& 3), vu, vu, vu, vu, vu, vu, vu, vu, vu, vu, vu, vu, vu] [(.int 2), (.int x1)])
 refine Gz (XS.ishr X0.here hx rfl (hb hby at_13) rfl) ?_
 show Goes _ _ _ _ _ (fT s₁ m 14 #[.val (.long x0), .second, vi x1, .val (.long (x0 &&& (9223372036854775807 : Int64))), .second, vi (x1 &&& 3), vu, vu, vu, vu, vu, vu, vu, vu, vu, vu, vu, vu, vu] [(.int (x1 >>> ((2 : Int32) &&& 31)))])
 refine gC X0 hx hby at_14 ?_
 show Goes _ _ _ _ _ (fT s₁ m 15 #[.val (.long x0), .second, vi x1, .val (.long (x0 &&& (9223372036854775807 : Int64))), .second, vi (x1 &&& 3), vu, vu, vu, vu, vu, vu, vu, vu, vu, vu, vu, vu, vu] [(.int 1), (.int (x1 >>> ((2 : Int32) &&& 31)))])
 refine Gz (XS.iand X0.here hx rfl (hb hby at_15) rfl) ?_
 show Goes _ _ _ _ _ (fT s₁ m 16 #[.val (.long x0), .second, vi x1, .val (.long (x0 &&& (9223372036854775807 : Int64))), .second, vi (x1 &&& 3), vu, vu, vu, vu, vu, vu, vu, vu, vu, vu, vu, vu, vu] [(.int ((x1 >>> ((2 : Int32) &&& 31)) &&& 1))])
 refine Gz (XS.i2l X0.here hx rfl (hb hby at_16) rfl) ?_
 show Goes _ _ _ _ _ (fT s₁ m 17 #[.val (.long x0), .second, vi x1, .val (.long (x0 &&& (9223372036854775807 : Int64))), .second, vi (x1 &&& 3), vu, vu, vu, vu, vu, vu, vu, vu, vu, vu, vu, vu, vu] [(.long (((x1 >>> ((2 : Int32) &&& 31)) &&& 1).toInt64))])
 refine Gz (XS.lstore X0.here hx rfl (hb hby at_17) rfl (l' := #[.val (.long x0), .second, vi x1, .val (.long (x0 &&& (9223372036854775807 : Int64))), .second, vi (x1 &&& 3), .val (.long (((x1 >>> ((2 : Int32) &&& 31)) &&& 1).toInt64)), .second, vu, vu, vu, vu, vu, vu, vu, vu, vu, vu, vu]) rfl) ?_
 refine gI X0 hx hby at_19 rfl rfl ?_
 show Goes _ _ _ _ _ (fT s₁ m 21 #[.val (.long x0), .second, vi x1, .val (.long (x0 &&& (9223372036854775807 : Int64))), .second, vi (x1 &&& 3), .val (.long (((x1 >>> ((2 : Int32) &&& 31)) &&& 1).toInt64)), .second, vu, vu, vu, vu, vu, vu, vu, vu, vu, vu, vu] [(.int (x1 &&& 3))])
 refine own_joinJ (P := fun mm => 0 ≤ mm.toInt) (B := fun mm => s₁.setTop (mkF m 91 #[.val (.long x0), .second, vi x1, .val (.long (x0 &&& (9223372036854775807 : Int64))), .second, vi (x1 &&& 3), .val (.long (((x1 >>> ((2 : Int32) &&& 31)) &&& 1).toInt64)), .second, .val (.long mm), .second, vu, vu, vu, vu, vu, vu, vu, vu, vu] [])) ?_ ?_
 ·intro mm hmm
  obtain ⟨k, hm⟩ : ∃ k : Nat, mm.toInt = (k : Int) := ⟨_, own_nat hmm⟩
  show Goes _ _ _ _ _ (fT s₁ m 91 #[.val (.long x0), .second, vi x1, .val (.long (x0 &&& (9223372036854775807 : Int64))), .second, vi (x1 &&& 3), .val (.long (((x1 >>> ((2 : Int32) &&& 31)) &&& 1).toInt64)), .second, .val (.long mm), .second, vu, vu, vu, vu, vu, vu, vu, vu, vu] [])
  refine Gz (XS.lload X0.here hx rfl (hb hby at_91) rfl) ?_
  obtain ⟨_, _, ⟨T1, L1, k1, n1⟩, -, X1, hS1, gr1, ⟨Lc1, hQ1, l1, y1, z1, hC1⟩, st1⟩ := callSS X0 hx (y := mN41) hown (gz hZ hw 3 rfl) (gz hZ hw 4 rfl) (gz hZ hw 5 rfl) (gz hZ hw 6 rfl) (by decide) (backOfSH (W := 0) (rm_tf l Z a0 hw [] mm k d1 k1 d2 k2 cz fo h0 n0 Z0 hm S_DigitOnes S_DigitTens V_d1 V_d2 sgC hcz sgF r_fo) hZ (gw hw 6 rfl) (gw hw 5 rfl) (by decide) (by decide) (own_EW hw) hR.1) (g := (mkF m 93 #[.val (.long x0), .second, vi x1, .val (.long (x0 &&& (9223372036854775807 : Int64))), .second, vi (x1 &&& 3), .val (.long (((x1 >>> ((2 : Int32) &&& 31)) &&& 1).toInt64)), .second, .val (.long mm), .second, vu, vu, vu, vu, vu, vu, vu, vu, vu] [(.long mm)])) rfl hml.symm (argsL := [(.long mm)]) (rest := []) (lenOf own_pd30 rfl) rfl (wz rfl) (hb hby at_93) (fun _ _ => ⟨rfl, e0, (by decide : 0 + 11 ≤ _), (by decide : 0 + 124 ≤ _)⟩)
  dsimp only [Pt.U, Pt.locs, Pt.cells, Pt.slots] at X1 l1 y1 z1 st1 hQ1 hS1 gr1 hC1
  subst l1 y1 z1
  obtain ⟨X1, hS, hZ, hown⟩ := rebS hS hk X1 hS1 (by have q := gr1; rw [e0] at q; exact q) hZ hown
  replace hk : T1.heap.size ≤ T1.heap.size := Nat.le_refl _
  obtain ⟨u1, rfl, N1q, K1, T_u1_1'⟩ := hQ1
  have N1 := Fr.app N0 N1q
  replace hR := hR.trans hC1
  replace sgC := own_staK sgC K1 all0
  replace sgF := own_staK sgF K1 all0
  replace Z0 := Nat.le_trans Z0 K1.1
  have T_u1 := T_u1_1'
  refine Gs (fun _ tk => st1.trans tk) ?_
  show Goes _ _ _ _ _ (fT T1 m 96 #[.val (.long x0), .second, vi x1, .val (.long (x0 &&& (9223372036854775807 : Int64))), .second, vi (x1 &&& 3), .val (.long (((x1 >>> ((2 : Int32) &&& 31)) &&& 1).toInt64)), .second, .val (.long mm), .second, vu, vu, vu, vu, vu, vu, vu, vu, vu] [(.ref u1)])
  refine Gz (XS.astore X1.here hx rfl (hb hby at_96) rfl rfl (l' := #[.val (.long x0), .second, vi x1, .val (.long (x0 &&& (9223372036854775807 : Int64))), .second, vi (x1 &&& 3), .val (.long (((x1 >>> ((2 : Int32) &&& 31)) &&& 1).toInt64)), .second, .val (.long mm), .second, vr u1, vu, vu, vu, vu, vu, vu, vu, vu]) rfl) ?_
  refine Gz (XS.lload X1.here hx rfl (hb hby at_98) rfl) ?_
  refine Gs (fun _ tk => Jvm.Stand.ldc2J X1 hx hown (gz hZ hw 198 rfl) rfl (hb hby at_100) tk) ?_
  show Goes _ _ _ _ _ (fT T1 m 103 #[.val (.long x0), .second, vi x1, .val (.long (x0 &&& (9223372036854775807 : Int64))), .second, vi (x1 &&& 3), .val (.long (((x1 >>> ((2 : Int32) &&& 31)) &&& 1).toInt64)), .second, .val (.long mm), .second, vr u1, vu, vu, vu, vu, vu, vu, vu, vu] [(.long (2 : Int64)), (.long mm)])
  refine Gz (XS.ldiv X1.here hx rfl (hb hby at_103) rfl (by decide)) ?_
  show Goes _ _ _ _ _ (fT T1 m 104 #[.val (.long x0), .second, vi x1, .val (.long (x0 &&& (9223372036854775807 : Int64))), .second, vi (x1 &&& 3), .val (.long (((x1 >>> ((2 : Int32) &&& 31)) &&& 1).toInt64)), .second, .val (.long mm), .second, vr u1, vu, vu, vu, vu, vu, vu, vu, vu] [(.long (mm / (2 : Int64)))])
  refine Gs (fun _ tk => Jvm.Stand.ldc2J X1 hx hown (gz hZ hw 199 rfl) rfl (hb hby at_104) tk) ?_
  show Goes _ _ _ _ _ (fT T1 m 107 #[.val (.long x0), .second, vi x1, .val (.long (x0 &&& (9223372036854775807 : Int64))), .second, vi (x1 &&& 3), .val (.long (((x1 >>> ((2 : Int32) &&& 31)) &&& 1).toInt64)), .second, .val (.long mm), .second, vr u1, vu, vu, vu, vu, vu, vu, vu, vu] [(.long (250 : Int64)), (.long (mm / (2 : Int64)))])
  refine Gz (XS.ladd X1.here hx rfl (hb hby at_107) rfl) ?_
  show Goes _ _ _ _ _ (fT T1 m 108 #[.val (.long x0), .second, vi x1, .val (.long (x0 &&& (9223372036854775807 : Int64))), .second, vi (x1 &&& 3), .val (.long (((x1 >>> ((2 : Int32) &&& 31)) &&& 1).toInt64)), .second, .val (.long mm), .second, vr u1, vu, vu, vu, vu, vu, vu, vu, vu] [(.long ((mm / (2 : Int64)) + (250 : Int64)))])
  refine Gs (fun _ tk => Jvm.Stand.ldc2J X1 hx hown (gz hZ hw 200 rfl) rfl (hb hby at_108) tk) ?_
  show Goes _ _ _ _ _ (fT T1 m 111 #[.val (.long x0), .second, vi x1, .val (.long (x0 &&& (9223372036854775807 : Int64))), .second, vi (x1 &&& 3), .val (.long (((x1 >>> ((2 : Int32) &&& 31)) &&& 1).toInt64)), .second, .val (.long mm), .second, vr u1, vu, vu, vu, vu, vu, vu, vu, vu] [(.long (500 : Int64)), (.long ((mm / (2 : Int64)) + (250 : Int64)))])
  refine Gz (XS.ldiv X1.here hx rfl (hb hby at_111) rfl (by decide)) ?_
  show Goes _ _ _ _ _ (fT T1 m 112 #[.val (.long x0), .second, vi x1, .val (.long (x0 &&& (9223372036854775807 : Int64))), .second, vi (x1 &&& 3), .val (.long (((x1 >>> ((2 : Int32) &&& 31)) &&& 1).toInt64)), .second, .val (.long mm), .second, vr u1, vu, vu, vu, vu, vu, vu, vu, vu] [(.long (((mm / (2 : Int64)) + (250 : Int64)) / (500 : Int64)))])
  have hrr := own_rl hm
  generalize (((mm / (2 : Int64)) + (250 : Int64)) / (500 : Int64)) = rr at hrr ⊢
  show Goes _ _ _ _ _ (fT T1 m 112 #[.val (.long x0), .second, vi x1, .val (.long (x0 &&& (9223372036854775807 : Int64))), .second, vi (x1 &&& 3), .val (.long (((x1 >>> ((2 : Int32) &&& 31)) &&& 1).toInt64)), .second, .val (.long mm), .second, vr u1, vu, vu, vu, vu, vu, vu, vu, vu] [(.long rr)])
  generalize own_r k = r at hrr T_u1
  refine Gz (XS.lstore X1.here hx rfl (hb hby at_112) rfl (l' := #[.val (.long x0), .second, vi x1, .val (.long (x0 &&& (9223372036854775807 : Int64))), .second, vi (x1 &&& 3), .val (.long (((x1 >>> ((2 : Int32) &&& 31)) &&& 1).toInt64)), .second, .val (.long mm), .second, vr u1, .val (.long rr), .second, vu, vu, vu, vu, vu, vu]) rfl) ?_
  refine Gz (XS.lload X1.here hx rfl (hb hby at_114) rfl) ?_
  refine Gs (fun _ tk => Jvm.Stand.ldc2J X1 hx hown (gz hZ hw 1 rfl) rfl (hb hby at_116) tk) ?_
  show Goes _ _ _ _ _ (fT T1 m 119 #[.val (.long x0), .second, vi x1, .val (.long (x0 &&& (9223372036854775807 : Int64))), .second, vi (x1 &&& 3), .val (.long (((x1 >>> ((2 : Int32) &&& 31)) &&& 1).toInt64)), .second, .val (.long mm), .second, vr u1, .val (.long rr), .second, vu, vu, vu, vu, vu, vu] [(.long (1000 : Int64)), (.long rr)])
  refine Gz (XS.ldiv X1.here hx rfl (hb hby at_119) rfl (by decide)) ?_
  show Goes _ _ _ _ _ (fT T1 m 120 #[.val (.long x0), .second, vi x1, .val (.long (x0 &&& (9223372036854775807 : Int64))), .second, vi (x1 &&& 3), .val (.long (((x1 >>> ((2 : Int32) &&& 31)) &&& 1).toInt64)), .second, .val (.long mm), .second, vr u1, .val (.long rr), .second, vu, vu, vu, vu, vu, vu] [(.long (rr / (1000 : Int64)))])
  have hsc := own_div hrr
  generalize (rr / (1000 : Int64)) = sc at hsc ⊢
  show Goes _ _ _ _ _ (fT T1 m 120 #[.val (.long x0), .second, vi x1, .val (.long (x0 &&& (9223372036854775807 : Int64))), .second, vi (x1 &&& 3), .val (.long (((x1 >>> ((2 : Int32) &&& 31)) &&& 1).toInt64)), .second, .val (.long mm), .second, vr u1, .val (.long rr), .second, vu, vu, vu, vu, vu, vu] [(.long sc)])
  refine Gz (XS.lstore X1.here hx rfl (hb hby at_120) rfl (l' := #[.val (.long x0), .second, vi x1, .val (.long (x0 &&& (9223372036854775807 : Int64))), .second, vi (x1 &&& 3), .val (.long (((x1 >>> ((2 : Int32) &&& 31)) &&& 1).toInt64)), .second, .val (.long mm), .second, vr u1, .val (.long rr), .second, .val (.long sc), .second, vu, vu, vu, vu]) rfl) ?_
  refine Gz (XS.lload X1.here hx rfl (hb hby at_122) rfl) ?_
  refine Gs (fun _ tk => Jvm.Stand.ldc2J X1 hx hown (gz hZ hw 1 rfl) rfl (hb hby at_124) tk) ?_
  show Goes _ _ _ _ _ (fT T1 m 127 #[.val (.long x0), .second, vi x1, .val (.long (x0 &&& (9223372036854775807 : Int64))), .second, vi (x1 &&& 3), .val (.long (((x1 >>> ((2 : Int32) &&& 31)) &&& 1).toInt64)), .second, .val (.long mm), .second, vr u1, .val (.long rr), .second, .val (.long sc), .second, vu, vu, vu, vu] [(.long (1000 : Int64)), (.long rr)])
  refine Gz (XS.lrem X1.here hx rfl (hb hby at_127) rfl (by decide)) ?_
  rw [lrem_mod]
  show Goes _ _ _ _ _ (fT T1 m 128 #[.val (.long x0), .second, vi x1, .val (.long (x0 &&& (9223372036854775807 : Int64))), .second, vi (x1 &&& 3), .val (.long (((x1 >>> ((2 : Int32) &&& 31)) &&& 1).toInt64)), .second, .val (.long mm), .second, vr u1, .val (.long rr), .second, .val (.long sc), .second, vu, vu, vu, vu] [(.long (rr % (1000 : Int64)))])
  have hff := own_rem hrr
  generalize (rr % (1000 : Int64)) = ff at hff ⊢
  show Goes _ _ _ _ _ (fT T1 m 128 #[.val (.long x0), .second, vi x1, .val (.long (x0 &&& (9223372036854775807 : Int64))), .second, vi (x1 &&& 3), .val (.long (((x1 >>> ((2 : Int32) &&& 31)) &&& 1).toInt64)), .second, .val (.long mm), .second, vr u1, .val (.long rr), .second, .val (.long sc), .second, vu, vu, vu, vu] [(.long ff)])
  have h13 := own_len13 (r / 1000)
  refine Gz (XS.lstore X1.here hx rfl (hb hby at_128) rfl (l' := #[.val (.long x0), .second, vi x1, .val (.long (x0 &&& (9223372036854775807 : Int64))), .second, vi (x1 &&& 3), .val (.long (((x1 >>> ((2 : Int32) &&& 31)) &&& 1).toInt64)), .second, .val (.long mm), .second, vr u1, .val (.long rr), .second, .val (.long sc), .second, .val (.long ff), .second, vu, vu]) rfl) ?_
  refine gC X1 hx hby at_130 ?_
  refine Gz (XS.lload X1.here hx rfl (hb hby at_131) rfl) ?_
  refine Gs (fun _ tk => Jvm.Stand.ldc2J X1 hx hown (gz hZ hw 201 rfl) rfl (hb hby at_133) tk) ?_
  show Goes _ _ _ _ _ (fT T1 m 136 #[.val (.long x0), .second, vi x1, .val (.long (x0 &&& (9223372036854775807 : Int64))), .second, vi (x1 &&& 3), .val (.long (((x1 >>> ((2 : Int32) &&& 31)) &&& 1).toInt64)), .second, .val (.long mm), .second, vr u1, .val (.long rr), .second, .val (.long sc), .second, .val (.long ff), .second, vu, vu] [(.long (10 : Int64)), (.long sc), (.int 1)])
  refine Gz (XS.lcmp X1.here hx rfl (hb hby at_136) rfl) ?_
  show Goes _ _ _ _ _ (fT T1 m 137 #[.val (.long x0), .second, vi x1, .val (.long (x0 &&& (9223372036854775807 : Int64))), .second, vi (x1 &&& 3), .val (.long (((x1 >>> ((2 : Int32) &&& 31)) &&& 1).toInt64)), .second, .val (.long mm), .second, vr u1, .val (.long rr), .second, .val (.long sc), .second, .val (.long ff), .second, vu, vu] [(.int (lcmpW sc (10 : Int64))), (.int 1)])
  refine own_join (B := T1.setTop (mkF m 145 #[.val (.long x0), .second, vi x1, .val (.long (x0 &&& (9223372036854775807 : Int64))), .second, vi (x1 &&& 3), .val (.long (((x1 >>> ((2 : Int32) &&& 31)) &&& 1).toInt64)), .second, .val (.long mm), .second, vr u1, .val (.long rr), .second, .val (.long sc), .second, .val (.long ff), .second, vu, vu] [(.int (own_b 10 (r / 1000))), (.int 1)])) ?_ ?_
  ·show Goes _ _ _ _ _ (fT T1 m 145 #[.val (.long x0), .second, vi x1, .val (.long (x0 &&& (9223372036854775807 : Int64))), .second, vi (x1 &&& 3), .val (.long (((x1 >>> ((2 : Int32) &&& 31)) &&& 1).toInt64)), .second, .val (.long mm), .second, vr u1, .val (.long rr), .second, .val (.long sc), .second, .val (.long ff), .second, vu, vu] [(.int (own_b 10 (r / 1000))), (.int 1)])
   refine Gz (XS.iadd X1.here hx rfl (hb hby at_145) rfl) ?_
   show Goes _ _ _ _ _ (fT T1 m 146 #[.val (.long x0), .second, vi x1, .val (.long (x0 &&& (9223372036854775807 : Int64))), .second, vi (x1 &&& 3), .val (.long (((x1 >>> ((2 : Int32) &&& 31)) &&& 1).toInt64)), .second, .val (.long mm), .second, vr u1, .val (.long rr), .second, .val (.long sc), .second, .val (.long ff), .second, vu, vu] [(.int ((1 : Int32) + (own_b 10 (r / 1000))))])
   refine Gz (XS.lload X1.here hx rfl (hb hby at_146) rfl) ?_
   refine Gs (fun _ tk => Jvm.Stand.ldc2J X1 hx hown (gz hZ hw 202 rfl) rfl (hb hby at_148) tk) ?_
   show Goes _ _ _ _ _ (fT T1 m 151 #[.val (.long x0), .second, vi x1, .val (.long (x0 &&& (9223372036854775807 : Int64))), .second, vi (x1 &&& 3), .val (.long (((x1 >>> ((2 : Int32) &&& 31)) &&& 1).toInt64)), .second, .val (.long mm), .second, vr u1, .val (.long rr), .second, .val (.long sc), .second, .val (.long ff), .second, vu, vu] [(.long (100 : Int64)), (.long sc), (.int ((1 : Int32) + (own_b 10 (r / 1000))))])
   refine Gz (XS.lcmp X1.here hx rfl (hb hby at_151) rfl) ?_
   show Goes _ _ _ _ _ (fT T1 m 152 #[.val (.long x0), .second, vi x1, .val (.long (x0 &&& (9223372036854775807 : Int64))), .second, vi (x1 &&& 3), .val (.long (((x1 >>> ((2 : Int32) &&& 31)) &&& 1).toInt64)), .second, .val (.long mm), .second, vr u1, .val (.long rr), .second, .val (.long sc), .second, .val (.long ff), .second, vu, vu] [(.int (lcmpW sc (100 : Int64))), (.int ((1 : Int32) + (own_b 10 (r / 1000))))])
   refine own_join (B := T1.setTop (mkF m 160 #[.val (.long x0), .second, vi x1, .val (.long (x0 &&& (9223372036854775807 : Int64))), .second, vi (x1 &&& 3), .val (.long (((x1 >>> ((2 : Int32) &&& 31)) &&& 1).toInt64)), .second, .val (.long mm), .second, vr u1, .val (.long rr), .second, .val (.long sc), .second, .val (.long ff), .second, vu, vu] [(.int (own_b 100 (r / 1000))), (.int ((1 : Int32) + (own_b 10 (r / 1000))))])) ?_ ?_
   ·show Goes _ _ _ _ _ (fT T1 m 160 #[.val (.long x0), .second, vi x1, .val (.long (x0 &&& (9223372036854775807 : Int64))), .second, vi (x1 &&& 3), .val (.long (((x1 >>> ((2 : Int32) &&& 31)) &&& 1).toInt64)), .second, .val (.long mm), .second, vr u1, .val (.long rr), .second, .val (.long sc), .second, .val (.long ff), .second, vu, vu] [(.int (own_b 100 (r / 1000))), (.int ((1 : Int32) + (own_b 10 (r / 1000))))])
    refine Gz (XS.iadd X1.here hx rfl (hb hby at_160) rfl) ?_
    show Goes _ _ _ _ _ (fT T1 m 161 #[.val (.long x0), .second, vi x1, .val (.long (x0 &&& (9223372036854775807 : Int64))), .second, vi (x1 &&& 3), .val (.long (((x1 >>> ((2 : Int32) &&& 31)) &&& 1).toInt64)), .second, .val (.long mm), .second, vr u1, .val (.long rr), .second, .val (.long sc), .second, .val (.long ff), .second, vu, vu] [(.int (((1 : Int32) + (own_b 10 (r / 1000))) + (own_b 100 (r / 1000))))])
    refine Gz (XS.lload X1.here hx rfl (hb hby at_161) rfl) ?_
    refine Gs (fun _ tk => Jvm.Stand.ldc2J X1 hx hown (gz hZ hw 1 rfl) rfl (hb hby at_163) tk) ?_
    show Goes _ _ _ _ _ (fT T1 m 166 #[.val (.long x0), .second, vi x1, .val (.long (x0 &&& (9223372036854775807 : Int64))), .second, vi (x1 &&& 3), .val (.long (((x1 >>> ((2 : Int32) &&& 31)) &&& 1).toInt64)), .second, .val (.long mm), .second, vr u1, .val (.long rr), .second, .val (.long sc), .second, .val (.long ff), .second, vu, vu] [(.long (1000 : Int64)), (.long sc), (.int (((1 : Int32) + (own_b 10 (r / 1000))) + (own_b 100 (r / 1000))))])
    refine Gz (XS.lcmp X1.here hx rfl (hb hby at_166) rfl) ?_
    show Goes _ _ _ _ _ (fT T1 m 167 #[.val (.long x0), .second, vi x1, .val (.long (x0 &&& (9223372036854775807 : Int64))), .second, vi (x1 &&& 3), .val (.long (((x1 >>> ((2 : Int32) &&& 31)) &&& 1).toInt64)), .second, .val (.long mm), .second, vr u1, .val (.long rr), .second, .val (.long sc), .second, .val (.long ff), .second, vu, vu] [(.int (lcmpW sc (1000 : Int64))), (.int (((1 : Int32) + (own_b 10 (r / 1000))) + (own_b 100 (r / 1000))))])
    refine own_join (B := T1.setTop (mkF m 175 #[.val (.long x0), .second, vi x1, .val (.long (x0 &&& (9223372036854775807 : Int64))), .second, vi (x1 &&& 3), .val (.long (((x1 >>> ((2 : Int32) &&& 31)) &&& 1).toInt64)), .second, .val (.long mm), .second, vr u1, .val (.long rr), .second, .val (.long sc), .second, .val (.long ff), .second, vu, vu] [(.int (own_b 1000 (r / 1000))), (.int (((1 : Int32) + (own_b 10 (r / 1000))) + (own_b 100 (r / 1000))))])) ?_ ?_
    ·show Goes _ _ _ _ _ (fT T1 m 175 #[.val (.long x0), .second, vi x1, .val (.long (x0 &&& (9223372036854775807 : Int64))), .second, vi (x1 &&& 3), .val (.long (((x1 >>> ((2 : Int32) &&& 31)) &&& 1).toInt64)), .second, .val (.long mm), .second, vr u1, .val (.long rr), .second, .val (.long sc), .second, .val (.long ff), .second, vu, vu] [(.int (own_b 1000 (r / 1000))), (.int (((1 : Int32) + (own_b 10 (r / 1000))) + (own_b 100 (r / 1000))))])
     refine Gz (XS.iadd X1.here hx rfl (hb hby at_175) rfl) ?_
     show Goes _ _ _ _ _ (fT T1 m 176 #[.val (.long x0), .second, vi x1, .val (.long (x0 &&& (9223372036854775807 : Int64))), .second, vi (x1 &&& 3), .val (.long (((x1 >>> ((2 : Int32) &&& 31)) &&& 1).toInt64)), .second, .val (.long mm), .second, vr u1, .val (.long rr), .second, .val (.long sc), .second, .val (.long ff), .second, vu, vu] [(.int ((((1 : Int32) + (own_b 10 (r / 1000))) + (own_b 100 (r / 1000))) + (own_b 1000 (r / 1000))))])
     refine Gz (XS.lload X1.here hx rfl (hb hby at_176) rfl) ?_
     refine Gs (fun _ tk => Jvm.Stand.ldc2J X1 hx hown (gz hZ hw 203 rfl) rfl (hb hby at_178) tk) ?_
     show Goes _ _ _ _ _ (fT T1 m 181 #[.val (.long x0), .second, vi x1, .val (.long (x0 &&& (9223372036854775807 : Int64))), .second, vi (x1 &&& 3), .val (.long (((x1 >>> ((2 : Int32) &&& 31)) &&& 1).toInt64)), .second, .val (.long mm), .second, vr u1, .val (.long rr), .second, .val (.long sc), .second, .val (.long ff), .second, vu, vu] [(.long (10000 : Int64)), (.long sc), (.int ((((1 : Int32) + (own_b 10 (r / 1000))) + (own_b 100 (r / 1000))) + (own_b 1000 (r / 1000))))])
     refine Gz (XS.lcmp X1.here hx rfl (hb hby at_181) rfl) ?_
     show Goes _ _ _ _ _ (fT T1 m 182 #[.val (.long x0), .second, vi x1, .val (.long (x0 &&& (9223372036854775807 : Int64))), .second, vi (x1 &&& 3), .val (.long (((x1 >>> ((2 : Int32) &&& 31)) &&& 1).toInt64)), .second, .val (.long mm), .second, vr u1, .val (.long rr), .second, .val (.long sc), .second, .val (.long ff), .second, vu, vu] [(.int (lcmpW sc (10000 : Int64))), (.int ((((1 : Int32) + (own_b 10 (r / 1000))) + (own_b 100 (r / 1000))) + (own_b 1000 (r / 1000))))])
     refine own_join (B := T1.setTop (mkF m 190 #[.val (.long x0), .second, vi x1, .val (.long (x0 &&& (9223372036854775807 : Int64))), .second, vi (x1 &&& 3), .val (.long (((x1 >>> ((2 : Int32) &&& 31)) &&& 1).toInt64)), .second, .val (.long mm), .second, vr u1, .val (.long rr), .second, .val (.long sc), .second, .val (.long ff), .second, vu, vu] [(.int (own_b 10000 (r / 1000))), (.int ((((1 : Int32) + (own_b 10 (r / 1000))) + (own_b 100 (r / 1000))) + (own_b 1000 (r / 1000))))])) ?_ ?_
     ·show Goes _ _ _ _ _ (fT T1 m 190 #[.val (.long x0), .second, vi x1, .val (.long (x0 &&& (9223372036854775807 : Int64))), .second, vi (x1 &&& 3), .val (.long (((x1 >>> ((2 : Int32) &&& 31)) &&& 1).toInt64)), .second, .val (.long mm), .second, vr u1, .val (.long rr), .second, .val (.long sc), .second, .val (.long ff), .second, vu, vu] [(.int (own_b 10000 (r / 1000))), (.int ((((1 : Int32) + (own_b 10 (r / 1000))) + (own_b 100 (r / 1000))) + (own_b 1000 (r / 1000))))])
      refine Gz (XS.iadd X1.here hx rfl (hb hby at_190) rfl) ?_
      show Goes _ _ _ _ _ (fT T1 m 191 #[.val (.long x0), .second, vi x1, .val (.long (x0 &&& (9223372036854775807 : Int64))), .second, vi (x1 &&& 3), .val (.long (((x1 >>> ((2 : Int32) &&& 31)) &&& 1).toInt64)), .second, .val (.long mm), .second, vr u1, .val (.long rr), .second, .val (.long sc), .second, .val (.long ff), .second, vu, vu] [(.int (((((1 : Int32) + (own_b 10 (r / 1000))) + (own_b 100 (r / 1000))) + (own_b 1000 (r / 1000))) + (own_b 10000 (r / 1000))))])
      refine Gz (XS.lload X1.here hx rfl (hb hby at_191) rfl) ?_
      refine Gs (fun _ tk => Jvm.Stand.ldc2J X1 hx hown (gz hZ hw 204 rfl) rfl (hb hby at_193) tk) ?_
      show Goes _ _ _ _ _ (fT T1 m 196 #[.val (.long x0), .second, vi x1, .val (.long (x0 &&& (9223372036854775807 : Int64))), .second, vi (x1 &&& 3), .val (.long (((x1 >>> ((2 : Int32) &&& 31)) &&& 1).toInt64)), .second, .val (.long mm), .second, vr u1, .val (.long rr), .second, .val (.long sc), .second, .val (.long ff), .second, vu, vu] [(.long (100000 : Int64)), (.long sc), (.int (((((1 : Int32) + (own_b 10 (r / 1000))) + (own_b 100 (r / 1000))) + (own_b 1000 (r / 1000))) + (own_b 10000 (r / 1000))))])
      refine Gz (XS.lcmp X1.here hx rfl (hb hby at_196) rfl) ?_
      show Goes _ _ _ _ _ (fT T1 m 197 #[.val (.long x0), .second, vi x1, .val (.long (x0 &&& (9223372036854775807 : Int64))), .second, vi (x1 &&& 3), .val (.long (((x1 >>> ((2 : Int32) &&& 31)) &&& 1).toInt64)), .second, .val (.long mm), .second, vr u1, .val (.long rr), .second, .val (.long sc), .second, .val (.long ff), .second, vu, vu] [(.int (lcmpW sc (100000 : Int64))), (.int (((((1 : Int32) + (own_b 10 (r / 1000))) + (own_b 100 (r / 1000))) + (own_b 1000 (r / 1000))) + (own_b 10000 (r / 1000))))])
      refine own_join (B := T1.setTop (mkF m 205 #[.val (.long x0), .second, vi x1, .val (.long (x0 &&& (9223372036854775807 : Int64))), .second, vi (x1 &&& 3), .val (.long (((x1 >>> ((2 : Int32) &&& 31)) &&& 1).toInt64)), .second, .val (.long mm), .second, vr u1, .val (.long rr), .second, .val (.long sc), .second, .val (.long ff), .second, vu, vu] [(.int (own_b 100000 (r / 1000))), (.int (((((1 : Int32) + (own_b 10 (r / 1000))) + (own_b 100 (r / 1000))) + (own_b 1000 (r / 1000))) + (own_b 10000 (r / 1000))))])) ?_ ?_
      ·show Goes _ _ _ _ _ (fT T1 m 205 #[.val (.long x0), .second, vi x1, .val (.long (x0 &&& (9223372036854775807 : Int64))), .second, vi (x1 &&& 3), .val (.long (((x1 >>> ((2 : Int32) &&& 31)) &&& 1).toInt64)), .second, .val (.long mm), .second, vr u1, .val (.long rr), .second, .val (.long sc), .second, .val (.long ff), .second, vu, vu] [(.int (own_b 100000 (r / 1000))), (.int (((((1 : Int32) + (own_b 10 (r / 1000))) + (own_b 100 (r / 1000))) + (own_b 1000 (r / 1000))) + (own_b 10000 (r / 1000))))])
       refine Gz (XS.iadd X1.here hx rfl (hb hby at_205) rfl) ?_
       show Goes _ _ _ _ _ (fT T1 m 206 #[.val (.long x0), .second, vi x1, .val (.long (x0 &&& (9223372036854775807 : Int64))), .second, vi (x1 &&& 3), .val (.long (((x1 >>> ((2 : Int32) &&& 31)) &&& 1).toInt64)), .second, .val (.long mm), .second, vr u1, .val (.long rr), .second, .val (.long sc), .second, .val (.long ff), .second, vu, vu] [(.int ((((((1 : Int32) + (own_b 10 (r / 1000))) + (own_b 100 (r / 1000))) + (own_b 1000 (r / 1000))) + (own_b 10000 (r / 1000))) + (own_b 100000 (r / 1000))))])
       refine Gz (XS.lload X1.here hx rfl (hb hby at_206) rfl) ?_
       refine Gs (fun _ tk => Jvm.Stand.ldc2J X1 hx hown (gz hZ hw 205 rfl) rfl (hb hby at_208) tk) ?_
       show Goes _ _ _ _ _ (fT T1 m 211 #[.val (.long x0), .second, vi x1, .val (.long (x0 &&& (9223372036854775807 : Int64))), .second, vi (x1 &&& 3), .val (.long (((x1 >>> ((2 : Int32) &&& 31)) &&& 1).toInt64)), .second, .val (.long mm), .second, vr u1, .val (.long rr), .second, .val (.long sc), .second, .val (.long ff), .second, vu, vu] [(.long (1000000 : Int64)), (.long sc), (.int ((((((1 : Int32) + (own_b 10 (r / 1000))) + (own_b 100 (r / 1000))) + (own_b 1000 (r / 1000))) + (own_b 10000 (r / 1000))) + (own_b 100000 (r / 1000))))])
       refine Gz (XS.lcmp X1.here hx rfl (hb hby at_211) rfl) ?_
       show Goes _ _ _ _ _ (fT T1 m 212 #[.val (.long x0), .second, vi x1, .val (.long (x0 &&& (9223372036854775807 : Int64))), .second, vi (x1 &&& 3), .val (.long (((x1 >>> ((2 : Int32) &&& 31)) &&& 1).toInt64)), .second, .val (.long mm), .second, vr u1, .val (.long rr), .second, .val (.long sc), .second, .val (.long ff), .second, vu, vu] [(.int (lcmpW sc (1000000 : Int64))), (.int ((((((1 : Int32) + (own_b 10 (r / 1000))) + (own_b 100 (r / 1000))) + (own_b 1000 (r / 1000))) + (own_b 10000 (r / 1000))) + (own_b 100000 (r / 1000))))])
       refine own_join (B := T1.setTop (mkF m 220 #[.val (.long x0), .second, vi x1, .val (.long (x0 &&& (9223372036854775807 : Int64))), .second, vi (x1 &&& 3), .val (.long (((x1 >>> ((2 : Int32) &&& 31)) &&& 1).toInt64)), .second, .val (.long mm), .second, vr u1, .val (.long rr), .second, .val (.long sc), .second, .val (.long ff), .second, vu, vu] [(.int (own_b 1000000 (r / 1000))), (.int ((((((1 : Int32) + (own_b 10 (r / 1000))) + (own_b 100 (r / 1000))) + (own_b 1000 (r / 1000))) + (own_b 10000 (r / 1000))) + (own_b 100000 (r / 1000))))])) ?_ ?_
       ·show Goes _ _ _ _ _ (fT T1 m 220 #[.val (.long x0), .second, vi x1, .val (.long (x0 &&& (9223372036854775807 : Int64))), .second, vi (x1 &&& 3), .val (.long (((x1 >>> ((2 : Int32) &&& 31)) &&& 1).toInt64)), .second, .val (.long mm), .second, vr u1, .val (.long rr), .second, .val (.long sc), .second, .val (.long ff), .second, vu, vu] [(.int (own_b 1000000 (r / 1000))), (.int ((((((1 : Int32) + (own_b 10 (r / 1000))) + (own_b 100 (r / 1000))) + (own_b 1000 (r / 1000))) + (own_b 10000 (r / 1000))) + (own_b 100000 (r / 1000))))])
        refine Gz (XS.iadd X1.here hx rfl (hb hby at_220) rfl) ?_
        show Goes _ _ _ _ _ (fT T1 m 221 #[.val (.long x0), .second, vi x1, .val (.long (x0 &&& (9223372036854775807 : Int64))), .second, vi (x1 &&& 3), .val (.long (((x1 >>> ((2 : Int32) &&& 31)) &&& 1).toInt64)), .second, .val (.long mm), .second, vr u1, .val (.long rr), .second, .val (.long sc), .second, .val (.long ff), .second, vu, vu] [(.int (((((((1 : Int32) + (own_b 10 (r / 1000))) + (own_b 100 (r / 1000))) + (own_b 1000 (r / 1000))) + (own_b 10000 (r / 1000))) + (own_b 100000 (r / 1000))) + (own_b 1000000 (r / 1000))))])
        refine Gz (XS.lload X1.here hx rfl (hb hby at_221) rfl) ?_
        refine Gs (fun _ tk => Jvm.Stand.ldc2J X1 hx hown (gz hZ hw 206 rfl) rfl (hb hby at_223) tk) ?_
        show Goes _ _ _ _ _ (fT T1 m 226 #[.val (.long x0), .second, vi x1, .val (.long (x0 &&& (9223372036854775807 : Int64))), .second, vi (x1 &&& 3), .val (.long (((x1 >>> ((2 : Int32) &&& 31)) &&& 1).toInt64)), .second, .val (.long mm), .second, vr u1, .val (.long rr), .second, .val (.long sc), .second, .val (.long ff), .second, vu, vu] [(.long (10000000 : Int64)), (.long sc), (.int (((((((1 : Int32) + (own_b 10 (r / 1000))) + (own_b 100 (r / 1000))) + (own_b 1000 (r / 1000))) + (own_b 10000 (r / 1000))) + (own_b 100000 (r / 1000))) + (own_b 1000000 (r / 1000))))])
        refine Gz (XS.lcmp X1.here hx rfl (hb hby at_226) rfl) ?_
        show Goes _ _ _ _ _ (fT T1 m 227 #[.val (.long x0), .second, vi x1, .val (.long (x0 &&& (9223372036854775807 : Int64))), .second, vi (x1 &&& 3), .val (.long (((x1 >>> ((2 : Int32) &&& 31)) &&& 1).toInt64)), .second, .val (.long mm), .second, vr u1, .val (.long rr), .second, .val (.long sc), .second, .val (.long ff), .second, vu, vu] [(.int (lcmpW sc (10000000 : Int64))), (.int (((((((1 : Int32) + (own_b 10 (r / 1000))) + (own_b 100 (r / 1000))) + (own_b 1000 (r / 1000))) + (own_b 10000 (r / 1000))) + (own_b 100000 (r / 1000))) + (own_b 1000000 (r / 1000))))])
        refine own_join (B := T1.setTop (mkF m 235 #[.val (.long x0), .second, vi x1, .val (.long (x0 &&& (9223372036854775807 : Int64))), .second, vi (x1 &&& 3), .val (.long (((x1 >>> ((2 : Int32) &&& 31)) &&& 1).toInt64)), .second, .val (.long mm), .second, vr u1, .val (.long rr), .second, .val (.long sc), .second, .val (.long ff), .second, vu, vu] [(.int (own_b 10000000 (r / 1000))), (.int (((((((1 : Int32) + (own_b 10 (r / 1000))) + (own_b 100 (r / 1000))) + (own_b 1000 (r / 1000))) + (own_b 10000 (r / 1000))) + (own_b 100000 (r / 1000))) + (own_b 1000000 (r / 1000))))])) ?_ ?_
        ·show Goes _ _ _ _ _ (fT T1 m 235 #[.val (.long x0), .second, vi x1, .val (.long (x0 &&& (9223372036854775807 : Int64))), .second, vi (x1 &&& 3), .val (.long (((x1 >>> ((2 : Int32) &&& 31)) &&& 1).toInt64)), .second, .val (.long mm), .second, vr u1, .val (.long rr), .second, .val (.long sc), .second, .val (.long ff), .second, vu, vu] [(.int (own_b 10000000 (r / 1000))), (.int (((((((1 : Int32) + (own_b 10 (r / 1000))) + (own_b 100 (r / 1000))) + (own_b 1000 (r / 1000))) + (own_b 10000 (r / 1000))) + (own_b 100000 (r / 1000))) + (own_b 1000000 (r / 1000))))])
         refine Gz (XS.iadd X1.here hx rfl (hb hby at_235) rfl) ?_
         show Goes _ _ _ _ _ (fT T1 m 236 #[.val (.long x0), .second, vi x1, .val (.long (x0 &&& (9223372036854775807 : Int64))), .second, vi (x1 &&& 3), .val (.long (((x1 >>> ((2 : Int32) &&& 31)) &&& 1).toInt64)), .second, .val (.long mm), .second, vr u1, .val (.long rr), .second, .val (.long sc), .second, .val (.long ff), .second, vu, vu] [(.int ((((((((1 : Int32) + (own_b 10 (r / 1000))) + (own_b 100 (r / 1000))) + (own_b 1000 (r / 1000))) + (own_b 10000 (r / 1000))) + (own_b 100000 (r / 1000))) + (own_b 1000000 (r / 1000))) + (own_b 10000000 (r / 1000))))])
         refine Gz (XS.lload X1.here hx rfl (hb hby at_236) rfl) ?_
         refine Gs (fun _ tk => Jvm.Stand.ldc2J X1 hx hown (gz hZ hw 207 rfl) rfl (hb hby at_238) tk) ?_
         show Goes _ _ _ _ _ (fT T1 m 241 #[.val (.long x0), .second, vi x1, .val (.long (x0 &&& (9223372036854775807 : Int64))), .second, vi (x1 &&& 3), .val (.long (((x1 >>> ((2 : Int32) &&& 31)) &&& 1).toInt64)), .second, .val (.long mm), .second, vr u1, .val (.long rr), .second, .val (.long sc), .second, .val (.long ff), .second, vu, vu] [(.long (100000000 : Int64)), (.long sc), (.int ((((((((1 : Int32) + (own_b 10 (r / 1000))) + (own_b 100 (r / 1000))) + (own_b 1000 (r / 1000))) + (own_b 10000 (r / 1000))) + (own_b 100000 (r / 1000))) + (own_b 1000000 (r / 1000))) + (own_b 10000000 (r / 1000))))])
         refine Gz (XS.lcmp X1.here hx rfl (hb hby at_241) rfl) ?_
         show Goes _ _ _ _ _ (fT T1 m 242 #[.val (.long x0), .second, vi x1, .val (.long (x0 &&& (9223372036854775807 : Int64))), .second, vi (x1 &&& 3), .val (.long (((x1 >>> ((2 : Int32) &&& 31)) &&& 1).toInt64)), .second, .val (.long mm), .second, vr u1, .val (.long rr), .second, .val (.long sc), .second, .val (.long ff), .second, vu, vu] [(.int (lcmpW sc (100000000 : Int64))), (.int ((((((((1 : Int32) + (own_b 10 (r / 1000))) + (own_b 100 (r / 1000))) + (own_b 1000 (r / 1000))) + (own_b 10000 (r / 1000))) + (own_b 100000 (r / 1000))) + (own_b 1000000 (r / 1000))) + (own_b 10000000 (r / 1000))))])
         refine own_join (B := T1.setTop (mkF m 250 #[.val (.long x0), .second, vi x1, .val (.long (x0 &&& (9223372036854775807 : Int64))), .second, vi (x1 &&& 3), .val (.long (((x1 >>> ((2 : Int32) &&& 31)) &&& 1).toInt64)), .second, .val (.long mm), .second, vr u1, .val (.long rr), .second, .val (.long sc), .second, .val (.long ff), .second, vu, vu] [(.int (own_b 100000000 (r / 1000))), (.int ((((((((1 : Int32) + (own_b 10 (r / 1000))) + (own_b 100 (r / 1000))) + (own_b 1000 (r / 1000))) + (own_b 10000 (r / 1000))) + (own_b 100000 (r / 1000))) + (own_b 1000000 (r / 1000))) + (own_b 10000000 (r / 1000))))])) ?_ ?_
         ·show Goes _ _ _ _ _ (fT T1 m 250 #[.val (.long x0), .second, vi x1, .val (.long (x0 &&& (9223372036854775807 : Int64))), .second, vi (x1 &&& 3), .val (.long (((x1 >>> ((2 : Int32) &&& 31)) &&& 1).toInt64)), .second, .val (.long mm), .second, vr u1, .val (.long rr), .second, .val (.long sc), .second, .val (.long ff), .second, vu, vu] [(.int (own_b 100000000 (r / 1000))), (.int ((((((((1 : Int32) + (own_b 10 (r / 1000))) + (own_b 100 (r / 1000))) + (own_b 1000 (r / 1000))) + (own_b 10000 (r / 1000))) + (own_b 100000 (r / 1000))) + (own_b 1000000 (r / 1000))) + (own_b 10000000 (r / 1000))))])
          refine Gz (XS.iadd X1.here hx rfl (hb hby at_250) rfl) ?_
          show Goes _ _ _ _ _ (fT T1 m 251 #[.val (.long x0), .second, vi x1, .val (.long (x0 &&& (9223372036854775807 : Int64))), .second, vi (x1 &&& 3), .val (.long (((x1 >>> ((2 : Int32) &&& 31)) &&& 1).toInt64)), .second, .val (.long mm), .second, vr u1, .val (.long rr), .second, .val (.long sc), .second, .val (.long ff), .second, vu, vu] [(.int (((((((((1 : Int32) + (own_b 10 (r / 1000))) + (own_b 100 (r / 1000))) + (own_b 1000 (r / 1000))) + (own_b 10000 (r / 1000))) + (own_b 100000 (r / 1000))) + (own_b 1000000 (r / 1000))) + (own_b 10000000 (r / 1000))) + (own_b 100000000 (r / 1000))))])
          refine Gz (XS.lload X1.here hx rfl (hb hby at_251) rfl) ?_
          refine Gs (fun _ tk => Jvm.Stand.ldc2J X1 hx hown (gz hZ hw 208 rfl) rfl (hb hby at_253) tk) ?_
          show Goes _ _ _ _ _ (fT T1 m 256 #[.val (.long x0), .second, vi x1, .val (.long (x0 &&& (9223372036854775807 : Int64))), .second, vi (x1 &&& 3), .val (.long (((x1 >>> ((2 : Int32) &&& 31)) &&& 1).toInt64)), .second, .val (.long mm), .second, vr u1, .val (.long rr), .second, .val (.long sc), .second, .val (.long ff), .second, vu, vu] [(.long (1000000000 : Int64)), (.long sc), (.int (((((((((1 : Int32) + (own_b 10 (r / 1000))) + (own_b 100 (r / 1000))) + (own_b 1000 (r / 1000))) + (own_b 10000 (r / 1000))) + (own_b 100000 (r / 1000))) + (own_b 1000000 (r / 1000))) + (own_b 10000000 (r / 1000))) + (own_b 100000000 (r / 1000))))])
          refine Gz (XS.lcmp X1.here hx rfl (hb hby at_256) rfl) ?_
          show Goes _ _ _ _ _ (fT T1 m 257 #[.val (.long x0), .second, vi x1, .val (.long (x0 &&& (9223372036854775807 : Int64))), .second, vi (x1 &&& 3), .val (.long (((x1 >>> ((2 : Int32) &&& 31)) &&& 1).toInt64)), .second, .val (.long mm), .second, vr u1, .val (.long rr), .second, .val (.long sc), .second, .val (.long ff), .second, vu, vu] [(.int (lcmpW sc (1000000000 : Int64))), (.int (((((((((1 : Int32) + (own_b 10 (r / 1000))) + (own_b 100 (r / 1000))) + (own_b 1000 (r / 1000))) + (own_b 10000 (r / 1000))) + (own_b 100000 (r / 1000))) + (own_b 1000000 (r / 1000))) + (own_b 10000000 (r / 1000))) + (own_b 100000000 (r / 1000))))])
          refine own_join (B := T1.setTop (mkF m 265 #[.val (.long x0), .second, vi x1, .val (.long (x0 &&& (9223372036854775807 : Int64))), .second, vi (x1 &&& 3), .val (.long (((x1 >>> ((2 : Int32) &&& 31)) &&& 1).toInt64)), .second, .val (.long mm), .second, vr u1, .val (.long rr), .second, .val (.long sc), .second, .val (.long ff), .second, vu, vu] [(.int (own_b 1000000000 (r / 1000))), (.int (((((((((1 : Int32) + (own_b 10 (r / 1000))) + (own_b 100 (r / 1000))) + (own_b 1000 (r / 1000))) + (own_b 10000 (r / 1000))) + (own_b 100000 (r / 1000))) + (own_b 1000000 (r / 1000))) + (own_b 10000000 (r / 1000))) + (own_b 100000000 (r / 1000))))])) ?_ ?_
          ·show Goes _ _ _ _ _ (fT T1 m 265 #[.val (.long x0), .second, vi x1, .val (.long (x0 &&& (9223372036854775807 : Int64))), .second, vi (x1 &&& 3), .val (.long (((x1 >>> ((2 : Int32) &&& 31)) &&& 1).toInt64)), .second, .val (.long mm), .second, vr u1, .val (.long rr), .second, .val (.long sc), .second, .val (.long ff), .second, vu, vu] [(.int (own_b 1000000000 (r / 1000))), (.int (((((((((1 : Int32) + (own_b 10 (r / 1000))) + (own_b 100 (r / 1000))) + (own_b 1000 (r / 1000))) + (own_b 10000 (r / 1000))) + (own_b 100000 (r / 1000))) + (own_b 1000000 (r / 1000))) + (own_b 10000000 (r / 1000))) + (own_b 100000000 (r / 1000))))])
           refine Gz (XS.iadd X1.here hx rfl (hb hby at_265) rfl) ?_
           show Goes _ _ _ _ _ (fT T1 m 266 #[.val (.long x0), .second, vi x1, .val (.long (x0 &&& (9223372036854775807 : Int64))), .second, vi (x1 &&& 3), .val (.long (((x1 >>> ((2 : Int32) &&& 31)) &&& 1).toInt64)), .second, .val (.long mm), .second, vr u1, .val (.long rr), .second, .val (.long sc), .second, .val (.long ff), .second, vu, vu] [(.int ((((((((((1 : Int32) + (own_b 10 (r / 1000))) + (own_b 100 (r / 1000))) + (own_b 1000 (r / 1000))) + (own_b 10000 (r / 1000))) + (own_b 100000 (r / 1000))) + (own_b 1000000 (r / 1000))) + (own_b 10000000 (r / 1000))) + (own_b 100000000 (r / 1000))) + (own_b 1000000000 (r / 1000))))])
           refine Gz (XS.lload X1.here hx rfl (hb hby at_266) rfl) ?_
           refine Gs (fun _ tk => Jvm.Stand.ldc2J X1 hx hown (gz hZ hw 209 rfl) rfl (hb hby at_268) tk) ?_
           show Goes _ _ _ _ _ (fT T1 m 271 #[.val (.long x0), .second, vi x1, .val (.long (x0 &&& (9223372036854775807 : Int64))), .second, vi (x1 &&& 3), .val (.long (((x1 >>> ((2 : Int32) &&& 31)) &&& 1).toInt64)), .second, .val (.long mm), .second, vr u1, .val (.long rr), .second, .val (.long sc), .second, .val (.long ff), .second, vu, vu] [(.long (10000000000 : Int64)), (.long sc), (.int ((((((((((1 : Int32) + (own_b 10 (r / 1000))) + (own_b 100 (r / 1000))) + (own_b 1000 (r / 1000))) + (own_b 10000 (r / 1000))) + (own_b 100000 (r / 1000))) + (own_b 1000000 (r / 1000))) + (own_b 10000000 (r / 1000))) + (own_b 100000000 (r / 1000))) + (own_b 1000000000 (r / 1000))))])
           refine Gz (XS.lcmp X1.here hx rfl (hb hby at_271) rfl) ?_
           show Goes _ _ _ _ _ (fT T1 m 272 #[.val (.long x0), .second, vi x1, .val (.long (x0 &&& (9223372036854775807 : Int64))), .second, vi (x1 &&& 3), .val (.long (((x1 >>> ((2 : Int32) &&& 31)) &&& 1).toInt64)), .second, .val (.long mm), .second, vr u1, .val (.long rr), .second, .val (.long sc), .second, .val (.long ff), .second, vu, vu] [(.int (lcmpW sc (10000000000 : Int64))), (.int ((((((((((1 : Int32) + (own_b 10 (r / 1000))) + (own_b 100 (r / 1000))) + (own_b 1000 (r / 1000))) + (own_b 10000 (r / 1000))) + (own_b 100000 (r / 1000))) + (own_b 1000000 (r / 1000))) + (own_b 10000000 (r / 1000))) + (own_b 100000000 (r / 1000))) + (own_b 1000000000 (r / 1000))))])
           refine own_join (B := T1.setTop (mkF m 280 #[.val (.long x0), .second, vi x1, .val (.long (x0 &&& (9223372036854775807 : Int64))), .second, vi (x1 &&& 3), .val (.long (((x1 >>> ((2 : Int32) &&& 31)) &&& 1).toInt64)), .second, .val (.long mm), .second, vr u1, .val (.long rr), .second, .val (.long sc), .second, .val (.long ff), .second, vu, vu] [(.int (own_b 10000000000 (r / 1000))), (.int ((((((((((1 : Int32) + (own_b 10 (r / 1000))) + (own_b 100 (r / 1000))) + (own_b 1000 (r / 1000))) + (own_b 10000 (r / 1000))) + (own_b 100000 (r / 1000))) + (own_b 1000000 (r / 1000))) + (own_b 10000000 (r / 1000))) + (own_b 100000000 (r / 1000))) + (own_b 1000000000 (r / 1000))))])) ?_ ?_
           ·show Goes _ _ _ _ _ (fT T1 m 280 #[.val (.long x0), .second, vi x1, .val (.long (x0 &&& (9223372036854775807 : Int64))), .second, vi (x1 &&& 3), .val (.long (((x1 >>> ((2 : Int32) &&& 31)) &&& 1).toInt64)), .second, .val (.long mm), .second, vr u1, .val (.long rr), .second, .val (.long sc), .second, .val (.long ff), .second, vu, vu] [(.int (own_b 10000000000 (r / 1000))), (.int ((((((((((1 : Int32) + (own_b 10 (r / 1000))) + (own_b 100 (r / 1000))) + (own_b 1000 (r / 1000))) + (own_b 10000 (r / 1000))) + (own_b 100000 (r / 1000))) + (own_b 1000000 (r / 1000))) + (own_b 10000000 (r / 1000))) + (own_b 100000000 (r / 1000))) + (own_b 1000000000 (r / 1000))))])
            refine Gz (XS.iadd X1.here hx rfl (hb hby at_280) rfl) ?_
            show Goes _ _ _ _ _ (fT T1 m 281 #[.val (.long x0), .second, vi x1, .val (.long (x0 &&& (9223372036854775807 : Int64))), .second, vi (x1 &&& 3), .val (.long (((x1 >>> ((2 : Int32) &&& 31)) &&& 1).toInt64)), .second, .val (.long mm), .second, vr u1, .val (.long rr), .second, .val (.long sc), .second, .val (.long ff), .second, vu, vu] [(.int (((((((((((1 : Int32) + (own_b 10 (r / 1000))) + (own_b 100 (r / 1000))) + (own_b 1000 (r / 1000))) + (own_b 10000 (r / 1000))) + (own_b 100000 (r / 1000))) + (own_b 1000000 (r / 1000))) + (own_b 10000000 (r / 1000))) + (own_b 100000000 (r / 1000))) + (own_b 1000000000 (r / 1000))) + (own_b 10000000000 (r / 1000))))])
            refine Gz (XS.lload X1.here hx rfl (hb hby at_281) rfl) ?_
            refine Gs (fun _ tk => Jvm.Stand.ldc2J X1 hx hown (gz hZ hw 210 rfl) rfl (hb hby at_283) tk) ?_
            show Goes _ _ _ _ _ (fT T1 m 286 #[.val (.long x0), .second, vi x1, .val (.long (x0 &&& (9223372036854775807 : Int64))), .second, vi (x1 &&& 3), .val (.long (((x1 >>> ((2 : Int32) &&& 31)) &&& 1).toInt64)), .second, .val (.long mm), .second, vr u1, .val (.long rr), .second, .val (.long sc), .second, .val (.long ff), .second, vu, vu] [(.long (100000000000 : Int64)), (.long sc), (.int (((((((((((1 : Int32) + (own_b 10 (r / 1000))) + (own_b 100 (r / 1000))) + (own_b 1000 (r / 1000))) + (own_b 10000 (r / 1000))) + (own_b 100000 (r / 1000))) + (own_b 1000000 (r / 1000))) + (own_b 10000000 (r / 1000))) + (own_b 100000000 (r / 1000))) + (own_b 1000000000 (r / 1000))) + (own_b 10000000000 (r / 1000))))])
            refine Gz (XS.lcmp X1.here hx rfl (hb hby at_286) rfl) ?_
            show Goes _ _ _ _ _ (fT T1 m 287 #[.val (.long x0), .second, vi x1, .val (.long (x0 &&& (9223372036854775807 : Int64))), .second, vi (x1 &&& 3), .val (.long (((x1 >>> ((2 : Int32) &&& 31)) &&& 1).toInt64)), .second, .val (.long mm), .second, vr u1, .val (.long rr), .second, .val (.long sc), .second, .val (.long ff), .second, vu, vu] [(.int (lcmpW sc (100000000000 : Int64))), (.int (((((((((((1 : Int32) + (own_b 10 (r / 1000))) + (own_b 100 (r / 1000))) + (own_b 1000 (r / 1000))) + (own_b 10000 (r / 1000))) + (own_b 100000 (r / 1000))) + (own_b 1000000 (r / 1000))) + (own_b 10000000 (r / 1000))) + (own_b 100000000 (r / 1000))) + (own_b 1000000000 (r / 1000))) + (own_b 10000000000 (r / 1000))))])
            refine own_join (B := T1.setTop (mkF m 295 #[.val (.long x0), .second, vi x1, .val (.long (x0 &&& (9223372036854775807 : Int64))), .second, vi (x1 &&& 3), .val (.long (((x1 >>> ((2 : Int32) &&& 31)) &&& 1).toInt64)), .second, .val (.long mm), .second, vr u1, .val (.long rr), .second, .val (.long sc), .second, .val (.long ff), .second, vu, vu] [(.int (own_b 100000000000 (r / 1000))), (.int (((((((((((1 : Int32) + (own_b 10 (r / 1000))) + (own_b 100 (r / 1000))) + (own_b 1000 (r / 1000))) + (own_b 10000 (r / 1000))) + (own_b 100000 (r / 1000))) + (own_b 1000000 (r / 1000))) + (own_b 10000000 (r / 1000))) + (own_b 100000000 (r / 1000))) + (own_b 1000000000 (r / 1000))) + (own_b 10000000000 (r / 1000))))])) ?_ ?_
            ·show Goes _ _ _ _ _ (fT T1 m 295 #[.val (.long x0), .second, vi x1, .val (.long (x0 &&& (9223372036854775807 : Int64))), .second, vi (x1 &&& 3), .val (.long (((x1 >>> ((2 : Int32) &&& 31)) &&& 1).toInt64)), .second, .val (.long mm), .second, vr u1, .val (.long rr), .second, .val (.long sc), .second, .val (.long ff), .second, vu, vu] [(.int (own_b 100000000000 (r / 1000))), (.int (((((((((((1 : Int32) + (own_b 10 (r / 1000))) + (own_b 100 (r / 1000))) + (own_b 1000 (r / 1000))) + (own_b 10000 (r / 1000))) + (own_b 100000 (r / 1000))) + (own_b 1000000 (r / 1000))) + (own_b 10000000 (r / 1000))) + (own_b 100000000 (r / 1000))) + (own_b 1000000000 (r / 1000))) + (own_b 10000000000 (r / 1000))))])
             refine Gz (XS.iadd X1.here hx rfl (hb hby at_295) rfl) ?_
             show Goes _ _ _ _ _ (fT T1 m 296 #[.val (.long x0), .second, vi x1, .val (.long (x0 &&& (9223372036854775807 : Int64))), .second, vi (x1 &&& 3), .val (.long (((x1 >>> ((2 : Int32) &&& 31)) &&& 1).toInt64)), .second, .val (.long mm), .second, vr u1, .val (.long rr), .second, .val (.long sc), .second, .val (.long ff), .second, vu, vu] [(.int ((((((((((((1 : Int32) + (own_b 10 (r / 1000))) + (own_b 100 (r / 1000))) + (own_b 1000 (r / 1000))) + (own_b 10000 (r / 1000))) + (own_b 100000 (r / 1000))) + (own_b 1000000 (r / 1000))) + (own_b 10000000 (r / 1000))) + (own_b 100000000 (r / 1000))) + (own_b 1000000000 (r / 1000))) + (own_b 10000000000 (r / 1000))) + (own_b 100000000000 (r / 1000))))])
             refine Gz (XS.lload X1.here hx rfl (hb hby at_296) rfl) ?_
             refine Gs (fun _ tk => Jvm.Stand.ldc2J X1 hx hown (gz hZ hw 211 rfl) rfl (hb hby at_298) tk) ?_
             show Goes _ _ _ _ _ (fT T1 m 301 #[.val (.long x0), .second, vi x1, .val (.long (x0 &&& (9223372036854775807 : Int64))), .second, vi (x1 &&& 3), .val (.long (((x1 >>> ((2 : Int32) &&& 31)) &&& 1).toInt64)), .second, .val (.long mm), .second, vr u1, .val (.long rr), .second, .val (.long sc), .second, .val (.long ff), .second, vu, vu] [(.long (1000000000000 : Int64)), (.long sc), (.int ((((((((((((1 : Int32) + (own_b 10 (r / 1000))) + (own_b 100 (r / 1000))) + (own_b 1000 (r / 1000))) + (own_b 10000 (r / 1000))) + (own_b 100000 (r / 1000))) + (own_b 1000000 (r / 1000))) + (own_b 10000000 (r / 1000))) + (own_b 100000000 (r / 1000))) + (own_b 1000000000 (r / 1000))) + (own_b 10000000000 (r / 1000))) + (own_b 100000000000 (r / 1000))))])
             refine Gz (XS.lcmp X1.here hx rfl (hb hby at_301) rfl) ?_
             show Goes _ _ _ _ _ (fT T1 m 302 #[.val (.long x0), .second, vi x1, .val (.long (x0 &&& (9223372036854775807 : Int64))), .second, vi (x1 &&& 3), .val (.long (((x1 >>> ((2 : Int32) &&& 31)) &&& 1).toInt64)), .second, .val (.long mm), .second, vr u1, .val (.long rr), .second, .val (.long sc), .second, .val (.long ff), .second, vu, vu] [(.int (lcmpW sc (1000000000000 : Int64))), (.int ((((((((((((1 : Int32) + (own_b 10 (r / 1000))) + (own_b 100 (r / 1000))) + (own_b 1000 (r / 1000))) + (own_b 10000 (r / 1000))) + (own_b 100000 (r / 1000))) + (own_b 1000000 (r / 1000))) + (own_b 10000000 (r / 1000))) + (own_b 100000000 (r / 1000))) + (own_b 1000000000 (r / 1000))) + (own_b 10000000000 (r / 1000))) + (own_b 100000000000 (r / 1000))))])
             refine own_join (B := T1.setTop (mkF m 310 #[.val (.long x0), .second, vi x1, .val (.long (x0 &&& (9223372036854775807 : Int64))), .second, vi (x1 &&& 3), .val (.long (((x1 >>> ((2 : Int32) &&& 31)) &&& 1).toInt64)), .second, .val (.long mm), .second, vr u1, .val (.long rr), .second, .val (.long sc), .second, .val (.long ff), .second, vu, vu] [(.int (own_b 1000000000000 (r / 1000))), (.int ((((((((((((1 : Int32) + (own_b 10 (r / 1000))) + (own_b 100 (r / 1000))) + (own_b 1000 (r / 1000))) + (own_b 10000 (r / 1000))) + (own_b 100000 (r / 1000))) + (own_b 1000000 (r / 1000))) + (own_b 10000000 (r / 1000))) + (own_b 100000000 (r / 1000))) + (own_b 1000000000 (r / 1000))) + (own_b 10000000000 (r / 1000))) + (own_b 100000000000 (r / 1000))))])) ?_ ?_
             ·show Goes _ _ _ _ _ (fT T1 m 310 #[.val (.long x0), .second, vi x1, .val (.long (x0 &&& (9223372036854775807 : Int64))), .second, vi (x1 &&& 3), .val (.long (((x1 >>> ((2 : Int32) &&& 31)) &&& 1).toInt64)), .second, .val (.long mm), .second, vr u1, .val (.long rr), .second, .val (.long sc), .second, .val (.long ff), .second, vu, vu] [(.int (own_b 1000000000000 (r / 1000))), (.int ((((((((((((1 : Int32) + (own_b 10 (r / 1000))) + (own_b 100 (r / 1000))) + (own_b 1000 (r / 1000))) + (own_b 10000 (r / 1000))) + (own_b 100000 (r / 1000))) + (own_b 1000000 (r / 1000))) + (own_b 10000000 (r / 1000))) + (own_b 100000000 (r / 1000))) + (own_b 1000000000 (r / 1000))) + (own_b 10000000000 (r / 1000))) + (own_b 100000000000 (r / 1000))))])
              refine Gz (XS.iadd X1.here hx rfl (hb hby at_310) rfl) ?_
              show Goes _ _ _ _ _ (fT T1 m 311 #[.val (.long x0), .second, vi x1, .val (.long (x0 &&& (9223372036854775807 : Int64))), .second, vi (x1 &&& 3), .val (.long (((x1 >>> ((2 : Int32) &&& 31)) &&& 1).toInt64)), .second, .val (.long mm), .second, vr u1, .val (.long rr), .second, .val (.long sc), .second, .val (.long ff), .second, vu, vu] [(.int (((((((((((((1 : Int32) + (own_b 10 (r / 1000))) + (own_b 100 (r / 1000))) + (own_b 1000 (r / 1000))) + (own_b 10000 (r / 1000))) + (own_b 100000 (r / 1000))) + (own_b 1000000 (r / 1000))) + (own_b 10000000 (r / 1000))) + (own_b 100000000 (r / 1000))) + (own_b 1000000000 (r / 1000))) + (own_b 10000000000 (r / 1000))) + (own_b 100000000000 (r / 1000))) + (own_b 1000000000000 (r / 1000))))])
              rw [own_dsum]
              show Goes _ _ _ _ _ (fT T1 m 311 #[.val (.long x0), .second, vi x1, .val (.long (x0 &&& (9223372036854775807 : Int64))), .second, vi (x1 &&& 3), .val (.long (((x1 >>> ((2 : Int32) &&& 31)) &&& 1).toInt64)), .second, .val (.long mm), .second, vr u1, .val (.long rr), .second, .val (.long sc), .second, .val (.long ff), .second, vu, vu] [(.int (Int32.ofNat (own_len (r / 1000))))])
              refine gS X1 hx hby at_311 #[.val (.long x0), .second, vi x1, .val (.long (x0 &&& (9223372036854775807 : Int64))), .second, vi (x1 &&& 3), .val (.long (((x1 >>> ((2 : Int32) &&& 31)) &&& 1).toInt64)), .second, .val (.long mm), .second, vr u1, .val (.long rr), .second, .val (.long sc), .second, .val (.long ff), .second, vi (Int32.ofNat (own_len (r / 1000))), vu] ?_
              refine Gz (XS.aload X1.here hx rfl (hb hby at_313) rfl rfl) ?_
              refine cV X1 hx hZ hw hown hby hml rfl mN2 212 80 82 81 83 25 0 (rs_len l Z a0 hw [] u1 (own_tf r) cz T1.heap n0 Z0 T_u1 sgC hcz) T_u1.exa at_315 (lenOf own_pd11 rfl) N1 (fun T14 L14 X14 e14 N14 => ?_)
              show Goes _ _ _ _ _ (fT T14 m 318 #[.val (.long x0), .second, vi x1, .val (.long (x0 &&& (9223372036854775807 : Int64))), .second, vi (x1 &&& 3), .val (.long (((x1 >>> ((2 : Int32) &&& 31)) &&& 1).toInt64)), .second, .val (.long mm), .second, vr u1, .val (.long rr), .second, .val (.long sc), .second, .val (.long ff), .second, vi (Int32.ofNat (own_len (r / 1000))), vu] [(.int (Int32.ofNat (own_tf r).length))])
              rw [own_tfN]
              show Goes _ _ _ _ _ (fT T14 m 318 #[.val (.long x0), .second, vi x1, .val (.long (x0 &&& (9223372036854775807 : Int64))), .second, vi (x1 &&& 3), .val (.long (((x1 >>> ((2 : Int32) &&& 31)) &&& 1).toInt64)), .second, .val (.long mm), .second, vr u1, .val (.long rr), .second, .val (.long sc), .second, .val (.long ff), .second, vi (Int32.ofNat (own_len (r / 1000))), vu] [(.int (Int32.ofNat ((own_len (r / 1000)) + 4)))])
              refine gS X14 hx hby at_318 #[.val (.long x0), .second, vi x1, .val (.long (x0 &&& (9223372036854775807 : Int64))), .second, vi (x1 &&& 3), .val (.long (((x1 >>> ((2 : Int32) &&& 31)) &&& 1).toInt64)), .second, .val (.long mm), .second, vr u1, .val (.long rr), .second, .val (.long sc), .second, .val (.long ff), .second, vi (Int32.ofNat (own_len (r / 1000))), vi (Int32.ofNat ((own_len (r / 1000)) + 4))] ?_
              refine gI X14 hx hby at_320 rfl rfl ?_
              refine gI X14 hx hby at_322 rfl rfl ?_
              refine gC X14 hx hby at_324 ?_
              show Goes _ _ _ _ _ (fT T14 m 325 #[.val (.long x0), .second, vi x1, .val (.long (x0 &&& (9223372036854775807 : Int64))), .second, vi (x1 &&& 3), .val (.long (((x1 >>> ((2 : Int32) &&& 31)) &&& 1).toInt64)), .second, .val (.long mm), .second, vr u1, .val (.long rr), .second, .val (.long sc), .second, .val (.long ff), .second, vi (Int32.ofNat (own_len (r / 1000))), vi (Int32.ofNat ((own_len (r / 1000)) + 4))] [(.int 4), (.int (Int32.ofNat (own_len (r / 1000)))), (.int (Int32.ofNat ((own_len (r / 1000)) + 4)))])
              refine Gz (XS.iadd X14.here hx rfl (hb hby at_325) rfl) ?_
              show Goes _ _ _ _ _ (fT T14 m 326 #[.val (.long x0), .second, vi x1, .val (.long (x0 &&& (9223372036854775807 : Int64))), .second, vi (x1 &&& 3), .val (.long (((x1 >>> ((2 : Int32) &&& 31)) &&& 1).toInt64)), .second, .val (.long mm), .second, vr u1, .val (.long rr), .second, .val (.long sc), .second, .val (.long ff), .second, vi (Int32.ofNat (own_len (r / 1000))), vi (Int32.ofNat ((own_len (r / 1000)) + 4))] [(.int ((Int32.ofNat (own_len (r / 1000))) + 4)), (.int (Int32.ofNat ((own_len (r / 1000)) + 4)))])
              rw [show ((Int32.ofNat (own_len (r / 1000))) + 4) = (Int32.ofNat ((own_len (r / 1000)) + 4)) from own_ofA _ 4]
              show Goes _ _ _ _ _ (fT T14 m 326 #[.val (.long x0), .second, vi x1, .val (.long (x0 &&& (9223372036854775807 : Int64))), .second, vi (x1 &&& 3), .val (.long (((x1 >>> ((2 : Int32) &&& 31)) &&& 1).toInt64)), .second, .val (.long mm), .second, vr u1, .val (.long rr), .second, .val (.long sc), .second, .val (.long ff), .second, vi (Int32.ofNat (own_len (r / 1000))), vi (Int32.ofNat ((own_len (r / 1000)) + 4))] [(.int (Int32.ofNat ((own_len (r / 1000)) + 4))), (.int (Int32.ofNat ((own_len (r / 1000)) + 4)))])
              refine gY X14 hx hby at_326 326 331 (teq (rfl : (Int32.ofNat ((own_len (r / 1000)) + 4)) = (Int32.ofNat ((own_len (r / 1000)) + 4)))).1 ?_
              refine Gz (XS.aload X14.here hx rfl (hb hby at_331) rfl rfl) ?_
              refine gI X14 hx hby at_333 rfl rfl ?_
              refine gC X14 hx hby at_335 ?_
              show Goes _ _ _ _ _ (fT T14 m 336 #[.val (.long x0), .second, vi x1, .val (.long (x0 &&& (9223372036854775807 : Int64))), .second, vi (x1 &&& 3), .val (.long (((x1 >>> ((2 : Int32) &&& 31)) &&& 1).toInt64)), .second, .val (.long mm), .second, vr u1, .val (.long rr), .second, .val (.long sc), .second, .val (.long ff), .second, vi (Int32.ofNat (own_len (r / 1000))), vi (Int32.ofNat ((own_len (r / 1000)) + 4))] [(.int 4), (.int (Int32.ofNat ((own_len (r / 1000)) + 4))), (.ref u1)])
              refine Gz (XS.isub X14.here hx rfl (hb hby at_336) rfl) ?_
              show Goes _ _ _ _ _ (fT T14 m 337 #[.val (.long x0), .second, vi x1, .val (.long (x0 &&& (9223372036854775807 : Int64))), .second, vi (x1 &&& 3), .val (.long (((x1 >>> ((2 : Int32) &&& 31)) &&& 1).toInt64)), .second, .val (.long mm), .second, vr u1, .val (.long rr), .second, .val (.long sc), .second, .val (.long ff), .second, vi (Int32.ofNat (own_len (r / 1000))), vi (Int32.ofNat ((own_len (r / 1000)) + 4))] [(.int ((Int32.ofNat ((own_len (r / 1000)) + 4)) - 4)), (.ref u1)])
              rw [own_ix (j := 4) (by decide) h13 (by decide) (by decide)]
              show Goes _ _ _ _ _ (fT T14 m 337 #[.val (.long x0), .second, vi x1, .val (.long (x0 &&& (9223372036854775807 : Int64))), .second, vi (x1 &&& 3), .val (.long (((x1 >>> ((2 : Int32) &&& 31)) &&& 1).toInt64)), .second, .val (.long mm), .second, vr u1, .val (.long rr), .second, .val (.long sc), .second, .val (.long ff), .second, vi (Int32.ofNat (own_len (r / 1000))), vi (Int32.ofNat ((own_len (r / 1000)) + 4))] [(.int (Int32.ofNat ((own_len (r / 1000)) + 0))), (.ref u1)])
              refine cV X14 hx hZ hw hown hby hml e14 mN6 213 214 216 215 217 25 0 (rs_chr l Z a0 hw [] u1 (own_tf r) (Int32.ofNat ((own_len (r / 1000)) + 0)) (46 : Int32) cz fo T1.heap n0 Z0 T_u1 sgC hcz (own_tnO (by omega)).2.1 (own_ltO' (by rw [own_tfN]; omega) (by rw [own_tfN]; omega)) (by rw [(own_tnO (n := (own_len (r / 1000)) + 0) (by omega)).1, own_tfE (by decide)]; rfl) sgF r_fo) T_u1.exa at_337 (lenOf own_pd33 rfl) N14 (fun T15 L15 X15 e15 N15 => ?_)
              show Goes _ _ _ _ _ (fT T15 m 340 #[.val (.long x0), .second, vi x1, .val (.long (x0 &&& (9223372036854775807 : Int64))), .second, vi (x1 &&& 3), .val (.long (((x1 >>> ((2 : Int32) &&& 31)) &&& 1).toInt64)), .second, .val (.long mm), .second, vr u1, .val (.long rr), .second, .val (.long sc), .second, .val (.long ff), .second, vi (Int32.ofNat (own_len (r / 1000))), vi (Int32.ofNat ((own_len (r / 1000)) + 4))] [(.int 46)])
              refine gB X15 hx hby at_340 ?_
              refine gY X15 hx hby at_342 342 347 (teq (by decide : ((46 : Int32) = (46 : Int32)))).1 ?_
              refine Gz (XS.aload X15.here hx rfl (hb hby at_347) rfl rfl) ?_
              refine gI X15 hx hby at_349 rfl rfl ?_
              refine gC X15 hx hby at_351 ?_
              show Goes _ _ _ _ _ (fT T15 m 352 #[.val (.long x0), .second, vi x1, .val (.long (x0 &&& (9223372036854775807 : Int64))), .second, vi (x1 &&& 3), .val (.long (((x1 >>> ((2 : Int32) &&& 31)) &&& 1).toInt64)), .second, .val (.long mm), .second, vr u1, .val (.long rr), .second, .val (.long sc), .second, .val (.long ff), .second, vi (Int32.ofNat (own_len (r / 1000))), vi (Int32.ofNat ((own_len (r / 1000)) + 4))] [(.int 3), (.int (Int32.ofNat ((own_len (r / 1000)) + 4))), (.ref u1)])
              refine Gz (XS.isub X15.here hx rfl (hb hby at_352) rfl) ?_
              show Goes _ _ _ _ _ (fT T15 m 353 #[.val (.long x0), .second, vi x1, .val (.long (x0 &&& (9223372036854775807 : Int64))), .second, vi (x1 &&& 3), .val (.long (((x1 >>> ((2 : Int32) &&& 31)) &&& 1).toInt64)), .second, .val (.long mm), .second, vr u1, .val (.long rr), .second, .val (.long sc), .second, .val (.long ff), .second, vi (Int32.ofNat (own_len (r / 1000))), vi (Int32.ofNat ((own_len (r / 1000)) + 4))] [(.int ((Int32.ofNat ((own_len (r / 1000)) + 4)) - 3)), (.ref u1)])
              rw [own_ix (j := 3) (by decide) h13 (by decide) (by decide)]
              show Goes _ _ _ _ _ (fT T15 m 353 #[.val (.long x0), .second, vi x1, .val (.long (x0 &&& (9223372036854775807 : Int64))), .second, vi (x1 &&& 3), .val (.long (((x1 >>> ((2 : Int32) &&& 31)) &&& 1).toInt64)), .second, .val (.long mm), .second, vr u1, .val (.long rr), .second, .val (.long sc), .second, .val (.long ff), .second, vi (Int32.ofNat (own_len (r / 1000))), vi (Int32.ofNat ((own_len (r / 1000)) + 4))] [(.int (Int32.ofNat ((own_len (r / 1000)) + 1))), (.ref u1)])
              refine cV X15 hx hZ hw hown hby hml e15 mN6 213 214 216 215 217 25 0 (rs_chr l Z a0 hw [] u1 (own_tf r) (Int32.ofNat ((own_len (r / 1000)) + 1)) (own_dc (r % 1000 / 100)) cz fo T1.heap n0 Z0 T_u1 sgC hcz (own_tnO (by omega)).2.1 (own_ltO' (by rw [own_tfN]; omega) (by rw [own_tfN]; omega)) (by rw [(own_tnO (n := (own_len (r / 1000)) + 1) (by omega)).1, own_tfE (by decide)]; rfl) sgF r_fo) T_u1.exa at_353 (lenOf own_pd33 rfl) N15 (fun T16 L16 X16 e16 N16 => ?_)
              show Goes _ _ _ _ _ (fT T16 m 356 #[.val (.long x0), .second, vi x1, .val (.long (x0 &&& (9223372036854775807 : Int64))), .second, vi (x1 &&& 3), .val (.long (((x1 >>> ((2 : Int32) &&& 31)) &&& 1).toInt64)), .second, .val (.long mm), .second, vr u1, .val (.long rr), .second, .val (.long sc), .second, .val (.long ff), .second, vi (Int32.ofNat (own_len (r / 1000))), vi (Int32.ofNat ((own_len (r / 1000)) + 4))] [(.int (own_dc (r % 1000 / 100)))])
              refine Gs (fun _ tk => Jvm.Stand.ldc2J X16 hx hown (gz hZ hw 227 rfl) rfl (hb hby at_356) tk) ?_
              show Goes _ _ _ _ _ (fT T16 m 359 #[.val (.long x0), .second, vi x1, .val (.long (x0 &&& (9223372036854775807 : Int64))), .second, vi (x1 &&& 3), .val (.long (((x1 >>> ((2 : Int32) &&& 31)) &&& 1).toInt64)), .second, .val (.long mm), .second, vr u1, .val (.long rr), .second, .val (.long sc), .second, .val (.long ff), .second, vi (Int32.ofNat (own_len (r / 1000))), vi (Int32.ofNat ((own_len (r / 1000)) + 4))] [(.long (48 : Int64)), (.int (own_dc (r % 1000 / 100)))])
              refine Gz (XS.lload X16.here hx rfl (hb hby at_359) rfl) ?_
              refine Gs (fun _ tk => Jvm.Stand.ldc2J X16 hx hown (gz hZ hw 202 rfl) rfl (hb hby at_361) tk) ?_
              show Goes _ _ _ _ _ (fT T16 m 364 #[.val (.long x0), .second, vi x1, .val (.long (x0 &&& (9223372036854775807 : Int64))), .second, vi (x1 &&& 3), .val (.long (((x1 >>> ((2 : Int32) &&& 31)) &&& 1).toInt64)), .second, .val (.long mm), .second, vr u1, .val (.long rr), .second, .val (.long sc), .second, .val (.long ff), .second, vi (Int32.ofNat (own_len (r / 1000))), vi (Int32.ofNat ((own_len (r / 1000)) + 4))] [(.long (100 : Int64)), (.long ff), (.long (48 : Int64)), (.int (own_dc (r % 1000 / 100)))])
              refine Gz (XS.ldiv X16.here hx rfl (hb hby at_364) rfl (by decide)) ?_
              show Goes _ _ _ _ _ (fT T16 m 365 #[.val (.long x0), .second, vi x1, .val (.long (x0 &&& (9223372036854775807 : Int64))), .second, vi (x1 &&& 3), .val (.long (((x1 >>> ((2 : Int32) &&& 31)) &&& 1).toInt64)), .second, .val (.long mm), .second, vr u1, .val (.long rr), .second, .val (.long sc), .second, .val (.long ff), .second, vi (Int32.ofNat (own_len (r / 1000))), vi (Int32.ofNat ((own_len (r / 1000)) + 4))] [(.long (ff / (100 : Int64))), (.long (48 : Int64)), (.int (own_dc (r % 1000 / 100)))])
              refine Gz (XS.ladd X16.here hx rfl (hb hby at_365) rfl) ?_
              show Goes _ _ _ _ _ (fT T16 m 366 #[.val (.long x0), .second, vi x1, .val (.long (x0 &&& (9223372036854775807 : Int64))), .second, vi (x1 &&& 3), .val (.long (((x1 >>> ((2 : Int32) &&& 31)) &&& 1).toInt64)), .second, .val (.long mm), .second, vr u1, .val (.long rr), .second, .val (.long sc), .second, .val (.long ff), .second, vi (Int32.ofNat (own_len (r / 1000))), vi (Int32.ofNat ((own_len (r / 1000)) + 4))] [(.long ((48 : Int64) + (ff / (100 : Int64)))), (.int (own_dc (r % 1000 / 100)))])
              refine Gz (XS.l2i X16.here hx rfl (hb hby at_366) rfl) ?_
              show Goes _ _ _ _ _ (fT T16 m 367 #[.val (.long x0), .second, vi x1, .val (.long (x0 &&& (9223372036854775807 : Int64))), .second, vi (x1 &&& 3), .val (.long (((x1 >>> ((2 : Int32) &&& 31)) &&& 1).toInt64)), .second, .val (.long mm), .second, vr u1, .val (.long rr), .second, .val (.long sc), .second, .val (.long ff), .second, vi (Int32.ofNat (own_len (r / 1000))), vi (Int32.ofNat ((own_len (r / 1000)) + 4))] [(.int (((48 : Int64) + (ff / (100 : Int64))).toInt32)), (.int (own_dc (r % 1000 / 100)))])
              refine Gz (XS.i2c X16.here hx rfl (hb hby at_367) rfl) ?_
              show Goes _ _ _ _ _ (fT T16 m 368 #[.val (.long x0), .second, vi x1, .val (.long (x0 &&& (9223372036854775807 : Int64))), .second, vi (x1 &&& 3), .val (.long (((x1 >>> ((2 : Int32) &&& 31)) &&& 1).toInt64)), .second, .val (.long mm), .second, vr u1, .val (.long rr), .second, .val (.long sc), .second, .val (.long ff), .second, vi (Int32.ofNat (own_len (r / 1000))), vi (Int32.ofNat ((own_len (r / 1000)) + 4))] [(.int ((((48 : Int64) + (ff / (100 : Int64))).toInt32).toUInt32.toUInt16.toUInt32.toInt32)), (.int (own_dc (r % 1000 / 100)))])
              refine gY X16 hx hby at_368 368 373 (teq (own_chr (own_ldP hff (show (100 : Int64).toInt = ((100 : Nat) : Int) from by decide) (by decide)) (by omega)).symm).1 ?_
              refine Gz (XS.aload X16.here hx rfl (hb hby at_373) rfl rfl) ?_
              refine gI X16 hx hby at_375 rfl rfl ?_
              refine gC X16 hx hby at_377 ?_
              show Goes _ _ _ _ _ (fT T16 m 378 #[.val (.long x0), .second, vi x1, .val (.long (x0 &&& (9223372036854775807 : Int64))), .second, vi (x1 &&& 3), .val (.long (((x1 >>> ((2 : Int32) &&& 31)) &&& 1).toInt64)), .second, .val (.long mm), .second, vr u1, .val (.long rr), .second, .val (.long sc), .second, .val (.long ff), .second, vi (Int32.ofNat (own_len (r / 1000))), vi (Int32.ofNat ((own_len (r / 1000)) + 4))] [(.int 2), (.int (Int32.ofNat ((own_len (r / 1000)) + 4))), (.ref u1)])
              refine Gz (XS.isub X16.here hx rfl (hb hby at_378) rfl) ?_
              show Goes _ _ _ _ _ (fT T16 m 379 #[.val (.long x0), .second, vi x1, .val (.long (x0 &&& (9223372036854775807 : Int64))), .second, vi (x1 &&& 3), .val (.long (((x1 >>> ((2 : Int32) &&& 31)) &&& 1).toInt64)), .second, .val (.long mm), .second, vr u1, .val (.long rr), .second, .val (.long sc), .second, .val (.long ff), .second, vi (Int32.ofNat (own_len (r / 1000))), vi (Int32.ofNat ((own_len (r / 1000)) + 4))] [(.int ((Int32.ofNat ((own_len (r / 1000)) + 4)) - 2)), (.ref u1)])
              rw [own_ix (j := 2) (by decide) h13 (by decide) (by decide)]
              show Goes _ _ _ _ _ (fT T16 m 379 #[.val (.long x0), .second, vi x1, .val (.long (x0 &&& (9223372036854775807 : Int64))), .second, vi (x1 &&& 3), .val (.long (((x1 >>> ((2 : Int32) &&& 31)) &&& 1).toInt64)), .second, .val (.long mm), .second, vr u1, .val (.long rr), .second, .val (.long sc), .second, .val (.long ff), .second, vi (Int32.ofNat (own_len (r / 1000))), vi (Int32.ofNat ((own_len (r / 1000)) + 4))] [(.int (Int32.ofNat ((own_len (r / 1000)) + 2))), (.ref u1)])
              refine cV X16 hx hZ hw hown hby hml e16 mN6 213 214 216 215 217 25 0 (rs_chr l Z a0 hw [] u1 (own_tf r) (Int32.ofNat ((own_len (r / 1000)) + 2)) (own_dc (r % 1000 / 10 % 10)) cz fo T1.heap n0 Z0 T_u1 sgC hcz (own_tnO (by omega)).2.1 (own_ltO' (by rw [own_tfN]; omega) (by rw [own_tfN]; omega)) (by rw [(own_tnO (n := (own_len (r / 1000)) + 2) (by omega)).1, own_tfE (by decide)]; rfl) sgF r_fo) T_u1.exa at_379 (lenOf own_pd33 rfl) N16 (fun T17 L17 X17 e17 N17 => ?_)
              show Goes _ _ _ _ _ (fT T17 m 382 #[.val (.long x0), .second, vi x1, .val (.long (x0 &&& (9223372036854775807 : Int64))), .second, vi (x1 &&& 3), .val (.long (((x1 >>> ((2 : Int32) &&& 31)) &&& 1).toInt64)), .second, .val (.long mm), .second, vr u1, .val (.long rr), .second, .val (.long sc), .second, .val (.long ff), .second, vi (Int32.ofNat (own_len (r / 1000))), vi (Int32.ofNat ((own_len (r / 1000)) + 4))] [(.int (own_dc (r % 1000 / 10 % 10)))])
              refine Gs (fun _ tk => Jvm.Stand.ldc2J X17 hx hown (gz hZ hw 227 rfl) rfl (hb hby at_382) tk) ?_
              show Goes _ _ _ _ _ (fT T17 m 385 #[.val (.long x0), .second, vi x1, .val (.long (x0 &&& (9223372036854775807 : Int64))), .second, vi (x1 &&& 3), .val (.long (((x1 >>> ((2 : Int32) &&& 31)) &&& 1).toInt64)), .second, .val (.long mm), .second, vr u1, .val (.long rr), .second, .val (.long sc), .second, .val (.long ff), .second, vi (Int32.ofNat (own_len (r / 1000))), vi (Int32.ofNat ((own_len (r / 1000)) + 4))] [(.long (48 : Int64)), (.int (own_dc (r % 1000 / 10 % 10)))])
              refine Gz (XS.lload X17.here hx rfl (hb hby at_385) rfl) ?_
              refine Gs (fun _ tk => Jvm.Stand.ldc2J X17 hx hown (gz hZ hw 201 rfl) rfl (hb hby at_387) tk) ?_
              show Goes _ _ _ _ _ (fT T17 m 390 #[.val (.long x0), .second, vi x1, .val (.long (x0 &&& (9223372036854775807 : Int64))), .second, vi (x1 &&& 3), .val (.long (((x1 >>> ((2 : Int32) &&& 31)) &&& 1).toInt64)), .second, .val (.long mm), .second, vr u1, .val (.long rr), .second, .val (.long sc), .second, .val (.long ff), .second, vi (Int32.ofNat (own_len (r / 1000))), vi (Int32.ofNat ((own_len (r / 1000)) + 4))] [(.long (10 : Int64)), (.long ff), (.long (48 : Int64)), (.int (own_dc (r % 1000 / 10 % 10)))])
              refine Gz (XS.ldiv X17.here hx rfl (hb hby at_390) rfl (by decide)) ?_
              show Goes _ _ _ _ _ (fT T17 m 391 #[.val (.long x0), .second, vi x1, .val (.long (x0 &&& (9223372036854775807 : Int64))), .second, vi (x1 &&& 3), .val (.long (((x1 >>> ((2 : Int32) &&& 31)) &&& 1).toInt64)), .second, .val (.long mm), .second, vr u1, .val (.long rr), .second, .val (.long sc), .second, .val (.long ff), .second, vi (Int32.ofNat (own_len (r / 1000))), vi (Int32.ofNat ((own_len (r / 1000)) + 4))] [(.long (ff / (10 : Int64))), (.long (48 : Int64)), (.int (own_dc (r % 1000 / 10 % 10)))])
              refine Gs (fun _ tk => Jvm.Stand.ldc2J X17 hx hown (gz hZ hw 201 rfl) rfl (hb hby at_391) tk) ?_
              show Goes _ _ _ _ _ (fT T17 m 394 #[.val (.long x0), .second, vi x1, .val (.long (x0 &&& (9223372036854775807 : Int64))), .second, vi (x1 &&& 3), .val (.long (((x1 >>> ((2 : Int32) &&& 31)) &&& 1).toInt64)), .second, .val (.long mm), .second, vr u1, .val (.long rr), .second, .val (.long sc), .second, .val (.long ff), .second, vi (Int32.ofNat (own_len (r / 1000))), vi (Int32.ofNat ((own_len (r / 1000)) + 4))] [(.long (10 : Int64)), (.long (ff / (10 : Int64))), (.long (48 : Int64)), (.int (own_dc (r % 1000 / 10 % 10)))])
              refine Gz (XS.lrem X17.here hx rfl (hb hby at_394) rfl (by decide)) ?_
              rw [lrem_mod]
              show Goes _ _ _ _ _ (fT T17 m 395 #[.val (.long x0), .second, vi x1, .val (.long (x0 &&& (9223372036854775807 : Int64))), .second, vi (x1 &&& 3), .val (.long (((x1 >>> ((2 : Int32) &&& 31)) &&& 1).toInt64)), .second, .val (.long mm), .second, vr u1, .val (.long rr), .second, .val (.long sc), .second, .val (.long ff), .second, vi (Int32.ofNat (own_len (r / 1000))), vi (Int32.ofNat ((own_len (r / 1000)) + 4))] [(.long ((ff / (10 : Int64)) % (10 : Int64))), (.long (48 : Int64)), (.int (own_dc (r % 1000 / 10 % 10)))])
              refine Gz (XS.ladd X17.here hx rfl (hb hby at_395) rfl) ?_
              show Goes _ _ _ _ _ (fT T17 m 396 #[.val (.long x0), .second, vi x1, .val (.long (x0 &&& (9223372036854775807 : Int64))), .second, vi (x1 &&& 3), .val (.long (((x1 >>> ((2 : Int32) &&& 31)) &&& 1).toInt64)), .second, .val (.long mm), .second, vr u1, .val (.long rr), .second, .val (.long sc), .second, .val (.long ff), .second, vi (Int32.ofNat (own_len (r / 1000))), vi (Int32.ofNat ((own_len (r / 1000)) + 4))] [(.long ((48 : Int64) + ((ff / (10 : Int64)) % (10 : Int64)))), (.int (own_dc (r % 1000 / 10 % 10)))])
              refine Gz (XS.l2i X17.here hx rfl (hb hby at_396) rfl) ?_
              show Goes _ _ _ _ _ (fT T17 m 397 #[.val (.long x0), .second, vi x1, .val (.long (x0 &&& (9223372036854775807 : Int64))), .second, vi (x1 &&& 3), .val (.long (((x1 >>> ((2 : Int32) &&& 31)) &&& 1).toInt64)), .second, .val (.long mm), .second, vr u1, .val (.long rr), .second, .val (.long sc), .second, .val (.long ff), .second, vi (Int32.ofNat (own_len (r / 1000))), vi (Int32.ofNat ((own_len (r / 1000)) + 4))] [(.int (((48 : Int64) + ((ff / (10 : Int64)) % (10 : Int64))).toInt32)), (.int (own_dc (r % 1000 / 10 % 10)))])
              refine Gz (XS.i2c X17.here hx rfl (hb hby at_397) rfl) ?_
              show Goes _ _ _ _ _ (fT T17 m 398 #[.val (.long x0), .second, vi x1, .val (.long (x0 &&& (9223372036854775807 : Int64))), .second, vi (x1 &&& 3), .val (.long (((x1 >>> ((2 : Int32) &&& 31)) &&& 1).toInt64)), .second, .val (.long mm), .second, vr u1, .val (.long rr), .second, .val (.long sc), .second, .val (.long ff), .second, vi (Int32.ofNat (own_len (r / 1000))), vi (Int32.ofNat ((own_len (r / 1000)) + 4))] [(.int ((((48 : Int64) + ((ff / (10 : Int64)) % (10 : Int64))).toInt32).toUInt32.toUInt16.toUInt32.toInt32)), (.int (own_dc (r % 1000 / 10 % 10)))])
              refine gY X17 hx hby at_398 398 403 (teq (own_chr (own_lrP (own_ldP hff (show (10 : Int64).toInt = ((10 : Nat) : Int) from by decide) (by decide)) (show (10 : Int64).toInt = ((10 : Nat) : Int) from by decide)) (by omega)).symm).1 ?_
              refine Gz (XS.aload X17.here hx rfl (hb hby at_403) rfl rfl) ?_
              refine gI X17 hx hby at_405 rfl rfl ?_
              refine gC X17 hx hby at_407 ?_
              show Goes _ _ _ _ _ (fT T17 m 408 #[.val (.long x0), .second, vi x1, .val (.long (x0 &&& (9223372036854775807 : Int64))), .second, vi (x1 &&& 3), .val (.long (((x1 >>> ((2 : Int32) &&& 31)) &&& 1).toInt64)), .second, .val (.long mm), .second, vr u1, .val (.long rr), .second, .val (.long sc), .second, .val (.long ff), .second, vi (Int32.ofNat (own_len (r / 1000))), vi (Int32.ofNat ((own_len (r / 1000)) + 4))] [(.int 1), (.int (Int32.ofNat ((own_len (r / 1000)) + 4))), (.ref u1)])
              refine Gz (XS.isub X17.here hx rfl (hb hby at_408) rfl) ?_
              show Goes _ _ _ _ _ (fT T17 m 409 #[.val (.long x0), .second, vi x1, .val (.long (x0 &&& (9223372036854775807 : Int64))), .second, vi (x1 &&& 3), .val (.long (((x1 >>> ((2 : Int32) &&& 31)) &&& 1).toInt64)), .second, .val (.long mm), .second, vr u1, .val (.long rr), .second, .val (.long sc), .second, .val (.long ff), .second, vi (Int32.ofNat (own_len (r / 1000))), vi (Int32.ofNat ((own_len (r / 1000)) + 4))] [(.int ((Int32.ofNat ((own_len (r / 1000)) + 4)) - 1)), (.ref u1)])
              rw [own_ix (j := 1) (by decide) h13 (by decide) (by decide)]
              show Goes _ _ _ _ _ (fT T17 m 409 #[.val (.long x0), .second, vi x1, .val (.long (x0 &&& (9223372036854775807 : Int64))), .second, vi (x1 &&& 3), .val (.long (((x1 >>> ((2 : Int32) &&& 31)) &&& 1).toInt64)), .second, .val (.long mm), .second, vr u1, .val (.long rr), .second, .val (.long sc), .second, .val (.long ff), .second, vi (Int32.ofNat (own_len (r / 1000))), vi (Int32.ofNat ((own_len (r / 1000)) + 4))] [(.int (Int32.ofNat ((own_len (r / 1000)) + 3))), (.ref u1)])
              refine cV X17 hx hZ hw hown hby hml e17 mN6 213 214 216 215 217 25 0 (rs_chr l Z a0 hw [] u1 (own_tf r) (Int32.ofNat ((own_len (r / 1000)) + 3)) (own_dc (r % 1000 % 10)) cz fo T1.heap n0 Z0 T_u1 sgC hcz (own_tnO (by omega)).2.1 (own_ltO' (by rw [own_tfN]; omega) (by rw [own_tfN]; omega)) (by rw [(own_tnO (n := (own_len (r / 1000)) + 3) (by omega)).1, own_tfE (by decide)]; rfl) sgF r_fo) T_u1.exa at_409 (lenOf own_pd33 rfl) N17 (fun T18 L18 X18 e18 N18 => ?_)
              show Goes _ _ _ _ _ (fT T18 m 412 #[.val (.long x0), .second, vi x1, .val (.long (x0 &&& (9223372036854775807 : Int64))), .second, vi (x1 &&& 3), .val (.long (((x1 >>> ((2 : Int32) &&& 31)) &&& 1).toInt64)), .second, .val (.long mm), .second, vr u1, .val (.long rr), .second, .val (.long sc), .second, .val (.long ff), .second, vi (Int32.ofNat (own_len (r / 1000))), vi (Int32.ofNat ((own_len (r / 1000)) + 4))] [(.int (own_dc (r % 1000 % 10)))])
              refine Gs (fun _ tk => Jvm.Stand.ldc2J X18 hx hown (gz hZ hw 227 rfl) rfl (hb hby at_412) tk) ?_
              show Goes _ _ _ _ _ (fT T18 m 415 #[.val (.long x0), .second, vi x1, .val (.long (x0 &&& (9223372036854775807 : Int64))), .second, vi (x1 &&& 3), .val (.long (((x1 >>> ((2 : Int32) &&& 31)) &&& 1).toInt64)), .second, .val (.long mm), .second, vr u1, .val (.long rr), .second, .val (.long sc), .second, .val (.long ff), .second, vi (Int32.ofNat (own_len (r / 1000))), vi (Int32.ofNat ((own_len (r / 1000)) + 4))] [(.long (48 : Int64)), (.int (own_dc (r % 1000 % 10)))])
              refine Gz (XS.lload X18.here hx rfl (hb hby at_415) rfl) ?_
              refine Gs (fun _ tk => Jvm.Stand.ldc2J X18 hx hown (gz hZ hw 201 rfl) rfl (hb hby at_417) tk) ?_
              show Goes _ _ _ _ _ (fT T18 m 420 #[.val (.long x0), .second, vi x1, .val (.long (x0 &&& (9223372036854775807 : Int64))), .second, vi (x1 &&& 3), .val (.long (((x1 >>> ((2 : Int32) &&& 31)) &&& 1).toInt64)), .second, .val (.long mm), .second, vr u1, .val (.long rr), .second, .val (.long sc), .second, .val (.long ff), .second, vi (Int32.ofNat (own_len (r / 1000))), vi (Int32.ofNat ((own_len (r / 1000)) + 4))] [(.long (10 : Int64)), (.long ff), (.long (48 : Int64)), (.int (own_dc (r % 1000 % 10)))])
              refine Gz (XS.lrem X18.here hx rfl (hb hby at_420) rfl (by decide)) ?_
              rw [lrem_mod]
              show Goes _ _ _ _ _ (fT T18 m 421 #[.val (.long x0), .second, vi x1, .val (.long (x0 &&& (9223372036854775807 : Int64))), .second, vi (x1 &&& 3), .val (.long (((x1 >>> ((2 : Int32) &&& 31)) &&& 1).toInt64)), .second, .val (.long mm), .second, vr u1, .val (.long rr), .second, .val (.long sc), .second, .val (.long ff), .second, vi (Int32.ofNat (own_len (r / 1000))), vi (Int32.ofNat ((own_len (r / 1000)) + 4))] [(.long (ff % (10 : Int64))), (.long (48 : Int64)), (.int (own_dc (r % 1000 % 10)))])
              refine Gz (XS.ladd X18.here hx rfl (hb hby at_421) rfl) ?_
              show Goes _ _ _ _ _ (fT T18 m 422 #[.val (.long x0), .second, vi x1, .val (.long (x0 &&& (9223372036854775807 : Int64))), .second, vi (x1 &&& 3), .val (.long (((x1 >>> ((2 : Int32) &&& 31)) &&& 1).toInt64)), .second, .val (.long mm), .second, vr u1, .val (.long rr), .second, .val (.long sc), .second, .val (.long ff), .second, vi (Int32.ofNat (own_len (r / 1000))), vi (Int32.ofNat ((own_len (r / 1000)) + 4))] [(.long ((48 : Int64) + (ff % (10 : Int64)))), (.int (own_dc (r % 1000 % 10)))])
              refine Gz (XS.l2i X18.here hx rfl (hb hby at_422) rfl) ?_
              show Goes _ _ _ _ _ (fT T18 m 423 #[.val (.long x0), .second, vi x1, .val (.long (x0 &&& (9223372036854775807 : Int64))), .second, vi (x1 &&& 3), .val (.long (((x1 >>> ((2 : Int32) &&& 31)) &&& 1).toInt64)), .second, .val (.long mm), .second, vr u1, .val (.long rr), .second, .val (.long sc), .second, .val (.long ff), .second, vi (Int32.ofNat (own_len (r / 1000))), vi (Int32.ofNat ((own_len (r / 1000)) + 4))] [(.int (((48 : Int64) + (ff % (10 : Int64))).toInt32)), (.int (own_dc (r % 1000 % 10)))])
              refine Gz (XS.i2c X18.here hx rfl (hb hby at_423) rfl) ?_
              show Goes _ _ _ _ _ (fT T18 m 424 #[.val (.long x0), .second, vi x1, .val (.long (x0 &&& (9223372036854775807 : Int64))), .second, vi (x1 &&& 3), .val (.long (((x1 >>> ((2 : Int32) &&& 31)) &&& 1).toInt64)), .second, .val (.long mm), .second, vr u1, .val (.long rr), .second, .val (.long sc), .second, .val (.long ff), .second, vi (Int32.ofNat (own_len (r / 1000))), vi (Int32.ofNat ((own_len (r / 1000)) + 4))] [(.int ((((48 : Int64) + (ff % (10 : Int64))).toInt32).toUInt32.toUInt16.toUInt32.toInt32)), (.int (own_dc (r % 1000 % 10)))])
              refine gY X18 hx hby at_424 424 429 (teq (own_chr (own_lrP hff (show (10 : Int64).toInt = ((10 : Nat) : Int) from by decide)) (by omega)).symm).1 ?_
              refine Gz (XS.aload X18.here hx rfl (hb hby at_429) rfl rfl) ?_
              refine gI X18 hx hby at_431 rfl rfl ?_
              refine Gz (XS.lload X18.here hx rfl (hb hby at_433) rfl) ?_
              refine gC X18 hx hby at_435 ?_
              refine Gz (XS.lconst X18.here hx rfl (hb hby at_436)) ?_
              show Goes _ _ _ _ _ (fT T18 m 437 #[.val (.long x0), .second, vi x1, .val (.long (x0 &&& (9223372036854775807 : Int64))), .second, vi (x1 &&& 3), .val (.long (((x1 >>> ((2 : Int32) &&& 31)) &&& 1).toInt64)), .second, .val (.long mm), .second, vr u1, .val (.long rr), .second, .val (.long sc), .second, .val (.long ff), .second, vi (Int32.ofNat (own_len (r / 1000))), vi (Int32.ofNat ((own_len (r / 1000)) + 4))] [(.long (1 : Int64)), (.int 0), (.long sc), (.int (Int32.ofNat (own_len (r / 1000)))), (.ref u1)])
              refine cS X18 hx hZ hw hown hby hml e18 mN42 228 229 231 230 0 (rm_dig l Z a0 hw [] u1 r sc (0 : Int32) 0 (1 : Int64) 1 cz fo T1.heap n0 Z0 T_u1 hsc (by decide) (by decide) (by decide) sgC hcz sgF r_fo) at_437 (lenOf own_pd34 rfl) N18 (fun T19 L19 X19 e19 N19 => ?_)
              show Goes _ _ _ _ _ (fT T19 m 440 #[.val (.long x0), .second, vi x1, .val (.long (x0 &&& (9223372036854775807 : Int64))), .second, vi (x1 &&& 3), .val (.long (((x1 >>> ((2 : Int32) &&& 31)) &&& 1).toInt64)), .second, .val (.long mm), .second, vr u1, .val (.long rr), .second, .val (.long sc), .second, .val (.long ff), .second, vi (Int32.ofNat (own_len (r / 1000))), vi (Int32.ofNat ((own_len (r / 1000)) + 4))] [(.int 1)])
              refine gu X19 hx hby at_440 ((if0 _ _).trans (feq (by decide : ¬ ((1 : Int32) = (0 : Int32)))).1) ?_
              refine Gz (XS.aload X19.here hx rfl (hb hby at_443) rfl rfl) ?_
              refine gI X19 hx hby at_445 rfl rfl ?_
              refine Gz (XS.lload X19.here hx rfl (hb hby at_447) rfl) ?_
              refine gC X19 hx hby at_449 ?_
              refine Gs (fun _ tk => Jvm.Stand.ldc2J X19 hx hown (gz hZ hw 201 rfl) rfl (hb hby at_450) tk) ?_
              show Goes _ _ _ _ _ (fT T19 m 453 #[.val (.long x0), .second, vi x1, .val (.long (x0 &&& (9223372036854775807 : Int64))), .second, vi (x1 &&& 3), .val (.long (((x1 >>> ((2 : Int32) &&& 31)) &&& 1).toInt64)), .second, .val (.long mm), .second, vr u1, .val (.long rr), .second, .val (.long sc), .second, .val (.long ff), .second, vi (Int32.ofNat (own_len (r / 1000))), vi (Int32.ofNat ((own_len (r / 1000)) + 4))] [(.long (10 : Int64)), (.int 1), (.long sc), (.int (Int32.ofNat (own_len (r / 1000)))), (.ref u1)])
              refine cS X19 hx hZ hw hown hby hml e19 mN42 228 229 231 230 0 (rm_dig l Z a0 hw [] u1 r sc (1 : Int32) 1 (10 : Int64) 10 cz fo T1.heap n0 Z0 T_u1 hsc (by decide) (by decide) (by decide) sgC hcz sgF r_fo) at_453 (lenOf own_pd34 rfl) N19 (fun T20 L20 X20 e20 N20 => ?_)
              show Goes _ _ _ _ _ (fT T20 m 456 #[.val (.long x0), .second, vi x1, .val (.long (x0 &&& (9223372036854775807 : Int64))), .second, vi (x1 &&& 3), .val (.long (((x1 >>> ((2 : Int32) &&& 31)) &&& 1).toInt64)), .second, .val (.long mm), .second, vr u1, .val (.long rr), .second, .val (.long sc), .second, .val (.long ff), .second, vi (Int32.ofNat (own_len (r / 1000))), vi (Int32.ofNat ((own_len (r / 1000)) + 4))] [(.int 1)])
              refine gu X20 hx hby at_456 ((if0 _ _).trans (feq (by decide : ¬ ((1 : Int32) = (0 : Int32)))).1) ?_
              refine Gz (XS.aload X20.here hx rfl (hb hby at_459) rfl rfl) ?_
              refine gI X20 hx hby at_461 rfl rfl ?_
              refine Gz (XS.lload X20.here hx rfl (hb hby at_463) rfl) ?_
              refine gC X20 hx hby at_465 ?_
              refine Gs (fun _ tk => Jvm.Stand.ldc2J X20 hx hown (gz hZ hw 202 rfl) rfl (hb hby at_466) tk) ?_
              show Goes _ _ _ _ _ (fT T20 m 469 #[.val (.long x0), .second, vi x1, .val (.long (x0 &&& (9223372036854775807 : Int64))), .second, vi (x1 &&& 3), .val (.long (((x1 >>> ((2 : Int32) &&& 31)) &&& 1).toInt64)), .second, .val (.long mm), .second, vr u1, .val (.long rr), .second, .val (.long sc), .second, .val (.long ff), .second, vi (Int32.ofNat (own_len (r / 1000))), vi (Int32.ofNat ((own_len (r / 1000)) + 4))] [(.long (100 : Int64)), (.int 2), (.long sc), (.int (Int32.ofNat (own_len (r / 1000)))), (.ref u1)])
              refine cS X20 hx hZ hw hown hby hml e20 mN42 228 229 231 230 0 (rm_dig l Z a0 hw [] u1 r sc (2 : Int32) 2 (100 : Int64) 100 cz fo T1.heap n0 Z0 T_u1 hsc (by decide) (by decide) (by decide) sgC hcz sgF r_fo) at_469 (lenOf own_pd34 rfl) N20 (fun T21 L21 X21 e21 N21 => ?_)
              show Goes _ _ _ _ _ (fT T21 m 472 #[.val (.long x0), .second, vi x1, .val (.long (x0 &&& (9223372036854775807 : Int64))), .second, vi (x1 &&& 3), .val (.long (((x1 >>> ((2 : Int32) &&& 31)) &&& 1).toInt64)), .second, .val (.long mm), .second, vr u1, .val (.long rr), .second, .val (.long sc), .second, .val (.long ff), .second, vi (Int32.ofNat (own_len (r / 1000))), vi (Int32.ofNat ((own_len (r / 1000)) + 4))] [(.int 1)])
              refine gu X21 hx hby at_472 ((if0 _ _).trans (feq (by decide : ¬ ((1 : Int32) = (0 : Int32)))).1) ?_
              refine Gz (XS.aload X21.here hx rfl (hb hby at_475) rfl rfl) ?_
              refine gI X21 hx hby at_477 rfl rfl ?_
              refine Gz (XS.lload X21.here hx rfl (hb hby at_479) rfl) ?_
              refine gC X21 hx hby at_481 ?_
              refine Gs (fun _ tk => Jvm.Stand.ldc2J X21 hx hown (gz hZ hw 1 rfl) rfl (hb hby at_482) tk) ?_
              show Goes _ _ _ _ _ (fT T21 m 485 #[.val (.long x0), .second, vi x1, .val (.long (x0 &&& (9223372036854775807 : Int64))), .second, vi (x1 &&& 3), .val (.long (((x1 >>> ((2 : Int32) &&& 31)) &&& 1).toInt64)), .second, .val (.long mm), .second, vr u1, .val (.long rr), .second, .val (.long sc), .second, .val (.long ff), .second, vi (Int32.ofNat (own_len (r / 1000))), vi (Int32.ofNat ((own_len (r / 1000)) + 4))] [(.long (1000 : Int64)), (.int 3), (.long sc), (.int (Int32.ofNat (own_len (r / 1000)))), (.ref u1)])
              refine cS X21 hx hZ hw hown hby hml e21 mN42 228 229 231 230 0 (rm_dig l Z a0 hw [] u1 r sc (3 : Int32) 3 (1000 : Int64) 1000 cz fo T1.heap n0 Z0 T_u1 hsc (by decide) (by decide) (by decide) sgC hcz sgF r_fo) at_485 (lenOf own_pd34 rfl) N21 (fun T22 L22 X22 e22 N22 => ?_)
              show Goes _ _ _ _ _ (fT T22 m 488 #[.val (.long x0), .second, vi x1, .val (.long (x0 &&& (9223372036854775807 : Int64))), .second, vi (x1 &&& 3), .val (.long (((x1 >>> ((2 : Int32) &&& 31)) &&& 1).toInt64)), .second, .val (.long mm), .second, vr u1, .val (.long rr), .second, .val (.long sc), .second, .val (.long ff), .second, vi (Int32.ofNat (own_len (r / 1000))), vi (Int32.ofNat ((own_len (r / 1000)) + 4))] [(.int 1)])
              refine gu X22 hx hby at_488 ((if0 _ _).trans (feq (by decide : ¬ ((1 : Int32) = (0 : Int32)))).1) ?_
              refine Gz (XS.aload X22.here hx rfl (hb hby at_491) rfl rfl) ?_
              refine gI X22 hx hby at_493 rfl rfl ?_
              refine Gz (XS.lload X22.here hx rfl (hb hby at_495) rfl) ?_
              refine gC X22 hx hby at_497 ?_
              refine Gs (fun _ tk => Jvm.Stand.ldc2J X22 hx hown (gz hZ hw 203 rfl) rfl (hb hby at_498) tk) ?_
              show Goes _ _ _ _ _ (fT T22 m 501 #[.val (.long x0), .second, vi x1, .val (.long (x0 &&& (9223372036854775807 : Int64))), .second, vi (x1 &&& 3), .val (.long (((x1 >>> ((2 : Int32) &&& 31)) &&& 1).toInt64)), .second, .val (.long mm), .second, vr u1, .val (.long rr), .second, .val (.long sc), .second, .val (.long ff), .second, vi (Int32.ofNat (own_len (r / 1000))), vi (Int32.ofNat ((own_len (r / 1000)) + 4))] [(.long (10000 : Int64)), (.int 4), (.long sc), (.int (Int32.ofNat (own_len (r / 1000)))), (.ref u1)])
              refine cS X22 hx hZ hw hown hby hml e22 mN42 228 229 231 230 0 (rm_dig l Z a0 hw [] u1 r sc (4 : Int32) 4 (10000 : Int64) 10000 cz fo T1.heap n0 Z0 T_u1 hsc (by decide) (by decide) (by decide) sgC hcz sgF r_fo) at_501 (lenOf own_pd34 rfl) N22 (fun T23 L23 X23 e23 N23 => ?_)
              show Goes _ _ _ _ _ (fT T23 m 504 #[.val (.long x0), .second, vi x1, .val (.long (x0 &&& (9223372036854775807 : Int64))), .second, vi (x1 &&& 3), .val (.long (((x1 >>> ((2 : Int32) &&& 31)) &&& 1).toInt64)), .second, .val (.long mm), .second, vr u1, .val (.long rr), .second, .val (.long sc), .second, .val (.long ff), .second, vi (Int32.ofNat (own_len (r / 1000))), vi (Int32.ofNat ((own_len (r / 1000)) + 4))] [(.int 1)])
              refine gu X23 hx hby at_504 ((if0 _ _).trans (feq (by decide : ¬ ((1 : Int32) = (0 : Int32)))).1) ?_
              refine Gz (XS.aload X23.here hx rfl (hb hby at_507) rfl rfl) ?_
              refine gI X23 hx hby at_509 rfl rfl ?_
              refine Gz (XS.lload X23.here hx rfl (hb hby at_511) rfl) ?_
              refine gC X23 hx hby at_513 ?_
              refine Gs (fun _ tk => Jvm.Stand.ldc2J X23 hx hown (gz hZ hw 204 rfl) rfl (hb hby at_514) tk) ?_
              show Goes _ _ _ _ _ (fT T23 m 517 #[.val (.long x0), .second, vi x1, .val (.long (x0 &&& (9223372036854775807 : Int64))), .second, vi (x1 &&& 3), .val (.long (((x1 >>> ((2 : Int32) &&& 31)) &&& 1).toInt64)), .second, .val (.long mm), .second, vr u1, .val (.long rr), .second, .val (.long sc), .second, .val (.long ff), .second, vi (Int32.ofNat (own_len (r / 1000))), vi (Int32.ofNat ((own_len (r / 1000)) + 4))] [(.long (100000 : Int64)), (.int 5), (.long sc), (.int (Int32.ofNat (own_len (r / 1000)))), (.ref u1)])
              refine cS X23 hx hZ hw hown hby hml e23 mN42 228 229 231 230 0 (rm_dig l Z a0 hw [] u1 r sc (5 : Int32) 5 (100000 : Int64) 100000 cz fo T1.heap n0 Z0 T_u1 hsc (by decide) (by decide) (by decide) sgC hcz sgF r_fo) at_517 (lenOf own_pd34 rfl) N23 (fun T24 L24 X24 e24 N24 => ?_)
              show Goes _ _ _ _ _ (fT T24 m 520 #[.val (.long x0), .second, vi x1, .val (.long (x0 &&& (9223372036854775807 : Int64))), .second, vi (x1 &&& 3), .val (.long (((x1 >>> ((2 : Int32) &&& 31)) &&& 1).toInt64)), .second, .val (.long mm), .second, vr u1, .val (.long rr), .second, .val (.long sc), .second, .val (.long ff), .second, vi (Int32.ofNat (own_len (r / 1000))), vi (Int32.ofNat ((own_len (r / 1000)) + 4))] [(.int 1)])
              refine gu X24 hx hby at_520 ((if0 _ _).trans (feq (by decide : ¬ ((1 : Int32) = (0 : Int32)))).1) ?_
              refine Gz (XS.aload X24.here hx rfl (hb hby at_523) rfl rfl) ?_
              refine gI X24 hx hby at_525 rfl rfl ?_
              refine Gz (XS.lload X24.here hx rfl (hb hby at_527) rfl) ?_
              refine gB X24 hx hby at_529 ?_
              refine Gs (fun _ tk => Jvm.Stand.ldc2J X24 hx hown (gz hZ hw 205 rfl) rfl (hb hby at_531) tk) ?_
              show Goes _ _ _ _ _ (fT T24 m 534 #[.val (.long x0), .second, vi x1, .val (.long (x0 &&& (9223372036854775807 : Int64))), .second, vi (x1 &&& 3), .val (.long (((x1 >>> ((2 : Int32) &&& 31)) &&& 1).toInt64)), .second, .val (.long mm), .second, vr u1, .val (.long rr), .second, .val (.long sc), .second, .val (.long ff), .second, vi (Int32.ofNat (own_len (r / 1000))), vi (Int32.ofNat ((own_len (r / 1000)) + 4))] [(.long (1000000 : Int64)), (.int 6), (.long sc), (.int (Int32.ofNat (own_len (r / 1000)))), (.ref u1)])
              refine cS X24 hx hZ hw hown hby hml e24 mN42 228 229 231 230 0 (rm_dig l Z a0 hw [] u1 r sc (6 : Int32) 6 (1000000 : Int64) 1000000 cz fo T1.heap n0 Z0 T_u1 hsc (by decide) (by decide) (by decide) sgC hcz sgF r_fo) at_534 (lenOf own_pd34 rfl) N24 (fun T25 L25 X25 e25 N25 => ?_)
              show Goes _ _ _ _ _ (fT T25 m 537 #[.val (.long x0), .second, vi x1, .val (.long (x0 &&& (9223372036854775807 : Int64))), .second, vi (x1 &&& 3), .val (.long (((x1 >>> ((2 : Int32) &&& 31)) &&& 1).toInt64)), .second, .val (.long mm), .second, vr u1, .val (.long rr), .second, .val (.long sc), .second, .val (.long ff), .second, vi (Int32.ofNat (own_len (r / 1000))), vi (Int32.ofNat ((own_len (r / 1000)) + 4))] [(.int 1)])
              refine gu X25 hx hby at_537 ((if0 _ _).trans (feq (by decide : ¬ ((1 : Int32) = (0 : Int32)))).1) ?_
              refine Gz (XS.aload X25.here hx rfl (hb hby at_540) rfl rfl) ?_
              refine gI X25 hx hby at_542 rfl rfl ?_
              refine Gz (XS.lload X25.here hx rfl (hb hby at_544) rfl) ?_
              refine gB X25 hx hby at_546 ?_
              refine Gs (fun _ tk => Jvm.Stand.ldc2J X25 hx hown (gz hZ hw 206 rfl) rfl (hb hby at_548) tk) ?_
              show Goes _ _ _ _ _ (fT T25 m 551 #[.val (.long x0), .second, vi x1, .val (.long (x0 &&& (9223372036854775807 : Int64))), .second, vi (x1 &&& 3), .val (.long (((x1 >>> ((2 : Int32) &&& 31)) &&& 1).toInt64)), .second, .val (.long mm), .second, vr u1, .val (.long rr), .second, .val (.long sc), .second, .val (.long ff), .second, vi (Int32.ofNat (own_len (r / 1000))), vi (Int32.ofNat ((own_len (r / 1000)) + 4))] [(.long (10000000 : Int64)), (.int 7), (.long sc), (.int (Int32.ofNat (own_len (r / 1000)))), (.ref u1)])
              refine cS X25 hx hZ hw hown hby hml e25 mN42 228 229 231 230 0 (rm_dig l Z a0 hw [] u1 r sc (7 : Int32) 7 (10000000 : Int64) 10000000 cz fo T1.heap n0 Z0 T_u1 hsc (by decide) (by decide) (by decide) sgC hcz sgF r_fo) at_551 (lenOf own_pd34 rfl) N25 (fun T26 L26 X26 e26 N26 => ?_)
              show Goes _ _ _ _ _ (fT T26 m 554 #[.val (.long x0), .second, vi x1, .val (.long (x0 &&& (9223372036854775807 : Int64))), .second, vi (x1 &&& 3), .val (.long (((x1 >>> ((2 : Int32) &&& 31)) &&& 1).toInt64)), .second, .val (.long mm), .second, vr u1, .val (.long rr), .second, .val (.long sc), .second, .val (.long ff), .second, vi (Int32.ofNat (own_len (r / 1000))), vi (Int32.ofNat ((own_len (r / 1000)) + 4))] [(.int 1)])
              refine gu X26 hx hby at_554 ((if0 _ _).trans (feq (by decide : ¬ ((1 : Int32) = (0 : Int32)))).1) ?_
              refine Gz (XS.aload X26.here hx rfl (hb hby at_557) rfl rfl) ?_
              refine gI X26 hx hby at_559 rfl rfl ?_
              refine Gz (XS.lload X26.here hx rfl (hb hby at_561) rfl) ?_
              refine gB X26 hx hby at_563 ?_
              refine Gs (fun _ tk => Jvm.Stand.ldc2J X26 hx hown (gz hZ hw 207 rfl) rfl (hb hby at_565) tk) ?_
              show Goes _ _ _ _ _ (fT T26 m 568 #[.val (.long x0), .second, vi x1, .val (.long (x0 &&& (9223372036854775807 : Int64))), .second, vi (x1 &&& 3), .val (.long (((x1 >>> ((2 : Int32) &&& 31)) &&& 1).toInt64)), .second, .val (.long mm), .second, vr u1, .val (.long rr), .second, .val (.long sc), .second, .val (.long ff), .second, vi (Int32.ofNat (own_len (r / 1000))), vi (Int32.ofNat ((own_len (r / 1000)) + 4))] [(.long (100000000 : Int64)), (.int 8), (.long sc), (.int (Int32.ofNat (own_len (r / 1000)))), (.ref u1)])
              refine cS X26 hx hZ hw hown hby hml e26 mN42 228 229 231 230 0 (rm_dig l Z a0 hw [] u1 r sc (8 : Int32) 8 (100000000 : Int64) 100000000 cz fo T1.heap n0 Z0 T_u1 hsc (by decide) (by decide) (by decide) sgC hcz sgF r_fo) at_568 (lenOf own_pd34 rfl) N26 (fun T27 L27 X27 e27 N27 => ?_)
              show Goes _ _ _ _ _ (fT T27 m 571 #[.val (.long x0), .second, vi x1, .val (.long (x0 &&& (9223372036854775807 : Int64))), .second, vi (x1 &&& 3), .val (.long (((x1 >>> ((2 : Int32) &&& 31)) &&& 1).toInt64)), .second, .val (.long mm), .second, vr u1, .val (.long rr), .second, .val (.long sc), .second, .val (.long ff), .second, vi (Int32.ofNat (own_len (r / 1000))), vi (Int32.ofNat ((own_len (r / 1000)) + 4))] [(.int 1)])
              refine gu X27 hx hby at_571 ((if0 _ _).trans (feq (by decide : ¬ ((1 : Int32) = (0 : Int32)))).1) ?_
              refine Gz (XS.aload X27.here hx rfl (hb hby at_574) rfl rfl) ?_
              refine gI X27 hx hby at_576 rfl rfl ?_
              refine Gz (XS.lload X27.here hx rfl (hb hby at_578) rfl) ?_
              refine gB X27 hx hby at_580 ?_
              refine Gs (fun _ tk => Jvm.Stand.ldc2J X27 hx hown (gz hZ hw 208 rfl) rfl (hb hby at_582) tk) ?_
              show Goes _ _ _ _ _ (fT T27 m 585 #[.val (.long x0), .second, vi x1, .val (.long (x0 &&& (9223372036854775807 : Int64))), .second, vi (x1 &&& 3), .val (.long (((x1 >>> ((2 : Int32) &&& 31)) &&& 1).toInt64)), .second, .val (.long mm), .second, vr u1, .val (.long rr), .second, .val (.long sc), .second, .val (.long ff), .second, vi (Int32.ofNat (own_len (r / 1000))), vi (Int32.ofNat ((own_len (r / 1000)) + 4))] [(.long (1000000000 : Int64)), (.int 9), (.long sc), (.int (Int32.ofNat (own_len (r / 1000)))), (.ref u1)])
              refine cS X27 hx hZ hw hown hby hml e27 mN42 228 229 231 230 0 (rm_dig l Z a0 hw [] u1 r sc (9 : Int32) 9 (1000000000 : Int64) 1000000000 cz fo T1.heap n0 Z0 T_u1 hsc (by decide) (by decide) (by decide) sgC hcz sgF r_fo) at_585 (lenOf own_pd34 rfl) N27 (fun T28 L28 X28 e28 N28 => ?_)
              show Goes _ _ _ _ _ (fT T28 m 588 #[.val (.long x0), .second, vi x1, .val (.long (x0 &&& (9223372036854775807 : Int64))), .second, vi (x1 &&& 3), .val (.long (((x1 >>> ((2 : Int32) &&& 31)) &&& 1).toInt64)), .second, .val (.long mm), .second, vr u1, .val (.long rr), .second, .val (.long sc), .second, .val (.long ff), .second, vi (Int32.ofNat (own_len (r / 1000))), vi (Int32.ofNat ((own_len (r / 1000)) + 4))] [(.int 1)])
              refine gu X28 hx hby at_588 ((if0 _ _).trans (feq (by decide : ¬ ((1 : Int32) = (0 : Int32)))).1) ?_
              refine Gz (XS.aload X28.here hx rfl (hb hby at_591) rfl rfl) ?_
              refine gI X28 hx hby at_593 rfl rfl ?_
              refine Gz (XS.lload X28.here hx rfl (hb hby at_595) rfl) ?_
              refine gB X28 hx hby at_597 ?_
              refine Gs (fun _ tk => Jvm.Stand.ldc2J X28 hx hown (gz hZ hw 209 rfl) rfl (hb hby at_599) tk) ?_
              show Goes _ _ _ _ _ (fT T28 m 602 #[.val (.long x0), .second, vi x1, .val (.long (x0 &&& (9223372036854775807 : Int64))), .second, vi (x1 &&& 3), .val (.long (((x1 >>> ((2 : Int32) &&& 31)) &&& 1).toInt64)), .second, .val (.long mm), .second, vr u1, .val (.long rr), .second, .val (.long sc), .second, .val (.long ff), .second, vi (Int32.ofNat (own_len (r / 1000))), vi (Int32.ofNat ((own_len (r / 1000)) + 4))] [(.long (10000000000 : Int64)), (.int 10), (.long sc), (.int (Int32.ofNat (own_len (r / 1000)))), (.ref u1)])
              refine cS X28 hx hZ hw hown hby hml e28 mN42 228 229 231 230 0 (rm_dig l Z a0 hw [] u1 r sc (10 : Int32) 10 (10000000000 : Int64) 10000000000 cz fo T1.heap n0 Z0 T_u1 hsc (by decide) (by decide) (by decide) sgC hcz sgF r_fo) at_602 (lenOf own_pd34 rfl) N28 (fun T29 L29 X29 e29 N29 => ?_)
              show Goes _ _ _ _ _ (fT T29 m 605 #[.val (.long x0), .second, vi x1, .val (.long (x0 &&& (9223372036854775807 : Int64))), .second, vi (x1 &&& 3), .val (.long (((x1 >>> ((2 : Int32) &&& 31)) &&& 1).toInt64)), .second, .val (.long mm), .second, vr u1, .val (.long rr), .second, .val (.long sc), .second, .val (.long ff), .second, vi (Int32.ofNat (own_len (r / 1000))), vi (Int32.ofNat ((own_len (r / 1000)) + 4))] [(.int 1)])
              refine gu X29 hx hby at_605 ((if0 _ _).trans (feq (by decide : ¬ ((1 : Int32) = (0 : Int32)))).1) ?_
              refine Gz (XS.aload X29.here hx rfl (hb hby at_608) rfl rfl) ?_
              refine gI X29 hx hby at_610 rfl rfl ?_
              refine Gz (XS.lload X29.here hx rfl (hb hby at_612) rfl) ?_
              refine gB X29 hx hby at_614 ?_
              refine Gs (fun _ tk => Jvm.Stand.ldc2J X29 hx hown (gz hZ hw 210 rfl) rfl (hb hby at_616) tk) ?_
              show Goes _ _ _ _ _ (fT T29 m 619 #[.val (.long x0), .second, vi x1, .val (.long (x0 &&& (9223372036854775807 : Int64))), .second, vi (x1 &&& 3), .val (.long (((x1 >>> ((2 : Int32) &&& 31)) &&& 1).toInt64)), .second, .val (.long mm), .second, vr u1, .val (.long rr), .second, .val (.long sc), .second, .val (.long ff), .second, vi (Int32.ofNat (own_len (r / 1000))), vi (Int32.ofNat ((own_len (r / 1000)) + 4))] [(.long (100000000000 : Int64)), (.int 11), (.long sc), (.int (Int32.ofNat (own_len (r / 1000)))), (.ref u1)])
              refine cS X29 hx hZ hw hown hby hml e29 mN42 228 229 231 230 0 (rm_dig l Z a0 hw [] u1 r sc (11 : Int32) 11 (100000000000 : Int64) 100000000000 cz fo T1.heap n0 Z0 T_u1 hsc (by decide) (by decide) (by decide) sgC hcz sgF r_fo) at_619 (lenOf own_pd34 rfl) N29 (fun T30 L30 X30 e30 N30 => ?_)
              show Goes _ _ _ _ _ (fT T30 m 622 #[.val (.long x0), .second, vi x1, .val (.long (x0 &&& (9223372036854775807 : Int64))), .second, vi (x1 &&& 3), .val (.long (((x1 >>> ((2 : Int32) &&& 31)) &&& 1).toInt64)), .second, .val (.long mm), .second, vr u1, .val (.long rr), .second, .val (.long sc), .second, .val (.long ff), .second, vi (Int32.ofNat (own_len (r / 1000))), vi (Int32.ofNat ((own_len (r / 1000)) + 4))] [(.int 1)])
              refine gu X30 hx hby at_622 ((if0 _ _).trans (feq (by decide : ¬ ((1 : Int32) = (0 : Int32)))).1) ?_
              refine Gz (XS.aload X30.here hx rfl (hb hby at_625) rfl rfl) ?_
              refine gI X30 hx hby at_627 rfl rfl ?_
              refine Gz (XS.lload X30.here hx rfl (hb hby at_629) rfl) ?_
              refine gB X30 hx hby at_631 ?_
              refine Gs (fun _ tk => Jvm.Stand.ldc2J X30 hx hown (gz hZ hw 211 rfl) rfl (hb hby at_633) tk) ?_
              show Goes _ _ _ _ _ (fT T30 m 636 #[.val (.long x0), .second, vi x1, .val (.long (x0 &&& (9223372036854775807 : Int64))), .second, vi (x1 &&& 3), .val (.long (((x1 >>> ((2 : Int32) &&& 31)) &&& 1).toInt64)), .second, .val (.long mm), .second, vr u1, .val (.long rr), .second, .val (.long sc), .second, .val (.long ff), .second, vi (Int32.ofNat (own_len (r / 1000))), vi (Int32.ofNat ((own_len (r / 1000)) + 4))] [(.long (1000000000000 : Int64)), (.int 12), (.long sc), (.int (Int32.ofNat (own_len (r / 1000)))), (.ref u1)])
              refine cS X30 hx hZ hw hown hby hml e30 mN42 228 229 231 230 0 (rm_dig l Z a0 hw [] u1 r sc (12 : Int32) 12 (1000000000000 : Int64) 1000000000000 cz fo T1.heap n0 Z0 T_u1 hsc (by decide) (by decide) (by decide) sgC hcz sgF r_fo) at_636 (lenOf own_pd34 rfl) N30 (fun T31 L31 X31 e31 N31 => ?_)
              show Goes _ _ _ _ _ (fT T31 m 639 #[.val (.long x0), .second, vi x1, .val (.long (x0 &&& (9223372036854775807 : Int64))), .second, vi (x1 &&& 3), .val (.long (((x1 >>> ((2 : Int32) &&& 31)) &&& 1).toInt64)), .second, .val (.long mm), .second, vr u1, .val (.long rr), .second, .val (.long sc), .second, .val (.long ff), .second, vi (Int32.ofNat (own_len (r / 1000))), vi (Int32.ofNat ((own_len (r / 1000)) + 4))] [(.int 1)])
              refine gu X31 hx hby at_639 ((if0 _ _).trans (feq (by decide : ¬ ((1 : Int32) = (0 : Int32)))).1) ?_
              refine gC X31 hx hby at_642 ?_
              refine gG X31 hx hby at_643 643 647 ?_
              refine Goes.retH X31 hS e31 hk hZ (own_EW hw) hh hR (some (.int 1)) (fun h => by rw [hret] at h; cases h) hlk (by decide) (by decide) ?_ (fun fs hr => ?_)
              ·rw [e31]; exact ⟨rfl, N31⟩
              ·exact own_retN X31 hx (t := .boolean) hret (by simp) rfl (hb hby at_647) hr
             intro J310_13
             by_cases hc302_32 : (lcmpW sc (1000000000000 : Int64)) < 0
             ·refine gy X1 hx hby at_302 302 309 ((if0 _ _).trans (tlt hc302_32).1) ?_
              refine gC X1 hx hby at_309 ?_
              rw [show (own_b 1000000000000 (r / 1000)) = 0 from by rw [own_b, if_neg ((own_bC hsc (P := 1000000000000) (by decide)).mp hc302_32)]] at J310_13
              exact J310_13
             ·refine gu X1 hx hby at_302 ((if0 _ _).trans (flt hc302_32).1) ?_
              refine gC X1 hx hby at_305 ?_
              refine gG X1 hx hby at_306 306 310 ?_
              rw [show (own_b 1000000000000 (r / 1000)) = 1 from by rw [own_b, if_pos (Classical.not_not.mp fun q => hc302_32 ((own_bC hsc (P := 1000000000000) (by decide)).mpr q))]] at J310_13
              exact J310_13
            intro J295_12
            by_cases hc287_33 : (lcmpW sc (100000000000 : Int64)) < 0
            ·refine gy X1 hx hby at_287 287 294 ((if0 _ _).trans (tlt hc287_33).1) ?_
             refine gC X1 hx hby at_294 ?_
             rw [show (own_b 100000000000 (r / 1000)) = 0 from by rw [own_b, if_neg ((own_bC hsc (P := 100000000000) (by decide)).mp hc287_33)]] at J295_12
             exact J295_12
            ·refine gu X1 hx hby at_287 ((if0 _ _).trans (flt hc287_33).1) ?_
             refine gC X1 hx hby at_290 ?_
             refine gG X1 hx hby at_291 291 295 ?_
             rw [show (own_b 100000000000 (r / 1000)) = 1 from by rw [own_b, if_pos (Classical.not_not.mp fun q => hc287_33 ((own_bC hsc (P := 100000000000) (by decide)).mpr q))]] at J295_12
             exact J295_12
           intro J280_11
           by_cases hc272_34 : (lcmpW sc (10000000000 : Int64)) < 0
           ·refine gy X1 hx hby at_272 272 279 ((if0 _ _).trans (tlt hc272_34).1) ?_
            refine gC X1 hx hby at_279 ?_
            rw [show (own_b 10000000000 (r / 1000)) = 0 from by rw [own_b, if_neg ((own_bC hsc (P := 10000000000) (by decide)).mp hc272_34)]] at J280_11
            exact J280_11
           ·refine gu X1 hx hby at_272 ((if0 _ _).trans (flt hc272_34).1) ?_
            refine gC X1 hx hby at_275 ?_
            refine gG X1 hx hby at_276 276 280 ?_
            rw [show (own_b 10000000000 (r / 1000)) = 1 from by rw [own_b, if_pos (Classical.not_not.mp fun q => hc272_34 ((own_bC hsc (P := 10000000000) (by decide)).mpr q))]] at J280_11
            exact J280_11
          intro J265_10
          by_cases hc257_35 : (lcmpW sc (1000000000 : Int64)) < 0
          ·refine gy X1 hx hby at_257 257 264 ((if0 _ _).trans (tlt hc257_35).1) ?_
           refine gC X1 hx hby at_264 ?_
           rw [show (own_b 1000000000 (r / 1000)) = 0 from by rw [own_b, if_neg ((own_bC hsc (P := 1000000000) (by decide)).mp hc257_35)]] at J265_10
           exact J265_10
          ·refine gu X1 hx hby at_257 ((if0 _ _).trans (flt hc257_35).1) ?_
           refine gC X1 hx hby at_260 ?_
           refine gG X1 hx hby at_261 261 265 ?_
           rw [show (own_b 1000000000 (r / 1000)) = 1 from by rw [own_b, if_pos (Classical.not_not.mp fun q => hc257_35 ((own_bC hsc (P := 1000000000) (by decide)).mpr q))]] at J265_10
           exact J265_10
         intro J250_9
         by_cases hc242_36 : (lcmpW sc (100000000 : Int64)) < 0
         ·refine gy X1 hx hby at_242 242 249 ((if0 _ _).trans (tlt hc242_36).1) ?_
          refine gC X1 hx hby at_249 ?_
          rw [show (own_b 100000000 (r / 1000)) = 0 from by rw [own_b, if_neg ((own_bC hsc (P := 100000000) (by decide)).mp hc242_36)]] at J250_9
          exact J250_9
         ·refine gu X1 hx hby at_242 ((if0 _ _).trans (flt hc242_36).1) ?_
          refine gC X1 hx hby at_245 ?_
          refine gG X1 hx hby at_246 246 250 ?_
          rw [show (own_b 100000000 (r / 1000)) = 1 from by rw [own_b, if_pos (Classical.not_not.mp fun q => hc242_36 ((own_bC hsc (P := 100000000) (by decide)).mpr q))]] at J250_9
          exact J250_9
        intro J235_8
        by_cases hc227_37 : (lcmpW sc (10000000 : Int64)) < 0
        ·refine gy X1 hx hby at_227 227 234 ((if0 _ _).trans (tlt hc227_37).1) ?_
         refine gC X1 hx hby at_234 ?_
         rw [show (own_b 10000000 (r / 1000)) = 0 from by rw [own_b, if_neg ((own_bC hsc (P := 10000000) (by decide)).mp hc227_37)]] at J235_8
         exact J235_8
        ·refine gu X1 hx hby at_227 ((if0 _ _).trans (flt hc227_37).1) ?_
         refine gC X1 hx hby at_230 ?_
         refine gG X1 hx hby at_231 231 235 ?_
         rw [show (own_b 10000000 (r / 1000)) = 1 from by rw [own_b, if_pos (Classical.not_not.mp fun q => hc227_37 ((own_bC hsc (P := 10000000) (by decide)).mpr q))]] at J235_8
         exact J235_8
       intro J220_7
       by_cases hc212_38 : (lcmpW sc (1000000 : Int64)) < 0
       ·refine gy X1 hx hby at_212 212 219 ((if0 _ _).trans (tlt hc212_38).1) ?_
        refine gC X1 hx hby at_219 ?_
        rw [show (own_b 1000000 (r / 1000)) = 0 from by rw [own_b, if_neg ((own_bC hsc (P := 1000000) (by decide)).mp hc212_38)]] at J220_7
        exact J220_7
       ·refine gu X1 hx hby at_212 ((if0 _ _).trans (flt hc212_38).1) ?_
        refine gC X1 hx hby at_215 ?_
        refine gG X1 hx hby at_216 216 220 ?_
        rw [show (own_b 1000000 (r / 1000)) = 1 from by rw [own_b, if_pos (Classical.not_not.mp fun q => hc212_38 ((own_bC hsc (P := 1000000) (by decide)).mpr q))]] at J220_7
        exact J220_7
      intro J205_6
      by_cases hc197_39 : (lcmpW sc (100000 : Int64)) < 0
      ·refine gy X1 hx hby at_197 197 204 ((if0 _ _).trans (tlt hc197_39).1) ?_
       refine gC X1 hx hby at_204 ?_
       rw [show (own_b 100000 (r / 1000)) = 0 from by rw [own_b, if_neg ((own_bC hsc (P := 100000) (by decide)).mp hc197_39)]] at J205_6
       exact J205_6
      ·refine gu X1 hx hby at_197 ((if0 _ _).trans (flt hc197_39).1) ?_
       refine gC X1 hx hby at_200 ?_
       refine gG X1 hx hby at_201 201 205 ?_
       rw [show (own_b 100000 (r / 1000)) = 1 from by rw [own_b, if_pos (Classical.not_not.mp fun q => hc197_39 ((own_bC hsc (P := 100000) (by decide)).mpr q))]] at J205_6
       exact J205_6
     intro J190_5
     by_cases hc182_40 : (lcmpW sc (10000 : Int64)) < 0
     ·refine gy X1 hx hby at_182 182 189 ((if0 _ _).trans (tlt hc182_40).1) ?_
      refine gC X1 hx hby at_189 ?_
      rw [show (own_b 10000 (r / 1000)) = 0 from by rw [own_b, if_neg ((own_bC hsc (P := 10000) (by decide)).mp hc182_40)]] at J190_5
      exact J190_5
     ·refine gu X1 hx hby at_182 ((if0 _ _).trans (flt hc182_40).1) ?_
      refine gC X1 hx hby at_185 ?_
      refine gG X1 hx hby at_186 186 190 ?_
      rw [show (own_b 10000 (r / 1000)) = 1 from by rw [own_b, if_pos (Classical.not_not.mp fun q => hc182_40 ((own_bC hsc (P := 10000) (by decide)).mpr q))]] at J190_5
      exact J190_5
    intro J175_4
    by_cases hc167_41 : (lcmpW sc (1000 : Int64)) < 0
    ·refine gy X1 hx hby at_167 167 174 ((if0 _ _).trans (tlt hc167_41).1) ?_
     refine gC X1 hx hby at_174 ?_
     rw [show (own_b 1000 (r / 1000)) = 0 from by rw [own_b, if_neg ((own_bC hsc (P := 1000) (by decide)).mp hc167_41)]] at J175_4
     exact J175_4
    ·refine gu X1 hx hby at_167 ((if0 _ _).trans (flt hc167_41).1) ?_
     refine gC X1 hx hby at_170 ?_
     refine gG X1 hx hby at_171 171 175 ?_
     rw [show (own_b 1000 (r / 1000)) = 1 from by rw [own_b, if_pos (Classical.not_not.mp fun q => hc167_41 ((own_bC hsc (P := 1000) (by decide)).mpr q))]] at J175_4
     exact J175_4
   intro J160_3
   by_cases hc152_42 : (lcmpW sc (100 : Int64)) < 0
   ·refine gy X1 hx hby at_152 152 159 ((if0 _ _).trans (tlt hc152_42).1) ?_
    refine gC X1 hx hby at_159 ?_
    rw [show (own_b 100 (r / 1000)) = 0 from by rw [own_b, if_neg ((own_bC hsc (P := 100) (by decide)).mp hc152_42)]] at J160_3
    exact J160_3
   ·refine gu X1 hx hby at_152 ((if0 _ _).trans (flt hc152_42).1) ?_
    refine gC X1 hx hby at_155 ?_
    refine gG X1 hx hby at_156 156 160 ?_
    rw [show (own_b 100 (r / 1000)) = 1 from by rw [own_b, if_pos (Classical.not_not.mp fun q => hc152_42 ((own_bC hsc (P := 100) (by decide)).mpr q))]] at J160_3
    exact J160_3
  intro J145_2
  by_cases hc137_43 : (lcmpW sc (10 : Int64)) < 0
  ·refine gy X1 hx hby at_137 137 144 ((if0 _ _).trans (tlt hc137_43).1) ?_
   refine gC X1 hx hby at_144 ?_
   rw [show (own_b 10 (r / 1000)) = 0 from by rw [own_b, if_neg ((own_bC hsc (P := 10) (by decide)).mp hc137_43)]] at J145_2
   exact J145_2
  ·refine gu X1 hx hby at_137 ((if0 _ _).trans (flt hc137_43).1) ?_
   refine gC X1 hx hby at_140 ?_
   refine gG X1 hx hby at_141 141 145 ?_
   rw [show (own_b 10 (r / 1000)) = 1 from by rw [own_b, if_pos (Classical.not_not.mp fun q => hc137_43 ((own_bC hsc (P := 10) (by decide)).mpr q))]] at J145_2
   exact J145_2
 intro J91
 by_cases hc21_44 : (x1 &&& 3) = 0
 ·refine gu X0 hx hby at_21 ((if0 _ _).trans (teq hc21_44).2) ?_
  refine Gz (XS.lloadN X0.here hx rfl (hb hby at_24) rfl) ?_
  refine Gz (XS.lstore X0.here hx rfl (hb hby at_25) rfl (l' := #[.val (.long x0), .second, vi x1, .val (.long (x0 &&& (9223372036854775807 : Int64))), .second, vi (x1 &&& 3), .val (.long (((x1 >>> ((2 : Int32) &&& 31)) &&& 1).toInt64)), .second, .val (.long (x0 &&& (9223372036854775807 : Int64))), .second, vu, vu, vu, vu, vu, vu, vu, vu, vu]) rfl) ?_
  refine gG X0 hx hby at_27 27 91 ?_
  show Goes _ _ _ _ _ (fT s₁ m 91 #[.val (.long x0), .second, vi x1, .val (.long (x0 &&& (9223372036854775807 : Int64))), .second, vi (x1 &&& 3), .val (.long (((x1 >>> ((2 : Int32) &&& 31)) &&& 1).toInt64)), .second, .val (.long (x0 &&& (9223372036854775807 : Int64))), .second, vu, vu, vu, vu, vu, vu, vu, vu, vu] [])
  exact J91 _ (own_m0 _)
 ·refine gy X0 hx hby at_21 21 30 ((if0 _ _).trans (feq hc21_44).2) ?_
  refine gI X0 hx hby at_30 rfl rfl ?_
  refine gC X0 hx hby at_32 ?_
  by_cases hc33_45 : (x1 &&& 3) = 1
  ·refine gU X0 hx hby at_33 (teq hc33_45).2 ?_
   refine Gz (XS.lloadN X0.here hx rfl (hb hby at_36) rfl) ?_
   refine Gs (fun _ tk => Jvm.Stand.ldc2J X0 hx hown (gz hZ hw 251 rfl) rfl (hb hby at_37) tk) ?_
   show Goes _ _ _ _ _ (fT s₁ m 40 #[.val (.long x0), .second, vi x1, .val (.long (x0 &&& (9223372036854775807 : Int64))), .second, vi (x1 &&& 3), .val (.long (((x1 >>> ((2 : Int32) &&& 31)) &&& 1).toInt64)), .second, vu, vu, vu, vu, vu, vu, vu, vu, vu, vu, vu] [(.long (16777215 : Int64)), (.long x0)])
   refine Gz (XS.land X0.here hx rfl (hb hby at_40) rfl) ?_
   show Goes _ _ _ _ _ (fT s₁ m 41 #[.val (.long x0), .second, vi x1, .val (.long (x0 &&& (9223372036854775807 : Int64))), .second, vi (x1 &&& 3), .val (.long (((x1 >>> ((2 : Int32) &&& 31)) &&& 1).toInt64)), .second, vu, vu, vu, vu, vu, vu, vu, vu, vu, vu, vu] [(.long (x0 &&& (16777215 : Int64)))])
   refine Gz (XS.lstore X0.here hx rfl (hb hby at_41) rfl (l' := #[.val (.long x0), .second, vi x1, .val (.long (x0 &&& (9223372036854775807 : Int64))), .second, vi (x1 &&& 3), .val (.long (((x1 >>> ((2 : Int32) &&& 31)) &&& 1).toInt64)), .second, .val (.long (x0 &&& (16777215 : Int64))), .second, vu, vu, vu, vu, vu, vu, vu, vu, vu]) rfl) ?_
   refine gG X0 hx hby at_43 43 91 ?_
   show Goes _ _ _ _ _ (fT s₁ m 91 #[.val (.long x0), .second, vi x1, .val (.long (x0 &&& (9223372036854775807 : Int64))), .second, vi (x1 &&& 3), .val (.long (((x1 >>> ((2 : Int32) &&& 31)) &&& 1).toInt64)), .second, .val (.long (x0 &&& (16777215 : Int64))), .second, vu, vu, vu, vu, vu, vu, vu, vu, vu] [])
   exact J91 _ (own_m1 _)
  ·refine gY X0 hx hby at_33 33 46 (feq hc33_45).2 ?_
   refine gI X0 hx hby at_46 rfl rfl ?_
   refine gC X0 hx hby at_48 ?_
   show Goes _ _ _ _ _ (fT s₁ m 49 #[.val (.long x0), .second, vi x1, .val (.long (x0 &&& (9223372036854775807 : Int64))), .second, vi (x1 &&& 3), .val (.long (((x1 >>> ((2 : Int32) &&& 31)) &&& 1).toInt64)), .second, vu, vu, vu, vu, vu, vu, vu, vu, vu, vu, vu] [(.int 2), (.int (x1 &&& 3))])
   by_cases hc49_46 : (x1 &&& 3) = 2
   ·refine gU X0 hx hby at_49 (teq hc49_46).2 ?_
    refine Gz (XS.lloadN X0.here hx rfl (hb hby at_52) rfl) ?_
    refine Gs (fun _ tk => Jvm.Stand.ldc2J X0 hx hown (gz hZ hw 1 rfl) rfl (hb hby at_53) tk) ?_
    show Goes _ _ _ _ _ (fT s₁ m 56 #[.val (.long x0), .second, vi x1, .val (.long (x0 &&& (9223372036854775807 : Int64))), .second, vi (x1 &&& 3), .val (.long (((x1 >>> ((2 : Int32) &&& 31)) &&& 1).toInt64)), .second, vu, vu, vu, vu, vu, vu, vu, vu, vu, vu, vu] [(.long (1000 : Int64)), (.long (x0 &&& (9223372036854775807 : Int64)))])
    refine Gz (XS.ldiv X0.here hx rfl (hb hby at_56) rfl (by decide)) ?_
    show Goes _ _ _ _ _ (fT s₁ m 57 #[.val (.long x0), .second, vi x1, .val (.long (x0 &&& (9223372036854775807 : Int64))), .second, vi (x1 &&& 3), .val (.long (((x1 >>> ((2 : Int32) &&& 31)) &&& 1).toInt64)), .second, vu, vu, vu, vu, vu, vu, vu, vu, vu, vu, vu] [(.long ((x0 &&& (9223372036854775807 : Int64)) / (1000 : Int64)))])
    refine Gs (fun _ tk => Jvm.Stand.ldc2J X0 hx hown (gz hZ hw 1 rfl) rfl (hb hby at_57) tk) ?_
    show Goes _ _ _ _ _ (fT s₁ m 60 #[.val (.long x0), .second, vi x1, .val (.long (x0 &&& (9223372036854775807 : Int64))), .second, vi (x1 &&& 3), .val (.long (((x1 >>> ((2 : Int32) &&& 31)) &&& 1).toInt64)), .second, vu, vu, vu, vu, vu, vu, vu, vu, vu, vu, vu] [(.long (1000 : Int64)), (.long ((x0 &&& (9223372036854775807 : Int64)) / (1000 : Int64)))])
    refine Gz (XS.lmul X0.here hx rfl (hb hby at_60) rfl) ?_
    show Goes _ _ _ _ _ (fT s₁ m 61 #[.val (.long x0), .second, vi x1, .val (.long (x0 &&& (9223372036854775807 : Int64))), .second, vi (x1 &&& 3), .val (.long (((x1 >>> ((2 : Int32) &&& 31)) &&& 1).toInt64)), .second, vu, vu, vu, vu, vu, vu, vu, vu, vu, vu, vu] [(.long (((x0 &&& (9223372036854775807 : Int64)) / (1000 : Int64)) * (1000 : Int64)))])
    refine Gs (fun _ tk => Jvm.Stand.ldc2J X0 hx hown (gz hZ hw 2 rfl) rfl (hb hby at_61) tk) ?_
    show Goes _ _ _ _ _ (fT s₁ m 64 #[.val (.long x0), .second, vi x1, .val (.long (x0 &&& (9223372036854775807 : Int64))), .second, vi (x1 &&& 3), .val (.long (((x1 >>> ((2 : Int32) &&& 31)) &&& 1).toInt64)), .second, vu, vu, vu, vu, vu, vu, vu, vu, vu, vu, vu] [(.long (499 : Int64)), (.long (((x0 &&& (9223372036854775807 : Int64)) / (1000 : Int64)) * (1000 : Int64)))])
    refine Gz (XS.ladd X0.here hx rfl (hb hby at_64) rfl) ?_
    show Goes _ _ _ _ _ (fT s₁ m 65 #[.val (.long x0), .second, vi x1, .val (.long (x0 &&& (9223372036854775807 : Int64))), .second, vi (x1 &&& 3), .val (.long (((x1 >>> ((2 : Int32) &&& 31)) &&& 1).toInt64)), .second, vu, vu, vu, vu, vu, vu, vu, vu, vu, vu, vu] [(.long ((((x0 &&& (9223372036854775807 : Int64)) / (1000 : Int64)) * (1000 : Int64)) + (499 : Int64)))])
    refine Gz (XS.lload X0.here hx rfl (hb hby at_65) rfl) ?_
    show Goes _ _ _ _ _ (fT s₁ m 67 #[.val (.long x0), .second, vi x1, .val (.long (x0 &&& (9223372036854775807 : Int64))), .second, vi (x1 &&& 3), .val (.long (((x1 >>> ((2 : Int32) &&& 31)) &&& 1).toInt64)), .second, vu, vu, vu, vu, vu, vu, vu, vu, vu, vu, vu] [(.long (((x1 >>> ((2 : Int32) &&& 31)) &&& 1).toInt64)), (.long ((((x0 &&& (9223372036854775807 : Int64)) / (1000 : Int64)) * (1000 : Int64)) + (499 : Int64)))])
    refine Gz (XS.ladd X0.here hx rfl (hb hby at_67) rfl) ?_
    show Goes _ _ _ _ _ (fT s₁ m 68 #[.val (.long x0), .second, vi x1, .val (.long (x0 &&& (9223372036854775807 : Int64))), .second, vi (x1 &&& 3), .val (.long (((x1 >>> ((2 : Int32) &&& 31)) &&& 1).toInt64)), .second, vu, vu, vu, vu, vu, vu, vu, vu, vu, vu, vu] [(.long (((((x0 &&& (9223372036854775807 : Int64)) / (1000 : Int64)) * (1000 : Int64)) + (499 : Int64)) + (((x1 >>> ((2 : Int32) &&& 31)) &&& 1).toInt64)))])
    refine Gz (XS.lstore X0.here hx rfl (hb hby at_68) rfl (l' := #[.val (.long x0), .second, vi x1, .val (.long (x0 &&& (9223372036854775807 : Int64))), .second, vi (x1 &&& 3), .val (.long (((x1 >>> ((2 : Int32) &&& 31)) &&& 1).toInt64)), .second, .val (.long (((((x0 &&& (9223372036854775807 : Int64)) / (1000 : Int64)) * (1000 : Int64)) + (499 : Int64)) + (((x1 >>> ((2 : Int32) &&& 31)) &&& 1).toInt64))), .second, vu, vu, vu, vu, vu, vu, vu, vu, vu]) rfl) ?_
    refine gG X0 hx hby at_70 70 91 ?_
    show Goes _ _ _ _ _ (fT s₁ m 91 #[.val (.long x0), .second, vi x1, .val (.long (x0 &&& (9223372036854775807 : Int64))), .second, vi (x1 &&& 3), .val (.long (((x1 >>> ((2 : Int32) &&& 31)) &&& 1).toInt64)), .second, .val (.long (((((x0 &&& (9223372036854775807 : Int64)) / (1000 : Int64)) * (1000 : Int64)) + (499 : Int64)) + (((x1 >>> ((2 : Int32) &&& 31)) &&& 1).toInt64))), .second, vu, vu, vu, vu, vu, vu, vu, vu, vu] [])
    exact J91 _ (own_m2 _ _)
   ·refine gY X0 hx hby at_49 49 73 (feq hc49_46).2 ?_
    refine Gz (XS.lloadN X0.here hx rfl (hb hby at_73) rfl) ?_
    refine Gs (fun _ tk => Jvm.Stand.ldc2J X0 hx hown (gz hZ hw 250 rfl) rfl (hb hby at_74) tk) ?_
    show Goes _ _ _ _ _ (fT s₁ m 77 #[.val (.long x0), .second, vi x1, .val (.long (x0 &&& (9223372036854775807 : Int64))), .second, vi (x1 &&& 3), .val (.long (((x1 >>> ((2 : Int32) &&& 31)) &&& 1).toInt64)), .second, vu, vu, vu, vu, vu, vu, vu, vu, vu, vu, vu] [(.long (65535 : Int64)), (.long x0)])
    refine Gz (XS.land X0.here hx rfl (hb hby at_77) rfl) ?_
    show Goes _ _ _ _ _ (fT s₁ m 78 #[.val (.long x0), .second, vi x1, .val (.long (x0 &&& (9223372036854775807 : Int64))), .second, vi (x1 &&& 3), .val (.long (((x1 >>> ((2 : Int32) &&& 31)) &&& 1).toInt64)), .second, vu, vu, vu, vu, vu, vu, vu, vu, vu, vu, vu] [(.long (x0 &&& (65535 : Int64)))])
    refine Gs (fun _ tk => Jvm.Stand.ldc2J X0 hx hown (gz hZ hw 1 rfl) rfl (hb hby at_78) tk) ?_
    show Goes _ _ _ _ _ (fT s₁ m 81 #[.val (.long x0), .second, vi x1, .val (.long (x0 &&& (9223372036854775807 : Int64))), .second, vi (x1 &&& 3), .val (.long (((x1 >>> ((2 : Int32) &&& 31)) &&& 1).toInt64)), .second, vu, vu, vu, vu, vu, vu, vu, vu, vu, vu, vu] [(.long (1000 : Int64)), (.long (x0 &&& (65535 : Int64)))])
    refine Gz (XS.lmul X0.here hx rfl (hb hby at_81) rfl) ?_
    show Goes _ _ _ _ _ (fT s₁ m 82 #[.val (.long x0), .second, vi x1, .val (.long (x0 &&& (9223372036854775807 : Int64))), .second, vi (x1 &&& 3), .val (.long (((x1 >>> ((2 : Int32) &&& 31)) &&& 1).toInt64)), .second, vu, vu, vu, vu, vu, vu, vu, vu, vu, vu, vu] [(.long ((x0 &&& (65535 : Int64)) * (1000 : Int64)))])
    refine Gs (fun _ tk => Jvm.Stand.ldc2J X0 hx hown (gz hZ hw 2 rfl) rfl (hb hby at_82) tk) ?_
    show Goes _ _ _ _ _ (fT s₁ m 85 #[.val (.long x0), .second, vi x1, .val (.long (x0 &&& (9223372036854775807 : Int64))), .second, vi (x1 &&& 3), .val (.long (((x1 >>> ((2 : Int32) &&& 31)) &&& 1).toInt64)), .second, vu, vu, vu, vu, vu, vu, vu, vu, vu, vu, vu] [(.long (499 : Int64)), (.long ((x0 &&& (65535 : Int64)) * (1000 : Int64)))])
    refine Gz (XS.ladd X0.here hx rfl (hb hby at_85) rfl) ?_
    show Goes _ _ _ _ _ (fT s₁ m 86 #[.val (.long x0), .second, vi x1, .val (.long (x0 &&& (9223372036854775807 : Int64))), .second, vi (x1 &&& 3), .val (.long (((x1 >>> ((2 : Int32) &&& 31)) &&& 1).toInt64)), .second, vu, vu, vu, vu, vu, vu, vu, vu, vu, vu, vu] [(.long (((x0 &&& (65535 : Int64)) * (1000 : Int64)) + (499 : Int64)))])
    refine Gz (XS.lload X0.here hx rfl (hb hby at_86) rfl) ?_
    show Goes _ _ _ _ _ (fT s₁ m 88 #[.val (.long x0), .second, vi x1, .val (.long (x0 &&& (9223372036854775807 : Int64))), .second, vi (x1 &&& 3), .val (.long (((x1 >>> ((2 : Int32) &&& 31)) &&& 1).toInt64)), .second, vu, vu, vu, vu, vu, vu, vu, vu, vu, vu, vu] [(.long (((x1 >>> ((2 : Int32) &&& 31)) &&& 1).toInt64)), (.long (((x0 &&& (65535 : Int64)) * (1000 : Int64)) + (499 : Int64)))])
    refine Gz (XS.ladd X0.here hx rfl (hb hby at_88) rfl) ?_
    show Goes _ _ _ _ _ (fT s₁ m 89 #[.val (.long x0), .second, vi x1, .val (.long (x0 &&& (9223372036854775807 : Int64))), .second, vi (x1 &&& 3), .val (.long (((x1 >>> ((2 : Int32) &&& 31)) &&& 1).toInt64)), .second, vu, vu, vu, vu, vu, vu, vu, vu, vu, vu, vu] [(.long ((((x0 &&& (65535 : Int64)) * (1000 : Int64)) + (499 : Int64)) + (((x1 >>> ((2 : Int32) &&& 31)) &&& 1).toInt64)))])
    refine Gz (XS.lstore X0.here hx rfl (hb hby at_89) rfl (l' := #[.val (.long x0), .second, vi x1, .val (.long (x0 &&& (9223372036854775807 : Int64))), .second, vi (x1 &&& 3), .val (.long (((x1 >>> ((2 : Int32) &&& 31)) &&& 1).toInt64)), .second, .val (.long ((((x0 &&& (65535 : Int64)) * (1000 : Int64)) + (499 : Int64)) + (((x1 >>> ((2 : Int32) &&& 31)) &&& 1).toInt64))), .second, vu, vu, vu, vu, vu, vu, vu, vu, vu]) rfl) ?_
    show Goes _ _ _ _ _ (fT s₁ m 91 #[.val (.long x0), .second, vi x1, .val (.long (x0 &&& (9223372036854775807 : Int64))), .second, vi (x1 &&& 3), .val (.long (((x1 >>> ((2 : Int32) &&& 31)) &&& 1).toInt64)), .second, .val (.long ((((x0 &&& (65535 : Int64)) * (1000 : Int64)) + (499 : Int64)) + (((x1 >>> ((2 : Int32) &&& 31)) &&& 1).toInt64))), .second, vu, vu, vu, vu, vu, vu, vu, vu, vu] [])
    exact J91 _ (own_m3 _ _)
theorem comes_1 {Post : Tables → Env → Array Value → State → Outcome → State → Prop} (hpost : ∀ tb e args s v u, (limb_1_1.after args s (.returned v) u = true ∧ limb_1_2.after args s (.returned v) u = true ∧ True) → ReturnedEndW s (.returned v) u (Jvm.fieldLocs frame_1_writes args s ++ Jvm.arrayLocs frame_1_arrays args s ++ Jvm.staticLocs frame_1_statics s) 32 1280 → Post tb e args s (.returned v) u) :
  ArmFor flags0 classFile x code maxLocals ret World_1 tables_1 room_1 Calls_1 rest_1 Pre_1 Post := by
 intro l hfl _ _ p e ha hc hk s m args below hf hA hF happ hP
 obtain ⟨hcalls, hrest, hpre⟩ := hP
 obtain ⟨-, -, -, hnamed, -, -, -, hat⟩ := (Spec.applies_iff hf).mp happ
 obtain ⟨hg, hn⟩ := and_e (Cond.before_iff.mp (show (Jvm.Cond.and given_1 narrow_1).before args s = true from hpre))
 obtain ⟨g0, hg0⟩ := and_e hg
 obtain ⟨ga0, hg0'⟩ := and_e hg0
 obtain ⟨w0, w1, rfl⟩ : ∃ w0 w1 : Value, args = #[w0, w1] := by
  have hs : args.size = 2 := by simpa [Cond.value, given_1] using g0
  obtain ⟨L⟩ := args
  match L, hs with
  | [w0, w1], _ => exact ⟨w0, w1, rfl⟩
 have hw := fun d (hd : d ∈ tables_1) => atoms_spec (ws := Jvm.Cond.code x code maxLocals ret :: tables_1) hat d (List.mem_cons_of_mem _ hd)
 have hfit : Fit s := fun {y c} hc i hi => by
  obtain ⟨ha, rfl⟩ := Array.getElem?_eq_some_iff.mp hc
  have q := List.all_eq_true.mp ((Array.all_eq_true_iff_forall_mem.mp hF) _ (Array.getElem_mem ha)) i (List.mem_range.mpr hi)
  simpa [Array.getElem?_eq_getElem hi] using q
 obtain ⟨hsets, hown0⟩ := atoms_of _ (rest_1_c_eq ▸ (show rest_1_c.before _ s = true from hrest))
 have hr0 := Cond.before_iff.mp hown0
 obtain ⟨i0, ei0⟩ := isL_v ga0
 obtain rfl : w0 = (.long i0) := Option.some.inj ei0
 obtain ⟨i1, ei1⟩ := is_v hg0'
 obtain rfl : w1 = (.int i1) := Option.some.inj ei1
 obtain ⟨cz, evc⟩ := is_v (Cond.before_iff.mp (hsets _ (List.mem_of_getElem? (i := 1) rfl)))
 have S_c := Sta.start evc (Or.inl (hsets _ (List.mem_of_getElem? (i := 0) rfl)))
 have hcz : ¬ (cz = 0) := gotF (Cond.eq_ints evc rfl) (not_v (Cond.before_iff.mp (hsets _ (List.mem_of_getElem? (i := 2) rfl))))
 obtain ⟨fo, evf, r_fo⟩ := isR_v (Cond.before_iff.mp (hsets _ (List.mem_of_getElem? (i := 8) rfl)))
 have S_f := Sta.start evf (Or.inl (hsets _ (List.mem_of_getElem? (i := 7) rfl)))
 obtain ⟨d1, k1, S_t1, V_t1⟩ := own_table (f := fun r => own_dc (r % 10)) hfit (hsets _ (List.mem_of_getElem? (i := 11) rfl)) (hsets _ (List.mem_of_getElem? (i := 12) rfl)) (hsets _ (List.mem_of_getElem? (i := 13) rfl)) (hsets _ (List.mem_of_getElem? (i := 14) rfl)) (fun i h => own_W1 i h) (gw hw 26 rfl)
 obtain ⟨d2, k2, S_t2, V_t2⟩ := own_table (f := fun r => own_dc (r / 10)) hfit (hsets _ (List.mem_of_getElem? (i := 16) rfl)) (hsets _ (List.mem_of_getElem? (i := 17) rfl)) (hsets _ (List.mem_of_getElem? (i := 18) rfl)) (hsets _ (List.mem_of_getElem? (i := 19) rfl)) (fun i h => own_W2 i h) (gw hw 26 rfl)
 have hCH : CHv s consts_1 s.vm s.heap := CHv.start (own_EW hw) hcalls.1 (hsets _ (List.mem_of_getElem? (i := 2) rfl)) (gw hw 26 rfl) (gw hw 65 rfl)
 obtain ⟨n, o, h1, h2, h3, _, L, rfl, ⟨rfl, N⟩, hq⟩ := rm_law l s _ hw tables_1 i0 i1 d1 k1 d2 k2 cz fo s.heap s.heap.size (Nat.le_refl _) S_t1 S_t2 V_t1 V_t2 S_c hcz S_f r_fo p e ha hc hk s m _ below hf ((Spec.applies_iff_loose hf).mp happ).1 ⟨rfl, State.Warmed39.refl s, rfl, hCH⟩ trivial
 refine ⟨n, _, h1, h2, h3, hpost _ _ _ _ _ _ ⟨Cond.after_iff.mpr rfl, Cond.after_iff.mpr (eq_i res_at (Term.int_eval (1)) rfl), trivial⟩ ⟨hq.2.1, hq.2.2.1, hq.2.2.2.1, (hq.2.2.2.2.sift fun y hy => Or.inr (N y hy)).mono (by decide) (by decide)⟩⟩
theorem main_1_1 : Claimed_1_1 := comes_1 fun _ _ _ _ _ _ h hF => ⟨h.1, hF⟩
theorem main_1_2 : Claimed_1_2 := comes_1 fun _ _ _ _ _ _ h hF => ⟨h.2.1, hF⟩
end Jvm.Pilot.@@N@@
namespace Jvm.Pilot.@@N@@
open Jvm Jvm.ClassFile Sem Op Lib Jvm.Free Jvm.Stand Jvm.Pilot.@@N@@.Jvm.D
/-! MADE BY PROGRAM (witnessworld.py) out of the Statement's table words and the real class files: 26 classes; the members and pool entries that the words name. The judged class is class 1, her method 2. -/
namespace start1
open Jvm.ClassFile
def u (s : String) : CpInfo := .utf8 (stringToUtf16 s)
/-- a pool by its gaps: so many unusable entries, then the entry; so many at the end -/
def gap : Nat → List CpInfo → List CpInfo
  | 0, r => r
  | n + 1, r => .unusable :: gap n r
def poolList (es : List (Nat × CpInfo)) (last : Nat) : List CpInfo := es.foldr (fun e r => gap e.1 (e.2 :: r)) (gap last [])
def pool (es : List (Nat × CpInfo)) (last : Nat) : Array CpInfo := ⟨poolList es last⟩
def fileOf (pool : Array CpInfo) (this : Nat) (attrs : Array Attribute := #[]) (ms : Array MethodInfo := #[]) (fl : Nat := 33) (sup : Nat := 0) (ifs : Array Nat := #[]) (fds : Array FieldInfo := #[]) : ClassFile where
  minorVersion := 0
  majorVersion := 65
  constantPool := pool
  accessFlags := fl
  thisClass := this
  superClass := sup
  interfaces := ifs
  fields := fds
  methods := ms
  attributes := attrs
def plain (name : String) (sup : Option ClassId) : Class where
  name := name
  kind := .ordinary
  loader := none
  accessFlags := 33
  super := sup
  interfaces := #[]
  cf := none
  fields := #[]
  methods := #[]
  instanceTypes := #[]
  staticTypes := #[]
  resolved := #[]
  callSites := []
  init := .initialized
  statics := none
  mirror := none

def pool0 : Array CpInfo := pool [(5, u "<init>"), (0, u "()V"), (1, .class_ 10), (1, u "java/lang/Object"), (85, u "clone"), (0, u "()Ljava/lang/Object;")] 26

def k0c0 : Code := { maxStack := 0, maxLocals := 1, code := object_method_1_code, exceptionTable := #[], attributes := #[] }
def k0m0 : Method := { name := "<init>", desc := "()V", sig := { parameters := [], returnType := none }, accessFlags := 1, code := some k0c0 }
def k0m1 : Method := { name := "clone", desc := "()Ljava/lang/Object;", sig := { parameters := [], returnType := some (.object "java/lang/Object") }, accessFlags := 260, code := none }
/-- java/lang/Object -/
def k0 : Class := { plain "java/lang/Object" none with
  accessFlags := 33
  interfaces := #[]
  cf := some (fileOf pool0 8 #[] #[{ accessFlags := 1, nameIndex := 5, descriptorIndex := 6, attributes := #[] }, { accessFlags := 260, nameIndex := 96, descriptorIndex := 97, attributes := #[] }] 33 0 #[] #[])
  fields := #[]
  methods := #[k0m0, k0m1]
  instanceTypes := #[]
  staticTypes := #[]
  resolved := Array.replicate 124 none
  statics := none }

def pool1 : Array CpInfo := pool [(2, .class_ 4), (1, u "java/lang/Object"), (0, u "<init>"), (0, u "()V"), (0, .methodref 8 9), (0, .class_ 10), (0, .nameAndType 11 12), (0, u "java/lang/String"), (0, u "charAt"), (0, u "(I)C"), (0, .long 48), (1, .long 10), (3, .long 9223372036854775807), (1, .long 16777215), (1, .long 1000), (1, .long 499), (1, .long 65535), (1, .methodref 30 31), (0, .class_ 32), (0, .nameAndType 33 34), (0, u "org/stripeward/scenario/Time"), (0, u "format"), (0, u "(J)Ljava/lang/String;"), (0, .long 2), (1, .long 250), (1, .long 500), (1, .long 100), (1, .long 10000), (1, .long 100000), (1, .long 1000000), (1, .long 10000000), (1, .long 100000000), (1, .long 1000000000), (1, .long 10000000000), (1, .long 100000000000), (1, .long 1000000000000), (1, .methodref 8 62), (0, .nameAndType 63 64), (0, u "length"), (0, u "()I"), (0, .methodref 66 67), (0, .class_ 68), (0, .nameAndType 69 70), (0, u "org/stripeward/scenario/TimeFormatPinLaw"), (0, u "dig"), (0, u "(Ljava/lang/String;IJIJ)Z"), (3, u "law"), (0, u "(JI)Z")] 2

def k1m0 : Method := { name := "<init>", desc := "()V", sig := { parameters := [], returnType := none }, accessFlags := 1, code := none }
def k1c1 : Code := { maxStack := 7, maxLocals := 7, code := method_2_code, exceptionTable := #[], attributes := #[] }
def k1m1 : Method := { name := "dig", desc := "(Ljava/lang/String;IJIJ)Z", sig := { parameters := [(.object "java/lang/String"), .int, .long, .int, .long], returnType := some .boolean }, accessFlags := 10, code := some k1c1 }
def k1c2 : Code := { maxStack := 7, maxLocals := 19, code := code, exceptionTable := #[], attributes := #[] }
def k1m2 : Method := { name := "law", desc := "(JI)Z", sig := { parameters := [.long, .int], returnType := some .boolean }, accessFlags := 9, code := some k1c2 }
/-- org/stripeward/scenario/TimeFormatPinLaw -/
def k1 : Class := { plain "org/stripeward/scenario/TimeFormatPinLaw" (some 0) with
  accessFlags := 49
  interfaces := #[]
  cf := some (fileOf pool1 66 #[] #[{ accessFlags := 1, nameIndex := 5, descriptorIndex := 6, attributes := #[] }, { accessFlags := 10, nameIndex := 69, descriptorIndex := 70, attributes := #[] }, { accessFlags := 9, nameIndex := 74, descriptorIndex := 75, attributes := #[] }] 49 2 #[] #[])
  fields := #[]
  methods := #[k1m0, k1m1, k1m2]
  instanceTypes := #[]
  staticTypes := #[]
  resolved := Array.replicate 78 none
  statics := none }

def pool2 : Array CpInfo := pool [(1, .class_ 2), (0, u "java/lang/Long"), (1, .class_ 6), (0, .nameAndType 7 8), (0, u "java/lang/Object"), (0, u "<init>"), (0, u "()V"), (7, .class_ 18), (1, u "org/stripeward/scenario/Time"), (0, u "END_SECONDS"), (0, u "Ljava/math/BigDecimal;"), (38, .class_ 60), (0, u "java/lang/StringBuilder"), (0, .methodref 59 5), (2, u "append"), (3, .methodref 59 69), (0, .nameAndType 64 70), (0, u "(Ljava/lang/String;)Ljava/lang/StringBuilder;"), (0, .methodref 59 72), (0, .nameAndType 73 74), (0, u "toString"), (0, u "()Ljava/lang/String;"), (14, .long 1000), (1, .long 500), (1, .methodref 59 94), (0, .nameAndType 64 95), (0, u "(J)Ljava/lang/StringBuilder;"), (0, .string 97), (0, u "."), (0, .methodref 1 99), (0, .nameAndType 73 100), (0, u "(J)Ljava/lang/String;"), (0, .methodref 102 103), (0, .class_ 104), (0, .nameAndType 105 106), (0, u "java/lang/String"), (0, u "substring"), (0, u "(I)Ljava/lang/String;"), (0, u "MICROS_PER_SECOND"), (0, u "J"), (3, u "END"), (6, u "format")] 3

def k2m0 : Method := { name := "<init>", desc := "()V", sig := { parameters := [], returnType := none }, accessFlags := 2, code := none }
def k2c1 : Code := { maxStack := 7, maxLocals := 4, code := prog_27_method_5_code, exceptionTable := #[], attributes := #[] }
def k2m1 : Method := { name := "format", desc := "(J)Ljava/lang/String;", sig := { parameters := [.long], returnType := some (.object "java/lang/String") }, accessFlags := 9, code := some k2c1 }
/-- org/stripeward/scenario/Time -/
def k2 : Class := { plain "org/stripeward/scenario/Time" (some 0) with
  accessFlags := 49
  interfaces := #[]
  cf := some (fileOf pool2 16 #[] #[{ accessFlags := 2, nameIndex := 7, descriptorIndex := 8, attributes := #[] }, { accessFlags := 9, nameIndex := 119, descriptorIndex := 100, attributes := #[] }] 49 4 #[] #[{ accessFlags := 25, nameIndex := 107, descriptorIndex := 108, attributes := #[] }, { accessFlags := 25, nameIndex := 112, descriptorIndex := 108, attributes := #[] }, { accessFlags := 26, nameIndex := 19, descriptorIndex := 20, attributes := #[] }])
  fields := #[{ name := "MICROS_PER_SECOND", type := .long, accessFlags := 25, slot := 0, constantValue := 0 }, { name := "END", type := .long, accessFlags := 25, slot := 1, constantValue := 0 }, { name := "END_SECONDS", type := (.object "java/math/BigDecimal"), accessFlags := 26, slot := 2, constantValue := 0 }]
  methods := #[k2m0, k2m1]
  instanceTypes := #[]
  staticTypes := #[.long, .long, (.object "java/math/BigDecimal")]
  resolved := Array.replicate 123 none
  statics := none }

def pool3 : Array CpInfo := pool [(1, .class_ 2), (0, u "java/lang/Appendable"), (0, .class_ 4), (0, u "java/lang/Object")] 9

/-- java/lang/Appendable -/
def k3 : Class := { plain "java/lang/Appendable" (some 0) with
  accessFlags := 1537
  interfaces := #[]
  cf := some (fileOf pool3 1 #[] #[] 1537 3 #[] #[])
  fields := #[]
  methods := #[]
  instanceTypes := #[]
  staticTypes := #[]
  resolved := Array.replicate 14 none
  statics := none }

def pool4 : Array CpInfo := pool [(2, .class_ 4), (1, u "java/lang/CharSequence"), (42, .class_ 48), (0, u "java/lang/CharSequence$1CodePointIterator"), (10, .class_ 60), (0, u "java/lang/CharSequence$1CharIterator"), (5, .class_ 67), (0, u "java/lang/Object")] 63

/-- java/lang/CharSequence -/
def k4 : Class := { plain "java/lang/CharSequence" (some 0) with
  accessFlags := 1537
  interfaces := #[]
  cf := some (fileOf pool4 2 #[.nestMembers #[47, 59]] #[] 1537 66 #[] #[])
  fields := #[]
  methods := #[]
  instanceTypes := #[]
  staticTypes := #[]
  resolved := Array.replicate 131 none
  statics := none }

def pool5 : Array CpInfo := pool [(1, .class_ 2), (0, u "java/lang/String"), (0, .methodref 4 5), (0, .class_ 6), (0, .nameAndType 7 8), (0, u "java/lang/Object"), (0, u "<init>"), (0, u "()V"), (1, .class_ 12), (1, u "java/lang/AbstractStringBuilder"), (0, u "EMPTYVALUE"), (0, u "[B"), (0, .fieldref 10 16), (0, .nameAndType 17 14), (0, u "value"), (0, .fieldref 1 19), (0, .nameAndType 20 21), (0, u "COMPACT_STRINGS"), (0, u "Z"), (0, .fieldref 10 23), (0, .nameAndType 24 25), (0, u "coder"), (0, u "B"), (6, .methodref 1 33), (0, .nameAndType 34 35), (0, u "length"), (0, u "()I"), (3, .integer 2147483647), (0, .methodref 1 41), (0, .nameAndType 24 42), (0, u "()B"), (2, u "append"), (0, u "(Ljava/lang/String;)Ljava/lang/AbstractStringBuilder;"), (1, .class_ 49), (0, u "java/lang/CharSequence"), (19, u "(Ljava/lang/String;)V"), (5, u "maybeLatin1"), (3, .fieldref 10 80), (0, .nameAndType 81 82), (0, u "count"), (0, u "I"), (0, .methodref 10 84), (0, .nameAndType 85 86), (0, u "isLatin1"), (0, u "()Z"), (13, .methodref 10 101), (0, .nameAndType 102 103), (0, u "ensureCapacityInternal"), (0, u "(I)V"), (0, .methodref 10 105), (0, .nameAndType 106 107), (0, u "newCapacity"), (0, u "(I)I"), (0, .methodref 109 110), (0, .class_ 111), (0, .nameAndType 112 113), (0, u "java/util/Arrays"), (0, u "copyOf"), (0, u "([BI)[B"), (0, .methodref 115 116), (0, .class_ 117), (0, .nameAndType 118 119), (0, u "jdk/internal/util/ArraysSupport"), (0, u "newLength"), (0, u "(III)I"), (68, u "getChars"), (19, .methodref 10 209), (0, .nameAndType 210 211), (0, u "putStringAt"), (0, u "(ILjava/lang/String;)V"), (5, u "inflateIfNeededFor"), (2, .nameAndType 221 222), (0, u "getBytes"), (0, u "([BIB)V"), (24, u "stringSize"), (6, .methodref 255 256), (0, .class_ 257), (0, .nameAndType 247 258), (0, u "java/lang/Long"), (0, u "(J)I"), (0, .methodref 255 260), (0, .nameAndType 188 261), (0, u "(JI[B)I"), (135, .methodref 10 398), (0, .nameAndType 217 69), (0, .methodref 1 220), (3, u "()[B"), (40, .class_ 445), (0, u "java/lang/Appendable"), (67, u "(J)Ljava/lang/AbstractStringBuilder;"), (38, u "getValue")] 56

def k5m0 : Method := { name := "<init>", desc := "()V", sig := { parameters := [], returnType := none }, accessFlags := 0, code := none }
def k5c1 : Code := { maxStack := 2, maxLocals := 2, code := jdk_68_method_2_code, exceptionTable := #[], attributes := #[] }
def k5m1 : Method := { name := "<init>", desc := "(I)V", sig := { parameters := [.int], returnType := none }, accessFlags := 0, code := some k5c1 }
def k5c2 : Code := { maxStack := 1, maxLocals := 1, code := jdk_68_method_6_code, exceptionTable := #[], attributes := #[] }
def k5m2 : Method := { name := "length", desc := "()I", sig := { parameters := [], returnType := some .int }, accessFlags := 1, code := some k5c2 }
def k5c3 : Code := { maxStack := 4, maxLocals := 3, code := jdk_68_method_9_code, exceptionTable := #[], attributes := #[] }
def k5m3 : Method := { name := "ensureCapacityInternal", desc := "(I)V", sig := { parameters := [.int], returnType := none }, accessFlags := 2, code := some k5c3 }
def k5c4 : Code := { maxStack := 5, maxLocals := 6, code := jdk_68_method_10_code, exceptionTable := #[], attributes := #[] }
def k5m4 : Method := { name := "newCapacity", desc := "(I)I", sig := { parameters := [.int], returnType := some .int }, accessFlags := 2, code := some k5c4 }
def k5c5 : Code := { maxStack := 3, maxLocals := 3, code := jdk_68_method_22_code, exceptionTable := #[], attributes := #[] }
def k5m5 : Method := { name := "append", desc := "(Ljava/lang/String;)Ljava/lang/AbstractStringBuilder;", sig := { parameters := [(.object "java/lang/String")], returnType := some (.object "java/lang/AbstractStringBuilder") }, accessFlags := 1, code := some k5c5 }
def k5c6 : Code := { maxStack := 5, maxLocals := 5, code := jdk_68_method_33_code, exceptionTable := #[], attributes := #[] }
def k5m6 : Method := { name := "append", desc := "(J)Ljava/lang/AbstractStringBuilder;", sig := { parameters := [.long], returnType := some (.object "java/lang/AbstractStringBuilder") }, accessFlags := 1, code := some k5c6 }
def k5c7 : Code := { maxStack := 1, maxLocals := 1, code := jdk_68_method_64_code, exceptionTable := #[], attributes := #[] }
def k5m7 : Method := { name := "getValue", desc := "()[B", sig := { parameters := [], returnType := some (.array .byte) }, accessFlags := 16, code := some k5c7 }
def k5c8 : Code := { maxStack := 1, maxLocals := 1, code := jdk_68_method_68_code, exceptionTable := #[], attributes := #[] }
def k5m8 : Method := { name := "isLatin1", desc := "()Z", sig := { parameters := [], returnType := some .boolean }, accessFlags := 16, code := some k5c8 }
def k5c9 : Code := { maxStack := 2, maxLocals := 2, code := jdk_68_method_71_code, exceptionTable := #[], attributes := #[] }
def k5m9 : Method := { name := "inflateIfNeededFor", desc := "(Ljava/lang/String;)V", sig := { parameters := [(.object "java/lang/String")], returnType := none }, accessFlags := 2, code := some k5c9 }
def k5c10 : Code := { maxStack := 4, maxLocals := 3, code := jdk_68_method_73_code, exceptionTable := #[], attributes := #[] }
def k5m10 : Method := { name := "putStringAt", desc := "(ILjava/lang/String;)V", sig := { parameters := [.int, (.object "java/lang/String")], returnType := none }, accessFlags := 2, code := some k5c10 }
/-- java/lang/AbstractStringBuilder -/
def k5 : Class := { plain "java/lang/AbstractStringBuilder" (some 0) with
  accessFlags := 1056
  interfaces := #[3, 4]
  cf := some (fileOf pool5 10 #[] #[{ accessFlags := 0, nameIndex := 7, descriptorIndex := 8, attributes := #[] }, { accessFlags := 0, nameIndex := 7, descriptorIndex := 103, attributes := #[] }, { accessFlags := 1, nameIndex := 34, descriptorIndex := 35, attributes := #[] }, { accessFlags := 2, nameIndex := 102, descriptorIndex := 103, attributes := #[] }, { accessFlags := 2, nameIndex := 106, descriptorIndex := 107, attributes := #[] }, { accessFlags := 1, nameIndex := 45, descriptorIndex := 46, attributes := #[] }, { accessFlags := 1, nameIndex := 45, descriptorIndex := 513, attributes := #[] }, { accessFlags := 16, nameIndex := 552, descriptorIndex := 403, attributes := #[] }, { accessFlags := 16, nameIndex := 85, descriptorIndex := 86, attributes := #[] }, { accessFlags := 2, nameIndex := 217, descriptorIndex := 69, attributes := #[] }, { accessFlags := 2, nameIndex := 210, descriptorIndex := 211, attributes := #[] }] 1056 4 #[444, 48] #[{ accessFlags := 0, nameIndex := 17, descriptorIndex := 14, attributes := #[] }, { accessFlags := 0, nameIndex := 24, descriptorIndex := 25, attributes := #[] }, { accessFlags := 0, nameIndex := 75, descriptorIndex := 21, attributes := #[] }, { accessFlags := 0, nameIndex := 81, descriptorIndex := 82, attributes := #[] }, { accessFlags := 26, nameIndex := 13, descriptorIndex := 14, attributes := #[] }])
  fields := #[{ name := "value", type := (.array .byte), accessFlags := 0, slot := 0, constantValue := 0 }, { name := "coder", type := .byte, accessFlags := 0, slot := 1, constantValue := 0 }, { name := "maybeLatin1", type := .boolean, accessFlags := 0, slot := 2, constantValue := 0 }, { name := "count", type := .int, accessFlags := 0, slot := 3, constantValue := 0 }, { name := "EMPTYVALUE", type := (.array .byte), accessFlags := 26, slot := 0, constantValue := 0 }]
  methods := #[k5m0, k5m1, k5m2, k5m3, k5m4, k5m5, k5m6, k5m7, k5m8, k5m9, k5m10]
  instanceTypes := #[(.array .byte), .byte, .boolean, .int]
  staticTypes := #[(.array .byte)]
  resolved := Array.replicate 609 none
  statics := none }

def pool6 : Array CpInfo := pool [(1, .class_ 2), (0, u "java/io/Serializable"), (0, .class_ 4), (0, u "java/lang/Object")] 2

/-- java/io/Serializable -/
def k6 : Class := { plain "java/io/Serializable" (some 0) with
  accessFlags := 1537
  interfaces := #[]
  cf := some (fileOf pool6 1 #[] #[] 1537 3 #[] #[])
  fields := #[]
  methods := #[]
  instanceTypes := #[]
  staticTypes := #[]
  resolved := Array.replicate 7 none
  statics := none }

def pool7 : Array CpInfo := pool [(1, .class_ 2), (0, u "java/lang/Comparable"), (0, .class_ 4), (0, u "java/lang/Object")] 7

/-- java/lang/Comparable -/
def k7 : Class := { plain "java/lang/Comparable" (some 0) with
  accessFlags := 1537
  interfaces := #[]
  cf := some (fileOf pool7 1 #[] #[] 1537 3 #[] #[])
  fields := #[]
  methods := #[]
  instanceTypes := #[]
  staticTypes := #[]
  resolved := Array.replicate 12 none
  statics := none }

def pool8 : Array CpInfo := pool [(1, .methodref 2 3), (0, .class_ 4), (0, .nameAndType 5 6), (0, u "java/lang/AbstractStringBuilder"), (0, u "<init>"), (0, u "(I)V"), (11, .class_ 20), (1, u "java/lang/String"), (3, .class_ 26), (1, u "java/lang/StringBuilder"), (0, u "append"), (0, u "(Ljava/lang/String;)Ljava/lang/StringBuilder;"), (0, .methodref 2 30), (0, .nameAndType 27 31), (0, u "(Ljava/lang/String;)Ljava/lang/AbstractStringBuilder;"), (24, .methodref 2 57), (0, .nameAndType 27 58), (0, u "(J)Ljava/lang/AbstractStringBuilder;"), (78, .methodref 18 138), (0, .nameAndType 5 139), (0, u "(Ljava/lang/StringBuilder;)V"), (5, u "()V"), (10, u "()I"), (124, u "(J)Ljava/lang/StringBuilder;"), (61, .methodref 2 344), (0, .nameAndType 345 156), (0, u "length"), (3, .class_ 350), (0, u "java/lang/Appendable"), (0, .class_ 352), (0, u "java/io/Serializable"), (0, .class_ 354), (0, u "java/lang/Comparable"), (0, .class_ 356), (0, u "java/lang/CharSequence"), (0, u "serialVersionUID"), (0, u "J"), (40, u "toString"), (0, u "()Ljava/lang/String;")] 21

def k8c0 : Code := { maxStack := 2, maxLocals := 1, code := jdk_67_method_1_code, exceptionTable := #[], attributes := #[] }
def k8m0 : Method := { name := "<init>", desc := "()V", sig := { parameters := [], returnType := none }, accessFlags := 1, code := some k8c0 }
def k8c1 : Code := { maxStack := 2, maxLocals := 2, code := jdk_67_method_7_code, exceptionTable := #[], attributes := #[] }
def k8m1 : Method := { name := "append", desc := "(Ljava/lang/String;)Ljava/lang/StringBuilder;", sig := { parameters := [(.object "java/lang/String")], returnType := some (.object "java/lang/StringBuilder") }, accessFlags := 1, code := some k8c1 }
def k8c2 : Code := { maxStack := 3, maxLocals := 3, code := jdk_67_method_16_code, exceptionTable := #[], attributes := #[] }
def k8m2 : Method := { name := "append", desc := "(J)Ljava/lang/StringBuilder;", sig := { parameters := [.long], returnType := some (.object "java/lang/StringBuilder") }, accessFlags := 1, code := some k8c2 }
def k8c3 : Code := { maxStack := 3, maxLocals := 1, code := jdk_67_method_42_code, exceptionTable := #[], attributes := #[] }
def k8m3 : Method := { name := "toString", desc := "()Ljava/lang/String;", sig := { parameters := [], returnType := some (.object "java/lang/String") }, accessFlags := 1, code := some k8c3 }
def k8c4 : Code := { maxStack := 1, maxLocals := 1, code := jdk_67_method_93_code, exceptionTable := #[], attributes := #[] }
def k8m4 : Method := { name := "length", desc := "()I", sig := { parameters := [], returnType := some .int }, accessFlags := 4161, code := some k8c4 }
/-- java/lang/StringBuilder -/
def k8 : Class := { plain "java/lang/StringBuilder" (some 5) with
  accessFlags := 49
  interfaces := #[3, 6, 7, 4]
  cf := some (fileOf pool8 24 #[] #[{ accessFlags := 1, nameIndex := 5, descriptorIndex := 145, attributes := #[] }, { accessFlags := 1, nameIndex := 27, descriptorIndex := 28, attributes := #[] }, { accessFlags := 1, nameIndex := 27, descriptorIndex := 281, attributes := #[] }, { accessFlags := 1, nameIndex := 399, descriptorIndex := 400, attributes := #[] }, { accessFlags := 4161, nameIndex := 345, descriptorIndex := 156, attributes := #[] }] 49 2 #[349, 351, 353, 355] #[{ accessFlags := 24, nameIndex := 357, descriptorIndex := 358, attributes := #[] }])
  fields := #[{ name := "serialVersionUID", type := .long, accessFlags := 24, slot := 0, constantValue := 0 }]
  methods := #[k8m0, k8m1, k8m2, k8m3, k8m4]
  instanceTypes := #[(.array .byte), .byte, .boolean, .int]
  staticTypes := #[.long]
  resolved := Array.replicate 422 none
  statics := none }

def pool9 : Array CpInfo := pool [(1, .class_ 2), (0, u "java/lang/constant/Constable"), (0, .class_ 4), (0, u "java/lang/Object")] 6

/-- java/lang/constant/Constable -/
def k9 : Class := { plain "java/lang/constant/Constable" (some 0) with
  accessFlags := 1537
  interfaces := #[]
  cf := some (fileOf pool9 1 #[] #[] 1537 3 #[] #[])
  fields := #[]
  methods := #[]
  instanceTypes := #[]
  staticTypes := #[]
  resolved := Array.replicate 11 none
  statics := none }

def pool10 : Array CpInfo := pool [(1, .class_ 2), (0, u "java/lang/constant/ConstantDesc"), (0, .class_ 4), (0, u "java/lang/Object")] 32

/-- java/lang/constant/ConstantDesc -/
def k10 : Class := { plain "java/lang/constant/ConstantDesc" (some 0) with
  accessFlags := 1537
  interfaces := #[]
  cf := some (fileOf pool10 1 #[] #[] 1537 3 #[] #[])
  fields := #[]
  methods := #[]
  instanceTypes := #[]
  staticTypes := #[]
  resolved := Array.replicate 37 none
  statics := none }

def pool11 : Array CpInfo := pool [(1, .methodref 2 3), (0, .class_ 4), (0, .nameAndType 5 6), (0, u "java/lang/Object"), (0, u "<init>"), (0, u "()V"), (2, .fieldref 10 11), (0, .class_ 12), (0, .nameAndType 13 14), (0, u "java/lang/String"), (0, u "value"), (0, u "[B"), (0, .fieldref 10 16), (0, .nameAndType 17 18), (0, u "coder"), (0, u "B"), (2, u "hash"), (0, u "I"), (2, u "hashIsZero"), (0, u "Z"), (11, .fieldref 10 39), (0, .nameAndType 40 26), (0, u "COMPACT_STRINGS"), (13, .methodref 55 56), (0, .class_ 57), (0, .nameAndType 58 59), (0, u "java/util/Arrays"), (0, u "copyOfRange"), (0, u "([BII)[B"), (47, .class_ 109), (1, u "java/lang/StringLatin1"), (32, u "()Z"), (50, .class_ 195), (1, u "java/lang/System"), (15, u "([BB)V"), (0, .methodref 193 213), (0, .nameAndType 214 215), (0, u "arraycopy"), (0, u "(Ljava/lang/Object;ILjava/lang/Object;II)V"), (118, u "()I"), (0, .methodref 10 336), (0, .nameAndType 17 337), (0, u "()B"), (2, u "()[B"), (22, u "([BI)C"), (27, u "(II)V"), (35, u "(I)C"), (61, .methodref 10 490), (0, .nameAndType 5 491), (0, u "(Ljava/lang/AbstractStringBuilder;Ljava/lang/Void;)V"), (0, .methodref 10 493), (0, .nameAndType 494 142), (0, u "isLatin1"), (0, .methodref 107 496), (0, .nameAndType 497 363), (0, u "charAt"), (3, u "checkIndex"), (3, .methodref 10 506), (0, .nameAndType 507 334), (0, u "length"), (5, u "checkFromToIndex"), (7, .methodref 10 522), (0, .nameAndType 523 524), (0, u "checkBoundsBeginEnd"), (0, u "(III)V"), (7, u "getBytes"), (16, .methodref 550 506), (0, .class_ 551), (0, u "java/lang/AbstractStringBuilder"), (0, .methodref 550 553), (0, .nameAndType 554 340), (0, u "getValue"), (20, .class_ 576), (0, u "java/lang/CharSequence"), (22, u "CASE_INSENSITIVE_ORDER"), (0, u "Ljava/util/Comparator;"), (80, .methodref 10 682), (0, .nameAndType 683 684), (0, u "substring"), (0, u "(II)Ljava/lang/String;"), (0, .methodref 107 686), (0, .nameAndType 687 688), (0, u "newString"), (0, u "([BII)Ljava/lang/String;"), (132, u "([BIB)V"), (70, u "(I)Ljava/lang/String;"), (154, .methodref 550 493), (5, .fieldref 1054 1055), (0, .class_ 1056), (0, .nameAndType 1057 1058), (0, u "jdk/internal/util/Preconditions"), (0, u "SIOOBE_FORMATTER"), (0, u "Ljava/util/function/BiFunction;"), (0, .methodref 1054 1060), (0, .nameAndType 501 1061), (0, u "(IILjava/util/function/BiFunction;)I"), (0, .methodref 1054 1063), (0, .nameAndType 513 1064), (0, u "(IIILjava/util/function/BiFunction;)I"), (36, u "serialPersistentFields"), (0, u "[Ljava/io/ObjectStreamField;"), (0, .class_ 1104), (0, u "java/lang/String$CaseInsensitiveComparator"), (1, .class_ 1107), (0, u "java/io/Serializable"), (0, .class_ 1109), (0, u "java/lang/Comparable"), (0, .class_ 1111), (0, u "java/lang/constant/Constable"), (0, .class_ 1113), (0, u "java/lang/constant/ConstantDesc"), (2, u "serialVersionUID"), (0, u "J"), (3, u "REPL"), (0, u "C"), (2, u "LATIN1"), (1, u "UTF16"), (105, u "(Ljava/lang/StringBuilder;)V")] 217

def k11m0 : Method := { name := "<init>", desc := "()V", sig := { parameters := [], returnType := none }, accessFlags := 1, code := none }
def k11c1 : Code := { maxStack := 3, maxLocals := 2, code := jdk_42_method_53_code, exceptionTable := #[], attributes := #[] }
def k11m1 : Method := { name := "<init>", desc := "(Ljava/lang/StringBuilder;)V", sig := { parameters := [(.object "java/lang/StringBuilder")], returnType := none }, accessFlags := 1, code := some k11c1 }
def k11c2 : Code := { maxStack := 2, maxLocals := 1, code := jdk_42_method_54_code, exceptionTable := #[], attributes := #[] }
def k11m2 : Method := { name := "length", desc := "()I", sig := { parameters := [], returnType := some .int }, accessFlags := 1, code := some k11c2 }
def k11c3 : Code := { maxStack := 2, maxLocals := 2, code := jdk_42_method_56_code, exceptionTable := #[], attributes := #[] }
def k11m3 : Method := { name := "charAt", desc := "(I)C", sig := { parameters := [.int], returnType := some .char }, accessFlags := 1, code := some k11c3 }
def k11c4 : Code := { maxStack := 3, maxLocals := 2, code := jdk_42_method_91_code, exceptionTable := #[], attributes := #[] }
def k11m4 : Method := { name := "substring", desc := "(I)Ljava/lang/String;", sig := { parameters := [.int], returnType := some (.object "java/lang/String") }, accessFlags := 1, code := some k11c4 }
def k11c5 : Code := { maxStack := 3, maxLocals := 5, code := jdk_42_method_92_code, exceptionTable := #[], attributes := #[] }
def k11m5 : Method := { name := "substring", desc := "(II)Ljava/lang/String;", sig := { parameters := [.int, .int], returnType := some (.object "java/lang/String") }, accessFlags := 1, code := some k11c5 }
def k11c6 : Code := { maxStack := 5, maxLocals := 4, code := jdk_42_method_147_code, exceptionTable := #[], attributes := #[] }
def k11m6 : Method := { name := "getBytes", desc := "([BIB)V", sig := { parameters := [(.array .byte), .int, .byte], returnType := none }, accessFlags := 0, code := some k11c6 }
def k11c7 : Code := { maxStack := 5, maxLocals := 5, code := jdk_42_method_150_code, exceptionTable := #[], attributes := #[] }
def k11m7 : Method := { name := "<init>", desc := "(Ljava/lang/AbstractStringBuilder;Ljava/lang/Void;)V", sig := { parameters := [(.object "java/lang/AbstractStringBuilder"), (.object "java/lang/Void")], returnType := none }, accessFlags := 0, code := some k11c7 }
def k11c8 : Code := { maxStack := 2, maxLocals := 3, code := jdk_42_method_151_code, exceptionTable := #[], attributes := #[] }
def k11m8 : Method := { name := "<init>", desc := "([BB)V", sig := { parameters := [(.array .byte), .byte], returnType := none }, accessFlags := 0, code := some k11c8 }
def k11c9 : Code := { maxStack := 1, maxLocals := 1, code := jdk_42_method_152_code, exceptionTable := #[], attributes := #[] }
def k11m9 : Method := { name := "coder", desc := "()B", sig := { parameters := [], returnType := some .byte }, accessFlags := 0, code := some k11c9 }
def k11c10 : Code := { maxStack := 1, maxLocals := 1, code := jdk_42_method_154_code, exceptionTable := #[], attributes := #[] }
def k11m10 : Method := { name := "isLatin1", desc := "()Z", sig := { parameters := [], returnType := some .boolean }, accessFlags := 0, code := some k11c10 }
def k11c11 : Code := { maxStack := 3, maxLocals := 2, code := jdk_42_method_155_code, exceptionTable := #[], attributes := #[] }
def k11m11 : Method := { name := "checkIndex", desc := "(II)V", sig := { parameters := [.int, .int], returnType := none }, accessFlags := 8, code := some k11c11 }
def k11c12 : Code := { maxStack := 4, maxLocals := 3, code := jdk_42_method_158_code, exceptionTable := #[], attributes := #[] }
def k11m12 : Method := { name := "checkBoundsBeginEnd", desc := "(III)V", sig := { parameters := [.int, .int, .int], returnType := none }, accessFlags := 8, code := some k11c12 }
/-- java/lang/String -/
def k11 : Class := { plain "java/lang/String" (some 0) with
  accessFlags := 49
  interfaces := #[6, 7, 4, 9, 10]
  cf := some (fileOf pool11 10 #[.nestMembers #[1103]] #[{ accessFlags := 1, nameIndex := 5, descriptorIndex := 6, attributes := #[] }, { accessFlags := 1, nameIndex := 5, descriptorIndex := 1233, attributes := #[] }, { accessFlags := 1, nameIndex := 507, descriptorIndex := 334, attributes := #[] }, { accessFlags := 1, nameIndex := 497, descriptorIndex := 427, attributes := #[] }, { accessFlags := 1, nameIndex := 683, descriptorIndex := 892, attributes := #[] }, { accessFlags := 1, nameIndex := 683, descriptorIndex := 684, attributes := #[] }, { accessFlags := 0, nameIndex := 532, descriptorIndex := 821, attributes := #[] }, { accessFlags := 0, nameIndex := 5, descriptorIndex := 491, attributes := #[] }, { accessFlags := 0, nameIndex := 5, descriptorIndex := 211, attributes := #[] }, { accessFlags := 0, nameIndex := 17, descriptorIndex := 337, attributes := #[] }, { accessFlags := 0, nameIndex := 494, descriptorIndex := 142, attributes := #[] }, { accessFlags := 8, nameIndex := 501, descriptorIndex := 391, attributes := #[] }, { accessFlags := 8, nameIndex := 523, descriptorIndex := 524, attributes := #[] }] 49 2 #[1106, 1108, 575, 1110, 1112] #[{ accessFlags := 18, nameIndex := 13, descriptorIndex := 14, attributes := #[] }, { accessFlags := 18, nameIndex := 17, descriptorIndex := 18, attributes := #[] }, { accessFlags := 2, nameIndex := 21, descriptorIndex := 22, attributes := #[] }, { accessFlags := 2, nameIndex := 25, descriptorIndex := 26, attributes := #[] }, { accessFlags := 26, nameIndex := 1116, descriptorIndex := 1117, attributes := #[] }, { accessFlags := 24, nameIndex := 40, descriptorIndex := 26, attributes := #[] }, { accessFlags := 26, nameIndex := 1101, descriptorIndex := 1102, attributes := #[] }, { accessFlags := 26, nameIndex := 1121, descriptorIndex := 1122, attributes := #[] }, { accessFlags := 25, nameIndex := 599, descriptorIndex := 600, attributes := #[] }, { accessFlags := 24, nameIndex := 1125, descriptorIndex := 18, attributes := #[] }, { accessFlags := 24, nameIndex := 1127, descriptorIndex := 18, attributes := #[] }])
  fields := #[{ name := "value", type := (.array .byte), accessFlags := 18, slot := 0, constantValue := 0 }, { name := "coder", type := .byte, accessFlags := 18, slot := 1, constantValue := 0 }, { name := "hash", type := .int, accessFlags := 2, slot := 2, constantValue := 0 }, { name := "hashIsZero", type := .boolean, accessFlags := 2, slot := 3, constantValue := 0 }, { name := "serialVersionUID", type := .long, accessFlags := 26, slot := 0, constantValue := 0 }, { name := "COMPACT_STRINGS", type := .boolean, accessFlags := 24, slot := 1, constantValue := 0 }, { name := "serialPersistentFields", type := (.array (.object "java/io/ObjectStreamField")), accessFlags := 26, slot := 2, constantValue := 0 }, { name := "REPL", type := .char, accessFlags := 26, slot := 3, constantValue := 0 }, { name := "CASE_INSENSITIVE_ORDER", type := (.object "java/util/Comparator"), accessFlags := 25, slot := 4, constantValue := 0 }, { name := "LATIN1", type := .byte, accessFlags := 24, slot := 5, constantValue := 0 }, { name := "UTF16", type := .byte, accessFlags := 24, slot := 6, constantValue := 0 }]
  methods := #[k11m0, k11m1, k11m2, k11m3, k11m4, k11m5, k11m6, k11m7, k11m8, k11m9, k11m10, k11m11, k11m12]
  instanceTypes := #[(.array .byte), .byte, .int, .boolean]
  staticTypes := #[.long, .boolean, (.array (.object "java/io/ObjectStreamField")), .char, (.object "java/util/Comparator"), .byte, .byte]
  resolved := Array.replicate 1451 none
  statics := some 0 }

def pool12 : Array CpInfo := pool [(2, .class_ 4), (1, u "java/lang/Object"), (0, u "<init>"), (0, u "()V"), (1, .class_ 10), (1, u "java/lang/Number"), (2, .class_ 14), (0, u "java/io/Serializable"), (0, u "serialVersionUID"), (0, u "J")] 20

def k12m0 : Method := { name := "<init>", desc := "()V", sig := { parameters := [], returnType := none }, accessFlags := 1, code := none }
/-- java/lang/Number -/
def k12 : Class := { plain "java/lang/Number" (some 0) with
  accessFlags := 1057
  interfaces := #[6]
  cf := some (fileOf pool12 8 #[] #[{ accessFlags := 1, nameIndex := 5, descriptorIndex := 6, attributes := #[] }] 1057 2 #[13] #[{ accessFlags := 26, nameIndex := 15, descriptorIndex := 16, attributes := #[] }])
  fields := #[{ name := "serialVersionUID", type := .long, accessFlags := 26, slot := 0, constantValue := 0 }]
  methods := #[k12m0]
  instanceTypes := #[]
  staticTypes := #[.long]
  resolved := Array.replicate 37 none
  statics := none }

def pool13 : Array CpInfo := pool [(1, .class_ 2), (0, u "java/lang/Long"), (2, .class_ 6), (0, u "java/lang/String"), (4, u "toString"), (0, u "(J)Ljava/lang/String;"), (0, .fieldref 5 14), (0, .nameAndType 15 16), (0, u "COMPACT_STRINGS"), (0, u "Z"), (1, .class_ 20), (1, u "java/lang/Integer"), (32, .long 10), (5, u "<init>"), (41, u "(J)I"), (10, .methodref 5 113), (0, .nameAndType 59 114), (0, u "([BB)V"), (3, .methodref 1 119), (0, .nameAndType 120 101), (0, u "stringSize"), (0, .methodref 1 122), (0, .nameAndType 123 124), (0, u "getChars"), (0, u "(JI[B)I"), (4, .long 18446744071562067968), (1, .long 100), (1, .fieldref 18 134), (0, .nameAndType 135 136), (0, u "DigitOnes"), (0, u "[B"), (0, .fieldref 18 138), (0, .nameAndType 139 136), (0, u "DigitTens"), (0, .long 18446744073709551606), (94, .class_ 237), (1, u "java/lang/Long$LongCache"), (33, .class_ 272), (0, u "java/lang/Number"), (2, u "value"), (0, u "J"), (84, u "TYPE"), (0, u "Ljava/lang/Class;"), (0, .class_ 364), (0, u "java/lang/Comparable"), (0, .class_ 366), (0, u "java/lang/constant/Constable"), (0, .class_ 368), (0, u "java/lang/constant/ConstantDesc"), (0, u "MIN_VALUE"), (1, u "MAX_VALUE"), (4, u "SIZE"), (0, u "I"), (1, u "BYTES"), (1, u "serialVersionUID")] 142

def k13c0 : Code := { maxStack := 4, maxLocals := 4, code := jdk_35_method_12_code, exceptionTable := #[], attributes := #[] }
def k13m0 : Method := { name := "toString", desc := "(J)Ljava/lang/String;", sig := { parameters := [.long], returnType := some (.object "java/lang/String") }, accessFlags := 9, code := some k13c0 }
def k13c1 : Code := { maxStack := 4, maxLocals := 11, code := jdk_35_method_14_code, exceptionTable := #[], attributes := #[] }
def k13m1 : Method := { name := "getChars", desc := "(JI[B)I", sig := { parameters := [.long, .int, (.array .byte)], returnType := some .int }, accessFlags := 8, code := some k13c1 }
def k13c2 : Code := { maxStack := 4, maxLocals := 6, code := jdk_35_method_15_code, exceptionTable := #[], attributes := #[] }
def k13m2 : Method := { name := "stringSize", desc := "(J)I", sig := { parameters := [.long], returnType := some .int }, accessFlags := 8, code := some k13c2 }
/-- java/lang/Long -/
def k13 : Class := { plain "java/lang/Long" (some 12) with
  accessFlags := 49
  interfaces := #[7, 9, 10]
  cf := some (fileOf pool13 1 #[.nestMembers #[235]] #[{ accessFlags := 9, nameIndex := 11, descriptorIndex := 12, attributes := #[] }, { accessFlags := 8, nameIndex := 123, descriptorIndex := 124, attributes := #[] }, { accessFlags := 8, nameIndex := 120, descriptorIndex := 101, attributes := #[] }] 49 271 #[363, 365, 367] #[{ accessFlags := 25, nameIndex := 369, descriptorIndex := 276, attributes := #[] }, { accessFlags := 25, nameIndex := 371, descriptorIndex := 276, attributes := #[] }, { accessFlags := 25, nameIndex := 361, descriptorIndex := 362, attributes := #[] }, { accessFlags := 18, nameIndex := 275, descriptorIndex := 276, attributes := #[] }, { accessFlags := 25, nameIndex := 376, descriptorIndex := 377, attributes := #[] }, { accessFlags := 25, nameIndex := 379, descriptorIndex := 377, attributes := #[] }, { accessFlags := 26, nameIndex := 381, descriptorIndex := 276, attributes := #[] }])
  fields := #[{ name := "MIN_VALUE", type := .long, accessFlags := 25, slot := 0, constantValue := 0 }, { name := "MAX_VALUE", type := .long, accessFlags := 25, slot := 1, constantValue := 0 }, { name := "TYPE", type := (.object "java/lang/Class"), accessFlags := 25, slot := 2, constantValue := 0 }, { name := "value", type := .long, accessFlags := 18, slot := 0, constantValue := 0 }, { name := "SIZE", type := .int, accessFlags := 25, slot := 3, constantValue := 0 }, { name := "BYTES", type := .int, accessFlags := 25, slot := 4, constantValue := 0 }, { name := "serialVersionUID", type := .long, accessFlags := 26, slot := 5, constantValue := 0 }]
  methods := #[k13m0, k13m1, k13m2]
  instanceTypes := #[.long]
  staticTypes := #[.long, .long, (.object "java/lang/Class"), .int, .int, .long]
  resolved := Array.replicate 524 none
  statics := none }

def pool14 : Array CpInfo := pool [(1, .class_ 2), (0, u "java/lang/Integer"), (16, u "digits"), (0, u "[C"), (64, u "DigitOnes"), (0, u "[B"), (2, u "DigitTens"), (99, .class_ 190), (0, u "java/lang/Integer$IntegerCache"), (3, u "I"), (8, .class_ 204), (0, u "java/lang/Number"), (2, u "value"), (94, u "TYPE"), (0, u "Ljava/lang/Class;"), (0, .class_ 305), (0, u "java/lang/Comparable"), (0, .class_ 307), (0, u "java/lang/constant/Constable"), (0, .class_ 309), (0, u "java/lang/constant/ConstantDesc"), (0, u "MIN_VALUE"), (1, u "MAX_VALUE"), (3, u "SIZE"), (1, u "BYTES"), (1, u "serialVersionUID"), (0, u "J")] 131

/-- java/lang/Integer -/
def k14 : Class := { plain "java/lang/Integer" (some 12) with
  accessFlags := 49
  interfaces := #[7, 9, 10]
  cf := some (fileOf pool14 1 #[.nestMembers #[189]] #[] 49 203 #[304, 306, 308] #[{ accessFlags := 25, nameIndex := 310, descriptorIndex := 194, attributes := #[] }, { accessFlags := 25, nameIndex := 312, descriptorIndex := 194, attributes := #[] }, { accessFlags := 25, nameIndex := 302, descriptorIndex := 303, attributes := #[] }, { accessFlags := 24, nameIndex := 19, descriptorIndex := 20, attributes := #[] }, { accessFlags := 24, nameIndex := 89, descriptorIndex := 86, attributes := #[] }, { accessFlags := 24, nameIndex := 85, descriptorIndex := 86, attributes := #[] }, { accessFlags := 18, nameIndex := 207, descriptorIndex := 194, attributes := #[] }, { accessFlags := 25, nameIndex := 316, descriptorIndex := 194, attributes := #[] }, { accessFlags := 25, nameIndex := 318, descriptorIndex := 194, attributes := #[] }, { accessFlags := 26, nameIndex := 320, descriptorIndex := 321, attributes := #[] }])
  fields := #[{ name := "MIN_VALUE", type := .int, accessFlags := 25, slot := 0, constantValue := 0 }, { name := "MAX_VALUE", type := .int, accessFlags := 25, slot := 1, constantValue := 0 }, { name := "TYPE", type := (.object "java/lang/Class"), accessFlags := 25, slot := 2, constantValue := 0 }, { name := "digits", type := (.array .char), accessFlags := 24, slot := 3, constantValue := 0 }, { name := "DigitTens", type := (.array .byte), accessFlags := 24, slot := 4, constantValue := 0 }, { name := "DigitOnes", type := (.array .byte), accessFlags := 24, slot := 5, constantValue := 0 }, { name := "value", type := .int, accessFlags := 18, slot := 0, constantValue := 0 }, { name := "SIZE", type := .int, accessFlags := 25, slot := 6, constantValue := 0 }, { name := "BYTES", type := .int, accessFlags := 25, slot := 7, constantValue := 0 }, { name := "serialVersionUID", type := .long, accessFlags := 26, slot := 8, constantValue := 0 }]
  methods := #[]
  instanceTypes := #[.int]
  staticTypes := #[.int, .int, (.object "java/lang/Class"), (.array .char), (.array .byte), (.array .byte), .int, .int, .long]
  resolved := Array.replicate 453 none
  statics := some 1 }

def pool15 : Array CpInfo := pool [(2, .class_ 4), (1, u "java/lang/Object"), (0, u "<init>"), (0, u "()V"), (1, .class_ 10), (1, u "java/lang/System"), (0, u "allowSecurityManager"), (0, u "I"), (16, u "cons"), (0, u "Ljava/io/Console;"), (77, .class_ 110), (1, u "java/lang/System$CallersHolder"), (43, u "initialErrStream"), (0, u "Ljava/io/PrintStream;"), (19, u "security"), (0, u "Ljava/lang/SecurityManager;"), (31, .class_ 209), (0, u "java/lang/System$1"), (7, u "props"), (0, u "Ljava/util/Properties;"), (2, u "lineSeparator"), (0, u "Ljava/lang/String;"), (96, .class_ 321), (1, u "java/lang/System$LoggerFinder"), (5, .class_ 328), (0, u "java/lang/System$Logger"), (67, u "err"), (2, u "out"), (91, u "notSupportedJnuEncoding"), (15, u "in"), (17, u "initialIn"), (0, u "Ljava/io/InputStream;"), (35, u "bootLayer"), (0, u "Ljava/lang/ModuleLayer;"), (99, .class_ 664), (0, u "java/lang/System$2"), (9, u "NEVER"), (2, u "MAYBE"), (49, u "arraycopy"), (0, u "(Ljava/lang/Object;ILjava/lang/Object;II)V"), (72, .class_ 802), (0, u "java/lang/System$Logger$Level")] 31

def k15m0 : Method := { name := "<init>", desc := "()V", sig := { parameters := [], returnType := none }, accessFlags := 2, code := none }
def k15m1 : Method := { name := "arraycopy", desc := "(Ljava/lang/Object;ILjava/lang/Object;II)V", sig := { parameters := [(.object "java/lang/Object"), .int, (.object "java/lang/Object"), .int, .int], returnType := none }, accessFlags := 265, code := none }
/-- java/lang/System -/
def k15 : Class := { plain "java/lang/System" (some 0) with
  accessFlags := 49
  interfaces := #[]
  cf := some (fileOf pool15 8 #[.nestMembers #[319, 327, 801, 108, 663, 208]] #[{ accessFlags := 2, nameIndex := 5, descriptorIndex := 6, attributes := #[] }, { accessFlags := 265, nameIndex := 727, descriptorIndex := 728, attributes := #[] }] 49 2 #[] #[{ accessFlags := 25, nameIndex := 507, descriptorIndex := 526, attributes := #[] }, { accessFlags := 25, nameIndex := 399, descriptorIndex := 155, attributes := #[] }, { accessFlags := 25, nameIndex := 396, descriptorIndex := 155, attributes := #[] }, { accessFlags := 10, nameIndex := 525, descriptorIndex := 526, attributes := #[] }, { accessFlags := 26, nameIndex := 674, descriptorIndex := 12, attributes := #[] }, { accessFlags := 26, nameIndex := 677, descriptorIndex := 12, attributes := #[] }, { accessFlags := 10, nameIndex := 11, descriptorIndex := 12, attributes := #[] }, { accessFlags := 74, nameIndex := 175, descriptorIndex := 176, attributes := #[] }, { accessFlags := 10, nameIndex := 491, descriptorIndex := 222, attributes := #[] }, { accessFlags := 74, nameIndex := 29, descriptorIndex := 30, attributes := #[] }, { accessFlags := 74, nameIndex := 154, descriptorIndex := 155, attributes := #[] }, { accessFlags := 10, nameIndex := 217, descriptorIndex := 218, attributes := #[] }, { accessFlags := 10, nameIndex := 221, descriptorIndex := 222, attributes := #[] }, { accessFlags := 8, nameIndex := 562, descriptorIndex := 563, attributes := #[] }])
  fields := #[{ name := "in", type := (.object "java/io/InputStream"), accessFlags := 25, slot := 0, constantValue := 0 }, { name := "out", type := (.object "java/io/PrintStream"), accessFlags := 25, slot := 1, constantValue := 0 }, { name := "err", type := (.object "java/io/PrintStream"), accessFlags := 25, slot := 2, constantValue := 0 }, { name := "initialIn", type := (.object "java/io/InputStream"), accessFlags := 10, slot := 3, constantValue := 0 }, { name := "NEVER", type := .int, accessFlags := 26, slot := 4, constantValue := 0 }, { name := "MAYBE", type := .int, accessFlags := 26, slot := 5, constantValue := 0 }, { name := "allowSecurityManager", type := .int, accessFlags := 10, slot := 6, constantValue := 0 }, { name := "security", type := (.object "java/lang/SecurityManager"), accessFlags := 74, slot := 7, constantValue := 0 }, { name := "notSupportedJnuEncoding", type := (.object "java/lang/String"), accessFlags := 10, slot := 8, constantValue := 0 }, { name := "cons", type := (.object "java/io/Console"), accessFlags := 74, slot := 9, constantValue := 0 }, { name := "initialErrStream", type := (.object "java/io/PrintStream"), accessFlags := 74, slot := 10, constantValue := 0 }, { name := "props", type := (.object "java/util/Properties"), accessFlags := 10, slot := 11, constantValue := 0 }, { name := "lineSeparator", type := (.object "java/lang/String"), accessFlags := 10, slot := 12, constantValue := 0 }, { name := "bootLayer", type := (.object "java/lang/ModuleLayer"), accessFlags := 8, slot := 13, constantValue := 0 }]
  methods := #[k15m0, k15m1]
  instanceTypes := #[]
  staticTypes := #[(.object "java/io/InputStream"), (.object "java/io/PrintStream"), (.object "java/io/PrintStream"), (.object "java/io/InputStream"), .int, .int, .int, (.object "java/lang/SecurityManager"), (.object "java/lang/String"), (.object "java/io/Console"), (.object "java/io/PrintStream"), (.object "java/util/Properties"), (.object "java/lang/String"), (.object "java/lang/ModuleLayer")]
  resolved := Array.replicate 834 none
  statics := none }

def pool16 : Array CpInfo := pool [(2, .class_ 4), (1, u "java/lang/Object"), (0, u "<init>"), (0, u "()V"), (17, .class_ 26), (1, u "jdk/internal/util/Preconditions"), (6, u "checkIndex"), (13, u "checkFromToIndex"), (7, .class_ 56), (0, u "jdk/internal/util/Preconditions$4"), (57, .class_ 115), (0, u "jdk/internal/util/Preconditions$1"), (7, u "SIOOBE_FORMATTER"), (0, u "Ljava/util/function/BiFunction;"), (0, .class_ 126), (0, u "jdk/internal/util/Preconditions$2"), (3, u "AIOOBE_FORMATTER"), (0, .class_ 132), (0, u "jdk/internal/util/Preconditions$3"), (3, u "IOOBE_FORMATTER"), (41, u "(IILjava/util/function/BiFunction;)I"), (4, u "(IIILjava/util/function/BiFunction;)I")] 10

def k16m0 : Method := { name := "<init>", desc := "()V", sig := { parameters := [], returnType := none }, accessFlags := 1, code := none }
def k16c1 : Code := { maxStack := 3, maxLocals := 3, code := jdk_41_method_11_code, exceptionTable := #[], attributes := #[] }
def k16m1 : Method := { name := "checkIndex", desc := "(IILjava/util/function/BiFunction;)I", sig := { parameters := [.int, .int, (.object "java/util/function/BiFunction")], returnType := some .int }, accessFlags := 9, code := some k16c1 }
def k16c2 : Code := { maxStack := 4, maxLocals := 4, code := jdk_41_method_12_code, exceptionTable := #[], attributes := #[] }
def k16m2 : Method := { name := "checkFromToIndex", desc := "(IIILjava/util/function/BiFunction;)I", sig := { parameters := [.int, .int, .int, (.object "java/util/function/BiFunction")], returnType := some .int }, accessFlags := 9, code := some k16c2 }
/-- jdk/internal/util/Preconditions -/
def k16 : Class := { plain "jdk/internal/util/Preconditions" (some 0) with
  accessFlags := 33
  interfaces := #[]
  cf := some (fileOf pool16 24 #[.nestMembers #[55, 131, 125, 114]] #[{ accessFlags := 1, nameIndex := 5, descriptorIndex := 6, attributes := #[] }, { accessFlags := 9, nameIndex := 33, descriptorIndex := 178, attributes := #[] }, { accessFlags := 9, nameIndex := 47, descriptorIndex := 183, attributes := #[] }] 33 2 #[] #[{ accessFlags := 25, nameIndex := 123, descriptorIndex := 124, attributes := #[] }, { accessFlags := 25, nameIndex := 130, descriptorIndex := 124, attributes := #[] }, { accessFlags := 25, nameIndex := 136, descriptorIndex := 124, attributes := #[] }])
  fields := #[{ name := "SIOOBE_FORMATTER", type := (.object "java/util/function/BiFunction"), accessFlags := 25, slot := 0, constantValue := 0 }, { name := "AIOOBE_FORMATTER", type := (.object "java/util/function/BiFunction"), accessFlags := 25, slot := 1, constantValue := 0 }, { name := "IOOBE_FORMATTER", type := (.object "java/util/function/BiFunction"), accessFlags := 25, slot := 2, constantValue := 0 }]
  methods := #[k16m0, k16m1, k16m2]
  instanceTypes := #[]
  staticTypes := #[(.object "java/util/function/BiFunction"), (.object "java/util/function/BiFunction"), (.object "java/util/function/BiFunction")]
  resolved := Array.replicate 194 none
  statics := some 2 }

def pool17 : Array CpInfo := pool [(1, .class_ 2), (0, u "java/lang/String"), (1, .class_ 6), (1, u "java/lang/Object"), (0, u "<init>"), (0, u "()V"), (0, .methodref 1 10), (0, .nameAndType 11 12), (0, u "checkIndex"), (0, u "(II)V"), (1, .class_ 16), (1, u "java/lang/StringLatin1"), (36, u "([BI)C"), (58, .methodref 1 113), (0, .nameAndType 7 114), (0, u "([BB)V"), (6, u "$assertionsDisabled"), (0, u "Z"), (8, .class_ 133), (1, u "java/util/Arrays"), (62, u "newString"), (0, u "([BII)Ljava/lang/String;"), (23, .class_ 223), (1, u "java/lang/StringLatin1$LinesSpliterator"), (8, .methodref 131 233), (0, .nameAndType 234 235), (0, u "copyOfRange"), (0, u "([BII)[B"), (16, u "charAt"), (137, .class_ 391), (0, u "java/lang/StringLatin1$CharsSpliterator")] 3

def k17m0 : Method := { name := "<init>", desc := "()V", sig := { parameters := [], returnType := none }, accessFlags := 0, code := none }
def k17c1 : Code := { maxStack := 2, maxLocals := 2, code := jdk_43_method_2_code, exceptionTable := #[], attributes := #[] }
def k17m1 : Method := { name := "charAt", desc := "([BI)C", sig := { parameters := [(.array .byte), .int], returnType := some .char }, accessFlags := 9, code := some k17c1 }
def k17c2 : Code := { maxStack := 6, maxLocals := 3, code := jdk_43_method_47_code, exceptionTable := #[], attributes := #[] }
def k17m2 : Method := { name := "newString", desc := "([BII)Ljava/lang/String;", sig := { parameters := [(.array .byte), .int, .int], returnType := some (.object "java/lang/String") }, accessFlags := 9, code := some k17c2 }
/-- java/lang/StringLatin1 -/
def k17 : Class := { plain "java/lang/StringLatin1" (some 0) with
  accessFlags := 48
  interfaces := #[]
  cf := some (fileOf pool17 14 #[.nestMembers #[390, 221]] #[{ accessFlags := 0, nameIndex := 7, descriptorIndex := 8, attributes := #[] }, { accessFlags := 9, nameIndex := 252, descriptorIndex := 53, attributes := #[] }, { accessFlags := 9, nameIndex := 196, descriptorIndex := 197, attributes := #[] }] 48 4 #[] #[{ accessFlags := 4120, nameIndex := 121, descriptorIndex := 122, attributes := #[] }])
  fields := #[{ name := "$assertionsDisabled", type := .boolean, accessFlags := 4120, slot := 0, constantValue := 0 }]
  methods := #[k17m0, k17m1, k17m2]
  instanceTypes := #[]
  staticTypes := #[.boolean]
  resolved := Array.replicate 395 none
  statics := none }

def pool18 : Array CpInfo := pool [(2, .class_ 4), (1, u "java/lang/Object"), (0, u "<init>"), (0, u "()V"), (7, .class_ 16), (1, u "java/util/Arrays"), (57, .class_ 76), (1, u "java/util/Arrays$NaturalOrder"), (32, u "()Ljava/lang/Object;"), (3, .class_ 115), (1, u "java/util/Arrays$LegacyMergeSort"), (1, u "Z"), (10, .nameAndType 129 109), (0, u "clone"), (9, u "copyOfRange"), (10, .methodref 151 152), (0, .class_ 153), (0, .nameAndType 154 155), (0, u "java/lang/System"), (0, u "arraycopy"), (0, u "(Ljava/lang/Object;ILjava/lang/Object;II)V"), (146, u "copyOf"), (1, .methodref 305 306), (0, .class_ 307), (0, .nameAndType 308 309), (0, u "java/lang/Math"), (0, u "min"), (0, u "(II)I"), (0, .methodref 311 128), (0, .class_ 312), (0, u "[B"), (26, .methodref 14 340), (0, .nameAndType 341 342), (0, u "copyOfRangeByte"), (0, u "([BII)[B"), (0, .methodref 14 344), (0, .nameAndType 345 346), (0, u "checkLength"), (0, u "(II)V"), (28, .class_ 376), (0, u "java/util/Arrays$ArrayList"), (68, u "$assertionsDisabled"), (269, u "MIN_ARRAY_SORT_GRAN"), (0, u "I"), (2, u "INSERTIONSORT_THRESHOLD"), (149, u "([BI)[B"), (105, .class_ 976), (0, u "java/util/Arrays$ArrayItr")] 52

def k18m0 : Method := { name := "<init>", desc := "()V", sig := { parameters := [], returnType := none }, accessFlags := 2, code := none }
def k18c1 : Code := { maxStack := 6, maxLocals := 3, code := jdk_65_method_121_code, exceptionTable := #[], attributes := #[] }
def k18m1 : Method := { name := "copyOf", desc := "([BI)[B", sig := { parameters := [(.array .byte), .int], returnType := some (.array .byte) }, accessFlags := 9, code := some k18c1 }
def k18c2 : Code := { maxStack := 4, maxLocals := 2, code := jdk_65_method_131_code, exceptionTable := #[], attributes := #[] }
def k18m2 : Method := { name := "checkLength", desc := "(II)V", sig := { parameters := [.int, .int], returnType := none }, accessFlags := 10, code := some k18c2 }
def k18c3 : Code := { maxStack := 3, maxLocals := 3, code := jdk_65_method_132_code, exceptionTable := #[], attributes := #[] }
def k18m3 : Method := { name := "copyOfRange", desc := "([BII)[B", sig := { parameters := [(.array .byte), .int, .int], returnType := some (.array .byte) }, accessFlags := 9, code := some k18c3 }
def k18c4 : Code := { maxStack := 6, maxLocals := 5, code := jdk_65_method_133_code, exceptionTable := #[], attributes := #[] }
def k18m4 : Method := { name := "copyOfRangeByte", desc := "([BII)[B", sig := { parameters := [(.array .byte), .int, .int], returnType := some (.array .byte) }, accessFlags := 10, code := some k18c4 }
/-- java/util/Arrays -/
def k18 : Class := { plain "java/util/Arrays" (some 0) with
  accessFlags := 49
  interfaces := #[]
  cf := some (fileOf pool18 14 #[.nestMembers #[975, 375, 113, 74]] #[{ accessFlags := 2, nameIndex := 5, descriptorIndex := 6, attributes := #[] }, { accessFlags := 9, nameIndex := 302, descriptorIndex := 869, attributes := #[] }, { accessFlags := 10, nameIndex := 345, descriptorIndex := 346, attributes := #[] }, { accessFlags := 9, nameIndex := 139, descriptorIndex := 342, attributes := #[] }, { accessFlags := 10, nameIndex := 341, descriptorIndex := 342, attributes := #[] }] 49 2 #[] #[{ accessFlags := 26, nameIndex := 715, descriptorIndex := 716, attributes := #[] }, { accessFlags := 26, nameIndex := 719, descriptorIndex := 716, attributes := #[] }, { accessFlags := 4120, nameIndex := 445, descriptorIndex := 117, attributes := #[] }])
  fields := #[{ name := "MIN_ARRAY_SORT_GRAN", type := .int, accessFlags := 26, slot := 0, constantValue := 0 }, { name := "INSERTIONSORT_THRESHOLD", type := .int, accessFlags := 26, slot := 1, constantValue := 0 }, { name := "$assertionsDisabled", type := .boolean, accessFlags := 4120, slot := 2, constantValue := 0 }]
  methods := #[k18m0, k18m1, k18m2, k18m3, k18m4]
  instanceTypes := #[]
  staticTypes := #[.int, .int, .boolean]
  resolved := Array.replicate 1029 none
  statics := none }

def pool19 : Array CpInfo := pool [(1, .class_ 2), (0, u "java/lang/Math"), (1, .class_ 6), (1, u "java/lang/Object"), (0, u "<init>"), (0, u "()V"), (89, .class_ 100), (1, u "java/lang/Math$RandomNumberGeneratorHolder"), (71, u "negativeZeroFloatBits"), (0, u "J"), (2, u "negativeZeroDoubleBits"), (21, u "max"), (2, u "min"), (43, u "$assertionsDisabled"), (0, u "Z"), (88, u "(II)I"), (2, u "twoToTheDoubleScaleDown"), (0, u "D"), (4, u "twoToTheDoubleScaleUp"), (9, u "E"), (3, u "PI"), (2, u "TAU"), (2, u "DEGREES_TO_RADIANS"), (0, u "RADIANS_TO_DEGREES")] 94

def k19m0 : Method := { name := "<init>", desc := "()V", sig := { parameters := [], returnType := none }, accessFlags := 2, code := none }
def k19c1 : Code := { maxStack := 2, maxLocals := 2, code := jdk_29_method_65_code, exceptionTable := #[], attributes := #[] }
def k19m1 : Method := { name := "max", desc := "(II)I", sig := { parameters := [.int, .int], returnType := some .int }, accessFlags := 9, code := some k19c1 }
def k19c2 : Code := { maxStack := 2, maxLocals := 2, code := jdk_29_method_69_code, exceptionTable := #[], attributes := #[] }
def k19m2 : Method := { name := "min", desc := "(II)I", sig := { parameters := [.int, .int], returnType := some .int }, accessFlags := 9, code := some k19c2 }
/-- java/lang/Math -/
def k19 : Class := { plain "java/lang/Math" (some 0) with
  accessFlags := 49
  interfaces := #[]
  cf := some (fileOf pool19 1 #[.nestMembers #[98]] #[{ accessFlags := 2, nameIndex := 7, descriptorIndex := 8, attributes := #[] }, { accessFlags := 9, nameIndex := 198, descriptorIndex := 335, attributes := #[] }, { accessFlags := 9, nameIndex := 201, descriptorIndex := 335, attributes := #[] }] 49 4 #[] #[{ accessFlags := 25, nameIndex := 354, descriptorIndex := 339, attributes := #[] }, { accessFlags := 25, nameIndex := 358, descriptorIndex := 339, attributes := #[] }, { accessFlags := 25, nameIndex := 361, descriptorIndex := 339, attributes := #[] }, { accessFlags := 26, nameIndex := 364, descriptorIndex := 339, attributes := #[] }, { accessFlags := 26, nameIndex := 365, descriptorIndex := 339, attributes := #[] }, { accessFlags := 26, nameIndex := 172, descriptorIndex := 173, attributes := #[] }, { accessFlags := 26, nameIndex := 176, descriptorIndex := 173, attributes := #[] }, { accessFlags := 8, nameIndex := 344, descriptorIndex := 339, attributes := #[] }, { accessFlags := 8, nameIndex := 338, descriptorIndex := 339, attributes := #[] }, { accessFlags := 4120, nameIndex := 245, descriptorIndex := 246, attributes := #[] }])
  fields := #[{ name := "E", type := .double, accessFlags := 25, slot := 0, constantValue := 0 }, { name := "PI", type := .double, accessFlags := 25, slot := 1, constantValue := 0 }, { name := "TAU", type := .double, accessFlags := 25, slot := 2, constantValue := 0 }, { name := "DEGREES_TO_RADIANS", type := .double, accessFlags := 26, slot := 3, constantValue := 0 }, { name := "RADIANS_TO_DEGREES", type := .double, accessFlags := 26, slot := 4, constantValue := 0 }, { name := "negativeZeroFloatBits", type := .long, accessFlags := 26, slot := 5, constantValue := 0 }, { name := "negativeZeroDoubleBits", type := .long, accessFlags := 26, slot := 6, constantValue := 0 }, { name := "twoToTheDoubleScaleUp", type := .double, accessFlags := 8, slot := 7, constantValue := 0 }, { name := "twoToTheDoubleScaleDown", type := .double, accessFlags := 8, slot := 8, constantValue := 0 }, { name := "$assertionsDisabled", type := .boolean, accessFlags := 4120, slot := 9, constantValue := 0 }]
  methods := #[k19m0, k19m1, k19m2]
  instanceTypes := #[]
  staticTypes := #[.double, .double, .double, .double, .double, .long, .long, .double, .double, .boolean]
  resolved := Array.replicate 460 none
  statics := none }

def pool20 : Array CpInfo := pool [(9, u "<init>"), (6, .class_ 18), (1, u "java/lang/Object"), (0, u "()V"), (1, .class_ 23), (1, u "jdk/internal/util/ArraysSupport"), (0, u "LOG2_ARRAY_LONG_INDEX_SCALE"), (0, u "I"), (2, u "U"), (0, u "Ljdk/internal/misc/Unsafe;"), (8, u "BIG_ENDIAN"), (0, u "Z"), (8, u "LOG2_BYTE_BIT_SIZE"), (4, u "LOG2_ARRAY_INT_INDEX_SCALE"), (54, u "JLA"), (0, u "Ljdk/internal/access/JavaLangAccess;"), (11, u "LOG2_ARRAY_BOOLEAN_INDEX_SCALE"), (9, u "LOG2_ARRAY_BYTE_INDEX_SCALE"), (5, u "LOG2_ARRAY_CHAR_INDEX_SCALE"), (5, u "LOG2_ARRAY_SHORT_INDEX_SCALE"), (18, u "LOG2_ARRAY_FLOAT_INDEX_SCALE"), (24, u "LOG2_ARRAY_DOUBLE_INDEX_SCALE"), (6, .methodref 195 196), (0, .class_ 197), (0, .nameAndType 198 199), (0, u "java/lang/Math"), (0, u "max"), (0, u "(II)I"), (0, .integer 2147483639), (76, u "T_BOOLEAN"), (2, u "T_CHAR"), (1, u "T_FLOAT"), (1, u "T_DOUBLE"), (1, u "T_BYTE"), (1, u "T_SHORT"), (1, u "T_INT"), (1, u "T_LONG"), (1, u "SOFT_MAX_ARRAY_LENGTH"), (56, u "newLength"), (0, u "(III)I")] 25

def k20m0 : Method := { name := "<init>", desc := "()V", sig := { parameters := [], returnType := none }, accessFlags := 2, code := none }
def k20c1 : Code := { maxStack := 3, maxLocals := 4, code := jdk_48_method_27_code, exceptionTable := #[], attributes := #[] }
def k20m1 : Method := { name := "newLength", desc := "(III)I", sig := { parameters := [.int, .int, .int], returnType := some .int }, accessFlags := 9, code := some k20c1 }
/-- jdk/internal/util/ArraysSupport -/
def k20 : Class := { plain "jdk/internal/util/ArraysSupport" (some 0) with
  accessFlags := 33
  interfaces := #[]
  cf := some (fileOf pool20 21 #[] #[{ accessFlags := 2, nameIndex := 9, descriptorIndex := 19, attributes := #[] }, { accessFlags := 9, nameIndex := 351, descriptorIndex := 352, attributes := #[] }] 33 16 #[] #[{ accessFlags := 24, nameIndex := 28, descriptorIndex := 29, attributes := #[] }, { accessFlags := 26, nameIndex := 38, descriptorIndex := 39, attributes := #[] }, { accessFlags := 25, nameIndex := 121, descriptorIndex := 25, attributes := #[] }, { accessFlags := 25, nameIndex := 131, descriptorIndex := 25, attributes := #[] }, { accessFlags := 25, nameIndex := 137, descriptorIndex := 25, attributes := #[] }, { accessFlags := 25, nameIndex := 143, descriptorIndex := 25, attributes := #[] }, { accessFlags := 25, nameIndex := 53, descriptorIndex := 25, attributes := #[] }, { accessFlags := 25, nameIndex := 24, descriptorIndex := 25, attributes := #[] }, { accessFlags := 25, nameIndex := 162, descriptorIndex := 25, attributes := #[] }, { accessFlags := 25, nameIndex := 187, descriptorIndex := 25, attributes := #[] }, { accessFlags := 26, nameIndex := 48, descriptorIndex := 25, attributes := #[] }, { accessFlags := 25, nameIndex := 277, descriptorIndex := 25, attributes := #[] }, { accessFlags := 25, nameIndex := 280, descriptorIndex := 25, attributes := #[] }, { accessFlags := 25, nameIndex := 282, descriptorIndex := 25, attributes := #[] }, { accessFlags := 25, nameIndex := 284, descriptorIndex := 25, attributes := #[] }, { accessFlags := 25, nameIndex := 286, descriptorIndex := 25, attributes := #[] }, { accessFlags := 25, nameIndex := 288, descriptorIndex := 25, attributes := #[] }, { accessFlags := 25, nameIndex := 290, descriptorIndex := 25, attributes := #[] }, { accessFlags := 25, nameIndex := 292, descriptorIndex := 25, attributes := #[] }, { accessFlags := 26, nameIndex := 108, descriptorIndex := 109, attributes := #[] }, { accessFlags := 25, nameIndex := 294, descriptorIndex := 25, attributes := #[] }])
  fields := #[{ name := "U", type := (.object "jdk/internal/misc/Unsafe"), accessFlags := 24, slot := 0, constantValue := 0 }, { name := "BIG_ENDIAN", type := .boolean, accessFlags := 26, slot := 1, constantValue := 0 }, { name := "LOG2_ARRAY_BOOLEAN_INDEX_SCALE", type := .int, accessFlags := 25, slot := 2, constantValue := 0 }, { name := "LOG2_ARRAY_BYTE_INDEX_SCALE", type := .int, accessFlags := 25, slot := 3, constantValue := 0 }, { name := "LOG2_ARRAY_CHAR_INDEX_SCALE", type := .int, accessFlags := 25, slot := 4, constantValue := 0 }, { name := "LOG2_ARRAY_SHORT_INDEX_SCALE", type := .int, accessFlags := 25, slot := 5, constantValue := 0 }, { name := "LOG2_ARRAY_INT_INDEX_SCALE", type := .int, accessFlags := 25, slot := 6, constantValue := 0 }, { name := "LOG2_ARRAY_LONG_INDEX_SCALE", type := .int, accessFlags := 25, slot := 7, constantValue := 0 }, { name := "LOG2_ARRAY_FLOAT_INDEX_SCALE", type := .int, accessFlags := 25, slot := 8, constantValue := 0 }, { name := "LOG2_ARRAY_DOUBLE_INDEX_SCALE", type := .int, accessFlags := 25, slot := 9, constantValue := 0 }, { name := "LOG2_BYTE_BIT_SIZE", type := .int, accessFlags := 26, slot := 10, constantValue := 0 }, { name := "T_BOOLEAN", type := .int, accessFlags := 25, slot := 11, constantValue := 0 }, { name := "T_CHAR", type := .int, accessFlags := 25, slot := 12, constantValue := 0 }, { name := "T_FLOAT", type := .int, accessFlags := 25, slot := 13, constantValue := 0 }, { name := "T_DOUBLE", type := .int, accessFlags := 25, slot := 14, constantValue := 0 }, { name := "T_BYTE", type := .int, accessFlags := 25, slot := 15, constantValue := 0 }, { name := "T_SHORT", type := .int, accessFlags := 25, slot := 16, constantValue := 0 }, { name := "T_INT", type := .int, accessFlags := 25, slot := 17, constantValue := 0 }, { name := "T_LONG", type := .int, accessFlags := 25, slot := 18, constantValue := 0 }, { name := "JLA", type := (.object "jdk/internal/access/JavaLangAccess"), accessFlags := 26, slot := 19, constantValue := 0 }, { name := "SOFT_MAX_ARRAY_LENGTH", type := .int, accessFlags := 25, slot := 20, constantValue := 0 }]
  methods := #[k20m0, k20m1]
  instanceTypes := #[]
  staticTypes := #[(.object "jdk/internal/misc/Unsafe"), .boolean, .int, .int, .int, .int, .int, .int, .int, .int, .int, .int, .int, .int, .int, .int, .int, .int, .int, (.object "jdk/internal/access/JavaLangAccess"), .int]
  resolved := Array.replicate 378 none
  statics := none }

def pool21 : Array CpInfo := pool [(1, .class_ 2), (0, u "java/lang/Cloneable"), (0, .class_ 4), (0, u "java/lang/Object")] 2

/-- java/lang/Cloneable -/
def k21 : Class := { plain "java/lang/Cloneable" (some 0) with
  accessFlags := 1537
  interfaces := #[]
  cf := some (fileOf pool21 1 #[] #[] 1537 3 #[] #[])
  fields := #[]
  methods := #[]
  instanceTypes := #[]
  staticTypes := #[]
  resolved := Array.replicate 7 none
  statics := none }

/-- the primitive byte -/
def k22 : Class := { plain "byte" none with kind := .primitive 'B', accessFlags := 0x411 }
/-- [B -/
def k23 : Class := { plain "[B" (some 0) with kind := .array 22 .byte, interfaces := #[21, 6], accessFlags := 1041 }

/-- the primitive int -/
def k24 : Class := { plain "int" none with kind := .primitive 'I', accessFlags := 0x411 }
/-- [I -/
def k25 : Class := { plain "[I" (some 0) with kind := .array 24 .int, interfaces := #[21, 6], accessFlags := 1041 }

def heap : Heap := #[{ cls := 11, slots := #[.long 0, .int 1, .null, .int 0, .null, .int 0, .int 0], vm := .statics 11 },
  { cls := 14, slots := #[.int 0, .int 0, .null, .null, .ref 4, .ref 3, .int 0, .int 0, .long 0], vm := .statics 14 },
  { cls := 16, slots := #[.null, .null, .null], vm := .statics 16 },
  { cls := 23, slots := #[.int 48, .int 49, .int 50, .int 51, .int 52, .int 53, .int 54, .int 55, .int 56, .int 57, .int 48, .int 49, .int 50, .int 51, .int 52, .int 53, .int 54, .int 55, .int 56, .int 57, .int 48, .int 49, .int 50, .int 51, .int 52, .int 53, .int 54, .int 55, .int 56, .int 57, .int 48, .int 49, .int 50, .int 51, .int 52, .int 53, .int 54, .int 55, .int 56, .int 57, .int 48, .int 49, .int 50, .int 51, .int 52, .int 53, .int 54, .int 55, .int 56, .int 57, .int 48, .int 49, .int 50, .int 51, .int 52, .int 53, .int 54, .int 55, .int 56, .int 57, .int 48, .int 49, .int 50, .int 51, .int 52, .int 53, .int 54, .int 55, .int 56, .int 57, .int 48, .int 49, .int 50, .int 51, .int 52, .int 53, .int 54, .int 55, .int 56, .int 57, .int 48, .int 49, .int 50, .int 51, .int 52, .int 53, .int 54, .int 55, .int 56, .int 57, .int 48, .int 49, .int 50, .int 51, .int 52, .int 53, .int 54, .int 55, .int 56, .int 57], vm := .none },
  { cls := 23, slots := #[.int 48, .int 48, .int 48, .int 48, .int 48, .int 48, .int 48, .int 48, .int 48, .int 48, .int 49, .int 49, .int 49, .int 49, .int 49, .int 49, .int 49, .int 49, .int 49, .int 49, .int 50, .int 50, .int 50, .int 50, .int 50, .int 50, .int 50, .int 50, .int 50, .int 50, .int 51, .int 51, .int 51, .int 51, .int 51, .int 51, .int 51, .int 51, .int 51, .int 51, .int 52, .int 52, .int 52, .int 52, .int 52, .int 52, .int 52, .int 52, .int 52, .int 52, .int 53, .int 53, .int 53, .int 53, .int 53, .int 53, .int 53, .int 53, .int 53, .int 53, .int 54, .int 54, .int 54, .int 54, .int 54, .int 54, .int 54, .int 54, .int 54, .int 54, .int 55, .int 55, .int 55, .int 55, .int 55, .int 55, .int 55, .int 55, .int 55, .int 55, .int 56, .int 56, .int 56, .int 56, .int 56, .int 56, .int 56, .int 56, .int 56, .int 56, .int 57, .int 57, .int 57, .int 57, .int 57, .int 57, .int 57, .int 57, .int 57, .int 57], vm := .none }]
def classes : Array Class := #[k0, k1, k2, k3, k4, k5, k6, k7, k8, k9, k10, k11, k12, k13, k14, k15, k16, k17, k18, k19, k20, k21, k22, k23, k24, k25]
def interned : List (Array UInt16 × Addr) := []
def slotsUsed : Nat := 219
def theMethod : MethodId := ⟨1, 2⟩
def args0 : Array Value := #[.long 1234567, .int 5]
def aboutOver (below : List Frame) : State where
  vm := { classes := classes, interned := interned.toArray }
  heap := heap
  slotsUsed := slotsUsed
  threads := #[{ frames := .invoking theMethod args0 :: below }]
def below0 : List Frame := [.native { method := ⟨0, 0⟩, args := #[] }]
def about1 : State := aboutOver below0
def p0 : Program := .bare "" "" ""
def e0 : Env := launch0.env 0 0 0
theorem w_frames : about1.frames = Frame.invoking theMethod args0 :: below0 := rfl
set_option maxRecDepth 65536 in
theorem w_args : argsFit about1.vm theMethod args0 = true := by decide +kernel
set_option maxRecDepth 65536 in
theorem w_heap : heapFits about1 = true := by decide +kernel
set_option maxRecDepth 65536 in
theorem w_runnable : about1.curStatus? = some .runnable := by decide +kernel
set_option maxRecDepth 65536 in
theorem w_alone : about1.alone = true := by decide +kernel
set_option maxRecDepth 65536 in
theorem w_named : about1.methodNamed? x = some theMethod := by decide +kernel
set_option maxRecDepth 65536 in
theorem w_hears : about1.hears theMethod below0 = true := by decide +kernel
set_option maxRecDepth 65536 in
theorem w_ripe : about1.ripe theMethod args0 below0 = true := by decide +kernel
theorem w_running : about1.status = .running := rfl
set_option maxRecDepth 65536 in
theorem w_room : about1.hasRoom e0.platform room_1 = true :=
  launch0.hasRoom_least _ room_1 (by decide +kernel) (by decide +kernel) (by decide +kernel) (by decide +kernel) (by decide +kernel) (by decide +kernel)
theorem allAtoms_all (ts : List Jvm.Cond) (a : Array Jvm.Value) (st : Jvm.State) : (allAtoms ts).before a st = ts.all (fun c => c.before a st) := by
  induction ts with
  | nil => rfl
  | cons c t ih =>
    show (Jvm.Cond.and c (allAtoms t)).before a st = _
    rw [Jvm.Cond.before_and, ih, List.all_cons]
def words1 : List Jvm.Cond := Jvm.Cond.code x code maxLocals ret :: tables_1
/-- a 'code' word, met by the world's own term for the bytes: nothing is compared byte by byte -/
theorem code_word {y : MethodName} {bytes : ByteArray} {mx : Nat} {rt : Option FieldType} {a : Array Value} {s : State} {m : MethodId} {meth : Method} {c : Code} (h1 : s.methodNamed? y = some m) (h2 : s.vm.method? m = some meth) (h3 : meth.code = some c) (h4 : c.code = bytes)
    (h5 : (c.maxLocals == mx && c.exceptionTable.isEmpty && decide (c.maxStack ≤ mostOperands) && decide (meth.sig.returnType = rt) && !meth.locks && decide (parseMethodDescriptor y.desc = some meth.sig)) = true) : (Jvm.Cond.code y bytes mx rt).before a s = true := by
  simp only [Bool.and_eq_true, beq_iff_eq, Bool.not_eq_true', decide_eq_true_eq] at h5
  obtain ⟨⟨⟨⟨⟨g1, g2⟩, g3⟩, g4⟩, g5⟩, g6⟩ := h5
  simp [Cond.before, Cond.holds, Cond.value, h1, h2, h3, h4, g1, g2, g3, g4, g5, g6]
def isCode : Jvm.Cond → Bool
  | .code _ _ _ _ => true
  | _ => false
theorem all_split {L : List Jvm.Cond} {P : Jvm.Cond → Bool} (h1 : L.all (fun c => isCode c || P c) = true) (h2 : ∀ c ∈ L.filter isCode, P c = true) : L.all P = true := by
  refine List.all_eq_true.mpr fun c hc => ?_
  have h := List.all_eq_true.mp h1 c hc
  rcases Bool.eq_false_or_eq_true (isCode c) with hi | hi
  · exact h2 c (List.mem_filter.mpr ⟨hc, hi⟩)
  · simpa [hi] using h
set_option maxRecDepth 65536 in
theorem w_c0 : (Jvm.Cond.code x code maxLocals ret).before args0 about1 = true := code_word (m := ⟨1, 2⟩) (meth := k1m2) (c := k1c2) (by decide +kernel) rfl rfl rfl (by decide +kernel)
set_option maxRecDepth 65536 in
theorem w_c1 : (Jvm.Cond.code ({ cls := "org/stripeward/scenario/Time", name := "format", desc := "(J)Ljava/lang/String;" } : Jvm.MethodName) prog_27_method_5_code (4 : Nat) (Option.some (Jvm.ClassFile.FieldType.object "java/lang/String"))).before args0 about1 = true := code_word (m := ⟨2, 1⟩) (meth := k2m1) (c := k2c1) (by decide +kernel) rfl rfl rfl (by decide +kernel)
set_option maxRecDepth 65536 in
theorem w_c2 : (Jvm.Cond.code ({ cls := "java/lang/StringBuilder", name := "<init>", desc := "()V" } : Jvm.MethodName) jdk_67_method_1_code (1 : Nat) (Option.none : Option Jvm.ClassFile.FieldType)).before args0 about1 = true := code_word (m := ⟨8, 0⟩) (meth := k8m0) (c := k8c0) (by decide +kernel) rfl rfl rfl (by decide +kernel)
set_option maxRecDepth 65536 in
theorem w_c3 : (Jvm.Cond.code ({ cls := "java/lang/AbstractStringBuilder", name := "<init>", desc := "(I)V" } : Jvm.MethodName) jdk_68_method_2_code (2 : Nat) (Option.none : Option Jvm.ClassFile.FieldType)).before args0 about1 = true := code_word (m := ⟨5, 1⟩) (meth := k5m1) (c := k5c1) (by decide +kernel) rfl rfl rfl (by decide +kernel)
set_option maxRecDepth 65536 in
theorem w_c4 : (Jvm.Cond.code ({ cls := "java/lang/Object", name := "<init>", desc := "()V" } : Jvm.MethodName) object_method_1_code (1 : Nat) (Option.none : Option Jvm.ClassFile.FieldType)).before args0 about1 = true := code_word (m := ⟨0, 0⟩) (meth := k0m0) (c := k0c0) (by decide +kernel) rfl rfl rfl (by decide +kernel)
set_option maxRecDepth 65536 in
theorem w_c5 : (Jvm.Cond.code ({ cls := "java/lang/StringBuilder", name := "append", desc := "(J)Ljava/lang/StringBuilder;" } : Jvm.MethodName) jdk_67_method_16_code (3 : Nat) (Option.some (Jvm.ClassFile.FieldType.object "java/lang/StringBuilder"))).before args0 about1 = true := code_word (m := ⟨8, 2⟩) (meth := k8m2) (c := k8c2) (by decide +kernel) rfl rfl rfl (by decide +kernel)
set_option maxRecDepth 65536 in
theorem w_c6 : (Jvm.Cond.code ({ cls := "java/lang/AbstractStringBuilder", name := "append", desc := "(J)Ljava/lang/AbstractStringBuilder;" } : Jvm.MethodName) jdk_68_method_33_code (5 : Nat) (Option.some (Jvm.ClassFile.FieldType.object "java/lang/AbstractStringBuilder"))).before args0 about1 = true := code_word (m := ⟨5, 6⟩) (meth := k5m6) (c := k5c6) (by decide +kernel) rfl rfl rfl (by decide +kernel)
set_option maxRecDepth 65536 in
theorem w_c7 : (Jvm.Cond.code ({ cls := "java/lang/Long", name := "stringSize", desc := "(J)I" } : Jvm.MethodName) jdk_35_method_15_code (6 : Nat) (Option.some Jvm.ClassFile.FieldType.int)).before args0 about1 = true := code_word (m := ⟨13, 2⟩) (meth := k13m2) (c := k13c2) (by decide +kernel) rfl rfl rfl (by decide +kernel)
set_option maxRecDepth 65536 in
theorem w_c8 : (Jvm.Cond.code ({ cls := "java/lang/AbstractStringBuilder", name := "ensureCapacityInternal", desc := "(I)V" } : Jvm.MethodName) jdk_68_method_9_code (3 : Nat) (Option.none : Option Jvm.ClassFile.FieldType)).before args0 about1 = true := code_word (m := ⟨5, 3⟩) (meth := k5m3) (c := k5c3) (by decide +kernel) rfl rfl rfl (by decide +kernel)
set_option maxRecDepth 65536 in
theorem w_c9 : (Jvm.Cond.code ({ cls := "java/lang/AbstractStringBuilder", name := "isLatin1", desc := "()Z" } : Jvm.MethodName) jdk_68_method_68_code (1 : Nat) (Option.some Jvm.ClassFile.FieldType.boolean)).before args0 about1 = true := code_word (m := ⟨5, 8⟩) (meth := k5m8) (c := k5c8) (by decide +kernel) rfl rfl rfl (by decide +kernel)
set_option maxRecDepth 65536 in
theorem w_c10 : (Jvm.Cond.code ({ cls := "java/lang/Long", name := "getChars", desc := "(JI[B)I" } : Jvm.MethodName) jdk_35_method_14_code (11 : Nat) (Option.some Jvm.ClassFile.FieldType.int)).before args0 about1 = true := code_word (m := ⟨13, 1⟩) (meth := k13m1) (c := k13c1) (by decide +kernel) rfl rfl rfl (by decide +kernel)
set_option maxRecDepth 65536 in
theorem w_c11 : (Jvm.Cond.code ({ cls := "java/lang/StringBuilder", name := "append", desc := "(Ljava/lang/String;)Ljava/lang/StringBuilder;" } : Jvm.MethodName) jdk_67_method_7_code (2 : Nat) (Option.some (Jvm.ClassFile.FieldType.object "java/lang/StringBuilder"))).before args0 about1 = true := code_word (m := ⟨8, 1⟩) (meth := k8m1) (c := k8c1) (by decide +kernel) rfl rfl rfl (by decide +kernel)
set_option maxRecDepth 65536 in
theorem w_c12 : (Jvm.Cond.code ({ cls := "java/lang/AbstractStringBuilder", name := "append", desc := "(Ljava/lang/String;)Ljava/lang/AbstractStringBuilder;" } : Jvm.MethodName) jdk_68_method_22_code (3 : Nat) (Option.some (Jvm.ClassFile.FieldType.object "java/lang/AbstractStringBuilder"))).before args0 about1 = true := code_word (m := ⟨5, 5⟩) (meth := k5m5) (c := k5c5) (by decide +kernel) rfl rfl rfl (by decide +kernel)
set_option maxRecDepth 65536 in
theorem w_c13 : (Jvm.Cond.code ({ cls := "java/lang/String", name := "length", desc := "()I" } : Jvm.MethodName) jdk_42_method_54_code (1 : Nat) (Option.some Jvm.ClassFile.FieldType.int)).before args0 about1 = true := code_word (m := ⟨11, 2⟩) (meth := k11m2) (c := k11c2) (by decide +kernel) rfl rfl rfl (by decide +kernel)
set_option maxRecDepth 65536 in
theorem w_c14 : (Jvm.Cond.code ({ cls := "java/lang/String", name := "coder", desc := "()B" } : Jvm.MethodName) jdk_42_method_152_code (1 : Nat) (Option.some Jvm.ClassFile.FieldType.byte)).before args0 about1 = true := code_word (m := ⟨11, 9⟩) (meth := k11m9) (c := k11c9) (by decide +kernel) rfl rfl rfl (by decide +kernel)
set_option maxRecDepth 65536 in
theorem w_c15 : (Jvm.Cond.code ({ cls := "java/lang/AbstractStringBuilder", name := "putStringAt", desc := "(ILjava/lang/String;)V" } : Jvm.MethodName) jdk_68_method_73_code (3 : Nat) (Option.none : Option Jvm.ClassFile.FieldType)).before args0 about1 = true := code_word (m := ⟨5, 10⟩) (meth := k5m10) (c := k5c10) (by decide +kernel) rfl rfl rfl (by decide +kernel)
set_option maxRecDepth 65536 in
theorem w_c16 : (Jvm.Cond.code ({ cls := "java/lang/AbstractStringBuilder", name := "inflateIfNeededFor", desc := "(Ljava/lang/String;)V" } : Jvm.MethodName) jdk_68_method_71_code (2 : Nat) (Option.none : Option Jvm.ClassFile.FieldType)).before args0 about1 = true := code_word (m := ⟨5, 9⟩) (meth := k5m9) (c := k5c9) (by decide +kernel) rfl rfl rfl (by decide +kernel)
set_option maxRecDepth 65536 in
theorem w_c17 : (Jvm.Cond.code ({ cls := "java/lang/String", name := "getBytes", desc := "([BIB)V" } : Jvm.MethodName) jdk_42_method_147_code (4 : Nat) (Option.none : Option Jvm.ClassFile.FieldType)).before args0 about1 = true := code_word (m := ⟨11, 6⟩) (meth := k11m6) (c := k11c6) (by decide +kernel) rfl rfl rfl (by decide +kernel)
set_option maxRecDepth 65536 in
theorem w_c18 : (Jvm.Cond.code ({ cls := "java/lang/Long", name := "toString", desc := "(J)Ljava/lang/String;" } : Jvm.MethodName) jdk_35_method_12_code (4 : Nat) (Option.some (Jvm.ClassFile.FieldType.object "java/lang/String"))).before args0 about1 = true := code_word (m := ⟨13, 0⟩) (meth := k13m0) (c := k13c0) (by decide +kernel) rfl rfl rfl (by decide +kernel)
set_option maxRecDepth 65536 in
theorem w_c19 : (Jvm.Cond.code ({ cls := "java/lang/String", name := "<init>", desc := "([BB)V" } : Jvm.MethodName) jdk_42_method_151_code (3 : Nat) (Option.none : Option Jvm.ClassFile.FieldType)).before args0 about1 = true := code_word (m := ⟨11, 8⟩) (meth := k11m8) (c := k11c8) (by decide +kernel) rfl rfl rfl (by decide +kernel)
set_option maxRecDepth 65536 in
theorem w_c20 : (Jvm.Cond.code ({ cls := "java/lang/String", name := "substring", desc := "(I)Ljava/lang/String;" } : Jvm.MethodName) jdk_42_method_91_code (2 : Nat) (Option.some (Jvm.ClassFile.FieldType.object "java/lang/String"))).before args0 about1 = true := code_word (m := ⟨11, 4⟩) (meth := k11m4) (c := k11c4) (by decide +kernel) rfl rfl rfl (by decide +kernel)
set_option maxRecDepth 65536 in
theorem w_c21 : (Jvm.Cond.code ({ cls := "java/lang/String", name := "substring", desc := "(II)Ljava/lang/String;" } : Jvm.MethodName) jdk_42_method_92_code (5 : Nat) (Option.some (Jvm.ClassFile.FieldType.object "java/lang/String"))).before args0 about1 = true := code_word (m := ⟨11, 5⟩) (meth := k11m5) (c := k11c5) (by decide +kernel) rfl rfl rfl (by decide +kernel)
set_option maxRecDepth 65536 in
theorem w_c22 : (Jvm.Cond.code ({ cls := "java/lang/String", name := "checkBoundsBeginEnd", desc := "(III)V" } : Jvm.MethodName) jdk_42_method_158_code (3 : Nat) (Option.none : Option Jvm.ClassFile.FieldType)).before args0 about1 = true := code_word (m := ⟨11, 12⟩) (meth := k11m12) (c := k11c12) (by decide +kernel) rfl rfl rfl (by decide +kernel)
set_option maxRecDepth 65536 in
theorem w_c23 : (Jvm.Cond.code ({ cls := "jdk/internal/util/Preconditions", name := "checkFromToIndex", desc := "(IIILjava/util/function/BiFunction;)I" } : Jvm.MethodName) jdk_41_method_12_code (4 : Nat) (Option.some Jvm.ClassFile.FieldType.int)).before args0 about1 = true := code_word (m := ⟨16, 2⟩) (meth := k16m2) (c := k16c2) (by decide +kernel) rfl rfl rfl (by decide +kernel)
set_option maxRecDepth 65536 in
theorem w_c24 : (Jvm.Cond.code ({ cls := "java/lang/String", name := "isLatin1", desc := "()Z" } : Jvm.MethodName) jdk_42_method_154_code (1 : Nat) (Option.some Jvm.ClassFile.FieldType.boolean)).before args0 about1 = true := code_word (m := ⟨11, 10⟩) (meth := k11m10) (c := k11c10) (by decide +kernel) rfl rfl rfl (by decide +kernel)
set_option maxRecDepth 65536 in
theorem w_c25 : (Jvm.Cond.code ({ cls := "java/lang/StringLatin1", name := "newString", desc := "([BII)Ljava/lang/String;" } : Jvm.MethodName) jdk_43_method_47_code (3 : Nat) (Option.some (Jvm.ClassFile.FieldType.object "java/lang/String"))).before args0 about1 = true := code_word (m := ⟨17, 2⟩) (meth := k17m2) (c := k17c2) (by decide +kernel) rfl rfl rfl (by decide +kernel)
set_option maxRecDepth 65536 in
theorem w_c26 : (Jvm.Cond.code ({ cls := "java/util/Arrays", name := "copyOfRange", desc := "([BII)[B" } : Jvm.MethodName) jdk_65_method_132_code (3 : Nat) (Option.some (Jvm.ClassFile.FieldType.array Jvm.ClassFile.FieldType.byte))).before args0 about1 = true := code_word (m := ⟨18, 3⟩) (meth := k18m3) (c := k18c3) (by decide +kernel) rfl rfl rfl (by decide +kernel)
set_option maxRecDepth 65536 in
theorem w_c27 : (Jvm.Cond.code ({ cls := "java/util/Arrays", name := "copyOfRangeByte", desc := "([BII)[B" } : Jvm.MethodName) jdk_65_method_133_code (5 : Nat) (Option.some (Jvm.ClassFile.FieldType.array Jvm.ClassFile.FieldType.byte))).before args0 about1 = true := code_word (m := ⟨18, 4⟩) (meth := k18m4) (c := k18c4) (by decide +kernel) rfl rfl rfl (by decide +kernel)
set_option maxRecDepth 65536 in
theorem w_c28 : (Jvm.Cond.code ({ cls := "java/util/Arrays", name := "checkLength", desc := "(II)V" } : Jvm.MethodName) jdk_65_method_131_code (2 : Nat) (Option.none : Option Jvm.ClassFile.FieldType)).before args0 about1 = true := code_word (m := ⟨18, 2⟩) (meth := k18m2) (c := k18c2) (by decide +kernel) rfl rfl rfl (by decide +kernel)
set_option maxRecDepth 65536 in
theorem w_c29 : (Jvm.Cond.code ({ cls := "java/lang/Math", name := "min", desc := "(II)I" } : Jvm.MethodName) jdk_29_method_69_code (2 : Nat) (Option.some Jvm.ClassFile.FieldType.int)).before args0 about1 = true := code_word (m := ⟨19, 2⟩) (meth := k19m2) (c := k19c2) (by decide +kernel) rfl rfl rfl (by decide +kernel)
set_option maxRecDepth 65536 in
theorem w_c30 : (Jvm.Cond.code ({ cls := "java/lang/StringBuilder", name := "toString", desc := "()Ljava/lang/String;" } : Jvm.MethodName) jdk_67_method_42_code (1 : Nat) (Option.some (Jvm.ClassFile.FieldType.object "java/lang/String"))).before args0 about1 = true := code_word (m := ⟨8, 3⟩) (meth := k8m3) (c := k8c3) (by decide +kernel) rfl rfl rfl (by decide +kernel)
set_option maxRecDepth 65536 in
theorem w_c31 : (Jvm.Cond.code ({ cls := "java/lang/String", name := "<init>", desc := "(Ljava/lang/StringBuilder;)V" } : Jvm.MethodName) jdk_42_method_53_code (2 : Nat) (Option.none : Option Jvm.ClassFile.FieldType)).before args0 about1 = true := code_word (m := ⟨11, 1⟩) (meth := k11m1) (c := k11c1) (by decide +kernel) rfl rfl rfl (by decide +kernel)
set_option maxRecDepth 65536 in
theorem w_c32 : (Jvm.Cond.code ({ cls := "java/lang/String", name := "<init>", desc := "(Ljava/lang/AbstractStringBuilder;Ljava/lang/Void;)V" } : Jvm.MethodName) jdk_42_method_150_code (5 : Nat) (Option.none : Option Jvm.ClassFile.FieldType)).before args0 about1 = true := code_word (m := ⟨11, 7⟩) (meth := k11m7) (c := k11c7) (by decide +kernel) rfl rfl rfl (by decide +kernel)
set_option maxRecDepth 65536 in
theorem w_c33 : (Jvm.Cond.code ({ cls := "java/lang/AbstractStringBuilder", name := "getValue", desc := "()[B" } : Jvm.MethodName) jdk_68_method_64_code (1 : Nat) (Option.some (Jvm.ClassFile.FieldType.array Jvm.ClassFile.FieldType.byte))).before args0 about1 = true := code_word (m := ⟨5, 7⟩) (meth := k5m7) (c := k5c7) (by decide +kernel) rfl rfl rfl (by decide +kernel)
set_option maxRecDepth 65536 in
theorem w_c34 : (Jvm.Cond.code ({ cls := "java/lang/StringBuilder", name := "length", desc := "()I" } : Jvm.MethodName) jdk_67_method_93_code (1 : Nat) (Option.some Jvm.ClassFile.FieldType.int)).before args0 about1 = true := code_word (m := ⟨8, 4⟩) (meth := k8m4) (c := k8c4) (by decide +kernel) rfl rfl rfl (by decide +kernel)
set_option maxRecDepth 65536 in
theorem w_c35 : (Jvm.Cond.code ({ cls := "java/lang/AbstractStringBuilder", name := "length", desc := "()I" } : Jvm.MethodName) jdk_68_method_6_code (1 : Nat) (Option.some Jvm.ClassFile.FieldType.int)).before args0 about1 = true := code_word (m := ⟨5, 2⟩) (meth := k5m2) (c := k5c2) (by decide +kernel) rfl rfl rfl (by decide +kernel)
set_option maxRecDepth 65536 in
theorem w_c36 : (Jvm.Cond.code ({ cls := "java/lang/String", name := "charAt", desc := "(I)C" } : Jvm.MethodName) jdk_42_method_56_code (2 : Nat) (Option.some Jvm.ClassFile.FieldType.char)).before args0 about1 = true := code_word (m := ⟨11, 3⟩) (meth := k11m3) (c := k11c3) (by decide +kernel) rfl rfl rfl (by decide +kernel)
set_option maxRecDepth 65536 in
theorem w_c37 : (Jvm.Cond.code ({ cls := "java/lang/StringLatin1", name := "charAt", desc := "([BI)C" } : Jvm.MethodName) jdk_43_method_2_code (2 : Nat) (Option.some Jvm.ClassFile.FieldType.char)).before args0 about1 = true := code_word (m := ⟨17, 1⟩) (meth := k17m1) (c := k17c1) (by decide +kernel) rfl rfl rfl (by decide +kernel)
set_option maxRecDepth 65536 in
theorem w_c38 : (Jvm.Cond.code ({ cls := "java/lang/String", name := "checkIndex", desc := "(II)V" } : Jvm.MethodName) jdk_42_method_155_code (2 : Nat) (Option.none : Option Jvm.ClassFile.FieldType)).before args0 about1 = true := code_word (m := ⟨11, 11⟩) (meth := k11m11) (c := k11c11) (by decide +kernel) rfl rfl rfl (by decide +kernel)
set_option maxRecDepth 65536 in
theorem w_c39 : (Jvm.Cond.code ({ cls := "jdk/internal/util/Preconditions", name := "checkIndex", desc := "(IILjava/util/function/BiFunction;)I" } : Jvm.MethodName) jdk_41_method_11_code (3 : Nat) (Option.some Jvm.ClassFile.FieldType.int)).before args0 about1 = true := code_word (m := ⟨16, 1⟩) (meth := k16m1) (c := k16c1) (by decide +kernel) rfl rfl rfl (by decide +kernel)
set_option maxRecDepth 65536 in
theorem w_c40 : (Jvm.Cond.code ({ cls := "org/stripeward/scenario/TimeFormatPinLaw", name := "dig", desc := "(Ljava/lang/String;IJIJ)Z" } : Jvm.MethodName) method_2_code (7 : Nat) (Option.some Jvm.ClassFile.FieldType.boolean)).before args0 about1 = true := code_word (m := ⟨1, 1⟩) (meth := k1m1) (c := k1c1) (by decide +kernel) rfl rfl rfl (by decide +kernel)
set_option maxRecDepth 65536 in
theorem w_c41 : (Jvm.Cond.code ({ cls := "java/lang/AbstractStringBuilder", name := "newCapacity", desc := "(I)I" } : Jvm.MethodName) jdk_68_method_10_code (6 : Nat) (Option.some Jvm.ClassFile.FieldType.int)).before args0 about1 = true := code_word (m := ⟨5, 4⟩) (meth := k5m4) (c := k5c4) (by decide +kernel) rfl rfl rfl (by decide +kernel)
set_option maxRecDepth 65536 in
theorem w_c42 : (Jvm.Cond.code ({ cls := "jdk/internal/util/ArraysSupport", name := "newLength", desc := "(III)I" } : Jvm.MethodName) jdk_48_method_27_code (4 : Nat) (Option.some Jvm.ClassFile.FieldType.int)).before args0 about1 = true := code_word (m := ⟨20, 1⟩) (meth := k20m1) (c := k20c1) (by decide +kernel) rfl rfl rfl (by decide +kernel)
set_option maxRecDepth 65536 in
theorem w_c43 : (Jvm.Cond.code ({ cls := "java/lang/Math", name := "max", desc := "(II)I" } : Jvm.MethodName) jdk_29_method_65_code (2 : Nat) (Option.some Jvm.ClassFile.FieldType.int)).before args0 about1 = true := code_word (m := ⟨19, 1⟩) (meth := k19m1) (c := k19c1) (by decide +kernel) rfl rfl rfl (by decide +kernel)
set_option maxRecDepth 65536 in
theorem w_c44 : (Jvm.Cond.code ({ cls := "java/util/Arrays", name := "copyOf", desc := "([BI)[B" } : Jvm.MethodName) jdk_65_method_121_code (3 : Nat) (Option.some (Jvm.ClassFile.FieldType.array Jvm.ClassFile.FieldType.byte))).before args0 about1 = true := code_word (m := ⟨18, 1⟩) (meth := k18m1) (c := k18c1) (by decide +kernel) rfl rfl rfl (by decide +kernel)
def codes1 : List Jvm.Cond := [Jvm.Cond.code x code maxLocals ret, Jvm.Cond.code ({ cls := "org/stripeward/scenario/Time", name := "format", desc := "(J)Ljava/lang/String;" } : Jvm.MethodName) prog_27_method_5_code (4 : Nat) (Option.some (Jvm.ClassFile.FieldType.object "java/lang/String")), Jvm.Cond.code ({ cls := "java/lang/StringBuilder", name := "<init>", desc := "()V" } : Jvm.MethodName) jdk_67_method_1_code (1 : Nat) (Option.none : Option Jvm.ClassFile.FieldType), Jvm.Cond.code ({ cls := "java/lang/AbstractStringBuilder", name := "<init>", desc := "(I)V" } : Jvm.MethodName) jdk_68_method_2_code (2 : Nat) (Option.none : Option Jvm.ClassFile.FieldType), Jvm.Cond.code ({ cls := "java/lang/Object", name := "<init>", desc := "()V" } : Jvm.MethodName) object_method_1_code (1 : Nat) (Option.none : Option Jvm.ClassFile.FieldType), Jvm.Cond.code ({ cls := "java/lang/StringBuilder", name := "append", desc := "(J)Ljava/lang/StringBuilder;" } : Jvm.MethodName) jdk_67_method_16_code (3 : Nat) (Option.some (Jvm.ClassFile.FieldType.object "java/lang/StringBuilder")), Jvm.Cond.code ({ cls := "java/lang/AbstractStringBuilder", name := "append", desc := "(J)Ljava/lang/AbstractStringBuilder;" } : Jvm.MethodName) jdk_68_method_33_code (5 : Nat) (Option.some (Jvm.ClassFile.FieldType.object "java/lang/AbstractStringBuilder")), Jvm.Cond.code ({ cls := "java/lang/Long", name := "stringSize", desc := "(J)I" } : Jvm.MethodName) jdk_35_method_15_code (6 : Nat) (Option.some Jvm.ClassFile.FieldType.int), Jvm.Cond.code ({ cls := "java/lang/AbstractStringBuilder", name := "ensureCapacityInternal", desc := "(I)V" } : Jvm.MethodName) jdk_68_method_9_code (3 : Nat) (Option.none : Option Jvm.ClassFile.FieldType), Jvm.Cond.code ({ cls := "java/lang/AbstractStringBuilder", name := "isLatin1", desc := "()Z" } : Jvm.MethodName) jdk_68_method_68_code (1 : Nat) (Option.some Jvm.ClassFile.FieldType.boolean), Jvm.Cond.code ({ cls := "java/lang/Long", name := "getChars", desc := "(JI[B)I" } : Jvm.MethodName) jdk_35_method_14_code (11 : Nat) (Option.some Jvm.ClassFile.FieldType.int), Jvm.Cond.code ({ cls := "java/lang/StringBuilder", name := "append", desc := "(Ljava/lang/String;)Ljava/lang/StringBuilder;" } : Jvm.MethodName) jdk_67_method_7_code (2 : Nat) (Option.some (Jvm.ClassFile.FieldType.object "java/lang/StringBuilder")), Jvm.Cond.code ({ cls := "java/lang/AbstractStringBuilder", name := "append", desc := "(Ljava/lang/String;)Ljava/lang/AbstractStringBuilder;" } : Jvm.MethodName) jdk_68_method_22_code (3 : Nat) (Option.some (Jvm.ClassFile.FieldType.object "java/lang/AbstractStringBuilder")), Jvm.Cond.code ({ cls := "java/lang/String", name := "length", desc := "()I" } : Jvm.MethodName) jdk_42_method_54_code (1 : Nat) (Option.some Jvm.ClassFile.FieldType.int), Jvm.Cond.code ({ cls := "java/lang/String", name := "coder", desc := "()B" } : Jvm.MethodName) jdk_42_method_152_code (1 : Nat) (Option.some Jvm.ClassFile.FieldType.byte), Jvm.Cond.code ({ cls := "java/lang/AbstractStringBuilder", name := "putStringAt", desc := "(ILjava/lang/String;)V" } : Jvm.MethodName) jdk_68_method_73_code (3 : Nat) (Option.none : Option Jvm.ClassFile.FieldType), Jvm.Cond.code ({ cls := "java/lang/AbstractStringBuilder", name := "inflateIfNeededFor", desc := "(Ljava/lang/String;)V" } : Jvm.MethodName) jdk_68_method_71_code (2 : Nat) (Option.none : Option Jvm.ClassFile.FieldType), Jvm.Cond.code ({ cls := "java/lang/String", name := "getBytes", desc := "([BIB)V" } : Jvm.MethodName) jdk_42_method_147_code (4 : Nat) (Option.none : Option Jvm.ClassFile.FieldType), Jvm.Cond.code ({ cls := "java/lang/Long", name := "toString", desc := "(J)Ljava/lang/String;" } : Jvm.MethodName) jdk_35_method_12_code (4 : Nat) (Option.some (Jvm.ClassFile.FieldType.object "java/lang/String")), Jvm.Cond.code ({ cls := "java/lang/String", name := "<init>", desc := "([BB)V" } : Jvm.MethodName) jdk_42_method_151_code (3 : Nat) (Option.none : Option Jvm.ClassFile.FieldType), Jvm.Cond.code ({ cls := "java/lang/String", name := "substring", desc := "(I)Ljava/lang/String;" } : Jvm.MethodName) jdk_42_method_91_code (2 : Nat) (Option.some (Jvm.ClassFile.FieldType.object "java/lang/String")), Jvm.Cond.code ({ cls := "java/lang/String", name := "substring", desc := "(II)Ljava/lang/String;" } : Jvm.MethodName) jdk_42_method_92_code (5 : Nat) (Option.some (Jvm.ClassFile.FieldType.object "java/lang/String")), Jvm.Cond.code ({ cls := "java/lang/String", name := "checkBoundsBeginEnd", desc := "(III)V" } : Jvm.MethodName) jdk_42_method_158_code (3 : Nat) (Option.none : Option Jvm.ClassFile.FieldType), Jvm.Cond.code ({ cls := "jdk/internal/util/Preconditions", name := "checkFromToIndex", desc := "(IIILjava/util/function/BiFunction;)I" } : Jvm.MethodName) jdk_41_method_12_code (4 : Nat) (Option.some Jvm.ClassFile.FieldType.int), Jvm.Cond.code ({ cls := "java/lang/String", name := "isLatin1", desc := "()Z" } : Jvm.MethodName) jdk_42_method_154_code (1 : Nat) (Option.some Jvm.ClassFile.FieldType.boolean), Jvm.Cond.code ({ cls := "java/lang/StringLatin1", name := "newString", desc := "([BII)Ljava/lang/String;" } : Jvm.MethodName) jdk_43_method_47_code (3 : Nat) (Option.some (Jvm.ClassFile.FieldType.object "java/lang/String")), Jvm.Cond.code ({ cls := "java/util/Arrays", name := "copyOfRange", desc := "([BII)[B" } : Jvm.MethodName) jdk_65_method_132_code (3 : Nat) (Option.some (Jvm.ClassFile.FieldType.array Jvm.ClassFile.FieldType.byte)), Jvm.Cond.code ({ cls := "java/util/Arrays", name := "copyOfRangeByte", desc := "([BII)[B" } : Jvm.MethodName) jdk_65_method_133_code (5 : Nat) (Option.some (Jvm.ClassFile.FieldType.array Jvm.ClassFile.FieldType.byte)), Jvm.Cond.code ({ cls := "java/util/Arrays", name := "checkLength", desc := "(II)V" } : Jvm.MethodName) jdk_65_method_131_code (2 : Nat) (Option.none : Option Jvm.ClassFile.FieldType), Jvm.Cond.code ({ cls := "java/lang/Math", name := "min", desc := "(II)I" } : Jvm.MethodName) jdk_29_method_69_code (2 : Nat) (Option.some Jvm.ClassFile.FieldType.int), Jvm.Cond.code ({ cls := "java/lang/StringBuilder", name := "toString", desc := "()Ljava/lang/String;" } : Jvm.MethodName) jdk_67_method_42_code (1 : Nat) (Option.some (Jvm.ClassFile.FieldType.object "java/lang/String")), Jvm.Cond.code ({ cls := "java/lang/String", name := "<init>", desc := "(Ljava/lang/StringBuilder;)V" } : Jvm.MethodName) jdk_42_method_53_code (2 : Nat) (Option.none : Option Jvm.ClassFile.FieldType), Jvm.Cond.code ({ cls := "java/lang/String", name := "<init>", desc := "(Ljava/lang/AbstractStringBuilder;Ljava/lang/Void;)V" } : Jvm.MethodName) jdk_42_method_150_code (5 : Nat) (Option.none : Option Jvm.ClassFile.FieldType), Jvm.Cond.code ({ cls := "java/lang/AbstractStringBuilder", name := "getValue", desc := "()[B" } : Jvm.MethodName) jdk_68_method_64_code (1 : Nat) (Option.some (Jvm.ClassFile.FieldType.array Jvm.ClassFile.FieldType.byte)), Jvm.Cond.code ({ cls := "java/lang/StringBuilder", name := "length", desc := "()I" } : Jvm.MethodName) jdk_67_method_93_code (1 : Nat) (Option.some Jvm.ClassFile.FieldType.int), Jvm.Cond.code ({ cls := "java/lang/AbstractStringBuilder", name := "length", desc := "()I" } : Jvm.MethodName) jdk_68_method_6_code (1 : Nat) (Option.some Jvm.ClassFile.FieldType.int), Jvm.Cond.code ({ cls := "java/lang/String", name := "charAt", desc := "(I)C" } : Jvm.MethodName) jdk_42_method_56_code (2 : Nat) (Option.some Jvm.ClassFile.FieldType.char), Jvm.Cond.code ({ cls := "java/lang/StringLatin1", name := "charAt", desc := "([BI)C" } : Jvm.MethodName) jdk_43_method_2_code (2 : Nat) (Option.some Jvm.ClassFile.FieldType.char), Jvm.Cond.code ({ cls := "java/lang/String", name := "checkIndex", desc := "(II)V" } : Jvm.MethodName) jdk_42_method_155_code (2 : Nat) (Option.none : Option Jvm.ClassFile.FieldType), Jvm.Cond.code ({ cls := "jdk/internal/util/Preconditions", name := "checkIndex", desc := "(IILjava/util/function/BiFunction;)I" } : Jvm.MethodName) jdk_41_method_11_code (3 : Nat) (Option.some Jvm.ClassFile.FieldType.int), Jvm.Cond.code ({ cls := "org/stripeward/scenario/TimeFormatPinLaw", name := "dig", desc := "(Ljava/lang/String;IJIJ)Z" } : Jvm.MethodName) method_2_code (7 : Nat) (Option.some Jvm.ClassFile.FieldType.boolean), Jvm.Cond.code ({ cls := "java/lang/AbstractStringBuilder", name := "newCapacity", desc := "(I)I" } : Jvm.MethodName) jdk_68_method_10_code (6 : Nat) (Option.some Jvm.ClassFile.FieldType.int), Jvm.Cond.code ({ cls := "jdk/internal/util/ArraysSupport", name := "newLength", desc := "(III)I" } : Jvm.MethodName) jdk_48_method_27_code (4 : Nat) (Option.some Jvm.ClassFile.FieldType.int), Jvm.Cond.code ({ cls := "java/lang/Math", name := "max", desc := "(II)I" } : Jvm.MethodName) jdk_29_method_65_code (2 : Nat) (Option.some Jvm.ClassFile.FieldType.int), Jvm.Cond.code ({ cls := "java/util/Arrays", name := "copyOf", desc := "([BI)[B" } : Jvm.MethodName) jdk_65_method_121_code (3 : Nat) (Option.some (Jvm.ClassFile.FieldType.array Jvm.ClassFile.FieldType.byte))]
set_option maxRecDepth 65536 in
theorem codes_eq : words1.filter isCode = codes1 := rfl
theorem w_codes : ∀ c ∈ words1.filter isCode, c.before args0 about1 = true := by
  rw [codes_eq]
  intro c hc
  simp only [codes1, List.mem_cons, List.not_mem_nil, or_false] at hc
  rcases hc with rfl | rfl | rfl | rfl | rfl | rfl | rfl | rfl | rfl | rfl | rfl | rfl | rfl | rfl | rfl | rfl | rfl | rfl | rfl | rfl | rfl | rfl | rfl | rfl | rfl | rfl | rfl | rfl | rfl | rfl | rfl | rfl | rfl | rfl | rfl | rfl | rfl | rfl | rfl | rfl | rfl | rfl | rfl | rfl | rfl
  · exact w_c0
  · exact w_c1
  · exact w_c2
  · exact w_c3
  · exact w_c4
  · exact w_c5
  · exact w_c6
  · exact w_c7
  · exact w_c8
  · exact w_c9
  · exact w_c10
  · exact w_c11
  · exact w_c12
  · exact w_c13
  · exact w_c14
  · exact w_c15
  · exact w_c16
  · exact w_c17
  · exact w_c18
  · exact w_c19
  · exact w_c20
  · exact w_c21
  · exact w_c22
  · exact w_c23
  · exact w_c24
  · exact w_c25
  · exact w_c26
  · exact w_c27
  · exact w_c28
  · exact w_c29
  · exact w_c30
  · exact w_c31
  · exact w_c32
  · exact w_c33
  · exact w_c34
  · exact w_c35
  · exact w_c36
  · exact w_c37
  · exact w_c38
  · exact w_c39
  · exact w_c40
  · exact w_c41
  · exact w_c42
  · exact w_c43
  · exact w_c44
set_option maxRecDepth 65536 in
theorem w_t1 : (words1.take 24).all (fun c => isCode c || c.before args0 about1) = true := by decide +kernel
set_option maxRecDepth 65536 in
theorem w_t2 : ((words1.drop 24).take 24).all (fun c => isCode c || c.before args0 about1) = true := by decide +kernel
set_option maxRecDepth 65536 in
theorem w_t3 : (((words1.drop 24).drop 24).take 24).all (fun c => isCode c || c.before args0 about1) = true := by decide +kernel
set_option maxRecDepth 65536 in
theorem w_t4 : ((((words1.drop 24).drop 24).drop 24).take 24).all (fun c => isCode c || c.before args0 about1) = true := by decide +kernel
set_option maxRecDepth 65536 in
theorem w_t5 : (((((words1.drop 24).drop 24).drop 24).drop 24).take 24).all (fun c => isCode c || c.before args0 about1) = true := by decide +kernel
set_option maxRecDepth 65536 in
theorem w_t6 : ((((((words1.drop 24).drop 24).drop 24).drop 24).drop 24).take 24).all (fun c => isCode c || c.before args0 about1) = true := by decide +kernel
set_option maxRecDepth 65536 in
theorem w_t7 : (((((((words1.drop 24).drop 24).drop 24).drop 24).drop 24).drop 24).take 24).all (fun c => isCode c || c.before args0 about1) = true := by decide +kernel
set_option maxRecDepth 65536 in
theorem w_t8 : ((((((((words1.drop 24).drop 24).drop 24).drop 24).drop 24).drop 24).drop 24).take 24).all (fun c => isCode c || c.before args0 about1) = true := by decide +kernel
set_option maxRecDepth 65536 in
theorem w_t9 : (((((((((words1.drop 24).drop 24).drop 24).drop 24).drop 24).drop 24).drop 24).drop 24).take 24).all (fun c => isCode c || c.before args0 about1) = true := by decide +kernel
set_option maxRecDepth 65536 in
theorem w_t10 : ((((((((((words1.drop 24).drop 24).drop 24).drop 24).drop 24).drop 24).drop 24).drop 24).drop 24).take 24).all (fun c => isCode c || c.before args0 about1) = true := by decide +kernel
set_option maxRecDepth 65536 in
theorem w_t11 : ((((((((((words1.drop 24).drop 24).drop 24).drop 24).drop 24).drop 24).drop 24).drop 24).drop 24).drop 24).all (fun c => isCode c || c.before args0 about1) = true := by decide +kernel
theorem w_tables : (allAtoms (Jvm.Cond.code x code maxLocals ret :: tables_1)).before args0 about1 = true := by
  rw [allAtoms_all]
  show words1.all (fun c => c.before args0 about1) = true
  refine all_split ?_ w_codes
  rw [← List.take_append_drop 24 words1, List.all_append, w_t1, ← List.take_append_drop 24 (words1.drop 24), List.all_append, w_t2, ← List.take_append_drop 24 ((words1.drop 24).drop 24), List.all_append, w_t3, ← List.take_append_drop 24 (((words1.drop 24).drop 24).drop 24), List.all_append, w_t4, ← List.take_append_drop 24 ((((words1.drop 24).drop 24).drop 24).drop 24), List.all_append, w_t5, ← List.take_append_drop 24 (((((words1.drop 24).drop 24).drop 24).drop 24).drop 24), List.all_append, w_t6, ← List.take_append_drop 24 ((((((words1.drop 24).drop 24).drop 24).drop 24).drop 24).drop 24), List.all_append, w_t7, ← List.take_append_drop 24 (((((((words1.drop 24).drop 24).drop 24).drop 24).drop 24).drop 24).drop 24), List.all_append, w_t8, ← List.take_append_drop 24 ((((((((words1.drop 24).drop 24).drop 24).drop 24).drop 24).drop 24).drop 24).drop 24), List.all_append, w_t9, ← List.take_append_drop 24 (((((((((words1.drop 24).drop 24).drop 24).drop 24).drop 24).drop 24).drop 24).drop 24).drop 24), List.all_append, w_t10, w_t11]
  rfl
set_option maxRecDepth 65536 in
theorem w_rest : rest_1_c.before args0 about1 = true := by decide +kernel
set_option maxRecDepth 65536 in
theorem w_case : (Jvm.Cond.and given_1 narrow_1).before args0 about1 = true := by decide +kernel
set_option maxRecDepth 65536 in
theorem w_consts : constsHeld consts_1 about1 := Jvm.Lit.constsHeldB_iff.mp (by decide +kernel)
theorem w_applies : (headSpec (Jvm.Cond.code x code maxLocals ret :: tables_1) room_1).applies x e0.platform about1 = true :=
  (Spec.applies_iff w_frames).mpr ⟨w_running, w_runnable, w_alone, w_named, w_hears, w_ripe, w_room, w_tables⟩
theorem atStart : AtStart classFile x code maxLocals ret World_1 tables_1 room_1 Calls_1 rest_1 Pre_1 launch0 p0 e0 about1 theMethod args0 below0 :=
  ⟨lists_1, trivial, launch0.admits_env _ _ _, launch0.least_env, fairChoices_fair.cas, fairChoices_fair.clock, w_frames, w_args, w_heap, w_applies, ⟨w_consts, trivial⟩, w_rest, w_case⟩
end start1
theorem witness_1 : WitnessClaimed_1 := ⟨start1.p0, start1.e0, start1.about1, start1.theMethod, start1.args0, start1.below0, start1.atStart⟩
end Jvm.Pilot.@@N@@
