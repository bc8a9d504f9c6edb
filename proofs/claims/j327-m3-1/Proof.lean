import JvmDerived
import JvmDerived.Pilot.@@N@@Statement
import JvmDerived.Pilot.@@N@@Code
set_option linter.unusedVariables false
set_option linter.unusedSimpArgs false
namespace Jvm.RoadKit
open Sem ClassFile Op Lib Jvm.Stand Jvm.Free Jvm.LawKit
section New
variable {p : Program} {l : Launch} {e : Env} {R : Room} {s : State} {m : MethodId} {args : Array Value} {below : List Frame} {meth : Method} {c : Code} {T : State} {locs : List Loc} {cells slots : Nat}
theorem retI (X : Stand p l e R s m args below meth c T locs cells slots) (hx : p.tables.exec = Jvm.exec) {pc : Nat} {Ls : Array Slot} {z : Int32} {rest : List Value} (hret : meth.sig.returnType = some .int) (hd : decode c.code pc = .ok (.ireturn, 1)) {fs : List Frame}
    (hl : ∀ (f : JFrame) (acts : List Action), f.method = m → f.locked = none → f.entered = [] → (doReturn e (T.setTop f) acts (some (.int z))).1 = T.setFrames fs) : Steps p.tables e below (T.setTop (mkF m pc Ls (.int z :: rest))) (T.setFrames fs) := by
  have hm' : T.vm.method? m = some meth := X.method'
  have hn : narrow .int (.int z) = .int z := rfl
  show Steps p.tables e below (T.setTop { method := m, pc := pc, locals := Ls, stack := _ :: rest, locked := none }) _
  jvm_step X.here [X.here.top, hx, hd, hm', hret, hn]
  first | (intro acts; rw [hl _ acts rfl rfl rfl]) | rw [hl _ _ rfl rfl rfl]
  exact Steps.refl _
end New
end Jvm.RoadKit
namespace Jvm.Pilot.@@N@@
open Jvm Jvm.ClassFile Sem Op Lib Jvm.Free Jvm.Stand Jvm.LawKit Jvm.RoadKit Bundle Jvm.Pilot.@@N@@.Jvm.D
/-- from A the run comes to its end, as the contract wants it -/
def Goes (p : Program) (e : Env) (below : List Frame) (En : Outcome → State → List Loc → Prop) (Q : Option Value → Heap → List Loc → Prop) (A : State) : Prop :=
  ∃ s₂ o, Steps p.tables e below A s₂ ∧ s₂.status = .running ∧ Ended s₂ below o ∧ ∃ v L, o = .returned v ∧ Q v s₂.heap L ∧ En o s₂ L
abbrev Met (l : Launch) (Z : State) (y : MethodName) (bytes : ByteArray) (maxL : Nat) (ret : Option FieldType) (rm : Room) (ws : List Jvm.Cond) (as : Array Value) (h0 : Heap) (Q : Option Value → Heap → List Loc → Prop) : Prop :=
  MetFree l y (head1 (Jvm.Cond.code y bytes maxL ret :: ws) rm) (fun aa U => aa = as ∧ Z.Warmed39 U.vm ∧ U.heap = h0) (fun _ _ _ _ _ => True) (fun _ U o U' => ∃ v L, o = .returned v ∧ Q v U'.heap L ∧ FrameEnd U o U' L rm.cells rm.slots)
abbrev MetW (l : Launch) (Z : State) (y : MethodName) (bytes : ByteArray) (maxL : Nat) (ret : Option FieldType) (rm : Room) (ws : List Jvm.Cond) (as : Array Value) (h0 : Heap) (Q : Option Value → Heap → List Loc → Prop) : Prop :=
  MetFree l y (head1 (Jvm.Cond.code y bytes maxL ret :: ws) rm) (fun aa U => aa = as ∧ Z.Warmed39 U.vm ∧ U.heap = h0) (fun _ _ _ _ _ => True) (fun _ U o U' => ∃ v L, o = .returned v ∧ Q v U'.heap L ∧ ReturnedEndW U o U' L rm.cells rm.slots)
abbrev MetH (l : Launch) (Z : State) (y : MethodName) (bytes : ByteArray) (maxL : Nat) (ret : Option FieldType) (rm : Room) (ws : List Jvm.Cond) (as : Array Value) (h0 : Heap) (Q : Option Value → Heap → List Loc → Prop) : Prop :=
  MetFree l y (head1 (Jvm.Cond.code y bytes maxL ret :: ws) rm) (fun aa U => aa = as ∧ Z.Warmed39 U.vm ∧ U.heap = h0 ∧ CHv Z consts_1 U.vm h0) (fun _ _ _ _ _ => True) (fun _ U o U' => ∃ v L, o = .returned v ∧ Q v U'.heap L ∧ CHr Z consts_1 U.vm U.heap U'.vm U'.heap ∧ ReturnedEndW U o U' L rm.cells rm.slots)
theorem gw {a0 : Array Value} {Z : State} (hw : ∀ d ∈ tables_1, d.before a0 Z = true) (i : Nat) {d : Jvm.Cond} (h : tables_1[i]? = some d) : d.before a0 Z = true := hw _ (List.mem_of_getElem? h)
theorem w0 {n W : Nat} (h : n ≤ W) : 2 * 0 + n ≤ W := by omega
def Ob (h : Heap) (x : Addr) : Prop := ∀ c : Cell, h[x]? = some c → c.vm.isStatics = false
theorem own_staK {Z : State} {h h' : Heap} {C n d : String} {v : Value} {ws : List Addr} (F : Sta Z h C n d v) (K : Keep h h' ws) (q : ∀ x ∈ ws, Ob h x) : Sta Z h' C n d v := by
  obtain ⟨cf, i, k, f, st, cell, h1, h2, h3, h4, h5, h6, h7⟩ := F
  exact ⟨cf, i, k, f, st, cell, h1, h2, h3, h4, K.2.1 st cell h5 (fun hm => by have := q st hm cell h5; rw [this] at h6; cases h6), h6, h7⟩
def NFc (Z : State) (K : String) : Prop := ∃ t kt, Z.vm.findClass K = some t ∧ Z.vm.classes[t]? = some kt ∧ kt.isInterface = false
set_option maxRecDepth 65536 in
theorem own_nsNo {Z : State} {a0 : Array Value} {C S K : String} (w : (Cond.superclass C S).before a0 Z = true) (wk : NFc Z K) (n : NS Z C K) (hn : C ≠ K) : ∃ c t, Z.vm.findClass C = some c ∧ Z.vm.findClass K = some t ∧ Z.vm.assignable c t = false := by
  obtain ⟨c, t, h0, g0, n3⟩ := n
  obtain ⟨p, k, kp, h1, h2, h3, h4, h5, -⟩ := Cond.superclass_spec h0 w
  obtain ⟨t', kt, g1, g2, g3⟩ := wk
  cases g0.symm.trans g1
  have ne := ids_ne h0 g0 hn
  refine ⟨c, t, h0, g0, ?_⟩
  show Z.vm.assignableAux (255 + 1) c t = false
  cases hq : kt.kind <;> simp [Vm.assignableAux, ne, h2, g2, h5, hq, g3, Vm.isSubclass, n3]
section OwnSteps
variable {p : Program} {l : Launch} {e : Env} {R : Room} {s : State} {m : MethodId} {args : Array Value} {below : List Frame} {meth : Method} {c : Code} {T : State} {locs : List Loc} {cells slots : Nat}
theorem Goes.step {En : Outcome → State → List Loc → Prop} {Q : Option Value → Heap → List Loc → Prop} {A B : State} (st : ∀ t, Steps p.tables e below A t → Steps p.tables e below B t) (h : Goes p e below En Q A) : Goes p e below En Q B :=
  let ⟨s₂, o, h1, r⟩ := h; ⟨s₂, o, st _ h1, r⟩
theorem Gs {En : Outcome → State → List Loc → Prop} {Q : Option Value → Heap → List Loc → Prop} {A B : State} (st : ∀ t, Steps p.tables e below A t → Steps p.tables e below B t) (h : Goes p e below En Q A) : Goes p e below En Q B := Goes.step st h
theorem own_join {En : Outcome → State → List Loc → Prop} {Q : Option Value → Heap → List Loc → Prop} {A B : State} (hB : Goes p e below En Q B) (k : Goes p e below En Q B → Goes p e below En Q A) : Goes p e below En Q A := k hB
theorem own_joinP {En : Outcome → State → List Loc → Prop} {Q : Option Value → Heap → List Loc → Prop} {A : State} {B : Int32 → State} {P : Int32 → Prop} (hB : ∀ z, P z → Goes p e below En Q (B z)) (k : (∀ z, P z → Goes p e below En Q (B z)) → Goes p e below En Q A) : Goes p e below En Q A := k hB
theorem own_met {Z : State} {y : MethodName} {bytes : ByteArray} {maxL : Nat} {ret : Option FieldType} {rm : Room} {ws : List Jvm.Cond} {as : Array Value} {h0 : Heap} {Q : Option Value → Heap → List Loc → Prop} (hp : plainFor y = true)
    (body : ∀ p e s m below meth c s₁, meth.sig.returnType = ret → p.tables.exec = Jvm.exec → c.code = bytes → meth.locks = false → c.maxLocals = maxL → s.vm.findClass y.cls = some m.cls → meth.name = y.name → Stand p l e rm s m as below meth c s₁ [] 0 0 → s₁.heap = h0 → Z.Warmed39 s.vm → s.heap = h0 →
      Goes p e below (fun o u L => FrameEnd s o u L rm.cells rm.slots) Q (s₁.setTop (entryFrame m as maxL))) : Met l Z y bytes maxL ret rm ws as h0 Q := by
  refine MetFree.of_bodySF hp hisR ?_
  intro p e s m args below meth c s₁ Bd hml0 hP hK
  obtain ⟨rfl, hZ, hh⟩ := hP
  exact body p e s m below meth c s₁ Bd.returns Bd.exec Bd.bytes (BodyLoose.notSynchronized Bd) hml0 (findClass_of_methodNamed Bd.named) (name_of_methodNamed Bd.named Bd.method).1 (Stand.of_body Bd) (by rw [← hh, Bd.state]; rfl) hZ hh
theorem Goes.ret (X : Stand p l e R s m args below meth c T locs cells slots) {rc rs : Nat} {Q : Option Value → Heap → List Loc → Prop} {B : State} (v : Option Value) (hv : meth.sig.returnType = none → v = none) (hlk : meth.locks = false) (hc : cells ≤ rc) (hs : slots ≤ rs) (q : Q v T.heap locs)
    (k : ∀ fs, (∀ (f : JFrame) (acts : List Action), f.method = m → f.locked = none → f.entered = [] → (doReturn e (T.setTop f) acts v).1 = T.setFrames fs) → Steps p.tables e below B (T.setFrames fs)) : Goes p e below (fun o u L => FrameEnd s o u L rc rs) Q B := by
  obtain ⟨fs, hr, hrun, hended, hW, hsame⟩ := X.leave (v := v) hv hlk
  exact ⟨_, _, k fs hr, hrun, hended, _, _, rfl, q, ⟨_, rfl⟩, hW, hsame.mono hc hs⟩
theorem own_metH {Z : State} {y : MethodName} {bytes : ByteArray} {maxL : Nat} {ret : Option FieldType} {rm : Room} {ws : List Jvm.Cond} {as : Array Value} {h0 : Heap} {Q : Option Value → Heap → List Loc → Prop} (hp : plainFor y = true)
    (body : ∀ p e s m below meth c s₁, meth.sig.returnType = ret → p.tables.exec = Jvm.exec → c.code = bytes → meth.locks = false → c.maxLocals = maxL → (s.setVm s.vm).vm.findClass y.cls = some m.cls → meth.name = y.name → Stand p l e rm (s.setVm s.vm) m as below meth c s₁ [] 0 0 → s₁.heap = h0 → Z.Warmed39 s.vm → s.heap = h0 → CHv Z consts_1 s.vm h0 →
      Goes p e below (fun o u L => CHr Z consts_1 s.vm s.heap u.vm u.heap ∧ ReturnedEndW s o u L rm.cells rm.slots) Q (s₁.setTop (entryFrame m as maxL))) : MetH l Z y bytes maxL ret rm ws as h0 Q := by
  refine MetFree.of_bodySF hp hisR ?_
  intro p e s m args below meth c s₁ Bd hml0 hP hK
  obtain ⟨rfl, hZ, hh, hC⟩ := hP
  exact body p e s m below meth c s₁ Bd.returns Bd.exec Bd.bytes (BodyLoose.notSynchronized Bd) hml0 (findClass_of_methodNamed Bd.named) (name_of_methodNamed Bd.named Bd.method).1 (Stand.of_body Bd) (by rw [← hh, Bd.state]; rfl) hZ hh hC
theorem Goes.retH {Z : State} {a0 : Array Value} {h0 h : Heap} {vm₁ : Vm} (X : Stand p l e R (s.setVm vm₁) m args below meth c T locs cells slots) {n : Nat} (hS : s.Since vm₁ n) (eT : T.heap = h) (hn : n ≤ h.size) (hZ : Z.Warmed39 (s.setVm vm₁).vm) (hEL : EW Z a0 consts_1) (hh : s.heap = h0) (hR : CHr Z consts_1 s.vm h0 vm₁ h) {rc rs : Nat} {Q : Option Value → Heap → List Loc → Prop} {B : State} (v : Option Value) (hv : meth.sig.returnType = none → v = none) (hlk : meth.locks = false) (hc : cells ≤ rc) (hs : slots ≤ rs) (q : Q v T.heap locs)
    (k : ∀ fs, (∀ (f : JFrame) (acts : List Action), f.method = m → f.locked = none → f.entered = [] → (doReturn e (T.setTop f) acts v).1 = T.setFrames fs) → Steps p.tables e below B (T.setFrames fs)) : Goes p e below (fun o u L => CHr Z consts_1 s.vm s.heap u.vm u.heap ∧ ReturnedEndW s o u L rc rs) Q B := by
  subst eT hh
  obtain ⟨fs, hr, hrun, hended, h1, h2, h3, h4⟩ := X.leaveW hS hn (v := v) hv hlk
  have A := hR.trans (CHv.at X hZ hEL hR.1)
  exact ⟨_, _, k fs hr, hrun, hended, _, _, rfl, q, A, h1, h2, h3, h4.mono hc hs⟩
theorem own_retN (X : Stand p l e R s m args below meth c T locs cells slots) (hx : p.tables.exec = Jvm.exec) {pc : Nat} {Ls : Array Slot} {z : Int32} {t : FieldType} {rest : List Value} (hret : meth.sig.returnType = some t) (ht : t = .boolean ∨ t = .byte ∨ t = .char ∨ t = .short) (hn : nar t z = z) (hd : decode c.code pc = .ok (.ireturn, 1)) {fs : List Frame}
    (hl : ∀ (f : JFrame) (acts : List Action), f.method = m → f.locked = none → f.entered = [] → (doReturn e (T.setTop f) acts (some (.int z))).1 = T.setFrames fs) : Steps p.tables e below (T.setTop (mkF m pc Ls (.int z :: rest))) (T.setFrames fs) :=
  retN X hx hret ht hd (by rw [hn]; exact hl)
theorem own_retA (X : Stand p l e R s m args below meth c T locs cells slots) (hx : p.tables.exec = Jvm.exec) {pc : Nat} {Ls : Array Slot} {z : Value} {t : FieldType} {rest : List Value} (hret : meth.sig.returnType = some t) (ht : t.isReference = true) (hz : z.isRef = true) (hd : decode c.code pc = .ok (.areturn, 1)) {fs : List Frame}
    (hl : ∀ (f : JFrame) (acts : List Action), f.method = m → f.locked = none → f.entered = [] → (doReturn e (T.setTop f) acts (some z)).1 = T.setFrames fs) : Steps p.tables e below (T.setTop (mkF m pc Ls (z :: rest))) (T.setFrames fs) := by
  have hm' : T.vm.method? m = some meth := X.method'
  show Steps p.tables e below (T.setTop { method := m, pc := pc, locals := Ls, stack := _ :: rest, locked := none }) _
  jvm_step X.here [X.here.top, hx, hd, hm', hret, hz, ht]
  first | (intro acts; rw [hl _ acts rfl rfl rfl]) | rw [hl _ _ rfl rfl rfl]
  exact Steps.refl _
end OwnSteps
abbrev mN0 : MethodName := ⟨"java/lang/String", "coder", "()B"⟩
abbrev mN1 : MethodName := ⟨"java/lang/String", "isLatin1", "()Z"⟩
abbrev mN2 : MethodName := ⟨"java/lang/String", "length", "()I"⟩
abbrev mN3 : MethodName := ⟨"jdk/internal/util/Preconditions", "checkIndex", "(IILjava/util/function/BiFunction;)I"⟩
abbrev mN4 : MethodName := ⟨"java/lang/String", "checkIndex", "(II)V"⟩
abbrev mN5 : MethodName := ⟨"java/lang/StringLatin1", "charAt", "([BI)C"⟩
abbrev mN6 : MethodName := ⟨"java/lang/String", "charAt", "(I)C"⟩
abbrev mN7 : MethodName := ⟨"java/lang/StringUTF16", "compress", "([CI[BII)I"⟩
abbrev mN8 : MethodName := ⟨"java/lang/StringUTF16", "compress", "([CII)[B"⟩
abbrev mN9 : MethodName := ⟨"java/lang/StringUTF16", "coderFromArrayLen", "([BI)B"⟩
abbrev mN10 : MethodName := ⟨"java/lang/String", "<init>", "([CIILjava/lang/Void;)V"⟩
abbrev mN11 : MethodName := ⟨"java/lang/String", "<init>", "([C)V"⟩
abbrev mN12 : MethodName := ⟨"java/lang/Record", "<init>", "()V"⟩
abbrev mN13 : MethodName := ⟨"com/example/modest_billing/modestbilling/Money$Shape", "<init>", "(II)V"⟩
abbrev mN14 : MethodName := ⟨"com/example/modest_billing/modestbilling/Money$Shape", "signum", "()I"⟩
abbrev mN15 : MethodName := ⟨"java/util/Objects", "requireNonNull", "(Ljava/lang/Object;Ljava/lang/String;)Ljava/lang/Object;"⟩
abbrev mN16 : MethodName := ⟨"com/example/modest_billing/modestbilling/MoneySignOfPinLaw", "digit", "(I)C"⟩
abbrev mN17 : MethodName := ⟨"com/example/modest_billing/modestbilling/Money", "isAsciiDigit", "(C)Z"⟩
abbrev mN18 : MethodName := ⟨"com/example/modest_billing/modestbilling/MoneySignOfPinLaw", "text", "(ZIICCCC)Ljava/lang/String;"⟩
abbrev mN19 : MethodName := ⟨"jdk/internal/util/ArraysSupport", "mismatch", "([BI[BII)I"⟩
abbrev mN20 : MethodName := ⟨"java/lang/String", "startsWith", "(Ljava/lang/String;I)Z"⟩
abbrev mN21 : MethodName := ⟨"java/lang/String", "startsWith", "(Ljava/lang/String;)Z"⟩
abbrev mN22 : MethodName := ⟨"com/example/modest_billing/modestbilling/Money", "checkSyntax", "(Ljava/lang/String;)Lcom/example/modest_billing/modestbilling/Money$Shape;"⟩
abbrev mN23 : MethodName := ⟨"com/example/modest_billing/modestbilling/Money", "signOf", "(Ljava/lang/String;)I"⟩
abbrev vi (x : Int32) : Slot := .val (.int x)
abbrev vr (x : Addr) : Slot := .val (.ref x)
abbrev vu : Slot := .unset
abbrev fT (T : State) (m : MethodId) (pc : Nat) (ls : Array Slot) (st : List Value) : State := T.setTop (mkF m pc ls st)
theorem Gz {p : Program} {e : Env} {below : List Frame} {En : Outcome → State → List Loc → Prop} {Q : Option Value → Heap → List Loc → Prop} {A B : State} (st : ∀ {t}, Steps p.tables e below A t → Steps p.tables e below B t) (h : Goes p e below En Q A) : Goes p e below En Q B := Goes.step (fun _ => st) h
abbrev HW (a0 : Array Value) (Z : State) : Prop := ∀ d ∈ tables_1, d.before a0 Z = true
theorem gz {Z s : State} {a0 args : Array Value} {d : Jvm.Cond} (hZ : Z.Warmed39 s.vm) (hw : HW a0 Z) (i : Nat) (h : tables_1[i]? = some d) (hd : (d.onTables && d.keepsFace) = true := by first | rfl | simp [Cond.onTables, Cond.keepsFace, Cond.keeps, Cond.steady]) : d.before args s = true := mvT hZ (gw hw i h) hd
theorem wz {n W : Nat} (h : n = W) : 2 * 0 + n ≤ W := w0 (Nat.le_of_eq h)
theorem gN {p : Program} {l : Launch} {e : Env} {R : Room} {s : State} {m : MethodId} {as : Array Value} {below : List Frame} {meth : Method} {c : Code} {T : State} {L : List Loc} {C S : Nat} {En : Outcome → State → List Loc → Prop} {Q : Option Value → Heap → List Loc → Prop} {code : ByteArray} {g : JFrame} {k : Fin 4} {v : Int32} (X : Stand p l e R s m as below meth c T L C S) (hx : p.tables.exec = Jvm.exec) (hby : c.code = code) (hd : decode code g.pc = .ok (.iload_n k, 1)) (hg : g.method = m) (hl : g.locals[k.val]? = some (.val (.int v))) (h : Goes p e below En Q (T.setTop { g with pc := g.pc + 1, stack := .int v :: g.stack })) : Goes p e below En Q (T.setTop g) := Gz (XS.iloadN X.here hx hg (hb hby hd) hl) h
theorem gI {p : Program} {l : Launch} {e : Env} {R : Room} {s : State} {m : MethodId} {as : Array Value} {below : List Frame} {meth : Method} {c : Code} {T : State} {L : List Loc} {C S : Nat} {En : Outcome → State → List Loc → Prop} {Q : Option Value → Heap → List Loc → Prop} {code : ByteArray} {g : JFrame} {k : Nat} {v : Int32} (X : Stand p l e R s m as below meth c T L C S) (hx : p.tables.exec = Jvm.exec) (hby : c.code = code) (hd : decode code g.pc = .ok (.iload k, 2)) (hg : g.method = m) (hl : g.locals[k]? = some (.val (.int v))) (h : Goes p e below En Q (T.setTop { g with pc := g.pc + 2, stack := .int v :: g.stack })) : Goes p e below En Q (T.setTop g) := Gz (XS.iload X.here hx hg (hb hby hd) hl) h
theorem gA {p : Program} {l : Launch} {e : Env} {R : Room} {s : State} {m : MethodId} {as : Array Value} {below : List Frame} {meth : Method} {c : Code} {T : State} {L : List Loc} {C S : Nat} {En : Outcome → State → List Loc → Prop} {Q : Option Value → Heap → List Loc → Prop} {code : ByteArray} {g : JFrame} {k : Fin 4} {v : Value} (X : Stand p l e R s m as below meth c T L C S) (hx : p.tables.exec = Jvm.exec) (hby : c.code = code) (hd : decode code g.pc = .ok (.aload_n k, 1)) (hg : g.method = m) (hl : g.locals[k.val]? = some (.val v)) (hv : v.isRef = true) (h : Goes p e below En Q (T.setTop { g with pc := g.pc + 1, stack := v :: g.stack })) : Goes p e below En Q (T.setTop g) := Gz (XS.aloadN X.here hx hg (hb hby hd) hl hv) h
abbrev DK (c : ByteArray) (pc : Nat) (i : Instr) (n : Nat) : Prop := decode c pc = .ok (i, n)
theorem gS {p : Program} {l : Launch} {e : Env} {R : Room} {s : State} {m : MethodId} {as : Array Value} {below : List Frame} {meth : Method} {c : Code} {T : State} {L : List Loc} {C S : Nat} {En : Outcome → State → List Loc → Prop} {Q : Option Value → Heap → List Loc → Prop} {code : ByteArray} {g : JFrame} {k : Nat} {x : Int32} {rest : List Value} (X : Stand p l e R s m as below meth c T L C S) (hx : p.tables.exec = Jvm.exec) (hby : c.code = code) (hd : decode code g.pc = .ok (.istore k, 2)) (l' : Array Slot) (h : Goes p e below En Q (T.setTop { g with pc := g.pc + 2, stack := rest, locals := l' })) (hg : g.method = m := by rfl) (hs : g.stack = .int x :: rest := by rfl) (hl : storeLocals g.locals k (.int x) = some l' := by rfl) : Goes p e below En Q (T.setTop g) := Gz (XS.istore X.here hx hg (hb hby hd) hs hl) h
theorem gs {p : Program} {l : Launch} {e : Env} {R : Room} {s : State} {m : MethodId} {as : Array Value} {below : List Frame} {meth : Method} {c : Code} {T : State} {L : List Loc} {C S : Nat} {En : Outcome → State → List Loc → Prop} {Q : Option Value → Heap → List Loc → Prop} {code : ByteArray} {g : JFrame} {k : Fin 4} {x : Int32} {rest : List Value} (X : Stand p l e R s m as below meth c T L C S) (hx : p.tables.exec = Jvm.exec) (hby : c.code = code) (hd : decode code g.pc = .ok (.istore_n k, 1)) (l' : Array Slot) (h : Goes p e below En Q (T.setTop { g with pc := g.pc + 1, stack := rest, locals := l' })) (hg : g.method = m := by rfl) (hs : g.stack = .int x :: rest := by rfl) (hl : storeLocals g.locals k.val (.int x) = some l' := by rfl) : Goes p e below En Q (T.setTop g) := Gz (XS.istoreN X.here hx hg (hb hby hd) hs hl) h
theorem gC {p : Program} {l : Launch} {e : Env} {R : Room} {s : State} {m : MethodId} {as : Array Value} {below : List Frame} {meth : Method} {c : Code} {T : State} {L : List Loc} {C S : Nat} {En : Outcome → State → List Loc → Prop} {Q : Option Value → Heap → List Loc → Prop} {code : ByteArray} {g : JFrame} {i : Int} (X : Stand p l e R s m as below meth c T L C S) (hx : p.tables.exec = Jvm.exec) (hby : c.code = code) (hd : decode code g.pc = .ok (.iconst i, 1)) (h : Goes p e below En Q (T.setTop { g with pc := g.pc + 1, stack := .int (Int32.ofInt i) :: g.stack })) (hg : g.method = m := by rfl) : Goes p e below En Q (T.setTop g) := Gz (XS.iconst X.here hx hg (hb hby hd)) h
theorem gB {p : Program} {l : Launch} {e : Env} {R : Room} {s : State} {m : MethodId} {as : Array Value} {below : List Frame} {meth : Method} {c : Code} {T : State} {L : List Loc} {C S : Nat} {En : Outcome → State → List Loc → Prop} {Q : Option Value → Heap → List Loc → Prop} {code : ByteArray} {g : JFrame} {i : Int} (X : Stand p l e R s m as below meth c T L C S) (hx : p.tables.exec = Jvm.exec) (hby : c.code = code) (hd : decode code g.pc = .ok (.bipush i, 2)) (h : Goes p e below En Q (T.setTop { g with pc := g.pc + 2, stack := .int (Int8.ofInt i).toInt32 :: g.stack })) (hg : g.method = m := by rfl) : Goes p e below En Q (T.setTop g) := Gz (XS.bipush X.here hx hg (hb hby hd)) h
theorem gG {p : Program} {l : Launch} {e : Env} {R : Room} {s : State} {m : MethodId} {as : Array Value} {below : List Frame} {meth : Method} {c : Code} {T : State} {L : List Loc} {C S : Nat} {En : Outcome → State → List Loc → Prop} {Q : Option Value → Heap → List Loc → Prop} {code : ByteArray} {g : JFrame} {o : Int} (X : Stand p l e R s m as below meth c T L C S) (hx : p.tables.exec = Jvm.exec) (hby : c.code = code) (hd : decode code g.pc = .ok (.goto o, 3)) (pc0 pc' : Nat) (h : Goes p e below En Q (T.setTop { g with pc := pc' })) (hg : g.method = m := by rfl) (hpc : g.pc = pc0 := by rfl) (ho : 0 ≤ (pc0 : Int) + o := by decide) (hp : ((pc0 : Int) + o).toNat = pc' := by decide) : Goes p e below En Q (T.setTop g) := Gz (XS.goto X.here hx hg hpc (hb hby hd) ho hp) h
theorem gY {p : Program} {l : Launch} {e : Env} {R : Room} {s : State} {m : MethodId} {as : Array Value} {below : List Frame} {meth : Method} {c : Code} {T : State} {L : List Loc} {C S : Nat} {En : Outcome → State → List Loc → Prop} {Q : Option Value → Heap → List Loc → Prop} {code : ByteArray} {g : JFrame} {cd : ClassFile.Cond} {o : Int} {x y : Int32} {rest : List Value} (X : Stand p l e R s m as below meth c T L C S) (hx : p.tables.exec = Jvm.exec) (hby : c.code = code) (hd : decode code g.pc = .ok (.if_icmp cd o, 3)) (pc0 pc' : Nat) (hc : if_icmp.holds cd x y = true) (h : Goes p e below En Q (T.setTop { g with pc := pc', stack := rest })) (hg : g.method = m := by rfl) (hpc : g.pc = pc0 := by rfl) (hs : g.stack = .int y :: .int x :: rest := by rfl) (ho : 0 ≤ (pc0 : Int) + o := by decide) (hp : ((pc0 : Int) + o).toNat = pc' := by decide) : Goes p e below En Q (T.setTop g) := Gz (XS.icmpYes X.here hx hg hpc (hb hby hd) hs hc ho hp) h
theorem gU {p : Program} {l : Launch} {e : Env} {R : Room} {s : State} {m : MethodId} {as : Array Value} {below : List Frame} {meth : Method} {c : Code} {T : State} {L : List Loc} {C S : Nat} {En : Outcome → State → List Loc → Prop} {Q : Option Value → Heap → List Loc → Prop} {code : ByteArray} {g : JFrame} {cd : ClassFile.Cond} {o : Int} {x y : Int32} {rest : List Value} (X : Stand p l e R s m as below meth c T L C S) (hx : p.tables.exec = Jvm.exec) (hby : c.code = code) (hd : decode code g.pc = .ok (.if_icmp cd o, 3)) (hc : if_icmp.holds cd x y = false) (h : Goes p e below En Q (T.setTop { g with pc := g.pc + 3, stack := rest })) (hg : g.method = m := by rfl) (hs : g.stack = .int y :: .int x :: rest := by rfl) : Goes p e below En Q (T.setTop g) := Gz (XS.icmpNo X.here hx hg (hb hby hd) hs hc) h
theorem gy {p : Program} {l : Launch} {e : Env} {R : Room} {s : State} {m : MethodId} {as : Array Value} {below : List Frame} {meth : Method} {c : Code} {T : State} {L : List Loc} {C S : Nat} {En : Outcome → State → List Loc → Prop} {Q : Option Value → Heap → List Loc → Prop} {code : ByteArray} {g : JFrame} {cd : ClassFile.Cond} {o : Int} {x : Int32} {rest : List Value} (X : Stand p l e R s m as below meth c T L C S) (hx : p.tables.exec = Jvm.exec) (hby : c.code = code) (hd : decode code g.pc = .ok (.ifCond cd o, 3)) (pc0 pc' : Nat) (hc : ifCond.holds cd x = true) (h : Goes p e below En Q (T.setTop { g with pc := pc', stack := rest })) (hg : g.method = m := by rfl) (hpc : g.pc = pc0 := by rfl) (hs : g.stack = .int x :: rest := by rfl) (ho : 0 ≤ (pc0 : Int) + o := by decide) (hp : ((pc0 : Int) + o).toNat = pc' := by decide) : Goes p e below En Q (T.setTop g) := Gz (XS.ifYes X.here hx hg hpc (hb hby hd) hs hc ho hp) h
theorem gu {p : Program} {l : Launch} {e : Env} {R : Room} {s : State} {m : MethodId} {as : Array Value} {below : List Frame} {meth : Method} {c : Code} {T : State} {L : List Loc} {C S : Nat} {En : Outcome → State → List Loc → Prop} {Q : Option Value → Heap → List Loc → Prop} {code : ByteArray} {g : JFrame} {cd : ClassFile.Cond} {o : Int} {x : Int32} {rest : List Value} (X : Stand p l e R s m as below meth c T L C S) (hx : p.tables.exec = Jvm.exec) (hby : c.code = code) (hd : decode code g.pc = .ok (.ifCond cd o, 3)) (hc : ifCond.holds cd x = false) (h : Goes p e below En Q (T.setTop { g with pc := g.pc + 3, stack := rest })) (hg : g.method = m := by rfl) (hs : g.stack = .int x :: rest := by rfl) : Goes p e below En Q (T.setTop g) := Gz (XS.ifNo X.here hx hg (hb hby hd) hs hc) h
theorem cVg {Z : State} {a0 : Array Value} {p : Program} {l : Launch} {e : Env} {R : Room} {s : State} {m : MethodId} {args : Array Value} {below : List Frame} {meth : Method} {c : Code} {T : State} {locs : List Loc} {cells slots : Nat} {En : Outcome → State → List Loc → Prop} {Q : Option Value → Heap → List Loc → Prop} {h : Heap} {ml : Nat} {code bytes : ByteArray} {maxL idx : Nat} {ret : Option FieldType} {rm : Room} {vs : Array Value} {Qc : Option Value → Heap → List Loc → Prop} {own C : String} {argsL rest st : List Value} {pc : Nat} {ls : Array Slot} {A : State} (X : Stand p l e R s m args below meth c T locs cells slots) (hx : p.tables.exec = Jvm.exec) (hZ : Z.Warmed39 s.vm) (hw : HW a0 Z) (hown : s.vm.findClass own = some m.cls) (hby : c.code = code) (hml : c.maxLocals = ml) (eT : T.heap = h) (y : MethodName) (i1 i2 i3 i4 i5 i6 W : Nat) (hM : Met l Z y bytes maxL ret rm [] vs h Qc) {b : Addr} (E : Exa Z h b C) (hd : decode code pc = .ok (.invokevirtual idx, 3)) (len : ∀ sig, parseMethodDescriptor y.desc = some sig → argsL.length = sig.parameters.length) (k : ∀ (v : Option Value) (T' : State) (L : List Loc), Stand p l e R s m args below meth c T' (locs ++ L) (cells + rm.cells) (slots + rm.slots) → Qc v T'.heap L → Goes p e below En Q (T'.setTop (mkF m (pc + 3) ls (v.toList ++ rest))))(hA : A = T.setTop (mkF m pc ls st) := by rfl) (w1 : tables_1[i1]? = some (.methodLink own idx y) := by rfl) (w2 : tables_1[i2]? = some (.declares y) := by rfl) (w3 : tables_1[i3]? = some (.selects C y y) := by rfl) (w4 : tables_1[i4]? = some (.instanceMethod y) := by rfl) (w5 : tables_1[i5]? = some (.code y bytes maxL ret) := by rfl) (w6 : tables_1[i6]? = some (.initialized y.cls) := by rfl) (hy : y.cls ≠ "java/lang/invoke/MethodHandle" ∧ y.cls ≠ "java/lang/invoke/VarHandle" := by decide) (hf : rm.frames + 1 ≤ R.frames := by decide) (hl : W + (maxL + 11) + rm.locals ≤ R.locals := by decide) (hc : cells + rm.cells ≤ R.cells := by decide) (hs : slots + rm.slots ≤ R.slots := by decide) (hls : ls.size = ml := by rfl) (hvs : vs = (.ref b :: argsL).toArray := by rfl) (hst : st = argsL.reverse ++ .ref b :: rest := by rfl) (hW : (rest.map fun v => v.category).sum = W := by rfl) : Goes p e below En Q A := by
  subst hA
  obtain ⟨cq, kq, qa, qb, qc⟩ := isOf hZ eT E
  subst hvs
  obtain ⟨v, _, ⟨T', L', k', n'⟩, -, X', ⟨Lc, hQ, l', y', z'⟩, st'⟩ := X.virtualBack hx (y := y) (z := y) hown (gz hZ hw i1 w1) (gz hZ hw i2 w2) (notFace_of_selects (args := #[]) (gz hZ hw i3 w3)) (gz hZ hw i3 w3) (gz hZ hw i4 w4) hy (backOf (W := W) hM hZ (gw hw i5 w5) (gw hw i6 w6) hf hl) qa qc (g := mkF m pc ls st) rfl (hls.trans hml.symm) (Steps.refl _) (argsL := argsL) (rest := rest) len hst (w0 (Nat.le_of_eq hW)) (hb hby hd) (fun _ _ => ⟨rfl, eT, hc, hs⟩)
  dsimp only [Pt.U, Pt.locs, Pt.cells, Pt.slots] at X' l' y' z' st' hQ
  subst l' y' z'
  exact Gs (fun _ tk => st'.trans tk) (k v T' Lc X' hQ)
theorem cV {n0 : Nat} {r : Option Value} {Z : State} {a0 : Array Value} {p : Program} {l : Launch} {e : Env} {R : Room} {s : State} {m : MethodId} {args : Array Value} {below : List Frame} {meth : Method} {c : Code} {T : State} {locs : List Loc} {cells slots : Nat} {En : Outcome → State → List Loc → Prop} {Q : Option Value → Heap → List Loc → Prop} {h : Heap} {ml : Nat} {code bytes : ByteArray} {maxL idx : Nat} {ret : Option FieldType} {rm : Room} {vs : Array Value} {Qc : Option Value → Heap → List Loc → Prop} {own C : String} {argsL rest st : List Value} {pc : Nat} {ls : Array Slot} {A : State} (X : Stand p l e R s m args below meth c T locs cells slots) (hx : p.tables.exec = Jvm.exec) (hZ : Z.Warmed39 s.vm) (hw : HW a0 Z) (hown : s.vm.findClass own = some m.cls) (hby : c.code = code) (hml : c.maxLocals = ml) (eT : T.heap = h) (y : MethodName) (i1 i2 i3 i4 i5 i6 W : Nat) (hM : Met l Z y bytes maxL ret rm [] vs h Qc) {b : Addr} (E : Exa Z h b C) (hd : decode code pc = .ok (.invokevirtual idx, 3)) (len : ∀ sig, parseMethodDescriptor y.desc = some sig → argsL.length = sig.parameters.length) (N : Fr n0 locs) (k : ∀ (T' : State) (L : List Loc), Stand p l e R s m args below meth c T' L cells slots → T'.heap = h → Fr n0 L → Goes p e below En Q (T'.setTop (mkF m (pc + 3) ls (r.toList ++ rest))))(hA : A = T.setTop (mkF m pc ls st) := by rfl) (w1 : tables_1[i1]? = some (.methodLink own idx y) := by rfl) (w2 : tables_1[i2]? = some (.declares y) := by rfl) (w3 : tables_1[i3]? = some (.selects C y y) := by rfl) (w4 : tables_1[i4]? = some (.instanceMethod y) := by rfl) (w5 : tables_1[i5]? = some (.code y bytes maxL ret) := by rfl) (w6 : tables_1[i6]? = some (.initialized y.cls) := by rfl) (hy : y.cls ≠ "java/lang/invoke/MethodHandle" ∧ y.cls ≠ "java/lang/invoke/VarHandle" := by decide) (hf : rm.frames + 1 ≤ R.frames := by decide) (hl : W + (maxL + 11) + rm.locals ≤ R.locals := by decide) (hc : cells + rm.cells ≤ R.cells := by decide) (hs : slots + rm.slots ≤ R.slots := by decide) (hls : ls.size = ml := by rfl) (hvs : vs = (.ref b :: argsL).toArray := by rfl) (hst : st = argsL.reverse ++ .ref b :: rest := by rfl) (hW : (rest.map fun v => v.category).sum = W := by rfl)(hQ : ∀ v h' L, Qc v h' L → v = r ∧ Fr n0 L ∧ h' = h := by exact fun _ _ _ q => q) (c0 : rm.cells = 0 := by rfl) (s0 : rm.slots = 0 := by rfl)  : Goes p e below En Q A := by
  subst hA
  refine cVg X hx hZ hw hown hby hml eT y i1 i2 i3 i4 i5 i6 W hM E hd len (fun v T' L X' q => ?_) rfl w1 w2 w3 w4 w5 w6 hy hf hl hc hs hls hvs hst hW
  obtain ⟨rfl, N', e'⟩ := hQ _ _ _ q
  rw [c0, s0] at X'
  exact k T' _ X' e' (N.app N')
theorem cSg {Z : State} {a0 : Array Value} {p : Program} {l : Launch} {e : Env} {R : Room} {s : State} {m : MethodId} {args : Array Value} {below : List Frame} {meth : Method} {c : Code} {T : State} {locs : List Loc} {cells slots : Nat} {En : Outcome → State → List Loc → Prop} {Q : Option Value → Heap → List Loc → Prop} {h : Heap} {ml : Nat} {code bytes : ByteArray} {maxL idx : Nat} {ret : Option FieldType} {rm : Room} {vs : Array Value} {Qc : Option Value → Heap → List Loc → Prop} {own : String} {argsL rest st : List Value} {pc : Nat} {ls : Array Slot} {A : State} (X : Stand p l e R s m args below meth c T locs cells slots) (hx : p.tables.exec = Jvm.exec) (hZ : Z.Warmed39 s.vm) (hw : HW a0 Z) (hown : s.vm.findClass own = some m.cls) (hby : c.code = code) (hml : c.maxLocals = ml) (eT : T.heap = h) (y : MethodName) (i1 i2 i5 i6 W : Nat) (hM : Met l Z y bytes maxL ret rm [] vs h Qc) (hd : decode code pc = .ok (.invokestatic idx, 3)) (len : ∀ sig, parseMethodDescriptor y.desc = some sig → argsL.length = sig.parameters.length) (k : ∀ (v : Option Value) (T' : State) (L : List Loc), Stand p l e R s m args below meth c T' (locs ++ L) (cells + rm.cells) (slots + rm.slots) → Qc v T'.heap L → Goes p e below En Q (T'.setTop (mkF m (pc + 3) ls (v.toList ++ rest))))(hA : A = T.setTop (mkF m pc ls st) := by rfl) (w1 : tables_1[i1]? = some (.methodLink own idx y) := by rfl) (w2 : tables_1[i2]? = some (.static y) := by rfl) (w5 : tables_1[i5]? = some (.code y bytes maxL ret) := by rfl) (w6 : tables_1[i6]? = some (.initialized y.cls) := by rfl) (hy : y.cls ≠ "java/lang/invoke/MethodHandle" ∧ y.cls ≠ "java/lang/invoke/VarHandle" := by decide) (hf : rm.frames + 1 ≤ R.frames := by decide) (hl : W + (maxL + 11) + rm.locals ≤ R.locals := by decide) (hc : cells + rm.cells ≤ R.cells := by decide) (hs : slots + rm.slots ≤ R.slots := by decide) (hls : ls.size = ml := by rfl) (hvs : vs = (argsL).toArray := by rfl) (hst : st = argsL.reverse ++ rest := by rfl) (hW : (rest.map fun v => v.category).sum = W := by rfl) : Goes p e below En Q A := by
  subst hA
  subst hvs
  obtain ⟨v, _, ⟨T', L', k', n'⟩, -, X', ⟨Lc, hQ, l', y', z'⟩, st'⟩ := Jvm.LawKit.callS X hx (y := y) hown (gz hZ hw i1 w1) (gz hZ hw i2 w2) (gz hZ hw i6 w6) (gz hZ hw i5 w5) hy (backOf (W := W) hM hZ (gw hw i5 w5) (gw hw i6 w6) hf hl) (g := mkF m pc ls st) rfl (hls.trans hml.symm) (argsL := argsL) (rest := rest) len hst (w0 (Nat.le_of_eq hW)) (hb hby hd) (fun _ _ => ⟨rfl, eT, hc, hs⟩)
  dsimp only [Pt.U, Pt.locs, Pt.cells, Pt.slots] at X' l' y' z' st' hQ
  subst l' y' z'
  exact Gs st' (k v T' Lc X' hQ)
theorem cS {n0 : Nat} {r : Option Value} {Z : State} {a0 : Array Value} {p : Program} {l : Launch} {e : Env} {R : Room} {s : State} {m : MethodId} {args : Array Value} {below : List Frame} {meth : Method} {c : Code} {T : State} {locs : List Loc} {cells slots : Nat} {En : Outcome → State → List Loc → Prop} {Q : Option Value → Heap → List Loc → Prop} {h : Heap} {ml : Nat} {code bytes : ByteArray} {maxL idx : Nat} {ret : Option FieldType} {rm : Room} {vs : Array Value} {Qc : Option Value → Heap → List Loc → Prop} {own : String} {argsL rest st : List Value} {pc : Nat} {ls : Array Slot} {A : State} (X : Stand p l e R s m args below meth c T locs cells slots) (hx : p.tables.exec = Jvm.exec) (hZ : Z.Warmed39 s.vm) (hw : HW a0 Z) (hown : s.vm.findClass own = some m.cls) (hby : c.code = code) (hml : c.maxLocals = ml) (eT : T.heap = h) (y : MethodName) (i1 i2 i5 i6 W : Nat) (hM : Met l Z y bytes maxL ret rm [] vs h Qc) (hd : decode code pc = .ok (.invokestatic idx, 3)) (len : ∀ sig, parseMethodDescriptor y.desc = some sig → argsL.length = sig.parameters.length) (N : Fr n0 locs) (k : ∀ (T' : State) (L : List Loc), Stand p l e R s m args below meth c T' L cells slots → T'.heap = h → Fr n0 L → Goes p e below En Q (T'.setTop (mkF m (pc + 3) ls (r.toList ++ rest))))(hA : A = T.setTop (mkF m pc ls st) := by rfl) (w1 : tables_1[i1]? = some (.methodLink own idx y) := by rfl) (w2 : tables_1[i2]? = some (.static y) := by rfl) (w5 : tables_1[i5]? = some (.code y bytes maxL ret) := by rfl) (w6 : tables_1[i6]? = some (.initialized y.cls) := by rfl) (hy : y.cls ≠ "java/lang/invoke/MethodHandle" ∧ y.cls ≠ "java/lang/invoke/VarHandle" := by decide) (hf : rm.frames + 1 ≤ R.frames := by decide) (hl : W + (maxL + 11) + rm.locals ≤ R.locals := by decide) (hc : cells + rm.cells ≤ R.cells := by decide) (hs : slots + rm.slots ≤ R.slots := by decide) (hls : ls.size = ml := by rfl) (hvs : vs = (argsL).toArray := by rfl) (hst : st = argsL.reverse ++ rest := by rfl) (hW : (rest.map fun v => v.category).sum = W := by rfl)(hQ : ∀ v h' L, Qc v h' L → v = r ∧ Fr n0 L ∧ h' = h := by exact fun _ _ _ q => q) (c0 : rm.cells = 0 := by rfl) (s0 : rm.slots = 0 := by rfl)  : Goes p e below En Q A := by
  subst hA
  refine cSg X hx hZ hw hown hby hml eT y i1 i2 i5 i6 W hM  hd len (fun v T' L X' q => ?_) rfl w1 w2 w5 w6 hy hf hl hc hs hls hvs hst hW
  obtain ⟨rfl, N', e'⟩ := hQ _ _ _ q
  rw [c0, s0] at X'
  exact k T' _ X' e' (N.app N')
theorem cIg {Z : State} {a0 : Array Value} {p : Program} {l : Launch} {e : Env} {R : Room} {s : State} {m : MethodId} {args : Array Value} {below : List Frame} {meth : Method} {c : Code} {T : State} {locs : List Loc} {cells slots : Nat} {En : Outcome → State → List Loc → Prop} {Q : Option Value → Heap → List Loc → Prop} {h : Heap} {ml : Nat} {code bytes : ByteArray} {maxL idx : Nat} {rm : Room} {vs : Array Value} {Qc : Option Value → Heap → List Loc → Prop} {own : String} {argsL rest st : List Value} {pc : Nat} {ls : Array Slot} {A : State} (X : Stand p l e R s m args below meth c T locs cells slots) (hx : p.tables.exec = Jvm.exec) (hZ : Z.Warmed39 s.vm) (hw : HW a0 Z) (hown : s.vm.findClass own = some m.cls) (hby : c.code = code) (hml : c.maxLocals = ml) (eT : T.heap = h) (y : MethodName) (i1 i4 i5 i6 W : Nat) (hM : Met l Z y bytes maxL none rm [] vs h Qc) {b : Addr} (hd : decode code pc = .ok (.invokespecial idx, 3)) (len : ∀ sig, parseMethodDescriptor y.desc = some sig → argsL.length = sig.parameters.length) (k : ∀ (v : Option Value) (T' : State) (L : List Loc), Stand p l e R s m args below meth c T' (locs ++ L) (cells + rm.cells) (slots + rm.slots) → Qc v T'.heap L → Goes p e below En Q (T'.setTop (mkF m (pc + 3) ls (v.toList ++ rest))))(hA : A = T.setTop (mkF m pc ls st) := by rfl) (w1 : tables_1[i1]? = some (.methodLink own idx y) := by rfl) (w4 : tables_1[i4]? = some (.instanceMethod y) := by rfl) (w5 : tables_1[i5]? = some (.code y bytes maxL none) := by rfl) (w6 : tables_1[i6]? = some (.initialized y.cls) := by rfl) (hi : y.name = "<init>" := by rfl) (hy : y.cls ≠ "java/lang/invoke/MethodHandle" ∧ y.cls ≠ "java/lang/invoke/VarHandle" := by decide) (hf : rm.frames + 1 ≤ R.frames := by decide) (hl : W + (maxL + 11) + rm.locals ≤ R.locals := by decide) (hc : cells + rm.cells ≤ R.cells := by decide) (hs : slots + rm.slots ≤ R.slots := by decide) (hls : ls.size = ml := by rfl) (hvs : vs = (.ref b :: argsL).toArray := by rfl) (hst : st = argsL.reverse ++ .ref b :: rest := by rfl) (hW : (rest.map fun v => v.category).sum = W := by rfl) : Goes p e below En Q A := by
  subst hA
  subst hvs
  obtain ⟨v, _, ⟨T', L', k', n'⟩, -, X', ⟨Lc, hQ, l', y', z'⟩, st'⟩ := X.specialBack hx (y := y) hi hown (gz hZ hw i1 w1) (gz hZ hw i4 w4) (gz hZ hw i5 w5) hy (backOf (W := W) hM hZ (gw hw i5 w5) (gw hw i6 w6) hf hl) (g := mkF m pc ls st) rfl (hls.trans hml.symm) (Steps.refl _) (a := b) (argsL := argsL) (rest := rest) len hst (w0 (Nat.le_of_eq hW)) (hb hby hd) (fun _ _ => ⟨rfl, eT, hc, hs⟩)
  dsimp only [Pt.U, Pt.locs, Pt.cells, Pt.slots] at X' l' y' z' st' hQ
  subst l' y' z'
  exact Gs (fun _ tk => st'.trans tk) (k v T' Lc X' hQ)
theorem cI {n0 : Nat} {r : Option Value} {Z : State} {a0 : Array Value} {p : Program} {l : Launch} {e : Env} {R : Room} {s : State} {m : MethodId} {args : Array Value} {below : List Frame} {meth : Method} {c : Code} {T : State} {locs : List Loc} {cells slots : Nat} {En : Outcome → State → List Loc → Prop} {Q : Option Value → Heap → List Loc → Prop} {h : Heap} {ml : Nat} {code bytes : ByteArray} {maxL idx : Nat} {rm : Room} {vs : Array Value} {Qc : Option Value → Heap → List Loc → Prop} {own : String} {argsL rest st : List Value} {pc : Nat} {ls : Array Slot} {A : State} (X : Stand p l e R s m args below meth c T locs cells slots) (hx : p.tables.exec = Jvm.exec) (hZ : Z.Warmed39 s.vm) (hw : HW a0 Z) (hown : s.vm.findClass own = some m.cls) (hby : c.code = code) (hml : c.maxLocals = ml) (eT : T.heap = h) (y : MethodName) (i1 i4 i5 i6 W : Nat) (hM : Met l Z y bytes maxL none rm [] vs h Qc) {b : Addr} (hd : decode code pc = .ok (.invokespecial idx, 3)) (len : ∀ sig, parseMethodDescriptor y.desc = some sig → argsL.length = sig.parameters.length) (N : Fr n0 locs) (k : ∀ (T' : State) (L : List Loc), Stand p l e R s m args below meth c T' L cells slots → T'.heap = h → Fr n0 L → Goes p e below En Q (T'.setTop (mkF m (pc + 3) ls (r.toList ++ rest))))(hA : A = T.setTop (mkF m pc ls st) := by rfl) (w1 : tables_1[i1]? = some (.methodLink own idx y) := by rfl) (w4 : tables_1[i4]? = some (.instanceMethod y) := by rfl) (w5 : tables_1[i5]? = some (.code y bytes maxL none) := by rfl) (w6 : tables_1[i6]? = some (.initialized y.cls) := by rfl) (hi : y.name = "<init>" := by rfl) (hy : y.cls ≠ "java/lang/invoke/MethodHandle" ∧ y.cls ≠ "java/lang/invoke/VarHandle" := by decide) (hf : rm.frames + 1 ≤ R.frames := by decide) (hl : W + (maxL + 11) + rm.locals ≤ R.locals := by decide) (hc : cells + rm.cells ≤ R.cells := by decide) (hs : slots + rm.slots ≤ R.slots := by decide) (hls : ls.size = ml := by rfl) (hvs : vs = (.ref b :: argsL).toArray := by rfl) (hst : st = argsL.reverse ++ .ref b :: rest := by rfl) (hW : (rest.map fun v => v.category).sum = W := by rfl)(hQ : ∀ v h' L, Qc v h' L → v = r ∧ Fr n0 L ∧ h' = h := by exact fun _ _ _ q => q) (c0 : rm.cells = 0 := by rfl) (s0 : rm.slots = 0 := by rfl)  : Goes p e below En Q A := by
  subst hA
  refine cIg X hx hZ hw hown hby hml eT y i1 i4 i5 i6 W hM hd len (fun v T' L X' q => ?_) rfl w1 w4 w5 w6 hi hy hf hl hc hs hls hvs hst hW
  obtain ⟨rfl, N', e'⟩ := hQ _ _ _ q
  rw [c0, s0] at X'
  exact k T' _ X' e' (N.app N')
def Lat (c : Int32) : Prop := 0 ≤ c.toInt ∧ c.toInt ≤ 255
def Chr (c : Int32) : Prop := 0 ≤ c.toInt ∧ c.toInt ≤ 65535
theorem Lat.chr {c : Int32} (h : Lat c) : Chr c := ⟨h.1, by have := h.2; omega⟩
def lo8 (c : Int32) : Int32 := c.toInt8.toInt32
def hi8 (c : Int32) : Int32 := (c >>> ((8 : Int32) &&& 31)).toInt8.toInt32
def latV (cs : List Int32) : List Value := cs.map fun c => .int (lo8 c)
def utfV (cs : List Int32) : List Value := cs.flatMap fun c => [.int (lo8 c), .int (hi8 c)]
theorem own_shr0 (x : Int32) : x >>> ((0 : Int32) &&& 31) = x := by
  apply Int32.toInt_inj.mp
  rw [c_ishr x 0 0 (by decide)]; simp
theorem own_nc {c : Int32} (h : Chr c) : nar .char c = c := by
  have q := c_i2c c
  obtain ⟨h1, h2⟩ := h
  apply Int32.toInt_inj.mp
  show c.toUInt32.toUInt16.toUInt32.toInt32.toInt = c.toInt
  omega
theorem own_nb (c : Int32) : nar .byte (c.toInt8.toInt32) = lo8 c := by
  show (c.toInt8.toInt32).toInt8.toInt32 = c.toInt8.toInt32
  have a := c_i2b c
  have b := c_i2b (c.toInt8.toInt32)
  apply Int32.toInt_inj.mp
  omega
theorem own_nb2 (c : Int32) : c.toInt8.toInt32.toInt8.toInt32 = lo8 c := own_nb c
theorem own_backL {c : Int32} (h : Lat c) : (lo8 c &&& (255 : Int32)) = c := by
  obtain ⟨h1, h2⟩ := h
  have a := c_i2b c
  have b := c_mask (lo8 c) 255 8 (by decide) (by decide)
  apply Int32.toInt_inj.mp
  rw [b]
  show c.toInt8.toInt32.toInt % 256 = c.toInt
  omega
theorem own_i2c {c : Int32} (h : Chr c) : c.toUInt32.toUInt16.toUInt32.toInt32 = c := own_nc h
abbrev JS : String := "java/lang/String"
def StrOf (Z : State) (h : Heap) (a : Addr) (cs : List Int32) : Prop := ∃ (b : Addr) (kb : ClassId), Exa Z h a "java/lang/String" ∧ Fld Z h a "java/lang/String" "value" "[B" (.ref b) ∧
  ((Fld Z h a "java/lang/String" "coder" "B" (.int 0) ∧ (∀ c ∈ cs, Lat c) ∧ Arv Z h b kb .byte (Int32.ofNat cs.length) (latV cs) (.int 0)) ∨ False) ∧ cs.length ≤ 1000
section S
variable {Z : State} {h h' : Heap} {a b o : Addr} {kb : ClassId} {cs : List Int32} {z : Int32} {vs : List Value} {ws : List Addr} {a0 : Array Value}
theorem StrOf.latin (A : Exa Z h a "java/lang/String") (F : Fld Z h a "java/lang/String" "value" "[B" (.ref b)) (C : Fld Z h a "java/lang/String" "coder" "B" (.int 0)) (V : Arv Z h b kb .byte z vs (.int 0)) (hL : ∀ c ∈ cs, Lat c) (hz : z = Int32.ofNat cs.length) (hv : vs = latV cs) (hn : cs.length ≤ 1000) : StrOf Z h a cs := by
  subst hz hv; exact ⟨b, kb, A, F, Or.inl ⟨C, hL, V⟩, hn⟩
theorem StrOf.lt (S : StrOf Z h a cs) : a < h.size := by obtain ⟨b, kb, A, -⟩ := S; exact A.lt
theorem StrOf.exa (S : StrOf Z h a cs) : Exa Z h a "java/lang/String" := by obtain ⟨b, kb, A, -⟩ := S; exact A
theorem StrOf.ext (S : StrOf Z h a cs) (E : Ext h h') : StrOf Z h' a cs := by
  obtain ⟨b, kb, A, F, R, n⟩ := S
  exact ⟨b, kb, A.ext E, F.ext E, R.imp (fun ⟨C, L, V⟩ => ⟨C.ext E, L, V.ext E⟩) id, n⟩
def NB (Z : State) (h : Heap) (x : Addr) : Prop := ∀ (b : Addr) (kb : ClassId) (z : Int32) (vs : List Value) (d : Value), Arv Z h b kb .byte z vs d → x ≠ b
theorem own_nbE {C : String} {n : Nat} (E : Exa Z h o C) (w : (Cond.instantiable C n).before a0 Z = true) : NB Z h o := fun b kb z vs d V => E.neArv V w
theorem StrOf.keep (S : StrOf Z h a cs) (K : Keep h h' ws) (q : ∀ x ∈ ws, x ≠ a ∧ NB Z h x) : StrOf Z h' a cs := by
  obtain ⟨b, kb, A, F, R, n⟩ := S
  have ha : a ∉ ws := fun m => (q a m).1 rfl
  refine ⟨b, kb, A.keep K, F.keep K ha, ?_, n⟩
  rcases R with ⟨C, L, V⟩ | V
  · exact Or.inl ⟨C.keep K ha, L, V.keep K fun m => (q b m).2 _ _ _ _ _ V rfl⟩
  · exact V.elim
theorem StrOf.wr {sl : Nat} {v : Value} (S : StrOf Z h a cs) (W : Wr h h' o sl v) (q : o ≠ a) (r : NB Z h o) : StrOf Z h' a cs := S.keep (Keep.of_wr W) (allS ⟨q, r⟩ all0)
end S
theorem own_latGet {cs : List Int32} {j r : Int32} (h0 : ¬ j < 0) (h1 : j < Int32.ofNat cs.length) (hn : cs.length ≤ 1000) (hr : cs.getD j.toNatClampNeg 0 = r) : (latV cs).getD j.toNatClampNeg (.int 0) = .int (lo8 r) := by
  have hl : (Int32.ofNat cs.length).toInt = cs.length := Int32.toInt_ofNat_of_lt (by omega)
  rw [Int32.lt_iff_toInt_lt, hl] at h1
  rw [Int32.lt_iff_toInt_lt] at h0
  have e0 : (0 : Int32).toInt = 0 := by decide
  have hj : j.toNatClampNeg < cs.length := by simp only [Int32.toNatClampNeg]; omega
  subst hr
  simp [latV, List.getD_eq_getElem?_getD, List.getElem?_map, List.getElem?_eq_getElem hj]
theorem own_idx {cs : List Int32} {j : Int32} (h0 : ¬ j < 0) (h1 : j < Int32.ofNat cs.length) (hn : cs.length ≤ 1000) : j.toNatClampNeg < cs.length := by
  have hl : (Int32.ofNat cs.length).toInt = cs.length := Int32.toInt_ofNat_of_lt (by omega)
  rw [Int32.lt_iff_toInt_lt, hl] at h1
  rw [Int32.lt_iff_toInt_lt] at h0
  have e0 : (0 : Int32).toInt = 0 := by decide
  simp only [Int32.toNatClampNeg]; omega
theorem own_mem {cs : List Int32} {j r : Int32} (h0 : ¬ j < 0) (h1 : j < Int32.ofNat cs.length) (hn : cs.length ≤ 1000) (hr : cs.getD j.toNatClampNeg 0 = r) : r ∈ cs := by
  have hj := own_idx h0 h1 hn
  subst hr
  simp [List.getD_eq_getElem?_getD, List.getElem?_eq_getElem hj]
theorem own_latN {c : Int32} (h : Lat c) : ¬ ((255 : Int32) < c) := by
  obtain ⟨h1, h2⟩ := h
  rw [Int32.lt_iff_toInt_lt]
  have e0 : (255 : Int32).toInt = 255 := by decide
  omega
theorem StrOf.len {Z : State} {h : Heap} {a : Addr} {cs : List Int32} (S : StrOf Z h a cs) : cs.length ≤ 1000 := by obtain ⟨b, kb, -, -, -, n⟩ := S; exact n
theorem own_il {cs : List Int32} (k : Nat) (j : Int32) (hj : j.toInt = k) (h : k < cs.length) (hn : cs.length ≤ 1000) : j < Int32.ofNat cs.length := by
  have hl : (Int32.ofNat cs.length).toInt = cs.length := Int32.toInt_ofNat_of_lt (by omega)
  rw [Int32.lt_iff_toInt_lt, hl, hj]; omega
theorem own_utfAt : ∀ (cs : List Int32) (i : Nat), i < cs.length → (utfV cs).getD (2 * i) (.int 0) = .int (lo8 (cs.getD i 0)) ∧ (utfV cs).getD (2 * i + 1) (.int 0) = .int (hi8 (cs.getD i 0))
  | [], i, h => by simp at h
  | c :: cs, 0, _ => ⟨rfl, rfl⟩
  | c :: cs, i + 1, h => by
    have q := own_utfAt cs i (by simpa using h)
    exact q
theorem own_joinTP {p : Program} {l : Launch} {e : Env} {R : Room} {s : State} {m : MethodId} {as : Array Value} {below : List Frame} {meth : Method} {c : Code} {T0 : State} {L0 : List Loc} {C S : Nat} {H : Heap} {n0 : Nat} {En : Outcome → State → List Loc → Prop} {Q : Option Value → Heap → List Loc → Prop} {A : State}
    (_ : Stand p l e R s m as below meth c T0 L0 C S) (_ : T0.heap = H) (_ : Fr n0 L0) {P : Int32 → Prop} {B : Int32 → State → State}
    (hB : ∀ (T : State) (L : List Loc) (z : Int32), Stand p l e R s m as below meth c T L C S → T.heap = H → Fr n0 L → P z → Goes p e below En Q (B z T))
    (k : (∀ (T : State) (L : List Loc) (z : Int32), Stand p l e R s m as below meth c T L C S → T.heap = H → Fr n0 L → P z → Goes p e below En Q (B z T)) → Goes p e below En Q A) : Goes p e below En Q A := k hB
theorem own_mref {Z s : State} {a0 args : Array Value} {own : String} {index : Nat} {y : MethodName} (hZ : Z.Warmed39 s.vm) (hi : (Cond.instanceMethod y).before a0 Z = true) (hy : y.cls ≠ "java/lang/invoke/MethodHandle" ∧ y.cls ≠ "java/lang/invoke/VarHandle") (w : (Cond.methodRef own index y).before a0 Z = true) : (Cond.methodRef own index y).before args s = true := by
  obtain ⟨mk, -, hn, -⟩ := Cond.instanceMethod_spec hi
  exact (Cond.methodRef_warmed39 hZ hn hy w :)
theorem own_specialRef {Z : State} {a0 : Array Value} {p : Program} {l : Launch} {e : Env} {R : Room} {s : State} {m : MethodId} {args : Array Value} {below : List Frame} {meth : Method} {c : Code} {T : State} {locs : List Loc} {cells slots : Nat} (X : Stand p l e R s m args below meth c T locs cells slots) (hexec : p.tables.exec = Jvm.exec) (hZ : Z.Warmed39 s.vm) {own : String} {index : Nat} {y : MethodName} (hy1 : y.name = "<init>")
    (hown : s.vm.findClass own = some m.cls) (hlink : (Cond.methodRef own index y).before a0 Z = true) (hinst : (Cond.instanceMethod y).before a0 Z = true)
    {bytes : ByteArray} {maxL : Nat} (hcode : (Cond.code y bytes maxL none).before a0 Z = true)
    (hy : y.cls ≠ "java/lang/invoke/MethodHandle" ∧ y.cls ≠ "java/lang/invoke/VarHandle")
    {W : Nat} {Pre : Pt → Array Value → Prop} {Post : Pt → Array Value → Option Value → Pt → Prop} (hK : Back l R p e below s args y 3 W Pre Post)
    {g : JFrame} (hg : g.method = m) (hsize : g.locals.size = c.maxLocals) {s₀ : State} (hcome : Steps p.tables e below s₀ (T.setTop g)) {a : Addr} {argsL rest : List Value}
    (hlen : ∀ sig, parseMethodDescriptor y.desc = some sig → argsL.length = sig.parameters.length) (hstack : g.stack = argsL.reverse ++ .ref a :: rest) (hW : 2 * g.monitorRoom + (rest.map fun v => v.category).sum ≤ W)
    (hdg : decode c.code g.pc = .ok (.invokespecial index, 3)) (hpre : ∀ vm₁, s.WarmedH vm₁ → Pre ⟨T.setVm vm₁, locs, cells, slots⟩ (.ref a :: argsL).toArray) :
    ∃ (v : Option Value) (vm₁ : Vm) (B : Pt), s.WarmedH vm₁ ∧ Stand p l e R s m args below meth c B.U B.locs B.cells B.slots ∧ Post ⟨T.setVm vm₁, locs, cells, slots⟩ (.ref a :: argsL).toArray v B ∧
      Steps p.tables e below s₀ (B.U.setTop { g with pc := g.pc + 3, stack := v.toList ++ rest }) := by
  have hZT : Z.Warmed39 T.vm := wtrans hZ X.warmed
  have hl : (Cond.methodRef own index y).before #[] T = true := own_mref hZT hinst hy hlink
  obtain ⟨obj, methO, hnO, hmO, hstO, habO⟩ := Cond.instanceMethod_spec (mvT hZT hinst : (Cond.instanceMethod y).before #[] T = true)
  obtain ⟨methO', cO, hmO', hcO, -, -, -, -, -, hsigO⟩ := Cond.code_spec hnO (mvT hZT hcode : (Cond.code y bytes maxL none).before #[] T = true)
  cases hmO.symm.trans hmO'
  obtain ⟨kO, hkO, -⟩ := className_of_methodNamed hnO
  obtain ⟨hnameMO, hdescO⟩ := name_of_methodNamed hnO hmO
  have hownT : T.vm.findClass own = some m.cls := by rw [X.warmed.alike.findClass]; exact hown
  obtain ⟨mm, c', hf, hr, hfc, hnr⟩ := Cond.methodRef_named e hownT hl
  cases hf.symm.trans (State.methodFound?_of_named hnO hy)
  cases hfc.symm.trans (findClass_of_methodNamed hnO)
  have hfound : lookupSpecial T.vm obj.cls "<init>" methO.desc = .method obj := by rw [hdescO, ← hy1]; exact lookupSpecial_of_named hnO hmO hstO
  have h := X.here
  subst hg
  have hstep : ∀ target, (∀ acts, Steps p.tables e below (doInvoke e (T.setTop { g with stack := rest }) acts obj (.ref a :: argsL).toArray).1 target) → Steps p.tables e below (T.setTop g) target := by
    intro target hrest
    jvm_step h [hexec, hdg, Op.invokespecial.wp_init (e := e) (s := T) (k := kO) (meth := methO) (m := obj) (a := a) (args := argsL) (rest := rest) (f := g)
      h.top hnr hr hkO hmO (by rw [hnameMO]; exact hy1) hstO habO hfound (hlen _ hsigO) hstack]
    exact hrest
  obtain ⟨v, B, X', hpost, hsteps⟩ := hK g.method meth c ⟨T.setVm T.vm, locs, cells, slots⟩ { g with stack := rest } (.invokespecial index) obj (.ref a :: argsL).toArray X rfl hsize hdg hW hnO (hpre T.vm X.warmed)
  exact ⟨v, T.vm, B, X.warmed, X', hpost, (hcome.trans (hstep _ fun acts => by rw [doInvoke_state]; exact Steps.refl _)).trans hsteps⟩
def Dig (c : Int32) : Prop := 48 ≤ c.toInt ∧ c.toInt ≤ 57
def own_z (c : Int32) : Int32 := if c = 48 then 1 else 0
def own_allz : List Int32 → Int32
  | [] => 1
  | d :: t => if d = 48 then own_allz t else 0
def own_sg (a n : Int32) : Int32 := if a = 0 then n else 0
theorem Dig.lat {c : Int32} (h : Dig c) : Lat c := ⟨by have := h.1; omega, by have := h.2; omega⟩
theorem own_lat45 : Lat 45 := ⟨by decide, by decide⟩
theorem own_lat46 : Lat 46 := ⟨by decide, by decide⟩
theorem own_F1 (a : Int32) : ((1 : Int32) &&& own_z a) = own_allz [a] := by unfold own_z; simp only [own_allz]; split <;> decide
theorem own_F2 (a b : Int32) : (((1 : Int32) &&& own_z a) &&& own_z b) = own_allz [a, b] := by unfold own_z; simp only [own_allz]; (repeat' split) <;> first | decide | rfl
theorem own_F3 (a b c : Int32) : ((((1 : Int32) &&& own_z a) &&& own_z b) &&& own_z c) = own_allz [a, b, c] := by unfold own_z; simp only [own_allz]; (repeat' split) <;> decide
theorem own_F4 (a b c d : Int32) : (((((1 : Int32) &&& own_z a) &&& own_z b) &&& own_z c) &&& own_z d) = own_allz [a, b, c, d] := by unfold own_z; simp only [own_allz]; (repeat' split) <;> decide
theorem own_n48 {c : Int32} (h : Dig c) : ¬ (c < 48) ∧ ¬ (57 < c) := by
  have e1 : (48 : Int32).toInt = 48 := by decide
  have e2 : (57 : Int32).toInt = 57 := by decide
  obtain ⟨h1, h2⟩ := h
  simp only [Int32.lt_iff_toInt_lt, e1, e2]; omega
theorem own_dig {q : Int32} (h : 0 ≤ q.toInt ∧ q.toInt ≤ 9) : Dig (((48 : Int32) + q).toUInt32.toUInt16.toUInt32.toInt32) ∧ (1 ≤ q.toInt → ¬ ((((48 : Int32) + q).toUInt32.toUInt16.toUInt32.toInt32) = 48)) := by
  have a := c_iadd 48 q
  have e1 : (48 : Int32).toInt = 48 := by decide
  have r := rng32 ((48 : Int32) + q)
  have b := c_i2c ((48 : Int32) + q)
  rw [e1] at a
  refine ⟨⟨by omega, by omega⟩, fun hq e => ?_⟩
  have := congrArg Int32.toInt e
  rw [e1] at this; omega
theorem own_sub1 {n : Nat} (h : (0 : Int32) < Int32.ofNat n) (hn : n ≤ 1000) : ¬ ((Int32.ofNat n - (1 : Int32)) < 0) := by
  have e0 : (0 : Int32).toInt = 0 := by decide
  have e1 : (1 : Int32).toInt = 1 := by decide
  have l : (Int32.ofNat n).toInt = n := Int32.toInt_ofNat_of_lt (by omega)
  have a := c_isub (Int32.ofNat n) 1
  have r := rng32 (Int32.ofNat n - 1)
  rw [e1, l] at a
  rw [Int32.lt_iff_toInt_lt, e0, l] at h
  rw [Int32.lt_iff_toInt_lt, e0]; omega
theorem own_lo45 {c : Int32} (h : Dig c) : ¬ (lo8 c = lo8 45) := by
  intro e
  have a := c_i2b c
  have := congrArg Int32.toInt e
  have b : (lo8 45).toInt = 45 := by decide
  have d : (lo8 c).toInt = c.toInt8.toInt32.toInt := rfl
  obtain ⟨h1, h2⟩ := h
  omega
theorem own_p45 : (0 : Int32) < Int32.ofNat [(45 : Int32)].length := by decide
theorem own_g45 : (latV [(45 : Int32)]).getD (0 : Int32).toNatClampNeg (.int 0) = .int (lo8 45) := rfl
theorem own_il12 (y : Int32) : ((y &&& (1 : Int32)) + (1 : Int32)) = 1 ∨ ((y &&& (1 : Int32)) + (1 : Int32)) = 2 := by
  have h := c_and y 1 (by decide)
  have e1 : (1 : Int32).toInt = 1 := by decide
  have e2 : (2 : Int32).toInt = 2 := by decide
  have a := c_iadd (y &&& 1) 1
  have r := rng32 ((y &&& 1) + 1)
  rw [e1] at h a
  simp only [← Int32.toInt_inj, e1, e2]
  omega
theorem own_fr (y : Int32) : ((y &&& (3 : Int32)) % (3 : Int32)) = 0 ∨ ((y &&& (3 : Int32)) % (3 : Int32)) = 1 ∨ ((y &&& (3 : Int32)) % (3 : Int32)) = 2 := by
  have h := c_and y 3 (by decide)
  have h2 := (c_irem (y &&& (3 : Int32)) 3 3 (by decide)).1 h.1
  generalize ((y &&& (3 : Int32)) % (3 : Int32)) = r at *
  generalize (y &&& (3 : Int32)) = z at *
  have e0 : (0 : Int32).toInt = 0 := by decide
  have e1 : (1 : Int32).toInt = 1 := by decide
  have e2 : (2 : Int32).toInt = 2 := by decide
  simp only [← Int32.toInt_inj, e0, e1, e2]
  omega
theorem own_d10 (y : Int32) : 0 ≤ ((y &&& (15 : Int32)) % (10 : Int32)).toInt ∧ ((y &&& (15 : Int32)) % (10 : Int32)).toInt ≤ 9 := by
  have h := c_and y 15 (by decide)
  have h2 := (c_irem (y &&& (15 : Int32)) 10 10 (by decide)).1 h.1
  omega
theorem own_d9 (y : Int32) : (0 ≤ ((1 : Int32) + (y &&& (15 : Int32)) % (9 : Int32)).toInt ∧ ((1 : Int32) + (y &&& (15 : Int32)) % (9 : Int32)).toInt ≤ 9) ∧ 1 ≤ ((1 : Int32) + (y &&& (15 : Int32)) % (9 : Int32)).toInt := by
  have h := c_and y 15 (by decide)
  have h2 := (c_irem (y &&& (15 : Int32)) 9 9 (by decide)).1 h.1
  have a := c_iadd 1 ((y &&& (15 : Int32)) % (9 : Int32))
  have r := rng32 ((1 : Int32) + (y &&& (15 : Int32)) % (9 : Int32))
  have e1 : (1 : Int32).toInt = 1 := by decide
  rw [e1] at a
  omega
theorem own_00 : ¬ ((0 : Int32) < 0) := by decide
set_option maxRecDepth 65536
set_option maxHeartbeats 40000000
abbrev kc0 := jdk_30_method_1_code
abbrev kc1 := jdk_31_method_11_code
abbrev kc2 := jdk_41_method_11_code
abbrev kc3 := jdk_42_method_149_code
abbrev kc4 := jdk_42_method_152_code
abbrev kc5 := jdk_42_method_154_code
abbrev kc6 := jdk_42_method_155_code
abbrev kc7 := jdk_42_method_3_code
abbrev kc8 := jdk_42_method_54_code
abbrev kc9 := jdk_42_method_56_code
abbrev kc10 := jdk_42_method_75_code
abbrev kc11 := jdk_42_method_76_code
abbrev kc12 := jdk_43_method_2_code
abbrev kc13 := jdk_48_method_14_code
abbrev kc14 := jdk_52_method_15_code
abbrev kc15 := jdk_52_method_16_code
abbrev kc16 := jdk_52_method_21_code
abbrev kc17 := prog_29_method_6_code
abbrev kc18 := prog_29_method_8_code
abbrev kc19 := prog_29_method_9_code
abbrev kc20 := prog_30_method_1_code
abbrev kc21 := prog_30_method_5_code
theorem d0_0 : DK kc4 0 (.getstatic 38) 3 := by decide +kernel
theorem d0_3 : DK kc4 3 (.ifCond .eq 10) 3 := by decide +kernel
theorem d0_6 : DK kc4 6 (.aload_n 0) 1 := by decide +kernel
theorem d0_7 : DK kc4 7 (.getfield 15) 3 := by decide +kernel
theorem d0_10 : DK kc4 10 (.goto 4) 3 := by decide +kernel
theorem d0_14 : DK kc4 14 .ireturn 1 := by decide +kernel
theorem own_pn0 : plainName "java/lang/String" = true := by first | (simp [plainName, overriddenIn]; done) | decide +kernel
theorem own_ef_rs_coder0 (m : MethodId) (x0 : Addr) : entryFrame m #[(.ref x0)] 1 = mkF m 0 #[vr x0] [] := by first | (simp [entryFrame, mkF, argsToLocals, Value.category]; done) | rfl
def Q_rs_coder0 (Z : State) (a : Addr) (cz : Int32) (h0 : Heap) (n0 : Nat) (v : Option Value) (h : Heap) (L : List Loc) : Prop := v = some (.int 0) ∧ Fr n0 L ∧ h = h0
theorem rs_coder0 (l : Launch) (Z : State) (a0 : Array Value) (hw : HW a0 Z) (ws : List Jvm.Cond) (a : Addr) (cz : Int32) (h0 : Heap) (n0 : Nat) (Z0 : n0 ≤ h0.size) (F_coder_a : Fld Z h0 a "java/lang/String" "coder" "B" (.int 0)) (sgC : Sta Z h0 "java/lang/String" "COMPACT_STRINGS" "Z" (.int cz)) (hcz : ¬ (cz = 0)) :
  Met l Z mN0 jdk_42_method_152_code 1 (some .byte) ({ frames := 0, cells := 0, slots := 0, locals := 0 } : Room) ws #[(.ref a)] h0 (Q_rs_coder0 Z a cz h0 n0) := by
 refine own_met (plainFor_of_name own_pn0) ?_
 intro p e s m below meth c s₁ hret hx hby hlk hml hown hnm X0 e0 hZ hh
 have N0 := Fr.nil n0
 refine Gz (castTop (own_ef_rs_coder0 m a)) ?_
 show Goes _ _ _ _ _ (fT s₁ m 0 #[vr a] [])
 obtain ⟨T1, X1, e1, st1⟩ := getS2 X0 hx hZ hown (host := "") (Or.inl (gw hw 21 rfl)) Via.refl e0 sgC (g := (mkF m 0 #[vr a] [])) rfl (hb hby d0_0)
 refine Gs st1 ?_
 show Goes _ _ _ _ _ (fT T1 m 3 #[vr a] [(.int cz)])
 refine gu X1 hx hby d0_3 ((if0 _ _).trans (feq hcz).1) ?_
 refine gA X1 hx hby d0_6 rfl rfl rfl ?_
 obtain ⟨T2, X2, e2, st2⟩ := getF X1 hx hZ hown (host := "") (Or.inl (gw hw 33 rfl)) Via.refl e1 F_coder_a (g := (mkF m 7 #[vr a] [(.ref a)])) rfl rfl (hb hby d0_7)
 refine Gs st2 ?_
 show Goes _ _ _ _ _ (fT T2 m 10 #[vr a] [(.int 0)])
 refine gG X2 hx hby d0_10 10 14 ?_
 refine Goes.ret X2 (some (.int 0)) (fun h => by rw [hret] at h; cases h) hlk (by decide) (by decide) ?_ (fun fs hr => ?_)
 ·exact ⟨rfl, N0, e2⟩
 ·exact own_retN X2 hx (t := .byte) hret (by simp) rfl (hb hby d0_14) hr
theorem d1_0 : DK kc5 0 (.getstatic 38) 3 := by decide +kernel
theorem d1_3 : DK kc5 3 (.ifCond .eq 14) 3 := by decide +kernel
theorem d1_6 : DK kc5 6 (.aload_n 0) 1 := by decide +kernel
theorem d1_7 : DK kc5 7 (.getfield 15) 3 := by decide +kernel
theorem d1_10 : DK kc5 10 (.ifCond .ne 7) 3 := by decide +kernel
theorem d1_13 : DK kc5 13 (.iconst 1) 1 := by decide +kernel
theorem d1_14 : DK kc5 14 (.goto 4) 3 := by decide +kernel
theorem d1_18 : DK kc5 18 .ireturn 1 := by decide +kernel
theorem own_ef_rs_isl0 (m : MethodId) (x0 : Addr) : entryFrame m #[(.ref x0)] 1 = mkF m 0 #[vr x0] [] := by first | (simp [entryFrame, mkF, argsToLocals, Value.category]; done) | rfl
def Q_rs_isl0 (Z : State) (a : Addr) (cz : Int32) (h0 : Heap) (n0 : Nat) (v : Option Value) (h : Heap) (L : List Loc) : Prop := v = some (.int 1) ∧ Fr n0 L ∧ h = h0
theorem rs_isl0 (l : Launch) (Z : State) (a0 : Array Value) (hw : HW a0 Z) (ws : List Jvm.Cond) (a : Addr) (cz : Int32) (h0 : Heap) (n0 : Nat) (Z0 : n0 ≤ h0.size) (F_coder_a : Fld Z h0 a "java/lang/String" "coder" "B" (.int 0)) (sgC : Sta Z h0 "java/lang/String" "COMPACT_STRINGS" "Z" (.int cz)) (hcz : ¬ (cz = 0)) :
  Met l Z mN1 jdk_42_method_154_code 1 (some .boolean) ({ frames := 0, cells := 0, slots := 0, locals := 0 } : Room) ws #[(.ref a)] h0 (Q_rs_isl0 Z a cz h0 n0) := by
 refine own_met (plainFor_of_name own_pn0) ?_
 intro p e s m below meth c s₁ hret hx hby hlk hml hown hnm X0 e0 hZ hh
 have N0 := Fr.nil n0
 refine Gz (castTop (own_ef_rs_isl0 m a)) ?_
 show Goes _ _ _ _ _ (fT s₁ m 0 #[vr a] [])
 obtain ⟨T1, X1, e1, st1⟩ := getS2 X0 hx hZ hown (host := "") (Or.inl (gw hw 21 rfl)) Via.refl e0 sgC (g := (mkF m 0 #[vr a] [])) rfl (hb hby d1_0)
 refine Gs st1 ?_
 show Goes _ _ _ _ _ (fT T1 m 3 #[vr a] [(.int cz)])
 refine gu X1 hx hby d1_3 ((if0 _ _).trans (feq hcz).1) ?_
 refine gA X1 hx hby d1_6 rfl rfl rfl ?_
 obtain ⟨T2, X2, e2, st2⟩ := getF X1 hx hZ hown (host := "") (Or.inl (gw hw 33 rfl)) Via.refl e1 F_coder_a (g := (mkF m 7 #[vr a] [(.ref a)])) rfl rfl (hb hby d1_7)
 refine Gs st2 ?_
 show Goes _ _ _ _ _ (fT T2 m 10 #[vr a] [(.int 0)])
 refine gu X2 hx hby d1_10 ((if0 _ _).trans (teq (by decide : ((0 : Int32) = (0 : Int32)))).2) ?_
 refine gC X2 hx hby d1_13 ?_
 refine gG X2 hx hby d1_14 14 18 ?_
 refine Goes.ret X2 (some (.int 1)) (fun h => by rw [hret] at h; cases h) hlk (by decide) (by decide) ?_ (fun fs hr => ?_)
 ·exact ⟨rfl, N0, e2⟩
 ·exact own_retN X2 hx (t := .boolean) hret (by simp) rfl (hb hby d1_18) hr
theorem d2_0 : DK kc8 0 (.aload_n 0) 1 := by decide +kernel
theorem d2_1 : DK kc8 1 (.getfield 9) 3 := by decide +kernel
theorem d2_4 : DK kc8 4 .arraylength 1 := by decide +kernel
theorem d2_5 : DK kc8 5 (.aload_n 0) 1 := by decide +kernel
theorem d2_6 : DK kc8 6 (.invokevirtual 335) 3 := by decide +kernel
theorem own_pd0 : parseMethodDescriptor "()B" = some ⟨[], some .byte⟩ := by decide +kernel
theorem d2_9 : DK kc8 9 .ishr 1 := by decide +kernel
theorem d2_10 : DK kc8 10 .ireturn 1 := by decide +kernel
theorem own_ef_rs_len (m : MethodId) (x0 : Addr) : entryFrame m #[(.ref x0)] 1 = mkF m 0 #[vr x0] [] := by first | (simp [entryFrame, mkF, argsToLocals, Value.category]; done) | rfl
def Q_rs_len (Z : State) (a : Addr) (xs : List Int32) (cz : Int32) (h0 : Heap) (n0 : Nat) (v : Option Value) (h : Heap) (L : List Loc) : Prop := v = some (.int (Int32.ofNat xs.length)) ∧ Fr n0 L ∧ h = h0
theorem rs_len (l : Launch) (Z : State) (a0 : Array Value) (hw : HW a0 Z) (ws : List Jvm.Cond) (a : Addr) (xs : List Int32) (cz : Int32) (h0 : Heap) (n0 : Nat) (Z0 : n0 ≤ h0.size) (T_a : StrOf Z h0 a xs) (sgC : Sta Z h0 "java/lang/String" "COMPACT_STRINGS" "Z" (.int cz)) (hcz : ¬ (cz = 0)) :
  Met l Z mN2 jdk_42_method_54_code 1 (some .int) ({ frames := 1, cells := 0, slots := 0, locals := 13 } : Room) ws #[(.ref a)] h0 (Q_rs_len Z a xs cz h0 n0) := by
 refine own_met (plainFor_of_name own_pn0) ?_
 intro p e s m below meth c s₁ hret hx hby hlk hml hown hnm X0 e0 hZ hh
 have N0 := Fr.nil n0
 refine Gz (castTop (own_ef_rs_len m a)) ?_
 show Goes _ _ _ _ _ (fT s₁ m 0 #[vr a] [])
 obtain ⟨vb, kb, A_a, F_value_a, hrep, hlen⟩ := id T_a
 rcases hrep with ⟨F_coder_a, hall, V_vb⟩ | hf
 ·show Goes _ _ _ _ _ (fT s₁ m 0 #[vr a] [])
  refine gA X0 hx hby d2_0 rfl rfl rfl ?_
  obtain ⟨T1, X1, e1, st1⟩ := getF X0 hx hZ hown (host := "") (Or.inl (gw hw 35 rfl)) Via.refl e0 F_value_a (g := (mkF m 1 #[vr a] [(.ref a)])) rfl rfl (hb hby d2_1)
  refine Gs st1 ?_
  show Goes _ _ _ _ _ (fT T1 m 4 #[vr a] [(.ref vb)])
  obtain ⟨cl2, Ar2, -, S2, N2z, -, -⟩ := id V_vb
  refine Gs (fun _ tk => X1.arraylength hx (by rw [e1]; exact Ar2.1) (State.isArrayOf_alike hZ.alike Ar2.2.1) (g := (mkF m 4 #[vr a] [(.ref vb)])) rfl rfl (hb hby d2_4) _ tk) ?_
  rw [len_of S2 N2z]
  show Goes _ _ _ _ _ (fT T1 m 5 #[vr a] [(.int (Int32.ofNat xs.length))])
  refine gA X1 hx hby d2_5 rfl rfl rfl ?_
  refine cV X1 hx hZ hw hown hby hml e1 mN0 67 68 70 69 71 9 1 (rs_coder0 l Z a0 hw [] a cz h0 n0 Z0 F_coder_a sgC hcz) T_a.exa d2_6 (lenOf own_pd0 rfl) N0 (fun T3 L3 X3 e3 N3 => ?_)
  show Goes _ _ _ _ _ (fT T3 m 9 #[vr a] [(.int 0), (.int (Int32.ofNat xs.length))])
  refine Gz (XS.ishr X3.here hx rfl (hb hby d2_9) rfl) ?_
  show Goes _ _ _ _ _ (fT T3 m 10 #[vr a] [(.int ((Int32.ofNat xs.length) >>> ((0 : Int32) &&& 31)))])
  refine Goes.ret X3 (some (.int ((Int32.ofNat xs.length) >>> ((0 : Int32) &&& 31)))) (fun h => by rw [hret] at h; cases h) hlk (by decide) (by decide) ?_ (fun fs hr => ?_)
  ·exact ⟨(by rw [own_shr0]), N3, e3⟩
  ·exact retI X3 hx hret (hb hby d2_10) hr
 ·exact hf.elim
theorem d3_0 : DK kc2 0 (.iload_n 0) 1 := by decide +kernel
theorem d3_1 : DK kc2 1 (.ifCond .lt 8) 3 := by decide +kernel
theorem d3_4 : DK kc2 4 (.iload_n 0) 1 := by decide +kernel
theorem d3_5 : DK kc2 5 (.iload_n 1) 1 := by decide +kernel
theorem d3_6 : DK kc2 6 (.if_icmp .lt 10) 3 := by decide +kernel
theorem d3_16 : DK kc2 16 (.iload_n 0) 1 := by decide +kernel
theorem d3_17 : DK kc2 17 .ireturn 1 := by decide +kernel
theorem own_pn1 : plainName "jdk/internal/util/Preconditions" = true := by first | (simp [plainName, overriddenIn]; done) | decide +kernel
theorem own_ef_rs_pci (m : MethodId) (x0 : Int32) (x1 : Int32) (x2 : Value) (hx2 : x2.isRef = true) : entryFrame m #[(.int x0), (.int x1), x2] 3 = mkF m 0 #[vi x0, vi x1, .val x2] [] := by first | (simp [entryFrame, mkF, argsToLocals, Value.category]; done) | rfl | (rcases Jvm.Free.XT.refc hx2 with rfl | ⟨r, rfl⟩ <;> rfl)
def Q_rs_pci (Z : State) (j : Int32) (z : Int32) (fo : Value) (h0 : Heap) (n0 : Nat) (v : Option Value) (h : Heap) (L : List Loc) : Prop := v = some (.int j) ∧ Fr n0 L ∧ h = h0
theorem rs_pci (l : Launch) (Z : State) (a0 : Array Value) (hw : HW a0 Z) (ws : List Jvm.Cond) (j : Int32) (z : Int32) (fo : Value) (h0 : Heap) (n0 : Nat) (Z0 : n0 ≤ h0.size) (hj0 : ¬ (j < 0)) (hj1 : j < z) (r_fo : fo.isRef = true) :
  Met l Z mN3 jdk_41_method_11_code 3 (some .int) ({ frames := 0, cells := 0, slots := 0, locals := 0 } : Room) ws #[(.int j), (.int z), fo] h0 (Q_rs_pci Z j z fo h0 n0) := by
 refine own_met (plainFor_of_name own_pn1) ?_
 intro p e s m below meth c s₁ hret hx hby hlk hml hown hnm X0 e0 hZ hh
 have N0 := Fr.nil n0
 refine Gz (castTop (own_ef_rs_pci m j z fo r_fo)) ?_
 show Goes _ _ _ _ _ (fT s₁ m 0 #[vi j, vi z, .val fo] [])
 refine gN X0 hx hby d3_0 rfl rfl ?_
 refine gu X0 hx hby d3_1 ((if0 _ _).trans (flt hj0).1) ?_
 refine gN X0 hx hby d3_4 rfl rfl ?_
 refine gN X0 hx hby d3_5 rfl rfl ?_
 refine gY X0 hx hby d3_6 6 16 (tlt hj1).1 ?_
 refine gN X0 hx hby d3_16 rfl rfl ?_
 show Goes _ _ _ _ _ (fT s₁ m 17 #[vi j, vi z, .val fo] [(.int j)])
 refine Goes.ret X0 (some (.int j)) (fun h => by rw [hret] at h; cases h) hlk (by decide) (by decide) ?_ (fun fs hr => ?_)
 ·exact ⟨rfl, N0, e0⟩
 ·exact retI X0 hx hret (hb hby d3_17) hr
theorem d4_0 : DK kc6 0 (.iload_n 0) 1 := by decide +kernel
theorem d4_1 : DK kc6 1 (.iload_n 1) 1 := by decide +kernel
theorem d4_2 : DK kc6 2 (.getstatic 1053) 3 := by decide +kernel
theorem d4_5 : DK kc6 5 (.invokestatic 1059) 3 := by decide +kernel
theorem own_pd1 : parseMethodDescriptor "(IILjava/util/function/BiFunction;)I" = some ⟨[.int, .int, (.object "java/util/function/BiFunction")], some .int⟩ := by decide +kernel
theorem d4_8 : DK kc6 8 .pop 1 := by decide +kernel
theorem d4_9 : DK kc6 9 .return_ 1 := by decide +kernel
theorem own_ef_rs_sci (m : MethodId) (x0 : Int32) (x1 : Int32) : entryFrame m #[(.int x0), (.int x1)] 2 = mkF m 0 #[vi x0, vi x1] [] := by first | (simp [entryFrame, mkF, argsToLocals, Value.category]; done) | rfl
def Q_rs_sci (Z : State) (j : Int32) (z : Int32) (fo : Value) (h0 : Heap) (n0 : Nat) (v : Option Value) (h : Heap) (L : List Loc) : Prop := v = none ∧ Fr n0 L ∧ h = h0
theorem rs_sci (l : Launch) (Z : State) (a0 : Array Value) (hw : HW a0 Z) (ws : List Jvm.Cond) (j : Int32) (z : Int32) (fo : Value) (h0 : Heap) (n0 : Nat) (Z0 : n0 ≤ h0.size) (hj0 : ¬ (j < 0)) (hj1 : j < z) (sgF : Sta Z h0 "jdk/internal/util/Preconditions" "SIOOBE_FORMATTER" "Ljava/util/function/BiFunction;" fo) (r_fo : fo.isRef = true) :
  Met l Z mN4 jdk_42_method_155_code 2 none ({ frames := 1, cells := 0, slots := 0, locals := 14 } : Room) ws #[(.int j), (.int z)] h0 (Q_rs_sci Z j z fo h0 n0) := by
 refine own_met (plainFor_of_name own_pn0) ?_
 intro p e s m below meth c s₁ hret hx hby hlk hml hown hnm X0 e0 hZ hh
 have N0 := Fr.nil n0
 refine Gz (castTop (own_ef_rs_sci m j z)) ?_
 show Goes _ _ _ _ _ (fT s₁ m 0 #[vi j, vi z] [])
 refine gN X0 hx hby d4_0 rfl rfl ?_
 refine gN X0 hx hby d4_1 rfl rfl ?_
 obtain ⟨T1, X1, e1, st1⟩ := getS2 X0 hx hZ hown (host := "") (Or.inl (gw hw 94 rfl)) Via.refl e0 sgF (g := (mkF m 2 #[vi j, vi z] [(.int z), (.int j)])) rfl (hb hby d4_2)
 refine Gs st1 ?_
 show Goes _ _ _ _ _ (fT T1 m 5 #[vi j, vi z] [fo, (.int z), (.int j)])
 refine cS X1 hx hZ hw hown hby hml e1 mN3 96 97 98 95 0 (rs_pci l Z a0 hw [] j z fo h0 n0 Z0 hj0 hj1 r_fo) d4_5 (lenOf own_pd1 rfl) N0 (fun T2 L2 X2 e2 N2 => ?_)
 show Goes _ _ _ _ _ (fT T2 m 8 #[vi j, vi z] [(.int j)])
 refine Gz (XS.pop X2.here hx rfl (hb hby d4_8) rfl rfl) ?_
 refine Goes.ret X2 none (fun _ => rfl) hlk (by decide) (by decide) ?_ (fun fs hr => ?_)
 ·exact ⟨rfl, N2, e2⟩
 ·exact X2.returnOut hx hret (hb hby d4_9) hr
theorem d5_0 : DK kc12 0 (.iload_n 1) 1 := by decide +kernel
theorem d5_1 : DK kc12 1 (.aload_n 0) 1 := by decide +kernel
theorem d5_2 : DK kc12 2 .arraylength 1 := by decide +kernel
theorem d5_3 : DK kc12 3 (.invokestatic 9) 3 := by decide +kernel
theorem own_pd2 : parseMethodDescriptor "(II)V" = some ⟨[.int, .int], none⟩ := by decide +kernel
theorem d5_6 : DK kc12 6 (.aload_n 0) 1 := by decide +kernel
theorem d5_7 : DK kc12 7 (.iload_n 1) 1 := by decide +kernel
theorem d5_8 : DK kc12 8 .baload 1 := by decide +kernel
theorem d5_9 : DK kc12 9 (.sipush 255) 3 := by decide +kernel
theorem d5_12 : DK kc12 12 .iand 1 := by decide +kernel
theorem d5_13 : DK kc12 13 .i2c 1 := by decide +kernel
theorem d5_14 : DK kc12 14 .ireturn 1 := by decide +kernel
theorem own_pn2 : plainName "java/lang/StringLatin1" = true := by first | (simp [plainName, overriddenIn]; done) | decide +kernel
theorem own_ef_rs_l1c (m : MethodId) (x0 : Addr) (x1 : Int32) : entryFrame m #[(.ref x0), (.int x1)] 2 = mkF m 0 #[vr x0, vi x1] [] := by first | (simp [entryFrame, mkF, argsToLocals, Value.category]; done) | rfl
def Q_rs_l1c (Z : State) (b : Addr) (kb : ClassId) (xs : List Int32) (j : Int32) (r : Int32) (fo : Value) (h0 : Heap) (n0 : Nat) (v : Option Value) (h : Heap) (L : List Loc) : Prop := v = some (.int r) ∧ Fr n0 L ∧ h = h0
theorem rs_l1c (l : Launch) (Z : State) (a0 : Array Value) (hw : HW a0 Z) (ws : List Jvm.Cond) (b : Addr) (kb : ClassId) (xs : List Int32) (j : Int32) (r : Int32) (fo : Value) (h0 : Heap) (n0 : Nat) (Z0 : n0 ≤ h0.size) (V_b : Arv Z h0 b kb .byte (Int32.ofNat xs.length) (latV xs) (.int 0)) (hj0 : ¬ (j < 0)) (hj1 : j < Int32.ofNat xs.length) (hr : xs.getD j.toNatClampNeg 0 = r) (hlen : xs.length ≤ 1000) (hLr : Lat r) (sgF : Sta Z h0 "jdk/internal/util/Preconditions" "SIOOBE_FORMATTER" "Ljava/util/function/BiFunction;" fo) (r_fo : fo.isRef = true) :
  Met l Z mN5 jdk_43_method_2_code 2 (some .char) ({ frames := 2, cells := 0, slots := 0, locals := 27 } : Room) ws #[(.ref b), (.int j)] h0 (Q_rs_l1c Z b kb xs j r fo h0 n0) := by
 refine own_met (plainFor_of_name own_pn2) ?_
 intro p e s m below meth c s₁ hret hx hby hlk hml hown hnm X0 e0 hZ hh
 have N0 := Fr.nil n0
 refine Gz (castTop (own_ef_rs_l1c m b j)) ?_
 show Goes _ _ _ _ _ (fT s₁ m 0 #[vr b, vi j] [])
 refine gN X0 hx hby d5_0 rfl rfl ?_
 refine gA X0 hx hby d5_1 rfl rfl rfl ?_
 obtain ⟨cl1, Ar1, -, S1, N1z, -, -⟩ := id V_b
 refine Gs (fun _ tk => X0.arraylength hx (by rw [e0]; exact Ar1.1) (State.isArrayOf_alike hZ.alike Ar1.2.1) (g := (mkF m 2 #[vr b, vi j] [(.ref b), (.int j)])) rfl rfl (hb hby d5_2) _ tk) ?_
 rw [len_of S1 N1z]
 show Goes _ _ _ _ _ (fT s₁ m 3 #[vr b, vi j] [(.int (Int32.ofNat xs.length)), (.int j)])
 refine cS X0 hx hZ hw hown hby hml e0 mN4 91 92 93 9 0 (rs_sci l Z a0 hw [] j (Int32.ofNat xs.length) fo h0 n0 Z0 hj0 (by first | assumption | decide) sgF r_fo) d5_3 (lenOf own_pd2 rfl) N0 (fun T2 L2 X2 e2 N2 => ?_)
 show Goes _ _ _ _ _ (fT T2 m 6 #[vr b, vi j] [])
 refine gA X2 hx hby d5_6 rfl rfl rfl ?_
 refine gN X2 hx hby d5_7 rfl rfl ?_
 obtain ⟨cl3, Ar3, -, S3, N3z, H3, -⟩ := id V_b
 have hin3 : ¬ (j < 0 ∨ cl3.slots.size ≤ (j).toNatClampNeg) := inb_of S3 ⟨hj0, hj1⟩
 have hat3 : cl3.slots[(j).toNatClampNeg]? = some (.int (lo8 r)) := Has.at H3 hin3 (own_latGet hj0 hj1 hlen hr)
 refine Gs (fun _ tk => X2.baloadBytes hx (j := j) (v := (.int (lo8 r))) (by rw [e2]; exact Ar3.1) (State.isArrayOf_alike hZ.alike Ar3.2.1) Ar3.2.2 hin3 hat3 (g := (mkF m 8 #[vr b, vi j] [(.int j), (.ref b)])) rfl rfl (hb hby d5_8) _ tk) ?_
 show Goes _ _ _ _ _ (fT T2 m 9 #[vr b, vi j] [(.int (lo8 r))])
 refine Gz (XS.sipush X2.here hx rfl (hb hby d5_9)) ?_
 show Goes _ _ _ _ _ (fT T2 m 12 #[vr b, vi j] [(.int 255), (.int (lo8 r))])
 refine Gz (XS.iand X2.here hx rfl (hb hby d5_12) rfl) ?_
 show Goes _ _ _ _ _ (fT T2 m 13 #[vr b, vi j] [(.int ((lo8 r) &&& 255))])
 rw [own_backL hLr]
 show Goes _ _ _ _ _ (fT T2 m 13 #[vr b, vi j] [(.int r)])
 refine Gz (XS.i2c X2.here hx rfl (hb hby d5_13) rfl) ?_
 show Goes _ _ _ _ _ (fT T2 m 14 #[vr b, vi j] [(.int (r.toUInt32.toUInt16.toUInt32.toInt32))])
 rw [own_i2c hLr.chr]
 show Goes _ _ _ _ _ (fT T2 m 14 #[vr b, vi j] [(.int r)])
 refine Goes.ret X2 (some (.int r)) (fun h => by rw [hret] at h; cases h) hlk (by decide) (by decide) ?_ (fun fs hr => ?_)
 ·exact ⟨rfl, N2, e2⟩
 ·exact own_retN X2 hx (t := .char) hret (by simp) (own_nc hLr.chr) (hb hby d5_14) hr
theorem d6_0 : DK kc9 0 (.aload_n 0) 1 := by decide +kernel
theorem d6_1 : DK kc9 1 (.invokevirtual 492) 3 := by decide +kernel
theorem own_pd3 : parseMethodDescriptor "()Z" = some ⟨[], some .boolean⟩ := by decide +kernel
theorem d6_4 : DK kc9 4 (.ifCond .eq 12) 3 := by decide +kernel
theorem d6_7 : DK kc9 7 (.aload_n 0) 1 := by decide +kernel
theorem d6_8 : DK kc9 8 (.getfield 9) 3 := by decide +kernel
theorem d6_11 : DK kc9 11 (.iload_n 1) 1 := by decide +kernel
theorem d6_12 : DK kc9 12 (.invokestatic 495) 3 := by decide +kernel
theorem own_pd4 : parseMethodDescriptor "([BI)C" = some ⟨[(.array .byte), .int], some .char⟩ := by decide +kernel
theorem d6_15 : DK kc9 15 .ireturn 1 := by decide +kernel
theorem own_ef_rs_chr (m : MethodId) (x0 : Addr) (x1 : Int32) : entryFrame m #[(.ref x0), (.int x1)] 2 = mkF m 0 #[vr x0, vi x1] [] := by first | (simp [entryFrame, mkF, argsToLocals, Value.category]; done) | rfl
def Q_rs_chr (Z : State) (a : Addr) (xs : List Int32) (j : Int32) (r : Int32) (cz : Int32) (fo : Value) (h0 : Heap) (n0 : Nat) (v : Option Value) (h : Heap) (L : List Loc) : Prop := v = some (.int r) ∧ Fr n0 L ∧ h = h0
theorem rs_chr (l : Launch) (Z : State) (a0 : Array Value) (hw : HW a0 Z) (ws : List Jvm.Cond) (a : Addr) (xs : List Int32) (j : Int32) (r : Int32) (cz : Int32) (fo : Value) (h0 : Heap) (n0 : Nat) (Z0 : n0 ≤ h0.size) (T_a : StrOf Z h0 a xs) (sgC : Sta Z h0 "java/lang/String" "COMPACT_STRINGS" "Z" (.int cz)) (hcz : ¬ (cz = 0)) (hj0 : ¬ (j < 0)) (hj1 : j < Int32.ofNat xs.length) (hr : xs.getD j.toNatClampNeg 0 = r) (sgF : Sta Z h0 "jdk/internal/util/Preconditions" "SIOOBE_FORMATTER" "Ljava/util/function/BiFunction;" fo) (r_fo : fo.isRef = true) :
  Met l Z mN6 jdk_42_method_56_code 2 (some .char) ({ frames := 3, cells := 0, slots := 0, locals := 40 } : Room) ws #[(.ref a), (.int j)] h0 (Q_rs_chr Z a xs j r cz fo h0 n0) := by
 refine own_met (plainFor_of_name own_pn0) ?_
 intro p e s m below meth c s₁ hret hx hby hlk hml hown hnm X0 e0 hZ hh
 have N0 := Fr.nil n0
 refine Gz (castTop (own_ef_rs_chr m a j)) ?_
 show Goes _ _ _ _ _ (fT s₁ m 0 #[vr a, vi j] [])
 obtain ⟨vb, kb, A_a, F_value_a, hrep, hlen⟩ := id T_a
 rcases hrep with ⟨F_coder_a, hall, V_vb⟩ | hf
 ·show Goes _ _ _ _ _ (fT s₁ m 0 #[vr a, vi j] [])
  have hmem : r ∈ xs := own_mem hj0 hj1 hlen hr
  have hLr : Lat r := hall r hmem
  have hCr : Chr r := hLr.chr
  refine gA X0 hx hby d6_0 rfl rfl rfl ?_
  refine cV X0 hx hZ hw hown hby hml e0 mN1 82 83 85 84 86 9 0 (rs_isl0 l Z a0 hw [] a cz h0 n0 Z0 F_coder_a sgC hcz) T_a.exa d6_1 (lenOf own_pd3 rfl) N0 (fun T1 L1 X1 e1 N1 => ?_)
  show Goes _ _ _ _ _ (fT T1 m 4 #[vr a, vi j] [(.int 1)])
  refine gu X1 hx hby d6_4 ((if0 _ _).trans (feq (by decide : ¬ ((1 : Int32) = (0 : Int32)))).1) ?_
  refine gA X1 hx hby d6_7 rfl rfl rfl ?_
  obtain ⟨T2, X2, e2, st2⟩ := getF X1 hx hZ hown (host := "") (Or.inl (gw hw 35 rfl)) Via.refl e1 F_value_a (g := (mkF m 8 #[vr a, vi j] [(.ref a)])) rfl rfl (hb hby d6_8)
  refine Gs st2 ?_
  show Goes _ _ _ _ _ (fT T2 m 11 #[vr a, vi j] [(.ref vb)])
  refine gN X2 hx hby d6_11 rfl rfl ?_
  refine cS X2 hx hZ hw hown hby hml e2 mN5 87 88 90 89 0 (rs_l1c l Z a0 hw [] vb kb xs j r fo h0 n0 Z0 V_vb hj0 hj1 hr (by first | assumption | decide) (by first | assumption | decide) sgF r_fo) d6_12 (lenOf own_pd4 rfl) N1 (fun T3 L3 X3 e3 N3 => ?_)
  show Goes _ _ _ _ _ (fT T3 m 15 #[vr a, vi j] [(.int r)])
  refine Goes.ret X3 (some (.int r)) (fun h => by rw [hret] at h; cases h) hlk (by decide) (by decide) ?_ (fun fs hr => ?_)
  ·exact ⟨rfl, N3, e3⟩
  ·exact own_retN X3 hx (t := .char) hret (by simp) (own_nc hCr) (hb hby d6_15) hr
 ·exact hf.elim
theorem d7_0 : DK kc16 0 (.iconst 0) 1 := by decide +kernel
theorem d7_1 : DK kc16 1 (.istore 5) 2 := by decide +kernel
theorem d7_3 : DK kc16 3 (.iload 5) 2 := by decide +kernel
theorem d7_5 : DK kc16 5 (.iload 4) 2 := by decide +kernel
theorem d7_7 : DK kc16 7 (.if_icmp .ge 37) 3 := by decide +kernel
theorem d7_10 : DK kc16 10 (.aload_n 0) 1 := by decide +kernel
theorem d7_11 : DK kc16 11 (.iload_n 1) 1 := by decide +kernel
theorem d7_12 : DK kc16 12 .caload 1 := by decide +kernel
theorem d7_13 : DK kc16 13 (.istore 6) 2 := by decide +kernel
theorem d7_15 : DK kc16 15 (.iload 6) 2 := by decide +kernel
theorem d7_17 : DK kc16 17 (.sipush 255) 3 := by decide +kernel
theorem d7_20 : DK kc16 20 (.if_icmp .le 6) 3 := by decide +kernel
theorem d7_26 : DK kc16 26 (.aload_n 2) 1 := by decide +kernel
theorem d7_27 : DK kc16 27 (.iload_n 3) 1 := by decide +kernel
theorem d7_28 : DK kc16 28 (.iload 6) 2 := by decide +kernel
theorem d7_30 : DK kc16 30 .i2b 1 := by decide +kernel
theorem d7_31 : DK kc16 31 .bastore 1 := by decide +kernel
theorem d7_32 : DK kc16 32 (.iinc 1 1) 3 := by decide +kernel
theorem d7_35 : DK kc16 35 (.iinc 3 1) 3 := by decide +kernel
theorem d7_38 : DK kc16 38 (.iinc 5 1) 3 := by decide +kernel
theorem d7_41 : DK kc16 41 (.goto (-38)) 3 := by decide +kernel
theorem d7_44 : DK kc16 44 (.iload 4) 2 := by decide +kernel
theorem d7_46 : DK kc16 46 .ireturn 1 := by decide +kernel
theorem own_pn3 : plainName "java/lang/StringUTF16" = true := by first | (simp [plainName, overriddenIn]; done) | decide +kernel
theorem own_ef_rs_c5_1 (m : MethodId) (x0 : Addr) (x2 : Addr) : entryFrame m #[(.ref x0), (.int 0), (.ref x2), (.int 0), (.int 1)] 7 = mkF m 0 #[vr x0, vi 0, vr x2, vi 0, vi 1, vu, vu] [] := by first | (simp [entryFrame, mkF, argsToLocals, Value.category]; done) | rfl
def Q_rs_c5_1 (Z : State) (x : Addr) (kx : ClassId) (y : Addr) (ky : ClassId) (c0 : Int32) (h0 : Heap) (n0 : Nat) (v : Option Value) (h : Heap) (L : List Loc) : Prop := v = some (.int 1) ∧ Fr n0 L ∧ Keep h0 h [y] ∧ Arv Z h y ky .byte 1 [(.int (lo8 c0))] (.int 0)
theorem rs_c5_1 (l : Launch) (Z : State) (a0 : Array Value) (hw : HW a0 Z) (ws : List Jvm.Cond) (x : Addr) (kx : ClassId) (y : Addr) (ky : ClassId) (c0 : Int32) (h0 : Heap) (n0 : Nat) (Z0 : n0 ≤ h0.size) (V_x : Arv Z h0 x kx .char 1 [(.int c0)] (.int 0)) (V_y : Arv Z h0 y ky .byte 1 [(.int 0)] (.int 0)) (g_y : n0 ≤ y) (ne_x_y : x ≠ y) (hL_c0 : Lat c0) :
  Met l Z mN7 jdk_52_method_21_code 7 (some .int) ({ frames := 0, cells := 0, slots := 0, locals := 0 } : Room) ws #[(.ref x), (.int 0), (.ref y), (.int 0), (.int 1)] h0 (Q_rs_c5_1 Z x kx y ky c0 h0 n0) := by
 refine own_met (plainFor_of_name own_pn3) ?_
 intro p e s m below meth c s₁ hret hx hby hlk hml hown hnm X0 e0 hZ hh
 have N0 := Fr.nil n0
 refine Gz (castTop (own_ef_rs_c5_1 m x y)) ?_
 have KP : Keep h0 h0 [y] := Keep.refl _ _
 show Goes _ _ _ _ _ (fT s₁ m 0 #[vr x, vi 0, vr y, vi 0, vi 1, vu, vu] [])
 have hn_c0 := own_latN hL_c0
 refine gC X0 hx hby d7_0 ?_
 refine gS X0 hx hby d7_1 #[vr x, vi 0, vr y, vi 0, vi 1, vi 0, vu] ?_
 refine gI X0 hx hby d7_3 rfl rfl ?_
 refine gI X0 hx hby d7_5 rfl rfl ?_
 refine gU X0 hx hby d7_7 (tlt (by decide : ((0 : Int32) < (1 : Int32)))).2.1 ?_
 refine gA X0 hx hby d7_10 rfl rfl rfl ?_
 show Goes _ _ _ _ _ (fT s₁ m 11 #[vr x, vi 0, vr y, vi 0, vi 1, vi 0, vu] [(.ref x)])
 refine gN X0 hx hby d7_11 rfl rfl ?_
 obtain ⟨cl1, Ar1, -, S1, N1z, H1, -⟩ := id V_x
 have hin1 : ¬ ((0 : Int32) < 0 ∨ cl1.slots.size ≤ ((0 : Int32)).toNatClampNeg) := inb_of S1 ⟨by decide, by decide⟩
 have hat1 : cl1.slots[((0 : Int32)).toNatClampNeg]? = some (.int c0) := Has.at H1 hin1 rfl
 refine Gs (fun _ tk => X0.caload hx (j := (0 : Int32)) (v := (.int c0)) (by rw [e0]; exact Ar1.1) (State.isArrayOf_alike hZ.alike Ar1.2.1) Ar1.2.2 hin1 hat1 (g := (mkF m 12 #[vr x, vi 0, vr y, vi 0, vi 1, vi 0, vu] [(.int 0), (.ref x)])) rfl rfl (hb hby d7_12) _ tk) ?_
 show Goes _ _ _ _ _ (fT s₁ m 13 #[vr x, vi 0, vr y, vi 0, vi 1, vi 0, vu] [(.int c0)])
 refine gS X0 hx hby d7_13 #[vr x, vi 0, vr y, vi 0, vi 1, vi 0, vi c0] ?_
 refine gI X0 hx hby d7_15 rfl rfl ?_
 refine Gz (XS.sipush X0.here hx rfl (hb hby d7_17)) ?_
 refine gY X0 hx hby d7_20 20 26 (flt hn_c0).2.2.2 ?_
 refine gA X0 hx hby d7_26 rfl rfl rfl ?_
 refine gN X0 hx hby d7_27 rfl rfl ?_
 show Goes _ _ _ _ _ (fT s₁ m 28 #[vr x, vi 0, vr y, vi 0, vi 1, vi 0, vi c0] [(.int 0), (.ref y)])
 refine gI X0 hx hby d7_28 rfl rfl ?_
 show Goes _ _ _ _ _ (fT s₁ m 30 #[vr x, vi 0, vr y, vi 0, vi 1, vi 0, vi c0] [(.int c0), (.int 0), (.ref y)])
 refine Gz (XS.i2b X0.here hx rfl (hb hby d7_30) rfl) ?_
 show Goes _ _ _ _ _ (fT s₁ m 31 #[vr x, vi 0, vr y, vi 0, vi 1, vi 0, vi c0] [(.int (c0.toInt8.toInt32)), (.int 0), (.ref y)])
 obtain ⟨cl2, Ar2, q2, S2, N2z, H2, G2⟩ := V_y
 have hin2 : ¬ ((0 : Int32) < 0 ∨ cl2.slots.size ≤ ((0 : Int32)).toNatClampNeg) := inb_of S2 ⟨by decide, by decide⟩
 obtain ⟨T2, h2, X2, e2, W2, st2⟩ := stB X0 hx hZ e0 Ar2 (j := (0 : Int32)) hin2 (g := (mkF m 31 #[vr x, vi 0, vr y, vi 0, vi 1, vi 0, vi c0] [(.int (c0.toInt8.toInt32)), (.int 0), (.ref y)])) rfl rfl (hb hby d7_31)
 have Vn2 := Arv.set Ar2 q2 S2 N2z H2 G2 (fits_nar_byte _) W2 0 rfl (Nat.le_of_ble_eq_true rfl)
 have N2 := Fr.snoc X2 N0 g_y
 replace KP := KP.wr W2 (Or.inl (List.mem_of_getElem? (i := 0) rfl))
 have V_y : Arv Z h2 y ky .byte 1 [(.int (lo8 c0))] (.int 0) := by have q := Vn2; rw [own_nb2] at q; exact q
 replace Z0 : n0 ≤ h2.size := by rw [W2.size]; exact Z0
 refine Gs st2 ?_
 show Goes _ _ _ _ _ (fT T2 m 32 #[vr x, vi 0, vr y, vi 0, vi 1, vi 0, vi c0] [])
 refine Gz (XS.iinc X2.here hx rfl (hb hby d7_32) rfl (l' := #[vr x, vi ((0 : Int32) + (1 : Int32)), vr y, vi 0, vi 1, vi 0, vi c0]) rfl) ?_
 show Goes _ _ _ _ _ (fT T2 m 35 #[vr x, vi 1, vr y, vi 0, vi 1, vi 0, vi c0] [])
 refine Gz (XS.iinc X2.here hx rfl (hb hby d7_35) rfl (l' := #[vr x, vi 1, vr y, vi ((0 : Int32) + (1 : Int32)), vi 1, vi 0, vi c0]) rfl) ?_
 show Goes _ _ _ _ _ (fT T2 m 38 #[vr x, vi 1, vr y, vi 1, vi 1, vi 0, vi c0] [])
 refine Gz (XS.iinc X2.here hx rfl (hb hby d7_38) rfl (l' := #[vr x, vi 1, vr y, vi 1, vi 1, vi ((0 : Int32) + (1 : Int32)), vi c0]) rfl) ?_
 show Goes _ _ _ _ _ (fT T2 m 41 #[vr x, vi 1, vr y, vi 1, vi 1, vi 1, vi c0] [])
 refine gG X2 hx hby d7_41 41 3 ?_
 refine gI X2 hx hby d7_3 rfl rfl ?_
 refine gI X2 hx hby d7_5 rfl rfl ?_
 refine gY X2 hx hby d7_7 7 44 (flt (by decide : ¬ ((1 : Int32) < (1 : Int32)))).2.1 ?_
 refine gI X2 hx hby d7_44 rfl rfl ?_
 refine Goes.ret X2 (some (.int 1)) (fun h => by rw [hret] at h; cases h) hlk (by decide) (by decide) ?_ (fun fs hr => ?_)
 ·rw [e2]; exact ⟨rfl, N2, KP, V_y⟩
 ·exact retI X2 hx hret (hb hby d7_46) hr
theorem d8_0 : DK kc15 0 (.iload_n 2) 1 := by decide +kernel
theorem d8_1 : DK kc15 1 (.newarray .byte) 2 := by decide +kernel
theorem d8_3 : DK kc15 3 (.astore_n 3) 1 := by decide +kernel
theorem d8_4 : DK kc15 4 (.aload_n 0) 1 := by decide +kernel
theorem d8_5 : DK kc15 5 (.iload_n 1) 1 := by decide +kernel
theorem d8_6 : DK kc15 6 (.aload_n 3) 1 := by decide +kernel
theorem d8_7 : DK kc15 7 (.iconst 0) 1 := by decide +kernel
theorem d8_8 : DK kc15 8 (.iload_n 2) 1 := by decide +kernel
theorem d8_9 : DK kc15 9 (.invokestatic 115) 3 := by decide +kernel
theorem own_pd5 : parseMethodDescriptor "([CI[BII)I" = some ⟨[(.array .char), .int, (.array .byte), .int, .int], some .int⟩ := by decide +kernel
theorem d8_12 : DK kc15 12 (.istore 4) 2 := by decide +kernel
theorem d8_14 : DK kc15 14 (.iload 4) 2 := by decide +kernel
theorem d8_16 : DK kc15 16 (.iload_n 2) 1 := by decide +kernel
theorem d8_17 : DK kc15 17 (.if_icmp .eq 40) 3 := by decide +kernel
theorem d8_57 : DK kc15 57 (.aload_n 3) 1 := by decide +kernel
theorem d8_58 : DK kc15 58 .areturn 1 := by decide +kernel
theorem own_ef_rs_c3_1 (m : MethodId) (x0 : Addr) : entryFrame m #[(.ref x0), (.int 0), (.int 1)] 6 = mkF m 0 #[vr x0, vi 0, vi 1, vu, vu, vu] [] := by first | (simp [entryFrame, mkF, argsToLocals, Value.category]; done) | rfl
def Q_rs_c3_1 (Z : State) (x : Addr) (kx : ClassId) (c0 : Int32) (h0 : Heap) (n0 : Nat) (v : Option Value) (h : Heap) (L : List Loc) : Prop := ∃ y : Addr, ∃ ky : ClassId, v = some (.ref y) ∧ Fr n0 L ∧ Keep h0 h [] ∧ Arv Z h y ky .byte 1 [(.int (lo8 c0))] (.int 0) ∧ n0 ≤ y ∧ h0.size ≤ y
theorem rs_c3_1 (l : Launch) (Z : State) (a0 : Array Value) (hw : HW a0 Z) (ws : List Jvm.Cond) (x : Addr) (kx : ClassId) (c0 : Int32) (h0 : Heap) (n0 : Nat) (Z0 : n0 ≤ h0.size) (V_x : Arv Z h0 x kx .char 1 [(.int c0)] (.int 0)) (hL_c0 : Lat c0) :
  Met l Z mN8 jdk_52_method_16_code 6 (some (.array .byte)) ({ frames := 1, cells := 1, slots := 1, locals := 18 } : Room) ws #[(.ref x), (.int 0), (.int 1)] h0 (Q_rs_c3_1 Z x kx c0 h0 n0) := by
 refine own_met (plainFor_of_name own_pn3) ?_
 intro p e s m below meth c s₁ hret hx hby hlk hml hown hnm X0 e0 hZ hh
 have N0 := Fr.nil n0
 refine Gz (castTop (own_ef_rs_c3_1 m x)) ?_
 have KP : Keep h0 h0 [] := Keep.refl _ _
 show Goes _ _ _ _ _ (fT s₁ m 0 #[vr x, vi 0, vi 1, vu, vu, vu] [])
 refine gN X0 hx hby d8_0 rfl rfl ?_
 obtain ⟨T1, h1, k1, X1, e1, E1, A1, st1⟩ := newP X0 hx hZ (gw hw 26 rfl) e0 (g := (mkF m 1 #[vr x, vi 0, vi 1, vu, vu, vu] [(.int 1)])) rfl (hb hby d8_1) rfl (by decide) (cap := 1) (by decide) (by decide) (by decide) (by decide)
 obtain ⟨b1, gq1⟩ : ∃ z, z = h0.size := ⟨_, rfl⟩
 rw [← gq1] at A1 st1
 have g_b1 : n0 ≤ b1 := by rw [gq1]; exact Z0
 have sz_b1 : h0.size ≤ b1 := by rw [gq1]; exact KP.1
 have ne_x_b1 : x ≠ b1 := by rw [gq1]; exact Nat.ne_of_lt V_x.lt
 replace V_x := V_x.ext E1
 replace KP := KP.ext E1
 replace Z0 : n0 ≤ h1.size := Nat.le_trans Z0 E1.1
 have V_b1 : Arv Z h1 b1 k1 .byte 1 [(.int 0)] (.int 0) := (Arv.new A1 (by decide)).pad (pad_rep [] (.int 0) 1)
 refine Gs st1 ?_
 show Goes _ _ _ _ _ (fT T1 m 3 #[vr x, vi 0, vi 1, vu, vu, vu] [(.ref b1)])
 refine Gz (XS.astoreN X1.here hx rfl (hb hby d8_3) rfl rfl (l' := #[vr x, vi 0, vi 1, vr b1, vu, vu]) rfl) ?_
 refine gA X1 hx hby d8_4 rfl rfl rfl ?_
 refine gN X1 hx hby d8_5 rfl rfl ?_
 refine gA X1 hx hby d8_6 rfl rfl rfl ?_
 refine gC X1 hx hby d8_7 ?_
 refine gN X1 hx hby d8_8 rfl rfl ?_
 show Goes _ _ _ _ _ (fT T1 m 9 #[vr x, vi 0, vi 1, vr b1, vu, vu] [(.int 1), (.int 0), (.ref b1), (.int 0), (.ref x)])
 refine cSg X1 hx hZ hw hown hby hml e1 mN7 27 28 29 24 0 (rs_c5_1 l Z a0 hw [] x kx b1 k1 c0 h1 n0 Z0 V_x V_b1 g_b1 ne_x_b1 hL_c0) d8_9 (lenOf own_pd5 rfl) (fun _ T2 L2 X2 hQ2 => ?_)
 obtain ⟨rfl, N2q, K2, V_b1_2'⟩ := hQ2
 have N2 := Fr.app N0 N2q
 replace KP := KP.trans K2 (allS (Or.inr sz_b1) all0)
 replace Z0 := Nat.le_trans Z0 K2.1
 have V_b1 := V_b1_2'
 show Goes _ _ _ _ _ (fT T2 m 12 #[vr x, vi 0, vi 1, vr b1, vu, vu] [(.int 1)])
 refine gS X2 hx hby d8_12 #[vr x, vi 0, vi 1, vr b1, vi 1, vu] ?_
 refine gI X2 hx hby d8_14 rfl rfl ?_
 refine gN X2 hx hby d8_16 rfl rfl ?_
 refine gY X2 hx hby d8_17 17 57 (teq (by decide : ((1 : Int32) = (1 : Int32)))).1 ?_
 refine gA X2 hx hby d8_57 rfl rfl rfl ?_
 refine Goes.ret X2 (some (.ref b1)) (fun h => by rw [hret] at h; cases h) hlk (by decide) (by decide) ?_ (fun fs hr => ?_)
 ·exact ⟨b1, k1, rfl, N2, KP, V_b1, g_b1, sz_b1⟩
 ·exact own_retA X2 hx hret rfl rfl (hb hby d8_58) hr
theorem d9_0 : DK kc14 0 (.iload_n 1) 1 := by decide +kernel
theorem d9_1 : DK kc14 1 (.aload_n 0) 1 := by decide +kernel
theorem d9_2 : DK kc14 2 .arraylength 1 := by decide +kernel
theorem d9_3 : DK kc14 3 .isub 1 := by decide +kernel
theorem d9_4 : DK kc14 4 (.bipush 31) 2 := by decide +kernel
theorem d9_6 : DK kc14 6 .iushr 1 := by decide +kernel
theorem d9_7 : DK kc14 7 .i2b 1 := by decide +kernel
theorem d9_8 : DK kc14 8 .ireturn 1 := by decide +kernel
theorem own_ef_rs_cf_1 (m : MethodId) (x0 : Addr) : entryFrame m #[(.ref x0), (.int 1)] 2 = mkF m 0 #[vr x0, vi 1] [] := by first | (simp [entryFrame, mkF, argsToLocals, Value.category]; done) | rfl
def Q_rs_cf_1 (Z : State) (y : Addr) (ky : ClassId) (vs : List Value) (h0 : Heap) (n0 : Nat) (v : Option Value) (h : Heap) (L : List Loc) : Prop := v = some (.int 0) ∧ Fr n0 L ∧ h = h0
theorem rs_cf_1 (l : Launch) (Z : State) (a0 : Array Value) (hw : HW a0 Z) (ws : List Jvm.Cond) (y : Addr) (ky : ClassId) (vs : List Value) (h0 : Heap) (n0 : Nat) (Z0 : n0 ≤ h0.size) (V_y : Arv Z h0 y ky .byte 1 vs (.int 0)) :
  Met l Z mN9 jdk_52_method_15_code 2 (some .byte) ({ frames := 0, cells := 0, slots := 0, locals := 0 } : Room) ws #[(.ref y), (.int 1)] h0 (Q_rs_cf_1 Z y ky vs h0 n0) := by
 refine own_met (plainFor_of_name own_pn3) ?_
 intro p e s m below meth c s₁ hret hx hby hlk hml hown hnm X0 e0 hZ hh
 have N0 := Fr.nil n0
 refine Gz (castTop (own_ef_rs_cf_1 m y)) ?_
 show Goes _ _ _ _ _ (fT s₁ m 0 #[vr y, vi 1] [])
 refine gN X0 hx hby d9_0 rfl rfl ?_
 refine gA X0 hx hby d9_1 rfl rfl rfl ?_
 obtain ⟨cl1, Ar1, -, S1, N1z, -, -⟩ := id V_y
 refine Gs (fun _ tk => X0.arraylength hx (by rw [e0]; exact Ar1.1) (State.isArrayOf_alike hZ.alike Ar1.2.1) (g := (mkF m 2 #[vr y, vi 1] [(.ref y), (.int 1)])) rfl rfl (hb hby d9_2) _ tk) ?_
 rw [len_of S1 N1z]
 show Goes _ _ _ _ _ (fT s₁ m 3 #[vr y, vi 1] [(.int 1), (.int 1)])
 refine Gz (XS.isub X0.here hx rfl (hb hby d9_3) rfl) ?_
 show Goes _ _ _ _ _ (fT s₁ m 4 #[vr y, vi 1] [(.int 0)])
 refine gB X0 hx hby d9_4 ?_
 show Goes _ _ _ _ _ (fT s₁ m 6 #[vr y, vi 1] [(.int 31), (.int 0)])
 refine Gz (XS.iushr X0.here hx rfl (hb hby d9_6) rfl) ?_
 rw [show (((0 : Int32).toUInt32 >>> ((31 : Int32) &&& 31).toUInt32).toInt32) = (0 : Int32) from by decide]
 show Goes _ _ _ _ _ (fT s₁ m 7 #[vr y, vi 1] [(.int 0)])
 refine Gz (XS.i2b X0.here hx rfl (hb hby d9_7) rfl) ?_
 rw [show ((0 : Int32).toInt8.toInt32) = (0 : Int32) from by decide]
 show Goes _ _ _ _ _ (fT s₁ m 8 #[vr y, vi 1] [(.int 0)])
 refine Goes.ret X0 (some (.int 0)) (fun h => by rw [hret] at h; cases h) hlk (by decide) (by decide) ?_ (fun fs hr => ?_)
 ·exact ⟨rfl, N0, e0⟩
 ·exact own_retN X0 hx (t := .byte) hret (by simp) rfl (hb hby d9_8) hr
theorem d10_0 : DK kc3 0 (.aload_n 0) 1 := by decide +kernel
theorem d10_1 : DK kc3 1 (.invokespecial 1) 3 := by decide +kernel
theorem d10_4 : DK kc3 4 (.iload_n 3) 1 := by decide +kernel
theorem d10_5 : DK kc3 5 (.ifCond .ne 22) 3 := by decide +kernel
theorem d10_27 : DK kc3 27 (.getstatic 38) 3 := by decide +kernel
theorem d10_30 : DK kc3 30 (.ifCond .eq 28) 3 := by decide +kernel
theorem d10_33 : DK kc3 33 (.aload_n 1) 1 := by decide +kernel
theorem d10_34 : DK kc3 34 (.iload_n 2) 1 := by decide +kernel
theorem d10_35 : DK kc3 35 (.iload_n 3) 1 := by decide +kernel
theorem d10_36 : DK kc3 36 (.invokestatic 177) 3 := by decide +kernel
theorem own_pd6 : parseMethodDescriptor "([CII)[B" = some ⟨[(.array .char), .int, .int], some (.array .byte)⟩ := by decide +kernel
theorem d10_39 : DK kc3 39 (.astore 5) 2 := by decide +kernel
theorem d10_41 : DK kc3 41 (.aload_n 0) 1 := by decide +kernel
theorem d10_42 : DK kc3 42 (.aload 5) 2 := by decide +kernel
theorem d10_44 : DK kc3 44 (.iload_n 3) 1 := by decide +kernel
theorem d10_45 : DK kc3 45 (.invokestatic 47) 3 := by decide +kernel
theorem own_pd7 : parseMethodDescriptor "([BI)B" = some ⟨[(.array .byte), .int], some .byte⟩ := by decide +kernel
theorem d10_48 : DK kc3 48 (.putfield 15) 3 := by decide +kernel
theorem d10_51 : DK kc3 51 (.aload_n 0) 1 := by decide +kernel
theorem d10_52 : DK kc3 52 (.aload 5) 2 := by decide +kernel
theorem d10_54 : DK kc3 54 (.putfield 9) 3 := by decide +kernel
theorem d10_57 : DK kc3 57 .return_ 1 := by decide +kernel
theorem own_ef_rs_i4_1 (m : MethodId) (x0 : Addr) (x1 : Addr) : entryFrame m #[(.ref x0), (.ref x1), (.int 0), (.int 1), .null] 6 = mkF m 0 #[vr x0, vr x1, vi 0, vi 1, .val .null, vu] [] := by first | (simp [entryFrame, mkF, argsToLocals, Value.category]; done) | rfl
def Q_rs_i4_1 (Z : State) (a : Addr) (x : Addr) (kx : ClassId) (c0 : Int32) (cz : Int32) (h0 : Heap) (n0 : Nat) (v : Option Value) (h : Heap) (L : List Loc) : Prop := v = none ∧ Fr n0 L ∧ Keep h0 h [a] ∧ StrOf Z h a [c0]
theorem rs_i4_1 (l : Launch) (Z : State) (a0 : Array Value) (hw : HW a0 Z) (ws : List Jvm.Cond) (a : Addr) (x : Addr) (kx : ClassId) (c0 : Int32) (cz : Int32) (h0 : Heap) (n0 : Nat) (Z0 : n0 ≤ h0.size) (A_a : Exa Z h0 a "java/lang/String") (F_value_a : Fld Z h0 a "java/lang/String" "value" "[B" .null) (F_coder_a : Fld Z h0 a "java/lang/String" "coder" "B" (.int 0)) (V_x : Arv Z h0 x kx .char 1 [(.int c0)] (.int 0)) (g_a : n0 ≤ a) (ne_x_a : x ≠ a) (sgC : Sta Z h0 "java/lang/String" "COMPACT_STRINGS" "Z" (.int cz)) (hcz : ¬ (cz = 0)) (hL_c0 : Lat c0) :
  Met l Z mN10 jdk_42_method_149_code 6 none ({ frames := 2, cells := 1, slots := 1, locals := 35 } : Room) ws #[(.ref a), (.ref x), (.int 0), (.int 1), .null] h0 (Q_rs_i4_1 Z a x kx c0 cz h0 n0) := by
 refine own_met (plainFor_of_name own_pn0) ?_
 intro p e s m below meth c s₁ hret hx hby hlk hml hown hnm X0 e0 hZ hh
 have N0 := Fr.nil n0
 refine Gz (castTop (own_ef_rs_i4_1 m a x)) ?_
 have KP : Keep h0 h0 [a] := Keep.refl _ _
 show Goes _ _ _ _ _ (fT s₁ m 0 #[vr a, vr x, vi 0, vi 1, .val .null, vu] [])
 have hn_c0 := own_latN hL_c0
 refine gA X0 hx hby d10_0 rfl rfl rfl ?_
 obtain ⟨T1, X1, e1, st1⟩ := initO X0 hx hZ hown (gw hw 18 rfl) (gw hw 19 rfl) (gw hw 20 rfl) e0 (g := (mkF m 1 #[vr a, vr x, vi 0, vi 1, .val .null, vu] [(.ref a)])) rfl hml.symm rfl (hb hby d10_1) (by decide) (W := 0) (wz rfl) (by decide)
 refine Gs st1 ?_
 show Goes _ _ _ _ _ (fT T1 m 4 #[vr a, vr x, vi 0, vi 1, .val .null, vu] [])
 refine gN X1 hx hby d10_4 rfl rfl ?_
 refine gy X1 hx hby d10_5 5 27 ((if0 _ _).trans (feq (by decide : ¬ ((1 : Int32) = (0 : Int32)))).2) ?_
 obtain ⟨T2, X2, e2, st2⟩ := getS2 X1 hx hZ hown (host := "") (Or.inl (gw hw 21 rfl)) Via.refl e1 sgC (g := (mkF m 27 #[vr a, vr x, vi 0, vi 1, .val .null, vu] [])) rfl (hb hby d10_27)
 refine Gs st2 ?_
 show Goes _ _ _ _ _ (fT T2 m 30 #[vr a, vr x, vi 0, vi 1, .val .null, vu] [(.int cz)])
 refine gu X2 hx hby d10_30 ((if0 _ _).trans (feq hcz).1) ?_
 refine gA X2 hx hby d10_33 rfl rfl rfl ?_
 refine gN X2 hx hby d10_34 rfl rfl ?_
 refine gN X2 hx hby d10_35 rfl rfl ?_
 have ltc3_a : a < h0.size := A_a.lt
 have ltc3_x : x < h0.size := V_x.lt
 refine cSg X2 hx hZ hw hown hby hml e2 mN8 22 23 25 24 0 (rs_c3_1 l Z a0 hw [] x kx c0 h0 n0 Z0 V_x hL_c0) d10_36 (lenOf own_pd6 rfl) (fun _ T3 L3 X3 hQ3 => ?_)
 obtain ⟨y3, ky3, rfl, N3q, K3, V_y3_3', g_y3_3', sz_y3_3'⟩ := hQ3
 have N3 := Fr.app N0 N3q
 replace A_a := A_a.keep K3
 replace F_value_a := F_value_a.keep K3 nin0
 replace F_coder_a := F_coder_a.keep K3 nin0
 replace KP := KP.trans K3 all0
 replace Z0 := Nat.le_trans Z0 K3.1
 have V_y3 := V_y3_3'
 have g_y3 := g_y3_3'
 have szc_y3 := sz_y3_3'
 have ne_a_y3 : a ≠ y3 := Nat.ne_of_lt (Nat.lt_of_lt_of_le ltc3_a szc_y3)
 have ne_x_y3 : x ≠ y3 := Nat.ne_of_lt (Nat.lt_of_lt_of_le ltc3_x szc_y3)
 show Goes _ _ _ _ _ (fT T3 m 39 #[vr a, vr x, vi 0, vi 1, .val .null, vu] [(.ref y3)])
 refine Gz (XS.astore X3.here hx rfl (hb hby d10_39) rfl rfl (l' := #[vr a, vr x, vi 0, vi 1, .val .null, vr y3]) rfl) ?_
 refine gA X3 hx hby d10_41 rfl rfl rfl ?_
 refine Gz (XS.aload X3.here hx rfl (hb hby d10_42) rfl rfl) ?_
 refine gN X3 hx hby d10_44 rfl rfl ?_
 refine cS X3 hx hZ hw hown hby hml rfl mN9 30 31 32 24 1 (rs_cf_1 l Z a0 hw [] y3 ky3 [(.int (lo8 c0))] T3.heap n0 Z0 V_y3) d10_45 (lenOf own_pd7 rfl) N3 (fun T4 L4 X4 e4 N4 => ?_)
 show Goes _ _ _ _ _ (fT T4 m 48 #[vr a, vr x, vi 0, vi 1, .val .null, vr y3] [(.int 0), (.ref a)])
 obtain ⟨T5, h5, X5, e5, W5, st5⟩ := putFN X4 hx hZ hown (gw hw 33 rfl) Via.refl e4 F_coder_a A_a (Or.inr ⟨(gw hw 34 rfl), rfl, hnm⟩) (gw hw 8 rfl) (ty := .byte) (v' := .int 0) (by decide) rfl rfl (g := (mkF m 48 #[vr a, vr x, vi 0, vi 1, .val .null, vr y3] [(.int 0), (.ref a)])) rfl rfl (hb hby d10_48)
 have N5 := Fr.snoc X5 N4 g_a
 replace A_a := A_a.wr W5
 replace F_value_a := F_value_a.other W5 (Or.inr (slot_ne (Or.inr (gw hw 36 rfl)) (Or.inr (gw hw 34 rfl)) (by decide) (t := (.array .byte)) (t' := .byte) (by decide) (by decide)))
 replace V_y3 := V_y3.other W5 (Ne.symm ne_a_y3)
 replace KP := KP.wr W5 (Or.inl (List.mem_of_getElem? (i := 0) rfl))
 replace F_coder_a := F_coder_a.same W5
 replace Z0 : n0 ≤ h5.size := by rw [W5.size]; exact Z0
 refine Gs st5 ?_
 show Goes _ _ _ _ _ (fT T5 m 51 #[vr a, vr x, vi 0, vi 1, .val .null, vr y3] [])
 refine gA X5 hx hby d10_51 rfl rfl rfl ?_
 refine Gz (XS.aload X5.here hx rfl (hb hby d10_52) rfl rfl) ?_
 obtain ⟨T6, h6, X6, e6, W6, st6⟩ := putF X5 hx hZ hown (host := "") (Or.inl (gw hw 35 rfl)) Via.refl e5 F_value_a A_a (Or.inr ⟨(gw hw 36 rfl), rfl, hnm⟩) (gw hw 8 rfl) (ty := (.array .byte)) (by decide) rfl rfl (g := (mkF m 54 #[vr a, vr x, vi 0, vi 1, .val .null, vr y3] [(.ref y3), (.ref a)])) rfl rfl (hb hby d10_54)
 have N6 := Fr.snoc X6 N5 g_a
 replace A_a := A_a.wr W6
 replace F_coder_a := F_coder_a.other W6 (Or.inr (slot_ne (Or.inr (gw hw 34 rfl)) (Or.inr (gw hw 36 rfl)) (by decide) (t := .byte) (t' := (.array .byte)) (by decide) (by decide)))
 replace V_y3 := V_y3.other W6 (Ne.symm ne_a_y3)
 replace KP := KP.wr W6 (Or.inl (List.mem_of_getElem? (i := 0) rfl))
 replace F_value_a := F_value_a.same W6
 replace Z0 : n0 ≤ h6.size := by rw [W6.size]; exact Z0
 refine Gs st6 ?_
 show Goes _ _ _ _ _ (fT T6 m 57 #[vr a, vr x, vi 0, vi 1, .val .null, vr y3] [])
 have T_a : StrOf Z h6 a [c0] := StrOf.latin A_a F_value_a F_coder_a V_y3 (by intro c hc; simp only [List.mem_cons, List.not_mem_nil, or_false] at hc; rcases hc with rfl <;> assumption) rfl rfl (Nat.le_of_ble_eq_true rfl)
 refine Goes.ret X6 none (fun _ => rfl) hlk (by decide) (by decide) ?_ (fun fs hr => ?_)
 ·rw [e6]; exact ⟨rfl, N6, KP, T_a⟩
 ·exact X6.returnOut hx hret (hb hby d10_57) hr
theorem d11_0 : DK kc7 0 (.aload_n 0) 1 := by decide +kernel
theorem d11_1 : DK kc7 1 (.aload_n 1) 1 := by decide +kernel
theorem d11_2 : DK kc7 2 (.iconst 0) 1 := by decide +kernel
theorem d11_3 : DK kc7 3 (.aload_n 1) 1 := by decide +kernel
theorem d11_4 : DK kc7 4 .arraylength 1 := by decide +kernel
theorem d11_5 : DK kc7 5 .aconst_null 1 := by decide +kernel
theorem d11_6 : DK kc7 6 (.invokespecial 27) 3 := by decide +kernel
theorem own_pd8 : parseMethodDescriptor "([CIILjava/lang/Void;)V" = some ⟨[(.array .char), .int, .int, (.object "java/lang/Void")], none⟩ := by decide +kernel
theorem d11_9 : DK kc7 9 .return_ 1 := by decide +kernel
theorem own_ef_rs_i1_1 (m : MethodId) (x0 : Addr) (x1 : Addr) : entryFrame m #[(.ref x0), (.ref x1)] 2 = mkF m 0 #[vr x0, vr x1] [] := by first | (simp [entryFrame, mkF, argsToLocals, Value.category]; done) | rfl
def Q_rs_i1_1 (Z : State) (a : Addr) (x : Addr) (kx : ClassId) (c0 : Int32) (cz : Int32) (h0 : Heap) (n0 : Nat) (v : Option Value) (h : Heap) (L : List Loc) : Prop := v = none ∧ Fr n0 L ∧ Keep h0 h [a] ∧ StrOf Z h a [c0]
theorem rs_i1_1 (l : Launch) (Z : State) (a0 : Array Value) (hw : HW a0 Z) (ws : List Jvm.Cond) (a : Addr) (x : Addr) (kx : ClassId) (c0 : Int32) (cz : Int32) (h0 : Heap) (n0 : Nat) (Z0 : n0 ≤ h0.size) (A_a : Exa Z h0 a "java/lang/String") (F_value_a : Fld Z h0 a "java/lang/String" "value" "[B" .null) (F_coder_a : Fld Z h0 a "java/lang/String" "coder" "B" (.int 0)) (V_x : Arv Z h0 x kx .char 1 [(.int c0)] (.int 0)) (g_a : n0 ≤ a) (ne_x_a : x ≠ a) (sgC : Sta Z h0 "java/lang/String" "COMPACT_STRINGS" "Z" (.int cz)) (hcz : ¬ (cz = 0)) (hL_c0 : Lat c0) :
  Met l Z mN11 jdk_42_method_3_code 2 none ({ frames := 3, cells := 1, slots := 1, locals := 52 } : Room) ws #[(.ref a), (.ref x)] h0 (Q_rs_i1_1 Z a x kx c0 cz h0 n0) := by
 refine own_met (plainFor_of_name own_pn0) ?_
 intro p e s m below meth c s₁ hret hx hby hlk hml hown hnm X0 e0 hZ hh
 have N0 := Fr.nil n0
 refine Gz (castTop (own_ef_rs_i1_1 m a x)) ?_
 have KP : Keep h0 h0 [a] := Keep.refl _ _
 show Goes _ _ _ _ _ (fT s₁ m 0 #[vr a, vr x] [])
 refine gA X0 hx hby d11_0 rfl rfl rfl ?_
 refine gA X0 hx hby d11_1 rfl rfl rfl ?_
 refine gC X0 hx hby d11_2 ?_
 refine gA X0 hx hby d11_3 rfl rfl rfl ?_
 obtain ⟨cl1, Ar1, -, S1, N1z, -, -⟩ := id V_x
 refine Gs (fun _ tk => X0.arraylength hx (by rw [e0]; exact Ar1.1) (State.isArrayOf_alike hZ.alike Ar1.2.1) (g := (mkF m 4 #[vr a, vr x] [(.ref x), (.int 0), (.ref x), (.ref a)])) rfl rfl (hb hby d11_4) _ tk) ?_
 rw [len_of S1 N1z]
 show Goes _ _ _ _ _ (fT s₁ m 5 #[vr a, vr x] [(.int 1), (.int 0), (.ref x), (.ref a)])
 refine Gz (XS.aconstNull X0.here hx rfl (hb hby d11_5)) ?_
 refine cIg X0 hx hZ hw hown hby hml e0 mN10 14 15 17 9 0 (rs_i4_1 l Z a0 hw [] a x kx c0 cz h0 n0 Z0 A_a F_value_a F_coder_a V_x g_a ne_x_a sgC hcz hL_c0) d11_6 (lenOf own_pd8 rfl) (fun _ T2 L2 X2 hQ2 => ?_)
 obtain ⟨rfl, N2q, K2, T_a_2'⟩ := hQ2
 have N2 := Fr.app N0 N2q
 replace KP := KP.trans K2 (allS (Or.inl (List.mem_of_getElem? (i := 0) rfl)) all0)
 replace Z0 := Nat.le_trans Z0 K2.1
 have T_a := T_a_2'
 show Goes _ _ _ _ _ (fT T2 m 9 #[vr a, vr x] [])
 refine Goes.ret X2 none (fun _ => rfl) hlk (by decide) (by decide) ?_ (fun fs hr => ?_)
 ·exact ⟨rfl, N2, KP, T_a⟩
 ·exact X2.returnOut hx hret (hb hby d11_9) hr
theorem own_ef_rs_c5_2 (m : MethodId) (x0 : Addr) (x2 : Addr) : entryFrame m #[(.ref x0), (.int 0), (.ref x2), (.int 0), (.int 2)] 7 = mkF m 0 #[vr x0, vi 0, vr x2, vi 0, vi 2, vu, vu] [] := by first | (simp [entryFrame, mkF, argsToLocals, Value.category]; done) | rfl
def Q_rs_c5_2 (Z : State) (x : Addr) (kx : ClassId) (y : Addr) (ky : ClassId) (c0 : Int32) (c1 : Int32) (h0 : Heap) (n0 : Nat) (v : Option Value) (h : Heap) (L : List Loc) : Prop := v = some (.int 2) ∧ Fr n0 L ∧ Keep h0 h [y] ∧ Arv Z h y ky .byte 2 [(.int (lo8 c0)), (.int (lo8 c1))] (.int 0)
theorem rs_c5_2 (l : Launch) (Z : State) (a0 : Array Value) (hw : HW a0 Z) (ws : List Jvm.Cond) (x : Addr) (kx : ClassId) (y : Addr) (ky : ClassId) (c0 : Int32) (c1 : Int32) (h0 : Heap) (n0 : Nat) (Z0 : n0 ≤ h0.size) (V_x : Arv Z h0 x kx .char 2 [(.int c0), (.int c1)] (.int 0)) (V_y : Arv Z h0 y ky .byte 2 [(.int 0), (.int 0)] (.int 0)) (g_y : n0 ≤ y) (ne_x_y : x ≠ y) (hL_c0 : Lat c0) (hL_c1 : Lat c1) :
  Met l Z mN7 jdk_52_method_21_code 7 (some .int) ({ frames := 0, cells := 0, slots := 0, locals := 0 } : Room) ws #[(.ref x), (.int 0), (.ref y), (.int 0), (.int 2)] h0 (Q_rs_c5_2 Z x kx y ky c0 c1 h0 n0) := by
 refine own_met (plainFor_of_name own_pn3) ?_
 intro p e s m below meth c s₁ hret hx hby hlk hml hown hnm X0 e0 hZ hh
 have N0 := Fr.nil n0
 refine Gz (castTop (own_ef_rs_c5_2 m x y)) ?_
 have KP : Keep h0 h0 [y] := Keep.refl _ _
 show Goes _ _ _ _ _ (fT s₁ m 0 #[vr x, vi 0, vr y, vi 0, vi 2, vu, vu] [])
 have hn_c0 := own_latN hL_c0
 have hn_c1 := own_latN hL_c1
 refine gC X0 hx hby d7_0 ?_
 refine gS X0 hx hby d7_1 #[vr x, vi 0, vr y, vi 0, vi 2, vi 0, vu] ?_
 refine gI X0 hx hby d7_3 rfl rfl ?_
 refine gI X0 hx hby d7_5 rfl rfl ?_
 refine gU X0 hx hby d7_7 (tlt (by decide : ((0 : Int32) < (2 : Int32)))).2.1 ?_
 refine gA X0 hx hby d7_10 rfl rfl rfl ?_
 show Goes _ _ _ _ _ (fT s₁ m 11 #[vr x, vi 0, vr y, vi 0, vi 2, vi 0, vu] [(.ref x)])
 refine gN X0 hx hby d7_11 rfl rfl ?_
 obtain ⟨cl1, Ar1, -, S1, N1z, H1, -⟩ := id V_x
 have hin1 : ¬ ((0 : Int32) < 0 ∨ cl1.slots.size ≤ ((0 : Int32)).toNatClampNeg) := inb_of S1 ⟨by decide, by decide⟩
 have hat1 : cl1.slots[((0 : Int32)).toNatClampNeg]? = some (.int c0) := Has.at H1 hin1 rfl
 refine Gs (fun _ tk => X0.caload hx (j := (0 : Int32)) (v := (.int c0)) (by rw [e0]; exact Ar1.1) (State.isArrayOf_alike hZ.alike Ar1.2.1) Ar1.2.2 hin1 hat1 (g := (mkF m 12 #[vr x, vi 0, vr y, vi 0, vi 2, vi 0, vu] [(.int 0), (.ref x)])) rfl rfl (hb hby d7_12) _ tk) ?_
 show Goes _ _ _ _ _ (fT s₁ m 13 #[vr x, vi 0, vr y, vi 0, vi 2, vi 0, vu] [(.int c0)])
 refine gS X0 hx hby d7_13 #[vr x, vi 0, vr y, vi 0, vi 2, vi 0, vi c0] ?_
 refine gI X0 hx hby d7_15 rfl rfl ?_
 refine Gz (XS.sipush X0.here hx rfl (hb hby d7_17)) ?_
 refine gY X0 hx hby d7_20 20 26 (flt hn_c0).2.2.2 ?_
 refine gA X0 hx hby d7_26 rfl rfl rfl ?_
 refine gN X0 hx hby d7_27 rfl rfl ?_
 show Goes _ _ _ _ _ (fT s₁ m 28 #[vr x, vi 0, vr y, vi 0, vi 2, vi 0, vi c0] [(.int 0), (.ref y)])
 refine gI X0 hx hby d7_28 rfl rfl ?_
 show Goes _ _ _ _ _ (fT s₁ m 30 #[vr x, vi 0, vr y, vi 0, vi 2, vi 0, vi c0] [(.int c0), (.int 0), (.ref y)])
 refine Gz (XS.i2b X0.here hx rfl (hb hby d7_30) rfl) ?_
 show Goes _ _ _ _ _ (fT s₁ m 31 #[vr x, vi 0, vr y, vi 0, vi 2, vi 0, vi c0] [(.int (c0.toInt8.toInt32)), (.int 0), (.ref y)])
 obtain ⟨cl2, Ar2, q2, S2, N2z, H2, G2⟩ := V_y
 have hin2 : ¬ ((0 : Int32) < 0 ∨ cl2.slots.size ≤ ((0 : Int32)).toNatClampNeg) := inb_of S2 ⟨by decide, by decide⟩
 obtain ⟨T2, h2, X2, e2, W2, st2⟩ := stB X0 hx hZ e0 Ar2 (j := (0 : Int32)) hin2 (g := (mkF m 31 #[vr x, vi 0, vr y, vi 0, vi 2, vi 0, vi c0] [(.int (c0.toInt8.toInt32)), (.int 0), (.ref y)])) rfl rfl (hb hby d7_31)
 have Vn2 := Arv.set Ar2 q2 S2 N2z H2 G2 (fits_nar_byte _) W2 0 rfl (Nat.le_of_ble_eq_true rfl)
 have N2 := Fr.snoc X2 N0 g_y
 replace V_x := V_x.other W2 ne_x_y
 replace KP := KP.wr W2 (Or.inl (List.mem_of_getElem? (i := 0) rfl))
 have V_y : Arv Z h2 y ky .byte 2 [(.int (lo8 c0)), (.int 0)] (.int 0) := by have q := Vn2; rw [own_nb2] at q; exact q
 replace Z0 : n0 ≤ h2.size := by rw [W2.size]; exact Z0
 refine Gs st2 ?_
 show Goes _ _ _ _ _ (fT T2 m 32 #[vr x, vi 0, vr y, vi 0, vi 2, vi 0, vi c0] [])
 refine Gz (XS.iinc X2.here hx rfl (hb hby d7_32) rfl (l' := #[vr x, vi ((0 : Int32) + (1 : Int32)), vr y, vi 0, vi 2, vi 0, vi c0]) rfl) ?_
 show Goes _ _ _ _ _ (fT T2 m 35 #[vr x, vi 1, vr y, vi 0, vi 2, vi 0, vi c0] [])
 refine Gz (XS.iinc X2.here hx rfl (hb hby d7_35) rfl (l' := #[vr x, vi 1, vr y, vi ((0 : Int32) + (1 : Int32)), vi 2, vi 0, vi c0]) rfl) ?_
 show Goes _ _ _ _ _ (fT T2 m 38 #[vr x, vi 1, vr y, vi 1, vi 2, vi 0, vi c0] [])
 refine Gz (XS.iinc X2.here hx rfl (hb hby d7_38) rfl (l' := #[vr x, vi 1, vr y, vi 1, vi 2, vi ((0 : Int32) + (1 : Int32)), vi c0]) rfl) ?_
 show Goes _ _ _ _ _ (fT T2 m 41 #[vr x, vi 1, vr y, vi 1, vi 2, vi 1, vi c0] [])
 refine gG X2 hx hby d7_41 41 3 ?_
 refine gI X2 hx hby d7_3 rfl rfl ?_
 refine gI X2 hx hby d7_5 rfl rfl ?_
 refine gU X2 hx hby d7_7 (tlt (by decide : ((1 : Int32) < (2 : Int32)))).2.1 ?_
 refine gA X2 hx hby d7_10 rfl rfl rfl ?_
 refine gN X2 hx hby d7_11 rfl rfl ?_
 show Goes _ _ _ _ _ (fT T2 m 12 #[vr x, vi 1, vr y, vi 1, vi 2, vi 1, vi c0] [(.int 1), (.ref x)])
 obtain ⟨cl3, Ar3, -, S3, N3z, H3, -⟩ := id V_x
 have hin3 : ¬ ((1 : Int32) < 0 ∨ cl3.slots.size ≤ ((1 : Int32)).toNatClampNeg) := inb_of S3 ⟨by decide, by decide⟩
 have hat3 : cl3.slots[((1 : Int32)).toNatClampNeg]? = some (.int c1) := Has.at H3 hin3 rfl
 refine Gs (fun _ tk => X2.caload hx (j := (1 : Int32)) (v := (.int c1)) (by rw [e2]; exact Ar3.1) (State.isArrayOf_alike hZ.alike Ar3.2.1) Ar3.2.2 hin3 hat3 (g := (mkF m 12 #[vr x, vi 1, vr y, vi 1, vi 2, vi 1, vi c0] [(.int 1), (.ref x)])) rfl rfl (hb hby d7_12) _ tk) ?_
 show Goes _ _ _ _ _ (fT T2 m 13 #[vr x, vi 1, vr y, vi 1, vi 2, vi 1, vi c0] [(.int c1)])
 refine gS X2 hx hby d7_13 #[vr x, vi 1, vr y, vi 1, vi 2, vi 1, vi c1] ?_
 refine gI X2 hx hby d7_15 rfl rfl ?_
 refine Gz (XS.sipush X2.here hx rfl (hb hby d7_17)) ?_
 refine gY X2 hx hby d7_20 20 26 (flt hn_c1).2.2.2 ?_
 refine gA X2 hx hby d7_26 rfl rfl rfl ?_
 refine gN X2 hx hby d7_27 rfl rfl ?_
 show Goes _ _ _ _ _ (fT T2 m 28 #[vr x, vi 1, vr y, vi 1, vi 2, vi 1, vi c1] [(.int 1), (.ref y)])
 refine gI X2 hx hby d7_28 rfl rfl ?_
 show Goes _ _ _ _ _ (fT T2 m 30 #[vr x, vi 1, vr y, vi 1, vi 2, vi 1, vi c1] [(.int c1), (.int 1), (.ref y)])
 refine Gz (XS.i2b X2.here hx rfl (hb hby d7_30) rfl) ?_
 show Goes _ _ _ _ _ (fT T2 m 31 #[vr x, vi 1, vr y, vi 1, vi 2, vi 1, vi c1] [(.int (c1.toInt8.toInt32)), (.int 1), (.ref y)])
 obtain ⟨cl4, Ar4, q4, S4, N4z, H4, G4⟩ := V_y
 have hin4 : ¬ ((1 : Int32) < 0 ∨ cl4.slots.size ≤ ((1 : Int32)).toNatClampNeg) := inb_of S4 ⟨by decide, by decide⟩
 obtain ⟨T4, h4, X4, e4, W4, st4⟩ := stB X2 hx hZ e2 Ar4 (j := (1 : Int32)) hin4 (g := (mkF m 31 #[vr x, vi 1, vr y, vi 1, vi 2, vi 1, vi c1] [(.int (c1.toInt8.toInt32)), (.int 1), (.ref y)])) rfl rfl (hb hby d7_31)
 have Vn4 := Arv.set Ar4 q4 S4 N4z H4 G4 (fits_nar_byte _) W4 1 rfl (Nat.le_of_ble_eq_true rfl)
 have N4 := Fr.snoc X4 N2 g_y
 replace KP := KP.wr W4 (Or.inl (List.mem_of_getElem? (i := 0) rfl))
 have V_y : Arv Z h4 y ky .byte 2 [(.int (lo8 c0)), (.int (lo8 c1))] (.int 0) := by have q := Vn4; rw [own_nb2] at q; exact q
 replace Z0 : n0 ≤ h4.size := by rw [W4.size]; exact Z0
 refine Gs st4 ?_
 show Goes _ _ _ _ _ (fT T4 m 32 #[vr x, vi 1, vr y, vi 1, vi 2, vi 1, vi c1] [])
 refine Gz (XS.iinc X4.here hx rfl (hb hby d7_32) rfl (l' := #[vr x, vi ((1 : Int32) + (1 : Int32)), vr y, vi 1, vi 2, vi 1, vi c1]) rfl) ?_
 show Goes _ _ _ _ _ (fT T4 m 35 #[vr x, vi 2, vr y, vi 1, vi 2, vi 1, vi c1] [])
 refine Gz (XS.iinc X4.here hx rfl (hb hby d7_35) rfl (l' := #[vr x, vi 2, vr y, vi ((1 : Int32) + (1 : Int32)), vi 2, vi 1, vi c1]) rfl) ?_
 show Goes _ _ _ _ _ (fT T4 m 38 #[vr x, vi 2, vr y, vi 2, vi 2, vi 1, vi c1] [])
 refine Gz (XS.iinc X4.here hx rfl (hb hby d7_38) rfl (l' := #[vr x, vi 2, vr y, vi 2, vi 2, vi ((1 : Int32) + (1 : Int32)), vi c1]) rfl) ?_
 show Goes _ _ _ _ _ (fT T4 m 41 #[vr x, vi 2, vr y, vi 2, vi 2, vi 2, vi c1] [])
 refine gG X4 hx hby d7_41 41 3 ?_
 refine gI X4 hx hby d7_3 rfl rfl ?_
 refine gI X4 hx hby d7_5 rfl rfl ?_
 refine gY X4 hx hby d7_7 7 44 (flt (by decide : ¬ ((2 : Int32) < (2 : Int32)))).2.1 ?_
 refine gI X4 hx hby d7_44 rfl rfl ?_
 refine Goes.ret X4 (some (.int 2)) (fun h => by rw [hret] at h; cases h) hlk (by decide) (by decide) ?_ (fun fs hr => ?_)
 ·rw [e4]; exact ⟨rfl, N4, KP, V_y⟩
 ·exact retI X4 hx hret (hb hby d7_46) hr
theorem own_ef_rs_c3_2 (m : MethodId) (x0 : Addr) : entryFrame m #[(.ref x0), (.int 0), (.int 2)] 6 = mkF m 0 #[vr x0, vi 0, vi 2, vu, vu, vu] [] := by first | (simp [entryFrame, mkF, argsToLocals, Value.category]; done) | rfl
def Q_rs_c3_2 (Z : State) (x : Addr) (kx : ClassId) (c0 : Int32) (c1 : Int32) (h0 : Heap) (n0 : Nat) (v : Option Value) (h : Heap) (L : List Loc) : Prop := ∃ y : Addr, ∃ ky : ClassId, v = some (.ref y) ∧ Fr n0 L ∧ Keep h0 h [] ∧ Arv Z h y ky .byte 2 [(.int (lo8 c0)), (.int (lo8 c1))] (.int 0) ∧ n0 ≤ y ∧ h0.size ≤ y
theorem rs_c3_2 (l : Launch) (Z : State) (a0 : Array Value) (hw : HW a0 Z) (ws : List Jvm.Cond) (x : Addr) (kx : ClassId) (c0 : Int32) (c1 : Int32) (h0 : Heap) (n0 : Nat) (Z0 : n0 ≤ h0.size) (V_x : Arv Z h0 x kx .char 2 [(.int c0), (.int c1)] (.int 0)) (hL_c0 : Lat c0) (hL_c1 : Lat c1) :
  Met l Z mN8 jdk_52_method_16_code 6 (some (.array .byte)) ({ frames := 1, cells := 1, slots := 2, locals := 18 } : Room) ws #[(.ref x), (.int 0), (.int 2)] h0 (Q_rs_c3_2 Z x kx c0 c1 h0 n0) := by
 refine own_met (plainFor_of_name own_pn3) ?_
 intro p e s m below meth c s₁ hret hx hby hlk hml hown hnm X0 e0 hZ hh
 have N0 := Fr.nil n0
 refine Gz (castTop (own_ef_rs_c3_2 m x)) ?_
 have KP : Keep h0 h0 [] := Keep.refl _ _
 show Goes _ _ _ _ _ (fT s₁ m 0 #[vr x, vi 0, vi 2, vu, vu, vu] [])
 refine gN X0 hx hby d8_0 rfl rfl ?_
 obtain ⟨T1, h1, k1, X1, e1, E1, A1, st1⟩ := newP X0 hx hZ (gw hw 26 rfl) e0 (g := (mkF m 1 #[vr x, vi 0, vi 2, vu, vu, vu] [(.int 2)])) rfl (hb hby d8_1) rfl (by decide) (cap := 2) (by decide) (by decide) (by decide) (by decide)
 obtain ⟨b1, gq1⟩ : ∃ z, z = h0.size := ⟨_, rfl⟩
 rw [← gq1] at A1 st1
 have g_b1 : n0 ≤ b1 := by rw [gq1]; exact Z0
 have sz_b1 : h0.size ≤ b1 := by rw [gq1]; exact KP.1
 have ne_x_b1 : x ≠ b1 := by rw [gq1]; exact Nat.ne_of_lt V_x.lt
 replace V_x := V_x.ext E1
 replace KP := KP.ext E1
 replace Z0 : n0 ≤ h1.size := Nat.le_trans Z0 E1.1
 have V_b1 : Arv Z h1 b1 k1 .byte 2 [(.int 0), (.int 0)] (.int 0) := (Arv.new A1 (by decide)).pad (pad_rep [] (.int 0) 2)
 refine Gs st1 ?_
 show Goes _ _ _ _ _ (fT T1 m 3 #[vr x, vi 0, vi 2, vu, vu, vu] [(.ref b1)])
 refine Gz (XS.astoreN X1.here hx rfl (hb hby d8_3) rfl rfl (l' := #[vr x, vi 0, vi 2, vr b1, vu, vu]) rfl) ?_
 refine gA X1 hx hby d8_4 rfl rfl rfl ?_
 refine gN X1 hx hby d8_5 rfl rfl ?_
 refine gA X1 hx hby d8_6 rfl rfl rfl ?_
 refine gC X1 hx hby d8_7 ?_
 refine gN X1 hx hby d8_8 rfl rfl ?_
 show Goes _ _ _ _ _ (fT T1 m 9 #[vr x, vi 0, vi 2, vr b1, vu, vu] [(.int 2), (.int 0), (.ref b1), (.int 0), (.ref x)])
 refine cSg X1 hx hZ hw hown hby hml e1 mN7 27 28 29 24 0 (rs_c5_2 l Z a0 hw [] x kx b1 k1 c0 c1 h1 n0 Z0 V_x V_b1 g_b1 ne_x_b1 hL_c0 hL_c1) d8_9 (lenOf own_pd5 rfl) (fun _ T2 L2 X2 hQ2 => ?_)
 obtain ⟨rfl, N2q, K2, V_b1_2'⟩ := hQ2
 have N2 := Fr.app N0 N2q
 replace KP := KP.trans K2 (allS (Or.inr sz_b1) all0)
 replace Z0 := Nat.le_trans Z0 K2.1
 have V_b1 := V_b1_2'
 show Goes _ _ _ _ _ (fT T2 m 12 #[vr x, vi 0, vi 2, vr b1, vu, vu] [(.int 2)])
 refine gS X2 hx hby d8_12 #[vr x, vi 0, vi 2, vr b1, vi 2, vu] ?_
 refine gI X2 hx hby d8_14 rfl rfl ?_
 refine gN X2 hx hby d8_16 rfl rfl ?_
 refine gY X2 hx hby d8_17 17 57 (teq (by decide : ((2 : Int32) = (2 : Int32)))).1 ?_
 refine gA X2 hx hby d8_57 rfl rfl rfl ?_
 refine Goes.ret X2 (some (.ref b1)) (fun h => by rw [hret] at h; cases h) hlk (by decide) (by decide) ?_ (fun fs hr => ?_)
 ·exact ⟨b1, k1, rfl, N2, KP, V_b1, g_b1, sz_b1⟩
 ·exact own_retA X2 hx hret rfl rfl (hb hby d8_58) hr
theorem own_ef_rs_cf_2 (m : MethodId) (x0 : Addr) : entryFrame m #[(.ref x0), (.int 2)] 2 = mkF m 0 #[vr x0, vi 2] [] := by first | (simp [entryFrame, mkF, argsToLocals, Value.category]; done) | rfl
def Q_rs_cf_2 (Z : State) (y : Addr) (ky : ClassId) (vs : List Value) (h0 : Heap) (n0 : Nat) (v : Option Value) (h : Heap) (L : List Loc) : Prop := v = some (.int 0) ∧ Fr n0 L ∧ h = h0
theorem rs_cf_2 (l : Launch) (Z : State) (a0 : Array Value) (hw : HW a0 Z) (ws : List Jvm.Cond) (y : Addr) (ky : ClassId) (vs : List Value) (h0 : Heap) (n0 : Nat) (Z0 : n0 ≤ h0.size) (V_y : Arv Z h0 y ky .byte 2 vs (.int 0)) :
  Met l Z mN9 jdk_52_method_15_code 2 (some .byte) ({ frames := 0, cells := 0, slots := 0, locals := 0 } : Room) ws #[(.ref y), (.int 2)] h0 (Q_rs_cf_2 Z y ky vs h0 n0) := by
 refine own_met (plainFor_of_name own_pn3) ?_
 intro p e s m below meth c s₁ hret hx hby hlk hml hown hnm X0 e0 hZ hh
 have N0 := Fr.nil n0
 refine Gz (castTop (own_ef_rs_cf_2 m y)) ?_
 show Goes _ _ _ _ _ (fT s₁ m 0 #[vr y, vi 2] [])
 refine gN X0 hx hby d9_0 rfl rfl ?_
 refine gA X0 hx hby d9_1 rfl rfl rfl ?_
 obtain ⟨cl1, Ar1, -, S1, N1z, -, -⟩ := id V_y
 refine Gs (fun _ tk => X0.arraylength hx (by rw [e0]; exact Ar1.1) (State.isArrayOf_alike hZ.alike Ar1.2.1) (g := (mkF m 2 #[vr y, vi 2] [(.ref y), (.int 2)])) rfl rfl (hb hby d9_2) _ tk) ?_
 rw [len_of S1 N1z]
 show Goes _ _ _ _ _ (fT s₁ m 3 #[vr y, vi 2] [(.int 2), (.int 2)])
 refine Gz (XS.isub X0.here hx rfl (hb hby d9_3) rfl) ?_
 show Goes _ _ _ _ _ (fT s₁ m 4 #[vr y, vi 2] [(.int 0)])
 refine gB X0 hx hby d9_4 ?_
 show Goes _ _ _ _ _ (fT s₁ m 6 #[vr y, vi 2] [(.int 31), (.int 0)])
 refine Gz (XS.iushr X0.here hx rfl (hb hby d9_6) rfl) ?_
 rw [show (((0 : Int32).toUInt32 >>> ((31 : Int32) &&& 31).toUInt32).toInt32) = (0 : Int32) from by decide]
 show Goes _ _ _ _ _ (fT s₁ m 7 #[vr y, vi 2] [(.int 0)])
 refine Gz (XS.i2b X0.here hx rfl (hb hby d9_7) rfl) ?_
 rw [show ((0 : Int32).toInt8.toInt32) = (0 : Int32) from by decide]
 show Goes _ _ _ _ _ (fT s₁ m 8 #[vr y, vi 2] [(.int 0)])
 refine Goes.ret X0 (some (.int 0)) (fun h => by rw [hret] at h; cases h) hlk (by decide) (by decide) ?_ (fun fs hr => ?_)
 ·exact ⟨rfl, N0, e0⟩
 ·exact own_retN X0 hx (t := .byte) hret (by simp) rfl (hb hby d9_8) hr
theorem own_ef_rs_i4_2 (m : MethodId) (x0 : Addr) (x1 : Addr) : entryFrame m #[(.ref x0), (.ref x1), (.int 0), (.int 2), .null] 6 = mkF m 0 #[vr x0, vr x1, vi 0, vi 2, .val .null, vu] [] := by first | (simp [entryFrame, mkF, argsToLocals, Value.category]; done) | rfl
def Q_rs_i4_2 (Z : State) (a : Addr) (x : Addr) (kx : ClassId) (c0 : Int32) (c1 : Int32) (cz : Int32) (h0 : Heap) (n0 : Nat) (v : Option Value) (h : Heap) (L : List Loc) : Prop := v = none ∧ Fr n0 L ∧ Keep h0 h [a] ∧ StrOf Z h a [c0, c1]
theorem rs_i4_2 (l : Launch) (Z : State) (a0 : Array Value) (hw : HW a0 Z) (ws : List Jvm.Cond) (a : Addr) (x : Addr) (kx : ClassId) (c0 : Int32) (c1 : Int32) (cz : Int32) (h0 : Heap) (n0 : Nat) (Z0 : n0 ≤ h0.size) (A_a : Exa Z h0 a "java/lang/String") (F_value_a : Fld Z h0 a "java/lang/String" "value" "[B" .null) (F_coder_a : Fld Z h0 a "java/lang/String" "coder" "B" (.int 0)) (V_x : Arv Z h0 x kx .char 2 [(.int c0), (.int c1)] (.int 0)) (g_a : n0 ≤ a) (ne_x_a : x ≠ a) (sgC : Sta Z h0 "java/lang/String" "COMPACT_STRINGS" "Z" (.int cz)) (hcz : ¬ (cz = 0)) (hL_c0 : Lat c0) (hL_c1 : Lat c1) :
  Met l Z mN10 jdk_42_method_149_code 6 none ({ frames := 2, cells := 1, slots := 2, locals := 35 } : Room) ws #[(.ref a), (.ref x), (.int 0), (.int 2), .null] h0 (Q_rs_i4_2 Z a x kx c0 c1 cz h0 n0) := by
 refine own_met (plainFor_of_name own_pn0) ?_
 intro p e s m below meth c s₁ hret hx hby hlk hml hown hnm X0 e0 hZ hh
 have N0 := Fr.nil n0
 refine Gz (castTop (own_ef_rs_i4_2 m a x)) ?_
 have KP : Keep h0 h0 [a] := Keep.refl _ _
 show Goes _ _ _ _ _ (fT s₁ m 0 #[vr a, vr x, vi 0, vi 2, .val .null, vu] [])
 have hn_c0 := own_latN hL_c0
 have hn_c1 := own_latN hL_c1
 refine gA X0 hx hby d10_0 rfl rfl rfl ?_
 obtain ⟨T1, X1, e1, st1⟩ := initO X0 hx hZ hown (gw hw 18 rfl) (gw hw 19 rfl) (gw hw 20 rfl) e0 (g := (mkF m 1 #[vr a, vr x, vi 0, vi 2, .val .null, vu] [(.ref a)])) rfl hml.symm rfl (hb hby d10_1) (by decide) (W := 0) (wz rfl) (by decide)
 refine Gs st1 ?_
 show Goes _ _ _ _ _ (fT T1 m 4 #[vr a, vr x, vi 0, vi 2, .val .null, vu] [])
 refine gN X1 hx hby d10_4 rfl rfl ?_
 refine gy X1 hx hby d10_5 5 27 ((if0 _ _).trans (feq (by decide : ¬ ((2 : Int32) = (0 : Int32)))).2) ?_
 obtain ⟨T2, X2, e2, st2⟩ := getS2 X1 hx hZ hown (host := "") (Or.inl (gw hw 21 rfl)) Via.refl e1 sgC (g := (mkF m 27 #[vr a, vr x, vi 0, vi 2, .val .null, vu] [])) rfl (hb hby d10_27)
 refine Gs st2 ?_
 show Goes _ _ _ _ _ (fT T2 m 30 #[vr a, vr x, vi 0, vi 2, .val .null, vu] [(.int cz)])
 refine gu X2 hx hby d10_30 ((if0 _ _).trans (feq hcz).1) ?_
 refine gA X2 hx hby d10_33 rfl rfl rfl ?_
 refine gN X2 hx hby d10_34 rfl rfl ?_
 refine gN X2 hx hby d10_35 rfl rfl ?_
 have ltc3_a : a < h0.size := A_a.lt
 have ltc3_x : x < h0.size := V_x.lt
 refine cSg X2 hx hZ hw hown hby hml e2 mN8 22 23 25 24 0 (rs_c3_2 l Z a0 hw [] x kx c0 c1 h0 n0 Z0 V_x hL_c0 hL_c1) d10_36 (lenOf own_pd6 rfl) (fun _ T3 L3 X3 hQ3 => ?_)
 obtain ⟨y3, ky3, rfl, N3q, K3, V_y3_3', g_y3_3', sz_y3_3'⟩ := hQ3
 have N3 := Fr.app N0 N3q
 replace A_a := A_a.keep K3
 replace F_value_a := F_value_a.keep K3 nin0
 replace F_coder_a := F_coder_a.keep K3 nin0
 replace KP := KP.trans K3 all0
 replace Z0 := Nat.le_trans Z0 K3.1
 have V_y3 := V_y3_3'
 have g_y3 := g_y3_3'
 have szc_y3 := sz_y3_3'
 have ne_a_y3 : a ≠ y3 := Nat.ne_of_lt (Nat.lt_of_lt_of_le ltc3_a szc_y3)
 have ne_x_y3 : x ≠ y3 := Nat.ne_of_lt (Nat.lt_of_lt_of_le ltc3_x szc_y3)
 show Goes _ _ _ _ _ (fT T3 m 39 #[vr a, vr x, vi 0, vi 2, .val .null, vu] [(.ref y3)])
 refine Gz (XS.astore X3.here hx rfl (hb hby d10_39) rfl rfl (l' := #[vr a, vr x, vi 0, vi 2, .val .null, vr y3]) rfl) ?_
 refine gA X3 hx hby d10_41 rfl rfl rfl ?_
 refine Gz (XS.aload X3.here hx rfl (hb hby d10_42) rfl rfl) ?_
 refine gN X3 hx hby d10_44 rfl rfl ?_
 refine cS X3 hx hZ hw hown hby hml rfl mN9 30 31 32 24 1 (rs_cf_2 l Z a0 hw [] y3 ky3 [(.int (lo8 c0)), (.int (lo8 c1))] T3.heap n0 Z0 V_y3) d10_45 (lenOf own_pd7 rfl) N3 (fun T4 L4 X4 e4 N4 => ?_)
 show Goes _ _ _ _ _ (fT T4 m 48 #[vr a, vr x, vi 0, vi 2, .val .null, vr y3] [(.int 0), (.ref a)])
 obtain ⟨T5, h5, X5, e5, W5, st5⟩ := putFN X4 hx hZ hown (gw hw 33 rfl) Via.refl e4 F_coder_a A_a (Or.inr ⟨(gw hw 34 rfl), rfl, hnm⟩) (gw hw 8 rfl) (ty := .byte) (v' := .int 0) (by decide) rfl rfl (g := (mkF m 48 #[vr a, vr x, vi 0, vi 2, .val .null, vr y3] [(.int 0), (.ref a)])) rfl rfl (hb hby d10_48)
 have N5 := Fr.snoc X5 N4 g_a
 replace A_a := A_a.wr W5
 replace F_value_a := F_value_a.other W5 (Or.inr (slot_ne (Or.inr (gw hw 36 rfl)) (Or.inr (gw hw 34 rfl)) (by decide) (t := (.array .byte)) (t' := .byte) (by decide) (by decide)))
 replace V_y3 := V_y3.other W5 (Ne.symm ne_a_y3)
 replace KP := KP.wr W5 (Or.inl (List.mem_of_getElem? (i := 0) rfl))
 replace F_coder_a := F_coder_a.same W5
 replace Z0 : n0 ≤ h5.size := by rw [W5.size]; exact Z0
 refine Gs st5 ?_
 show Goes _ _ _ _ _ (fT T5 m 51 #[vr a, vr x, vi 0, vi 2, .val .null, vr y3] [])
 refine gA X5 hx hby d10_51 rfl rfl rfl ?_
 refine Gz (XS.aload X5.here hx rfl (hb hby d10_52) rfl rfl) ?_
 obtain ⟨T6, h6, X6, e6, W6, st6⟩ := putF X5 hx hZ hown (host := "") (Or.inl (gw hw 35 rfl)) Via.refl e5 F_value_a A_a (Or.inr ⟨(gw hw 36 rfl), rfl, hnm⟩) (gw hw 8 rfl) (ty := (.array .byte)) (by decide) rfl rfl (g := (mkF m 54 #[vr a, vr x, vi 0, vi 2, .val .null, vr y3] [(.ref y3), (.ref a)])) rfl rfl (hb hby d10_54)
 have N6 := Fr.snoc X6 N5 g_a
 replace A_a := A_a.wr W6
 replace F_coder_a := F_coder_a.other W6 (Or.inr (slot_ne (Or.inr (gw hw 34 rfl)) (Or.inr (gw hw 36 rfl)) (by decide) (t := .byte) (t' := (.array .byte)) (by decide) (by decide)))
 replace V_y3 := V_y3.other W6 (Ne.symm ne_a_y3)
 replace KP := KP.wr W6 (Or.inl (List.mem_of_getElem? (i := 0) rfl))
 replace F_value_a := F_value_a.same W6
 replace Z0 : n0 ≤ h6.size := by rw [W6.size]; exact Z0
 refine Gs st6 ?_
 show Goes _ _ _ _ _ (fT T6 m 57 #[vr a, vr x, vi 0, vi 2, .val .null, vr y3] [])
 have T_a : StrOf Z h6 a [c0, c1] := StrOf.latin A_a F_value_a F_coder_a V_y3 (by intro c hc; simp only [List.mem_cons, List.not_mem_nil, or_false] at hc; rcases hc with rfl | rfl <;> assumption) rfl rfl (Nat.le_of_ble_eq_true rfl)
 refine Goes.ret X6 none (fun _ => rfl) hlk (by decide) (by decide) ?_ (fun fs hr => ?_)
 ·rw [e6]; exact ⟨rfl, N6, KP, T_a⟩
 ·exact X6.returnOut hx hret (hb hby d10_57) hr
theorem own_ef_rs_i1_2 (m : MethodId) (x0 : Addr) (x1 : Addr) : entryFrame m #[(.ref x0), (.ref x1)] 2 = mkF m 0 #[vr x0, vr x1] [] := by first | (simp [entryFrame, mkF, argsToLocals, Value.category]; done) | rfl
def Q_rs_i1_2 (Z : State) (a : Addr) (x : Addr) (kx : ClassId) (c0 : Int32) (c1 : Int32) (cz : Int32) (h0 : Heap) (n0 : Nat) (v : Option Value) (h : Heap) (L : List Loc) : Prop := v = none ∧ Fr n0 L ∧ Keep h0 h [a] ∧ StrOf Z h a [c0, c1]
theorem rs_i1_2 (l : Launch) (Z : State) (a0 : Array Value) (hw : HW a0 Z) (ws : List Jvm.Cond) (a : Addr) (x : Addr) (kx : ClassId) (c0 : Int32) (c1 : Int32) (cz : Int32) (h0 : Heap) (n0 : Nat) (Z0 : n0 ≤ h0.size) (A_a : Exa Z h0 a "java/lang/String") (F_value_a : Fld Z h0 a "java/lang/String" "value" "[B" .null) (F_coder_a : Fld Z h0 a "java/lang/String" "coder" "B" (.int 0)) (V_x : Arv Z h0 x kx .char 2 [(.int c0), (.int c1)] (.int 0)) (g_a : n0 ≤ a) (ne_x_a : x ≠ a) (sgC : Sta Z h0 "java/lang/String" "COMPACT_STRINGS" "Z" (.int cz)) (hcz : ¬ (cz = 0)) (hL_c0 : Lat c0) (hL_c1 : Lat c1) :
  Met l Z mN11 jdk_42_method_3_code 2 none ({ frames := 3, cells := 1, slots := 2, locals := 52 } : Room) ws #[(.ref a), (.ref x)] h0 (Q_rs_i1_2 Z a x kx c0 c1 cz h0 n0) := by
 refine own_met (plainFor_of_name own_pn0) ?_
 intro p e s m below meth c s₁ hret hx hby hlk hml hown hnm X0 e0 hZ hh
 have N0 := Fr.nil n0
 refine Gz (castTop (own_ef_rs_i1_2 m a x)) ?_
 have KP : Keep h0 h0 [a] := Keep.refl _ _
 show Goes _ _ _ _ _ (fT s₁ m 0 #[vr a, vr x] [])
 refine gA X0 hx hby d11_0 rfl rfl rfl ?_
 refine gA X0 hx hby d11_1 rfl rfl rfl ?_
 refine gC X0 hx hby d11_2 ?_
 refine gA X0 hx hby d11_3 rfl rfl rfl ?_
 obtain ⟨cl1, Ar1, -, S1, N1z, -, -⟩ := id V_x
 refine Gs (fun _ tk => X0.arraylength hx (by rw [e0]; exact Ar1.1) (State.isArrayOf_alike hZ.alike Ar1.2.1) (g := (mkF m 4 #[vr a, vr x] [(.ref x), (.int 0), (.ref x), (.ref a)])) rfl rfl (hb hby d11_4) _ tk) ?_
 rw [len_of S1 N1z]
 show Goes _ _ _ _ _ (fT s₁ m 5 #[vr a, vr x] [(.int 2), (.int 0), (.ref x), (.ref a)])
 refine Gz (XS.aconstNull X0.here hx rfl (hb hby d11_5)) ?_
 refine cIg X0 hx hZ hw hown hby hml e0 mN10 14 15 17 9 0 (rs_i4_2 l Z a0 hw [] a x kx c0 c1 cz h0 n0 Z0 A_a F_value_a F_coder_a V_x g_a ne_x_a sgC hcz hL_c0 hL_c1) d11_6 (lenOf own_pd8 rfl) (fun _ T2 L2 X2 hQ2 => ?_)
 obtain ⟨rfl, N2q, K2, T_a_2'⟩ := hQ2
 have N2 := Fr.app N0 N2q
 replace KP := KP.trans K2 (allS (Or.inl (List.mem_of_getElem? (i := 0) rfl)) all0)
 replace Z0 := Nat.le_trans Z0 K2.1
 have T_a := T_a_2'
 show Goes _ _ _ _ _ (fT T2 m 9 #[vr a, vr x] [])
 refine Goes.ret X2 none (fun _ => rfl) hlk (by decide) (by decide) ?_ (fun fs hr => ?_)
 ·exact ⟨rfl, N2, KP, T_a⟩
 ·exact X2.returnOut hx hret (hb hby d11_9) hr
theorem own_ef_rs_c5_3 (m : MethodId) (x0 : Addr) (x2 : Addr) : entryFrame m #[(.ref x0), (.int 0), (.ref x2), (.int 0), (.int 3)] 7 = mkF m 0 #[vr x0, vi 0, vr x2, vi 0, vi 3, vu, vu] [] := by first | (simp [entryFrame, mkF, argsToLocals, Value.category]; done) | rfl
def Q_rs_c5_3 (Z : State) (x : Addr) (kx : ClassId) (y : Addr) (ky : ClassId) (c0 : Int32) (c1 : Int32) (c2 : Int32) (h0 : Heap) (n0 : Nat) (v : Option Value) (h : Heap) (L : List Loc) : Prop := v = some (.int 3) ∧ Fr n0 L ∧ Keep h0 h [y] ∧ Arv Z h y ky .byte 3 [(.int (lo8 c0)), (.int (lo8 c1)), (.int (lo8 c2))] (.int 0)
theorem rs_c5_3 (l : Launch) (Z : State) (a0 : Array Value) (hw : HW a0 Z) (ws : List Jvm.Cond) (x : Addr) (kx : ClassId) (y : Addr) (ky : ClassId) (c0 : Int32) (c1 : Int32) (c2 : Int32) (h0 : Heap) (n0 : Nat) (Z0 : n0 ≤ h0.size) (V_x : Arv Z h0 x kx .char 3 [(.int c0), (.int c1), (.int c2)] (.int 0)) (V_y : Arv Z h0 y ky .byte 3 [(.int 0), (.int 0), (.int 0)] (.int 0)) (g_y : n0 ≤ y) (ne_x_y : x ≠ y) (hL_c0 : Lat c0) (hL_c1 : Lat c1) (hL_c2 : Lat c2) :
  Met l Z mN7 jdk_52_method_21_code 7 (some .int) ({ frames := 0, cells := 0, slots := 0, locals := 0 } : Room) ws #[(.ref x), (.int 0), (.ref y), (.int 0), (.int 3)] h0 (Q_rs_c5_3 Z x kx y ky c0 c1 c2 h0 n0) := by
 refine own_met (plainFor_of_name own_pn3) ?_
 intro p e s m below meth c s₁ hret hx hby hlk hml hown hnm X0 e0 hZ hh
 have N0 := Fr.nil n0
 refine Gz (castTop (own_ef_rs_c5_3 m x y)) ?_
 have KP : Keep h0 h0 [y] := Keep.refl _ _
 show Goes _ _ _ _ _ (fT s₁ m 0 #[vr x, vi 0, vr y, vi 0, vi 3, vu, vu] [])
 have hn_c0 := own_latN hL_c0
 have hn_c1 := own_latN hL_c1
 have hn_c2 := own_latN hL_c2
 refine gC X0 hx hby d7_0 ?_
 refine gS X0 hx hby d7_1 #[vr x, vi 0, vr y, vi 0, vi 3, vi 0, vu] ?_
 refine gI X0 hx hby d7_3 rfl rfl ?_
 refine gI X0 hx hby d7_5 rfl rfl ?_
 refine gU X0 hx hby d7_7 (tlt (by decide : ((0 : Int32) < (3 : Int32)))).2.1 ?_
 refine gA X0 hx hby d7_10 rfl rfl rfl ?_
 show Goes _ _ _ _ _ (fT s₁ m 11 #[vr x, vi 0, vr y, vi 0, vi 3, vi 0, vu] [(.ref x)])
 refine gN X0 hx hby d7_11 rfl rfl ?_
 obtain ⟨cl1, Ar1, -, S1, N1z, H1, -⟩ := id V_x
 have hin1 : ¬ ((0 : Int32) < 0 ∨ cl1.slots.size ≤ ((0 : Int32)).toNatClampNeg) := inb_of S1 ⟨by decide, by decide⟩
 have hat1 : cl1.slots[((0 : Int32)).toNatClampNeg]? = some (.int c0) := Has.at H1 hin1 rfl
 refine Gs (fun _ tk => X0.caload hx (j := (0 : Int32)) (v := (.int c0)) (by rw [e0]; exact Ar1.1) (State.isArrayOf_alike hZ.alike Ar1.2.1) Ar1.2.2 hin1 hat1 (g := (mkF m 12 #[vr x, vi 0, vr y, vi 0, vi 3, vi 0, vu] [(.int 0), (.ref x)])) rfl rfl (hb hby d7_12) _ tk) ?_
 show Goes _ _ _ _ _ (fT s₁ m 13 #[vr x, vi 0, vr y, vi 0, vi 3, vi 0, vu] [(.int c0)])
 refine gS X0 hx hby d7_13 #[vr x, vi 0, vr y, vi 0, vi 3, vi 0, vi c0] ?_
 refine gI X0 hx hby d7_15 rfl rfl ?_
 refine Gz (XS.sipush X0.here hx rfl (hb hby d7_17)) ?_
 refine gY X0 hx hby d7_20 20 26 (flt hn_c0).2.2.2 ?_
 refine gA X0 hx hby d7_26 rfl rfl rfl ?_
 refine gN X0 hx hby d7_27 rfl rfl ?_
 show Goes _ _ _ _ _ (fT s₁ m 28 #[vr x, vi 0, vr y, vi 0, vi 3, vi 0, vi c0] [(.int 0), (.ref y)])
 refine gI X0 hx hby d7_28 rfl rfl ?_
 show Goes _ _ _ _ _ (fT s₁ m 30 #[vr x, vi 0, vr y, vi 0, vi 3, vi 0, vi c0] [(.int c0), (.int 0), (.ref y)])
 refine Gz (XS.i2b X0.here hx rfl (hb hby d7_30) rfl) ?_
 show Goes _ _ _ _ _ (fT s₁ m 31 #[vr x, vi 0, vr y, vi 0, vi 3, vi 0, vi c0] [(.int (c0.toInt8.toInt32)), (.int 0), (.ref y)])
 obtain ⟨cl2, Ar2, q2, S2, N2z, H2, G2⟩ := V_y
 have hin2 : ¬ ((0 : Int32) < 0 ∨ cl2.slots.size ≤ ((0 : Int32)).toNatClampNeg) := inb_of S2 ⟨by decide, by decide⟩
 obtain ⟨T2, h2, X2, e2, W2, st2⟩ := stB X0 hx hZ e0 Ar2 (j := (0 : Int32)) hin2 (g := (mkF m 31 #[vr x, vi 0, vr y, vi 0, vi 3, vi 0, vi c0] [(.int (c0.toInt8.toInt32)), (.int 0), (.ref y)])) rfl rfl (hb hby d7_31)
 have Vn2 := Arv.set Ar2 q2 S2 N2z H2 G2 (fits_nar_byte _) W2 0 rfl (Nat.le_of_ble_eq_true rfl)
 have N2 := Fr.snoc X2 N0 g_y
 replace V_x := V_x.other W2 ne_x_y
 replace KP := KP.wr W2 (Or.inl (List.mem_of_getElem? (i := 0) rfl))
 have V_y : Arv Z h2 y ky .byte 3 [(.int (lo8 c0)), (.int 0), (.int 0)] (.int 0) := by have q := Vn2; rw [own_nb2] at q; exact q
 replace Z0 : n0 ≤ h2.size := by rw [W2.size]; exact Z0
 refine Gs st2 ?_
 show Goes _ _ _ _ _ (fT T2 m 32 #[vr x, vi 0, vr y, vi 0, vi 3, vi 0, vi c0] [])
 refine Gz (XS.iinc X2.here hx rfl (hb hby d7_32) rfl (l' := #[vr x, vi ((0 : Int32) + (1 : Int32)), vr y, vi 0, vi 3, vi 0, vi c0]) rfl) ?_
 show Goes _ _ _ _ _ (fT T2 m 35 #[vr x, vi 1, vr y, vi 0, vi 3, vi 0, vi c0] [])
 refine Gz (XS.iinc X2.here hx rfl (hb hby d7_35) rfl (l' := #[vr x, vi 1, vr y, vi ((0 : Int32) + (1 : Int32)), vi 3, vi 0, vi c0]) rfl) ?_
 show Goes _ _ _ _ _ (fT T2 m 38 #[vr x, vi 1, vr y, vi 1, vi 3, vi 0, vi c0] [])
 refine Gz (XS.iinc X2.here hx rfl (hb hby d7_38) rfl (l' := #[vr x, vi 1, vr y, vi 1, vi 3, vi ((0 : Int32) + (1 : Int32)), vi c0]) rfl) ?_
 show Goes _ _ _ _ _ (fT T2 m 41 #[vr x, vi 1, vr y, vi 1, vi 3, vi 1, vi c0] [])
 refine gG X2 hx hby d7_41 41 3 ?_
 refine gI X2 hx hby d7_3 rfl rfl ?_
 refine gI X2 hx hby d7_5 rfl rfl ?_
 refine gU X2 hx hby d7_7 (tlt (by decide : ((1 : Int32) < (3 : Int32)))).2.1 ?_
 refine gA X2 hx hby d7_10 rfl rfl rfl ?_
 refine gN X2 hx hby d7_11 rfl rfl ?_
 show Goes _ _ _ _ _ (fT T2 m 12 #[vr x, vi 1, vr y, vi 1, vi 3, vi 1, vi c0] [(.int 1), (.ref x)])
 obtain ⟨cl3, Ar3, -, S3, N3z, H3, -⟩ := id V_x
 have hin3 : ¬ ((1 : Int32) < 0 ∨ cl3.slots.size ≤ ((1 : Int32)).toNatClampNeg) := inb_of S3 ⟨by decide, by decide⟩
 have hat3 : cl3.slots[((1 : Int32)).toNatClampNeg]? = some (.int c1) := Has.at H3 hin3 rfl
 refine Gs (fun _ tk => X2.caload hx (j := (1 : Int32)) (v := (.int c1)) (by rw [e2]; exact Ar3.1) (State.isArrayOf_alike hZ.alike Ar3.2.1) Ar3.2.2 hin3 hat3 (g := (mkF m 12 #[vr x, vi 1, vr y, vi 1, vi 3, vi 1, vi c0] [(.int 1), (.ref x)])) rfl rfl (hb hby d7_12) _ tk) ?_
 show Goes _ _ _ _ _ (fT T2 m 13 #[vr x, vi 1, vr y, vi 1, vi 3, vi 1, vi c0] [(.int c1)])
 refine gS X2 hx hby d7_13 #[vr x, vi 1, vr y, vi 1, vi 3, vi 1, vi c1] ?_
 refine gI X2 hx hby d7_15 rfl rfl ?_
 refine Gz (XS.sipush X2.here hx rfl (hb hby d7_17)) ?_
 refine gY X2 hx hby d7_20 20 26 (flt hn_c1).2.2.2 ?_
 refine gA X2 hx hby d7_26 rfl rfl rfl ?_
 refine gN X2 hx hby d7_27 rfl rfl ?_
 show Goes _ _ _ _ _ (fT T2 m 28 #[vr x, vi 1, vr y, vi 1, vi 3, vi 1, vi c1] [(.int 1), (.ref y)])
 refine gI X2 hx hby d7_28 rfl rfl ?_
 show Goes _ _ _ _ _ (fT T2 m 30 #[vr x, vi 1, vr y, vi 1, vi 3, vi 1, vi c1] [(.int c1), (.int 1), (.ref y)])
 refine Gz (XS.i2b X2.here hx rfl (hb hby d7_30) rfl) ?_
 show Goes _ _ _ _ _ (fT T2 m 31 #[vr x, vi 1, vr y, vi 1, vi 3, vi 1, vi c1] [(.int (c1.toInt8.toInt32)), (.int 1), (.ref y)])
 obtain ⟨cl4, Ar4, q4, S4, N4z, H4, G4⟩ := V_y
 have hin4 : ¬ ((1 : Int32) < 0 ∨ cl4.slots.size ≤ ((1 : Int32)).toNatClampNeg) := inb_of S4 ⟨by decide, by decide⟩
 obtain ⟨T4, h4, X4, e4, W4, st4⟩ := stB X2 hx hZ e2 Ar4 (j := (1 : Int32)) hin4 (g := (mkF m 31 #[vr x, vi 1, vr y, vi 1, vi 3, vi 1, vi c1] [(.int (c1.toInt8.toInt32)), (.int 1), (.ref y)])) rfl rfl (hb hby d7_31)
 have Vn4 := Arv.set Ar4 q4 S4 N4z H4 G4 (fits_nar_byte _) W4 1 rfl (Nat.le_of_ble_eq_true rfl)
 have N4 := Fr.snoc X4 N2 g_y
 replace V_x := V_x.other W4 ne_x_y
 replace KP := KP.wr W4 (Or.inl (List.mem_of_getElem? (i := 0) rfl))
 have V_y : Arv Z h4 y ky .byte 3 [(.int (lo8 c0)), (.int (lo8 c1)), (.int 0)] (.int 0) := by have q := Vn4; rw [own_nb2] at q; exact q
 replace Z0 : n0 ≤ h4.size := by rw [W4.size]; exact Z0
 refine Gs st4 ?_
 show Goes _ _ _ _ _ (fT T4 m 32 #[vr x, vi 1, vr y, vi 1, vi 3, vi 1, vi c1] [])
 refine Gz (XS.iinc X4.here hx rfl (hb hby d7_32) rfl (l' := #[vr x, vi ((1 : Int32) + (1 : Int32)), vr y, vi 1, vi 3, vi 1, vi c1]) rfl) ?_
 show Goes _ _ _ _ _ (fT T4 m 35 #[vr x, vi 2, vr y, vi 1, vi 3, vi 1, vi c1] [])
 refine Gz (XS.iinc X4.here hx rfl (hb hby d7_35) rfl (l' := #[vr x, vi 2, vr y, vi ((1 : Int32) + (1 : Int32)), vi 3, vi 1, vi c1]) rfl) ?_
 show Goes _ _ _ _ _ (fT T4 m 38 #[vr x, vi 2, vr y, vi 2, vi 3, vi 1, vi c1] [])
 refine Gz (XS.iinc X4.here hx rfl (hb hby d7_38) rfl (l' := #[vr x, vi 2, vr y, vi 2, vi 3, vi ((1 : Int32) + (1 : Int32)), vi c1]) rfl) ?_
 show Goes _ _ _ _ _ (fT T4 m 41 #[vr x, vi 2, vr y, vi 2, vi 3, vi 2, vi c1] [])
 refine gG X4 hx hby d7_41 41 3 ?_
 refine gI X4 hx hby d7_3 rfl rfl ?_
 refine gI X4 hx hby d7_5 rfl rfl ?_
 refine gU X4 hx hby d7_7 (tlt (by decide : ((2 : Int32) < (3 : Int32)))).2.1 ?_
 refine gA X4 hx hby d7_10 rfl rfl rfl ?_
 refine gN X4 hx hby d7_11 rfl rfl ?_
 show Goes _ _ _ _ _ (fT T4 m 12 #[vr x, vi 2, vr y, vi 2, vi 3, vi 2, vi c1] [(.int 2), (.ref x)])
 obtain ⟨cl5, Ar5, -, S5, N5z, H5, -⟩ := id V_x
 have hin5 : ¬ ((2 : Int32) < 0 ∨ cl5.slots.size ≤ ((2 : Int32)).toNatClampNeg) := inb_of S5 ⟨by decide, by decide⟩
 have hat5 : cl5.slots[((2 : Int32)).toNatClampNeg]? = some (.int c2) := Has.at H5 hin5 rfl
 refine Gs (fun _ tk => X4.caload hx (j := (2 : Int32)) (v := (.int c2)) (by rw [e4]; exact Ar5.1) (State.isArrayOf_alike hZ.alike Ar5.2.1) Ar5.2.2 hin5 hat5 (g := (mkF m 12 #[vr x, vi 2, vr y, vi 2, vi 3, vi 2, vi c1] [(.int 2), (.ref x)])) rfl rfl (hb hby d7_12) _ tk) ?_
 show Goes _ _ _ _ _ (fT T4 m 13 #[vr x, vi 2, vr y, vi 2, vi 3, vi 2, vi c1] [(.int c2)])
 refine gS X4 hx hby d7_13 #[vr x, vi 2, vr y, vi 2, vi 3, vi 2, vi c2] ?_
 refine gI X4 hx hby d7_15 rfl rfl ?_
 refine Gz (XS.sipush X4.here hx rfl (hb hby d7_17)) ?_
 refine gY X4 hx hby d7_20 20 26 (flt hn_c2).2.2.2 ?_
 refine gA X4 hx hby d7_26 rfl rfl rfl ?_
 refine gN X4 hx hby d7_27 rfl rfl ?_
 show Goes _ _ _ _ _ (fT T4 m 28 #[vr x, vi 2, vr y, vi 2, vi 3, vi 2, vi c2] [(.int 2), (.ref y)])
 refine gI X4 hx hby d7_28 rfl rfl ?_
 show Goes _ _ _ _ _ (fT T4 m 30 #[vr x, vi 2, vr y, vi 2, vi 3, vi 2, vi c2] [(.int c2), (.int 2), (.ref y)])
 refine Gz (XS.i2b X4.here hx rfl (hb hby d7_30) rfl) ?_
 show Goes _ _ _ _ _ (fT T4 m 31 #[vr x, vi 2, vr y, vi 2, vi 3, vi 2, vi c2] [(.int (c2.toInt8.toInt32)), (.int 2), (.ref y)])
 obtain ⟨cl6, Ar6, q6, S6, N6z, H6, G6⟩ := V_y
 have hin6 : ¬ ((2 : Int32) < 0 ∨ cl6.slots.size ≤ ((2 : Int32)).toNatClampNeg) := inb_of S6 ⟨by decide, by decide⟩
 obtain ⟨T6, h6, X6, e6, W6, st6⟩ := stB X4 hx hZ e4 Ar6 (j := (2 : Int32)) hin6 (g := (mkF m 31 #[vr x, vi 2, vr y, vi 2, vi 3, vi 2, vi c2] [(.int (c2.toInt8.toInt32)), (.int 2), (.ref y)])) rfl rfl (hb hby d7_31)
 have Vn6 := Arv.set Ar6 q6 S6 N6z H6 G6 (fits_nar_byte _) W6 2 rfl (Nat.le_of_ble_eq_true rfl)
 have N6 := Fr.snoc X6 N4 g_y
 replace KP := KP.wr W6 (Or.inl (List.mem_of_getElem? (i := 0) rfl))
 have V_y : Arv Z h6 y ky .byte 3 [(.int (lo8 c0)), (.int (lo8 c1)), (.int (lo8 c2))] (.int 0) := by have q := Vn6; rw [own_nb2] at q; exact q
 replace Z0 : n0 ≤ h6.size := by rw [W6.size]; exact Z0
 refine Gs st6 ?_
 show Goes _ _ _ _ _ (fT T6 m 32 #[vr x, vi 2, vr y, vi 2, vi 3, vi 2, vi c2] [])
 refine Gz (XS.iinc X6.here hx rfl (hb hby d7_32) rfl (l' := #[vr x, vi ((2 : Int32) + (1 : Int32)), vr y, vi 2, vi 3, vi 2, vi c2]) rfl) ?_
 show Goes _ _ _ _ _ (fT T6 m 35 #[vr x, vi 3, vr y, vi 2, vi 3, vi 2, vi c2] [])
 refine Gz (XS.iinc X6.here hx rfl (hb hby d7_35) rfl (l' := #[vr x, vi 3, vr y, vi ((2 : Int32) + (1 : Int32)), vi 3, vi 2, vi c2]) rfl) ?_
 show Goes _ _ _ _ _ (fT T6 m 38 #[vr x, vi 3, vr y, vi 3, vi 3, vi 2, vi c2] [])
 refine Gz (XS.iinc X6.here hx rfl (hb hby d7_38) rfl (l' := #[vr x, vi 3, vr y, vi 3, vi 3, vi ((2 : Int32) + (1 : Int32)), vi c2]) rfl) ?_
 show Goes _ _ _ _ _ (fT T6 m 41 #[vr x, vi 3, vr y, vi 3, vi 3, vi 3, vi c2] [])
 refine gG X6 hx hby d7_41 41 3 ?_
 refine gI X6 hx hby d7_3 rfl rfl ?_
 refine gI X6 hx hby d7_5 rfl rfl ?_
 refine gY X6 hx hby d7_7 7 44 (flt (by decide : ¬ ((3 : Int32) < (3 : Int32)))).2.1 ?_
 refine gI X6 hx hby d7_44 rfl rfl ?_
 refine Goes.ret X6 (some (.int 3)) (fun h => by rw [hret] at h; cases h) hlk (by decide) (by decide) ?_ (fun fs hr => ?_)
 ·rw [e6]; exact ⟨rfl, N6, KP, V_y⟩
 ·exact retI X6 hx hret (hb hby d7_46) hr
theorem own_ef_rs_c3_3 (m : MethodId) (x0 : Addr) : entryFrame m #[(.ref x0), (.int 0), (.int 3)] 6 = mkF m 0 #[vr x0, vi 0, vi 3, vu, vu, vu] [] := by first | (simp [entryFrame, mkF, argsToLocals, Value.category]; done) | rfl
def Q_rs_c3_3 (Z : State) (x : Addr) (kx : ClassId) (c0 : Int32) (c1 : Int32) (c2 : Int32) (h0 : Heap) (n0 : Nat) (v : Option Value) (h : Heap) (L : List Loc) : Prop := ∃ y : Addr, ∃ ky : ClassId, v = some (.ref y) ∧ Fr n0 L ∧ Keep h0 h [] ∧ Arv Z h y ky .byte 3 [(.int (lo8 c0)), (.int (lo8 c1)), (.int (lo8 c2))] (.int 0) ∧ n0 ≤ y ∧ h0.size ≤ y
theorem rs_c3_3 (l : Launch) (Z : State) (a0 : Array Value) (hw : HW a0 Z) (ws : List Jvm.Cond) (x : Addr) (kx : ClassId) (c0 : Int32) (c1 : Int32) (c2 : Int32) (h0 : Heap) (n0 : Nat) (Z0 : n0 ≤ h0.size) (V_x : Arv Z h0 x kx .char 3 [(.int c0), (.int c1), (.int c2)] (.int 0)) (hL_c0 : Lat c0) (hL_c1 : Lat c1) (hL_c2 : Lat c2) :
  Met l Z mN8 jdk_52_method_16_code 6 (some (.array .byte)) ({ frames := 1, cells := 1, slots := 3, locals := 18 } : Room) ws #[(.ref x), (.int 0), (.int 3)] h0 (Q_rs_c3_3 Z x kx c0 c1 c2 h0 n0) := by
 refine own_met (plainFor_of_name own_pn3) ?_
 intro p e s m below meth c s₁ hret hx hby hlk hml hown hnm X0 e0 hZ hh
 have N0 := Fr.nil n0
 refine Gz (castTop (own_ef_rs_c3_3 m x)) ?_
 have KP : Keep h0 h0 [] := Keep.refl _ _
 show Goes _ _ _ _ _ (fT s₁ m 0 #[vr x, vi 0, vi 3, vu, vu, vu] [])
 refine gN X0 hx hby d8_0 rfl rfl ?_
 obtain ⟨T1, h1, k1, X1, e1, E1, A1, st1⟩ := newP X0 hx hZ (gw hw 26 rfl) e0 (g := (mkF m 1 #[vr x, vi 0, vi 3, vu, vu, vu] [(.int 3)])) rfl (hb hby d8_1) rfl (by decide) (cap := 3) (by decide) (by decide) (by decide) (by decide)
 obtain ⟨b1, gq1⟩ : ∃ z, z = h0.size := ⟨_, rfl⟩
 rw [← gq1] at A1 st1
 have g_b1 : n0 ≤ b1 := by rw [gq1]; exact Z0
 have sz_b1 : h0.size ≤ b1 := by rw [gq1]; exact KP.1
 have ne_x_b1 : x ≠ b1 := by rw [gq1]; exact Nat.ne_of_lt V_x.lt
 replace V_x := V_x.ext E1
 replace KP := KP.ext E1
 replace Z0 : n0 ≤ h1.size := Nat.le_trans Z0 E1.1
 have V_b1 : Arv Z h1 b1 k1 .byte 3 [(.int 0), (.int 0), (.int 0)] (.int 0) := (Arv.new A1 (by decide)).pad (pad_rep [] (.int 0) 3)
 refine Gs st1 ?_
 show Goes _ _ _ _ _ (fT T1 m 3 #[vr x, vi 0, vi 3, vu, vu, vu] [(.ref b1)])
 refine Gz (XS.astoreN X1.here hx rfl (hb hby d8_3) rfl rfl (l' := #[vr x, vi 0, vi 3, vr b1, vu, vu]) rfl) ?_
 refine gA X1 hx hby d8_4 rfl rfl rfl ?_
 refine gN X1 hx hby d8_5 rfl rfl ?_
 refine gA X1 hx hby d8_6 rfl rfl rfl ?_
 refine gC X1 hx hby d8_7 ?_
 refine gN X1 hx hby d8_8 rfl rfl ?_
 show Goes _ _ _ _ _ (fT T1 m 9 #[vr x, vi 0, vi 3, vr b1, vu, vu] [(.int 3), (.int 0), (.ref b1), (.int 0), (.ref x)])
 refine cSg X1 hx hZ hw hown hby hml e1 mN7 27 28 29 24 0 (rs_c5_3 l Z a0 hw [] x kx b1 k1 c0 c1 c2 h1 n0 Z0 V_x V_b1 g_b1 ne_x_b1 hL_c0 hL_c1 hL_c2) d8_9 (lenOf own_pd5 rfl) (fun _ T2 L2 X2 hQ2 => ?_)
 obtain ⟨rfl, N2q, K2, V_b1_2'⟩ := hQ2
 have N2 := Fr.app N0 N2q
 replace KP := KP.trans K2 (allS (Or.inr sz_b1) all0)
 replace Z0 := Nat.le_trans Z0 K2.1
 have V_b1 := V_b1_2'
 show Goes _ _ _ _ _ (fT T2 m 12 #[vr x, vi 0, vi 3, vr b1, vu, vu] [(.int 3)])
 refine gS X2 hx hby d8_12 #[vr x, vi 0, vi 3, vr b1, vi 3, vu] ?_
 refine gI X2 hx hby d8_14 rfl rfl ?_
 refine gN X2 hx hby d8_16 rfl rfl ?_
 refine gY X2 hx hby d8_17 17 57 (teq (by decide : ((3 : Int32) = (3 : Int32)))).1 ?_
 refine gA X2 hx hby d8_57 rfl rfl rfl ?_
 refine Goes.ret X2 (some (.ref b1)) (fun h => by rw [hret] at h; cases h) hlk (by decide) (by decide) ?_ (fun fs hr => ?_)
 ·exact ⟨b1, k1, rfl, N2, KP, V_b1, g_b1, sz_b1⟩
 ·exact own_retA X2 hx hret rfl rfl (hb hby d8_58) hr
theorem own_ef_rs_cf_3 (m : MethodId) (x0 : Addr) : entryFrame m #[(.ref x0), (.int 3)] 2 = mkF m 0 #[vr x0, vi 3] [] := by first | (simp [entryFrame, mkF, argsToLocals, Value.category]; done) | rfl
def Q_rs_cf_3 (Z : State) (y : Addr) (ky : ClassId) (vs : List Value) (h0 : Heap) (n0 : Nat) (v : Option Value) (h : Heap) (L : List Loc) : Prop := v = some (.int 0) ∧ Fr n0 L ∧ h = h0
theorem rs_cf_3 (l : Launch) (Z : State) (a0 : Array Value) (hw : HW a0 Z) (ws : List Jvm.Cond) (y : Addr) (ky : ClassId) (vs : List Value) (h0 : Heap) (n0 : Nat) (Z0 : n0 ≤ h0.size) (V_y : Arv Z h0 y ky .byte 3 vs (.int 0)) :
  Met l Z mN9 jdk_52_method_15_code 2 (some .byte) ({ frames := 0, cells := 0, slots := 0, locals := 0 } : Room) ws #[(.ref y), (.int 3)] h0 (Q_rs_cf_3 Z y ky vs h0 n0) := by
 refine own_met (plainFor_of_name own_pn3) ?_
 intro p e s m below meth c s₁ hret hx hby hlk hml hown hnm X0 e0 hZ hh
 have N0 := Fr.nil n0
 refine Gz (castTop (own_ef_rs_cf_3 m y)) ?_
 show Goes _ _ _ _ _ (fT s₁ m 0 #[vr y, vi 3] [])
 refine gN X0 hx hby d9_0 rfl rfl ?_
 refine gA X0 hx hby d9_1 rfl rfl rfl ?_
 obtain ⟨cl1, Ar1, -, S1, N1z, -, -⟩ := id V_y
 refine Gs (fun _ tk => X0.arraylength hx (by rw [e0]; exact Ar1.1) (State.isArrayOf_alike hZ.alike Ar1.2.1) (g := (mkF m 2 #[vr y, vi 3] [(.ref y), (.int 3)])) rfl rfl (hb hby d9_2) _ tk) ?_
 rw [len_of S1 N1z]
 show Goes _ _ _ _ _ (fT s₁ m 3 #[vr y, vi 3] [(.int 3), (.int 3)])
 refine Gz (XS.isub X0.here hx rfl (hb hby d9_3) rfl) ?_
 show Goes _ _ _ _ _ (fT s₁ m 4 #[vr y, vi 3] [(.int 0)])
 refine gB X0 hx hby d9_4 ?_
 show Goes _ _ _ _ _ (fT s₁ m 6 #[vr y, vi 3] [(.int 31), (.int 0)])
 refine Gz (XS.iushr X0.here hx rfl (hb hby d9_6) rfl) ?_
 rw [show (((0 : Int32).toUInt32 >>> ((31 : Int32) &&& 31).toUInt32).toInt32) = (0 : Int32) from by decide]
 show Goes _ _ _ _ _ (fT s₁ m 7 #[vr y, vi 3] [(.int 0)])
 refine Gz (XS.i2b X0.here hx rfl (hb hby d9_7) rfl) ?_
 rw [show ((0 : Int32).toInt8.toInt32) = (0 : Int32) from by decide]
 show Goes _ _ _ _ _ (fT s₁ m 8 #[vr y, vi 3] [(.int 0)])
 refine Goes.ret X0 (some (.int 0)) (fun h => by rw [hret] at h; cases h) hlk (by decide) (by decide) ?_ (fun fs hr => ?_)
 ·exact ⟨rfl, N0, e0⟩
 ·exact own_retN X0 hx (t := .byte) hret (by simp) rfl (hb hby d9_8) hr
theorem own_ef_rs_i4_3 (m : MethodId) (x0 : Addr) (x1 : Addr) : entryFrame m #[(.ref x0), (.ref x1), (.int 0), (.int 3), .null] 6 = mkF m 0 #[vr x0, vr x1, vi 0, vi 3, .val .null, vu] [] := by first | (simp [entryFrame, mkF, argsToLocals, Value.category]; done) | rfl
def Q_rs_i4_3 (Z : State) (a : Addr) (x : Addr) (kx : ClassId) (c0 : Int32) (c1 : Int32) (c2 : Int32) (cz : Int32) (h0 : Heap) (n0 : Nat) (v : Option Value) (h : Heap) (L : List Loc) : Prop := v = none ∧ Fr n0 L ∧ Keep h0 h [a] ∧ StrOf Z h a [c0, c1, c2]
theorem rs_i4_3 (l : Launch) (Z : State) (a0 : Array Value) (hw : HW a0 Z) (ws : List Jvm.Cond) (a : Addr) (x : Addr) (kx : ClassId) (c0 : Int32) (c1 : Int32) (c2 : Int32) (cz : Int32) (h0 : Heap) (n0 : Nat) (Z0 : n0 ≤ h0.size) (A_a : Exa Z h0 a "java/lang/String") (F_value_a : Fld Z h0 a "java/lang/String" "value" "[B" .null) (F_coder_a : Fld Z h0 a "java/lang/String" "coder" "B" (.int 0)) (V_x : Arv Z h0 x kx .char 3 [(.int c0), (.int c1), (.int c2)] (.int 0)) (g_a : n0 ≤ a) (ne_x_a : x ≠ a) (sgC : Sta Z h0 "java/lang/String" "COMPACT_STRINGS" "Z" (.int cz)) (hcz : ¬ (cz = 0)) (hL_c0 : Lat c0) (hL_c1 : Lat c1) (hL_c2 : Lat c2) :
  Met l Z mN10 jdk_42_method_149_code 6 none ({ frames := 2, cells := 1, slots := 3, locals := 35 } : Room) ws #[(.ref a), (.ref x), (.int 0), (.int 3), .null] h0 (Q_rs_i4_3 Z a x kx c0 c1 c2 cz h0 n0) := by
 refine own_met (plainFor_of_name own_pn0) ?_
 intro p e s m below meth c s₁ hret hx hby hlk hml hown hnm X0 e0 hZ hh
 have N0 := Fr.nil n0
 refine Gz (castTop (own_ef_rs_i4_3 m a x)) ?_
 have KP : Keep h0 h0 [a] := Keep.refl _ _
 show Goes _ _ _ _ _ (fT s₁ m 0 #[vr a, vr x, vi 0, vi 3, .val .null, vu] [])
 have hn_c0 := own_latN hL_c0
 have hn_c1 := own_latN hL_c1
 have hn_c2 := own_latN hL_c2
 refine gA X0 hx hby d10_0 rfl rfl rfl ?_
 obtain ⟨T1, X1, e1, st1⟩ := initO X0 hx hZ hown (gw hw 18 rfl) (gw hw 19 rfl) (gw hw 20 rfl) e0 (g := (mkF m 1 #[vr a, vr x, vi 0, vi 3, .val .null, vu] [(.ref a)])) rfl hml.symm rfl (hb hby d10_1) (by decide) (W := 0) (wz rfl) (by decide)
 refine Gs st1 ?_
 show Goes _ _ _ _ _ (fT T1 m 4 #[vr a, vr x, vi 0, vi 3, .val .null, vu] [])
 refine gN X1 hx hby d10_4 rfl rfl ?_
 refine gy X1 hx hby d10_5 5 27 ((if0 _ _).trans (feq (by decide : ¬ ((3 : Int32) = (0 : Int32)))).2) ?_
 obtain ⟨T2, X2, e2, st2⟩ := getS2 X1 hx hZ hown (host := "") (Or.inl (gw hw 21 rfl)) Via.refl e1 sgC (g := (mkF m 27 #[vr a, vr x, vi 0, vi 3, .val .null, vu] [])) rfl (hb hby d10_27)
 refine Gs st2 ?_
 show Goes _ _ _ _ _ (fT T2 m 30 #[vr a, vr x, vi 0, vi 3, .val .null, vu] [(.int cz)])
 refine gu X2 hx hby d10_30 ((if0 _ _).trans (feq hcz).1) ?_
 refine gA X2 hx hby d10_33 rfl rfl rfl ?_
 refine gN X2 hx hby d10_34 rfl rfl ?_
 refine gN X2 hx hby d10_35 rfl rfl ?_
 have ltc3_a : a < h0.size := A_a.lt
 have ltc3_x : x < h0.size := V_x.lt
 refine cSg X2 hx hZ hw hown hby hml e2 mN8 22 23 25 24 0 (rs_c3_3 l Z a0 hw [] x kx c0 c1 c2 h0 n0 Z0 V_x hL_c0 hL_c1 hL_c2) d10_36 (lenOf own_pd6 rfl) (fun _ T3 L3 X3 hQ3 => ?_)
 obtain ⟨y3, ky3, rfl, N3q, K3, V_y3_3', g_y3_3', sz_y3_3'⟩ := hQ3
 have N3 := Fr.app N0 N3q
 replace A_a := A_a.keep K3
 replace F_value_a := F_value_a.keep K3 nin0
 replace F_coder_a := F_coder_a.keep K3 nin0
 replace KP := KP.trans K3 all0
 replace Z0 := Nat.le_trans Z0 K3.1
 have V_y3 := V_y3_3'
 have g_y3 := g_y3_3'
 have szc_y3 := sz_y3_3'
 have ne_a_y3 : a ≠ y3 := Nat.ne_of_lt (Nat.lt_of_lt_of_le ltc3_a szc_y3)
 have ne_x_y3 : x ≠ y3 := Nat.ne_of_lt (Nat.lt_of_lt_of_le ltc3_x szc_y3)
 show Goes _ _ _ _ _ (fT T3 m 39 #[vr a, vr x, vi 0, vi 3, .val .null, vu] [(.ref y3)])
 refine Gz (XS.astore X3.here hx rfl (hb hby d10_39) rfl rfl (l' := #[vr a, vr x, vi 0, vi 3, .val .null, vr y3]) rfl) ?_
 refine gA X3 hx hby d10_41 rfl rfl rfl ?_
 refine Gz (XS.aload X3.here hx rfl (hb hby d10_42) rfl rfl) ?_
 refine gN X3 hx hby d10_44 rfl rfl ?_
 refine cS X3 hx hZ hw hown hby hml rfl mN9 30 31 32 24 1 (rs_cf_3 l Z a0 hw [] y3 ky3 [(.int (lo8 c0)), (.int (lo8 c1)), (.int (lo8 c2))] T3.heap n0 Z0 V_y3) d10_45 (lenOf own_pd7 rfl) N3 (fun T4 L4 X4 e4 N4 => ?_)
 show Goes _ _ _ _ _ (fT T4 m 48 #[vr a, vr x, vi 0, vi 3, .val .null, vr y3] [(.int 0), (.ref a)])
 obtain ⟨T5, h5, X5, e5, W5, st5⟩ := putFN X4 hx hZ hown (gw hw 33 rfl) Via.refl e4 F_coder_a A_a (Or.inr ⟨(gw hw 34 rfl), rfl, hnm⟩) (gw hw 8 rfl) (ty := .byte) (v' := .int 0) (by decide) rfl rfl (g := (mkF m 48 #[vr a, vr x, vi 0, vi 3, .val .null, vr y3] [(.int 0), (.ref a)])) rfl rfl (hb hby d10_48)
 have N5 := Fr.snoc X5 N4 g_a
 replace A_a := A_a.wr W5
 replace F_value_a := F_value_a.other W5 (Or.inr (slot_ne (Or.inr (gw hw 36 rfl)) (Or.inr (gw hw 34 rfl)) (by decide) (t := (.array .byte)) (t' := .byte) (by decide) (by decide)))
 replace V_y3 := V_y3.other W5 (Ne.symm ne_a_y3)
 replace KP := KP.wr W5 (Or.inl (List.mem_of_getElem? (i := 0) rfl))
 replace F_coder_a := F_coder_a.same W5
 replace Z0 : n0 ≤ h5.size := by rw [W5.size]; exact Z0
 refine Gs st5 ?_
 show Goes _ _ _ _ _ (fT T5 m 51 #[vr a, vr x, vi 0, vi 3, .val .null, vr y3] [])
 refine gA X5 hx hby d10_51 rfl rfl rfl ?_
 refine Gz (XS.aload X5.here hx rfl (hb hby d10_52) rfl rfl) ?_
 obtain ⟨T6, h6, X6, e6, W6, st6⟩ := putF X5 hx hZ hown (host := "") (Or.inl (gw hw 35 rfl)) Via.refl e5 F_value_a A_a (Or.inr ⟨(gw hw 36 rfl), rfl, hnm⟩) (gw hw 8 rfl) (ty := (.array .byte)) (by decide) rfl rfl (g := (mkF m 54 #[vr a, vr x, vi 0, vi 3, .val .null, vr y3] [(.ref y3), (.ref a)])) rfl rfl (hb hby d10_54)
 have N6 := Fr.snoc X6 N5 g_a
 replace A_a := A_a.wr W6
 replace F_coder_a := F_coder_a.other W6 (Or.inr (slot_ne (Or.inr (gw hw 34 rfl)) (Or.inr (gw hw 36 rfl)) (by decide) (t := .byte) (t' := (.array .byte)) (by decide) (by decide)))
 replace V_y3 := V_y3.other W6 (Ne.symm ne_a_y3)
 replace KP := KP.wr W6 (Or.inl (List.mem_of_getElem? (i := 0) rfl))
 replace F_value_a := F_value_a.same W6
 replace Z0 : n0 ≤ h6.size := by rw [W6.size]; exact Z0
 refine Gs st6 ?_
 show Goes _ _ _ _ _ (fT T6 m 57 #[vr a, vr x, vi 0, vi 3, .val .null, vr y3] [])
 have T_a : StrOf Z h6 a [c0, c1, c2] := StrOf.latin A_a F_value_a F_coder_a V_y3 (by intro c hc; simp only [List.mem_cons, List.not_mem_nil, or_false] at hc; rcases hc with rfl | rfl | rfl <;> assumption) rfl rfl (Nat.le_of_ble_eq_true rfl)
 refine Goes.ret X6 none (fun _ => rfl) hlk (by decide) (by decide) ?_ (fun fs hr => ?_)
 ·rw [e6]; exact ⟨rfl, N6, KP, T_a⟩
 ·exact X6.returnOut hx hret (hb hby d10_57) hr
theorem own_ef_rs_i1_3 (m : MethodId) (x0 : Addr) (x1 : Addr) : entryFrame m #[(.ref x0), (.ref x1)] 2 = mkF m 0 #[vr x0, vr x1] [] := by first | (simp [entryFrame, mkF, argsToLocals, Value.category]; done) | rfl
def Q_rs_i1_3 (Z : State) (a : Addr) (x : Addr) (kx : ClassId) (c0 : Int32) (c1 : Int32) (c2 : Int32) (cz : Int32) (h0 : Heap) (n0 : Nat) (v : Option Value) (h : Heap) (L : List Loc) : Prop := v = none ∧ Fr n0 L ∧ Keep h0 h [a] ∧ StrOf Z h a [c0, c1, c2]
theorem rs_i1_3 (l : Launch) (Z : State) (a0 : Array Value) (hw : HW a0 Z) (ws : List Jvm.Cond) (a : Addr) (x : Addr) (kx : ClassId) (c0 : Int32) (c1 : Int32) (c2 : Int32) (cz : Int32) (h0 : Heap) (n0 : Nat) (Z0 : n0 ≤ h0.size) (A_a : Exa Z h0 a "java/lang/String") (F_value_a : Fld Z h0 a "java/lang/String" "value" "[B" .null) (F_coder_a : Fld Z h0 a "java/lang/String" "coder" "B" (.int 0)) (V_x : Arv Z h0 x kx .char 3 [(.int c0), (.int c1), (.int c2)] (.int 0)) (g_a : n0 ≤ a) (ne_x_a : x ≠ a) (sgC : Sta Z h0 "java/lang/String" "COMPACT_STRINGS" "Z" (.int cz)) (hcz : ¬ (cz = 0)) (hL_c0 : Lat c0) (hL_c1 : Lat c1) (hL_c2 : Lat c2) :
  Met l Z mN11 jdk_42_method_3_code 2 none ({ frames := 3, cells := 1, slots := 3, locals := 52 } : Room) ws #[(.ref a), (.ref x)] h0 (Q_rs_i1_3 Z a x kx c0 c1 c2 cz h0 n0) := by
 refine own_met (plainFor_of_name own_pn0) ?_
 intro p e s m below meth c s₁ hret hx hby hlk hml hown hnm X0 e0 hZ hh
 have N0 := Fr.nil n0
 refine Gz (castTop (own_ef_rs_i1_3 m a x)) ?_
 have KP : Keep h0 h0 [a] := Keep.refl _ _
 show Goes _ _ _ _ _ (fT s₁ m 0 #[vr a, vr x] [])
 refine gA X0 hx hby d11_0 rfl rfl rfl ?_
 refine gA X0 hx hby d11_1 rfl rfl rfl ?_
 refine gC X0 hx hby d11_2 ?_
 refine gA X0 hx hby d11_3 rfl rfl rfl ?_
 obtain ⟨cl1, Ar1, -, S1, N1z, -, -⟩ := id V_x
 refine Gs (fun _ tk => X0.arraylength hx (by rw [e0]; exact Ar1.1) (State.isArrayOf_alike hZ.alike Ar1.2.1) (g := (mkF m 4 #[vr a, vr x] [(.ref x), (.int 0), (.ref x), (.ref a)])) rfl rfl (hb hby d11_4) _ tk) ?_
 rw [len_of S1 N1z]
 show Goes _ _ _ _ _ (fT s₁ m 5 #[vr a, vr x] [(.int 3), (.int 0), (.ref x), (.ref a)])
 refine Gz (XS.aconstNull X0.here hx rfl (hb hby d11_5)) ?_
 refine cIg X0 hx hZ hw hown hby hml e0 mN10 14 15 17 9 0 (rs_i4_3 l Z a0 hw [] a x kx c0 c1 c2 cz h0 n0 Z0 A_a F_value_a F_coder_a V_x g_a ne_x_a sgC hcz hL_c0 hL_c1 hL_c2) d11_6 (lenOf own_pd8 rfl) (fun _ T2 L2 X2 hQ2 => ?_)
 obtain ⟨rfl, N2q, K2, T_a_2'⟩ := hQ2
 have N2 := Fr.app N0 N2q
 replace KP := KP.trans K2 (allS (Or.inl (List.mem_of_getElem? (i := 0) rfl)) all0)
 replace Z0 := Nat.le_trans Z0 K2.1
 have T_a := T_a_2'
 show Goes _ _ _ _ _ (fT T2 m 9 #[vr a, vr x] [])
 refine Goes.ret X2 none (fun _ => rfl) hlk (by decide) (by decide) ?_ (fun fs hr => ?_)
 ·exact ⟨rfl, N2, KP, T_a⟩
 ·exact X2.returnOut hx hret (hb hby d11_9) hr
theorem own_ef_rs_c5_4 (m : MethodId) (x0 : Addr) (x2 : Addr) : entryFrame m #[(.ref x0), (.int 0), (.ref x2), (.int 0), (.int 4)] 7 = mkF m 0 #[vr x0, vi 0, vr x2, vi 0, vi 4, vu, vu] [] := by first | (simp [entryFrame, mkF, argsToLocals, Value.category]; done) | rfl
def Q_rs_c5_4 (Z : State) (x : Addr) (kx : ClassId) (y : Addr) (ky : ClassId) (c0 : Int32) (c1 : Int32) (c2 : Int32) (c3 : Int32) (h0 : Heap) (n0 : Nat) (v : Option Value) (h : Heap) (L : List Loc) : Prop := v = some (.int 4) ∧ Fr n0 L ∧ Keep h0 h [y] ∧ Arv Z h y ky .byte 4 [(.int (lo8 c0)), (.int (lo8 c1)), (.int (lo8 c2)), (.int (lo8 c3))] (.int 0)
theorem rs_c5_4 (l : Launch) (Z : State) (a0 : Array Value) (hw : HW a0 Z) (ws : List Jvm.Cond) (x : Addr) (kx : ClassId) (y : Addr) (ky : ClassId) (c0 : Int32) (c1 : Int32) (c2 : Int32) (c3 : Int32) (h0 : Heap) (n0 : Nat) (Z0 : n0 ≤ h0.size) (V_x : Arv Z h0 x kx .char 4 [(.int c0), (.int c1), (.int c2), (.int c3)] (.int 0)) (V_y : Arv Z h0 y ky .byte 4 [(.int 0), (.int 0), (.int 0), (.int 0)] (.int 0)) (g_y : n0 ≤ y) (ne_x_y : x ≠ y) (hL_c0 : Lat c0) (hL_c1 : Lat c1) (hL_c2 : Lat c2) (hL_c3 : Lat c3) :
  Met l Z mN7 jdk_52_method_21_code 7 (some .int) ({ frames := 0, cells := 0, slots := 0, locals := 0 } : Room) ws #[(.ref x), (.int 0), (.ref y), (.int 0), (.int 4)] h0 (Q_rs_c5_4 Z x kx y ky c0 c1 c2 c3 h0 n0) := by
 refine own_met (plainFor_of_name own_pn3) ?_
 intro p e s m below meth c s₁ hret hx hby hlk hml hown hnm X0 e0 hZ hh
 have N0 := Fr.nil n0
 refine Gz (castTop (own_ef_rs_c5_4 m x y)) ?_
 have KP : Keep h0 h0 [y] := Keep.refl _ _
 show Goes _ _ _ _ _ (fT s₁ m 0 #[vr x, vi 0, vr y, vi 0, vi 4, vu, vu] [])
 have hn_c0 := own_latN hL_c0
 have hn_c1 := own_latN hL_c1
 have hn_c2 := own_latN hL_c2
 have hn_c3 := own_latN hL_c3
 refine gC X0 hx hby d7_0 ?_
 refine gS X0 hx hby d7_1 #[vr x, vi 0, vr y, vi 0, vi 4, vi 0, vu] ?_
 refine gI X0 hx hby d7_3 rfl rfl ?_
 refine gI X0 hx hby d7_5 rfl rfl ?_
 refine gU X0 hx hby d7_7 (tlt (by decide : ((0 : Int32) < (4 : Int32)))).2.1 ?_
 refine gA X0 hx hby d7_10 rfl rfl rfl ?_
 show Goes _ _ _ _ _ (fT s₁ m 11 #[vr x, vi 0, vr y, vi 0, vi 4, vi 0, vu] [(.ref x)])
 refine gN X0 hx hby d7_11 rfl rfl ?_
 obtain ⟨cl1, Ar1, -, S1, N1z, H1, -⟩ := id V_x
 have hin1 : ¬ ((0 : Int32) < 0 ∨ cl1.slots.size ≤ ((0 : Int32)).toNatClampNeg) := inb_of S1 ⟨by decide, by decide⟩
 have hat1 : cl1.slots[((0 : Int32)).toNatClampNeg]? = some (.int c0) := Has.at H1 hin1 rfl
 refine Gs (fun _ tk => X0.caload hx (j := (0 : Int32)) (v := (.int c0)) (by rw [e0]; exact Ar1.1) (State.isArrayOf_alike hZ.alike Ar1.2.1) Ar1.2.2 hin1 hat1 (g := (mkF m 12 #[vr x, vi 0, vr y, vi 0, vi 4, vi 0, vu] [(.int 0), (.ref x)])) rfl rfl (hb hby d7_12) _ tk) ?_
 show Goes _ _ _ _ _ (fT s₁ m 13 #[vr x, vi 0, vr y, vi 0, vi 4, vi 0, vu] [(.int c0)])
 refine gS X0 hx hby d7_13 #[vr x, vi 0, vr y, vi 0, vi 4, vi 0, vi c0] ?_
 refine gI X0 hx hby d7_15 rfl rfl ?_
 refine Gz (XS.sipush X0.here hx rfl (hb hby d7_17)) ?_
 refine gY X0 hx hby d7_20 20 26 (flt hn_c0).2.2.2 ?_
 refine gA X0 hx hby d7_26 rfl rfl rfl ?_
 refine gN X0 hx hby d7_27 rfl rfl ?_
 show Goes _ _ _ _ _ (fT s₁ m 28 #[vr x, vi 0, vr y, vi 0, vi 4, vi 0, vi c0] [(.int 0), (.ref y)])
 refine gI X0 hx hby d7_28 rfl rfl ?_
 show Goes _ _ _ _ _ (fT s₁ m 30 #[vr x, vi 0, vr y, vi 0, vi 4, vi 0, vi c0] [(.int c0), (.int 0), (.ref y)])
 refine Gz (XS.i2b X0.here hx rfl (hb hby d7_30) rfl) ?_
 show Goes _ _ _ _ _ (fT s₁ m 31 #[vr x, vi 0, vr y, vi 0, vi 4, vi 0, vi c0] [(.int (c0.toInt8.toInt32)), (.int 0), (.ref y)])
 obtain ⟨cl2, Ar2, q2, S2, N2z, H2, G2⟩ := V_y
 have hin2 : ¬ ((0 : Int32) < 0 ∨ cl2.slots.size ≤ ((0 : Int32)).toNatClampNeg) := inb_of S2 ⟨by decide, by decide⟩
 obtain ⟨T2, h2, X2, e2, W2, st2⟩ := stB X0 hx hZ e0 Ar2 (j := (0 : Int32)) hin2 (g := (mkF m 31 #[vr x, vi 0, vr y, vi 0, vi 4, vi 0, vi c0] [(.int (c0.toInt8.toInt32)), (.int 0), (.ref y)])) rfl rfl (hb hby d7_31)
 have Vn2 := Arv.set Ar2 q2 S2 N2z H2 G2 (fits_nar_byte _) W2 0 rfl (Nat.le_of_ble_eq_true rfl)
 have N2 := Fr.snoc X2 N0 g_y
 replace V_x := V_x.other W2 ne_x_y
 replace KP := KP.wr W2 (Or.inl (List.mem_of_getElem? (i := 0) rfl))
 have V_y : Arv Z h2 y ky .byte 4 [(.int (lo8 c0)), (.int 0), (.int 0), (.int 0)] (.int 0) := by have q := Vn2; rw [own_nb2] at q; exact q
 replace Z0 : n0 ≤ h2.size := by rw [W2.size]; exact Z0
 refine Gs st2 ?_
 show Goes _ _ _ _ _ (fT T2 m 32 #[vr x, vi 0, vr y, vi 0, vi 4, vi 0, vi c0] [])
 refine Gz (XS.iinc X2.here hx rfl (hb hby d7_32) rfl (l' := #[vr x, vi ((0 : Int32) + (1 : Int32)), vr y, vi 0, vi 4, vi 0, vi c0]) rfl) ?_
 show Goes _ _ _ _ _ (fT T2 m 35 #[vr x, vi 1, vr y, vi 0, vi 4, vi 0, vi c0] [])
 refine Gz (XS.iinc X2.here hx rfl (hb hby d7_35) rfl (l' := #[vr x, vi 1, vr y, vi ((0 : Int32) + (1 : Int32)), vi 4, vi 0, vi c0]) rfl) ?_
 show Goes _ _ _ _ _ (fT T2 m 38 #[vr x, vi 1, vr y, vi 1, vi 4, vi 0, vi c0] [])
 refine Gz (XS.iinc X2.here hx rfl (hb hby d7_38) rfl (l' := #[vr x, vi 1, vr y, vi 1, vi 4, vi ((0 : Int32) + (1 : Int32)), vi c0]) rfl) ?_
 show Goes _ _ _ _ _ (fT T2 m 41 #[vr x, vi 1, vr y, vi 1, vi 4, vi 1, vi c0] [])
 refine gG X2 hx hby d7_41 41 3 ?_
 refine gI X2 hx hby d7_3 rfl rfl ?_
 refine gI X2 hx hby d7_5 rfl rfl ?_
 refine gU X2 hx hby d7_7 (tlt (by decide : ((1 : Int32) < (4 : Int32)))).2.1 ?_
 refine gA X2 hx hby d7_10 rfl rfl rfl ?_
 refine gN X2 hx hby d7_11 rfl rfl ?_
 show Goes _ _ _ _ _ (fT T2 m 12 #[vr x, vi 1, vr y, vi 1, vi 4, vi 1, vi c0] [(.int 1), (.ref x)])
 obtain ⟨cl3, Ar3, -, S3, N3z, H3, -⟩ := id V_x
 have hin3 : ¬ ((1 : Int32) < 0 ∨ cl3.slots.size ≤ ((1 : Int32)).toNatClampNeg) := inb_of S3 ⟨by decide, by decide⟩
 have hat3 : cl3.slots[((1 : Int32)).toNatClampNeg]? = some (.int c1) := Has.at H3 hin3 rfl
 refine Gs (fun _ tk => X2.caload hx (j := (1 : Int32)) (v := (.int c1)) (by rw [e2]; exact Ar3.1) (State.isArrayOf_alike hZ.alike Ar3.2.1) Ar3.2.2 hin3 hat3 (g := (mkF m 12 #[vr x, vi 1, vr y, vi 1, vi 4, vi 1, vi c0] [(.int 1), (.ref x)])) rfl rfl (hb hby d7_12) _ tk) ?_
 show Goes _ _ _ _ _ (fT T2 m 13 #[vr x, vi 1, vr y, vi 1, vi 4, vi 1, vi c0] [(.int c1)])
 refine gS X2 hx hby d7_13 #[vr x, vi 1, vr y, vi 1, vi 4, vi 1, vi c1] ?_
 refine gI X2 hx hby d7_15 rfl rfl ?_
 refine Gz (XS.sipush X2.here hx rfl (hb hby d7_17)) ?_
 refine gY X2 hx hby d7_20 20 26 (flt hn_c1).2.2.2 ?_
 refine gA X2 hx hby d7_26 rfl rfl rfl ?_
 refine gN X2 hx hby d7_27 rfl rfl ?_
 show Goes _ _ _ _ _ (fT T2 m 28 #[vr x, vi 1, vr y, vi 1, vi 4, vi 1, vi c1] [(.int 1), (.ref y)])
 refine gI X2 hx hby d7_28 rfl rfl ?_
 show Goes _ _ _ _ _ (fT T2 m 30 #[vr x, vi 1, vr y, vi 1, vi 4, vi 1, vi c1] [(.int c1), (.int 1), (.ref y)])
 refine Gz (XS.i2b X2.here hx rfl (hb hby d7_30) rfl) ?_
 show Goes _ _ _ _ _ (fT T2 m 31 #[vr x, vi 1, vr y, vi 1, vi 4, vi 1, vi c1] [(.int (c1.toInt8.toInt32)), (.int 1), (.ref y)])
 obtain ⟨cl4, Ar4, q4, S4, N4z, H4, G4⟩ := V_y
 have hin4 : ¬ ((1 : Int32) < 0 ∨ cl4.slots.size ≤ ((1 : Int32)).toNatClampNeg) := inb_of S4 ⟨by decide, by decide⟩
 obtain ⟨T4, h4, X4, e4, W4, st4⟩ := stB X2 hx hZ e2 Ar4 (j := (1 : Int32)) hin4 (g := (mkF m 31 #[vr x, vi 1, vr y, vi 1, vi 4, vi 1, vi c1] [(.int (c1.toInt8.toInt32)), (.int 1), (.ref y)])) rfl rfl (hb hby d7_31)
 have Vn4 := Arv.set Ar4 q4 S4 N4z H4 G4 (fits_nar_byte _) W4 1 rfl (Nat.le_of_ble_eq_true rfl)
 have N4 := Fr.snoc X4 N2 g_y
 replace V_x := V_x.other W4 ne_x_y
 replace KP := KP.wr W4 (Or.inl (List.mem_of_getElem? (i := 0) rfl))
 have V_y : Arv Z h4 y ky .byte 4 [(.int (lo8 c0)), (.int (lo8 c1)), (.int 0), (.int 0)] (.int 0) := by have q := Vn4; rw [own_nb2] at q; exact q
 replace Z0 : n0 ≤ h4.size := by rw [W4.size]; exact Z0
 refine Gs st4 ?_
 show Goes _ _ _ _ _ (fT T4 m 32 #[vr x, vi 1, vr y, vi 1, vi 4, vi 1, vi c1] [])
 refine Gz (XS.iinc X4.here hx rfl (hb hby d7_32) rfl (l' := #[vr x, vi ((1 : Int32) + (1 : Int32)), vr y, vi 1, vi 4, vi 1, vi c1]) rfl) ?_
 show Goes _ _ _ _ _ (fT T4 m 35 #[vr x, vi 2, vr y, vi 1, vi 4, vi 1, vi c1] [])
 refine Gz (XS.iinc X4.here hx rfl (hb hby d7_35) rfl (l' := #[vr x, vi 2, vr y, vi ((1 : Int32) + (1 : Int32)), vi 4, vi 1, vi c1]) rfl) ?_
 show Goes _ _ _ _ _ (fT T4 m 38 #[vr x, vi 2, vr y, vi 2, vi 4, vi 1, vi c1] [])
 refine Gz (XS.iinc X4.here hx rfl (hb hby d7_38) rfl (l' := #[vr x, vi 2, vr y, vi 2, vi 4, vi ((1 : Int32) + (1 : Int32)), vi c1]) rfl) ?_
 show Goes _ _ _ _ _ (fT T4 m 41 #[vr x, vi 2, vr y, vi 2, vi 4, vi 2, vi c1] [])
 refine gG X4 hx hby d7_41 41 3 ?_
 refine gI X4 hx hby d7_3 rfl rfl ?_
 refine gI X4 hx hby d7_5 rfl rfl ?_
 refine gU X4 hx hby d7_7 (tlt (by decide : ((2 : Int32) < (4 : Int32)))).2.1 ?_
 refine gA X4 hx hby d7_10 rfl rfl rfl ?_
 refine gN X4 hx hby d7_11 rfl rfl ?_
 show Goes _ _ _ _ _ (fT T4 m 12 #[vr x, vi 2, vr y, vi 2, vi 4, vi 2, vi c1] [(.int 2), (.ref x)])
 obtain ⟨cl5, Ar5, -, S5, N5z, H5, -⟩ := id V_x
 have hin5 : ¬ ((2 : Int32) < 0 ∨ cl5.slots.size ≤ ((2 : Int32)).toNatClampNeg) := inb_of S5 ⟨by decide, by decide⟩
 have hat5 : cl5.slots[((2 : Int32)).toNatClampNeg]? = some (.int c2) := Has.at H5 hin5 rfl
 refine Gs (fun _ tk => X4.caload hx (j := (2 : Int32)) (v := (.int c2)) (by rw [e4]; exact Ar5.1) (State.isArrayOf_alike hZ.alike Ar5.2.1) Ar5.2.2 hin5 hat5 (g := (mkF m 12 #[vr x, vi 2, vr y, vi 2, vi 4, vi 2, vi c1] [(.int 2), (.ref x)])) rfl rfl (hb hby d7_12) _ tk) ?_
 show Goes _ _ _ _ _ (fT T4 m 13 #[vr x, vi 2, vr y, vi 2, vi 4, vi 2, vi c1] [(.int c2)])
 refine gS X4 hx hby d7_13 #[vr x, vi 2, vr y, vi 2, vi 4, vi 2, vi c2] ?_
 refine gI X4 hx hby d7_15 rfl rfl ?_
 refine Gz (XS.sipush X4.here hx rfl (hb hby d7_17)) ?_
 refine gY X4 hx hby d7_20 20 26 (flt hn_c2).2.2.2 ?_
 refine gA X4 hx hby d7_26 rfl rfl rfl ?_
 refine gN X4 hx hby d7_27 rfl rfl ?_
 show Goes _ _ _ _ _ (fT T4 m 28 #[vr x, vi 2, vr y, vi 2, vi 4, vi 2, vi c2] [(.int 2), (.ref y)])
 refine gI X4 hx hby d7_28 rfl rfl ?_
 show Goes _ _ _ _ _ (fT T4 m 30 #[vr x, vi 2, vr y, vi 2, vi 4, vi 2, vi c2] [(.int c2), (.int 2), (.ref y)])
 refine Gz (XS.i2b X4.here hx rfl (hb hby d7_30) rfl) ?_
 show Goes _ _ _ _ _ (fT T4 m 31 #[vr x, vi 2, vr y, vi 2, vi 4, vi 2, vi c2] [(.int (c2.toInt8.toInt32)), (.int 2), (.ref y)])
 obtain ⟨cl6, Ar6, q6, S6, N6z, H6, G6⟩ := V_y
 have hin6 : ¬ ((2 : Int32) < 0 ∨ cl6.slots.size ≤ ((2 : Int32)).toNatClampNeg) := inb_of S6 ⟨by decide, by decide⟩
 obtain ⟨T6, h6, X6, e6, W6, st6⟩ := stB X4 hx hZ e4 Ar6 (j := (2 : Int32)) hin6 (g := (mkF m 31 #[vr x, vi 2, vr y, vi 2, vi 4, vi 2, vi c2] [(.int (c2.toInt8.toInt32)), (.int 2), (.ref y)])) rfl rfl (hb hby d7_31)
 have Vn6 := Arv.set Ar6 q6 S6 N6z H6 G6 (fits_nar_byte _) W6 2 rfl (Nat.le_of_ble_eq_true rfl)
 have N6 := Fr.snoc X6 N4 g_y
 replace V_x := V_x.other W6 ne_x_y
 replace KP := KP.wr W6 (Or.inl (List.mem_of_getElem? (i := 0) rfl))
 have V_y : Arv Z h6 y ky .byte 4 [(.int (lo8 c0)), (.int (lo8 c1)), (.int (lo8 c2)), (.int 0)] (.int 0) := by have q := Vn6; rw [own_nb2] at q; exact q
 replace Z0 : n0 ≤ h6.size := by rw [W6.size]; exact Z0
 refine Gs st6 ?_
 show Goes _ _ _ _ _ (fT T6 m 32 #[vr x, vi 2, vr y, vi 2, vi 4, vi 2, vi c2] [])
 refine Gz (XS.iinc X6.here hx rfl (hb hby d7_32) rfl (l' := #[vr x, vi ((2 : Int32) + (1 : Int32)), vr y, vi 2, vi 4, vi 2, vi c2]) rfl) ?_
 show Goes _ _ _ _ _ (fT T6 m 35 #[vr x, vi 3, vr y, vi 2, vi 4, vi 2, vi c2] [])
 refine Gz (XS.iinc X6.here hx rfl (hb hby d7_35) rfl (l' := #[vr x, vi 3, vr y, vi ((2 : Int32) + (1 : Int32)), vi 4, vi 2, vi c2]) rfl) ?_
 show Goes _ _ _ _ _ (fT T6 m 38 #[vr x, vi 3, vr y, vi 3, vi 4, vi 2, vi c2] [])
 refine Gz (XS.iinc X6.here hx rfl (hb hby d7_38) rfl (l' := #[vr x, vi 3, vr y, vi 3, vi 4, vi ((2 : Int32) + (1 : Int32)), vi c2]) rfl) ?_
 show Goes _ _ _ _ _ (fT T6 m 41 #[vr x, vi 3, vr y, vi 3, vi 4, vi 3, vi c2] [])
 refine gG X6 hx hby d7_41 41 3 ?_
 refine gI X6 hx hby d7_3 rfl rfl ?_
 refine gI X6 hx hby d7_5 rfl rfl ?_
 refine gU X6 hx hby d7_7 (tlt (by decide : ((3 : Int32) < (4 : Int32)))).2.1 ?_
 refine gA X6 hx hby d7_10 rfl rfl rfl ?_
 refine gN X6 hx hby d7_11 rfl rfl ?_
 show Goes _ _ _ _ _ (fT T6 m 12 #[vr x, vi 3, vr y, vi 3, vi 4, vi 3, vi c2] [(.int 3), (.ref x)])
 obtain ⟨cl7, Ar7, -, S7, N7z, H7, -⟩ := id V_x
 have hin7 : ¬ ((3 : Int32) < 0 ∨ cl7.slots.size ≤ ((3 : Int32)).toNatClampNeg) := inb_of S7 ⟨by decide, by decide⟩
 have hat7 : cl7.slots[((3 : Int32)).toNatClampNeg]? = some (.int c3) := Has.at H7 hin7 rfl
 refine Gs (fun _ tk => X6.caload hx (j := (3 : Int32)) (v := (.int c3)) (by rw [e6]; exact Ar7.1) (State.isArrayOf_alike hZ.alike Ar7.2.1) Ar7.2.2 hin7 hat7 (g := (mkF m 12 #[vr x, vi 3, vr y, vi 3, vi 4, vi 3, vi c2] [(.int 3), (.ref x)])) rfl rfl (hb hby d7_12) _ tk) ?_
 show Goes _ _ _ _ _ (fT T6 m 13 #[vr x, vi 3, vr y, vi 3, vi 4, vi 3, vi c2] [(.int c3)])
 refine gS X6 hx hby d7_13 #[vr x, vi 3, vr y, vi 3, vi 4, vi 3, vi c3] ?_
 refine gI X6 hx hby d7_15 rfl rfl ?_
 refine Gz (XS.sipush X6.here hx rfl (hb hby d7_17)) ?_
 refine gY X6 hx hby d7_20 20 26 (flt hn_c3).2.2.2 ?_
 refine gA X6 hx hby d7_26 rfl rfl rfl ?_
 refine gN X6 hx hby d7_27 rfl rfl ?_
 show Goes _ _ _ _ _ (fT T6 m 28 #[vr x, vi 3, vr y, vi 3, vi 4, vi 3, vi c3] [(.int 3), (.ref y)])
 refine gI X6 hx hby d7_28 rfl rfl ?_
 show Goes _ _ _ _ _ (fT T6 m 30 #[vr x, vi 3, vr y, vi 3, vi 4, vi 3, vi c3] [(.int c3), (.int 3), (.ref y)])
 refine Gz (XS.i2b X6.here hx rfl (hb hby d7_30) rfl) ?_
 show Goes _ _ _ _ _ (fT T6 m 31 #[vr x, vi 3, vr y, vi 3, vi 4, vi 3, vi c3] [(.int (c3.toInt8.toInt32)), (.int 3), (.ref y)])
 obtain ⟨cl8, Ar8, q8, S8, N8z, H8, G8⟩ := V_y
 have hin8 : ¬ ((3 : Int32) < 0 ∨ cl8.slots.size ≤ ((3 : Int32)).toNatClampNeg) := inb_of S8 ⟨by decide, by decide⟩
 obtain ⟨T8, h8, X8, e8, W8, st8⟩ := stB X6 hx hZ e6 Ar8 (j := (3 : Int32)) hin8 (g := (mkF m 31 #[vr x, vi 3, vr y, vi 3, vi 4, vi 3, vi c3] [(.int (c3.toInt8.toInt32)), (.int 3), (.ref y)])) rfl rfl (hb hby d7_31)
 have Vn8 := Arv.set Ar8 q8 S8 N8z H8 G8 (fits_nar_byte _) W8 3 rfl (Nat.le_of_ble_eq_true rfl)
 have N8 := Fr.snoc X8 N6 g_y
 replace KP := KP.wr W8 (Or.inl (List.mem_of_getElem? (i := 0) rfl))
 have V_y : Arv Z h8 y ky .byte 4 [(.int (lo8 c0)), (.int (lo8 c1)), (.int (lo8 c2)), (.int (lo8 c3))] (.int 0) := by have q := Vn8; rw [own_nb2] at q; exact q
 replace Z0 : n0 ≤ h8.size := by rw [W8.size]; exact Z0
 refine Gs st8 ?_
 show Goes _ _ _ _ _ (fT T8 m 32 #[vr x, vi 3, vr y, vi 3, vi 4, vi 3, vi c3] [])
 refine Gz (XS.iinc X8.here hx rfl (hb hby d7_32) rfl (l' := #[vr x, vi ((3 : Int32) + (1 : Int32)), vr y, vi 3, vi 4, vi 3, vi c3]) rfl) ?_
 show Goes _ _ _ _ _ (fT T8 m 35 #[vr x, vi 4, vr y, vi 3, vi 4, vi 3, vi c3] [])
 refine Gz (XS.iinc X8.here hx rfl (hb hby d7_35) rfl (l' := #[vr x, vi 4, vr y, vi ((3 : Int32) + (1 : Int32)), vi 4, vi 3, vi c3]) rfl) ?_
 show Goes _ _ _ _ _ (fT T8 m 38 #[vr x, vi 4, vr y, vi 4, vi 4, vi 3, vi c3] [])
 refine Gz (XS.iinc X8.here hx rfl (hb hby d7_38) rfl (l' := #[vr x, vi 4, vr y, vi 4, vi 4, vi ((3 : Int32) + (1 : Int32)), vi c3]) rfl) ?_
 show Goes _ _ _ _ _ (fT T8 m 41 #[vr x, vi 4, vr y, vi 4, vi 4, vi 4, vi c3] [])
 refine gG X8 hx hby d7_41 41 3 ?_
 refine gI X8 hx hby d7_3 rfl rfl ?_
 refine gI X8 hx hby d7_5 rfl rfl ?_
 refine gY X8 hx hby d7_7 7 44 (flt (by decide : ¬ ((4 : Int32) < (4 : Int32)))).2.1 ?_
 refine gI X8 hx hby d7_44 rfl rfl ?_
 refine Goes.ret X8 (some (.int 4)) (fun h => by rw [hret] at h; cases h) hlk (by decide) (by decide) ?_ (fun fs hr => ?_)
 ·rw [e8]; exact ⟨rfl, N8, KP, V_y⟩
 ·exact retI X8 hx hret (hb hby d7_46) hr
theorem own_ef_rs_c3_4 (m : MethodId) (x0 : Addr) : entryFrame m #[(.ref x0), (.int 0), (.int 4)] 6 = mkF m 0 #[vr x0, vi 0, vi 4, vu, vu, vu] [] := by first | (simp [entryFrame, mkF, argsToLocals, Value.category]; done) | rfl
def Q_rs_c3_4 (Z : State) (x : Addr) (kx : ClassId) (c0 : Int32) (c1 : Int32) (c2 : Int32) (c3 : Int32) (h0 : Heap) (n0 : Nat) (v : Option Value) (h : Heap) (L : List Loc) : Prop := ∃ y : Addr, ∃ ky : ClassId, v = some (.ref y) ∧ Fr n0 L ∧ Keep h0 h [] ∧ Arv Z h y ky .byte 4 [(.int (lo8 c0)), (.int (lo8 c1)), (.int (lo8 c2)), (.int (lo8 c3))] (.int 0) ∧ n0 ≤ y ∧ h0.size ≤ y
theorem rs_c3_4 (l : Launch) (Z : State) (a0 : Array Value) (hw : HW a0 Z) (ws : List Jvm.Cond) (x : Addr) (kx : ClassId) (c0 : Int32) (c1 : Int32) (c2 : Int32) (c3 : Int32) (h0 : Heap) (n0 : Nat) (Z0 : n0 ≤ h0.size) (V_x : Arv Z h0 x kx .char 4 [(.int c0), (.int c1), (.int c2), (.int c3)] (.int 0)) (hL_c0 : Lat c0) (hL_c1 : Lat c1) (hL_c2 : Lat c2) (hL_c3 : Lat c3) :
  Met l Z mN8 jdk_52_method_16_code 6 (some (.array .byte)) ({ frames := 1, cells := 1, slots := 4, locals := 18 } : Room) ws #[(.ref x), (.int 0), (.int 4)] h0 (Q_rs_c3_4 Z x kx c0 c1 c2 c3 h0 n0) := by
 refine own_met (plainFor_of_name own_pn3) ?_
 intro p e s m below meth c s₁ hret hx hby hlk hml hown hnm X0 e0 hZ hh
 have N0 := Fr.nil n0
 refine Gz (castTop (own_ef_rs_c3_4 m x)) ?_
 have KP : Keep h0 h0 [] := Keep.refl _ _
 show Goes _ _ _ _ _ (fT s₁ m 0 #[vr x, vi 0, vi 4, vu, vu, vu] [])
 refine gN X0 hx hby d8_0 rfl rfl ?_
 obtain ⟨T1, h1, k1, X1, e1, E1, A1, st1⟩ := newP X0 hx hZ (gw hw 26 rfl) e0 (g := (mkF m 1 #[vr x, vi 0, vi 4, vu, vu, vu] [(.int 4)])) rfl (hb hby d8_1) rfl (by decide) (cap := 4) (by decide) (by decide) (by decide) (by decide)
 obtain ⟨b1, gq1⟩ : ∃ z, z = h0.size := ⟨_, rfl⟩
 rw [← gq1] at A1 st1
 have g_b1 : n0 ≤ b1 := by rw [gq1]; exact Z0
 have sz_b1 : h0.size ≤ b1 := by rw [gq1]; exact KP.1
 have ne_x_b1 : x ≠ b1 := by rw [gq1]; exact Nat.ne_of_lt V_x.lt
 replace V_x := V_x.ext E1
 replace KP := KP.ext E1
 replace Z0 : n0 ≤ h1.size := Nat.le_trans Z0 E1.1
 have V_b1 : Arv Z h1 b1 k1 .byte 4 [(.int 0), (.int 0), (.int 0), (.int 0)] (.int 0) := (Arv.new A1 (by decide)).pad (pad_rep [] (.int 0) 4)
 refine Gs st1 ?_
 show Goes _ _ _ _ _ (fT T1 m 3 #[vr x, vi 0, vi 4, vu, vu, vu] [(.ref b1)])
 refine Gz (XS.astoreN X1.here hx rfl (hb hby d8_3) rfl rfl (l' := #[vr x, vi 0, vi 4, vr b1, vu, vu]) rfl) ?_
 refine gA X1 hx hby d8_4 rfl rfl rfl ?_
 refine gN X1 hx hby d8_5 rfl rfl ?_
 refine gA X1 hx hby d8_6 rfl rfl rfl ?_
 refine gC X1 hx hby d8_7 ?_
 refine gN X1 hx hby d8_8 rfl rfl ?_
 show Goes _ _ _ _ _ (fT T1 m 9 #[vr x, vi 0, vi 4, vr b1, vu, vu] [(.int 4), (.int 0), (.ref b1), (.int 0), (.ref x)])
 refine cSg X1 hx hZ hw hown hby hml e1 mN7 27 28 29 24 0 (rs_c5_4 l Z a0 hw [] x kx b1 k1 c0 c1 c2 c3 h1 n0 Z0 V_x V_b1 g_b1 ne_x_b1 hL_c0 hL_c1 hL_c2 hL_c3) d8_9 (lenOf own_pd5 rfl) (fun _ T2 L2 X2 hQ2 => ?_)
 obtain ⟨rfl, N2q, K2, V_b1_2'⟩ := hQ2
 have N2 := Fr.app N0 N2q
 replace KP := KP.trans K2 (allS (Or.inr sz_b1) all0)
 replace Z0 := Nat.le_trans Z0 K2.1
 have V_b1 := V_b1_2'
 show Goes _ _ _ _ _ (fT T2 m 12 #[vr x, vi 0, vi 4, vr b1, vu, vu] [(.int 4)])
 refine gS X2 hx hby d8_12 #[vr x, vi 0, vi 4, vr b1, vi 4, vu] ?_
 refine gI X2 hx hby d8_14 rfl rfl ?_
 refine gN X2 hx hby d8_16 rfl rfl ?_
 refine gY X2 hx hby d8_17 17 57 (teq (by decide : ((4 : Int32) = (4 : Int32)))).1 ?_
 refine gA X2 hx hby d8_57 rfl rfl rfl ?_
 refine Goes.ret X2 (some (.ref b1)) (fun h => by rw [hret] at h; cases h) hlk (by decide) (by decide) ?_ (fun fs hr => ?_)
 ·exact ⟨b1, k1, rfl, N2, KP, V_b1, g_b1, sz_b1⟩
 ·exact own_retA X2 hx hret rfl rfl (hb hby d8_58) hr
theorem own_ef_rs_cf_4 (m : MethodId) (x0 : Addr) : entryFrame m #[(.ref x0), (.int 4)] 2 = mkF m 0 #[vr x0, vi 4] [] := by first | (simp [entryFrame, mkF, argsToLocals, Value.category]; done) | rfl
def Q_rs_cf_4 (Z : State) (y : Addr) (ky : ClassId) (vs : List Value) (h0 : Heap) (n0 : Nat) (v : Option Value) (h : Heap) (L : List Loc) : Prop := v = some (.int 0) ∧ Fr n0 L ∧ h = h0
theorem rs_cf_4 (l : Launch) (Z : State) (a0 : Array Value) (hw : HW a0 Z) (ws : List Jvm.Cond) (y : Addr) (ky : ClassId) (vs : List Value) (h0 : Heap) (n0 : Nat) (Z0 : n0 ≤ h0.size) (V_y : Arv Z h0 y ky .byte 4 vs (.int 0)) :
  Met l Z mN9 jdk_52_method_15_code 2 (some .byte) ({ frames := 0, cells := 0, slots := 0, locals := 0 } : Room) ws #[(.ref y), (.int 4)] h0 (Q_rs_cf_4 Z y ky vs h0 n0) := by
 refine own_met (plainFor_of_name own_pn3) ?_
 intro p e s m below meth c s₁ hret hx hby hlk hml hown hnm X0 e0 hZ hh
 have N0 := Fr.nil n0
 refine Gz (castTop (own_ef_rs_cf_4 m y)) ?_
 show Goes _ _ _ _ _ (fT s₁ m 0 #[vr y, vi 4] [])
 refine gN X0 hx hby d9_0 rfl rfl ?_
 refine gA X0 hx hby d9_1 rfl rfl rfl ?_
 obtain ⟨cl1, Ar1, -, S1, N1z, -, -⟩ := id V_y
 refine Gs (fun _ tk => X0.arraylength hx (by rw [e0]; exact Ar1.1) (State.isArrayOf_alike hZ.alike Ar1.2.1) (g := (mkF m 2 #[vr y, vi 4] [(.ref y), (.int 4)])) rfl rfl (hb hby d9_2) _ tk) ?_
 rw [len_of S1 N1z]
 show Goes _ _ _ _ _ (fT s₁ m 3 #[vr y, vi 4] [(.int 4), (.int 4)])
 refine Gz (XS.isub X0.here hx rfl (hb hby d9_3) rfl) ?_
 show Goes _ _ _ _ _ (fT s₁ m 4 #[vr y, vi 4] [(.int 0)])
 refine gB X0 hx hby d9_4 ?_
 show Goes _ _ _ _ _ (fT s₁ m 6 #[vr y, vi 4] [(.int 31), (.int 0)])
 refine Gz (XS.iushr X0.here hx rfl (hb hby d9_6) rfl) ?_
 rw [show (((0 : Int32).toUInt32 >>> ((31 : Int32) &&& 31).toUInt32).toInt32) = (0 : Int32) from by decide]
 show Goes _ _ _ _ _ (fT s₁ m 7 #[vr y, vi 4] [(.int 0)])
 refine Gz (XS.i2b X0.here hx rfl (hb hby d9_7) rfl) ?_
 rw [show ((0 : Int32).toInt8.toInt32) = (0 : Int32) from by decide]
 show Goes _ _ _ _ _ (fT s₁ m 8 #[vr y, vi 4] [(.int 0)])
 refine Goes.ret X0 (some (.int 0)) (fun h => by rw [hret] at h; cases h) hlk (by decide) (by decide) ?_ (fun fs hr => ?_)
 ·exact ⟨rfl, N0, e0⟩
 ·exact own_retN X0 hx (t := .byte) hret (by simp) rfl (hb hby d9_8) hr
theorem own_ef_rs_i4_4 (m : MethodId) (x0 : Addr) (x1 : Addr) : entryFrame m #[(.ref x0), (.ref x1), (.int 0), (.int 4), .null] 6 = mkF m 0 #[vr x0, vr x1, vi 0, vi 4, .val .null, vu] [] := by first | (simp [entryFrame, mkF, argsToLocals, Value.category]; done) | rfl
def Q_rs_i4_4 (Z : State) (a : Addr) (x : Addr) (kx : ClassId) (c0 : Int32) (c1 : Int32) (c2 : Int32) (c3 : Int32) (cz : Int32) (h0 : Heap) (n0 : Nat) (v : Option Value) (h : Heap) (L : List Loc) : Prop := v = none ∧ Fr n0 L ∧ Keep h0 h [a] ∧ StrOf Z h a [c0, c1, c2, c3]
theorem rs_i4_4 (l : Launch) (Z : State) (a0 : Array Value) (hw : HW a0 Z) (ws : List Jvm.Cond) (a : Addr) (x : Addr) (kx : ClassId) (c0 : Int32) (c1 : Int32) (c2 : Int32) (c3 : Int32) (cz : Int32) (h0 : Heap) (n0 : Nat) (Z0 : n0 ≤ h0.size) (A_a : Exa Z h0 a "java/lang/String") (F_value_a : Fld Z h0 a "java/lang/String" "value" "[B" .null) (F_coder_a : Fld Z h0 a "java/lang/String" "coder" "B" (.int 0)) (V_x : Arv Z h0 x kx .char 4 [(.int c0), (.int c1), (.int c2), (.int c3)] (.int 0)) (g_a : n0 ≤ a) (ne_x_a : x ≠ a) (sgC : Sta Z h0 "java/lang/String" "COMPACT_STRINGS" "Z" (.int cz)) (hcz : ¬ (cz = 0)) (hL_c0 : Lat c0) (hL_c1 : Lat c1) (hL_c2 : Lat c2) (hL_c3 : Lat c3) :
  Met l Z mN10 jdk_42_method_149_code 6 none ({ frames := 2, cells := 1, slots := 4, locals := 35 } : Room) ws #[(.ref a), (.ref x), (.int 0), (.int 4), .null] h0 (Q_rs_i4_4 Z a x kx c0 c1 c2 c3 cz h0 n0) := by
 refine own_met (plainFor_of_name own_pn0) ?_
 intro p e s m below meth c s₁ hret hx hby hlk hml hown hnm X0 e0 hZ hh
 have N0 := Fr.nil n0
 refine Gz (castTop (own_ef_rs_i4_4 m a x)) ?_
 have KP : Keep h0 h0 [a] := Keep.refl _ _
 show Goes _ _ _ _ _ (fT s₁ m 0 #[vr a, vr x, vi 0, vi 4, .val .null, vu] [])
 have hn_c0 := own_latN hL_c0
 have hn_c1 := own_latN hL_c1
 have hn_c2 := own_latN hL_c2
 have hn_c3 := own_latN hL_c3
 refine gA X0 hx hby d10_0 rfl rfl rfl ?_
 obtain ⟨T1, X1, e1, st1⟩ := initO X0 hx hZ hown (gw hw 18 rfl) (gw hw 19 rfl) (gw hw 20 rfl) e0 (g := (mkF m 1 #[vr a, vr x, vi 0, vi 4, .val .null, vu] [(.ref a)])) rfl hml.symm rfl (hb hby d10_1) (by decide) (W := 0) (wz rfl) (by decide)
 refine Gs st1 ?_
 show Goes _ _ _ _ _ (fT T1 m 4 #[vr a, vr x, vi 0, vi 4, .val .null, vu] [])
 refine gN X1 hx hby d10_4 rfl rfl ?_
 refine gy X1 hx hby d10_5 5 27 ((if0 _ _).trans (feq (by decide : ¬ ((4 : Int32) = (0 : Int32)))).2) ?_
 obtain ⟨T2, X2, e2, st2⟩ := getS2 X1 hx hZ hown (host := "") (Or.inl (gw hw 21 rfl)) Via.refl e1 sgC (g := (mkF m 27 #[vr a, vr x, vi 0, vi 4, .val .null, vu] [])) rfl (hb hby d10_27)
 refine Gs st2 ?_
 show Goes _ _ _ _ _ (fT T2 m 30 #[vr a, vr x, vi 0, vi 4, .val .null, vu] [(.int cz)])
 refine gu X2 hx hby d10_30 ((if0 _ _).trans (feq hcz).1) ?_
 refine gA X2 hx hby d10_33 rfl rfl rfl ?_
 refine gN X2 hx hby d10_34 rfl rfl ?_
 refine gN X2 hx hby d10_35 rfl rfl ?_
 have ltc3_a : a < h0.size := A_a.lt
 have ltc3_x : x < h0.size := V_x.lt
 refine cSg X2 hx hZ hw hown hby hml e2 mN8 22 23 25 24 0 (rs_c3_4 l Z a0 hw [] x kx c0 c1 c2 c3 h0 n0 Z0 V_x hL_c0 hL_c1 hL_c2 hL_c3) d10_36 (lenOf own_pd6 rfl) (fun _ T3 L3 X3 hQ3 => ?_)
 obtain ⟨y3, ky3, rfl, N3q, K3, V_y3_3', g_y3_3', sz_y3_3'⟩ := hQ3
 have N3 := Fr.app N0 N3q
 replace A_a := A_a.keep K3
 replace F_value_a := F_value_a.keep K3 nin0
 replace F_coder_a := F_coder_a.keep K3 nin0
 replace KP := KP.trans K3 all0
 replace Z0 := Nat.le_trans Z0 K3.1
 have V_y3 := V_y3_3'
 have g_y3 := g_y3_3'
 have szc_y3 := sz_y3_3'
 have ne_a_y3 : a ≠ y3 := Nat.ne_of_lt (Nat.lt_of_lt_of_le ltc3_a szc_y3)
 have ne_x_y3 : x ≠ y3 := Nat.ne_of_lt (Nat.lt_of_lt_of_le ltc3_x szc_y3)
 show Goes _ _ _ _ _ (fT T3 m 39 #[vr a, vr x, vi 0, vi 4, .val .null, vu] [(.ref y3)])
 refine Gz (XS.astore X3.here hx rfl (hb hby d10_39) rfl rfl (l' := #[vr a, vr x, vi 0, vi 4, .val .null, vr y3]) rfl) ?_
 refine gA X3 hx hby d10_41 rfl rfl rfl ?_
 refine Gz (XS.aload X3.here hx rfl (hb hby d10_42) rfl rfl) ?_
 refine gN X3 hx hby d10_44 rfl rfl ?_
 refine cS X3 hx hZ hw hown hby hml rfl mN9 30 31 32 24 1 (rs_cf_4 l Z a0 hw [] y3 ky3 [(.int (lo8 c0)), (.int (lo8 c1)), (.int (lo8 c2)), (.int (lo8 c3))] T3.heap n0 Z0 V_y3) d10_45 (lenOf own_pd7 rfl) N3 (fun T4 L4 X4 e4 N4 => ?_)
 show Goes _ _ _ _ _ (fT T4 m 48 #[vr a, vr x, vi 0, vi 4, .val .null, vr y3] [(.int 0), (.ref a)])
 obtain ⟨T5, h5, X5, e5, W5, st5⟩ := putFN X4 hx hZ hown (gw hw 33 rfl) Via.refl e4 F_coder_a A_a (Or.inr ⟨(gw hw 34 rfl), rfl, hnm⟩) (gw hw 8 rfl) (ty := .byte) (v' := .int 0) (by decide) rfl rfl (g := (mkF m 48 #[vr a, vr x, vi 0, vi 4, .val .null, vr y3] [(.int 0), (.ref a)])) rfl rfl (hb hby d10_48)
 have N5 := Fr.snoc X5 N4 g_a
 replace A_a := A_a.wr W5
 replace F_value_a := F_value_a.other W5 (Or.inr (slot_ne (Or.inr (gw hw 36 rfl)) (Or.inr (gw hw 34 rfl)) (by decide) (t := (.array .byte)) (t' := .byte) (by decide) (by decide)))
 replace V_y3 := V_y3.other W5 (Ne.symm ne_a_y3)
 replace KP := KP.wr W5 (Or.inl (List.mem_of_getElem? (i := 0) rfl))
 replace F_coder_a := F_coder_a.same W5
 replace Z0 : n0 ≤ h5.size := by rw [W5.size]; exact Z0
 refine Gs st5 ?_
 show Goes _ _ _ _ _ (fT T5 m 51 #[vr a, vr x, vi 0, vi 4, .val .null, vr y3] [])
 refine gA X5 hx hby d10_51 rfl rfl rfl ?_
 refine Gz (XS.aload X5.here hx rfl (hb hby d10_52) rfl rfl) ?_
 obtain ⟨T6, h6, X6, e6, W6, st6⟩ := putF X5 hx hZ hown (host := "") (Or.inl (gw hw 35 rfl)) Via.refl e5 F_value_a A_a (Or.inr ⟨(gw hw 36 rfl), rfl, hnm⟩) (gw hw 8 rfl) (ty := (.array .byte)) (by decide) rfl rfl (g := (mkF m 54 #[vr a, vr x, vi 0, vi 4, .val .null, vr y3] [(.ref y3), (.ref a)])) rfl rfl (hb hby d10_54)
 have N6 := Fr.snoc X6 N5 g_a
 replace A_a := A_a.wr W6
 replace F_coder_a := F_coder_a.other W6 (Or.inr (slot_ne (Or.inr (gw hw 34 rfl)) (Or.inr (gw hw 36 rfl)) (by decide) (t := .byte) (t' := (.array .byte)) (by decide) (by decide)))
 replace V_y3 := V_y3.other W6 (Ne.symm ne_a_y3)
 replace KP := KP.wr W6 (Or.inl (List.mem_of_getElem? (i := 0) rfl))
 replace F_value_a := F_value_a.same W6
 replace Z0 : n0 ≤ h6.size := by rw [W6.size]; exact Z0
 refine Gs st6 ?_
 show Goes _ _ _ _ _ (fT T6 m 57 #[vr a, vr x, vi 0, vi 4, .val .null, vr y3] [])
 have T_a : StrOf Z h6 a [c0, c1, c2, c3] := StrOf.latin A_a F_value_a F_coder_a V_y3 (by intro c hc; simp only [List.mem_cons, List.not_mem_nil, or_false] at hc; rcases hc with rfl | rfl | rfl | rfl <;> assumption) rfl rfl (Nat.le_of_ble_eq_true rfl)
 refine Goes.ret X6 none (fun _ => rfl) hlk (by decide) (by decide) ?_ (fun fs hr => ?_)
 ·rw [e6]; exact ⟨rfl, N6, KP, T_a⟩
 ·exact X6.returnOut hx hret (hb hby d10_57) hr
theorem own_ef_rs_i1_4 (m : MethodId) (x0 : Addr) (x1 : Addr) : entryFrame m #[(.ref x0), (.ref x1)] 2 = mkF m 0 #[vr x0, vr x1] [] := by first | (simp [entryFrame, mkF, argsToLocals, Value.category]; done) | rfl
def Q_rs_i1_4 (Z : State) (a : Addr) (x : Addr) (kx : ClassId) (c0 : Int32) (c1 : Int32) (c2 : Int32) (c3 : Int32) (cz : Int32) (h0 : Heap) (n0 : Nat) (v : Option Value) (h : Heap) (L : List Loc) : Prop := v = none ∧ Fr n0 L ∧ Keep h0 h [a] ∧ StrOf Z h a [c0, c1, c2, c3]
theorem rs_i1_4 (l : Launch) (Z : State) (a0 : Array Value) (hw : HW a0 Z) (ws : List Jvm.Cond) (a : Addr) (x : Addr) (kx : ClassId) (c0 : Int32) (c1 : Int32) (c2 : Int32) (c3 : Int32) (cz : Int32) (h0 : Heap) (n0 : Nat) (Z0 : n0 ≤ h0.size) (A_a : Exa Z h0 a "java/lang/String") (F_value_a : Fld Z h0 a "java/lang/String" "value" "[B" .null) (F_coder_a : Fld Z h0 a "java/lang/String" "coder" "B" (.int 0)) (V_x : Arv Z h0 x kx .char 4 [(.int c0), (.int c1), (.int c2), (.int c3)] (.int 0)) (g_a : n0 ≤ a) (ne_x_a : x ≠ a) (sgC : Sta Z h0 "java/lang/String" "COMPACT_STRINGS" "Z" (.int cz)) (hcz : ¬ (cz = 0)) (hL_c0 : Lat c0) (hL_c1 : Lat c1) (hL_c2 : Lat c2) (hL_c3 : Lat c3) :
  Met l Z mN11 jdk_42_method_3_code 2 none ({ frames := 3, cells := 1, slots := 4, locals := 52 } : Room) ws #[(.ref a), (.ref x)] h0 (Q_rs_i1_4 Z a x kx c0 c1 c2 c3 cz h0 n0) := by
 refine own_met (plainFor_of_name own_pn0) ?_
 intro p e s m below meth c s₁ hret hx hby hlk hml hown hnm X0 e0 hZ hh
 have N0 := Fr.nil n0
 refine Gz (castTop (own_ef_rs_i1_4 m a x)) ?_
 have KP : Keep h0 h0 [a] := Keep.refl _ _
 show Goes _ _ _ _ _ (fT s₁ m 0 #[vr a, vr x] [])
 refine gA X0 hx hby d11_0 rfl rfl rfl ?_
 refine gA X0 hx hby d11_1 rfl rfl rfl ?_
 refine gC X0 hx hby d11_2 ?_
 refine gA X0 hx hby d11_3 rfl rfl rfl ?_
 obtain ⟨cl1, Ar1, -, S1, N1z, -, -⟩ := id V_x
 refine Gs (fun _ tk => X0.arraylength hx (by rw [e0]; exact Ar1.1) (State.isArrayOf_alike hZ.alike Ar1.2.1) (g := (mkF m 4 #[vr a, vr x] [(.ref x), (.int 0), (.ref x), (.ref a)])) rfl rfl (hb hby d11_4) _ tk) ?_
 rw [len_of S1 N1z]
 show Goes _ _ _ _ _ (fT s₁ m 5 #[vr a, vr x] [(.int 4), (.int 0), (.ref x), (.ref a)])
 refine Gz (XS.aconstNull X0.here hx rfl (hb hby d11_5)) ?_
 refine cIg X0 hx hZ hw hown hby hml e0 mN10 14 15 17 9 0 (rs_i4_4 l Z a0 hw [] a x kx c0 c1 c2 c3 cz h0 n0 Z0 A_a F_value_a F_coder_a V_x g_a ne_x_a sgC hcz hL_c0 hL_c1 hL_c2 hL_c3) d11_6 (lenOf own_pd8 rfl) (fun _ T2 L2 X2 hQ2 => ?_)
 obtain ⟨rfl, N2q, K2, T_a_2'⟩ := hQ2
 have N2 := Fr.app N0 N2q
 replace KP := KP.trans K2 (allS (Or.inl (List.mem_of_getElem? (i := 0) rfl)) all0)
 replace Z0 := Nat.le_trans Z0 K2.1
 have T_a := T_a_2'
 show Goes _ _ _ _ _ (fT T2 m 9 #[vr a, vr x] [])
 refine Goes.ret X2 none (fun _ => rfl) hlk (by decide) (by decide) ?_ (fun fs hr => ?_)
 ·exact ⟨rfl, N2, KP, T_a⟩
 ·exact X2.returnOut hx hret (hb hby d11_9) hr
theorem own_ef_rs_c5_5 (m : MethodId) (x0 : Addr) (x2 : Addr) : entryFrame m #[(.ref x0), (.int 0), (.ref x2), (.int 0), (.int 5)] 7 = mkF m 0 #[vr x0, vi 0, vr x2, vi 0, vi 5, vu, vu] [] := by first | (simp [entryFrame, mkF, argsToLocals, Value.category]; done) | rfl
def Q_rs_c5_5 (Z : State) (x : Addr) (kx : ClassId) (y : Addr) (ky : ClassId) (c0 : Int32) (c1 : Int32) (c2 : Int32) (c3 : Int32) (c4 : Int32) (h0 : Heap) (n0 : Nat) (v : Option Value) (h : Heap) (L : List Loc) : Prop := v = some (.int 5) ∧ Fr n0 L ∧ Keep h0 h [y] ∧ Arv Z h y ky .byte 5 [(.int (lo8 c0)), (.int (lo8 c1)), (.int (lo8 c2)), (.int (lo8 c3)), (.int (lo8 c4))] (.int 0)
theorem rs_c5_5 (l : Launch) (Z : State) (a0 : Array Value) (hw : HW a0 Z) (ws : List Jvm.Cond) (x : Addr) (kx : ClassId) (y : Addr) (ky : ClassId) (c0 : Int32) (c1 : Int32) (c2 : Int32) (c3 : Int32) (c4 : Int32) (h0 : Heap) (n0 : Nat) (Z0 : n0 ≤ h0.size) (V_x : Arv Z h0 x kx .char 5 [(.int c0), (.int c1), (.int c2), (.int c3), (.int c4)] (.int 0)) (V_y : Arv Z h0 y ky .byte 5 [(.int 0), (.int 0), (.int 0), (.int 0), (.int 0)] (.int 0)) (g_y : n0 ≤ y) (ne_x_y : x ≠ y) (hL_c0 : Lat c0) (hL_c1 : Lat c1) (hL_c2 : Lat c2) (hL_c3 : Lat c3) (hL_c4 : Lat c4) :
  Met l Z mN7 jdk_52_method_21_code 7 (some .int) ({ frames := 0, cells := 0, slots := 0, locals := 0 } : Room) ws #[(.ref x), (.int 0), (.ref y), (.int 0), (.int 5)] h0 (Q_rs_c5_5 Z x kx y ky c0 c1 c2 c3 c4 h0 n0) := by
 refine own_met (plainFor_of_name own_pn3) ?_
 intro p e s m below meth c s₁ hret hx hby hlk hml hown hnm X0 e0 hZ hh
 have N0 := Fr.nil n0
 refine Gz (castTop (own_ef_rs_c5_5 m x y)) ?_
 have KP : Keep h0 h0 [y] := Keep.refl _ _
 show Goes _ _ _ _ _ (fT s₁ m 0 #[vr x, vi 0, vr y, vi 0, vi 5, vu, vu] [])
 have hn_c0 := own_latN hL_c0
 have hn_c1 := own_latN hL_c1
 have hn_c2 := own_latN hL_c2
 have hn_c3 := own_latN hL_c3
 have hn_c4 := own_latN hL_c4
 refine gC X0 hx hby d7_0 ?_
 refine gS X0 hx hby d7_1 #[vr x, vi 0, vr y, vi 0, vi 5, vi 0, vu] ?_
 refine gI X0 hx hby d7_3 rfl rfl ?_
 refine gI X0 hx hby d7_5 rfl rfl ?_
 refine gU X0 hx hby d7_7 (tlt (by decide : ((0 : Int32) < (5 : Int32)))).2.1 ?_
 refine gA X0 hx hby d7_10 rfl rfl rfl ?_
 show Goes _ _ _ _ _ (fT s₁ m 11 #[vr x, vi 0, vr y, vi 0, vi 5, vi 0, vu] [(.ref x)])
 refine gN X0 hx hby d7_11 rfl rfl ?_
 obtain ⟨cl1, Ar1, -, S1, N1z, H1, -⟩ := id V_x
 have hin1 : ¬ ((0 : Int32) < 0 ∨ cl1.slots.size ≤ ((0 : Int32)).toNatClampNeg) := inb_of S1 ⟨by decide, by decide⟩
 have hat1 : cl1.slots[((0 : Int32)).toNatClampNeg]? = some (.int c0) := Has.at H1 hin1 rfl
 refine Gs (fun _ tk => X0.caload hx (j := (0 : Int32)) (v := (.int c0)) (by rw [e0]; exact Ar1.1) (State.isArrayOf_alike hZ.alike Ar1.2.1) Ar1.2.2 hin1 hat1 (g := (mkF m 12 #[vr x, vi 0, vr y, vi 0, vi 5, vi 0, vu] [(.int 0), (.ref x)])) rfl rfl (hb hby d7_12) _ tk) ?_
 show Goes _ _ _ _ _ (fT s₁ m 13 #[vr x, vi 0, vr y, vi 0, vi 5, vi 0, vu] [(.int c0)])
 refine gS X0 hx hby d7_13 #[vr x, vi 0, vr y, vi 0, vi 5, vi 0, vi c0] ?_
 refine gI X0 hx hby d7_15 rfl rfl ?_
 refine Gz (XS.sipush X0.here hx rfl (hb hby d7_17)) ?_
 refine gY X0 hx hby d7_20 20 26 (flt hn_c0).2.2.2 ?_
 refine gA X0 hx hby d7_26 rfl rfl rfl ?_
 refine gN X0 hx hby d7_27 rfl rfl ?_
 show Goes _ _ _ _ _ (fT s₁ m 28 #[vr x, vi 0, vr y, vi 0, vi 5, vi 0, vi c0] [(.int 0), (.ref y)])
 refine gI X0 hx hby d7_28 rfl rfl ?_
 show Goes _ _ _ _ _ (fT s₁ m 30 #[vr x, vi 0, vr y, vi 0, vi 5, vi 0, vi c0] [(.int c0), (.int 0), (.ref y)])
 refine Gz (XS.i2b X0.here hx rfl (hb hby d7_30) rfl) ?_
 show Goes _ _ _ _ _ (fT s₁ m 31 #[vr x, vi 0, vr y, vi 0, vi 5, vi 0, vi c0] [(.int (c0.toInt8.toInt32)), (.int 0), (.ref y)])
 obtain ⟨cl2, Ar2, q2, S2, N2z, H2, G2⟩ := V_y
 have hin2 : ¬ ((0 : Int32) < 0 ∨ cl2.slots.size ≤ ((0 : Int32)).toNatClampNeg) := inb_of S2 ⟨by decide, by decide⟩
 obtain ⟨T2, h2, X2, e2, W2, st2⟩ := stB X0 hx hZ e0 Ar2 (j := (0 : Int32)) hin2 (g := (mkF m 31 #[vr x, vi 0, vr y, vi 0, vi 5, vi 0, vi c0] [(.int (c0.toInt8.toInt32)), (.int 0), (.ref y)])) rfl rfl (hb hby d7_31)
 have Vn2 := Arv.set Ar2 q2 S2 N2z H2 G2 (fits_nar_byte _) W2 0 rfl (Nat.le_of_ble_eq_true rfl)
 have N2 := Fr.snoc X2 N0 g_y
 replace V_x := V_x.other W2 ne_x_y
 replace KP := KP.wr W2 (Or.inl (List.mem_of_getElem? (i := 0) rfl))
 have V_y : Arv Z h2 y ky .byte 5 [(.int (lo8 c0)), (.int 0), (.int 0), (.int 0), (.int 0)] (.int 0) := by have q := Vn2; rw [own_nb2] at q; exact q
 replace Z0 : n0 ≤ h2.size := by rw [W2.size]; exact Z0
 refine Gs st2 ?_
 show Goes _ _ _ _ _ (fT T2 m 32 #[vr x, vi 0, vr y, vi 0, vi 5, vi 0, vi c0] [])
 refine Gz (XS.iinc X2.here hx rfl (hb hby d7_32) rfl (l' := #[vr x, vi ((0 : Int32) + (1 : Int32)), vr y, vi 0, vi 5, vi 0, vi c0]) rfl) ?_
 show Goes _ _ _ _ _ (fT T2 m 35 #[vr x, vi 1, vr y, vi 0, vi 5, vi 0, vi c0] [])
 refine Gz (XS.iinc X2.here hx rfl (hb hby d7_35) rfl (l' := #[vr x, vi 1, vr y, vi ((0 : Int32) + (1 : Int32)), vi 5, vi 0, vi c0]) rfl) ?_
 show Goes _ _ _ _ _ (fT T2 m 38 #[vr x, vi 1, vr y, vi 1, vi 5, vi 0, vi c0] [])
 refine Gz (XS.iinc X2.here hx rfl (hb hby d7_38) rfl (l' := #[vr x, vi 1, vr y, vi 1, vi 5, vi ((0 : Int32) + (1 : Int32)), vi c0]) rfl) ?_
 show Goes _ _ _ _ _ (fT T2 m 41 #[vr x, vi 1, vr y, vi 1, vi 5, vi 1, vi c0] [])
 refine gG X2 hx hby d7_41 41 3 ?_
 refine gI X2 hx hby d7_3 rfl rfl ?_
 refine gI X2 hx hby d7_5 rfl rfl ?_
 refine gU X2 hx hby d7_7 (tlt (by decide : ((1 : Int32) < (5 : Int32)))).2.1 ?_
 refine gA X2 hx hby d7_10 rfl rfl rfl ?_
 refine gN X2 hx hby d7_11 rfl rfl ?_
 show Goes _ _ _ _ _ (fT T2 m 12 #[vr x, vi 1, vr y, vi 1, vi 5, vi 1, vi c0] [(.int 1), (.ref x)])
 obtain ⟨cl3, Ar3, -, S3, N3z, H3, -⟩ := id V_x
 have hin3 : ¬ ((1 : Int32) < 0 ∨ cl3.slots.size ≤ ((1 : Int32)).toNatClampNeg) := inb_of S3 ⟨by decide, by decide⟩
 have hat3 : cl3.slots[((1 : Int32)).toNatClampNeg]? = some (.int c1) := Has.at H3 hin3 rfl
 refine Gs (fun _ tk => X2.caload hx (j := (1 : Int32)) (v := (.int c1)) (by rw [e2]; exact Ar3.1) (State.isArrayOf_alike hZ.alike Ar3.2.1) Ar3.2.2 hin3 hat3 (g := (mkF m 12 #[vr x, vi 1, vr y, vi 1, vi 5, vi 1, vi c0] [(.int 1), (.ref x)])) rfl rfl (hb hby d7_12) _ tk) ?_
 show Goes _ _ _ _ _ (fT T2 m 13 #[vr x, vi 1, vr y, vi 1, vi 5, vi 1, vi c0] [(.int c1)])
 refine gS X2 hx hby d7_13 #[vr x, vi 1, vr y, vi 1, vi 5, vi 1, vi c1] ?_
 refine gI X2 hx hby d7_15 rfl rfl ?_
 refine Gz (XS.sipush X2.here hx rfl (hb hby d7_17)) ?_
 refine gY X2 hx hby d7_20 20 26 (flt hn_c1).2.2.2 ?_
 refine gA X2 hx hby d7_26 rfl rfl rfl ?_
 refine gN X2 hx hby d7_27 rfl rfl ?_
 show Goes _ _ _ _ _ (fT T2 m 28 #[vr x, vi 1, vr y, vi 1, vi 5, vi 1, vi c1] [(.int 1), (.ref y)])
 refine gI X2 hx hby d7_28 rfl rfl ?_
 show Goes _ _ _ _ _ (fT T2 m 30 #[vr x, vi 1, vr y, vi 1, vi 5, vi 1, vi c1] [(.int c1), (.int 1), (.ref y)])
 refine Gz (XS.i2b X2.here hx rfl (hb hby d7_30) rfl) ?_
 show Goes _ _ _ _ _ (fT T2 m 31 #[vr x, vi 1, vr y, vi 1, vi 5, vi 1, vi c1] [(.int (c1.toInt8.toInt32)), (.int 1), (.ref y)])
 obtain ⟨cl4, Ar4, q4, S4, N4z, H4, G4⟩ := V_y
 have hin4 : ¬ ((1 : Int32) < 0 ∨ cl4.slots.size ≤ ((1 : Int32)).toNatClampNeg) := inb_of S4 ⟨by decide, by decide⟩
 obtain ⟨T4, h4, X4, e4, W4, st4⟩ := stB X2 hx hZ e2 Ar4 (j := (1 : Int32)) hin4 (g := (mkF m 31 #[vr x, vi 1, vr y, vi 1, vi 5, vi 1, vi c1] [(.int (c1.toInt8.toInt32)), (.int 1), (.ref y)])) rfl rfl (hb hby d7_31)
 have Vn4 := Arv.set Ar4 q4 S4 N4z H4 G4 (fits_nar_byte _) W4 1 rfl (Nat.le_of_ble_eq_true rfl)
 have N4 := Fr.snoc X4 N2 g_y
 replace V_x := V_x.other W4 ne_x_y
 replace KP := KP.wr W4 (Or.inl (List.mem_of_getElem? (i := 0) rfl))
 have V_y : Arv Z h4 y ky .byte 5 [(.int (lo8 c0)), (.int (lo8 c1)), (.int 0), (.int 0), (.int 0)] (.int 0) := by have q := Vn4; rw [own_nb2] at q; exact q
 replace Z0 : n0 ≤ h4.size := by rw [W4.size]; exact Z0
 refine Gs st4 ?_
 show Goes _ _ _ _ _ (fT T4 m 32 #[vr x, vi 1, vr y, vi 1, vi 5, vi 1, vi c1] [])
 refine Gz (XS.iinc X4.here hx rfl (hb hby d7_32) rfl (l' := #[vr x, vi ((1 : Int32) + (1 : Int32)), vr y, vi 1, vi 5, vi 1, vi c1]) rfl) ?_
 show Goes _ _ _ _ _ (fT T4 m 35 #[vr x, vi 2, vr y, vi 1, vi 5, vi 1, vi c1] [])
 refine Gz (XS.iinc X4.here hx rfl (hb hby d7_35) rfl (l' := #[vr x, vi 2, vr y, vi ((1 : Int32) + (1 : Int32)), vi 5, vi 1, vi c1]) rfl) ?_
 show Goes _ _ _ _ _ (fT T4 m 38 #[vr x, vi 2, vr y, vi 2, vi 5, vi 1, vi c1] [])
 refine Gz (XS.iinc X4.here hx rfl (hb hby d7_38) rfl (l' := #[vr x, vi 2, vr y, vi 2, vi 5, vi ((1 : Int32) + (1 : Int32)), vi c1]) rfl) ?_
 show Goes _ _ _ _ _ (fT T4 m 41 #[vr x, vi 2, vr y, vi 2, vi 5, vi 2, vi c1] [])
 refine gG X4 hx hby d7_41 41 3 ?_
 refine gI X4 hx hby d7_3 rfl rfl ?_
 refine gI X4 hx hby d7_5 rfl rfl ?_
 refine gU X4 hx hby d7_7 (tlt (by decide : ((2 : Int32) < (5 : Int32)))).2.1 ?_
 refine gA X4 hx hby d7_10 rfl rfl rfl ?_
 refine gN X4 hx hby d7_11 rfl rfl ?_
 show Goes _ _ _ _ _ (fT T4 m 12 #[vr x, vi 2, vr y, vi 2, vi 5, vi 2, vi c1] [(.int 2), (.ref x)])
 obtain ⟨cl5, Ar5, -, S5, N5z, H5, -⟩ := id V_x
 have hin5 : ¬ ((2 : Int32) < 0 ∨ cl5.slots.size ≤ ((2 : Int32)).toNatClampNeg) := inb_of S5 ⟨by decide, by decide⟩
 have hat5 : cl5.slots[((2 : Int32)).toNatClampNeg]? = some (.int c2) := Has.at H5 hin5 rfl
 refine Gs (fun _ tk => X4.caload hx (j := (2 : Int32)) (v := (.int c2)) (by rw [e4]; exact Ar5.1) (State.isArrayOf_alike hZ.alike Ar5.2.1) Ar5.2.2 hin5 hat5 (g := (mkF m 12 #[vr x, vi 2, vr y, vi 2, vi 5, vi 2, vi c1] [(.int 2), (.ref x)])) rfl rfl (hb hby d7_12) _ tk) ?_
 show Goes _ _ _ _ _ (fT T4 m 13 #[vr x, vi 2, vr y, vi 2, vi 5, vi 2, vi c1] [(.int c2)])
 refine gS X4 hx hby d7_13 #[vr x, vi 2, vr y, vi 2, vi 5, vi 2, vi c2] ?_
 refine gI X4 hx hby d7_15 rfl rfl ?_
 refine Gz (XS.sipush X4.here hx rfl (hb hby d7_17)) ?_
 refine gY X4 hx hby d7_20 20 26 (flt hn_c2).2.2.2 ?_
 refine gA X4 hx hby d7_26 rfl rfl rfl ?_
 refine gN X4 hx hby d7_27 rfl rfl ?_
 show Goes _ _ _ _ _ (fT T4 m 28 #[vr x, vi 2, vr y, vi 2, vi 5, vi 2, vi c2] [(.int 2), (.ref y)])
 refine gI X4 hx hby d7_28 rfl rfl ?_
 show Goes _ _ _ _ _ (fT T4 m 30 #[vr x, vi 2, vr y, vi 2, vi 5, vi 2, vi c2] [(.int c2), (.int 2), (.ref y)])
 refine Gz (XS.i2b X4.here hx rfl (hb hby d7_30) rfl) ?_
 show Goes _ _ _ _ _ (fT T4 m 31 #[vr x, vi 2, vr y, vi 2, vi 5, vi 2, vi c2] [(.int (c2.toInt8.toInt32)), (.int 2), (.ref y)])
 obtain ⟨cl6, Ar6, q6, S6, N6z, H6, G6⟩ := V_y
 have hin6 : ¬ ((2 : Int32) < 0 ∨ cl6.slots.size ≤ ((2 : Int32)).toNatClampNeg) := inb_of S6 ⟨by decide, by decide⟩
 obtain ⟨T6, h6, X6, e6, W6, st6⟩ := stB X4 hx hZ e4 Ar6 (j := (2 : Int32)) hin6 (g := (mkF m 31 #[vr x, vi 2, vr y, vi 2, vi 5, vi 2, vi c2] [(.int (c2.toInt8.toInt32)), (.int 2), (.ref y)])) rfl rfl (hb hby d7_31)
 have Vn6 := Arv.set Ar6 q6 S6 N6z H6 G6 (fits_nar_byte _) W6 2 rfl (Nat.le_of_ble_eq_true rfl)
 have N6 := Fr.snoc X6 N4 g_y
 replace V_x := V_x.other W6 ne_x_y
 replace KP := KP.wr W6 (Or.inl (List.mem_of_getElem? (i := 0) rfl))
 have V_y : Arv Z h6 y ky .byte 5 [(.int (lo8 c0)), (.int (lo8 c1)), (.int (lo8 c2)), (.int 0), (.int 0)] (.int 0) := by have q := Vn6; rw [own_nb2] at q; exact q
 replace Z0 : n0 ≤ h6.size := by rw [W6.size]; exact Z0
 refine Gs st6 ?_
 show Goes _ _ _ _ _ (fT T6 m 32 #[vr x, vi 2, vr y, vi 2, vi 5, vi 2, vi c2] [])
 refine Gz (XS.iinc X6.here hx rfl (hb hby d7_32) rfl (l' := #[vr x, vi ((2 : Int32) + (1 : Int32)), vr y, vi 2, vi 5, vi 2, vi c2]) rfl) ?_
 show Goes _ _ _ _ _ (fT T6 m 35 #[vr x, vi 3, vr y, vi 2, vi 5, vi 2, vi c2] [])
 refine Gz (XS.iinc X6.here hx rfl (hb hby d7_35) rfl (l' := #[vr x, vi 3, vr y, vi ((2 : Int32) + (1 : Int32)), vi 5, vi 2, vi c2]) rfl) ?_
 show Goes _ _ _ _ _ (fT T6 m 38 #[vr x, vi 3, vr y, vi 3, vi 5, vi 2, vi c2] [])
 refine Gz (XS.iinc X6.here hx rfl (hb hby d7_38) rfl (l' := #[vr x, vi 3, vr y, vi 3, vi 5, vi ((2 : Int32) + (1 : Int32)), vi c2]) rfl) ?_
 show Goes _ _ _ _ _ (fT T6 m 41 #[vr x, vi 3, vr y, vi 3, vi 5, vi 3, vi c2] [])
 refine gG X6 hx hby d7_41 41 3 ?_
 refine gI X6 hx hby d7_3 rfl rfl ?_
 refine gI X6 hx hby d7_5 rfl rfl ?_
 refine gU X6 hx hby d7_7 (tlt (by decide : ((3 : Int32) < (5 : Int32)))).2.1 ?_
 refine gA X6 hx hby d7_10 rfl rfl rfl ?_
 refine gN X6 hx hby d7_11 rfl rfl ?_
 show Goes _ _ _ _ _ (fT T6 m 12 #[vr x, vi 3, vr y, vi 3, vi 5, vi 3, vi c2] [(.int 3), (.ref x)])
 obtain ⟨cl7, Ar7, -, S7, N7z, H7, -⟩ := id V_x
 have hin7 : ¬ ((3 : Int32) < 0 ∨ cl7.slots.size ≤ ((3 : Int32)).toNatClampNeg) := inb_of S7 ⟨by decide, by decide⟩
 have hat7 : cl7.slots[((3 : Int32)).toNatClampNeg]? = some (.int c3) := Has.at H7 hin7 rfl
 refine Gs (fun _ tk => X6.caload hx (j := (3 : Int32)) (v := (.int c3)) (by rw [e6]; exact Ar7.1) (State.isArrayOf_alike hZ.alike Ar7.2.1) Ar7.2.2 hin7 hat7 (g := (mkF m 12 #[vr x, vi 3, vr y, vi 3, vi 5, vi 3, vi c2] [(.int 3), (.ref x)])) rfl rfl (hb hby d7_12) _ tk) ?_
 show Goes _ _ _ _ _ (fT T6 m 13 #[vr x, vi 3, vr y, vi 3, vi 5, vi 3, vi c2] [(.int c3)])
 refine gS X6 hx hby d7_13 #[vr x, vi 3, vr y, vi 3, vi 5, vi 3, vi c3] ?_
 refine gI X6 hx hby d7_15 rfl rfl ?_
 refine Gz (XS.sipush X6.here hx rfl (hb hby d7_17)) ?_
 refine gY X6 hx hby d7_20 20 26 (flt hn_c3).2.2.2 ?_
 refine gA X6 hx hby d7_26 rfl rfl rfl ?_
 refine gN X6 hx hby d7_27 rfl rfl ?_
 show Goes _ _ _ _ _ (fT T6 m 28 #[vr x, vi 3, vr y, vi 3, vi 5, vi 3, vi c3] [(.int 3), (.ref y)])
 refine gI X6 hx hby d7_28 rfl rfl ?_
 show Goes _ _ _ _ _ (fT T6 m 30 #[vr x, vi 3, vr y, vi 3, vi 5, vi 3, vi c3] [(.int c3), (.int 3), (.ref y)])
 refine Gz (XS.i2b X6.here hx rfl (hb hby d7_30) rfl) ?_
 show Goes _ _ _ _ _ (fT T6 m 31 #[vr x, vi 3, vr y, vi 3, vi 5, vi 3, vi c3] [(.int (c3.toInt8.toInt32)), (.int 3), (.ref y)])
 obtain ⟨cl8, Ar8, q8, S8, N8z, H8, G8⟩ := V_y
 have hin8 : ¬ ((3 : Int32) < 0 ∨ cl8.slots.size ≤ ((3 : Int32)).toNatClampNeg) := inb_of S8 ⟨by decide, by decide⟩
 obtain ⟨T8, h8, X8, e8, W8, st8⟩ := stB X6 hx hZ e6 Ar8 (j := (3 : Int32)) hin8 (g := (mkF m 31 #[vr x, vi 3, vr y, vi 3, vi 5, vi 3, vi c3] [(.int (c3.toInt8.toInt32)), (.int 3), (.ref y)])) rfl rfl (hb hby d7_31)
 have Vn8 := Arv.set Ar8 q8 S8 N8z H8 G8 (fits_nar_byte _) W8 3 rfl (Nat.le_of_ble_eq_true rfl)
 have N8 := Fr.snoc X8 N6 g_y
 replace V_x := V_x.other W8 ne_x_y
 replace KP := KP.wr W8 (Or.inl (List.mem_of_getElem? (i := 0) rfl))
 have V_y : Arv Z h8 y ky .byte 5 [(.int (lo8 c0)), (.int (lo8 c1)), (.int (lo8 c2)), (.int (lo8 c3)), (.int 0)] (.int 0) := by have q := Vn8; rw [own_nb2] at q; exact q
 replace Z0 : n0 ≤ h8.size := by rw [W8.size]; exact Z0
 refine Gs st8 ?_
 show Goes _ _ _ _ _ (fT T8 m 32 #[vr x, vi 3, vr y, vi 3, vi 5, vi 3, vi c3] [])
 refine Gz (XS.iinc X8.here hx rfl (hb hby d7_32) rfl (l' := #[vr x, vi ((3 : Int32) + (1 : Int32)), vr y, vi 3, vi 5, vi 3, vi c3]) rfl) ?_
 show Goes _ _ _ _ _ (fT T8 m 35 #[vr x, vi 4, vr y, vi 3, vi 5, vi 3, vi c3] [])
 refine Gz (XS.iinc X8.here hx rfl (hb hby d7_35) rfl (l' := #[vr x, vi 4, vr y, vi ((3 : Int32) + (1 : Int32)), vi 5, vi 3, vi c3]) rfl) ?_
 show Goes _ _ _ _ _ (fT T8 m 38 #[vr x, vi 4, vr y, vi 4, vi 5, vi 3, vi c3] [])
 refine Gz (XS.iinc X8.here hx rfl (hb hby d7_38) rfl (l' := #[vr x, vi 4, vr y, vi 4, vi 5, vi ((3 : Int32) + (1 : Int32)), vi c3]) rfl) ?_
 show Goes _ _ _ _ _ (fT T8 m 41 #[vr x, vi 4, vr y, vi 4, vi 5, vi 4, vi c3] [])
 refine gG X8 hx hby d7_41 41 3 ?_
 refine gI X8 hx hby d7_3 rfl rfl ?_
 refine gI X8 hx hby d7_5 rfl rfl ?_
 refine gU X8 hx hby d7_7 (tlt (by decide : ((4 : Int32) < (5 : Int32)))).2.1 ?_
 refine gA X8 hx hby d7_10 rfl rfl rfl ?_
 refine gN X8 hx hby d7_11 rfl rfl ?_
 show Goes _ _ _ _ _ (fT T8 m 12 #[vr x, vi 4, vr y, vi 4, vi 5, vi 4, vi c3] [(.int 4), (.ref x)])
 obtain ⟨cl9, Ar9, -, S9, N9z, H9, -⟩ := id V_x
 have hin9 : ¬ ((4 : Int32) < 0 ∨ cl9.slots.size ≤ ((4 : Int32)).toNatClampNeg) := inb_of S9 ⟨by decide, by decide⟩
 have hat9 : cl9.slots[((4 : Int32)).toNatClampNeg]? = some (.int c4) := Has.at H9 hin9 rfl
 refine Gs (fun _ tk => X8.caload hx (j := (4 : Int32)) (v := (.int c4)) (by rw [e8]; exact Ar9.1) (State.isArrayOf_alike hZ.alike Ar9.2.1) Ar9.2.2 hin9 hat9 (g := (mkF m 12 #[vr x, vi 4, vr y, vi 4, vi 5, vi 4, vi c3] [(.int 4), (.ref x)])) rfl rfl (hb hby d7_12) _ tk) ?_
 show Goes _ _ _ _ _ (fT T8 m 13 #[vr x, vi 4, vr y, vi 4, vi 5, vi 4, vi c3] [(.int c4)])
 refine gS X8 hx hby d7_13 #[vr x, vi 4, vr y, vi 4, vi 5, vi 4, vi c4] ?_
 refine gI X8 hx hby d7_15 rfl rfl ?_
 refine Gz (XS.sipush X8.here hx rfl (hb hby d7_17)) ?_
 refine gY X8 hx hby d7_20 20 26 (flt hn_c4).2.2.2 ?_
 refine gA X8 hx hby d7_26 rfl rfl rfl ?_
 refine gN X8 hx hby d7_27 rfl rfl ?_
 show Goes _ _ _ _ _ (fT T8 m 28 #[vr x, vi 4, vr y, vi 4, vi 5, vi 4, vi c4] [(.int 4), (.ref y)])
 refine gI X8 hx hby d7_28 rfl rfl ?_
 show Goes _ _ _ _ _ (fT T8 m 30 #[vr x, vi 4, vr y, vi 4, vi 5, vi 4, vi c4] [(.int c4), (.int 4), (.ref y)])
 refine Gz (XS.i2b X8.here hx rfl (hb hby d7_30) rfl) ?_
 show Goes _ _ _ _ _ (fT T8 m 31 #[vr x, vi 4, vr y, vi 4, vi 5, vi 4, vi c4] [(.int (c4.toInt8.toInt32)), (.int 4), (.ref y)])
 obtain ⟨cl10, Ar10, q10, S10, N10z, H10, G10⟩ := V_y
 have hin10 : ¬ ((4 : Int32) < 0 ∨ cl10.slots.size ≤ ((4 : Int32)).toNatClampNeg) := inb_of S10 ⟨by decide, by decide⟩
 obtain ⟨T10, h10, X10, e10, W10, st10⟩ := stB X8 hx hZ e8 Ar10 (j := (4 : Int32)) hin10 (g := (mkF m 31 #[vr x, vi 4, vr y, vi 4, vi 5, vi 4, vi c4] [(.int (c4.toInt8.toInt32)), (.int 4), (.ref y)])) rfl rfl (hb hby d7_31)
 have Vn10 := Arv.set Ar10 q10 S10 N10z H10 G10 (fits_nar_byte _) W10 4 rfl (Nat.le_of_ble_eq_true rfl)
 have N10 := Fr.snoc X10 N8 g_y
 replace KP := KP.wr W10 (Or.inl (List.mem_of_getElem? (i := 0) rfl))
 have V_y : Arv Z h10 y ky .byte 5 [(.int (lo8 c0)), (.int (lo8 c1)), (.int (lo8 c2)), (.int (lo8 c3)), (.int (lo8 c4))] (.int 0) := by have q := Vn10; rw [own_nb2] at q; exact q
 replace Z0 : n0 ≤ h10.size := by rw [W10.size]; exact Z0
 refine Gs st10 ?_
 show Goes _ _ _ _ _ (fT T10 m 32 #[vr x, vi 4, vr y, vi 4, vi 5, vi 4, vi c4] [])
 refine Gz (XS.iinc X10.here hx rfl (hb hby d7_32) rfl (l' := #[vr x, vi ((4 : Int32) + (1 : Int32)), vr y, vi 4, vi 5, vi 4, vi c4]) rfl) ?_
 show Goes _ _ _ _ _ (fT T10 m 35 #[vr x, vi 5, vr y, vi 4, vi 5, vi 4, vi c4] [])
 refine Gz (XS.iinc X10.here hx rfl (hb hby d7_35) rfl (l' := #[vr x, vi 5, vr y, vi ((4 : Int32) + (1 : Int32)), vi 5, vi 4, vi c4]) rfl) ?_
 show Goes _ _ _ _ _ (fT T10 m 38 #[vr x, vi 5, vr y, vi 5, vi 5, vi 4, vi c4] [])
 refine Gz (XS.iinc X10.here hx rfl (hb hby d7_38) rfl (l' := #[vr x, vi 5, vr y, vi 5, vi 5, vi ((4 : Int32) + (1 : Int32)), vi c4]) rfl) ?_
 show Goes _ _ _ _ _ (fT T10 m 41 #[vr x, vi 5, vr y, vi 5, vi 5, vi 5, vi c4] [])
 refine gG X10 hx hby d7_41 41 3 ?_
 refine gI X10 hx hby d7_3 rfl rfl ?_
 refine gI X10 hx hby d7_5 rfl rfl ?_
 refine gY X10 hx hby d7_7 7 44 (flt (by decide : ¬ ((5 : Int32) < (5 : Int32)))).2.1 ?_
 refine gI X10 hx hby d7_44 rfl rfl ?_
 refine Goes.ret X10 (some (.int 5)) (fun h => by rw [hret] at h; cases h) hlk (by decide) (by decide) ?_ (fun fs hr => ?_)
 ·rw [e10]; exact ⟨rfl, N10, KP, V_y⟩
 ·exact retI X10 hx hret (hb hby d7_46) hr
theorem own_ef_rs_c3_5 (m : MethodId) (x0 : Addr) : entryFrame m #[(.ref x0), (.int 0), (.int 5)] 6 = mkF m 0 #[vr x0, vi 0, vi 5, vu, vu, vu] [] := by first | (simp [entryFrame, mkF, argsToLocals, Value.category]; done) | rfl
def Q_rs_c3_5 (Z : State) (x : Addr) (kx : ClassId) (c0 : Int32) (c1 : Int32) (c2 : Int32) (c3 : Int32) (c4 : Int32) (h0 : Heap) (n0 : Nat) (v : Option Value) (h : Heap) (L : List Loc) : Prop := ∃ y : Addr, ∃ ky : ClassId, v = some (.ref y) ∧ Fr n0 L ∧ Keep h0 h [] ∧ Arv Z h y ky .byte 5 [(.int (lo8 c0)), (.int (lo8 c1)), (.int (lo8 c2)), (.int (lo8 c3)), (.int (lo8 c4))] (.int 0) ∧ n0 ≤ y ∧ h0.size ≤ y
theorem rs_c3_5 (l : Launch) (Z : State) (a0 : Array Value) (hw : HW a0 Z) (ws : List Jvm.Cond) (x : Addr) (kx : ClassId) (c0 : Int32) (c1 : Int32) (c2 : Int32) (c3 : Int32) (c4 : Int32) (h0 : Heap) (n0 : Nat) (Z0 : n0 ≤ h0.size) (V_x : Arv Z h0 x kx .char 5 [(.int c0), (.int c1), (.int c2), (.int c3), (.int c4)] (.int 0)) (hL_c0 : Lat c0) (hL_c1 : Lat c1) (hL_c2 : Lat c2) (hL_c3 : Lat c3) (hL_c4 : Lat c4) :
  Met l Z mN8 jdk_52_method_16_code 6 (some (.array .byte)) ({ frames := 1, cells := 1, slots := 5, locals := 18 } : Room) ws #[(.ref x), (.int 0), (.int 5)] h0 (Q_rs_c3_5 Z x kx c0 c1 c2 c3 c4 h0 n0) := by
 refine own_met (plainFor_of_name own_pn3) ?_
 intro p e s m below meth c s₁ hret hx hby hlk hml hown hnm X0 e0 hZ hh
 have N0 := Fr.nil n0
 refine Gz (castTop (own_ef_rs_c3_5 m x)) ?_
 have KP : Keep h0 h0 [] := Keep.refl _ _
 show Goes _ _ _ _ _ (fT s₁ m 0 #[vr x, vi 0, vi 5, vu, vu, vu] [])
 refine gN X0 hx hby d8_0 rfl rfl ?_
 obtain ⟨T1, h1, k1, X1, e1, E1, A1, st1⟩ := newP X0 hx hZ (gw hw 26 rfl) e0 (g := (mkF m 1 #[vr x, vi 0, vi 5, vu, vu, vu] [(.int 5)])) rfl (hb hby d8_1) rfl (by decide) (cap := 5) (by decide) (by decide) (by decide) (by decide)
 obtain ⟨b1, gq1⟩ : ∃ z, z = h0.size := ⟨_, rfl⟩
 rw [← gq1] at A1 st1
 have g_b1 : n0 ≤ b1 := by rw [gq1]; exact Z0
 have sz_b1 : h0.size ≤ b1 := by rw [gq1]; exact KP.1
 have ne_x_b1 : x ≠ b1 := by rw [gq1]; exact Nat.ne_of_lt V_x.lt
 replace V_x := V_x.ext E1
 replace KP := KP.ext E1
 replace Z0 : n0 ≤ h1.size := Nat.le_trans Z0 E1.1
 have V_b1 : Arv Z h1 b1 k1 .byte 5 [(.int 0), (.int 0), (.int 0), (.int 0), (.int 0)] (.int 0) := (Arv.new A1 (by decide)).pad (pad_rep [] (.int 0) 5)
 refine Gs st1 ?_
 show Goes _ _ _ _ _ (fT T1 m 3 #[vr x, vi 0, vi 5, vu, vu, vu] [(.ref b1)])
 refine Gz (XS.astoreN X1.here hx rfl (hb hby d8_3) rfl rfl (l' := #[vr x, vi 0, vi 5, vr b1, vu, vu]) rfl) ?_
 refine gA X1 hx hby d8_4 rfl rfl rfl ?_
 refine gN X1 hx hby d8_5 rfl rfl ?_
 refine gA X1 hx hby d8_6 rfl rfl rfl ?_
 refine gC X1 hx hby d8_7 ?_
 refine gN X1 hx hby d8_8 rfl rfl ?_
 show Goes _ _ _ _ _ (fT T1 m 9 #[vr x, vi 0, vi 5, vr b1, vu, vu] [(.int 5), (.int 0), (.ref b1), (.int 0), (.ref x)])
 refine cSg X1 hx hZ hw hown hby hml e1 mN7 27 28 29 24 0 (rs_c5_5 l Z a0 hw [] x kx b1 k1 c0 c1 c2 c3 c4 h1 n0 Z0 V_x V_b1 g_b1 ne_x_b1 hL_c0 hL_c1 hL_c2 hL_c3 hL_c4) d8_9 (lenOf own_pd5 rfl) (fun _ T2 L2 X2 hQ2 => ?_)
 obtain ⟨rfl, N2q, K2, V_b1_2'⟩ := hQ2
 have N2 := Fr.app N0 N2q
 replace KP := KP.trans K2 (allS (Or.inr sz_b1) all0)
 replace Z0 := Nat.le_trans Z0 K2.1
 have V_b1 := V_b1_2'
 show Goes _ _ _ _ _ (fT T2 m 12 #[vr x, vi 0, vi 5, vr b1, vu, vu] [(.int 5)])
 refine gS X2 hx hby d8_12 #[vr x, vi 0, vi 5, vr b1, vi 5, vu] ?_
 refine gI X2 hx hby d8_14 rfl rfl ?_
 refine gN X2 hx hby d8_16 rfl rfl ?_
 refine gY X2 hx hby d8_17 17 57 (teq (by decide : ((5 : Int32) = (5 : Int32)))).1 ?_
 refine gA X2 hx hby d8_57 rfl rfl rfl ?_
 refine Goes.ret X2 (some (.ref b1)) (fun h => by rw [hret] at h; cases h) hlk (by decide) (by decide) ?_ (fun fs hr => ?_)
 ·exact ⟨b1, k1, rfl, N2, KP, V_b1, g_b1, sz_b1⟩
 ·exact own_retA X2 hx hret rfl rfl (hb hby d8_58) hr
theorem own_ef_rs_cf_5 (m : MethodId) (x0 : Addr) : entryFrame m #[(.ref x0), (.int 5)] 2 = mkF m 0 #[vr x0, vi 5] [] := by first | (simp [entryFrame, mkF, argsToLocals, Value.category]; done) | rfl
def Q_rs_cf_5 (Z : State) (y : Addr) (ky : ClassId) (vs : List Value) (h0 : Heap) (n0 : Nat) (v : Option Value) (h : Heap) (L : List Loc) : Prop := v = some (.int 0) ∧ Fr n0 L ∧ h = h0
theorem rs_cf_5 (l : Launch) (Z : State) (a0 : Array Value) (hw : HW a0 Z) (ws : List Jvm.Cond) (y : Addr) (ky : ClassId) (vs : List Value) (h0 : Heap) (n0 : Nat) (Z0 : n0 ≤ h0.size) (V_y : Arv Z h0 y ky .byte 5 vs (.int 0)) :
  Met l Z mN9 jdk_52_method_15_code 2 (some .byte) ({ frames := 0, cells := 0, slots := 0, locals := 0 } : Room) ws #[(.ref y), (.int 5)] h0 (Q_rs_cf_5 Z y ky vs h0 n0) := by
 refine own_met (plainFor_of_name own_pn3) ?_
 intro p e s m below meth c s₁ hret hx hby hlk hml hown hnm X0 e0 hZ hh
 have N0 := Fr.nil n0
 refine Gz (castTop (own_ef_rs_cf_5 m y)) ?_
 show Goes _ _ _ _ _ (fT s₁ m 0 #[vr y, vi 5] [])
 refine gN X0 hx hby d9_0 rfl rfl ?_
 refine gA X0 hx hby d9_1 rfl rfl rfl ?_
 obtain ⟨cl1, Ar1, -, S1, N1z, -, -⟩ := id V_y
 refine Gs (fun _ tk => X0.arraylength hx (by rw [e0]; exact Ar1.1) (State.isArrayOf_alike hZ.alike Ar1.2.1) (g := (mkF m 2 #[vr y, vi 5] [(.ref y), (.int 5)])) rfl rfl (hb hby d9_2) _ tk) ?_
 rw [len_of S1 N1z]
 show Goes _ _ _ _ _ (fT s₁ m 3 #[vr y, vi 5] [(.int 5), (.int 5)])
 refine Gz (XS.isub X0.here hx rfl (hb hby d9_3) rfl) ?_
 show Goes _ _ _ _ _ (fT s₁ m 4 #[vr y, vi 5] [(.int 0)])
 refine gB X0 hx hby d9_4 ?_
 show Goes _ _ _ _ _ (fT s₁ m 6 #[vr y, vi 5] [(.int 31), (.int 0)])
 refine Gz (XS.iushr X0.here hx rfl (hb hby d9_6) rfl) ?_
 rw [show (((0 : Int32).toUInt32 >>> ((31 : Int32) &&& 31).toUInt32).toInt32) = (0 : Int32) from by decide]
 show Goes _ _ _ _ _ (fT s₁ m 7 #[vr y, vi 5] [(.int 0)])
 refine Gz (XS.i2b X0.here hx rfl (hb hby d9_7) rfl) ?_
 rw [show ((0 : Int32).toInt8.toInt32) = (0 : Int32) from by decide]
 show Goes _ _ _ _ _ (fT s₁ m 8 #[vr y, vi 5] [(.int 0)])
 refine Goes.ret X0 (some (.int 0)) (fun h => by rw [hret] at h; cases h) hlk (by decide) (by decide) ?_ (fun fs hr => ?_)
 ·exact ⟨rfl, N0, e0⟩
 ·exact own_retN X0 hx (t := .byte) hret (by simp) rfl (hb hby d9_8) hr
theorem own_ef_rs_i4_5 (m : MethodId) (x0 : Addr) (x1 : Addr) : entryFrame m #[(.ref x0), (.ref x1), (.int 0), (.int 5), .null] 6 = mkF m 0 #[vr x0, vr x1, vi 0, vi 5, .val .null, vu] [] := by first | (simp [entryFrame, mkF, argsToLocals, Value.category]; done) | rfl
def Q_rs_i4_5 (Z : State) (a : Addr) (x : Addr) (kx : ClassId) (c0 : Int32) (c1 : Int32) (c2 : Int32) (c3 : Int32) (c4 : Int32) (cz : Int32) (h0 : Heap) (n0 : Nat) (v : Option Value) (h : Heap) (L : List Loc) : Prop := v = none ∧ Fr n0 L ∧ Keep h0 h [a] ∧ StrOf Z h a [c0, c1, c2, c3, c4]
theorem rs_i4_5 (l : Launch) (Z : State) (a0 : Array Value) (hw : HW a0 Z) (ws : List Jvm.Cond) (a : Addr) (x : Addr) (kx : ClassId) (c0 : Int32) (c1 : Int32) (c2 : Int32) (c3 : Int32) (c4 : Int32) (cz : Int32) (h0 : Heap) (n0 : Nat) (Z0 : n0 ≤ h0.size) (A_a : Exa Z h0 a "java/lang/String") (F_value_a : Fld Z h0 a "java/lang/String" "value" "[B" .null) (F_coder_a : Fld Z h0 a "java/lang/String" "coder" "B" (.int 0)) (V_x : Arv Z h0 x kx .char 5 [(.int c0), (.int c1), (.int c2), (.int c3), (.int c4)] (.int 0)) (g_a : n0 ≤ a) (ne_x_a : x ≠ a) (sgC : Sta Z h0 "java/lang/String" "COMPACT_STRINGS" "Z" (.int cz)) (hcz : ¬ (cz = 0)) (hL_c0 : Lat c0) (hL_c1 : Lat c1) (hL_c2 : Lat c2) (hL_c3 : Lat c3) (hL_c4 : Lat c4) :
  Met l Z mN10 jdk_42_method_149_code 6 none ({ frames := 2, cells := 1, slots := 5, locals := 35 } : Room) ws #[(.ref a), (.ref x), (.int 0), (.int 5), .null] h0 (Q_rs_i4_5 Z a x kx c0 c1 c2 c3 c4 cz h0 n0) := by
 refine own_met (plainFor_of_name own_pn0) ?_
 intro p e s m below meth c s₁ hret hx hby hlk hml hown hnm X0 e0 hZ hh
 have N0 := Fr.nil n0
 refine Gz (castTop (own_ef_rs_i4_5 m a x)) ?_
 have KP : Keep h0 h0 [a] := Keep.refl _ _
 show Goes _ _ _ _ _ (fT s₁ m 0 #[vr a, vr x, vi 0, vi 5, .val .null, vu] [])
 have hn_c0 := own_latN hL_c0
 have hn_c1 := own_latN hL_c1
 have hn_c2 := own_latN hL_c2
 have hn_c3 := own_latN hL_c3
 have hn_c4 := own_latN hL_c4
 refine gA X0 hx hby d10_0 rfl rfl rfl ?_
 obtain ⟨T1, X1, e1, st1⟩ := initO X0 hx hZ hown (gw hw 18 rfl) (gw hw 19 rfl) (gw hw 20 rfl) e0 (g := (mkF m 1 #[vr a, vr x, vi 0, vi 5, .val .null, vu] [(.ref a)])) rfl hml.symm rfl (hb hby d10_1) (by decide) (W := 0) (wz rfl) (by decide)
 refine Gs st1 ?_
 show Goes _ _ _ _ _ (fT T1 m 4 #[vr a, vr x, vi 0, vi 5, .val .null, vu] [])
 refine gN X1 hx hby d10_4 rfl rfl ?_
 refine gy X1 hx hby d10_5 5 27 ((if0 _ _).trans (feq (by decide : ¬ ((5 : Int32) = (0 : Int32)))).2) ?_
 obtain ⟨T2, X2, e2, st2⟩ := getS2 X1 hx hZ hown (host := "") (Or.inl (gw hw 21 rfl)) Via.refl e1 sgC (g := (mkF m 27 #[vr a, vr x, vi 0, vi 5, .val .null, vu] [])) rfl (hb hby d10_27)
 refine Gs st2 ?_
 show Goes _ _ _ _ _ (fT T2 m 30 #[vr a, vr x, vi 0, vi 5, .val .null, vu] [(.int cz)])
 refine gu X2 hx hby d10_30 ((if0 _ _).trans (feq hcz).1) ?_
 refine gA X2 hx hby d10_33 rfl rfl rfl ?_
 refine gN X2 hx hby d10_34 rfl rfl ?_
 refine gN X2 hx hby d10_35 rfl rfl ?_
 have ltc3_a : a < h0.size := A_a.lt
 have ltc3_x : x < h0.size := V_x.lt
 refine cSg X2 hx hZ hw hown hby hml e2 mN8 22 23 25 24 0 (rs_c3_5 l Z a0 hw [] x kx c0 c1 c2 c3 c4 h0 n0 Z0 V_x hL_c0 hL_c1 hL_c2 hL_c3 hL_c4) d10_36 (lenOf own_pd6 rfl) (fun _ T3 L3 X3 hQ3 => ?_)
 obtain ⟨y3, ky3, rfl, N3q, K3, V_y3_3', g_y3_3', sz_y3_3'⟩ := hQ3
 have N3 := Fr.app N0 N3q
 replace A_a := A_a.keep K3
 replace F_value_a := F_value_a.keep K3 nin0
 replace F_coder_a := F_coder_a.keep K3 nin0
 replace KP := KP.trans K3 all0
 replace Z0 := Nat.le_trans Z0 K3.1
 have V_y3 := V_y3_3'
 have g_y3 := g_y3_3'
 have szc_y3 := sz_y3_3'
 have ne_a_y3 : a ≠ y3 := Nat.ne_of_lt (Nat.lt_of_lt_of_le ltc3_a szc_y3)
 have ne_x_y3 : x ≠ y3 := Nat.ne_of_lt (Nat.lt_of_lt_of_le ltc3_x szc_y3)
 show Goes _ _ _ _ _ (fT T3 m 39 #[vr a, vr x, vi 0, vi 5, .val .null, vu] [(.ref y3)])
 refine Gz (XS.astore X3.here hx rfl (hb hby d10_39) rfl rfl (l' := #[vr a, vr x, vi 0, vi 5, .val .null, vr y3]) rfl) ?_
 refine gA X3 hx hby d10_41 rfl rfl rfl ?_
 refine Gz (XS.aload X3.here hx rfl (hb hby d10_42) rfl rfl) ?_
 refine gN X3 hx hby d10_44 rfl rfl ?_
 refine cS X3 hx hZ hw hown hby hml rfl mN9 30 31 32 24 1 (rs_cf_5 l Z a0 hw [] y3 ky3 [(.int (lo8 c0)), (.int (lo8 c1)), (.int (lo8 c2)), (.int (lo8 c3)), (.int (lo8 c4))] T3.heap n0 Z0 V_y3) d10_45 (lenOf own_pd7 rfl) N3 (fun T4 L4 X4 e4 N4 => ?_)
 show Goes _ _ _ _ _ (fT T4 m 48 #[vr a, vr x, vi 0, vi 5, .val .null, vr y3] [(.int 0), (.ref a)])
 obtain ⟨T5, h5, X5, e5, W5, st5⟩ := putFN X4 hx hZ hown (gw hw 33 rfl) Via.refl e4 F_coder_a A_a (Or.inr ⟨(gw hw 34 rfl), rfl, hnm⟩) (gw hw 8 rfl) (ty := .byte) (v' := .int 0) (by decide) rfl rfl (g := (mkF m 48 #[vr a, vr x, vi 0, vi 5, .val .null, vr y3] [(.int 0), (.ref a)])) rfl rfl (hb hby d10_48)
 have N5 := Fr.snoc X5 N4 g_a
 replace A_a := A_a.wr W5
 replace F_value_a := F_value_a.other W5 (Or.inr (slot_ne (Or.inr (gw hw 36 rfl)) (Or.inr (gw hw 34 rfl)) (by decide) (t := (.array .byte)) (t' := .byte) (by decide) (by decide)))
 replace V_y3 := V_y3.other W5 (Ne.symm ne_a_y3)
 replace KP := KP.wr W5 (Or.inl (List.mem_of_getElem? (i := 0) rfl))
 replace F_coder_a := F_coder_a.same W5
 replace Z0 : n0 ≤ h5.size := by rw [W5.size]; exact Z0
 refine Gs st5 ?_
 show Goes _ _ _ _ _ (fT T5 m 51 #[vr a, vr x, vi 0, vi 5, .val .null, vr y3] [])
 refine gA X5 hx hby d10_51 rfl rfl rfl ?_
 refine Gz (XS.aload X5.here hx rfl (hb hby d10_52) rfl rfl) ?_
 obtain ⟨T6, h6, X6, e6, W6, st6⟩ := putF X5 hx hZ hown (host := "") (Or.inl (gw hw 35 rfl)) Via.refl e5 F_value_a A_a (Or.inr ⟨(gw hw 36 rfl), rfl, hnm⟩) (gw hw 8 rfl) (ty := (.array .byte)) (by decide) rfl rfl (g := (mkF m 54 #[vr a, vr x, vi 0, vi 5, .val .null, vr y3] [(.ref y3), (.ref a)])) rfl rfl (hb hby d10_54)
 have N6 := Fr.snoc X6 N5 g_a
 replace A_a := A_a.wr W6
 replace F_coder_a := F_coder_a.other W6 (Or.inr (slot_ne (Or.inr (gw hw 34 rfl)) (Or.inr (gw hw 36 rfl)) (by decide) (t := .byte) (t' := (.array .byte)) (by decide) (by decide)))
 replace V_y3 := V_y3.other W6 (Ne.symm ne_a_y3)
 replace KP := KP.wr W6 (Or.inl (List.mem_of_getElem? (i := 0) rfl))
 replace F_value_a := F_value_a.same W6
 replace Z0 : n0 ≤ h6.size := by rw [W6.size]; exact Z0
 refine Gs st6 ?_
 show Goes _ _ _ _ _ (fT T6 m 57 #[vr a, vr x, vi 0, vi 5, .val .null, vr y3] [])
 have T_a : StrOf Z h6 a [c0, c1, c2, c3, c4] := StrOf.latin A_a F_value_a F_coder_a V_y3 (by intro c hc; simp only [List.mem_cons, List.not_mem_nil, or_false] at hc; rcases hc with rfl | rfl | rfl | rfl | rfl <;> assumption) rfl rfl (Nat.le_of_ble_eq_true rfl)
 refine Goes.ret X6 none (fun _ => rfl) hlk (by decide) (by decide) ?_ (fun fs hr => ?_)
 ·rw [e6]; exact ⟨rfl, N6, KP, T_a⟩
 ·exact X6.returnOut hx hret (hb hby d10_57) hr
theorem own_ef_rs_i1_5 (m : MethodId) (x0 : Addr) (x1 : Addr) : entryFrame m #[(.ref x0), (.ref x1)] 2 = mkF m 0 #[vr x0, vr x1] [] := by first | (simp [entryFrame, mkF, argsToLocals, Value.category]; done) | rfl
def Q_rs_i1_5 (Z : State) (a : Addr) (x : Addr) (kx : ClassId) (c0 : Int32) (c1 : Int32) (c2 : Int32) (c3 : Int32) (c4 : Int32) (cz : Int32) (h0 : Heap) (n0 : Nat) (v : Option Value) (h : Heap) (L : List Loc) : Prop := v = none ∧ Fr n0 L ∧ Keep h0 h [a] ∧ StrOf Z h a [c0, c1, c2, c3, c4]
theorem rs_i1_5 (l : Launch) (Z : State) (a0 : Array Value) (hw : HW a0 Z) (ws : List Jvm.Cond) (a : Addr) (x : Addr) (kx : ClassId) (c0 : Int32) (c1 : Int32) (c2 : Int32) (c3 : Int32) (c4 : Int32) (cz : Int32) (h0 : Heap) (n0 : Nat) (Z0 : n0 ≤ h0.size) (A_a : Exa Z h0 a "java/lang/String") (F_value_a : Fld Z h0 a "java/lang/String" "value" "[B" .null) (F_coder_a : Fld Z h0 a "java/lang/String" "coder" "B" (.int 0)) (V_x : Arv Z h0 x kx .char 5 [(.int c0), (.int c1), (.int c2), (.int c3), (.int c4)] (.int 0)) (g_a : n0 ≤ a) (ne_x_a : x ≠ a) (sgC : Sta Z h0 "java/lang/String" "COMPACT_STRINGS" "Z" (.int cz)) (hcz : ¬ (cz = 0)) (hL_c0 : Lat c0) (hL_c1 : Lat c1) (hL_c2 : Lat c2) (hL_c3 : Lat c3) (hL_c4 : Lat c4) :
  Met l Z mN11 jdk_42_method_3_code 2 none ({ frames := 3, cells := 1, slots := 5, locals := 52 } : Room) ws #[(.ref a), (.ref x)] h0 (Q_rs_i1_5 Z a x kx c0 c1 c2 c3 c4 cz h0 n0) := by
 refine own_met (plainFor_of_name own_pn0) ?_
 intro p e s m below meth c s₁ hret hx hby hlk hml hown hnm X0 e0 hZ hh
 have N0 := Fr.nil n0
 refine Gz (castTop (own_ef_rs_i1_5 m a x)) ?_
 have KP : Keep h0 h0 [a] := Keep.refl _ _
 show Goes _ _ _ _ _ (fT s₁ m 0 #[vr a, vr x] [])
 refine gA X0 hx hby d11_0 rfl rfl rfl ?_
 refine gA X0 hx hby d11_1 rfl rfl rfl ?_
 refine gC X0 hx hby d11_2 ?_
 refine gA X0 hx hby d11_3 rfl rfl rfl ?_
 obtain ⟨cl1, Ar1, -, S1, N1z, -, -⟩ := id V_x
 refine Gs (fun _ tk => X0.arraylength hx (by rw [e0]; exact Ar1.1) (State.isArrayOf_alike hZ.alike Ar1.2.1) (g := (mkF m 4 #[vr a, vr x] [(.ref x), (.int 0), (.ref x), (.ref a)])) rfl rfl (hb hby d11_4) _ tk) ?_
 rw [len_of S1 N1z]
 show Goes _ _ _ _ _ (fT s₁ m 5 #[vr a, vr x] [(.int 5), (.int 0), (.ref x), (.ref a)])
 refine Gz (XS.aconstNull X0.here hx rfl (hb hby d11_5)) ?_
 refine cIg X0 hx hZ hw hown hby hml e0 mN10 14 15 17 9 0 (rs_i4_5 l Z a0 hw [] a x kx c0 c1 c2 c3 c4 cz h0 n0 Z0 A_a F_value_a F_coder_a V_x g_a ne_x_a sgC hcz hL_c0 hL_c1 hL_c2 hL_c3 hL_c4) d11_6 (lenOf own_pd8 rfl) (fun _ T2 L2 X2 hQ2 => ?_)
 obtain ⟨rfl, N2q, K2, T_a_2'⟩ := hQ2
 have N2 := Fr.app N0 N2q
 replace KP := KP.trans K2 (allS (Or.inl (List.mem_of_getElem? (i := 0) rfl)) all0)
 replace Z0 := Nat.le_trans Z0 K2.1
 have T_a := T_a_2'
 show Goes _ _ _ _ _ (fT T2 m 9 #[vr a, vr x] [])
 refine Goes.ret X2 none (fun _ => rfl) hlk (by decide) (by decide) ?_ (fun fs hr => ?_)
 ·exact ⟨rfl, N2, KP, T_a⟩
 ·exact X2.returnOut hx hret (hb hby d11_9) hr
theorem own_ef_rs_c5_6 (m : MethodId) (x0 : Addr) (x2 : Addr) : entryFrame m #[(.ref x0), (.int 0), (.ref x2), (.int 0), (.int 6)] 7 = mkF m 0 #[vr x0, vi 0, vr x2, vi 0, vi 6, vu, vu] [] := by first | (simp [entryFrame, mkF, argsToLocals, Value.category]; done) | rfl
def Q_rs_c5_6 (Z : State) (x : Addr) (kx : ClassId) (y : Addr) (ky : ClassId) (c0 : Int32) (c1 : Int32) (c2 : Int32) (c3 : Int32) (c4 : Int32) (c5 : Int32) (h0 : Heap) (n0 : Nat) (v : Option Value) (h : Heap) (L : List Loc) : Prop := v = some (.int 6) ∧ Fr n0 L ∧ Keep h0 h [y] ∧ Arv Z h y ky .byte 6 [(.int (lo8 c0)), (.int (lo8 c1)), (.int (lo8 c2)), (.int (lo8 c3)), (.int (lo8 c4)), (.int (lo8 c5))] (.int 0)
theorem rs_c5_6 (l : Launch) (Z : State) (a0 : Array Value) (hw : HW a0 Z) (ws : List Jvm.Cond) (x : Addr) (kx : ClassId) (y : Addr) (ky : ClassId) (c0 : Int32) (c1 : Int32) (c2 : Int32) (c3 : Int32) (c4 : Int32) (c5 : Int32) (h0 : Heap) (n0 : Nat) (Z0 : n0 ≤ h0.size) (V_x : Arv Z h0 x kx .char 6 [(.int c0), (.int c1), (.int c2), (.int c3), (.int c4), (.int c5)] (.int 0)) (V_y : Arv Z h0 y ky .byte 6 [(.int 0), (.int 0), (.int 0), (.int 0), (.int 0), (.int 0)] (.int 0)) (g_y : n0 ≤ y) (ne_x_y : x ≠ y) (hL_c0 : Lat c0) (hL_c1 : Lat c1) (hL_c2 : Lat c2) (hL_c3 : Lat c3) (hL_c4 : Lat c4) (hL_c5 : Lat c5) :
  Met l Z mN7 jdk_52_method_21_code 7 (some .int) ({ frames := 0, cells := 0, slots := 0, locals := 0 } : Room) ws #[(.ref x), (.int 0), (.ref y), (.int 0), (.int 6)] h0 (Q_rs_c5_6 Z x kx y ky c0 c1 c2 c3 c4 c5 h0 n0) := by
 refine own_met (plainFor_of_name own_pn3) ?_
 intro p e s m below meth c s₁ hret hx hby hlk hml hown hnm X0 e0 hZ hh
 have N0 := Fr.nil n0
 refine Gz (castTop (own_ef_rs_c5_6 m x y)) ?_
 have KP : Keep h0 h0 [y] := Keep.refl _ _
 show Goes _ _ _ _ _ (fT s₁ m 0 #[vr x, vi 0, vr y, vi 0, vi 6, vu, vu] [])
 have hn_c0 := own_latN hL_c0
 have hn_c1 := own_latN hL_c1
 have hn_c2 := own_latN hL_c2
 have hn_c3 := own_latN hL_c3
 have hn_c4 := own_latN hL_c4
 have hn_c5 := own_latN hL_c5
 refine gC X0 hx hby d7_0 ?_
 refine gS X0 hx hby d7_1 #[vr x, vi 0, vr y, vi 0, vi 6, vi 0, vu] ?_
 refine gI X0 hx hby d7_3 rfl rfl ?_
 refine gI X0 hx hby d7_5 rfl rfl ?_
 refine gU X0 hx hby d7_7 (tlt (by decide : ((0 : Int32) < (6 : Int32)))).2.1 ?_
 refine gA X0 hx hby d7_10 rfl rfl rfl ?_
 show Goes _ _ _ _ _ (fT s₁ m 11 #[vr x, vi 0, vr y, vi 0, vi 6, vi 0, vu] [(.ref x)])
 refine gN X0 hx hby d7_11 rfl rfl ?_
 obtain ⟨cl1, Ar1, -, S1, N1z, H1, -⟩ := id V_x
 have hin1 : ¬ ((0 : Int32) < 0 ∨ cl1.slots.size ≤ ((0 : Int32)).toNatClampNeg) := inb_of S1 ⟨by decide, by decide⟩
 have hat1 : cl1.slots[((0 : Int32)).toNatClampNeg]? = some (.int c0) := Has.at H1 hin1 rfl
 refine Gs (fun _ tk => X0.caload hx (j := (0 : Int32)) (v := (.int c0)) (by rw [e0]; exact Ar1.1) (State.isArrayOf_alike hZ.alike Ar1.2.1) Ar1.2.2 hin1 hat1 (g := (mkF m 12 #[vr x, vi 0, vr y, vi 0, vi 6, vi 0, vu] [(.int 0), (.ref x)])) rfl rfl (hb hby d7_12) _ tk) ?_
 show Goes _ _ _ _ _ (fT s₁ m 13 #[vr x, vi 0, vr y, vi 0, vi 6, vi 0, vu] [(.int c0)])
 refine gS X0 hx hby d7_13 #[vr x, vi 0, vr y, vi 0, vi 6, vi 0, vi c0] ?_
 refine gI X0 hx hby d7_15 rfl rfl ?_
 refine Gz (XS.sipush X0.here hx rfl (hb hby d7_17)) ?_
 refine gY X0 hx hby d7_20 20 26 (flt hn_c0).2.2.2 ?_
 refine gA X0 hx hby d7_26 rfl rfl rfl ?_
 refine gN X0 hx hby d7_27 rfl rfl ?_
 show Goes _ _ _ _ _ (fT s₁ m 28 #[vr x, vi 0, vr y, vi 0, vi 6, vi 0, vi c0] [(.int 0), (.ref y)])
 refine gI X0 hx hby d7_28 rfl rfl ?_
 show Goes _ _ _ _ _ (fT s₁ m 30 #[vr x, vi 0, vr y, vi 0, vi 6, vi 0, vi c0] [(.int c0), (.int 0), (.ref y)])
 refine Gz (XS.i2b X0.here hx rfl (hb hby d7_30) rfl) ?_
 show Goes _ _ _ _ _ (fT s₁ m 31 #[vr x, vi 0, vr y, vi 0, vi 6, vi 0, vi c0] [(.int (c0.toInt8.toInt32)), (.int 0), (.ref y)])
 obtain ⟨cl2, Ar2, q2, S2, N2z, H2, G2⟩ := V_y
 have hin2 : ¬ ((0 : Int32) < 0 ∨ cl2.slots.size ≤ ((0 : Int32)).toNatClampNeg) := inb_of S2 ⟨by decide, by decide⟩
 obtain ⟨T2, h2, X2, e2, W2, st2⟩ := stB X0 hx hZ e0 Ar2 (j := (0 : Int32)) hin2 (g := (mkF m 31 #[vr x, vi 0, vr y, vi 0, vi 6, vi 0, vi c0] [(.int (c0.toInt8.toInt32)), (.int 0), (.ref y)])) rfl rfl (hb hby d7_31)
 have Vn2 := Arv.set Ar2 q2 S2 N2z H2 G2 (fits_nar_byte _) W2 0 rfl (Nat.le_of_ble_eq_true rfl)
 have N2 := Fr.snoc X2 N0 g_y
 replace V_x := V_x.other W2 ne_x_y
 replace KP := KP.wr W2 (Or.inl (List.mem_of_getElem? (i := 0) rfl))
 have V_y : Arv Z h2 y ky .byte 6 [(.int (lo8 c0)), (.int 0), (.int 0), (.int 0), (.int 0), (.int 0)] (.int 0) := by have q := Vn2; rw [own_nb2] at q; exact q
 replace Z0 : n0 ≤ h2.size := by rw [W2.size]; exact Z0
 refine Gs st2 ?_
 show Goes _ _ _ _ _ (fT T2 m 32 #[vr x, vi 0, vr y, vi 0, vi 6, vi 0, vi c0] [])
 refine Gz (XS.iinc X2.here hx rfl (hb hby d7_32) rfl (l' := #[vr x, vi ((0 : Int32) + (1 : Int32)), vr y, vi 0, vi 6, vi 0, vi c0]) rfl) ?_
 show Goes _ _ _ _ _ (fT T2 m 35 #[vr x, vi 1, vr y, vi 0, vi 6, vi 0, vi c0] [])
 refine Gz (XS.iinc X2.here hx rfl (hb hby d7_35) rfl (l' := #[vr x, vi 1, vr y, vi ((0 : Int32) + (1 : Int32)), vi 6, vi 0, vi c0]) rfl) ?_
 show Goes _ _ _ _ _ (fT T2 m 38 #[vr x, vi 1, vr y, vi 1, vi 6, vi 0, vi c0] [])
 refine Gz (XS.iinc X2.here hx rfl (hb hby d7_38) rfl (l' := #[vr x, vi 1, vr y, vi 1, vi 6, vi ((0 : Int32) + (1 : Int32)), vi c0]) rfl) ?_
 show Goes _ _ _ _ _ (fT T2 m 41 #[vr x, vi 1, vr y, vi 1, vi 6, vi 1, vi c0] [])
 refine gG X2 hx hby d7_41 41 3 ?_
 refine gI X2 hx hby d7_3 rfl rfl ?_
 refine gI X2 hx hby d7_5 rfl rfl ?_
 refine gU X2 hx hby d7_7 (tlt (by decide : ((1 : Int32) < (6 : Int32)))).2.1 ?_
 refine gA X2 hx hby d7_10 rfl rfl rfl ?_
 refine gN X2 hx hby d7_11 rfl rfl ?_
 show Goes _ _ _ _ _ (fT T2 m 12 #[vr x, vi 1, vr y, vi 1, vi 6, vi 1, vi c0] [(.int 1), (.ref x)])
 obtain ⟨cl3, Ar3, -, S3, N3z, H3, -⟩ := id V_x
 have hin3 : ¬ ((1 : Int32) < 0 ∨ cl3.slots.size ≤ ((1 : Int32)).toNatClampNeg) := inb_of S3 ⟨by decide, by decide⟩
 have hat3 : cl3.slots[((1 : Int32)).toNatClampNeg]? = some (.int c1) := Has.at H3 hin3 rfl
 refine Gs (fun _ tk => X2.caload hx (j := (1 : Int32)) (v := (.int c1)) (by rw [e2]; exact Ar3.1) (State.isArrayOf_alike hZ.alike Ar3.2.1) Ar3.2.2 hin3 hat3 (g := (mkF m 12 #[vr x, vi 1, vr y, vi 1, vi 6, vi 1, vi c0] [(.int 1), (.ref x)])) rfl rfl (hb hby d7_12) _ tk) ?_
 show Goes _ _ _ _ _ (fT T2 m 13 #[vr x, vi 1, vr y, vi 1, vi 6, vi 1, vi c0] [(.int c1)])
 refine gS X2 hx hby d7_13 #[vr x, vi 1, vr y, vi 1, vi 6, vi 1, vi c1] ?_
 refine gI X2 hx hby d7_15 rfl rfl ?_
 refine Gz (XS.sipush X2.here hx rfl (hb hby d7_17)) ?_
 refine gY X2 hx hby d7_20 20 26 (flt hn_c1).2.2.2 ?_
 refine gA X2 hx hby d7_26 rfl rfl rfl ?_
 refine gN X2 hx hby d7_27 rfl rfl ?_
 show Goes _ _ _ _ _ (fT T2 m 28 #[vr x, vi 1, vr y, vi 1, vi 6, vi 1, vi c1] [(.int 1), (.ref y)])
 refine gI X2 hx hby d7_28 rfl rfl ?_
 show Goes _ _ _ _ _ (fT T2 m 30 #[vr x, vi 1, vr y, vi 1, vi 6, vi 1, vi c1] [(.int c1), (.int 1), (.ref y)])
 refine Gz (XS.i2b X2.here hx rfl (hb hby d7_30) rfl) ?_
 show Goes _ _ _ _ _ (fT T2 m 31 #[vr x, vi 1, vr y, vi 1, vi 6, vi 1, vi c1] [(.int (c1.toInt8.toInt32)), (.int 1), (.ref y)])
 obtain ⟨cl4, Ar4, q4, S4, N4z, H4, G4⟩ := V_y
 have hin4 : ¬ ((1 : Int32) < 0 ∨ cl4.slots.size ≤ ((1 : Int32)).toNatClampNeg) := inb_of S4 ⟨by decide, by decide⟩
 obtain ⟨T4, h4, X4, e4, W4, st4⟩ := stB X2 hx hZ e2 Ar4 (j := (1 : Int32)) hin4 (g := (mkF m 31 #[vr x, vi 1, vr y, vi 1, vi 6, vi 1, vi c1] [(.int (c1.toInt8.toInt32)), (.int 1), (.ref y)])) rfl rfl (hb hby d7_31)
 have Vn4 := Arv.set Ar4 q4 S4 N4z H4 G4 (fits_nar_byte _) W4 1 rfl (Nat.le_of_ble_eq_true rfl)
 have N4 := Fr.snoc X4 N2 g_y
 replace V_x := V_x.other W4 ne_x_y
 replace KP := KP.wr W4 (Or.inl (List.mem_of_getElem? (i := 0) rfl))
 have V_y : Arv Z h4 y ky .byte 6 [(.int (lo8 c0)), (.int (lo8 c1)), (.int 0), (.int 0), (.int 0), (.int 0)] (.int 0) := by have q := Vn4; rw [own_nb2] at q; exact q
 replace Z0 : n0 ≤ h4.size := by rw [W4.size]; exact Z0
 refine Gs st4 ?_
 show Goes _ _ _ _ _ (fT T4 m 32 #[vr x, vi 1, vr y, vi 1, vi 6, vi 1, vi c1] [])
 refine Gz (XS.iinc X4.here hx rfl (hb hby d7_32) rfl (l' := #[vr x, vi ((1 : Int32) + (1 : Int32)), vr y, vi 1, vi 6, vi 1, vi c1]) rfl) ?_
 show Goes _ _ _ _ _ (fT T4 m 35 #[vr x, vi 2, vr y, vi 1, vi 6, vi 1, vi c1] [])
 refine Gz (XS.iinc X4.here hx rfl (hb hby d7_35) rfl (l' := #[vr x, vi 2, vr y, vi ((1 : Int32) + (1 : Int32)), vi 6, vi 1, vi c1]) rfl) ?_
 show Goes _ _ _ _ _ (fT T4 m 38 #[vr x, vi 2, vr y, vi 2, vi 6, vi 1, vi c1] [])
 refine Gz (XS.iinc X4.here hx rfl (hb hby d7_38) rfl (l' := #[vr x, vi 2, vr y, vi 2, vi 6, vi ((1 : Int32) + (1 : Int32)), vi c1]) rfl) ?_
 show Goes _ _ _ _ _ (fT T4 m 41 #[vr x, vi 2, vr y, vi 2, vi 6, vi 2, vi c1] [])
 refine gG X4 hx hby d7_41 41 3 ?_
 refine gI X4 hx hby d7_3 rfl rfl ?_
 refine gI X4 hx hby d7_5 rfl rfl ?_
 refine gU X4 hx hby d7_7 (tlt (by decide : ((2 : Int32) < (6 : Int32)))).2.1 ?_
 refine gA X4 hx hby d7_10 rfl rfl rfl ?_
 refine gN X4 hx hby d7_11 rfl rfl ?_
 show Goes _ _ _ _ _ (fT T4 m 12 #[vr x, vi 2, vr y, vi 2, vi 6, vi 2, vi c1] [(.int 2), (.ref x)])
 obtain ⟨cl5, Ar5, -, S5, N5z, H5, -⟩ := id V_x
 have hin5 : ¬ ((2 : Int32) < 0 ∨ cl5.slots.size ≤ ((2 : Int32)).toNatClampNeg) := inb_of S5 ⟨by decide, by decide⟩
 have hat5 : cl5.slots[((2 : Int32)).toNatClampNeg]? = some (.int c2) := Has.at H5 hin5 rfl
 refine Gs (fun _ tk => X4.caload hx (j := (2 : Int32)) (v := (.int c2)) (by rw [e4]; exact Ar5.1) (State.isArrayOf_alike hZ.alike Ar5.2.1) Ar5.2.2 hin5 hat5 (g := (mkF m 12 #[vr x, vi 2, vr y, vi 2, vi 6, vi 2, vi c1] [(.int 2), (.ref x)])) rfl rfl (hb hby d7_12) _ tk) ?_
 show Goes _ _ _ _ _ (fT T4 m 13 #[vr x, vi 2, vr y, vi 2, vi 6, vi 2, vi c1] [(.int c2)])
 refine gS X4 hx hby d7_13 #[vr x, vi 2, vr y, vi 2, vi 6, vi 2, vi c2] ?_
 refine gI X4 hx hby d7_15 rfl rfl ?_
 refine Gz (XS.sipush X4.here hx rfl (hb hby d7_17)) ?_
 refine gY X4 hx hby d7_20 20 26 (flt hn_c2).2.2.2 ?_
 refine gA X4 hx hby d7_26 rfl rfl rfl ?_
 refine gN X4 hx hby d7_27 rfl rfl ?_
 show Goes _ _ _ _ _ (fT T4 m 28 #[vr x, vi 2, vr y, vi 2, vi 6, vi 2, vi c2] [(.int 2), (.ref y)])
 refine gI X4 hx hby d7_28 rfl rfl ?_
 show Goes _ _ _ _ _ (fT T4 m 30 #[vr x, vi 2, vr y, vi 2, vi 6, vi 2, vi c2] [(.int c2), (.int 2), (.ref y)])
 refine Gz (XS.i2b X4.here hx rfl (hb hby d7_30) rfl) ?_
 show Goes _ _ _ _ _ (fT T4 m 31 #[vr x, vi 2, vr y, vi 2, vi 6, vi 2, vi c2] [(.int (c2.toInt8.toInt32)), (.int 2), (.ref y)])
 obtain ⟨cl6, Ar6, q6, S6, N6z, H6, G6⟩ := V_y
 have hin6 : ¬ ((2 : Int32) < 0 ∨ cl6.slots.size ≤ ((2 : Int32)).toNatClampNeg) := inb_of S6 ⟨by decide, by decide⟩
 obtain ⟨T6, h6, X6, e6, W6, st6⟩ := stB X4 hx hZ e4 Ar6 (j := (2 : Int32)) hin6 (g := (mkF m 31 #[vr x, vi 2, vr y, vi 2, vi 6, vi 2, vi c2] [(.int (c2.toInt8.toInt32)), (.int 2), (.ref y)])) rfl rfl (hb hby d7_31)
 have Vn6 := Arv.set Ar6 q6 S6 N6z H6 G6 (fits_nar_byte _) W6 2 rfl (Nat.le_of_ble_eq_true rfl)
 have N6 := Fr.snoc X6 N4 g_y
 replace V_x := V_x.other W6 ne_x_y
 replace KP := KP.wr W6 (Or.inl (List.mem_of_getElem? (i := 0) rfl))
 have V_y : Arv Z h6 y ky .byte 6 [(.int (lo8 c0)), (.int (lo8 c1)), (.int (lo8 c2)), (.int 0), (.int 0), (.int 0)] (.int 0) := by have q := Vn6; rw [own_nb2] at q; exact q
 replace Z0 : n0 ≤ h6.size := by rw [W6.size]; exact Z0
 refine Gs st6 ?_
 show Goes _ _ _ _ _ (fT T6 m 32 #[vr x, vi 2, vr y, vi 2, vi 6, vi 2, vi c2] [])
 refine Gz (XS.iinc X6.here hx rfl (hb hby d7_32) rfl (l' := #[vr x, vi ((2 : Int32) + (1 : Int32)), vr y, vi 2, vi 6, vi 2, vi c2]) rfl) ?_
 show Goes _ _ _ _ _ (fT T6 m 35 #[vr x, vi 3, vr y, vi 2, vi 6, vi 2, vi c2] [])
 refine Gz (XS.iinc X6.here hx rfl (hb hby d7_35) rfl (l' := #[vr x, vi 3, vr y, vi ((2 : Int32) + (1 : Int32)), vi 6, vi 2, vi c2]) rfl) ?_
 show Goes _ _ _ _ _ (fT T6 m 38 #[vr x, vi 3, vr y, vi 3, vi 6, vi 2, vi c2] [])
 refine Gz (XS.iinc X6.here hx rfl (hb hby d7_38) rfl (l' := #[vr x, vi 3, vr y, vi 3, vi 6, vi ((2 : Int32) + (1 : Int32)), vi c2]) rfl) ?_
 show Goes _ _ _ _ _ (fT T6 m 41 #[vr x, vi 3, vr y, vi 3, vi 6, vi 3, vi c2] [])
 refine gG X6 hx hby d7_41 41 3 ?_
 refine gI X6 hx hby d7_3 rfl rfl ?_
 refine gI X6 hx hby d7_5 rfl rfl ?_
 refine gU X6 hx hby d7_7 (tlt (by decide : ((3 : Int32) < (6 : Int32)))).2.1 ?_
 refine gA X6 hx hby d7_10 rfl rfl rfl ?_
 refine gN X6 hx hby d7_11 rfl rfl ?_
 show Goes _ _ _ _ _ (fT T6 m 12 #[vr x, vi 3, vr y, vi 3, vi 6, vi 3, vi c2] [(.int 3), (.ref x)])
 obtain ⟨cl7, Ar7, -, S7, N7z, H7, -⟩ := id V_x
 have hin7 : ¬ ((3 : Int32) < 0 ∨ cl7.slots.size ≤ ((3 : Int32)).toNatClampNeg) := inb_of S7 ⟨by decide, by decide⟩
 have hat7 : cl7.slots[((3 : Int32)).toNatClampNeg]? = some (.int c3) := Has.at H7 hin7 rfl
 refine Gs (fun _ tk => X6.caload hx (j := (3 : Int32)) (v := (.int c3)) (by rw [e6]; exact Ar7.1) (State.isArrayOf_alike hZ.alike Ar7.2.1) Ar7.2.2 hin7 hat7 (g := (mkF m 12 #[vr x, vi 3, vr y, vi 3, vi 6, vi 3, vi c2] [(.int 3), (.ref x)])) rfl rfl (hb hby d7_12) _ tk) ?_
 show Goes _ _ _ _ _ (fT T6 m 13 #[vr x, vi 3, vr y, vi 3, vi 6, vi 3, vi c2] [(.int c3)])
 refine gS X6 hx hby d7_13 #[vr x, vi 3, vr y, vi 3, vi 6, vi 3, vi c3] ?_
 refine gI X6 hx hby d7_15 rfl rfl ?_
 refine Gz (XS.sipush X6.here hx rfl (hb hby d7_17)) ?_
 refine gY X6 hx hby d7_20 20 26 (flt hn_c3).2.2.2 ?_
 refine gA X6 hx hby d7_26 rfl rfl rfl ?_
 refine gN X6 hx hby d7_27 rfl rfl ?_
 show Goes _ _ _ _ _ (fT T6 m 28 #[vr x, vi 3, vr y, vi 3, vi 6, vi 3, vi c3] [(.int 3), (.ref y)])
 refine gI X6 hx hby d7_28 rfl rfl ?_
 show Goes _ _ _ _ _ (fT T6 m 30 #[vr x, vi 3, vr y, vi 3, vi 6, vi 3, vi c3] [(.int c3), (.int 3), (.ref y)])
 refine Gz (XS.i2b X6.here hx rfl (hb hby d7_30) rfl) ?_
 show Goes _ _ _ _ _ (fT T6 m 31 #[vr x, vi 3, vr y, vi 3, vi 6, vi 3, vi c3] [(.int (c3.toInt8.toInt32)), (.int 3), (.ref y)])
 obtain ⟨cl8, Ar8, q8, S8, N8z, H8, G8⟩ := V_y
 have hin8 : ¬ ((3 : Int32) < 0 ∨ cl8.slots.size ≤ ((3 : Int32)).toNatClampNeg) := inb_of S8 ⟨by decide, by decide⟩
 obtain ⟨T8, h8, X8, e8, W8, st8⟩ := stB X6 hx hZ e6 Ar8 (j := (3 : Int32)) hin8 (g := (mkF m 31 #[vr x, vi 3, vr y, vi 3, vi 6, vi 3, vi c3] [(.int (c3.toInt8.toInt32)), (.int 3), (.ref y)])) rfl rfl (hb hby d7_31)
 have Vn8 := Arv.set Ar8 q8 S8 N8z H8 G8 (fits_nar_byte _) W8 3 rfl (Nat.le_of_ble_eq_true rfl)
 have N8 := Fr.snoc X8 N6 g_y
 replace V_x := V_x.other W8 ne_x_y
 replace KP := KP.wr W8 (Or.inl (List.mem_of_getElem? (i := 0) rfl))
 have V_y : Arv Z h8 y ky .byte 6 [(.int (lo8 c0)), (.int (lo8 c1)), (.int (lo8 c2)), (.int (lo8 c3)), (.int 0), (.int 0)] (.int 0) := by have q := Vn8; rw [own_nb2] at q; exact q
 replace Z0 : n0 ≤ h8.size := by rw [W8.size]; exact Z0
 refine Gs st8 ?_
 show Goes _ _ _ _ _ (fT T8 m 32 #[vr x, vi 3, vr y, vi 3, vi 6, vi 3, vi c3] [])
 refine Gz (XS.iinc X8.here hx rfl (hb hby d7_32) rfl (l' := #[vr x, vi ((3 : Int32) + (1 : Int32)), vr y, vi 3, vi 6, vi 3, vi c3]) rfl) ?_
 show Goes _ _ _ _ _ (fT T8 m 35 #[vr x, vi 4, vr y, vi 3, vi 6, vi 3, vi c3] [])
 refine Gz (XS.iinc X8.here hx rfl (hb hby d7_35) rfl (l' := #[vr x, vi 4, vr y, vi ((3 : Int32) + (1 : Int32)), vi 6, vi 3, vi c3]) rfl) ?_
 show Goes _ _ _ _ _ (fT T8 m 38 #[vr x, vi 4, vr y, vi 4, vi 6, vi 3, vi c3] [])
 refine Gz (XS.iinc X8.here hx rfl (hb hby d7_38) rfl (l' := #[vr x, vi 4, vr y, vi 4, vi 6, vi ((3 : Int32) + (1 : Int32)), vi c3]) rfl) ?_
 show Goes _ _ _ _ _ (fT T8 m 41 #[vr x, vi 4, vr y, vi 4, vi 6, vi 4, vi c3] [])
 refine gG X8 hx hby d7_41 41 3 ?_
 refine gI X8 hx hby d7_3 rfl rfl ?_
 refine gI X8 hx hby d7_5 rfl rfl ?_
 refine gU X8 hx hby d7_7 (tlt (by decide : ((4 : Int32) < (6 : Int32)))).2.1 ?_
 refine gA X8 hx hby d7_10 rfl rfl rfl ?_
 refine gN X8 hx hby d7_11 rfl rfl ?_
 show Goes _ _ _ _ _ (fT T8 m 12 #[vr x, vi 4, vr y, vi 4, vi 6, vi 4, vi c3] [(.int 4), (.ref x)])
 obtain ⟨cl9, Ar9, -, S9, N9z, H9, -⟩ := id V_x
 have hin9 : ¬ ((4 : Int32) < 0 ∨ cl9.slots.size ≤ ((4 : Int32)).toNatClampNeg) := inb_of S9 ⟨by decide, by decide⟩
 have hat9 : cl9.slots[((4 : Int32)).toNatClampNeg]? = some (.int c4) := Has.at H9 hin9 rfl
 refine Gs (fun _ tk => X8.caload hx (j := (4 : Int32)) (v := (.int c4)) (by rw [e8]; exact Ar9.1) (State.isArrayOf_alike hZ.alike Ar9.2.1) Ar9.2.2 hin9 hat9 (g := (mkF m 12 #[vr x, vi 4, vr y, vi 4, vi 6, vi 4, vi c3] [(.int 4), (.ref x)])) rfl rfl (hb hby d7_12) _ tk) ?_
 show Goes _ _ _ _ _ (fT T8 m 13 #[vr x, vi 4, vr y, vi 4, vi 6, vi 4, vi c3] [(.int c4)])
 refine gS X8 hx hby d7_13 #[vr x, vi 4, vr y, vi 4, vi 6, vi 4, vi c4] ?_
 refine gI X8 hx hby d7_15 rfl rfl ?_
 refine Gz (XS.sipush X8.here hx rfl (hb hby d7_17)) ?_
 refine gY X8 hx hby d7_20 20 26 (flt hn_c4).2.2.2 ?_
 refine gA X8 hx hby d7_26 rfl rfl rfl ?_
 refine gN X8 hx hby d7_27 rfl rfl ?_
 show Goes _ _ _ _ _ (fT T8 m 28 #[vr x, vi 4, vr y, vi 4, vi 6, vi 4, vi c4] [(.int 4), (.ref y)])
 refine gI X8 hx hby d7_28 rfl rfl ?_
 show Goes _ _ _ _ _ (fT T8 m 30 #[vr x, vi 4, vr y, vi 4, vi 6, vi 4, vi c4] [(.int c4), (.int 4), (.ref y)])
 refine Gz (XS.i2b X8.here hx rfl (hb hby d7_30) rfl) ?_
 show Goes _ _ _ _ _ (fT T8 m 31 #[vr x, vi 4, vr y, vi 4, vi 6, vi 4, vi c4] [(.int (c4.toInt8.toInt32)), (.int 4), (.ref y)])
 obtain ⟨cl10, Ar10, q10, S10, N10z, H10, G10⟩ := V_y
 have hin10 : ¬ ((4 : Int32) < 0 ∨ cl10.slots.size ≤ ((4 : Int32)).toNatClampNeg) := inb_of S10 ⟨by decide, by decide⟩
 obtain ⟨T10, h10, X10, e10, W10, st10⟩ := stB X8 hx hZ e8 Ar10 (j := (4 : Int32)) hin10 (g := (mkF m 31 #[vr x, vi 4, vr y, vi 4, vi 6, vi 4, vi c4] [(.int (c4.toInt8.toInt32)), (.int 4), (.ref y)])) rfl rfl (hb hby d7_31)
 have Vn10 := Arv.set Ar10 q10 S10 N10z H10 G10 (fits_nar_byte _) W10 4 rfl (Nat.le_of_ble_eq_true rfl)
 have N10 := Fr.snoc X10 N8 g_y
 replace V_x := V_x.other W10 ne_x_y
 replace KP := KP.wr W10 (Or.inl (List.mem_of_getElem? (i := 0) rfl))
 have V_y : Arv Z h10 y ky .byte 6 [(.int (lo8 c0)), (.int (lo8 c1)), (.int (lo8 c2)), (.int (lo8 c3)), (.int (lo8 c4)), (.int 0)] (.int 0) := by have q := Vn10; rw [own_nb2] at q; exact q
 replace Z0 : n0 ≤ h10.size := by rw [W10.size]; exact Z0
 refine Gs st10 ?_
 show Goes _ _ _ _ _ (fT T10 m 32 #[vr x, vi 4, vr y, vi 4, vi 6, vi 4, vi c4] [])
 refine Gz (XS.iinc X10.here hx rfl (hb hby d7_32) rfl (l' := #[vr x, vi ((4 : Int32) + (1 : Int32)), vr y, vi 4, vi 6, vi 4, vi c4]) rfl) ?_
 show Goes _ _ _ _ _ (fT T10 m 35 #[vr x, vi 5, vr y, vi 4, vi 6, vi 4, vi c4] [])
 refine Gz (XS.iinc X10.here hx rfl (hb hby d7_35) rfl (l' := #[vr x, vi 5, vr y, vi ((4 : Int32) + (1 : Int32)), vi 6, vi 4, vi c4]) rfl) ?_
 show Goes _ _ _ _ _ (fT T10 m 38 #[vr x, vi 5, vr y, vi 5, vi 6, vi 4, vi c4] [])
 refine Gz (XS.iinc X10.here hx rfl (hb hby d7_38) rfl (l' := #[vr x, vi 5, vr y, vi 5, vi 6, vi ((4 : Int32) + (1 : Int32)), vi c4]) rfl) ?_
 show Goes _ _ _ _ _ (fT T10 m 41 #[vr x, vi 5, vr y, vi 5, vi 6, vi 5, vi c4] [])
 refine gG X10 hx hby d7_41 41 3 ?_
 refine gI X10 hx hby d7_3 rfl rfl ?_
 refine gI X10 hx hby d7_5 rfl rfl ?_
 refine gU X10 hx hby d7_7 (tlt (by decide : ((5 : Int32) < (6 : Int32)))).2.1 ?_
 refine gA X10 hx hby d7_10 rfl rfl rfl ?_
 refine gN X10 hx hby d7_11 rfl rfl ?_
 show Goes _ _ _ _ _ (fT T10 m 12 #[vr x, vi 5, vr y, vi 5, vi 6, vi 5, vi c4] [(.int 5), (.ref x)])
 obtain ⟨cl11, Ar11, -, S11, N11z, H11, -⟩ := id V_x
 have hin11 : ¬ ((5 : Int32) < 0 ∨ cl11.slots.size ≤ ((5 : Int32)).toNatClampNeg) := inb_of S11 ⟨by decide, by decide⟩
 have hat11 : cl11.slots[((5 : Int32)).toNatClampNeg]? = some (.int c5) := Has.at H11 hin11 rfl
 refine Gs (fun _ tk => X10.caload hx (j := (5 : Int32)) (v := (.int c5)) (by rw [e10]; exact Ar11.1) (State.isArrayOf_alike hZ.alike Ar11.2.1) Ar11.2.2 hin11 hat11 (g := (mkF m 12 #[vr x, vi 5, vr y, vi 5, vi 6, vi 5, vi c4] [(.int 5), (.ref x)])) rfl rfl (hb hby d7_12) _ tk) ?_
 show Goes _ _ _ _ _ (fT T10 m 13 #[vr x, vi 5, vr y, vi 5, vi 6, vi 5, vi c4] [(.int c5)])
 refine gS X10 hx hby d7_13 #[vr x, vi 5, vr y, vi 5, vi 6, vi 5, vi c5] ?_
 refine gI X10 hx hby d7_15 rfl rfl ?_
 refine Gz (XS.sipush X10.here hx rfl (hb hby d7_17)) ?_
 refine gY X10 hx hby d7_20 20 26 (flt hn_c5).2.2.2 ?_
 refine gA X10 hx hby d7_26 rfl rfl rfl ?_
 refine gN X10 hx hby d7_27 rfl rfl ?_
 show Goes _ _ _ _ _ (fT T10 m 28 #[vr x, vi 5, vr y, vi 5, vi 6, vi 5, vi c5] [(.int 5), (.ref y)])
 refine gI X10 hx hby d7_28 rfl rfl ?_
 show Goes _ _ _ _ _ (fT T10 m 30 #[vr x, vi 5, vr y, vi 5, vi 6, vi 5, vi c5] [(.int c5), (.int 5), (.ref y)])
 refine Gz (XS.i2b X10.here hx rfl (hb hby d7_30) rfl) ?_
 show Goes _ _ _ _ _ (fT T10 m 31 #[vr x, vi 5, vr y, vi 5, vi 6, vi 5, vi c5] [(.int (c5.toInt8.toInt32)), (.int 5), (.ref y)])
 obtain ⟨cl12, Ar12, q12, S12, N12z, H12, G12⟩ := V_y
 have hin12 : ¬ ((5 : Int32) < 0 ∨ cl12.slots.size ≤ ((5 : Int32)).toNatClampNeg) := inb_of S12 ⟨by decide, by decide⟩
 obtain ⟨T12, h12, X12, e12, W12, st12⟩ := stB X10 hx hZ e10 Ar12 (j := (5 : Int32)) hin12 (g := (mkF m 31 #[vr x, vi 5, vr y, vi 5, vi 6, vi 5, vi c5] [(.int (c5.toInt8.toInt32)), (.int 5), (.ref y)])) rfl rfl (hb hby d7_31)
 have Vn12 := Arv.set Ar12 q12 S12 N12z H12 G12 (fits_nar_byte _) W12 5 rfl (Nat.le_of_ble_eq_true rfl)
 have N12 := Fr.snoc X12 N10 g_y
 replace KP := KP.wr W12 (Or.inl (List.mem_of_getElem? (i := 0) rfl))
 have V_y : Arv Z h12 y ky .byte 6 [(.int (lo8 c0)), (.int (lo8 c1)), (.int (lo8 c2)), (.int (lo8 c3)), (.int (lo8 c4)), (.int (lo8 c5))] (.int 0) := by have q := Vn12; rw [own_nb2] at q; exact q
 replace Z0 : n0 ≤ h12.size := by rw [W12.size]; exact Z0
 refine Gs st12 ?_
 show Goes _ _ _ _ _ (fT T12 m 32 #[vr x, vi 5, vr y, vi 5, vi 6, vi 5, vi c5] [])
 refine Gz (XS.iinc X12.here hx rfl (hb hby d7_32) rfl (l' := #[vr x, vi ((5 : Int32) + (1 : Int32)), vr y, vi 5, vi 6, vi 5, vi c5]) rfl) ?_
 show Goes _ _ _ _ _ (fT T12 m 35 #[vr x, vi 6, vr y, vi 5, vi 6, vi 5, vi c5] [])
 refine Gz (XS.iinc X12.here hx rfl (hb hby d7_35) rfl (l' := #[vr x, vi 6, vr y, vi ((5 : Int32) + (1 : Int32)), vi 6, vi 5, vi c5]) rfl) ?_
 show Goes _ _ _ _ _ (fT T12 m 38 #[vr x, vi 6, vr y, vi 6, vi 6, vi 5, vi c5] [])
 refine Gz (XS.iinc X12.here hx rfl (hb hby d7_38) rfl (l' := #[vr x, vi 6, vr y, vi 6, vi 6, vi ((5 : Int32) + (1 : Int32)), vi c5]) rfl) ?_
 show Goes _ _ _ _ _ (fT T12 m 41 #[vr x, vi 6, vr y, vi 6, vi 6, vi 6, vi c5] [])
 refine gG X12 hx hby d7_41 41 3 ?_
 refine gI X12 hx hby d7_3 rfl rfl ?_
 refine gI X12 hx hby d7_5 rfl rfl ?_
 refine gY X12 hx hby d7_7 7 44 (flt (by decide : ¬ ((6 : Int32) < (6 : Int32)))).2.1 ?_
 refine gI X12 hx hby d7_44 rfl rfl ?_
 refine Goes.ret X12 (some (.int 6)) (fun h => by rw [hret] at h; cases h) hlk (by decide) (by decide) ?_ (fun fs hr => ?_)
 ·rw [e12]; exact ⟨rfl, N12, KP, V_y⟩
 ·exact retI X12 hx hret (hb hby d7_46) hr
theorem own_ef_rs_c3_6 (m : MethodId) (x0 : Addr) : entryFrame m #[(.ref x0), (.int 0), (.int 6)] 6 = mkF m 0 #[vr x0, vi 0, vi 6, vu, vu, vu] [] := by first | (simp [entryFrame, mkF, argsToLocals, Value.category]; done) | rfl
def Q_rs_c3_6 (Z : State) (x : Addr) (kx : ClassId) (c0 : Int32) (c1 : Int32) (c2 : Int32) (c3 : Int32) (c4 : Int32) (c5 : Int32) (h0 : Heap) (n0 : Nat) (v : Option Value) (h : Heap) (L : List Loc) : Prop := ∃ y : Addr, ∃ ky : ClassId, v = some (.ref y) ∧ Fr n0 L ∧ Keep h0 h [] ∧ Arv Z h y ky .byte 6 [(.int (lo8 c0)), (.int (lo8 c1)), (.int (lo8 c2)), (.int (lo8 c3)), (.int (lo8 c4)), (.int (lo8 c5))] (.int 0) ∧ n0 ≤ y ∧ h0.size ≤ y
theorem rs_c3_6 (l : Launch) (Z : State) (a0 : Array Value) (hw : HW a0 Z) (ws : List Jvm.Cond) (x : Addr) (kx : ClassId) (c0 : Int32) (c1 : Int32) (c2 : Int32) (c3 : Int32) (c4 : Int32) (c5 : Int32) (h0 : Heap) (n0 : Nat) (Z0 : n0 ≤ h0.size) (V_x : Arv Z h0 x kx .char 6 [(.int c0), (.int c1), (.int c2), (.int c3), (.int c4), (.int c5)] (.int 0)) (hL_c0 : Lat c0) (hL_c1 : Lat c1) (hL_c2 : Lat c2) (hL_c3 : Lat c3) (hL_c4 : Lat c4) (hL_c5 : Lat c5) :
  Met l Z mN8 jdk_52_method_16_code 6 (some (.array .byte)) ({ frames := 1, cells := 1, slots := 6, locals := 18 } : Room) ws #[(.ref x), (.int 0), (.int 6)] h0 (Q_rs_c3_6 Z x kx c0 c1 c2 c3 c4 c5 h0 n0) := by
 refine own_met (plainFor_of_name own_pn3) ?_
 intro p e s m below meth c s₁ hret hx hby hlk hml hown hnm X0 e0 hZ hh
 have N0 := Fr.nil n0
 refine Gz (castTop (own_ef_rs_c3_6 m x)) ?_
 have KP : Keep h0 h0 [] := Keep.refl _ _
 show Goes _ _ _ _ _ (fT s₁ m 0 #[vr x, vi 0, vi 6, vu, vu, vu] [])
 refine gN X0 hx hby d8_0 rfl rfl ?_
 obtain ⟨T1, h1, k1, X1, e1, E1, A1, st1⟩ := newP X0 hx hZ (gw hw 26 rfl) e0 (g := (mkF m 1 #[vr x, vi 0, vi 6, vu, vu, vu] [(.int 6)])) rfl (hb hby d8_1) rfl (by decide) (cap := 6) (by decide) (by decide) (by decide) (by decide)
 obtain ⟨b1, gq1⟩ : ∃ z, z = h0.size := ⟨_, rfl⟩
 rw [← gq1] at A1 st1
 have g_b1 : n0 ≤ b1 := by rw [gq1]; exact Z0
 have sz_b1 : h0.size ≤ b1 := by rw [gq1]; exact KP.1
 have ne_x_b1 : x ≠ b1 := by rw [gq1]; exact Nat.ne_of_lt V_x.lt
 replace V_x := V_x.ext E1
 replace KP := KP.ext E1
 replace Z0 : n0 ≤ h1.size := Nat.le_trans Z0 E1.1
 have V_b1 : Arv Z h1 b1 k1 .byte 6 [(.int 0), (.int 0), (.int 0), (.int 0), (.int 0), (.int 0)] (.int 0) := (Arv.new A1 (by decide)).pad (pad_rep [] (.int 0) 6)
 refine Gs st1 ?_
 show Goes _ _ _ _ _ (fT T1 m 3 #[vr x, vi 0, vi 6, vu, vu, vu] [(.ref b1)])
 refine Gz (XS.astoreN X1.here hx rfl (hb hby d8_3) rfl rfl (l' := #[vr x, vi 0, vi 6, vr b1, vu, vu]) rfl) ?_
 refine gA X1 hx hby d8_4 rfl rfl rfl ?_
 refine gN X1 hx hby d8_5 rfl rfl ?_
 refine gA X1 hx hby d8_6 rfl rfl rfl ?_
 refine gC X1 hx hby d8_7 ?_
 refine gN X1 hx hby d8_8 rfl rfl ?_
 show Goes _ _ _ _ _ (fT T1 m 9 #[vr x, vi 0, vi 6, vr b1, vu, vu] [(.int 6), (.int 0), (.ref b1), (.int 0), (.ref x)])
 refine cSg X1 hx hZ hw hown hby hml e1 mN7 27 28 29 24 0 (rs_c5_6 l Z a0 hw [] x kx b1 k1 c0 c1 c2 c3 c4 c5 h1 n0 Z0 V_x V_b1 g_b1 ne_x_b1 hL_c0 hL_c1 hL_c2 hL_c3 hL_c4 hL_c5) d8_9 (lenOf own_pd5 rfl) (fun _ T2 L2 X2 hQ2 => ?_)
 obtain ⟨rfl, N2q, K2, V_b1_2'⟩ := hQ2
 have N2 := Fr.app N0 N2q
 replace KP := KP.trans K2 (allS (Or.inr sz_b1) all0)
 replace Z0 := Nat.le_trans Z0 K2.1
 have V_b1 := V_b1_2'
 show Goes _ _ _ _ _ (fT T2 m 12 #[vr x, vi 0, vi 6, vr b1, vu, vu] [(.int 6)])
 refine gS X2 hx hby d8_12 #[vr x, vi 0, vi 6, vr b1, vi 6, vu] ?_
 refine gI X2 hx hby d8_14 rfl rfl ?_
 refine gN X2 hx hby d8_16 rfl rfl ?_
 refine gY X2 hx hby d8_17 17 57 (teq (by decide : ((6 : Int32) = (6 : Int32)))).1 ?_
 refine gA X2 hx hby d8_57 rfl rfl rfl ?_
 refine Goes.ret X2 (some (.ref b1)) (fun h => by rw [hret] at h; cases h) hlk (by decide) (by decide) ?_ (fun fs hr => ?_)
 ·exact ⟨b1, k1, rfl, N2, KP, V_b1, g_b1, sz_b1⟩
 ·exact own_retA X2 hx hret rfl rfl (hb hby d8_58) hr
theorem own_ef_rs_cf_6 (m : MethodId) (x0 : Addr) : entryFrame m #[(.ref x0), (.int 6)] 2 = mkF m 0 #[vr x0, vi 6] [] := by first | (simp [entryFrame, mkF, argsToLocals, Value.category]; done) | rfl
def Q_rs_cf_6 (Z : State) (y : Addr) (ky : ClassId) (vs : List Value) (h0 : Heap) (n0 : Nat) (v : Option Value) (h : Heap) (L : List Loc) : Prop := v = some (.int 0) ∧ Fr n0 L ∧ h = h0
theorem rs_cf_6 (l : Launch) (Z : State) (a0 : Array Value) (hw : HW a0 Z) (ws : List Jvm.Cond) (y : Addr) (ky : ClassId) (vs : List Value) (h0 : Heap) (n0 : Nat) (Z0 : n0 ≤ h0.size) (V_y : Arv Z h0 y ky .byte 6 vs (.int 0)) :
  Met l Z mN9 jdk_52_method_15_code 2 (some .byte) ({ frames := 0, cells := 0, slots := 0, locals := 0 } : Room) ws #[(.ref y), (.int 6)] h0 (Q_rs_cf_6 Z y ky vs h0 n0) := by
 refine own_met (plainFor_of_name own_pn3) ?_
 intro p e s m below meth c s₁ hret hx hby hlk hml hown hnm X0 e0 hZ hh
 have N0 := Fr.nil n0
 refine Gz (castTop (own_ef_rs_cf_6 m y)) ?_
 show Goes _ _ _ _ _ (fT s₁ m 0 #[vr y, vi 6] [])
 refine gN X0 hx hby d9_0 rfl rfl ?_
 refine gA X0 hx hby d9_1 rfl rfl rfl ?_
 obtain ⟨cl1, Ar1, -, S1, N1z, -, -⟩ := id V_y
 refine Gs (fun _ tk => X0.arraylength hx (by rw [e0]; exact Ar1.1) (State.isArrayOf_alike hZ.alike Ar1.2.1) (g := (mkF m 2 #[vr y, vi 6] [(.ref y), (.int 6)])) rfl rfl (hb hby d9_2) _ tk) ?_
 rw [len_of S1 N1z]
 show Goes _ _ _ _ _ (fT s₁ m 3 #[vr y, vi 6] [(.int 6), (.int 6)])
 refine Gz (XS.isub X0.here hx rfl (hb hby d9_3) rfl) ?_
 show Goes _ _ _ _ _ (fT s₁ m 4 #[vr y, vi 6] [(.int 0)])
 refine gB X0 hx hby d9_4 ?_
 show Goes _ _ _ _ _ (fT s₁ m 6 #[vr y, vi 6] [(.int 31), (.int 0)])
 refine Gz (XS.iushr X0.here hx rfl (hb hby d9_6) rfl) ?_
 rw [show (((0 : Int32).toUInt32 >>> ((31 : Int32) &&& 31).toUInt32).toInt32) = (0 : Int32) from by decide]
 show Goes _ _ _ _ _ (fT s₁ m 7 #[vr y, vi 6] [(.int 0)])
 refine Gz (XS.i2b X0.here hx rfl (hb hby d9_7) rfl) ?_
 rw [show ((0 : Int32).toInt8.toInt32) = (0 : Int32) from by decide]
 show Goes _ _ _ _ _ (fT s₁ m 8 #[vr y, vi 6] [(.int 0)])
 refine Goes.ret X0 (some (.int 0)) (fun h => by rw [hret] at h; cases h) hlk (by decide) (by decide) ?_ (fun fs hr => ?_)
 ·exact ⟨rfl, N0, e0⟩
 ·exact own_retN X0 hx (t := .byte) hret (by simp) rfl (hb hby d9_8) hr
theorem own_ef_rs_i4_6 (m : MethodId) (x0 : Addr) (x1 : Addr) : entryFrame m #[(.ref x0), (.ref x1), (.int 0), (.int 6), .null] 6 = mkF m 0 #[vr x0, vr x1, vi 0, vi 6, .val .null, vu] [] := by first | (simp [entryFrame, mkF, argsToLocals, Value.category]; done) | rfl
def Q_rs_i4_6 (Z : State) (a : Addr) (x : Addr) (kx : ClassId) (c0 : Int32) (c1 : Int32) (c2 : Int32) (c3 : Int32) (c4 : Int32) (c5 : Int32) (cz : Int32) (h0 : Heap) (n0 : Nat) (v : Option Value) (h : Heap) (L : List Loc) : Prop := v = none ∧ Fr n0 L ∧ Keep h0 h [a] ∧ StrOf Z h a [c0, c1, c2, c3, c4, c5]
theorem rs_i4_6 (l : Launch) (Z : State) (a0 : Array Value) (hw : HW a0 Z) (ws : List Jvm.Cond) (a : Addr) (x : Addr) (kx : ClassId) (c0 : Int32) (c1 : Int32) (c2 : Int32) (c3 : Int32) (c4 : Int32) (c5 : Int32) (cz : Int32) (h0 : Heap) (n0 : Nat) (Z0 : n0 ≤ h0.size) (A_a : Exa Z h0 a "java/lang/String") (F_value_a : Fld Z h0 a "java/lang/String" "value" "[B" .null) (F_coder_a : Fld Z h0 a "java/lang/String" "coder" "B" (.int 0)) (V_x : Arv Z h0 x kx .char 6 [(.int c0), (.int c1), (.int c2), (.int c3), (.int c4), (.int c5)] (.int 0)) (g_a : n0 ≤ a) (ne_x_a : x ≠ a) (sgC : Sta Z h0 "java/lang/String" "COMPACT_STRINGS" "Z" (.int cz)) (hcz : ¬ (cz = 0)) (hL_c0 : Lat c0) (hL_c1 : Lat c1) (hL_c2 : Lat c2) (hL_c3 : Lat c3) (hL_c4 : Lat c4) (hL_c5 : Lat c5) :
  Met l Z mN10 jdk_42_method_149_code 6 none ({ frames := 2, cells := 1, slots := 6, locals := 35 } : Room) ws #[(.ref a), (.ref x), (.int 0), (.int 6), .null] h0 (Q_rs_i4_6 Z a x kx c0 c1 c2 c3 c4 c5 cz h0 n0) := by
 refine own_met (plainFor_of_name own_pn0) ?_
 intro p e s m below meth c s₁ hret hx hby hlk hml hown hnm X0 e0 hZ hh
 have N0 := Fr.nil n0
 refine Gz (castTop (own_ef_rs_i4_6 m a x)) ?_
 have KP : Keep h0 h0 [a] := Keep.refl _ _
 show Goes _ _ _ _ _ (fT s₁ m 0 #[vr a, vr x, vi 0, vi 6, .val .null, vu] [])
 have hn_c0 := own_latN hL_c0
 have hn_c1 := own_latN hL_c1
 have hn_c2 := own_latN hL_c2
 have hn_c3 := own_latN hL_c3
 have hn_c4 := own_latN hL_c4
 have hn_c5 := own_latN hL_c5
 refine gA X0 hx hby d10_0 rfl rfl rfl ?_
 obtain ⟨T1, X1, e1, st1⟩ := initO X0 hx hZ hown (gw hw 18 rfl) (gw hw 19 rfl) (gw hw 20 rfl) e0 (g := (mkF m 1 #[vr a, vr x, vi 0, vi 6, .val .null, vu] [(.ref a)])) rfl hml.symm rfl (hb hby d10_1) (by decide) (W := 0) (wz rfl) (by decide)
 refine Gs st1 ?_
 show Goes _ _ _ _ _ (fT T1 m 4 #[vr a, vr x, vi 0, vi 6, .val .null, vu] [])
 refine gN X1 hx hby d10_4 rfl rfl ?_
 refine gy X1 hx hby d10_5 5 27 ((if0 _ _).trans (feq (by decide : ¬ ((6 : Int32) = (0 : Int32)))).2) ?_
 obtain ⟨T2, X2, e2, st2⟩ := getS2 X1 hx hZ hown (host := "") (Or.inl (gw hw 21 rfl)) Via.refl e1 sgC (g := (mkF m 27 #[vr a, vr x, vi 0, vi 6, .val .null, vu] [])) rfl (hb hby d10_27)
 refine Gs st2 ?_
 show Goes _ _ _ _ _ (fT T2 m 30 #[vr a, vr x, vi 0, vi 6, .val .null, vu] [(.int cz)])
 refine gu X2 hx hby d10_30 ((if0 _ _).trans (feq hcz).1) ?_
 refine gA X2 hx hby d10_33 rfl rfl rfl ?_
 refine gN X2 hx hby d10_34 rfl rfl ?_
 refine gN X2 hx hby d10_35 rfl rfl ?_
 have ltc3_a : a < h0.size := A_a.lt
 have ltc3_x : x < h0.size := V_x.lt
 refine cSg X2 hx hZ hw hown hby hml e2 mN8 22 23 25 24 0 (rs_c3_6 l Z a0 hw [] x kx c0 c1 c2 c3 c4 c5 h0 n0 Z0 V_x hL_c0 hL_c1 hL_c2 hL_c3 hL_c4 hL_c5) d10_36 (lenOf own_pd6 rfl) (fun _ T3 L3 X3 hQ3 => ?_)
 obtain ⟨y3, ky3, rfl, N3q, K3, V_y3_3', g_y3_3', sz_y3_3'⟩ := hQ3
 have N3 := Fr.app N0 N3q
 replace A_a := A_a.keep K3
 replace F_value_a := F_value_a.keep K3 nin0
 replace F_coder_a := F_coder_a.keep K3 nin0
 replace KP := KP.trans K3 all0
 replace Z0 := Nat.le_trans Z0 K3.1
 have V_y3 := V_y3_3'
 have g_y3 := g_y3_3'
 have szc_y3 := sz_y3_3'
 have ne_a_y3 : a ≠ y3 := Nat.ne_of_lt (Nat.lt_of_lt_of_le ltc3_a szc_y3)
 have ne_x_y3 : x ≠ y3 := Nat.ne_of_lt (Nat.lt_of_lt_of_le ltc3_x szc_y3)
 show Goes _ _ _ _ _ (fT T3 m 39 #[vr a, vr x, vi 0, vi 6, .val .null, vu] [(.ref y3)])
 refine Gz (XS.astore X3.here hx rfl (hb hby d10_39) rfl rfl (l' := #[vr a, vr x, vi 0, vi 6, .val .null, vr y3]) rfl) ?_
 refine gA X3 hx hby d10_41 rfl rfl rfl ?_
 refine Gz (XS.aload X3.here hx rfl (hb hby d10_42) rfl rfl) ?_
 refine gN X3 hx hby d10_44 rfl rfl ?_
 refine cS X3 hx hZ hw hown hby hml rfl mN9 30 31 32 24 1 (rs_cf_6 l Z a0 hw [] y3 ky3 [(.int (lo8 c0)), (.int (lo8 c1)), (.int (lo8 c2)), (.int (lo8 c3)), (.int (lo8 c4)), (.int (lo8 c5))] T3.heap n0 Z0 V_y3) d10_45 (lenOf own_pd7 rfl) N3 (fun T4 L4 X4 e4 N4 => ?_)
 show Goes _ _ _ _ _ (fT T4 m 48 #[vr a, vr x, vi 0, vi 6, .val .null, vr y3] [(.int 0), (.ref a)])
 obtain ⟨T5, h5, X5, e5, W5, st5⟩ := putFN X4 hx hZ hown (gw hw 33 rfl) Via.refl e4 F_coder_a A_a (Or.inr ⟨(gw hw 34 rfl), rfl, hnm⟩) (gw hw 8 rfl) (ty := .byte) (v' := .int 0) (by decide) rfl rfl (g := (mkF m 48 #[vr a, vr x, vi 0, vi 6, .val .null, vr y3] [(.int 0), (.ref a)])) rfl rfl (hb hby d10_48)
 have N5 := Fr.snoc X5 N4 g_a
 replace A_a := A_a.wr W5
 replace F_value_a := F_value_a.other W5 (Or.inr (slot_ne (Or.inr (gw hw 36 rfl)) (Or.inr (gw hw 34 rfl)) (by decide) (t := (.array .byte)) (t' := .byte) (by decide) (by decide)))
 replace V_y3 := V_y3.other W5 (Ne.symm ne_a_y3)
 replace KP := KP.wr W5 (Or.inl (List.mem_of_getElem? (i := 0) rfl))
 replace F_coder_a := F_coder_a.same W5
 replace Z0 : n0 ≤ h5.size := by rw [W5.size]; exact Z0
 refine Gs st5 ?_
 show Goes _ _ _ _ _ (fT T5 m 51 #[vr a, vr x, vi 0, vi 6, .val .null, vr y3] [])
 refine gA X5 hx hby d10_51 rfl rfl rfl ?_
 refine Gz (XS.aload X5.here hx rfl (hb hby d10_52) rfl rfl) ?_
 obtain ⟨T6, h6, X6, e6, W6, st6⟩ := putF X5 hx hZ hown (host := "") (Or.inl (gw hw 35 rfl)) Via.refl e5 F_value_a A_a (Or.inr ⟨(gw hw 36 rfl), rfl, hnm⟩) (gw hw 8 rfl) (ty := (.array .byte)) (by decide) rfl rfl (g := (mkF m 54 #[vr a, vr x, vi 0, vi 6, .val .null, vr y3] [(.ref y3), (.ref a)])) rfl rfl (hb hby d10_54)
 have N6 := Fr.snoc X6 N5 g_a
 replace A_a := A_a.wr W6
 replace F_coder_a := F_coder_a.other W6 (Or.inr (slot_ne (Or.inr (gw hw 34 rfl)) (Or.inr (gw hw 36 rfl)) (by decide) (t := .byte) (t' := (.array .byte)) (by decide) (by decide)))
 replace V_y3 := V_y3.other W6 (Ne.symm ne_a_y3)
 replace KP := KP.wr W6 (Or.inl (List.mem_of_getElem? (i := 0) rfl))
 replace F_value_a := F_value_a.same W6
 replace Z0 : n0 ≤ h6.size := by rw [W6.size]; exact Z0
 refine Gs st6 ?_
 show Goes _ _ _ _ _ (fT T6 m 57 #[vr a, vr x, vi 0, vi 6, .val .null, vr y3] [])
 have T_a : StrOf Z h6 a [c0, c1, c2, c3, c4, c5] := StrOf.latin A_a F_value_a F_coder_a V_y3 (by intro c hc; simp only [List.mem_cons, List.not_mem_nil, or_false] at hc; rcases hc with rfl | rfl | rfl | rfl | rfl | rfl <;> assumption) rfl rfl (Nat.le_of_ble_eq_true rfl)
 refine Goes.ret X6 none (fun _ => rfl) hlk (by decide) (by decide) ?_ (fun fs hr => ?_)
 ·rw [e6]; exact ⟨rfl, N6, KP, T_a⟩
 ·exact X6.returnOut hx hret (hb hby d10_57) hr
theorem own_ef_rs_i1_6 (m : MethodId) (x0 : Addr) (x1 : Addr) : entryFrame m #[(.ref x0), (.ref x1)] 2 = mkF m 0 #[vr x0, vr x1] [] := by first | (simp [entryFrame, mkF, argsToLocals, Value.category]; done) | rfl
def Q_rs_i1_6 (Z : State) (a : Addr) (x : Addr) (kx : ClassId) (c0 : Int32) (c1 : Int32) (c2 : Int32) (c3 : Int32) (c4 : Int32) (c5 : Int32) (cz : Int32) (h0 : Heap) (n0 : Nat) (v : Option Value) (h : Heap) (L : List Loc) : Prop := v = none ∧ Fr n0 L ∧ Keep h0 h [a] ∧ StrOf Z h a [c0, c1, c2, c3, c4, c5]
theorem rs_i1_6 (l : Launch) (Z : State) (a0 : Array Value) (hw : HW a0 Z) (ws : List Jvm.Cond) (a : Addr) (x : Addr) (kx : ClassId) (c0 : Int32) (c1 : Int32) (c2 : Int32) (c3 : Int32) (c4 : Int32) (c5 : Int32) (cz : Int32) (h0 : Heap) (n0 : Nat) (Z0 : n0 ≤ h0.size) (A_a : Exa Z h0 a "java/lang/String") (F_value_a : Fld Z h0 a "java/lang/String" "value" "[B" .null) (F_coder_a : Fld Z h0 a "java/lang/String" "coder" "B" (.int 0)) (V_x : Arv Z h0 x kx .char 6 [(.int c0), (.int c1), (.int c2), (.int c3), (.int c4), (.int c5)] (.int 0)) (g_a : n0 ≤ a) (ne_x_a : x ≠ a) (sgC : Sta Z h0 "java/lang/String" "COMPACT_STRINGS" "Z" (.int cz)) (hcz : ¬ (cz = 0)) (hL_c0 : Lat c0) (hL_c1 : Lat c1) (hL_c2 : Lat c2) (hL_c3 : Lat c3) (hL_c4 : Lat c4) (hL_c5 : Lat c5) :
  Met l Z mN11 jdk_42_method_3_code 2 none ({ frames := 3, cells := 1, slots := 6, locals := 52 } : Room) ws #[(.ref a), (.ref x)] h0 (Q_rs_i1_6 Z a x kx c0 c1 c2 c3 c4 c5 cz h0 n0) := by
 refine own_met (plainFor_of_name own_pn0) ?_
 intro p e s m below meth c s₁ hret hx hby hlk hml hown hnm X0 e0 hZ hh
 have N0 := Fr.nil n0
 refine Gz (castTop (own_ef_rs_i1_6 m a x)) ?_
 have KP : Keep h0 h0 [a] := Keep.refl _ _
 show Goes _ _ _ _ _ (fT s₁ m 0 #[vr a, vr x] [])
 refine gA X0 hx hby d11_0 rfl rfl rfl ?_
 refine gA X0 hx hby d11_1 rfl rfl rfl ?_
 refine gC X0 hx hby d11_2 ?_
 refine gA X0 hx hby d11_3 rfl rfl rfl ?_
 obtain ⟨cl1, Ar1, -, S1, N1z, -, -⟩ := id V_x
 refine Gs (fun _ tk => X0.arraylength hx (by rw [e0]; exact Ar1.1) (State.isArrayOf_alike hZ.alike Ar1.2.1) (g := (mkF m 4 #[vr a, vr x] [(.ref x), (.int 0), (.ref x), (.ref a)])) rfl rfl (hb hby d11_4) _ tk) ?_
 rw [len_of S1 N1z]
 show Goes _ _ _ _ _ (fT s₁ m 5 #[vr a, vr x] [(.int 6), (.int 0), (.ref x), (.ref a)])
 refine Gz (XS.aconstNull X0.here hx rfl (hb hby d11_5)) ?_
 refine cIg X0 hx hZ hw hown hby hml e0 mN10 14 15 17 9 0 (rs_i4_6 l Z a0 hw [] a x kx c0 c1 c2 c3 c4 c5 cz h0 n0 Z0 A_a F_value_a F_coder_a V_x g_a ne_x_a sgC hcz hL_c0 hL_c1 hL_c2 hL_c3 hL_c4 hL_c5) d11_6 (lenOf own_pd8 rfl) (fun _ T2 L2 X2 hQ2 => ?_)
 obtain ⟨rfl, N2q, K2, T_a_2'⟩ := hQ2
 have N2 := Fr.app N0 N2q
 replace KP := KP.trans K2 (allS (Or.inl (List.mem_of_getElem? (i := 0) rfl)) all0)
 replace Z0 := Nat.le_trans Z0 K2.1
 have T_a := T_a_2'
 show Goes _ _ _ _ _ (fT T2 m 9 #[vr a, vr x] [])
 refine Goes.ret X2 none (fun _ => rfl) hlk (by decide) (by decide) ?_ (fun fs hr => ?_)
 ·exact ⟨rfl, N2, KP, T_a⟩
 ·exact X2.returnOut hx hret (hb hby d11_9) hr
theorem d12_0 : DK kc0 0 (.aload_n 0) 1 := by decide +kernel
theorem d12_1 : DK kc0 1 (.invokespecial 1) 3 := by decide +kernel
theorem d12_4 : DK kc0 4 .return_ 1 := by decide +kernel
theorem own_pn4 : plainName "java/lang/Record" = true := by first | (simp [plainName, overriddenIn]; done) | decide +kernel
theorem own_ef_rm_rec (m : MethodId) (x0 : Addr) : entryFrame m #[(.ref x0)] 1 = mkF m 0 #[vr x0] [] := by first | (simp [entryFrame, mkF, argsToLocals, Value.category]; done) | rfl
def Q_rm_rec (Z : State) (a : Addr) (h0 : Heap) (n0 : Nat) (v : Option Value) (h : Heap) (L : List Loc) : Prop := v = none ∧ Fr n0 L ∧ h = h0
theorem rm_rec (l : Launch) (Z : State) (a0 : Array Value) (hw : HW a0 Z) (ws : List Jvm.Cond) (a : Addr) (h0 : Heap) (n0 : Nat) (Z0 : n0 ≤ h0.size) :
  Met l Z mN12 jdk_30_method_1_code 1 none ({ frames := 1, cells := 0, slots := 0, locals := 12 } : Room) ws #[(.ref a)] h0 (Q_rm_rec Z a h0 n0) := by
 refine own_met (plainFor_of_name own_pn4) ?_
 intro p e s m below meth c s₁ hret hx hby hlk hml hown hnm X0 e0 hZ hh
 have N0 := Fr.nil n0
 refine Gz (castTop (own_ef_rm_rec m a)) ?_
 show Goes _ _ _ _ _ (fT s₁ m 0 #[vr a] [])
 refine gA X0 hx hby d12_0 rfl rfl rfl ?_
 obtain ⟨T1, X1, e1, st1⟩ := initO X0 hx hZ hown (gw hw 113 rfl) (gw hw 19 rfl) (gw hw 20 rfl) e0 (g := (mkF m 1 #[vr a] [(.ref a)])) rfl hml.symm rfl (hb hby d12_1) (by decide) (W := 0) (wz rfl) (by decide)
 refine Gs st1 ?_
 show Goes _ _ _ _ _ (fT T1 m 4 #[vr a] [])
 refine Goes.ret X1 none (fun _ => rfl) hlk (by decide) (by decide) ?_ (fun fs hr => ?_)
 ·exact ⟨rfl, N0, e1⟩
 ·exact X1.returnOut hx hret (hb hby d12_4) hr
theorem d13_0 : DK kc20 0 (.aload_n 0) 1 := by decide +kernel
theorem d13_1 : DK kc20 1 (.invokespecial 1) 3 := by decide +kernel
theorem own_pd9 : parseMethodDescriptor "()V" = some ⟨[], none⟩ := by decide +kernel
theorem d13_4 : DK kc20 4 (.aload_n 0) 1 := by decide +kernel
theorem d13_5 : DK kc20 5 (.iload_n 1) 1 := by decide +kernel
theorem d13_6 : DK kc20 6 (.putfield 7) 3 := by decide +kernel
theorem d13_9 : DK kc20 9 (.aload_n 0) 1 := by decide +kernel
theorem d13_10 : DK kc20 10 (.iload_n 2) 1 := by decide +kernel
theorem d13_11 : DK kc20 11 (.putfield 13) 3 := by decide +kernel
theorem d13_14 : DK kc20 14 .return_ 1 := by decide +kernel
theorem own_pn5 : plainName "com/example/modest_billing/modestbilling/Money$Shape" = true := by first | (simp [plainName, overriddenIn]; done) | decide +kernel
theorem own_ef_rm_shi (m : MethodId) (x0 : Addr) (x1 : Int32) (x2 : Int32) : entryFrame m #[(.ref x0), (.int x1), (.int x2)] 3 = mkF m 0 #[vr x0, vi x1, vi x2] [] := by first | (simp [entryFrame, mkF, argsToLocals, Value.category]; done) | rfl
def Q_rm_shi (Z : State) (a : Addr) (x : Int32) (y : Int32) (h0 : Heap) (n0 : Nat) (v : Option Value) (h : Heap) (L : List Loc) : Prop := v = none ∧ Fr n0 L ∧ Keep h0 h [a] ∧ Fld Z h a "com/example/modest_billing/modestbilling/Money$Shape" "signum" "I" (.int x)
theorem rm_shi (l : Launch) (Z : State) (a0 : Array Value) (hw : HW a0 Z) (ws : List Jvm.Cond) (a : Addr) (x : Int32) (y : Int32) (h0 : Heap) (n0 : Nat) (Z0 : n0 ≤ h0.size) (A_a : Exa Z h0 a "com/example/modest_billing/modestbilling/Money$Shape") (F_signum_a : Fld Z h0 a "com/example/modest_billing/modestbilling/Money$Shape" "signum" "I" (.int 0)) (F_fractionDigits_a : Fld Z h0 a "com/example/modest_billing/modestbilling/Money$Shape" "fractionDigits" "I" (.int 0)) (g_a : n0 ≤ a) :
  Met l Z mN13 prog_30_method_1_code 3 none ({ frames := 2, cells := 0, slots := 0, locals := 24 } : Room) ws #[(.ref a), (.int x), (.int y)] h0 (Q_rm_shi Z a x y h0 n0) := by
 refine own_met (plainFor_of_name own_pn5) ?_
 intro p e s m below meth c s₁ hret hx hby hlk hml hown hnm X0 e0 hZ hh
 have N0 := Fr.nil n0
 refine Gz (castTop (own_ef_rm_shi m a x y)) ?_
 have KP : Keep h0 h0 [a] := Keep.refl _ _
 show Goes _ _ _ _ _ (fT s₁ m 0 #[vr a, vi x, vi y] [])
 refine gA X0 hx hby d13_0 rfl rfl rfl ?_
 refine cI X0 hx hZ hw hown hby hml e0 mN12 108 109 112 111 0 (rm_rec l Z a0 hw [] a h0 n0 Z0) d13_1 (lenOf own_pd9 rfl) N0 (fun T1 L1 X1 e1 N1 => ?_)
 show Goes _ _ _ _ _ (fT T1 m 4 #[vr a, vi x, vi y] [])
 refine gA X1 hx hby d13_4 rfl rfl rfl ?_
 refine gN X1 hx hby d13_5 rfl rfl ?_
 obtain ⟨T2, h2, X2, e2, W2, st2⟩ := putF X1 hx hZ hown (host := "") (Or.inl (gw hw 114 rfl)) Via.refl e1 F_signum_a A_a (Or.inr ⟨(gw hw 115 rfl), rfl, hnm⟩) (gw hw 103 rfl) (ty := .int) (by decide) rfl rfl (g := (mkF m 6 #[vr a, vi x, vi y] [(.int x), (.ref a)])) rfl rfl (hb hby d13_6)
 have N2 := Fr.snoc X2 N1 g_a
 replace A_a := A_a.wr W2
 replace F_fractionDigits_a := F_fractionDigits_a.other W2 (Or.inr (slot_ne (Or.inr (gw hw 117 rfl)) (Or.inr (gw hw 115 rfl)) (by decide) (t := .int) (t' := .int) (by decide) (by decide)))
 replace KP := KP.wr W2 (Or.inl (List.mem_of_getElem? (i := 0) rfl))
 replace F_signum_a := F_signum_a.same W2
 replace Z0 : n0 ≤ h2.size := by rw [W2.size]; exact Z0
 refine Gs st2 ?_
 show Goes _ _ _ _ _ (fT T2 m 9 #[vr a, vi x, vi y] [])
 refine gA X2 hx hby d13_9 rfl rfl rfl ?_
 refine gN X2 hx hby d13_10 rfl rfl ?_
 obtain ⟨T3, h3, X3, e3, W3, st3⟩ := putF X2 hx hZ hown (host := "") (Or.inl (gw hw 116 rfl)) Via.refl e2 F_fractionDigits_a A_a (Or.inr ⟨(gw hw 117 rfl), rfl, hnm⟩) (gw hw 103 rfl) (ty := .int) (by decide) rfl rfl (g := (mkF m 11 #[vr a, vi x, vi y] [(.int y), (.ref a)])) rfl rfl (hb hby d13_11)
 have N3 := Fr.snoc X3 N2 g_a
 replace F_signum_a := F_signum_a.other W3 (Or.inr (slot_ne (Or.inr (gw hw 115 rfl)) (Or.inr (gw hw 117 rfl)) (by decide) (t := .int) (t' := .int) (by decide) (by decide)))
 replace KP := KP.wr W3 (Or.inl (List.mem_of_getElem? (i := 0) rfl))
 replace Z0 : n0 ≤ h3.size := by rw [W3.size]; exact Z0
 refine Gs st3 ?_
 show Goes _ _ _ _ _ (fT T3 m 14 #[vr a, vi x, vi y] [])
 refine Goes.ret X3 none (fun _ => rfl) hlk (by decide) (by decide) ?_ (fun fs hr => ?_)
 ·rw [e3]; exact ⟨rfl, N3, KP, F_signum_a⟩
 ·exact X3.returnOut hx hret (hb hby d13_14) hr
theorem d14_0 : DK kc21 0 (.aload_n 0) 1 := by decide +kernel
theorem d14_1 : DK kc21 1 (.getfield 7) 3 := by decide +kernel
theorem d14_4 : DK kc21 4 .ireturn 1 := by decide +kernel
theorem own_ef_rm_sgn (m : MethodId) (x0 : Addr) : entryFrame m #[(.ref x0)] 1 = mkF m 0 #[vr x0] [] := by first | (simp [entryFrame, mkF, argsToLocals, Value.category]; done) | rfl
def Q_rm_sgn (Z : State) (a : Addr) (x : Int32) (h0 : Heap) (n0 : Nat) (v : Option Value) (h : Heap) (L : List Loc) : Prop := v = some (.int x) ∧ Fr n0 L ∧ h = h0
theorem rm_sgn (l : Launch) (Z : State) (a0 : Array Value) (hw : HW a0 Z) (ws : List Jvm.Cond) (a : Addr) (x : Int32) (h0 : Heap) (n0 : Nat) (Z0 : n0 ≤ h0.size) (F_signum_a : Fld Z h0 a "com/example/modest_billing/modestbilling/Money$Shape" "signum" "I" (.int x)) :
  Met l Z mN14 prog_30_method_5_code 1 (some .int) ({ frames := 0, cells := 0, slots := 0, locals := 0 } : Room) ws #[(.ref a)] h0 (Q_rm_sgn Z a x h0 n0) := by
 refine own_met (plainFor_of_name own_pn5) ?_
 intro p e s m below meth c s₁ hret hx hby hlk hml hown hnm X0 e0 hZ hh
 have N0 := Fr.nil n0
 refine Gz (castTop (own_ef_rm_sgn m a)) ?_
 show Goes _ _ _ _ _ (fT s₁ m 0 #[vr a] [])
 refine gA X0 hx hby d14_0 rfl rfl rfl ?_
 obtain ⟨T1, X1, e1, st1⟩ := getF X0 hx hZ hown (host := "") (Or.inl (gw hw 114 rfl)) Via.refl e0 F_signum_a (g := (mkF m 1 #[vr a] [(.ref a)])) rfl rfl (hb hby d14_1)
 refine Gs st1 ?_
 show Goes _ _ _ _ _ (fT T1 m 4 #[vr a] [(.int x)])
 refine Goes.ret X1 (some (.int x)) (fun h => by rw [hret] at h; cases h) hlk (by decide) (by decide) ?_ (fun fs hr => ?_)
 ·exact ⟨rfl, N0, e1⟩
 ·exact retI X1 hx hret (hb hby d14_4) hr
theorem d15_0 : DK kc1 0 (.aload_n 0) 1 := by decide +kernel
theorem d15_1 : DK kc1 1 (.ifnonnull 12) 3 := by decide +kernel
theorem d15_13 : DK kc1 13 (.aload_n 0) 1 := by decide +kernel
theorem d15_14 : DK kc1 14 .areturn 1 := by decide +kernel
theorem own_pn6 : plainName "java/util/Objects" = true := by first | (simp [plainName, overriddenIn]; done) | decide +kernel
theorem own_ef_rm_nn (m : MethodId) (x0 : Addr) (x1 : Addr) : entryFrame m #[(.ref x0), (.ref x1)] 2 = mkF m 0 #[vr x0, vr x1] [] := by first | (simp [entryFrame, mkF, argsToLocals, Value.category]; done) | rfl
def Q_rm_nn (Z : State) (a : Addr) (b : Addr) (h0 : Heap) (n0 : Nat) (v : Option Value) (h : Heap) (L : List Loc) : Prop := v = some (.ref a) ∧ Fr n0 L ∧ h = h0
theorem rm_nn (l : Launch) (Z : State) (a0 : Array Value) (hw : HW a0 Z) (ws : List Jvm.Cond) (a : Addr) (b : Addr) (h0 : Heap) (n0 : Nat) (Z0 : n0 ≤ h0.size) :
  Met l Z mN15 jdk_31_method_11_code 2 (some (.object "java/lang/Object")) ({ frames := 0, cells := 0, slots := 0, locals := 0 } : Room) ws #[(.ref a), (.ref b)] h0 (Q_rm_nn Z a b h0 n0) := by
 refine own_met (plainFor_of_name own_pn6) ?_
 intro p e s m below meth c s₁ hret hx hby hlk hml hown hnm X0 e0 hZ hh
 have N0 := Fr.nil n0
 refine Gz (castTop (own_ef_rm_nn m a b)) ?_
 show Goes _ _ _ _ _ (fT s₁ m 0 #[vr a, vr b] [])
 refine gA X0 hx hby d15_0 rfl rfl rfl ?_
 refine Gz (XS.ifnonnullYes X0.here hx rfl (pc0 := 1) (pc' := 13) rfl (hb hby d15_1) rfl (by decide) (by decide)) ?_
 refine gA X0 hx hby d15_13 rfl rfl rfl ?_
 refine Goes.ret X0 (some (.ref a)) (fun h => by rw [hret] at h; cases h) hlk (by decide) (by decide) ?_ (fun fs hr => ?_)
 ·exact ⟨rfl, N0, e0⟩
 ·exact own_retA X0 hx hret rfl rfl (hb hby d15_14) hr
theorem d16_0 : decode method_2_code 0 = .ok (.bipush 48, 2) := by decide +kernel
theorem d16_2 : decode method_2_code 2 = .ok (.iload_n 0, 1) := by decide +kernel
theorem d16_3 : decode method_2_code 3 = .ok (.iadd, 1) := by decide +kernel
theorem d16_4 : decode method_2_code 4 = .ok (.i2c, 1) := by decide +kernel
theorem d16_5 : decode method_2_code 5 = .ok (.ireturn, 1) := by decide +kernel
theorem own_pn7 : plainName "com/example/modest_billing/modestbilling/MoneySignOfPinLaw" = true := by first | (simp [plainName, overriddenIn]; done) | decide +kernel
theorem own_ef_rm_digit0 (m : MethodId) (x0 : Int32) : entryFrame m #[(.int x0)] 1 = mkF m 0 #[vi x0] [] := by first | (simp [entryFrame, mkF, argsToLocals, Value.category]; done) | rfl
def Q_rm_digit0 (Z : State) (q : Int32) (h0 : Heap) (n0 : Nat) (v : Option Value) (h : Heap) (L : List Loc) : Prop := ∃ r : Int32, v = some (.int r) ∧ Fr n0 L ∧ h = h0 ∧ Dig r
theorem rm_digit0 (l : Launch) (Z : State) (a0 : Array Value) (hw : HW a0 Z) (ws : List Jvm.Cond) (q : Int32) (h0 : Heap) (n0 : Nat) (Z0 : n0 ≤ h0.size) (hq : 0 ≤ q.toInt ∧ q.toInt ≤ 9) :
  Met l Z mN16 method_2_code 1 (some .char) ({ frames := 0, cells := 0, slots := 0, locals := 0 } : Room) ws #[(.int q)] h0 (Q_rm_digit0 Z q h0 n0) := by
 refine own_met (plainFor_of_name own_pn7) ?_
 intro p e s m below meth c s₁ hret hx hby hlk hml hown hnm X0 e0 hZ hh
 have N0 := Fr.nil n0
 refine Gz (castTop (own_ef_rm_digit0 m q)) ?_
 show Goes _ _ _ _ _ (fT s₁ m 0 #[vi q] [])
 refine gB X0 hx hby d16_0 ?_
 refine gN X0 hx hby d16_2 rfl rfl ?_
 show Goes _ _ _ _ _ (fT s₁ m 3 #[vi q] [(.int q), (.int 48)])
 refine Gz (XS.iadd X0.here hx rfl (hb hby d16_3) rfl) ?_
 show Goes _ _ _ _ _ (fT s₁ m 4 #[vi q] [(.int ((48 : Int32) + q))])
 refine Gz (XS.i2c X0.here hx rfl (hb hby d16_4) rfl) ?_
 show Goes _ _ _ _ _ (fT s₁ m 5 #[vi q] [(.int (((48 : Int32) + q).toUInt32.toUInt16.toUInt32.toInt32))])
 refine Goes.ret X0 (some (.int (((48 : Int32) + q).toUInt32.toUInt16.toUInt32.toInt32))) (fun h => by rw [hret] at h; cases h) hlk (by decide) (by decide) ?_ (fun fs hr => ?_)
 ·exact ⟨(((48 : Int32) + q).toUInt32.toUInt16.toUInt32.toInt32), rfl, N0, e0, (own_dig hq).1⟩
 ·exact own_retN X0 hx (t := .char) hret (by simp) (own_nc (own_dig hq).1.lat.chr) (hb hby d16_5) hr
theorem own_ef_rm_digit1 (m : MethodId) (x0 : Int32) : entryFrame m #[(.int x0)] 1 = mkF m 0 #[vi x0] [] := by first | (simp [entryFrame, mkF, argsToLocals, Value.category]; done) | rfl
def Q_rm_digit1 (Z : State) (q : Int32) (h0 : Heap) (n0 : Nat) (v : Option Value) (h : Heap) (L : List Loc) : Prop := ∃ r : Int32, v = some (.int r) ∧ Fr n0 L ∧ h = h0 ∧ Dig r ∧ ¬ (r = 48)
theorem rm_digit1 (l : Launch) (Z : State) (a0 : Array Value) (hw : HW a0 Z) (ws : List Jvm.Cond) (q : Int32) (h0 : Heap) (n0 : Nat) (Z0 : n0 ≤ h0.size) (hq : 0 ≤ q.toInt ∧ q.toInt ≤ 9) (hq1 : 1 ≤ q.toInt) :
  Met l Z mN16 method_2_code 1 (some .char) ({ frames := 0, cells := 0, slots := 0, locals := 0 } : Room) ws #[(.int q)] h0 (Q_rm_digit1 Z q h0 n0) := by
 refine own_met (plainFor_of_name own_pn7) ?_
 intro p e s m below meth c s₁ hret hx hby hlk hml hown hnm X0 e0 hZ hh
 have N0 := Fr.nil n0
 refine Gz (castTop (own_ef_rm_digit1 m q)) ?_
 show Goes _ _ _ _ _ (fT s₁ m 0 #[vi q] [])
 refine gB X0 hx hby d16_0 ?_
 refine gN X0 hx hby d16_2 rfl rfl ?_
 show Goes _ _ _ _ _ (fT s₁ m 3 #[vi q] [(.int q), (.int 48)])
 refine Gz (XS.iadd X0.here hx rfl (hb hby d16_3) rfl) ?_
 show Goes _ _ _ _ _ (fT s₁ m 4 #[vi q] [(.int ((48 : Int32) + q))])
 refine Gz (XS.i2c X0.here hx rfl (hb hby d16_4) rfl) ?_
 show Goes _ _ _ _ _ (fT s₁ m 5 #[vi q] [(.int (((48 : Int32) + q).toUInt32.toUInt16.toUInt32.toInt32))])
 refine Goes.ret X0 (some (.int (((48 : Int32) + q).toUInt32.toUInt16.toUInt32.toInt32))) (fun h => by rw [hret] at h; cases h) hlk (by decide) (by decide) ?_ (fun fs hr => ?_)
 ·exact ⟨(((48 : Int32) + q).toUInt32.toUInt16.toUInt32.toInt32), rfl, N0, e0, (own_dig hq).1, ((own_dig hq).2 hq1)⟩
 ·exact own_retN X0 hx (t := .char) hret (by simp) (own_nc (own_dig hq).1.lat.chr) (hb hby d16_5) hr
theorem d17_0 : DK kc19 0 (.iload_n 0) 1 := by decide +kernel
theorem d17_1 : DK kc19 1 (.bipush 48) 2 := by decide +kernel
theorem d17_3 : DK kc19 3 (.if_icmp .lt 13) 3 := by decide +kernel
theorem d17_6 : DK kc19 6 (.iload_n 0) 1 := by decide +kernel
theorem d17_7 : DK kc19 7 (.bipush 57) 2 := by decide +kernel
theorem d17_9 : DK kc19 9 (.if_icmp .gt 7) 3 := by decide +kernel
theorem d17_12 : DK kc19 12 (.iconst 1) 1 := by decide +kernel
theorem d17_13 : DK kc19 13 (.goto 4) 3 := by decide +kernel
theorem d17_17 : DK kc19 17 .ireturn 1 := by decide +kernel
theorem own_pn8 : plainName "com/example/modest_billing/modestbilling/Money" = true := by first | (simp [plainName, overriddenIn]; done) | decide +kernel
theorem own_ef_rm_isd (m : MethodId) (x0 : Int32) : entryFrame m #[(.int x0)] 1 = mkF m 0 #[vi x0] [] := by first | (simp [entryFrame, mkF, argsToLocals, Value.category]; done) | rfl
def Q_rm_isd (Z : State) (r : Int32) (h0 : Heap) (n0 : Nat) (v : Option Value) (h : Heap) (L : List Loc) : Prop := v = some (.int 1) ∧ Fr n0 L ∧ h = h0
theorem rm_isd (l : Launch) (Z : State) (a0 : Array Value) (hw : HW a0 Z) (ws : List Jvm.Cond) (r : Int32) (h0 : Heap) (n0 : Nat) (Z0 : n0 ≤ h0.size) (h48 : ¬ (r < 48)) (h57 : ¬ ((57 : Int32) < r)) :
  Met l Z mN17 prog_29_method_9_code 1 (some .boolean) ({ frames := 0, cells := 0, slots := 0, locals := 0 } : Room) ws #[(.int r)] h0 (Q_rm_isd Z r h0 n0) := by
 refine own_met (plainFor_of_name own_pn8) ?_
 intro p e s m below meth c s₁ hret hx hby hlk hml hown hnm X0 e0 hZ hh
 have N0 := Fr.nil n0
 refine Gz (castTop (own_ef_rm_isd m r)) ?_
 show Goes _ _ _ _ _ (fT s₁ m 0 #[vi r] [])
 refine gN X0 hx hby d17_0 rfl rfl ?_
 refine gB X0 hx hby d17_1 ?_
 refine gU X0 hx hby d17_3 (flt h48).1 ?_
 refine gN X0 hx hby d17_6 rfl rfl ?_
 refine gB X0 hx hby d17_7 ?_
 refine gU X0 hx hby d17_9 (flt h57).2.2.1 ?_
 show Goes _ _ _ _ _ (fT s₁ m 12 #[vi r] [])
 refine gC X0 hx hby d17_12 ?_
 refine gG X0 hx hby d17_13 13 17 ?_
 refine Goes.ret X0 (some (.int 1)) (fun h => by rw [hret] at h; cases h) hlk (by decide) (by decide) ?_ (fun fs hr => ?_)
 ·exact ⟨rfl, N0, e0⟩
 ·exact own_retN X0 hx (t := .boolean) hret (by simp) rfl (hb hby d17_17) hr
theorem d17_16 : DK kc19 16 (.iconst 0) 1 := by decide +kernel
theorem own_ef_rm_isn (m : MethodId)  : entryFrame m #[(.int 46)] 1 = mkF m 0 #[vi 46] [] := by first | (simp [entryFrame, mkF, argsToLocals, Value.category]; done) | rfl
def Q_rm_isn (Z : State)  (h0 : Heap) (n0 : Nat) (v : Option Value) (h : Heap) (L : List Loc) : Prop := v = some (.int 0) ∧ Fr n0 L ∧ h = h0
theorem rm_isn (l : Launch) (Z : State) (a0 : Array Value) (hw : HW a0 Z) (ws : List Jvm.Cond)  (h0 : Heap) (n0 : Nat) (Z0 : n0 ≤ h0.size) :
  Met l Z mN17 prog_29_method_9_code 1 (some .boolean) ({ frames := 0, cells := 0, slots := 0, locals := 0 } : Room) ws #[(.int 46)] h0 (Q_rm_isn Z  h0 n0) := by
 refine own_met (plainFor_of_name own_pn8) ?_
 intro p e s m below meth c s₁ hret hx hby hlk hml hown hnm X0 e0 hZ hh
 have N0 := Fr.nil n0
 refine Gz (castTop (own_ef_rm_isn m )) ?_
 show Goes _ _ _ _ _ (fT s₁ m 0 #[vi 46] [])
 refine gN X0 hx hby d17_0 rfl rfl ?_
 refine gB X0 hx hby d17_1 ?_
 refine gY X0 hx hby d17_3 3 16 (tlt (by decide : ((46 : Int32) < (48 : Int32)))).1 ?_
 refine gC X0 hx hby d17_16 ?_
 refine Goes.ret X0 (some (.int 0)) (fun h => by rw [hret] at h; cases h) hlk (by decide) (by decide) ?_ (fun fs hr => ?_)
 ·exact ⟨rfl, N0, e0⟩
 ·exact own_retN X0 hx (t := .boolean) hret (by simp) rfl (hb hby d17_17) hr
theorem d18_0 : decode method_3_code 0 = .ok (.iload_n 0, 1) := by decide +kernel
theorem d18_1 : decode method_3_code 1 = .ok (.ifCond .ne 181, 3) := by decide +kernel
theorem d18_4 : decode method_3_code 4 = .ok (.iload_n 1, 1) := by decide +kernel
theorem d18_5 : decode method_3_code 5 = .ok (.iconst 1, 1) := by decide +kernel
theorem d18_6 : decode method_3_code 6 = .ok (.if_icmp .ne 82, 3) := by decide +kernel
theorem d18_9 : decode method_3_code 9 = .ok (.iload_n 2, 1) := by decide +kernel
theorem d18_10 : decode method_3_code 10 = .ok (.ifCond .ne 18, 3) := by decide +kernel
theorem d18_13 : decode method_3_code 13 = .ok (.new 7, 3) := by decide +kernel
theorem d18_16 : decode method_3_code 16 = .ok (.dup, 1) := by decide +kernel
theorem d18_17 : decode method_3_code 17 = .ok (.iconst 1, 1) := by decide +kernel
theorem d18_18 : decode method_3_code 18 = .ok (.newarray .char, 2) := by decide +kernel
theorem d18_20 : decode method_3_code 20 = .ok (.dup, 1) := by decide +kernel
theorem d18_21 : decode method_3_code 21 = .ok (.iconst 0, 1) := by decide +kernel
theorem d18_22 : decode method_3_code 22 = .ok (.iload_n 3, 1) := by decide +kernel
theorem d18_23 : decode method_3_code 23 = .ok (.castore, 1) := by decide +kernel
theorem d18_24 : decode method_3_code 24 = .ok (.invokespecial 9, 3) := by decide +kernel
theorem own_pd10 : parseMethodDescriptor "([C)V" = some ⟨[(.array .char)], none⟩ := by decide +kernel
theorem d18_27 : decode method_3_code 27 = .ok (.areturn, 1) := by decide +kernel
theorem own_ef_rm_text010 (m : MethodId) (x3 : Int32) (x4 : Int32) (x5 : Int32) (x6 : Int32) : entryFrame m #[(.int 0), (.int 1), (.int 0), (.int x3), (.int x4), (.int x5), (.int x6)] 7 = mkF m 0 #[vi 0, vi 1, vi 0, vi x3, vi x4, vi x5, vi x6] [] := by first | (simp [entryFrame, mkF, argsToLocals, Value.category]; done) | rfl
def Q_rm_text010 (Z : State) (d0 : Int32) (d1 : Int32) (f0 : Int32) (f1 : Int32) (cz : Int32) (h0 : Heap) (n0 : Nat) (v : Option Value) (h : Heap) (L : List Loc) : Prop := ∃ u : Addr, v = some (.ref u) ∧ Fr n0 L ∧ Keep h0 h [] ∧ StrOf Z h u [d0] ∧ n0 ≤ u ∧ h0.size ≤ u
theorem rm_text010 (l : Launch) (Z : State) (a0 : Array Value) (hw : HW a0 Z) (ws : List Jvm.Cond) (d0 : Int32) (d1 : Int32) (f0 : Int32) (f1 : Int32) (cz : Int32) (h0 : Heap) (n0 : Nat) (Z0 : n0 ≤ h0.size) (hD_d0 : Dig d0) (hD_d1 : Dig d1) (hD_f0 : Dig f0) (hD_f1 : Dig f1) (sgC : Sta Z h0 "java/lang/String" "COMPACT_STRINGS" "Z" (.int cz)) (hcz : ¬ (cz = 0)) :
  Met l Z mN18 method_3_code 7 (some (.object "java/lang/String")) ({ frames := 4, cells := 3, slots := 6, locals := 66 } : Room) ws #[(.int 0), (.int 1), (.int 0), (.int d0), (.int d1), (.int f0), (.int f1)] h0 (Q_rm_text010 Z d0 d1 f0 f1 cz h0 n0) := by
 refine own_met (plainFor_of_name own_pn7) ?_
 intro p e s m below meth c s₁ hret hx hby hlk hml hown hnm X0 e0 hZ hh
 have N0 := Fr.nil n0
 refine Gz (castTop (own_ef_rm_text010 m d0 d1 f0 f1)) ?_
 have KP : Keep h0 h0 [] := Keep.refl _ _
 show Goes _ _ _ _ _ (fT s₁ m 0 #[vi 0, vi 1, vi 0, vi d0, vi d1, vi f0, vi f1] [])
 refine gN X0 hx hby d18_0 rfl rfl ?_
 refine gu X0 hx hby d18_1 ((if0 _ _).trans (teq (by decide : ((0 : Int32) = (0 : Int32)))).2) ?_
 refine gN X0 hx hby d18_4 rfl rfl ?_
 refine gC X0 hx hby d18_5 ?_
 refine gU X0 hx hby d18_6 (teq (by decide : ((1 : Int32) = (1 : Int32)))).2 ?_
 refine gN X0 hx hby d18_9 rfl rfl ?_
 show Goes _ _ _ _ _ (fT s₁ m 10 #[vi 0, vi 1, vi 0, vi d0, vi d1, vi f0, vi f1] [(.int 0)])
 refine gu X0 hx hby d18_10 ((if0 _ _).trans (teq (by decide : ((0 : Int32) = (0 : Int32)))).2) ?_
 obtain ⟨T1, h1, X1, e1, E1, A1, D1, -, st1⟩ := newO X0 hx hZ hown (gw hw 7 rfl) (gw hw 8 rfl) (gw hw 9 rfl) e0 (g := (mkF m 13 #[vi 0, vi 1, vi 0, vi d0, vi d1, vi f0, vi f1] [])) rfl (hb hby d18_13) (by decide) (by decide)
 obtain ⟨b1, gq1⟩ : ∃ z, z = h0.size := ⟨_, rfl⟩
 rw [← gq1] at A1 st1 D1
 have g_b1 : n0 ≤ b1 := by rw [gq1]; exact Z0
 have sz_b1 : h0.size ≤ b1 := by rw [gq1]; exact KP.1
 replace sgC := sgC.ext E1
 replace KP := KP.ext E1
 replace Z0 : n0 ≤ h1.size := Nat.le_trans Z0 E1.1
 have A_b1 : Exa Z h1 b1 "java/lang/String" := A1
 have F_coder_b1 : Fld Z h1 b1 "java/lang/String" "coder" "B" (.int 0) := D1 (Or.inr (gw hw 34 rfl)) (ty := .byte) (by decide)
 have F_value_b1 : Fld Z h1 b1 "java/lang/String" "value" "[B" .null := D1 (Or.inr (gw hw 36 rfl)) (ty := (.array .byte)) (by decide)
 refine Gs st1 ?_
 show Goes _ _ _ _ _ (fT T1 m 16 #[vi 0, vi 1, vi 0, vi d0, vi d1, vi f0, vi f1] [(.ref b1)])
 refine Gz (XS.dup X1.here hx rfl (hb hby d18_16) rfl rfl) ?_
 refine gC X1 hx hby d18_17 ?_
 obtain ⟨T2, h2, k2, X2, e2, E2, A2, st2⟩ := newP X1 hx hZ (gw hw 10 rfl) e1 (g := (mkF m 18 #[vi 0, vi 1, vi 0, vi d0, vi d1, vi f0, vi f1] [(.int 1), (.ref b1), (.ref b1)])) rfl (hb hby d18_18) rfl (by decide) (cap := 1) (by decide) (by decide) (by decide) (by decide)
 obtain ⟨b2, gq2⟩ : ∃ z, z = h1.size := ⟨_, rfl⟩
 rw [← gq2] at A2 st2
 have g_b2 : n0 ≤ b2 := by rw [gq2]; exact Z0
 have sz_b2 : h0.size ≤ b2 := by rw [gq2]; exact KP.1
 have ne_b1_b2 : b1 ≠ b2 := by rw [gq2]; exact Nat.ne_of_lt A_b1.lt
 replace sgC := sgC.ext E2
 replace A_b1 := A_b1.ext E2
 replace F_coder_b1 := F_coder_b1.ext E2
 replace F_value_b1 := F_value_b1.ext E2
 replace KP := KP.ext E2
 replace Z0 : n0 ≤ h2.size := Nat.le_trans Z0 E2.1
 have V_b2 : Arv Z h2 b2 k2 .char 1 [(.int 0)] (.int 0) := (Arv.new A2 (by decide)).pad (pad_rep [] (.int 0) 1)
 refine Gs st2 ?_
 show Goes _ _ _ _ _ (fT T2 m 20 #[vi 0, vi 1, vi 0, vi d0, vi d1, vi f0, vi f1] [(.ref b2), (.ref b1), (.ref b1)])
 refine Gz (XS.dup X2.here hx rfl (hb hby d18_20) rfl rfl) ?_
 refine gC X2 hx hby d18_21 ?_
 refine gN X2 hx hby d18_22 rfl rfl ?_
 obtain ⟨cl3, Ar3, q3, S3, N3z, H3, G3⟩ := V_b2
 have hin3 : ¬ ((0 : Int32) < 0 ∨ cl3.slots.size ≤ ((0 : Int32)).toNatClampNeg) := inb_of S3 ⟨by decide, by decide⟩
 obtain ⟨T3, h3, X3, e3, W3, st3⟩ := stC X2 hx hZ e2 Ar3 (j := (0 : Int32)) hin3 (g := (mkF m 23 #[vi 0, vi 1, vi 0, vi d0, vi d1, vi f0, vi f1] [(.int d0), (.int 0), (.ref b2), (.ref b2), (.ref b1), (.ref b1)])) rfl rfl (hb hby d18_23)
 have Vn3 := Arv.set Ar3 q3 S3 N3z H3 G3 (fits_nar_char _) W3 0 rfl (Nat.le_of_ble_eq_true rfl)
 have N3 := Fr.snoc X3 N0 g_b2
 replace sgC := sgC.wr W3
 replace A_b1 := A_b1.wr W3
 replace F_coder_b1 := F_coder_b1.other W3 (Or.inl ne_b1_b2)
 replace F_value_b1 := F_value_b1.other W3 (Or.inl ne_b1_b2)
 replace KP := KP.wr W3 (Or.inr sz_b2)
 have V_b2 : Arv Z h3 b2 k2 .char 1 [(.int d0)] (.int 0) := by have q := Vn3; rw [own_nc hD_d0.lat.chr] at q; exact q
 replace Z0 : n0 ≤ h3.size := by rw [W3.size]; exact Z0
 refine Gs st3 ?_
 show Goes _ _ _ _ _ (fT T3 m 24 #[vi 0, vi 1, vi 0, vi d0, vi d1, vi f0, vi f1] [(.ref b2), (.ref b1), (.ref b1)])
 refine cIg X3 hx hZ hw hown hby hml e3 mN11 11 12 13 9 1 (rs_i1_1 l Z a0 hw [] b1 b2 k2 d0 cz h3 n0 Z0 A_b1 F_value_b1 F_coder_b1 V_b2 g_b1 (Ne.symm ne_b1_b2) sgC hcz hD_d0.lat) d18_24 (lenOf own_pd10 rfl) (fun _ T4 L4 X4 hQ4 => ?_)
 obtain ⟨rfl, N4q, K4, T_b1_4'⟩ := hQ4
 have N4 := Fr.app N3 N4q
 replace KP := KP.trans K4 (allS (Or.inr sz_b1) all0)
 replace Z0 := Nat.le_trans Z0 K4.1
 have T_b1 := T_b1_4'
 show Goes _ _ _ _ _ (fT T4 m 27 #[vi 0, vi 1, vi 0, vi d0, vi d1, vi f0, vi f1] [(.ref b1)])
 refine Goes.ret X4 (some (.ref b1)) (fun h => by rw [hret] at h; cases h) hlk (by decide) (by decide) ?_ (fun fs hr => ?_)
 ·exact ⟨b1, rfl, N4, KP, T_b1, g_b1, sz_b1⟩
 ·exact own_retA X4 hx hret rfl rfl (hb hby d18_27) hr
theorem d18_28 : decode method_3_code 28 = .ok (.iload_n 2, 1) := by decide +kernel
theorem d18_29 : decode method_3_code 29 = .ok (.iconst 1, 1) := by decide +kernel
theorem d18_30 : decode method_3_code 30 = .ok (.if_icmp .ne 28, 3) := by decide +kernel
theorem d18_33 : decode method_3_code 33 = .ok (.new 7, 3) := by decide +kernel
theorem d18_36 : decode method_3_code 36 = .ok (.dup, 1) := by decide +kernel
theorem d18_37 : decode method_3_code 37 = .ok (.iconst 3, 1) := by decide +kernel
theorem d18_38 : decode method_3_code 38 = .ok (.newarray .char, 2) := by decide +kernel
theorem d18_40 : decode method_3_code 40 = .ok (.dup, 1) := by decide +kernel
theorem d18_41 : decode method_3_code 41 = .ok (.iconst 0, 1) := by decide +kernel
theorem d18_42 : decode method_3_code 42 = .ok (.iload_n 3, 1) := by decide +kernel
theorem d18_43 : decode method_3_code 43 = .ok (.castore, 1) := by decide +kernel
theorem d18_44 : decode method_3_code 44 = .ok (.dup, 1) := by decide +kernel
theorem d18_45 : decode method_3_code 45 = .ok (.iconst 1, 1) := by decide +kernel
theorem d18_46 : decode method_3_code 46 = .ok (.bipush 46, 2) := by decide +kernel
theorem d18_48 : decode method_3_code 48 = .ok (.castore, 1) := by decide +kernel
theorem d18_49 : decode method_3_code 49 = .ok (.dup, 1) := by decide +kernel
theorem d18_50 : decode method_3_code 50 = .ok (.iconst 2, 1) := by decide +kernel
theorem d18_51 : decode method_3_code 51 = .ok (.iload 5, 2) := by decide +kernel
theorem d18_53 : decode method_3_code 53 = .ok (.castore, 1) := by decide +kernel
theorem d18_54 : decode method_3_code 54 = .ok (.invokespecial 9, 3) := by decide +kernel
theorem d18_57 : decode method_3_code 57 = .ok (.areturn, 1) := by decide +kernel
theorem own_ef_rm_text011 (m : MethodId) (x3 : Int32) (x4 : Int32) (x5 : Int32) (x6 : Int32) : entryFrame m #[(.int 0), (.int 1), (.int 1), (.int x3), (.int x4), (.int x5), (.int x6)] 7 = mkF m 0 #[vi 0, vi 1, vi 1, vi x3, vi x4, vi x5, vi x6] [] := by first | (simp [entryFrame, mkF, argsToLocals, Value.category]; done) | rfl
def Q_rm_text011 (Z : State) (d0 : Int32) (d1 : Int32) (f0 : Int32) (f1 : Int32) (cz : Int32) (h0 : Heap) (n0 : Nat) (v : Option Value) (h : Heap) (L : List Loc) : Prop := ∃ u : Addr, v = some (.ref u) ∧ Fr n0 L ∧ Keep h0 h [] ∧ StrOf Z h u [d0, (46 : Int32), f0] ∧ n0 ≤ u ∧ h0.size ≤ u
theorem rm_text011 (l : Launch) (Z : State) (a0 : Array Value) (hw : HW a0 Z) (ws : List Jvm.Cond) (d0 : Int32) (d1 : Int32) (f0 : Int32) (f1 : Int32) (cz : Int32) (h0 : Heap) (n0 : Nat) (Z0 : n0 ≤ h0.size) (hD_d0 : Dig d0) (hD_d1 : Dig d1) (hD_f0 : Dig f0) (hD_f1 : Dig f1) (sgC : Sta Z h0 "java/lang/String" "COMPACT_STRINGS" "Z" (.int cz)) (hcz : ¬ (cz = 0)) :
  Met l Z mN18 method_3_code 7 (some (.object "java/lang/String")) ({ frames := 4, cells := 3, slots := 10, locals := 66 } : Room) ws #[(.int 0), (.int 1), (.int 1), (.int d0), (.int d1), (.int f0), (.int f1)] h0 (Q_rm_text011 Z d0 d1 f0 f1 cz h0 n0) := by
 refine own_met (plainFor_of_name own_pn7) ?_
 intro p e s m below meth c s₁ hret hx hby hlk hml hown hnm X0 e0 hZ hh
 have N0 := Fr.nil n0
 refine Gz (castTop (own_ef_rm_text011 m d0 d1 f0 f1)) ?_
 have KP : Keep h0 h0 [] := Keep.refl _ _
 show Goes _ _ _ _ _ (fT s₁ m 0 #[vi 0, vi 1, vi 1, vi d0, vi d1, vi f0, vi f1] [])
 refine gN X0 hx hby d18_0 rfl rfl ?_
 refine gu X0 hx hby d18_1 ((if0 _ _).trans (teq (by decide : ((0 : Int32) = (0 : Int32)))).2) ?_
 refine gN X0 hx hby d18_4 rfl rfl ?_
 refine gC X0 hx hby d18_5 ?_
 refine gU X0 hx hby d18_6 (teq (by decide : ((1 : Int32) = (1 : Int32)))).2 ?_
 refine gN X0 hx hby d18_9 rfl rfl ?_
 show Goes _ _ _ _ _ (fT s₁ m 10 #[vi 0, vi 1, vi 1, vi d0, vi d1, vi f0, vi f1] [(.int 1)])
 refine gy X0 hx hby d18_10 10 28 ((if0 _ _).trans (feq (by decide : ¬ ((1 : Int32) = (0 : Int32)))).2) ?_
 refine gN X0 hx hby d18_28 rfl rfl ?_
 refine gC X0 hx hby d18_29 ?_
 refine gU X0 hx hby d18_30 (teq (by decide : ((1 : Int32) = (1 : Int32)))).2 ?_
 obtain ⟨T1, h1, X1, e1, E1, A1, D1, -, st1⟩ := newO X0 hx hZ hown (gw hw 7 rfl) (gw hw 8 rfl) (gw hw 9 rfl) e0 (g := (mkF m 33 #[vi 0, vi 1, vi 1, vi d0, vi d1, vi f0, vi f1] [])) rfl (hb hby d18_33) (by decide) (by decide)
 obtain ⟨b1, gq1⟩ : ∃ z, z = h0.size := ⟨_, rfl⟩
 rw [← gq1] at A1 st1 D1
 have g_b1 : n0 ≤ b1 := by rw [gq1]; exact Z0
 have sz_b1 : h0.size ≤ b1 := by rw [gq1]; exact KP.1
 replace sgC := sgC.ext E1
 replace KP := KP.ext E1
 replace Z0 : n0 ≤ h1.size := Nat.le_trans Z0 E1.1
 have A_b1 : Exa Z h1 b1 "java/lang/String" := A1
 have F_coder_b1 : Fld Z h1 b1 "java/lang/String" "coder" "B" (.int 0) := D1 (Or.inr (gw hw 34 rfl)) (ty := .byte) (by decide)
 have F_value_b1 : Fld Z h1 b1 "java/lang/String" "value" "[B" .null := D1 (Or.inr (gw hw 36 rfl)) (ty := (.array .byte)) (by decide)
 refine Gs st1 ?_
 show Goes _ _ _ _ _ (fT T1 m 36 #[vi 0, vi 1, vi 1, vi d0, vi d1, vi f0, vi f1] [(.ref b1)])
 refine Gz (XS.dup X1.here hx rfl (hb hby d18_36) rfl rfl) ?_
 refine gC X1 hx hby d18_37 ?_
 obtain ⟨T2, h2, k2, X2, e2, E2, A2, st2⟩ := newP X1 hx hZ (gw hw 10 rfl) e1 (g := (mkF m 38 #[vi 0, vi 1, vi 1, vi d0, vi d1, vi f0, vi f1] [(.int 3), (.ref b1), (.ref b1)])) rfl (hb hby d18_38) rfl (by decide) (cap := 3) (by decide) (by decide) (by decide) (by decide)
 obtain ⟨b2, gq2⟩ : ∃ z, z = h1.size := ⟨_, rfl⟩
 rw [← gq2] at A2 st2
 have g_b2 : n0 ≤ b2 := by rw [gq2]; exact Z0
 have sz_b2 : h0.size ≤ b2 := by rw [gq2]; exact KP.1
 have ne_b1_b2 : b1 ≠ b2 := by rw [gq2]; exact Nat.ne_of_lt A_b1.lt
 replace sgC := sgC.ext E2
 replace A_b1 := A_b1.ext E2
 replace F_coder_b1 := F_coder_b1.ext E2
 replace F_value_b1 := F_value_b1.ext E2
 replace KP := KP.ext E2
 replace Z0 : n0 ≤ h2.size := Nat.le_trans Z0 E2.1
 have V_b2 : Arv Z h2 b2 k2 .char 3 [(.int 0), (.int 0), (.int 0)] (.int 0) := (Arv.new A2 (by decide)).pad (pad_rep [] (.int 0) 3)
 refine Gs st2 ?_
 show Goes _ _ _ _ _ (fT T2 m 40 #[vi 0, vi 1, vi 1, vi d0, vi d1, vi f0, vi f1] [(.ref b2), (.ref b1), (.ref b1)])
 refine Gz (XS.dup X2.here hx rfl (hb hby d18_40) rfl rfl) ?_
 refine gC X2 hx hby d18_41 ?_
 refine gN X2 hx hby d18_42 rfl rfl ?_
 obtain ⟨cl3, Ar3, q3, S3, N3z, H3, G3⟩ := V_b2
 have hin3 : ¬ ((0 : Int32) < 0 ∨ cl3.slots.size ≤ ((0 : Int32)).toNatClampNeg) := inb_of S3 ⟨by decide, by decide⟩
 obtain ⟨T3, h3, X3, e3, W3, st3⟩ := stC X2 hx hZ e2 Ar3 (j := (0 : Int32)) hin3 (g := (mkF m 43 #[vi 0, vi 1, vi 1, vi d0, vi d1, vi f0, vi f1] [(.int d0), (.int 0), (.ref b2), (.ref b2), (.ref b1), (.ref b1)])) rfl rfl (hb hby d18_43)
 have Vn3 := Arv.set Ar3 q3 S3 N3z H3 G3 (fits_nar_char _) W3 0 rfl (Nat.le_of_ble_eq_true rfl)
 have N3 := Fr.snoc X3 N0 g_b2
 replace sgC := sgC.wr W3
 replace A_b1 := A_b1.wr W3
 replace F_coder_b1 := F_coder_b1.other W3 (Or.inl ne_b1_b2)
 replace F_value_b1 := F_value_b1.other W3 (Or.inl ne_b1_b2)
 replace KP := KP.wr W3 (Or.inr sz_b2)
 have V_b2 : Arv Z h3 b2 k2 .char 3 [(.int d0), (.int 0), (.int 0)] (.int 0) := by have q := Vn3; rw [own_nc hD_d0.lat.chr] at q; exact q
 replace Z0 : n0 ≤ h3.size := by rw [W3.size]; exact Z0
 refine Gs st3 ?_
 show Goes _ _ _ _ _ (fT T3 m 44 #[vi 0, vi 1, vi 1, vi d0, vi d1, vi f0, vi f1] [(.ref b2), (.ref b1), (.ref b1)])
 refine Gz (XS.dup X3.here hx rfl (hb hby d18_44) rfl rfl) ?_
 refine gC X3 hx hby d18_45 ?_
 refine gB X3 hx hby d18_46 ?_
 obtain ⟨cl4, Ar4, q4, S4, N4z, H4, G4⟩ := V_b2
 have hin4 : ¬ ((1 : Int32) < 0 ∨ cl4.slots.size ≤ ((1 : Int32)).toNatClampNeg) := inb_of S4 ⟨by decide, by decide⟩
 obtain ⟨T4, h4, X4, e4, W4, st4⟩ := stC X3 hx hZ e3 Ar4 (j := (1 : Int32)) hin4 (g := (mkF m 48 #[vi 0, vi 1, vi 1, vi d0, vi d1, vi f0, vi f1] [(.int 46), (.int 1), (.ref b2), (.ref b2), (.ref b1), (.ref b1)])) rfl rfl (hb hby d18_48)
 have Vn4 := Arv.set Ar4 q4 S4 N4z H4 G4 (fits_nar_char _) W4 1 rfl (Nat.le_of_ble_eq_true rfl)
 have N4 := Fr.snoc X4 N3 g_b2
 replace sgC := sgC.wr W4
 replace A_b1 := A_b1.wr W4
 replace F_coder_b1 := F_coder_b1.other W4 (Or.inl ne_b1_b2)
 replace F_value_b1 := F_value_b1.other W4 (Or.inl ne_b1_b2)
 replace KP := KP.wr W4 (Or.inr sz_b2)
 have V_b2 : Arv Z h4 b2 k2 .char 3 [(.int d0), (.int 46), (.int 0)] (.int 0) := by exact Vn4
 replace Z0 : n0 ≤ h4.size := by rw [W4.size]; exact Z0
 refine Gs st4 ?_
 show Goes _ _ _ _ _ (fT T4 m 49 #[vi 0, vi 1, vi 1, vi d0, vi d1, vi f0, vi f1] [(.ref b2), (.ref b1), (.ref b1)])
 refine Gz (XS.dup X4.here hx rfl (hb hby d18_49) rfl rfl) ?_
 refine gC X4 hx hby d18_50 ?_
 refine gI X4 hx hby d18_51 rfl rfl ?_
 obtain ⟨cl5, Ar5, q5, S5, N5z, H5, G5⟩ := V_b2
 have hin5 : ¬ ((2 : Int32) < 0 ∨ cl5.slots.size ≤ ((2 : Int32)).toNatClampNeg) := inb_of S5 ⟨by decide, by decide⟩
 obtain ⟨T5, h5, X5, e5, W5, st5⟩ := stC X4 hx hZ e4 Ar5 (j := (2 : Int32)) hin5 (g := (mkF m 53 #[vi 0, vi 1, vi 1, vi d0, vi d1, vi f0, vi f1] [(.int f0), (.int 2), (.ref b2), (.ref b2), (.ref b1), (.ref b1)])) rfl rfl (hb hby d18_53)
 have Vn5 := Arv.set Ar5 q5 S5 N5z H5 G5 (fits_nar_char _) W5 2 rfl (Nat.le_of_ble_eq_true rfl)
 have N5 := Fr.snoc X5 N4 g_b2
 replace sgC := sgC.wr W5
 replace A_b1 := A_b1.wr W5
 replace F_coder_b1 := F_coder_b1.other W5 (Or.inl ne_b1_b2)
 replace F_value_b1 := F_value_b1.other W5 (Or.inl ne_b1_b2)
 replace KP := KP.wr W5 (Or.inr sz_b2)
 have V_b2 : Arv Z h5 b2 k2 .char 3 [(.int d0), (.int 46), (.int f0)] (.int 0) := by have q := Vn5; rw [own_nc hD_f0.lat.chr] at q; exact q
 replace Z0 : n0 ≤ h5.size := by rw [W5.size]; exact Z0
 refine Gs st5 ?_
 show Goes _ _ _ _ _ (fT T5 m 54 #[vi 0, vi 1, vi 1, vi d0, vi d1, vi f0, vi f1] [(.ref b2), (.ref b1), (.ref b1)])
 refine cIg X5 hx hZ hw hown hby hml e5 mN11 11 12 13 9 1 (rs_i1_3 l Z a0 hw [] b1 b2 k2 d0 (46 : Int32) f0 cz h5 n0 Z0 A_b1 F_value_b1 F_coder_b1 V_b2 g_b1 (Ne.symm ne_b1_b2) sgC hcz hD_d0.lat own_lat46 hD_f0.lat) d18_54 (lenOf own_pd10 rfl) (fun _ T6 L6 X6 hQ6 => ?_)
 obtain ⟨rfl, N6q, K6, T_b1_6'⟩ := hQ6
 have N6 := Fr.app N5 N6q
 replace KP := KP.trans K6 (allS (Or.inr sz_b1) all0)
 replace Z0 := Nat.le_trans Z0 K6.1
 have T_b1 := T_b1_6'
 show Goes _ _ _ _ _ (fT T6 m 57 #[vi 0, vi 1, vi 1, vi d0, vi d1, vi f0, vi f1] [(.ref b1)])
 refine Goes.ret X6 (some (.ref b1)) (fun h => by rw [hret] at h; cases h) hlk (by decide) (by decide) ?_ (fun fs hr => ?_)
 ·exact ⟨b1, rfl, N6, KP, T_b1, g_b1, sz_b1⟩
 ·exact own_retA X6 hx hret rfl rfl (hb hby d18_57) hr
theorem d18_58 : decode method_3_code 58 = .ok (.new 7, 3) := by decide +kernel
theorem d18_61 : decode method_3_code 61 = .ok (.dup, 1) := by decide +kernel
theorem d18_62 : decode method_3_code 62 = .ok (.iconst 4, 1) := by decide +kernel
theorem d18_63 : decode method_3_code 63 = .ok (.newarray .char, 2) := by decide +kernel
theorem d18_65 : decode method_3_code 65 = .ok (.dup, 1) := by decide +kernel
theorem d18_66 : decode method_3_code 66 = .ok (.iconst 0, 1) := by decide +kernel
theorem d18_67 : decode method_3_code 67 = .ok (.iload_n 3, 1) := by decide +kernel
theorem d18_68 : decode method_3_code 68 = .ok (.castore, 1) := by decide +kernel
theorem d18_69 : decode method_3_code 69 = .ok (.dup, 1) := by decide +kernel
theorem d18_70 : decode method_3_code 70 = .ok (.iconst 1, 1) := by decide +kernel
theorem d18_71 : decode method_3_code 71 = .ok (.bipush 46, 2) := by decide +kernel
theorem d18_73 : decode method_3_code 73 = .ok (.castore, 1) := by decide +kernel
theorem d18_74 : decode method_3_code 74 = .ok (.dup, 1) := by decide +kernel
theorem d18_75 : decode method_3_code 75 = .ok (.iconst 2, 1) := by decide +kernel
theorem d18_76 : decode method_3_code 76 = .ok (.iload 5, 2) := by decide +kernel
theorem d18_78 : decode method_3_code 78 = .ok (.castore, 1) := by decide +kernel
theorem d18_79 : decode method_3_code 79 = .ok (.dup, 1) := by decide +kernel
theorem d18_80 : decode method_3_code 80 = .ok (.iconst 3, 1) := by decide +kernel
theorem d18_81 : decode method_3_code 81 = .ok (.iload 6, 2) := by decide +kernel
theorem d18_83 : decode method_3_code 83 = .ok (.castore, 1) := by decide +kernel
theorem d18_84 : decode method_3_code 84 = .ok (.invokespecial 9, 3) := by decide +kernel
theorem d18_87 : decode method_3_code 87 = .ok (.areturn, 1) := by decide +kernel
theorem own_ef_rm_text012 (m : MethodId) (x3 : Int32) (x4 : Int32) (x5 : Int32) (x6 : Int32) : entryFrame m #[(.int 0), (.int 1), (.int 2), (.int x3), (.int x4), (.int x5), (.int x6)] 7 = mkF m 0 #[vi 0, vi 1, vi 2, vi x3, vi x4, vi x5, vi x6] [] := by first | (simp [entryFrame, mkF, argsToLocals, Value.category]; done) | rfl
def Q_rm_text012 (Z : State) (d0 : Int32) (d1 : Int32) (f0 : Int32) (f1 : Int32) (cz : Int32) (h0 : Heap) (n0 : Nat) (v : Option Value) (h : Heap) (L : List Loc) : Prop := ∃ u : Addr, v = some (.ref u) ∧ Fr n0 L ∧ Keep h0 h [] ∧ StrOf Z h u [d0, (46 : Int32), f0, f1] ∧ n0 ≤ u ∧ h0.size ≤ u
theorem rm_text012 (l : Launch) (Z : State) (a0 : Array Value) (hw : HW a0 Z) (ws : List Jvm.Cond) (d0 : Int32) (d1 : Int32) (f0 : Int32) (f1 : Int32) (cz : Int32) (h0 : Heap) (n0 : Nat) (Z0 : n0 ≤ h0.size) (hD_d0 : Dig d0) (hD_d1 : Dig d1) (hD_f0 : Dig f0) (hD_f1 : Dig f1) (sgC : Sta Z h0 "java/lang/String" "COMPACT_STRINGS" "Z" (.int cz)) (hcz : ¬ (cz = 0)) :
  Met l Z mN18 method_3_code 7 (some (.object "java/lang/String")) ({ frames := 4, cells := 3, slots := 12, locals := 66 } : Room) ws #[(.int 0), (.int 1), (.int 2), (.int d0), (.int d1), (.int f0), (.int f1)] h0 (Q_rm_text012 Z d0 d1 f0 f1 cz h0 n0) := by
 refine own_met (plainFor_of_name own_pn7) ?_
 intro p e s m below meth c s₁ hret hx hby hlk hml hown hnm X0 e0 hZ hh
 have N0 := Fr.nil n0
 refine Gz (castTop (own_ef_rm_text012 m d0 d1 f0 f1)) ?_
 have KP : Keep h0 h0 [] := Keep.refl _ _
 show Goes _ _ _ _ _ (fT s₁ m 0 #[vi 0, vi 1, vi 2, vi d0, vi d1, vi f0, vi f1] [])
 refine gN X0 hx hby d18_0 rfl rfl ?_
 refine gu X0 hx hby d18_1 ((if0 _ _).trans (teq (by decide : ((0 : Int32) = (0 : Int32)))).2) ?_
 refine gN X0 hx hby d18_4 rfl rfl ?_
 refine gC X0 hx hby d18_5 ?_
 refine gU X0 hx hby d18_6 (teq (by decide : ((1 : Int32) = (1 : Int32)))).2 ?_
 refine gN X0 hx hby d18_9 rfl rfl ?_
 show Goes _ _ _ _ _ (fT s₁ m 10 #[vi 0, vi 1, vi 2, vi d0, vi d1, vi f0, vi f1] [(.int 2)])
 refine gy X0 hx hby d18_10 10 28 ((if0 _ _).trans (feq (by decide : ¬ ((2 : Int32) = (0 : Int32)))).2) ?_
 refine gN X0 hx hby d18_28 rfl rfl ?_
 refine gC X0 hx hby d18_29 ?_
 refine gY X0 hx hby d18_30 30 58 (feq (by decide : ¬ ((2 : Int32) = (1 : Int32)))).2 ?_
 obtain ⟨T1, h1, X1, e1, E1, A1, D1, -, st1⟩ := newO X0 hx hZ hown (gw hw 7 rfl) (gw hw 8 rfl) (gw hw 9 rfl) e0 (g := (mkF m 58 #[vi 0, vi 1, vi 2, vi d0, vi d1, vi f0, vi f1] [])) rfl (hb hby d18_58) (by decide) (by decide)
 obtain ⟨b1, gq1⟩ : ∃ z, z = h0.size := ⟨_, rfl⟩
 rw [← gq1] at A1 st1 D1
 have g_b1 : n0 ≤ b1 := by rw [gq1]; exact Z0
 have sz_b1 : h0.size ≤ b1 := by rw [gq1]; exact KP.1
 replace sgC := sgC.ext E1
 replace KP := KP.ext E1
 replace Z0 : n0 ≤ h1.size := Nat.le_trans Z0 E1.1
 have A_b1 : Exa Z h1 b1 "java/lang/String" := A1
 have F_coder_b1 : Fld Z h1 b1 "java/lang/String" "coder" "B" (.int 0) := D1 (Or.inr (gw hw 34 rfl)) (ty := .byte) (by decide)
 have F_value_b1 : Fld Z h1 b1 "java/lang/String" "value" "[B" .null := D1 (Or.inr (gw hw 36 rfl)) (ty := (.array .byte)) (by decide)
 refine Gs st1 ?_
 show Goes _ _ _ _ _ (fT T1 m 61 #[vi 0, vi 1, vi 2, vi d0, vi d1, vi f0, vi f1] [(.ref b1)])
 refine Gz (XS.dup X1.here hx rfl (hb hby d18_61) rfl rfl) ?_
 refine gC X1 hx hby d18_62 ?_
 obtain ⟨T2, h2, k2, X2, e2, E2, A2, st2⟩ := newP X1 hx hZ (gw hw 10 rfl) e1 (g := (mkF m 63 #[vi 0, vi 1, vi 2, vi d0, vi d1, vi f0, vi f1] [(.int 4), (.ref b1), (.ref b1)])) rfl (hb hby d18_63) rfl (by decide) (cap := 4) (by decide) (by decide) (by decide) (by decide)
 obtain ⟨b2, gq2⟩ : ∃ z, z = h1.size := ⟨_, rfl⟩
 rw [← gq2] at A2 st2
 have g_b2 : n0 ≤ b2 := by rw [gq2]; exact Z0
 have sz_b2 : h0.size ≤ b2 := by rw [gq2]; exact KP.1
 have ne_b1_b2 : b1 ≠ b2 := by rw [gq2]; exact Nat.ne_of_lt A_b1.lt
 replace sgC := sgC.ext E2
 replace A_b1 := A_b1.ext E2
 replace F_coder_b1 := F_coder_b1.ext E2
 replace F_value_b1 := F_value_b1.ext E2
 replace KP := KP.ext E2
 replace Z0 : n0 ≤ h2.size := Nat.le_trans Z0 E2.1
 have V_b2 : Arv Z h2 b2 k2 .char 4 [(.int 0), (.int 0), (.int 0), (.int 0)] (.int 0) := (Arv.new A2 (by decide)).pad (pad_rep [] (.int 0) 4)
 refine Gs st2 ?_
 show Goes _ _ _ _ _ (fT T2 m 65 #[vi 0, vi 1, vi 2, vi d0, vi d1, vi f0, vi f1] [(.ref b2), (.ref b1), (.ref b1)])
 refine Gz (XS.dup X2.here hx rfl (hb hby d18_65) rfl rfl) ?_
 refine gC X2 hx hby d18_66 ?_
 refine gN X2 hx hby d18_67 rfl rfl ?_
 obtain ⟨cl3, Ar3, q3, S3, N3z, H3, G3⟩ := V_b2
 have hin3 : ¬ ((0 : Int32) < 0 ∨ cl3.slots.size ≤ ((0 : Int32)).toNatClampNeg) := inb_of S3 ⟨by decide, by decide⟩
 obtain ⟨T3, h3, X3, e3, W3, st3⟩ := stC X2 hx hZ e2 Ar3 (j := (0 : Int32)) hin3 (g := (mkF m 68 #[vi 0, vi 1, vi 2, vi d0, vi d1, vi f0, vi f1] [(.int d0), (.int 0), (.ref b2), (.ref b2), (.ref b1), (.ref b1)])) rfl rfl (hb hby d18_68)
 have Vn3 := Arv.set Ar3 q3 S3 N3z H3 G3 (fits_nar_char _) W3 0 rfl (Nat.le_of_ble_eq_true rfl)
 have N3 := Fr.snoc X3 N0 g_b2
 replace sgC := sgC.wr W3
 replace A_b1 := A_b1.wr W3
 replace F_coder_b1 := F_coder_b1.other W3 (Or.inl ne_b1_b2)
 replace F_value_b1 := F_value_b1.other W3 (Or.inl ne_b1_b2)
 replace KP := KP.wr W3 (Or.inr sz_b2)
 have V_b2 : Arv Z h3 b2 k2 .char 4 [(.int d0), (.int 0), (.int 0), (.int 0)] (.int 0) := by have q := Vn3; rw [own_nc hD_d0.lat.chr] at q; exact q
 replace Z0 : n0 ≤ h3.size := by rw [W3.size]; exact Z0
 refine Gs st3 ?_
 show Goes _ _ _ _ _ (fT T3 m 69 #[vi 0, vi 1, vi 2, vi d0, vi d1, vi f0, vi f1] [(.ref b2), (.ref b1), (.ref b1)])
 refine Gz (XS.dup X3.here hx rfl (hb hby d18_69) rfl rfl) ?_
 refine gC X3 hx hby d18_70 ?_
 refine gB X3 hx hby d18_71 ?_
 obtain ⟨cl4, Ar4, q4, S4, N4z, H4, G4⟩ := V_b2
 have hin4 : ¬ ((1 : Int32) < 0 ∨ cl4.slots.size ≤ ((1 : Int32)).toNatClampNeg) := inb_of S4 ⟨by decide, by decide⟩
 obtain ⟨T4, h4, X4, e4, W4, st4⟩ := stC X3 hx hZ e3 Ar4 (j := (1 : Int32)) hin4 (g := (mkF m 73 #[vi 0, vi 1, vi 2, vi d0, vi d1, vi f0, vi f1] [(.int 46), (.int 1), (.ref b2), (.ref b2), (.ref b1), (.ref b1)])) rfl rfl (hb hby d18_73)
 have Vn4 := Arv.set Ar4 q4 S4 N4z H4 G4 (fits_nar_char _) W4 1 rfl (Nat.le_of_ble_eq_true rfl)
 have N4 := Fr.snoc X4 N3 g_b2
 replace sgC := sgC.wr W4
 replace A_b1 := A_b1.wr W4
 replace F_coder_b1 := F_coder_b1.other W4 (Or.inl ne_b1_b2)
 replace F_value_b1 := F_value_b1.other W4 (Or.inl ne_b1_b2)
 replace KP := KP.wr W4 (Or.inr sz_b2)
 have V_b2 : Arv Z h4 b2 k2 .char 4 [(.int d0), (.int 46), (.int 0), (.int 0)] (.int 0) := by exact Vn4
 replace Z0 : n0 ≤ h4.size := by rw [W4.size]; exact Z0
 refine Gs st4 ?_
 show Goes _ _ _ _ _ (fT T4 m 74 #[vi 0, vi 1, vi 2, vi d0, vi d1, vi f0, vi f1] [(.ref b2), (.ref b1), (.ref b1)])
 refine Gz (XS.dup X4.here hx rfl (hb hby d18_74) rfl rfl) ?_
 refine gC X4 hx hby d18_75 ?_
 refine gI X4 hx hby d18_76 rfl rfl ?_
 obtain ⟨cl5, Ar5, q5, S5, N5z, H5, G5⟩ := V_b2
 have hin5 : ¬ ((2 : Int32) < 0 ∨ cl5.slots.size ≤ ((2 : Int32)).toNatClampNeg) := inb_of S5 ⟨by decide, by decide⟩
 obtain ⟨T5, h5, X5, e5, W5, st5⟩ := stC X4 hx hZ e4 Ar5 (j := (2 : Int32)) hin5 (g := (mkF m 78 #[vi 0, vi 1, vi 2, vi d0, vi d1, vi f0, vi f1] [(.int f0), (.int 2), (.ref b2), (.ref b2), (.ref b1), (.ref b1)])) rfl rfl (hb hby d18_78)
 have Vn5 := Arv.set Ar5 q5 S5 N5z H5 G5 (fits_nar_char _) W5 2 rfl (Nat.le_of_ble_eq_true rfl)
 have N5 := Fr.snoc X5 N4 g_b2
 replace sgC := sgC.wr W5
 replace A_b1 := A_b1.wr W5
 replace F_coder_b1 := F_coder_b1.other W5 (Or.inl ne_b1_b2)
 replace F_value_b1 := F_value_b1.other W5 (Or.inl ne_b1_b2)
 replace KP := KP.wr W5 (Or.inr sz_b2)
 have V_b2 : Arv Z h5 b2 k2 .char 4 [(.int d0), (.int 46), (.int f0), (.int 0)] (.int 0) := by have q := Vn5; rw [own_nc hD_f0.lat.chr] at q; exact q
 replace Z0 : n0 ≤ h5.size := by rw [W5.size]; exact Z0
 refine Gs st5 ?_
 show Goes _ _ _ _ _ (fT T5 m 79 #[vi 0, vi 1, vi 2, vi d0, vi d1, vi f0, vi f1] [(.ref b2), (.ref b1), (.ref b1)])
 refine Gz (XS.dup X5.here hx rfl (hb hby d18_79) rfl rfl) ?_
 refine gC X5 hx hby d18_80 ?_
 refine gI X5 hx hby d18_81 rfl rfl ?_
 obtain ⟨cl6, Ar6, q6, S6, N6z, H6, G6⟩ := V_b2
 have hin6 : ¬ ((3 : Int32) < 0 ∨ cl6.slots.size ≤ ((3 : Int32)).toNatClampNeg) := inb_of S6 ⟨by decide, by decide⟩
 obtain ⟨T6, h6, X6, e6, W6, st6⟩ := stC X5 hx hZ e5 Ar6 (j := (3 : Int32)) hin6 (g := (mkF m 83 #[vi 0, vi 1, vi 2, vi d0, vi d1, vi f0, vi f1] [(.int f1), (.int 3), (.ref b2), (.ref b2), (.ref b1), (.ref b1)])) rfl rfl (hb hby d18_83)
 have Vn6 := Arv.set Ar6 q6 S6 N6z H6 G6 (fits_nar_char _) W6 3 rfl (Nat.le_of_ble_eq_true rfl)
 have N6 := Fr.snoc X6 N5 g_b2
 replace sgC := sgC.wr W6
 replace A_b1 := A_b1.wr W6
 replace F_coder_b1 := F_coder_b1.other W6 (Or.inl ne_b1_b2)
 replace F_value_b1 := F_value_b1.other W6 (Or.inl ne_b1_b2)
 replace KP := KP.wr W6 (Or.inr sz_b2)
 have V_b2 : Arv Z h6 b2 k2 .char 4 [(.int d0), (.int 46), (.int f0), (.int f1)] (.int 0) := by have q := Vn6; rw [own_nc hD_f1.lat.chr] at q; exact q
 replace Z0 : n0 ≤ h6.size := by rw [W6.size]; exact Z0
 refine Gs st6 ?_
 show Goes _ _ _ _ _ (fT T6 m 84 #[vi 0, vi 1, vi 2, vi d0, vi d1, vi f0, vi f1] [(.ref b2), (.ref b1), (.ref b1)])
 refine cIg X6 hx hZ hw hown hby hml e6 mN11 11 12 13 9 1 (rs_i1_4 l Z a0 hw [] b1 b2 k2 d0 (46 : Int32) f0 f1 cz h6 n0 Z0 A_b1 F_value_b1 F_coder_b1 V_b2 g_b1 (Ne.symm ne_b1_b2) sgC hcz hD_d0.lat own_lat46 hD_f0.lat hD_f1.lat) d18_84 (lenOf own_pd10 rfl) (fun _ T7 L7 X7 hQ7 => ?_)
 obtain ⟨rfl, N7q, K7, T_b1_7'⟩ := hQ7
 have N7 := Fr.app N6 N7q
 replace KP := KP.trans K7 (allS (Or.inr sz_b1) all0)
 replace Z0 := Nat.le_trans Z0 K7.1
 have T_b1 := T_b1_7'
 show Goes _ _ _ _ _ (fT T7 m 87 #[vi 0, vi 1, vi 2, vi d0, vi d1, vi f0, vi f1] [(.ref b1)])
 refine Goes.ret X7 (some (.ref b1)) (fun h => by rw [hret] at h; cases h) hlk (by decide) (by decide) ?_ (fun fs hr => ?_)
 ·exact ⟨b1, rfl, N7, KP, T_b1, g_b1, sz_b1⟩
 ·exact own_retA X7 hx hret rfl rfl (hb hby d18_87) hr
theorem d18_88 : decode method_3_code 88 = .ok (.iload_n 2, 1) := by decide +kernel
theorem d18_89 : decode method_3_code 89 = .ok (.ifCond .ne 23, 3) := by decide +kernel
theorem d18_92 : decode method_3_code 92 = .ok (.new 7, 3) := by decide +kernel
theorem d18_95 : decode method_3_code 95 = .ok (.dup, 1) := by decide +kernel
theorem d18_96 : decode method_3_code 96 = .ok (.iconst 2, 1) := by decide +kernel
theorem d18_97 : decode method_3_code 97 = .ok (.newarray .char, 2) := by decide +kernel
theorem d18_99 : decode method_3_code 99 = .ok (.dup, 1) := by decide +kernel
theorem d18_100 : decode method_3_code 100 = .ok (.iconst 0, 1) := by decide +kernel
theorem d18_101 : decode method_3_code 101 = .ok (.iload_n 3, 1) := by decide +kernel
theorem d18_102 : decode method_3_code 102 = .ok (.castore, 1) := by decide +kernel
theorem d18_103 : decode method_3_code 103 = .ok (.dup, 1) := by decide +kernel
theorem d18_104 : decode method_3_code 104 = .ok (.iconst 1, 1) := by decide +kernel
theorem d18_105 : decode method_3_code 105 = .ok (.iload 4, 2) := by decide +kernel
theorem d18_107 : decode method_3_code 107 = .ok (.castore, 1) := by decide +kernel
theorem d18_108 : decode method_3_code 108 = .ok (.invokespecial 9, 3) := by decide +kernel
theorem d18_111 : decode method_3_code 111 = .ok (.areturn, 1) := by decide +kernel
theorem own_ef_rm_text020 (m : MethodId) (x3 : Int32) (x4 : Int32) (x5 : Int32) (x6 : Int32) : entryFrame m #[(.int 0), (.int 2), (.int 0), (.int x3), (.int x4), (.int x5), (.int x6)] 7 = mkF m 0 #[vi 0, vi 2, vi 0, vi x3, vi x4, vi x5, vi x6] [] := by first | (simp [entryFrame, mkF, argsToLocals, Value.category]; done) | rfl
def Q_rm_text020 (Z : State) (d0 : Int32) (d1 : Int32) (f0 : Int32) (f1 : Int32) (cz : Int32) (h0 : Heap) (n0 : Nat) (v : Option Value) (h : Heap) (L : List Loc) : Prop := ∃ u : Addr, v = some (.ref u) ∧ Fr n0 L ∧ Keep h0 h [] ∧ StrOf Z h u [d0, d1] ∧ n0 ≤ u ∧ h0.size ≤ u
theorem rm_text020 (l : Launch) (Z : State) (a0 : Array Value) (hw : HW a0 Z) (ws : List Jvm.Cond) (d0 : Int32) (d1 : Int32) (f0 : Int32) (f1 : Int32) (cz : Int32) (h0 : Heap) (n0 : Nat) (Z0 : n0 ≤ h0.size) (hD_d0 : Dig d0) (hD_d1 : Dig d1) (hD_f0 : Dig f0) (hD_f1 : Dig f1) (sgC : Sta Z h0 "java/lang/String" "COMPACT_STRINGS" "Z" (.int cz)) (hcz : ¬ (cz = 0)) :
  Met l Z mN18 method_3_code 7 (some (.object "java/lang/String")) ({ frames := 4, cells := 3, slots := 8, locals := 66 } : Room) ws #[(.int 0), (.int 2), (.int 0), (.int d0), (.int d1), (.int f0), (.int f1)] h0 (Q_rm_text020 Z d0 d1 f0 f1 cz h0 n0) := by
 refine own_met (plainFor_of_name own_pn7) ?_
 intro p e s m below meth c s₁ hret hx hby hlk hml hown hnm X0 e0 hZ hh
 have N0 := Fr.nil n0
 refine Gz (castTop (own_ef_rm_text020 m d0 d1 f0 f1)) ?_
 have KP : Keep h0 h0 [] := Keep.refl _ _
 show Goes _ _ _ _ _ (fT s₁ m 0 #[vi 0, vi 2, vi 0, vi d0, vi d1, vi f0, vi f1] [])
 refine gN X0 hx hby d18_0 rfl rfl ?_
 refine gu X0 hx hby d18_1 ((if0 _ _).trans (teq (by decide : ((0 : Int32) = (0 : Int32)))).2) ?_
 refine gN X0 hx hby d18_4 rfl rfl ?_
 refine gC X0 hx hby d18_5 ?_
 refine gY X0 hx hby d18_6 6 88 (feq (by decide : ¬ ((2 : Int32) = (1 : Int32)))).2 ?_
 refine gN X0 hx hby d18_88 rfl rfl ?_
 show Goes _ _ _ _ _ (fT s₁ m 89 #[vi 0, vi 2, vi 0, vi d0, vi d1, vi f0, vi f1] [(.int 0)])
 refine gu X0 hx hby d18_89 ((if0 _ _).trans (teq (by decide : ((0 : Int32) = (0 : Int32)))).2) ?_
 obtain ⟨T1, h1, X1, e1, E1, A1, D1, -, st1⟩ := newO X0 hx hZ hown (gw hw 7 rfl) (gw hw 8 rfl) (gw hw 9 rfl) e0 (g := (mkF m 92 #[vi 0, vi 2, vi 0, vi d0, vi d1, vi f0, vi f1] [])) rfl (hb hby d18_92) (by decide) (by decide)
 obtain ⟨b1, gq1⟩ : ∃ z, z = h0.size := ⟨_, rfl⟩
 rw [← gq1] at A1 st1 D1
 have g_b1 : n0 ≤ b1 := by rw [gq1]; exact Z0
 have sz_b1 : h0.size ≤ b1 := by rw [gq1]; exact KP.1
 replace sgC := sgC.ext E1
 replace KP := KP.ext E1
 replace Z0 : n0 ≤ h1.size := Nat.le_trans Z0 E1.1
 have A_b1 : Exa Z h1 b1 "java/lang/String" := A1
 have F_coder_b1 : Fld Z h1 b1 "java/lang/String" "coder" "B" (.int 0) := D1 (Or.inr (gw hw 34 rfl)) (ty := .byte) (by decide)
 have F_value_b1 : Fld Z h1 b1 "java/lang/String" "value" "[B" .null := D1 (Or.inr (gw hw 36 rfl)) (ty := (.array .byte)) (by decide)
 refine Gs st1 ?_
 show Goes _ _ _ _ _ (fT T1 m 95 #[vi 0, vi 2, vi 0, vi d0, vi d1, vi f0, vi f1] [(.ref b1)])
 refine Gz (XS.dup X1.here hx rfl (hb hby d18_95) rfl rfl) ?_
 refine gC X1 hx hby d18_96 ?_
 obtain ⟨T2, h2, k2, X2, e2, E2, A2, st2⟩ := newP X1 hx hZ (gw hw 10 rfl) e1 (g := (mkF m 97 #[vi 0, vi 2, vi 0, vi d0, vi d1, vi f0, vi f1] [(.int 2), (.ref b1), (.ref b1)])) rfl (hb hby d18_97) rfl (by decide) (cap := 2) (by decide) (by decide) (by decide) (by decide)
 obtain ⟨b2, gq2⟩ : ∃ z, z = h1.size := ⟨_, rfl⟩
 rw [← gq2] at A2 st2
 have g_b2 : n0 ≤ b2 := by rw [gq2]; exact Z0
 have sz_b2 : h0.size ≤ b2 := by rw [gq2]; exact KP.1
 have ne_b1_b2 : b1 ≠ b2 := by rw [gq2]; exact Nat.ne_of_lt A_b1.lt
 replace sgC := sgC.ext E2
 replace A_b1 := A_b1.ext E2
 replace F_coder_b1 := F_coder_b1.ext E2
 replace F_value_b1 := F_value_b1.ext E2
 replace KP := KP.ext E2
 replace Z0 : n0 ≤ h2.size := Nat.le_trans Z0 E2.1
 have V_b2 : Arv Z h2 b2 k2 .char 2 [(.int 0), (.int 0)] (.int 0) := (Arv.new A2 (by decide)).pad (pad_rep [] (.int 0) 2)
 refine Gs st2 ?_
 show Goes _ _ _ _ _ (fT T2 m 99 #[vi 0, vi 2, vi 0, vi d0, vi d1, vi f0, vi f1] [(.ref b2), (.ref b1), (.ref b1)])
 refine Gz (XS.dup X2.here hx rfl (hb hby d18_99) rfl rfl) ?_
 refine gC X2 hx hby d18_100 ?_
 refine gN X2 hx hby d18_101 rfl rfl ?_
 obtain ⟨cl3, Ar3, q3, S3, N3z, H3, G3⟩ := V_b2
 have hin3 : ¬ ((0 : Int32) < 0 ∨ cl3.slots.size ≤ ((0 : Int32)).toNatClampNeg) := inb_of S3 ⟨by decide, by decide⟩
 obtain ⟨T3, h3, X3, e3, W3, st3⟩ := stC X2 hx hZ e2 Ar3 (j := (0 : Int32)) hin3 (g := (mkF m 102 #[vi 0, vi 2, vi 0, vi d0, vi d1, vi f0, vi f1] [(.int d0), (.int 0), (.ref b2), (.ref b2), (.ref b1), (.ref b1)])) rfl rfl (hb hby d18_102)
 have Vn3 := Arv.set Ar3 q3 S3 N3z H3 G3 (fits_nar_char _) W3 0 rfl (Nat.le_of_ble_eq_true rfl)
 have N3 := Fr.snoc X3 N0 g_b2
 replace sgC := sgC.wr W3
 replace A_b1 := A_b1.wr W3
 replace F_coder_b1 := F_coder_b1.other W3 (Or.inl ne_b1_b2)
 replace F_value_b1 := F_value_b1.other W3 (Or.inl ne_b1_b2)
 replace KP := KP.wr W3 (Or.inr sz_b2)
 have V_b2 : Arv Z h3 b2 k2 .char 2 [(.int d0), (.int 0)] (.int 0) := by have q := Vn3; rw [own_nc hD_d0.lat.chr] at q; exact q
 replace Z0 : n0 ≤ h3.size := by rw [W3.size]; exact Z0
 refine Gs st3 ?_
 show Goes _ _ _ _ _ (fT T3 m 103 #[vi 0, vi 2, vi 0, vi d0, vi d1, vi f0, vi f1] [(.ref b2), (.ref b1), (.ref b1)])
 refine Gz (XS.dup X3.here hx rfl (hb hby d18_103) rfl rfl) ?_
 refine gC X3 hx hby d18_104 ?_
 refine gI X3 hx hby d18_105 rfl rfl ?_
 obtain ⟨cl4, Ar4, q4, S4, N4z, H4, G4⟩ := V_b2
 have hin4 : ¬ ((1 : Int32) < 0 ∨ cl4.slots.size ≤ ((1 : Int32)).toNatClampNeg) := inb_of S4 ⟨by decide, by decide⟩
 obtain ⟨T4, h4, X4, e4, W4, st4⟩ := stC X3 hx hZ e3 Ar4 (j := (1 : Int32)) hin4 (g := (mkF m 107 #[vi 0, vi 2, vi 0, vi d0, vi d1, vi f0, vi f1] [(.int d1), (.int 1), (.ref b2), (.ref b2), (.ref b1), (.ref b1)])) rfl rfl (hb hby d18_107)
 have Vn4 := Arv.set Ar4 q4 S4 N4z H4 G4 (fits_nar_char _) W4 1 rfl (Nat.le_of_ble_eq_true rfl)
 have N4 := Fr.snoc X4 N3 g_b2
 replace sgC := sgC.wr W4
 replace A_b1 := A_b1.wr W4
 replace F_coder_b1 := F_coder_b1.other W4 (Or.inl ne_b1_b2)
 replace F_value_b1 := F_value_b1.other W4 (Or.inl ne_b1_b2)
 replace KP := KP.wr W4 (Or.inr sz_b2)
 have V_b2 : Arv Z h4 b2 k2 .char 2 [(.int d0), (.int d1)] (.int 0) := by have q := Vn4; rw [own_nc hD_d1.lat.chr] at q; exact q
 replace Z0 : n0 ≤ h4.size := by rw [W4.size]; exact Z0
 refine Gs st4 ?_
 show Goes _ _ _ _ _ (fT T4 m 108 #[vi 0, vi 2, vi 0, vi d0, vi d1, vi f0, vi f1] [(.ref b2), (.ref b1), (.ref b1)])
 refine cIg X4 hx hZ hw hown hby hml e4 mN11 11 12 13 9 1 (rs_i1_2 l Z a0 hw [] b1 b2 k2 d0 d1 cz h4 n0 Z0 A_b1 F_value_b1 F_coder_b1 V_b2 g_b1 (Ne.symm ne_b1_b2) sgC hcz hD_d0.lat hD_d1.lat) d18_108 (lenOf own_pd10 rfl) (fun _ T5 L5 X5 hQ5 => ?_)
 obtain ⟨rfl, N5q, K5, T_b1_5'⟩ := hQ5
 have N5 := Fr.app N4 N5q
 replace KP := KP.trans K5 (allS (Or.inr sz_b1) all0)
 replace Z0 := Nat.le_trans Z0 K5.1
 have T_b1 := T_b1_5'
 show Goes _ _ _ _ _ (fT T5 m 111 #[vi 0, vi 2, vi 0, vi d0, vi d1, vi f0, vi f1] [(.ref b1)])
 refine Goes.ret X5 (some (.ref b1)) (fun h => by rw [hret] at h; cases h) hlk (by decide) (by decide) ?_ (fun fs hr => ?_)
 ·exact ⟨b1, rfl, N5, KP, T_b1, g_b1, sz_b1⟩
 ·exact own_retA X5 hx hret rfl rfl (hb hby d18_111) hr
theorem d18_112 : decode method_3_code 112 = .ok (.iload_n 2, 1) := by decide +kernel
theorem d18_113 : decode method_3_code 113 = .ok (.iconst 1, 1) := by decide +kernel
theorem d18_114 : decode method_3_code 114 = .ok (.if_icmp .ne 33, 3) := by decide +kernel
theorem d18_117 : decode method_3_code 117 = .ok (.new 7, 3) := by decide +kernel
theorem d18_120 : decode method_3_code 120 = .ok (.dup, 1) := by decide +kernel
theorem d18_121 : decode method_3_code 121 = .ok (.iconst 4, 1) := by decide +kernel
theorem d18_122 : decode method_3_code 122 = .ok (.newarray .char, 2) := by decide +kernel
theorem d18_124 : decode method_3_code 124 = .ok (.dup, 1) := by decide +kernel
theorem d18_125 : decode method_3_code 125 = .ok (.iconst 0, 1) := by decide +kernel
theorem d18_126 : decode method_3_code 126 = .ok (.iload_n 3, 1) := by decide +kernel
theorem d18_127 : decode method_3_code 127 = .ok (.castore, 1) := by decide +kernel
theorem d18_128 : decode method_3_code 128 = .ok (.dup, 1) := by decide +kernel
theorem d18_129 : decode method_3_code 129 = .ok (.iconst 1, 1) := by decide +kernel
theorem d18_130 : decode method_3_code 130 = .ok (.iload 4, 2) := by decide +kernel
theorem d18_132 : decode method_3_code 132 = .ok (.castore, 1) := by decide +kernel
theorem d18_133 : decode method_3_code 133 = .ok (.dup, 1) := by decide +kernel
theorem d18_134 : decode method_3_code 134 = .ok (.iconst 2, 1) := by decide +kernel
theorem d18_135 : decode method_3_code 135 = .ok (.bipush 46, 2) := by decide +kernel
theorem d18_137 : decode method_3_code 137 = .ok (.castore, 1) := by decide +kernel
theorem d18_138 : decode method_3_code 138 = .ok (.dup, 1) := by decide +kernel
theorem d18_139 : decode method_3_code 139 = .ok (.iconst 3, 1) := by decide +kernel
theorem d18_140 : decode method_3_code 140 = .ok (.iload 5, 2) := by decide +kernel
theorem d18_142 : decode method_3_code 142 = .ok (.castore, 1) := by decide +kernel
theorem d18_143 : decode method_3_code 143 = .ok (.invokespecial 9, 3) := by decide +kernel
theorem d18_146 : decode method_3_code 146 = .ok (.areturn, 1) := by decide +kernel
theorem own_ef_rm_text021 (m : MethodId) (x3 : Int32) (x4 : Int32) (x5 : Int32) (x6 : Int32) : entryFrame m #[(.int 0), (.int 2), (.int 1), (.int x3), (.int x4), (.int x5), (.int x6)] 7 = mkF m 0 #[vi 0, vi 2, vi 1, vi x3, vi x4, vi x5, vi x6] [] := by first | (simp [entryFrame, mkF, argsToLocals, Value.category]; done) | rfl
def Q_rm_text021 (Z : State) (d0 : Int32) (d1 : Int32) (f0 : Int32) (f1 : Int32) (cz : Int32) (h0 : Heap) (n0 : Nat) (v : Option Value) (h : Heap) (L : List Loc) : Prop := ∃ u : Addr, v = some (.ref u) ∧ Fr n0 L ∧ Keep h0 h [] ∧ StrOf Z h u [d0, d1, (46 : Int32), f0] ∧ n0 ≤ u ∧ h0.size ≤ u
theorem rm_text021 (l : Launch) (Z : State) (a0 : Array Value) (hw : HW a0 Z) (ws : List Jvm.Cond) (d0 : Int32) (d1 : Int32) (f0 : Int32) (f1 : Int32) (cz : Int32) (h0 : Heap) (n0 : Nat) (Z0 : n0 ≤ h0.size) (hD_d0 : Dig d0) (hD_d1 : Dig d1) (hD_f0 : Dig f0) (hD_f1 : Dig f1) (sgC : Sta Z h0 "java/lang/String" "COMPACT_STRINGS" "Z" (.int cz)) (hcz : ¬ (cz = 0)) :
  Met l Z mN18 method_3_code 7 (some (.object "java/lang/String")) ({ frames := 4, cells := 3, slots := 12, locals := 66 } : Room) ws #[(.int 0), (.int 2), (.int 1), (.int d0), (.int d1), (.int f0), (.int f1)] h0 (Q_rm_text021 Z d0 d1 f0 f1 cz h0 n0) := by
 refine own_met (plainFor_of_name own_pn7) ?_
 intro p e s m below meth c s₁ hret hx hby hlk hml hown hnm X0 e0 hZ hh
 have N0 := Fr.nil n0
 refine Gz (castTop (own_ef_rm_text021 m d0 d1 f0 f1)) ?_
 have KP : Keep h0 h0 [] := Keep.refl _ _
 show Goes _ _ _ _ _ (fT s₁ m 0 #[vi 0, vi 2, vi 1, vi d0, vi d1, vi f0, vi f1] [])
 refine gN X0 hx hby d18_0 rfl rfl ?_
 refine gu X0 hx hby d18_1 ((if0 _ _).trans (teq (by decide : ((0 : Int32) = (0 : Int32)))).2) ?_
 refine gN X0 hx hby d18_4 rfl rfl ?_
 refine gC X0 hx hby d18_5 ?_
 refine gY X0 hx hby d18_6 6 88 (feq (by decide : ¬ ((2 : Int32) = (1 : Int32)))).2 ?_
 refine gN X0 hx hby d18_88 rfl rfl ?_
 show Goes _ _ _ _ _ (fT s₁ m 89 #[vi 0, vi 2, vi 1, vi d0, vi d1, vi f0, vi f1] [(.int 1)])
 refine gy X0 hx hby d18_89 89 112 ((if0 _ _).trans (feq (by decide : ¬ ((1 : Int32) = (0 : Int32)))).2) ?_
 refine gN X0 hx hby d18_112 rfl rfl ?_
 refine gC X0 hx hby d18_113 ?_
 refine gU X0 hx hby d18_114 (teq (by decide : ((1 : Int32) = (1 : Int32)))).2 ?_
 obtain ⟨T1, h1, X1, e1, E1, A1, D1, -, st1⟩ := newO X0 hx hZ hown (gw hw 7 rfl) (gw hw 8 rfl) (gw hw 9 rfl) e0 (g := (mkF m 117 #[vi 0, vi 2, vi 1, vi d0, vi d1, vi f0, vi f1] [])) rfl (hb hby d18_117) (by decide) (by decide)
 obtain ⟨b1, gq1⟩ : ∃ z, z = h0.size := ⟨_, rfl⟩
 rw [← gq1] at A1 st1 D1
 have g_b1 : n0 ≤ b1 := by rw [gq1]; exact Z0
 have sz_b1 : h0.size ≤ b1 := by rw [gq1]; exact KP.1
 replace sgC := sgC.ext E1
 replace KP := KP.ext E1
 replace Z0 : n0 ≤ h1.size := Nat.le_trans Z0 E1.1
 have A_b1 : Exa Z h1 b1 "java/lang/String" := A1
 have F_coder_b1 : Fld Z h1 b1 "java/lang/String" "coder" "B" (.int 0) := D1 (Or.inr (gw hw 34 rfl)) (ty := .byte) (by decide)
 have F_value_b1 : Fld Z h1 b1 "java/lang/String" "value" "[B" .null := D1 (Or.inr (gw hw 36 rfl)) (ty := (.array .byte)) (by decide)
 refine Gs st1 ?_
 show Goes _ _ _ _ _ (fT T1 m 120 #[vi 0, vi 2, vi 1, vi d0, vi d1, vi f0, vi f1] [(.ref b1)])
 refine Gz (XS.dup X1.here hx rfl (hb hby d18_120) rfl rfl) ?_
 refine gC X1 hx hby d18_121 ?_
 obtain ⟨T2, h2, k2, X2, e2, E2, A2, st2⟩ := newP X1 hx hZ (gw hw 10 rfl) e1 (g := (mkF m 122 #[vi 0, vi 2, vi 1, vi d0, vi d1, vi f0, vi f1] [(.int 4), (.ref b1), (.ref b1)])) rfl (hb hby d18_122) rfl (by decide) (cap := 4) (by decide) (by decide) (by decide) (by decide)
 obtain ⟨b2, gq2⟩ : ∃ z, z = h1.size := ⟨_, rfl⟩
 rw [← gq2] at A2 st2
 have g_b2 : n0 ≤ b2 := by rw [gq2]; exact Z0
 have sz_b2 : h0.size ≤ b2 := by rw [gq2]; exact KP.1
 have ne_b1_b2 : b1 ≠ b2 := by rw [gq2]; exact Nat.ne_of_lt A_b1.lt
 replace sgC := sgC.ext E2
 replace A_b1 := A_b1.ext E2
 replace F_coder_b1 := F_coder_b1.ext E2
 replace F_value_b1 := F_value_b1.ext E2
 replace KP := KP.ext E2
 replace Z0 : n0 ≤ h2.size := Nat.le_trans Z0 E2.1
 have V_b2 : Arv Z h2 b2 k2 .char 4 [(.int 0), (.int 0), (.int 0), (.int 0)] (.int 0) := (Arv.new A2 (by decide)).pad (pad_rep [] (.int 0) 4)
 refine Gs st2 ?_
 show Goes _ _ _ _ _ (fT T2 m 124 #[vi 0, vi 2, vi 1, vi d0, vi d1, vi f0, vi f1] [(.ref b2), (.ref b1), (.ref b1)])
 refine Gz (XS.dup X2.here hx rfl (hb hby d18_124) rfl rfl) ?_
 refine gC X2 hx hby d18_125 ?_
 refine gN X2 hx hby d18_126 rfl rfl ?_
 obtain ⟨cl3, Ar3, q3, S3, N3z, H3, G3⟩ := V_b2
 have hin3 : ¬ ((0 : Int32) < 0 ∨ cl3.slots.size ≤ ((0 : Int32)).toNatClampNeg) := inb_of S3 ⟨by decide, by decide⟩
 obtain ⟨T3, h3, X3, e3, W3, st3⟩ := stC X2 hx hZ e2 Ar3 (j := (0 : Int32)) hin3 (g := (mkF m 127 #[vi 0, vi 2, vi 1, vi d0, vi d1, vi f0, vi f1] [(.int d0), (.int 0), (.ref b2), (.ref b2), (.ref b1), (.ref b1)])) rfl rfl (hb hby d18_127)
 have Vn3 := Arv.set Ar3 q3 S3 N3z H3 G3 (fits_nar_char _) W3 0 rfl (Nat.le_of_ble_eq_true rfl)
 have N3 := Fr.snoc X3 N0 g_b2
 replace sgC := sgC.wr W3
 replace A_b1 := A_b1.wr W3
 replace F_coder_b1 := F_coder_b1.other W3 (Or.inl ne_b1_b2)
 replace F_value_b1 := F_value_b1.other W3 (Or.inl ne_b1_b2)
 replace KP := KP.wr W3 (Or.inr sz_b2)
 have V_b2 : Arv Z h3 b2 k2 .char 4 [(.int d0), (.int 0), (.int 0), (.int 0)] (.int 0) := by have q := Vn3; rw [own_nc hD_d0.lat.chr] at q; exact q
 replace Z0 : n0 ≤ h3.size := by rw [W3.size]; exact Z0
 refine Gs st3 ?_
 show Goes _ _ _ _ _ (fT T3 m 128 #[vi 0, vi 2, vi 1, vi d0, vi d1, vi f0, vi f1] [(.ref b2), (.ref b1), (.ref b1)])
 refine Gz (XS.dup X3.here hx rfl (hb hby d18_128) rfl rfl) ?_
 refine gC X3 hx hby d18_129 ?_
 refine gI X3 hx hby d18_130 rfl rfl ?_
 obtain ⟨cl4, Ar4, q4, S4, N4z, H4, G4⟩ := V_b2
 have hin4 : ¬ ((1 : Int32) < 0 ∨ cl4.slots.size ≤ ((1 : Int32)).toNatClampNeg) := inb_of S4 ⟨by decide, by decide⟩
 obtain ⟨T4, h4, X4, e4, W4, st4⟩ := stC X3 hx hZ e3 Ar4 (j := (1 : Int32)) hin4 (g := (mkF m 132 #[vi 0, vi 2, vi 1, vi d0, vi d1, vi f0, vi f1] [(.int d1), (.int 1), (.ref b2), (.ref b2), (.ref b1), (.ref b1)])) rfl rfl (hb hby d18_132)
 have Vn4 := Arv.set Ar4 q4 S4 N4z H4 G4 (fits_nar_char _) W4 1 rfl (Nat.le_of_ble_eq_true rfl)
 have N4 := Fr.snoc X4 N3 g_b2
 replace sgC := sgC.wr W4
 replace A_b1 := A_b1.wr W4
 replace F_coder_b1 := F_coder_b1.other W4 (Or.inl ne_b1_b2)
 replace F_value_b1 := F_value_b1.other W4 (Or.inl ne_b1_b2)
 replace KP := KP.wr W4 (Or.inr sz_b2)
 have V_b2 : Arv Z h4 b2 k2 .char 4 [(.int d0), (.int d1), (.int 0), (.int 0)] (.int 0) := by have q := Vn4; rw [own_nc hD_d1.lat.chr] at q; exact q
 replace Z0 : n0 ≤ h4.size := by rw [W4.size]; exact Z0
 refine Gs st4 ?_
 show Goes _ _ _ _ _ (fT T4 m 133 #[vi 0, vi 2, vi 1, vi d0, vi d1, vi f0, vi f1] [(.ref b2), (.ref b1), (.ref b1)])
 refine Gz (XS.dup X4.here hx rfl (hb hby d18_133) rfl rfl) ?_
 refine gC X4 hx hby d18_134 ?_
 refine gB X4 hx hby d18_135 ?_
 obtain ⟨cl5, Ar5, q5, S5, N5z, H5, G5⟩ := V_b2
 have hin5 : ¬ ((2 : Int32) < 0 ∨ cl5.slots.size ≤ ((2 : Int32)).toNatClampNeg) := inb_of S5 ⟨by decide, by decide⟩
 obtain ⟨T5, h5, X5, e5, W5, st5⟩ := stC X4 hx hZ e4 Ar5 (j := (2 : Int32)) hin5 (g := (mkF m 137 #[vi 0, vi 2, vi 1, vi d0, vi d1, vi f0, vi f1] [(.int 46), (.int 2), (.ref b2), (.ref b2), (.ref b1), (.ref b1)])) rfl rfl (hb hby d18_137)
 have Vn5 := Arv.set Ar5 q5 S5 N5z H5 G5 (fits_nar_char _) W5 2 rfl (Nat.le_of_ble_eq_true rfl)
 have N5 := Fr.snoc X5 N4 g_b2
 replace sgC := sgC.wr W5
 replace A_b1 := A_b1.wr W5
 replace F_coder_b1 := F_coder_b1.other W5 (Or.inl ne_b1_b2)
 replace F_value_b1 := F_value_b1.other W5 (Or.inl ne_b1_b2)
 replace KP := KP.wr W5 (Or.inr sz_b2)
 have V_b2 : Arv Z h5 b2 k2 .char 4 [(.int d0), (.int d1), (.int 46), (.int 0)] (.int 0) := by exact Vn5
 replace Z0 : n0 ≤ h5.size := by rw [W5.size]; exact Z0
 refine Gs st5 ?_
 show Goes _ _ _ _ _ (fT T5 m 138 #[vi 0, vi 2, vi 1, vi d0, vi d1, vi f0, vi f1] [(.ref b2), (.ref b1), (.ref b1)])
 refine Gz (XS.dup X5.here hx rfl (hb hby d18_138) rfl rfl) ?_
 refine gC X5 hx hby d18_139 ?_
 refine gI X5 hx hby d18_140 rfl rfl ?_
 obtain ⟨cl6, Ar6, q6, S6, N6z, H6, G6⟩ := V_b2
 have hin6 : ¬ ((3 : Int32) < 0 ∨ cl6.slots.size ≤ ((3 : Int32)).toNatClampNeg) := inb_of S6 ⟨by decide, by decide⟩
 obtain ⟨T6, h6, X6, e6, W6, st6⟩ := stC X5 hx hZ e5 Ar6 (j := (3 : Int32)) hin6 (g := (mkF m 142 #[vi 0, vi 2, vi 1, vi d0, vi d1, vi f0, vi f1] [(.int f0), (.int 3), (.ref b2), (.ref b2), (.ref b1), (.ref b1)])) rfl rfl (hb hby d18_142)
 have Vn6 := Arv.set Ar6 q6 S6 N6z H6 G6 (fits_nar_char _) W6 3 rfl (Nat.le_of_ble_eq_true rfl)
 have N6 := Fr.snoc X6 N5 g_b2
 replace sgC := sgC.wr W6
 replace A_b1 := A_b1.wr W6
 replace F_coder_b1 := F_coder_b1.other W6 (Or.inl ne_b1_b2)
 replace F_value_b1 := F_value_b1.other W6 (Or.inl ne_b1_b2)
 replace KP := KP.wr W6 (Or.inr sz_b2)
 have V_b2 : Arv Z h6 b2 k2 .char 4 [(.int d0), (.int d1), (.int 46), (.int f0)] (.int 0) := by have q := Vn6; rw [own_nc hD_f0.lat.chr] at q; exact q
 replace Z0 : n0 ≤ h6.size := by rw [W6.size]; exact Z0
 refine Gs st6 ?_
 show Goes _ _ _ _ _ (fT T6 m 143 #[vi 0, vi 2, vi 1, vi d0, vi d1, vi f0, vi f1] [(.ref b2), (.ref b1), (.ref b1)])
 refine cIg X6 hx hZ hw hown hby hml e6 mN11 11 12 13 9 1 (rs_i1_4 l Z a0 hw [] b1 b2 k2 d0 d1 (46 : Int32) f0 cz h6 n0 Z0 A_b1 F_value_b1 F_coder_b1 V_b2 g_b1 (Ne.symm ne_b1_b2) sgC hcz hD_d0.lat hD_d1.lat own_lat46 hD_f0.lat) d18_143 (lenOf own_pd10 rfl) (fun _ T7 L7 X7 hQ7 => ?_)
 obtain ⟨rfl, N7q, K7, T_b1_7'⟩ := hQ7
 have N7 := Fr.app N6 N7q
 replace KP := KP.trans K7 (allS (Or.inr sz_b1) all0)
 replace Z0 := Nat.le_trans Z0 K7.1
 have T_b1 := T_b1_7'
 show Goes _ _ _ _ _ (fT T7 m 146 #[vi 0, vi 2, vi 1, vi d0, vi d1, vi f0, vi f1] [(.ref b1)])
 refine Goes.ret X7 (some (.ref b1)) (fun h => by rw [hret] at h; cases h) hlk (by decide) (by decide) ?_ (fun fs hr => ?_)
 ·exact ⟨b1, rfl, N7, KP, T_b1, g_b1, sz_b1⟩
 ·exact own_retA X7 hx hret rfl rfl (hb hby d18_146) hr
theorem d18_147 : decode method_3_code 147 = .ok (.new 7, 3) := by decide +kernel
theorem d18_150 : decode method_3_code 150 = .ok (.dup, 1) := by decide +kernel
theorem d18_151 : decode method_3_code 151 = .ok (.iconst 5, 1) := by decide +kernel
theorem d18_152 : decode method_3_code 152 = .ok (.newarray .char, 2) := by decide +kernel
theorem d18_154 : decode method_3_code 154 = .ok (.dup, 1) := by decide +kernel
theorem d18_155 : decode method_3_code 155 = .ok (.iconst 0, 1) := by decide +kernel
theorem d18_156 : decode method_3_code 156 = .ok (.iload_n 3, 1) := by decide +kernel
theorem d18_157 : decode method_3_code 157 = .ok (.castore, 1) := by decide +kernel
theorem d18_158 : decode method_3_code 158 = .ok (.dup, 1) := by decide +kernel
theorem d18_159 : decode method_3_code 159 = .ok (.iconst 1, 1) := by decide +kernel
theorem d18_160 : decode method_3_code 160 = .ok (.iload 4, 2) := by decide +kernel
theorem d18_162 : decode method_3_code 162 = .ok (.castore, 1) := by decide +kernel
theorem d18_163 : decode method_3_code 163 = .ok (.dup, 1) := by decide +kernel
theorem d18_164 : decode method_3_code 164 = .ok (.iconst 2, 1) := by decide +kernel
theorem d18_165 : decode method_3_code 165 = .ok (.bipush 46, 2) := by decide +kernel
theorem d18_167 : decode method_3_code 167 = .ok (.castore, 1) := by decide +kernel
theorem d18_168 : decode method_3_code 168 = .ok (.dup, 1) := by decide +kernel
theorem d18_169 : decode method_3_code 169 = .ok (.iconst 3, 1) := by decide +kernel
theorem d18_170 : decode method_3_code 170 = .ok (.iload 5, 2) := by decide +kernel
theorem d18_172 : decode method_3_code 172 = .ok (.castore, 1) := by decide +kernel
theorem d18_173 : decode method_3_code 173 = .ok (.dup, 1) := by decide +kernel
theorem d18_174 : decode method_3_code 174 = .ok (.iconst 4, 1) := by decide +kernel
theorem d18_175 : decode method_3_code 175 = .ok (.iload 6, 2) := by decide +kernel
theorem d18_177 : decode method_3_code 177 = .ok (.castore, 1) := by decide +kernel
theorem d18_178 : decode method_3_code 178 = .ok (.invokespecial 9, 3) := by decide +kernel
theorem d18_181 : decode method_3_code 181 = .ok (.areturn, 1) := by decide +kernel
theorem own_ef_rm_text022 (m : MethodId) (x3 : Int32) (x4 : Int32) (x5 : Int32) (x6 : Int32) : entryFrame m #[(.int 0), (.int 2), (.int 2), (.int x3), (.int x4), (.int x5), (.int x6)] 7 = mkF m 0 #[vi 0, vi 2, vi 2, vi x3, vi x4, vi x5, vi x6] [] := by first | (simp [entryFrame, mkF, argsToLocals, Value.category]; done) | rfl
def Q_rm_text022 (Z : State) (d0 : Int32) (d1 : Int32) (f0 : Int32) (f1 : Int32) (cz : Int32) (h0 : Heap) (n0 : Nat) (v : Option Value) (h : Heap) (L : List Loc) : Prop := ∃ u : Addr, v = some (.ref u) ∧ Fr n0 L ∧ Keep h0 h [] ∧ StrOf Z h u [d0, d1, (46 : Int32), f0, f1] ∧ n0 ≤ u ∧ h0.size ≤ u
theorem rm_text022 (l : Launch) (Z : State) (a0 : Array Value) (hw : HW a0 Z) (ws : List Jvm.Cond) (d0 : Int32) (d1 : Int32) (f0 : Int32) (f1 : Int32) (cz : Int32) (h0 : Heap) (n0 : Nat) (Z0 : n0 ≤ h0.size) (hD_d0 : Dig d0) (hD_d1 : Dig d1) (hD_f0 : Dig f0) (hD_f1 : Dig f1) (sgC : Sta Z h0 "java/lang/String" "COMPACT_STRINGS" "Z" (.int cz)) (hcz : ¬ (cz = 0)) :
  Met l Z mN18 method_3_code 7 (some (.object "java/lang/String")) ({ frames := 4, cells := 3, slots := 14, locals := 66 } : Room) ws #[(.int 0), (.int 2), (.int 2), (.int d0), (.int d1), (.int f0), (.int f1)] h0 (Q_rm_text022 Z d0 d1 f0 f1 cz h0 n0) := by
 refine own_met (plainFor_of_name own_pn7) ?_
 intro p e s m below meth c s₁ hret hx hby hlk hml hown hnm X0 e0 hZ hh
 have N0 := Fr.nil n0
 refine Gz (castTop (own_ef_rm_text022 m d0 d1 f0 f1)) ?_
 have KP : Keep h0 h0 [] := Keep.refl _ _
 show Goes _ _ _ _ _ (fT s₁ m 0 #[vi 0, vi 2, vi 2, vi d0, vi d1, vi f0, vi f1] [])
 refine gN X0 hx hby d18_0 rfl rfl ?_
 refine gu X0 hx hby d18_1 ((if0 _ _).trans (teq (by decide : ((0 : Int32) = (0 : Int32)))).2) ?_
 refine gN X0 hx hby d18_4 rfl rfl ?_
 refine gC X0 hx hby d18_5 ?_
 refine gY X0 hx hby d18_6 6 88 (feq (by decide : ¬ ((2 : Int32) = (1 : Int32)))).2 ?_
 refine gN X0 hx hby d18_88 rfl rfl ?_
 show Goes _ _ _ _ _ (fT s₁ m 89 #[vi 0, vi 2, vi 2, vi d0, vi d1, vi f0, vi f1] [(.int 2)])
 refine gy X0 hx hby d18_89 89 112 ((if0 _ _).trans (feq (by decide : ¬ ((2 : Int32) = (0 : Int32)))).2) ?_
 refine gN X0 hx hby d18_112 rfl rfl ?_
 refine gC X0 hx hby d18_113 ?_
 refine gY X0 hx hby d18_114 114 147 (feq (by decide : ¬ ((2 : Int32) = (1 : Int32)))).2 ?_
 obtain ⟨T1, h1, X1, e1, E1, A1, D1, -, st1⟩ := newO X0 hx hZ hown (gw hw 7 rfl) (gw hw 8 rfl) (gw hw 9 rfl) e0 (g := (mkF m 147 #[vi 0, vi 2, vi 2, vi d0, vi d1, vi f0, vi f1] [])) rfl (hb hby d18_147) (by decide) (by decide)
 obtain ⟨b1, gq1⟩ : ∃ z, z = h0.size := ⟨_, rfl⟩
 rw [← gq1] at A1 st1 D1
 have g_b1 : n0 ≤ b1 := by rw [gq1]; exact Z0
 have sz_b1 : h0.size ≤ b1 := by rw [gq1]; exact KP.1
 replace sgC := sgC.ext E1
 replace KP := KP.ext E1
 replace Z0 : n0 ≤ h1.size := Nat.le_trans Z0 E1.1
 have A_b1 : Exa Z h1 b1 "java/lang/String" := A1
 have F_coder_b1 : Fld Z h1 b1 "java/lang/String" "coder" "B" (.int 0) := D1 (Or.inr (gw hw 34 rfl)) (ty := .byte) (by decide)
 have F_value_b1 : Fld Z h1 b1 "java/lang/String" "value" "[B" .null := D1 (Or.inr (gw hw 36 rfl)) (ty := (.array .byte)) (by decide)
 refine Gs st1 ?_
 show Goes _ _ _ _ _ (fT T1 m 150 #[vi 0, vi 2, vi 2, vi d0, vi d1, vi f0, vi f1] [(.ref b1)])
 refine Gz (XS.dup X1.here hx rfl (hb hby d18_150) rfl rfl) ?_
 refine gC X1 hx hby d18_151 ?_
 obtain ⟨T2, h2, k2, X2, e2, E2, A2, st2⟩ := newP X1 hx hZ (gw hw 10 rfl) e1 (g := (mkF m 152 #[vi 0, vi 2, vi 2, vi d0, vi d1, vi f0, vi f1] [(.int 5), (.ref b1), (.ref b1)])) rfl (hb hby d18_152) rfl (by decide) (cap := 5) (by decide) (by decide) (by decide) (by decide)
 obtain ⟨b2, gq2⟩ : ∃ z, z = h1.size := ⟨_, rfl⟩
 rw [← gq2] at A2 st2
 have g_b2 : n0 ≤ b2 := by rw [gq2]; exact Z0
 have sz_b2 : h0.size ≤ b2 := by rw [gq2]; exact KP.1
 have ne_b1_b2 : b1 ≠ b2 := by rw [gq2]; exact Nat.ne_of_lt A_b1.lt
 replace sgC := sgC.ext E2
 replace A_b1 := A_b1.ext E2
 replace F_coder_b1 := F_coder_b1.ext E2
 replace F_value_b1 := F_value_b1.ext E2
 replace KP := KP.ext E2
 replace Z0 : n0 ≤ h2.size := Nat.le_trans Z0 E2.1
 have V_b2 : Arv Z h2 b2 k2 .char 5 [(.int 0), (.int 0), (.int 0), (.int 0), (.int 0)] (.int 0) := (Arv.new A2 (by decide)).pad (pad_rep [] (.int 0) 5)
 refine Gs st2 ?_
 show Goes _ _ _ _ _ (fT T2 m 154 #[vi 0, vi 2, vi 2, vi d0, vi d1, vi f0, vi f1] [(.ref b2), (.ref b1), (.ref b1)])
 refine Gz (XS.dup X2.here hx rfl (hb hby d18_154) rfl rfl) ?_
 refine gC X2 hx hby d18_155 ?_
 refine gN X2 hx hby d18_156 rfl rfl ?_
 obtain ⟨cl3, Ar3, q3, S3, N3z, H3, G3⟩ := V_b2
 have hin3 : ¬ ((0 : Int32) < 0 ∨ cl3.slots.size ≤ ((0 : Int32)).toNatClampNeg) := inb_of S3 ⟨by decide, by decide⟩
 obtain ⟨T3, h3, X3, e3, W3, st3⟩ := stC X2 hx hZ e2 Ar3 (j := (0 : Int32)) hin3 (g := (mkF m 157 #[vi 0, vi 2, vi 2, vi d0, vi d1, vi f0, vi f1] [(.int d0), (.int 0), (.ref b2), (.ref b2), (.ref b1), (.ref b1)])) rfl rfl (hb hby d18_157)
 have Vn3 := Arv.set Ar3 q3 S3 N3z H3 G3 (fits_nar_char _) W3 0 rfl (Nat.le_of_ble_eq_true rfl)
 have N3 := Fr.snoc X3 N0 g_b2
 replace sgC := sgC.wr W3
 replace A_b1 := A_b1.wr W3
 replace F_coder_b1 := F_coder_b1.other W3 (Or.inl ne_b1_b2)
 replace F_value_b1 := F_value_b1.other W3 (Or.inl ne_b1_b2)
 replace KP := KP.wr W3 (Or.inr sz_b2)
 have V_b2 : Arv Z h3 b2 k2 .char 5 [(.int d0), (.int 0), (.int 0), (.int 0), (.int 0)] (.int 0) := by have q := Vn3; rw [own_nc hD_d0.lat.chr] at q; exact q
 replace Z0 : n0 ≤ h3.size := by rw [W3.size]; exact Z0
 refine Gs st3 ?_
 show Goes _ _ _ _ _ (fT T3 m 158 #[vi 0, vi 2, vi 2, vi d0, vi d1, vi f0, vi f1] [(.ref b2), (.ref b1), (.ref b1)])
 refine Gz (XS.dup X3.here hx rfl (hb hby d18_158) rfl rfl) ?_
 refine gC X3 hx hby d18_159 ?_
 refine gI X3 hx hby d18_160 rfl rfl ?_
 obtain ⟨cl4, Ar4, q4, S4, N4z, H4, G4⟩ := V_b2
 have hin4 : ¬ ((1 : Int32) < 0 ∨ cl4.slots.size ≤ ((1 : Int32)).toNatClampNeg) := inb_of S4 ⟨by decide, by decide⟩
 obtain ⟨T4, h4, X4, e4, W4, st4⟩ := stC X3 hx hZ e3 Ar4 (j := (1 : Int32)) hin4 (g := (mkF m 162 #[vi 0, vi 2, vi 2, vi d0, vi d1, vi f0, vi f1] [(.int d1), (.int 1), (.ref b2), (.ref b2), (.ref b1), (.ref b1)])) rfl rfl (hb hby d18_162)
 have Vn4 := Arv.set Ar4 q4 S4 N4z H4 G4 (fits_nar_char _) W4 1 rfl (Nat.le_of_ble_eq_true rfl)
 have N4 := Fr.snoc X4 N3 g_b2
 replace sgC := sgC.wr W4
 replace A_b1 := A_b1.wr W4
 replace F_coder_b1 := F_coder_b1.other W4 (Or.inl ne_b1_b2)
 replace F_value_b1 := F_value_b1.other W4 (Or.inl ne_b1_b2)
 replace KP := KP.wr W4 (Or.inr sz_b2)
 have V_b2 : Arv Z h4 b2 k2 .char 5 [(.int d0), (.int d1), (.int 0), (.int 0), (.int 0)] (.int 0) := by have q := Vn4; rw [own_nc hD_d1.lat.chr] at q; exact q
 replace Z0 : n0 ≤ h4.size := by rw [W4.size]; exact Z0
 refine Gs st4 ?_
 show Goes _ _ _ _ _ (fT T4 m 163 #[vi 0, vi 2, vi 2, vi d0, vi d1, vi f0, vi f1] [(.ref b2), (.ref b1), (.ref b1)])
 refine Gz (XS.dup X4.here hx rfl (hb hby d18_163) rfl rfl) ?_
 refine gC X4 hx hby d18_164 ?_
 refine gB X4 hx hby d18_165 ?_
 obtain ⟨cl5, Ar5, q5, S5, N5z, H5, G5⟩ := V_b2
 have hin5 : ¬ ((2 : Int32) < 0 ∨ cl5.slots.size ≤ ((2 : Int32)).toNatClampNeg) := inb_of S5 ⟨by decide, by decide⟩
 obtain ⟨T5, h5, X5, e5, W5, st5⟩ := stC X4 hx hZ e4 Ar5 (j := (2 : Int32)) hin5 (g := (mkF m 167 #[vi 0, vi 2, vi 2, vi d0, vi d1, vi f0, vi f1] [(.int 46), (.int 2), (.ref b2), (.ref b2), (.ref b1), (.ref b1)])) rfl rfl (hb hby d18_167)
 have Vn5 := Arv.set Ar5 q5 S5 N5z H5 G5 (fits_nar_char _) W5 2 rfl (Nat.le_of_ble_eq_true rfl)
 have N5 := Fr.snoc X5 N4 g_b2
 replace sgC := sgC.wr W5
 replace A_b1 := A_b1.wr W5
 replace F_coder_b1 := F_coder_b1.other W5 (Or.inl ne_b1_b2)
 replace F_value_b1 := F_value_b1.other W5 (Or.inl ne_b1_b2)
 replace KP := KP.wr W5 (Or.inr sz_b2)
 have V_b2 : Arv Z h5 b2 k2 .char 5 [(.int d0), (.int d1), (.int 46), (.int 0), (.int 0)] (.int 0) := by exact Vn5
 replace Z0 : n0 ≤ h5.size := by rw [W5.size]; exact Z0
 refine Gs st5 ?_
 show Goes _ _ _ _ _ (fT T5 m 168 #[vi 0, vi 2, vi 2, vi d0, vi d1, vi f0, vi f1] [(.ref b2), (.ref b1), (.ref b1)])
 refine Gz (XS.dup X5.here hx rfl (hb hby d18_168) rfl rfl) ?_
 refine gC X5 hx hby d18_169 ?_
 refine gI X5 hx hby d18_170 rfl rfl ?_
 obtain ⟨cl6, Ar6, q6, S6, N6z, H6, G6⟩ := V_b2
 have hin6 : ¬ ((3 : Int32) < 0 ∨ cl6.slots.size ≤ ((3 : Int32)).toNatClampNeg) := inb_of S6 ⟨by decide, by decide⟩
 obtain ⟨T6, h6, X6, e6, W6, st6⟩ := stC X5 hx hZ e5 Ar6 (j := (3 : Int32)) hin6 (g := (mkF m 172 #[vi 0, vi 2, vi 2, vi d0, vi d1, vi f0, vi f1] [(.int f0), (.int 3), (.ref b2), (.ref b2), (.ref b1), (.ref b1)])) rfl rfl (hb hby d18_172)
 have Vn6 := Arv.set Ar6 q6 S6 N6z H6 G6 (fits_nar_char _) W6 3 rfl (Nat.le_of_ble_eq_true rfl)
 have N6 := Fr.snoc X6 N5 g_b2
 replace sgC := sgC.wr W6
 replace A_b1 := A_b1.wr W6
 replace F_coder_b1 := F_coder_b1.other W6 (Or.inl ne_b1_b2)
 replace F_value_b1 := F_value_b1.other W6 (Or.inl ne_b1_b2)
 replace KP := KP.wr W6 (Or.inr sz_b2)
 have V_b2 : Arv Z h6 b2 k2 .char 5 [(.int d0), (.int d1), (.int 46), (.int f0), (.int 0)] (.int 0) := by have q := Vn6; rw [own_nc hD_f0.lat.chr] at q; exact q
 replace Z0 : n0 ≤ h6.size := by rw [W6.size]; exact Z0
 refine Gs st6 ?_
 show Goes _ _ _ _ _ (fT T6 m 173 #[vi 0, vi 2, vi 2, vi d0, vi d1, vi f0, vi f1] [(.ref b2), (.ref b1), (.ref b1)])
 refine Gz (XS.dup X6.here hx rfl (hb hby d18_173) rfl rfl) ?_
 refine gC X6 hx hby d18_174 ?_
 refine gI X6 hx hby d18_175 rfl rfl ?_
 obtain ⟨cl7, Ar7, q7, S7, N7z, H7, G7⟩ := V_b2
 have hin7 : ¬ ((4 : Int32) < 0 ∨ cl7.slots.size ≤ ((4 : Int32)).toNatClampNeg) := inb_of S7 ⟨by decide, by decide⟩
 obtain ⟨T7, h7, X7, e7, W7, st7⟩ := stC X6 hx hZ e6 Ar7 (j := (4 : Int32)) hin7 (g := (mkF m 177 #[vi 0, vi 2, vi 2, vi d0, vi d1, vi f0, vi f1] [(.int f1), (.int 4), (.ref b2), (.ref b2), (.ref b1), (.ref b1)])) rfl rfl (hb hby d18_177)
 have Vn7 := Arv.set Ar7 q7 S7 N7z H7 G7 (fits_nar_char _) W7 4 rfl (Nat.le_of_ble_eq_true rfl)
 have N7 := Fr.snoc X7 N6 g_b2
 replace sgC := sgC.wr W7
 replace A_b1 := A_b1.wr W7
 replace F_coder_b1 := F_coder_b1.other W7 (Or.inl ne_b1_b2)
 replace F_value_b1 := F_value_b1.other W7 (Or.inl ne_b1_b2)
 replace KP := KP.wr W7 (Or.inr sz_b2)
 have V_b2 : Arv Z h7 b2 k2 .char 5 [(.int d0), (.int d1), (.int 46), (.int f0), (.int f1)] (.int 0) := by have q := Vn7; rw [own_nc hD_f1.lat.chr] at q; exact q
 replace Z0 : n0 ≤ h7.size := by rw [W7.size]; exact Z0
 refine Gs st7 ?_
 show Goes _ _ _ _ _ (fT T7 m 178 #[vi 0, vi 2, vi 2, vi d0, vi d1, vi f0, vi f1] [(.ref b2), (.ref b1), (.ref b1)])
 refine cIg X7 hx hZ hw hown hby hml e7 mN11 11 12 13 9 1 (rs_i1_5 l Z a0 hw [] b1 b2 k2 d0 d1 (46 : Int32) f0 f1 cz h7 n0 Z0 A_b1 F_value_b1 F_coder_b1 V_b2 g_b1 (Ne.symm ne_b1_b2) sgC hcz hD_d0.lat hD_d1.lat own_lat46 hD_f0.lat hD_f1.lat) d18_178 (lenOf own_pd10 rfl) (fun _ T8 L8 X8 hQ8 => ?_)
 obtain ⟨rfl, N8q, K8, T_b1_8'⟩ := hQ8
 have N8 := Fr.app N7 N8q
 replace KP := KP.trans K8 (allS (Or.inr sz_b1) all0)
 replace Z0 := Nat.le_trans Z0 K8.1
 have T_b1 := T_b1_8'
 show Goes _ _ _ _ _ (fT T8 m 181 #[vi 0, vi 2, vi 2, vi d0, vi d1, vi f0, vi f1] [(.ref b1)])
 refine Goes.ret X8 (some (.ref b1)) (fun h => by rw [hret] at h; cases h) hlk (by decide) (by decide) ?_ (fun fs hr => ?_)
 ·exact ⟨b1, rfl, N8, KP, T_b1, g_b1, sz_b1⟩
 ·exact own_retA X8 hx hret rfl rfl (hb hby d18_181) hr
theorem d18_182 : decode method_3_code 182 = .ok (.iload_n 1, 1) := by decide +kernel
theorem d18_183 : decode method_3_code 183 = .ok (.iconst 1, 1) := by decide +kernel
theorem d18_184 : decode method_3_code 184 = .ok (.if_icmp .ne 97, 3) := by decide +kernel
theorem d18_187 : decode method_3_code 187 = .ok (.iload_n 2, 1) := by decide +kernel
theorem d18_188 : decode method_3_code 188 = .ok (.ifCond .ne 23, 3) := by decide +kernel
theorem d18_191 : decode method_3_code 191 = .ok (.new 7, 3) := by decide +kernel
theorem d18_194 : decode method_3_code 194 = .ok (.dup, 1) := by decide +kernel
theorem d18_195 : decode method_3_code 195 = .ok (.iconst 2, 1) := by decide +kernel
theorem d18_196 : decode method_3_code 196 = .ok (.newarray .char, 2) := by decide +kernel
theorem d18_198 : decode method_3_code 198 = .ok (.dup, 1) := by decide +kernel
theorem d18_199 : decode method_3_code 199 = .ok (.iconst 0, 1) := by decide +kernel
theorem d18_200 : decode method_3_code 200 = .ok (.bipush 45, 2) := by decide +kernel
theorem d18_202 : decode method_3_code 202 = .ok (.castore, 1) := by decide +kernel
theorem d18_203 : decode method_3_code 203 = .ok (.dup, 1) := by decide +kernel
theorem d18_204 : decode method_3_code 204 = .ok (.iconst 1, 1) := by decide +kernel
theorem d18_205 : decode method_3_code 205 = .ok (.iload_n 3, 1) := by decide +kernel
theorem d18_206 : decode method_3_code 206 = .ok (.castore, 1) := by decide +kernel
theorem d18_207 : decode method_3_code 207 = .ok (.invokespecial 9, 3) := by decide +kernel
theorem d18_210 : decode method_3_code 210 = .ok (.areturn, 1) := by decide +kernel
theorem own_ef_rm_text110 (m : MethodId) (x3 : Int32) (x4 : Int32) (x5 : Int32) (x6 : Int32) : entryFrame m #[(.int 1), (.int 1), (.int 0), (.int x3), (.int x4), (.int x5), (.int x6)] 7 = mkF m 0 #[vi 1, vi 1, vi 0, vi x3, vi x4, vi x5, vi x6] [] := by first | (simp [entryFrame, mkF, argsToLocals, Value.category]; done) | rfl
def Q_rm_text110 (Z : State) (d0 : Int32) (d1 : Int32) (f0 : Int32) (f1 : Int32) (cz : Int32) (h0 : Heap) (n0 : Nat) (v : Option Value) (h : Heap) (L : List Loc) : Prop := ∃ u : Addr, v = some (.ref u) ∧ Fr n0 L ∧ Keep h0 h [] ∧ StrOf Z h u [(45 : Int32), d0] ∧ n0 ≤ u ∧ h0.size ≤ u
theorem rm_text110 (l : Launch) (Z : State) (a0 : Array Value) (hw : HW a0 Z) (ws : List Jvm.Cond) (d0 : Int32) (d1 : Int32) (f0 : Int32) (f1 : Int32) (cz : Int32) (h0 : Heap) (n0 : Nat) (Z0 : n0 ≤ h0.size) (hD_d0 : Dig d0) (hD_d1 : Dig d1) (hD_f0 : Dig f0) (hD_f1 : Dig f1) (sgC : Sta Z h0 "java/lang/String" "COMPACT_STRINGS" "Z" (.int cz)) (hcz : ¬ (cz = 0)) :
  Met l Z mN18 method_3_code 7 (some (.object "java/lang/String")) ({ frames := 4, cells := 3, slots := 8, locals := 66 } : Room) ws #[(.int 1), (.int 1), (.int 0), (.int d0), (.int d1), (.int f0), (.int f1)] h0 (Q_rm_text110 Z d0 d1 f0 f1 cz h0 n0) := by
 refine own_met (plainFor_of_name own_pn7) ?_
 intro p e s m below meth c s₁ hret hx hby hlk hml hown hnm X0 e0 hZ hh
 have N0 := Fr.nil n0
 refine Gz (castTop (own_ef_rm_text110 m d0 d1 f0 f1)) ?_
 have KP : Keep h0 h0 [] := Keep.refl _ _
 show Goes _ _ _ _ _ (fT s₁ m 0 #[vi 1, vi 1, vi 0, vi d0, vi d1, vi f0, vi f1] [])
 refine gN X0 hx hby d18_0 rfl rfl ?_
 refine gy X0 hx hby d18_1 1 182 ((if0 _ _).trans (feq (by decide : ¬ ((1 : Int32) = (0 : Int32)))).2) ?_
 refine gN X0 hx hby d18_182 rfl rfl ?_
 refine gC X0 hx hby d18_183 ?_
 refine gU X0 hx hby d18_184 (teq (by decide : ((1 : Int32) = (1 : Int32)))).2 ?_
 refine gN X0 hx hby d18_187 rfl rfl ?_
 show Goes _ _ _ _ _ (fT s₁ m 188 #[vi 1, vi 1, vi 0, vi d0, vi d1, vi f0, vi f1] [(.int 0)])
 refine gu X0 hx hby d18_188 ((if0 _ _).trans (teq (by decide : ((0 : Int32) = (0 : Int32)))).2) ?_
 obtain ⟨T1, h1, X1, e1, E1, A1, D1, -, st1⟩ := newO X0 hx hZ hown (gw hw 7 rfl) (gw hw 8 rfl) (gw hw 9 rfl) e0 (g := (mkF m 191 #[vi 1, vi 1, vi 0, vi d0, vi d1, vi f0, vi f1] [])) rfl (hb hby d18_191) (by decide) (by decide)
 obtain ⟨b1, gq1⟩ : ∃ z, z = h0.size := ⟨_, rfl⟩
 rw [← gq1] at A1 st1 D1
 have g_b1 : n0 ≤ b1 := by rw [gq1]; exact Z0
 have sz_b1 : h0.size ≤ b1 := by rw [gq1]; exact KP.1
 replace sgC := sgC.ext E1
 replace KP := KP.ext E1
 replace Z0 : n0 ≤ h1.size := Nat.le_trans Z0 E1.1
 have A_b1 : Exa Z h1 b1 "java/lang/String" := A1
 have F_coder_b1 : Fld Z h1 b1 "java/lang/String" "coder" "B" (.int 0) := D1 (Or.inr (gw hw 34 rfl)) (ty := .byte) (by decide)
 have F_value_b1 : Fld Z h1 b1 "java/lang/String" "value" "[B" .null := D1 (Or.inr (gw hw 36 rfl)) (ty := (.array .byte)) (by decide)
 refine Gs st1 ?_
 show Goes _ _ _ _ _ (fT T1 m 194 #[vi 1, vi 1, vi 0, vi d0, vi d1, vi f0, vi f1] [(.ref b1)])
 refine Gz (XS.dup X1.here hx rfl (hb hby d18_194) rfl rfl) ?_
 refine gC X1 hx hby d18_195 ?_
 obtain ⟨T2, h2, k2, X2, e2, E2, A2, st2⟩ := newP X1 hx hZ (gw hw 10 rfl) e1 (g := (mkF m 196 #[vi 1, vi 1, vi 0, vi d0, vi d1, vi f0, vi f1] [(.int 2), (.ref b1), (.ref b1)])) rfl (hb hby d18_196) rfl (by decide) (cap := 2) (by decide) (by decide) (by decide) (by decide)
 obtain ⟨b2, gq2⟩ : ∃ z, z = h1.size := ⟨_, rfl⟩
 rw [← gq2] at A2 st2
 have g_b2 : n0 ≤ b2 := by rw [gq2]; exact Z0
 have sz_b2 : h0.size ≤ b2 := by rw [gq2]; exact KP.1
 have ne_b1_b2 : b1 ≠ b2 := by rw [gq2]; exact Nat.ne_of_lt A_b1.lt
 replace sgC := sgC.ext E2
 replace A_b1 := A_b1.ext E2
 replace F_coder_b1 := F_coder_b1.ext E2
 replace F_value_b1 := F_value_b1.ext E2
 replace KP := KP.ext E2
 replace Z0 : n0 ≤ h2.size := Nat.le_trans Z0 E2.1
 have V_b2 : Arv Z h2 b2 k2 .char 2 [(.int 0), (.int 0)] (.int 0) := (Arv.new A2 (by decide)).pad (pad_rep [] (.int 0) 2)
 refine Gs st2 ?_
 show Goes _ _ _ _ _ (fT T2 m 198 #[vi 1, vi 1, vi 0, vi d0, vi d1, vi f0, vi f1] [(.ref b2), (.ref b1), (.ref b1)])
 refine Gz (XS.dup X2.here hx rfl (hb hby d18_198) rfl rfl) ?_
 refine gC X2 hx hby d18_199 ?_
 refine gB X2 hx hby d18_200 ?_
 obtain ⟨cl3, Ar3, q3, S3, N3z, H3, G3⟩ := V_b2
 have hin3 : ¬ ((0 : Int32) < 0 ∨ cl3.slots.size ≤ ((0 : Int32)).toNatClampNeg) := inb_of S3 ⟨by decide, by decide⟩
 obtain ⟨T3, h3, X3, e3, W3, st3⟩ := stC X2 hx hZ e2 Ar3 (j := (0 : Int32)) hin3 (g := (mkF m 202 #[vi 1, vi 1, vi 0, vi d0, vi d1, vi f0, vi f1] [(.int 45), (.int 0), (.ref b2), (.ref b2), (.ref b1), (.ref b1)])) rfl rfl (hb hby d18_202)
 have Vn3 := Arv.set Ar3 q3 S3 N3z H3 G3 (fits_nar_char _) W3 0 rfl (Nat.le_of_ble_eq_true rfl)
 have N3 := Fr.snoc X3 N0 g_b2
 replace sgC := sgC.wr W3
 replace A_b1 := A_b1.wr W3
 replace F_coder_b1 := F_coder_b1.other W3 (Or.inl ne_b1_b2)
 replace F_value_b1 := F_value_b1.other W3 (Or.inl ne_b1_b2)
 replace KP := KP.wr W3 (Or.inr sz_b2)
 have V_b2 : Arv Z h3 b2 k2 .char 2 [(.int 45), (.int 0)] (.int 0) := by exact Vn3
 replace Z0 : n0 ≤ h3.size := by rw [W3.size]; exact Z0
 refine Gs st3 ?_
 show Goes _ _ _ _ _ (fT T3 m 203 #[vi 1, vi 1, vi 0, vi d0, vi d1, vi f0, vi f1] [(.ref b2), (.ref b1), (.ref b1)])
 refine Gz (XS.dup X3.here hx rfl (hb hby d18_203) rfl rfl) ?_
 refine gC X3 hx hby d18_204 ?_
 refine gN X3 hx hby d18_205 rfl rfl ?_
 obtain ⟨cl4, Ar4, q4, S4, N4z, H4, G4⟩ := V_b2
 have hin4 : ¬ ((1 : Int32) < 0 ∨ cl4.slots.size ≤ ((1 : Int32)).toNatClampNeg) := inb_of S4 ⟨by decide, by decide⟩
 obtain ⟨T4, h4, X4, e4, W4, st4⟩ := stC X3 hx hZ e3 Ar4 (j := (1 : Int32)) hin4 (g := (mkF m 206 #[vi 1, vi 1, vi 0, vi d0, vi d1, vi f0, vi f1] [(.int d0), (.int 1), (.ref b2), (.ref b2), (.ref b1), (.ref b1)])) rfl rfl (hb hby d18_206)
 have Vn4 := Arv.set Ar4 q4 S4 N4z H4 G4 (fits_nar_char _) W4 1 rfl (Nat.le_of_ble_eq_true rfl)
 have N4 := Fr.snoc X4 N3 g_b2
 replace sgC := sgC.wr W4
 replace A_b1 := A_b1.wr W4
 replace F_coder_b1 := F_coder_b1.other W4 (Or.inl ne_b1_b2)
 replace F_value_b1 := F_value_b1.other W4 (Or.inl ne_b1_b2)
 replace KP := KP.wr W4 (Or.inr sz_b2)
 have V_b2 : Arv Z h4 b2 k2 .char 2 [(.int 45), (.int d0)] (.int 0) := by have q := Vn4; rw [own_nc hD_d0.lat.chr] at q; exact q
 replace Z0 : n0 ≤ h4.size := by rw [W4.size]; exact Z0
 refine Gs st4 ?_
 show Goes _ _ _ _ _ (fT T4 m 207 #[vi 1, vi 1, vi 0, vi d0, vi d1, vi f0, vi f1] [(.ref b2), (.ref b1), (.ref b1)])
 refine cIg X4 hx hZ hw hown hby hml e4 mN11 11 12 13 9 1 (rs_i1_2 l Z a0 hw [] b1 b2 k2 (45 : Int32) d0 cz h4 n0 Z0 A_b1 F_value_b1 F_coder_b1 V_b2 g_b1 (Ne.symm ne_b1_b2) sgC hcz own_lat45 hD_d0.lat) d18_207 (lenOf own_pd10 rfl) (fun _ T5 L5 X5 hQ5 => ?_)
 obtain ⟨rfl, N5q, K5, T_b1_5'⟩ := hQ5
 have N5 := Fr.app N4 N5q
 replace KP := KP.trans K5 (allS (Or.inr sz_b1) all0)
 replace Z0 := Nat.le_trans Z0 K5.1
 have T_b1 := T_b1_5'
 show Goes _ _ _ _ _ (fT T5 m 210 #[vi 1, vi 1, vi 0, vi d0, vi d1, vi f0, vi f1] [(.ref b1)])
 refine Goes.ret X5 (some (.ref b1)) (fun h => by rw [hret] at h; cases h) hlk (by decide) (by decide) ?_ (fun fs hr => ?_)
 ·exact ⟨b1, rfl, N5, KP, T_b1, g_b1, sz_b1⟩
 ·exact own_retA X5 hx hret rfl rfl (hb hby d18_210) hr
theorem d18_211 : decode method_3_code 211 = .ok (.iload_n 2, 1) := by decide +kernel
theorem d18_212 : decode method_3_code 212 = .ok (.iconst 1, 1) := by decide +kernel
theorem d18_213 : decode method_3_code 213 = .ok (.if_icmp .ne 33, 3) := by decide +kernel
theorem d18_216 : decode method_3_code 216 = .ok (.new 7, 3) := by decide +kernel
theorem d18_219 : decode method_3_code 219 = .ok (.dup, 1) := by decide +kernel
theorem d18_220 : decode method_3_code 220 = .ok (.iconst 4, 1) := by decide +kernel
theorem d18_221 : decode method_3_code 221 = .ok (.newarray .char, 2) := by decide +kernel
theorem d18_223 : decode method_3_code 223 = .ok (.dup, 1) := by decide +kernel
theorem d18_224 : decode method_3_code 224 = .ok (.iconst 0, 1) := by decide +kernel
theorem d18_225 : decode method_3_code 225 = .ok (.bipush 45, 2) := by decide +kernel
theorem d18_227 : decode method_3_code 227 = .ok (.castore, 1) := by decide +kernel
theorem d18_228 : decode method_3_code 228 = .ok (.dup, 1) := by decide +kernel
theorem d18_229 : decode method_3_code 229 = .ok (.iconst 1, 1) := by decide +kernel
theorem d18_230 : decode method_3_code 230 = .ok (.iload_n 3, 1) := by decide +kernel
theorem d18_231 : decode method_3_code 231 = .ok (.castore, 1) := by decide +kernel
theorem d18_232 : decode method_3_code 232 = .ok (.dup, 1) := by decide +kernel
theorem d18_233 : decode method_3_code 233 = .ok (.iconst 2, 1) := by decide +kernel
theorem d18_234 : decode method_3_code 234 = .ok (.bipush 46, 2) := by decide +kernel
theorem d18_236 : decode method_3_code 236 = .ok (.castore, 1) := by decide +kernel
theorem d18_237 : decode method_3_code 237 = .ok (.dup, 1) := by decide +kernel
theorem d18_238 : decode method_3_code 238 = .ok (.iconst 3, 1) := by decide +kernel
theorem d18_239 : decode method_3_code 239 = .ok (.iload 5, 2) := by decide +kernel
theorem d18_241 : decode method_3_code 241 = .ok (.castore, 1) := by decide +kernel
theorem d18_242 : decode method_3_code 242 = .ok (.invokespecial 9, 3) := by decide +kernel
theorem d18_245 : decode method_3_code 245 = .ok (.areturn, 1) := by decide +kernel
theorem own_ef_rm_text111 (m : MethodId) (x3 : Int32) (x4 : Int32) (x5 : Int32) (x6 : Int32) : entryFrame m #[(.int 1), (.int 1), (.int 1), (.int x3), (.int x4), (.int x5), (.int x6)] 7 = mkF m 0 #[vi 1, vi 1, vi 1, vi x3, vi x4, vi x5, vi x6] [] := by first | (simp [entryFrame, mkF, argsToLocals, Value.category]; done) | rfl
def Q_rm_text111 (Z : State) (d0 : Int32) (d1 : Int32) (f0 : Int32) (f1 : Int32) (cz : Int32) (h0 : Heap) (n0 : Nat) (v : Option Value) (h : Heap) (L : List Loc) : Prop := ∃ u : Addr, v = some (.ref u) ∧ Fr n0 L ∧ Keep h0 h [] ∧ StrOf Z h u [(45 : Int32), d0, (46 : Int32), f0] ∧ n0 ≤ u ∧ h0.size ≤ u
theorem rm_text111 (l : Launch) (Z : State) (a0 : Array Value) (hw : HW a0 Z) (ws : List Jvm.Cond) (d0 : Int32) (d1 : Int32) (f0 : Int32) (f1 : Int32) (cz : Int32) (h0 : Heap) (n0 : Nat) (Z0 : n0 ≤ h0.size) (hD_d0 : Dig d0) (hD_d1 : Dig d1) (hD_f0 : Dig f0) (hD_f1 : Dig f1) (sgC : Sta Z h0 "java/lang/String" "COMPACT_STRINGS" "Z" (.int cz)) (hcz : ¬ (cz = 0)) :
  Met l Z mN18 method_3_code 7 (some (.object "java/lang/String")) ({ frames := 4, cells := 3, slots := 12, locals := 66 } : Room) ws #[(.int 1), (.int 1), (.int 1), (.int d0), (.int d1), (.int f0), (.int f1)] h0 (Q_rm_text111 Z d0 d1 f0 f1 cz h0 n0) := by
 refine own_met (plainFor_of_name own_pn7) ?_
 intro p e s m below meth c s₁ hret hx hby hlk hml hown hnm X0 e0 hZ hh
 have N0 := Fr.nil n0
 refine Gz (castTop (own_ef_rm_text111 m d0 d1 f0 f1)) ?_
 have KP : Keep h0 h0 [] := Keep.refl _ _
 show Goes _ _ _ _ _ (fT s₁ m 0 #[vi 1, vi 1, vi 1, vi d0, vi d1, vi f0, vi f1] [])
 refine gN X0 hx hby d18_0 rfl rfl ?_
 refine gy X0 hx hby d18_1 1 182 ((if0 _ _).trans (feq (by decide : ¬ ((1 : Int32) = (0 : Int32)))).2) ?_
 refine gN X0 hx hby d18_182 rfl rfl ?_
 refine gC X0 hx hby d18_183 ?_
 refine gU X0 hx hby d18_184 (teq (by decide : ((1 : Int32) = (1 : Int32)))).2 ?_
 refine gN X0 hx hby d18_187 rfl rfl ?_
 show Goes _ _ _ _ _ (fT s₁ m 188 #[vi 1, vi 1, vi 1, vi d0, vi d1, vi f0, vi f1] [(.int 1)])
 refine gy X0 hx hby d18_188 188 211 ((if0 _ _).trans (feq (by decide : ¬ ((1 : Int32) = (0 : Int32)))).2) ?_
 refine gN X0 hx hby d18_211 rfl rfl ?_
 refine gC X0 hx hby d18_212 ?_
 refine gU X0 hx hby d18_213 (teq (by decide : ((1 : Int32) = (1 : Int32)))).2 ?_
 obtain ⟨T1, h1, X1, e1, E1, A1, D1, -, st1⟩ := newO X0 hx hZ hown (gw hw 7 rfl) (gw hw 8 rfl) (gw hw 9 rfl) e0 (g := (mkF m 216 #[vi 1, vi 1, vi 1, vi d0, vi d1, vi f0, vi f1] [])) rfl (hb hby d18_216) (by decide) (by decide)
 obtain ⟨b1, gq1⟩ : ∃ z, z = h0.size := ⟨_, rfl⟩
 rw [← gq1] at A1 st1 D1
 have g_b1 : n0 ≤ b1 := by rw [gq1]; exact Z0
 have sz_b1 : h0.size ≤ b1 := by rw [gq1]; exact KP.1
 replace sgC := sgC.ext E1
 replace KP := KP.ext E1
 replace Z0 : n0 ≤ h1.size := Nat.le_trans Z0 E1.1
 have A_b1 : Exa Z h1 b1 "java/lang/String" := A1
 have F_coder_b1 : Fld Z h1 b1 "java/lang/String" "coder" "B" (.int 0) := D1 (Or.inr (gw hw 34 rfl)) (ty := .byte) (by decide)
 have F_value_b1 : Fld Z h1 b1 "java/lang/String" "value" "[B" .null := D1 (Or.inr (gw hw 36 rfl)) (ty := (.array .byte)) (by decide)
 refine Gs st1 ?_
 show Goes _ _ _ _ _ (fT T1 m 219 #[vi 1, vi 1, vi 1, vi d0, vi d1, vi f0, vi f1] [(.ref b1)])
 refine Gz (XS.dup X1.here hx rfl (hb hby d18_219) rfl rfl) ?_
 refine gC X1 hx hby d18_220 ?_
 obtain ⟨T2, h2, k2, X2, e2, E2, A2, st2⟩ := newP X1 hx hZ (gw hw 10 rfl) e1 (g := (mkF m 221 #[vi 1, vi 1, vi 1, vi d0, vi d1, vi f0, vi f1] [(.int 4), (.ref b1), (.ref b1)])) rfl (hb hby d18_221) rfl (by decide) (cap := 4) (by decide) (by decide) (by decide) (by decide)
 obtain ⟨b2, gq2⟩ : ∃ z, z = h1.size := ⟨_, rfl⟩
 rw [← gq2] at A2 st2
 have g_b2 : n0 ≤ b2 := by rw [gq2]; exact Z0
 have sz_b2 : h0.size ≤ b2 := by rw [gq2]; exact KP.1
 have ne_b1_b2 : b1 ≠ b2 := by rw [gq2]; exact Nat.ne_of_lt A_b1.lt
 replace sgC := sgC.ext E2
 replace A_b1 := A_b1.ext E2
 replace F_coder_b1 := F_coder_b1.ext E2
 replace F_value_b1 := F_value_b1.ext E2
 replace KP := KP.ext E2
 replace Z0 : n0 ≤ h2.size := Nat.le_trans Z0 E2.1
 have V_b2 : Arv Z h2 b2 k2 .char 4 [(.int 0), (.int 0), (.int 0), (.int 0)] (.int 0) := (Arv.new A2 (by decide)).pad (pad_rep [] (.int 0) 4)
 refine Gs st2 ?_
 show Goes _ _ _ _ _ (fT T2 m 223 #[vi 1, vi 1, vi 1, vi d0, vi d1, vi f0, vi f1] [(.ref b2), (.ref b1), (.ref b1)])
 refine Gz (XS.dup X2.here hx rfl (hb hby d18_223) rfl rfl) ?_
 refine gC X2 hx hby d18_224 ?_
 refine gB X2 hx hby d18_225 ?_
 obtain ⟨cl3, Ar3, q3, S3, N3z, H3, G3⟩ := V_b2
 have hin3 : ¬ ((0 : Int32) < 0 ∨ cl3.slots.size ≤ ((0 : Int32)).toNatClampNeg) := inb_of S3 ⟨by decide, by decide⟩
 obtain ⟨T3, h3, X3, e3, W3, st3⟩ := stC X2 hx hZ e2 Ar3 (j := (0 : Int32)) hin3 (g := (mkF m 227 #[vi 1, vi 1, vi 1, vi d0, vi d1, vi f0, vi f1] [(.int 45), (.int 0), (.ref b2), (.ref b2), (.ref b1), (.ref b1)])) rfl rfl (hb hby d18_227)
 have Vn3 := Arv.set Ar3 q3 S3 N3z H3 G3 (fits_nar_char _) W3 0 rfl (Nat.le_of_ble_eq_true rfl)
 have N3 := Fr.snoc X3 N0 g_b2
 replace sgC := sgC.wr W3
 replace A_b1 := A_b1.wr W3
 replace F_coder_b1 := F_coder_b1.other W3 (Or.inl ne_b1_b2)
 replace F_value_b1 := F_value_b1.other W3 (Or.inl ne_b1_b2)
 replace KP := KP.wr W3 (Or.inr sz_b2)
 have V_b2 : Arv Z h3 b2 k2 .char 4 [(.int 45), (.int 0), (.int 0), (.int 0)] (.int 0) := by exact Vn3
 replace Z0 : n0 ≤ h3.size := by rw [W3.size]; exact Z0
 refine Gs st3 ?_
 show Goes _ _ _ _ _ (fT T3 m 228 #[vi 1, vi 1, vi 1, vi d0, vi d1, vi f0, vi f1] [(.ref b2), (.ref b1), (.ref b1)])
 refine Gz (XS.dup X3.here hx rfl (hb hby d18_228) rfl rfl) ?_
 refine gC X3 hx hby d18_229 ?_
 refine gN X3 hx hby d18_230 rfl rfl ?_
 obtain ⟨cl4, Ar4, q4, S4, N4z, H4, G4⟩ := V_b2
 have hin4 : ¬ ((1 : Int32) < 0 ∨ cl4.slots.size ≤ ((1 : Int32)).toNatClampNeg) := inb_of S4 ⟨by decide, by decide⟩
 obtain ⟨T4, h4, X4, e4, W4, st4⟩ := stC X3 hx hZ e3 Ar4 (j := (1 : Int32)) hin4 (g := (mkF m 231 #[vi 1, vi 1, vi 1, vi d0, vi d1, vi f0, vi f1] [(.int d0), (.int 1), (.ref b2), (.ref b2), (.ref b1), (.ref b1)])) rfl rfl (hb hby d18_231)
 have Vn4 := Arv.set Ar4 q4 S4 N4z H4 G4 (fits_nar_char _) W4 1 rfl (Nat.le_of_ble_eq_true rfl)
 have N4 := Fr.snoc X4 N3 g_b2
 replace sgC := sgC.wr W4
 replace A_b1 := A_b1.wr W4
 replace F_coder_b1 := F_coder_b1.other W4 (Or.inl ne_b1_b2)
 replace F_value_b1 := F_value_b1.other W4 (Or.inl ne_b1_b2)
 replace KP := KP.wr W4 (Or.inr sz_b2)
 have V_b2 : Arv Z h4 b2 k2 .char 4 [(.int 45), (.int d0), (.int 0), (.int 0)] (.int 0) := by have q := Vn4; rw [own_nc hD_d0.lat.chr] at q; exact q
 replace Z0 : n0 ≤ h4.size := by rw [W4.size]; exact Z0
 refine Gs st4 ?_
 show Goes _ _ _ _ _ (fT T4 m 232 #[vi 1, vi 1, vi 1, vi d0, vi d1, vi f0, vi f1] [(.ref b2), (.ref b1), (.ref b1)])
 refine Gz (XS.dup X4.here hx rfl (hb hby d18_232) rfl rfl) ?_
 refine gC X4 hx hby d18_233 ?_
 refine gB X4 hx hby d18_234 ?_
 obtain ⟨cl5, Ar5, q5, S5, N5z, H5, G5⟩ := V_b2
 have hin5 : ¬ ((2 : Int32) < 0 ∨ cl5.slots.size ≤ ((2 : Int32)).toNatClampNeg) := inb_of S5 ⟨by decide, by decide⟩
 obtain ⟨T5, h5, X5, e5, W5, st5⟩ := stC X4 hx hZ e4 Ar5 (j := (2 : Int32)) hin5 (g := (mkF m 236 #[vi 1, vi 1, vi 1, vi d0, vi d1, vi f0, vi f1] [(.int 46), (.int 2), (.ref b2), (.ref b2), (.ref b1), (.ref b1)])) rfl rfl (hb hby d18_236)
 have Vn5 := Arv.set Ar5 q5 S5 N5z H5 G5 (fits_nar_char _) W5 2 rfl (Nat.le_of_ble_eq_true rfl)
 have N5 := Fr.snoc X5 N4 g_b2
 replace sgC := sgC.wr W5
 replace A_b1 := A_b1.wr W5
 replace F_coder_b1 := F_coder_b1.other W5 (Or.inl ne_b1_b2)
 replace F_value_b1 := F_value_b1.other W5 (Or.inl ne_b1_b2)
 replace KP := KP.wr W5 (Or.inr sz_b2)
 have V_b2 : Arv Z h5 b2 k2 .char 4 [(.int 45), (.int d0), (.int 46), (.int 0)] (.int 0) := by exact Vn5
 replace Z0 : n0 ≤ h5.size := by rw [W5.size]; exact Z0
 refine Gs st5 ?_
 show Goes _ _ _ _ _ (fT T5 m 237 #[vi 1, vi 1, vi 1, vi d0, vi d1, vi f0, vi f1] [(.ref b2), (.ref b1), (.ref b1)])
 refine Gz (XS.dup X5.here hx rfl (hb hby d18_237) rfl rfl) ?_
 refine gC X5 hx hby d18_238 ?_
 refine gI X5 hx hby d18_239 rfl rfl ?_
 obtain ⟨cl6, Ar6, q6, S6, N6z, H6, G6⟩ := V_b2
 have hin6 : ¬ ((3 : Int32) < 0 ∨ cl6.slots.size ≤ ((3 : Int32)).toNatClampNeg) := inb_of S6 ⟨by decide, by decide⟩
 obtain ⟨T6, h6, X6, e6, W6, st6⟩ := stC X5 hx hZ e5 Ar6 (j := (3 : Int32)) hin6 (g := (mkF m 241 #[vi 1, vi 1, vi 1, vi d0, vi d1, vi f0, vi f1] [(.int f0), (.int 3), (.ref b2), (.ref b2), (.ref b1), (.ref b1)])) rfl rfl (hb hby d18_241)
 have Vn6 := Arv.set Ar6 q6 S6 N6z H6 G6 (fits_nar_char _) W6 3 rfl (Nat.le_of_ble_eq_true rfl)
 have N6 := Fr.snoc X6 N5 g_b2
 replace sgC := sgC.wr W6
 replace A_b1 := A_b1.wr W6
 replace F_coder_b1 := F_coder_b1.other W6 (Or.inl ne_b1_b2)
 replace F_value_b1 := F_value_b1.other W6 (Or.inl ne_b1_b2)
 replace KP := KP.wr W6 (Or.inr sz_b2)
 have V_b2 : Arv Z h6 b2 k2 .char 4 [(.int 45), (.int d0), (.int 46), (.int f0)] (.int 0) := by have q := Vn6; rw [own_nc hD_f0.lat.chr] at q; exact q
 replace Z0 : n0 ≤ h6.size := by rw [W6.size]; exact Z0
 refine Gs st6 ?_
 show Goes _ _ _ _ _ (fT T6 m 242 #[vi 1, vi 1, vi 1, vi d0, vi d1, vi f0, vi f1] [(.ref b2), (.ref b1), (.ref b1)])
 refine cIg X6 hx hZ hw hown hby hml e6 mN11 11 12 13 9 1 (rs_i1_4 l Z a0 hw [] b1 b2 k2 (45 : Int32) d0 (46 : Int32) f0 cz h6 n0 Z0 A_b1 F_value_b1 F_coder_b1 V_b2 g_b1 (Ne.symm ne_b1_b2) sgC hcz own_lat45 hD_d0.lat own_lat46 hD_f0.lat) d18_242 (lenOf own_pd10 rfl) (fun _ T7 L7 X7 hQ7 => ?_)
 obtain ⟨rfl, N7q, K7, T_b1_7'⟩ := hQ7
 have N7 := Fr.app N6 N7q
 replace KP := KP.trans K7 (allS (Or.inr sz_b1) all0)
 replace Z0 := Nat.le_trans Z0 K7.1
 have T_b1 := T_b1_7'
 show Goes _ _ _ _ _ (fT T7 m 245 #[vi 1, vi 1, vi 1, vi d0, vi d1, vi f0, vi f1] [(.ref b1)])
 refine Goes.ret X7 (some (.ref b1)) (fun h => by rw [hret] at h; cases h) hlk (by decide) (by decide) ?_ (fun fs hr => ?_)
 ·exact ⟨b1, rfl, N7, KP, T_b1, g_b1, sz_b1⟩
 ·exact own_retA X7 hx hret rfl rfl (hb hby d18_245) hr
theorem d18_246 : decode method_3_code 246 = .ok (.new 7, 3) := by decide +kernel
theorem d18_249 : decode method_3_code 249 = .ok (.dup, 1) := by decide +kernel
theorem d18_250 : decode method_3_code 250 = .ok (.iconst 5, 1) := by decide +kernel
theorem d18_251 : decode method_3_code 251 = .ok (.newarray .char, 2) := by decide +kernel
theorem d18_253 : decode method_3_code 253 = .ok (.dup, 1) := by decide +kernel
theorem d18_254 : decode method_3_code 254 = .ok (.iconst 0, 1) := by decide +kernel
theorem d18_255 : decode method_3_code 255 = .ok (.bipush 45, 2) := by decide +kernel
theorem d18_257 : decode method_3_code 257 = .ok (.castore, 1) := by decide +kernel
theorem d18_258 : decode method_3_code 258 = .ok (.dup, 1) := by decide +kernel
theorem d18_259 : decode method_3_code 259 = .ok (.iconst 1, 1) := by decide +kernel
theorem d18_260 : decode method_3_code 260 = .ok (.iload_n 3, 1) := by decide +kernel
theorem d18_261 : decode method_3_code 261 = .ok (.castore, 1) := by decide +kernel
theorem d18_262 : decode method_3_code 262 = .ok (.dup, 1) := by decide +kernel
theorem d18_263 : decode method_3_code 263 = .ok (.iconst 2, 1) := by decide +kernel
theorem d18_264 : decode method_3_code 264 = .ok (.bipush 46, 2) := by decide +kernel
theorem d18_266 : decode method_3_code 266 = .ok (.castore, 1) := by decide +kernel
theorem d18_267 : decode method_3_code 267 = .ok (.dup, 1) := by decide +kernel
theorem d18_268 : decode method_3_code 268 = .ok (.iconst 3, 1) := by decide +kernel
theorem d18_269 : decode method_3_code 269 = .ok (.iload 5, 2) := by decide +kernel
theorem d18_271 : decode method_3_code 271 = .ok (.castore, 1) := by decide +kernel
theorem d18_272 : decode method_3_code 272 = .ok (.dup, 1) := by decide +kernel
theorem d18_273 : decode method_3_code 273 = .ok (.iconst 4, 1) := by decide +kernel
theorem d18_274 : decode method_3_code 274 = .ok (.iload 6, 2) := by decide +kernel
theorem d18_276 : decode method_3_code 276 = .ok (.castore, 1) := by decide +kernel
theorem d18_277 : decode method_3_code 277 = .ok (.invokespecial 9, 3) := by decide +kernel
theorem d18_280 : decode method_3_code 280 = .ok (.areturn, 1) := by decide +kernel
theorem own_ef_rm_text112 (m : MethodId) (x3 : Int32) (x4 : Int32) (x5 : Int32) (x6 : Int32) : entryFrame m #[(.int 1), (.int 1), (.int 2), (.int x3), (.int x4), (.int x5), (.int x6)] 7 = mkF m 0 #[vi 1, vi 1, vi 2, vi x3, vi x4, vi x5, vi x6] [] := by first | (simp [entryFrame, mkF, argsToLocals, Value.category]; done) | rfl
def Q_rm_text112 (Z : State) (d0 : Int32) (d1 : Int32) (f0 : Int32) (f1 : Int32) (cz : Int32) (h0 : Heap) (n0 : Nat) (v : Option Value) (h : Heap) (L : List Loc) : Prop := ∃ u : Addr, v = some (.ref u) ∧ Fr n0 L ∧ Keep h0 h [] ∧ StrOf Z h u [(45 : Int32), d0, (46 : Int32), f0, f1] ∧ n0 ≤ u ∧ h0.size ≤ u
theorem rm_text112 (l : Launch) (Z : State) (a0 : Array Value) (hw : HW a0 Z) (ws : List Jvm.Cond) (d0 : Int32) (d1 : Int32) (f0 : Int32) (f1 : Int32) (cz : Int32) (h0 : Heap) (n0 : Nat) (Z0 : n0 ≤ h0.size) (hD_d0 : Dig d0) (hD_d1 : Dig d1) (hD_f0 : Dig f0) (hD_f1 : Dig f1) (sgC : Sta Z h0 "java/lang/String" "COMPACT_STRINGS" "Z" (.int cz)) (hcz : ¬ (cz = 0)) :
  Met l Z mN18 method_3_code 7 (some (.object "java/lang/String")) ({ frames := 4, cells := 3, slots := 14, locals := 66 } : Room) ws #[(.int 1), (.int 1), (.int 2), (.int d0), (.int d1), (.int f0), (.int f1)] h0 (Q_rm_text112 Z d0 d1 f0 f1 cz h0 n0) := by
 refine own_met (plainFor_of_name own_pn7) ?_
 intro p e s m below meth c s₁ hret hx hby hlk hml hown hnm X0 e0 hZ hh
 have N0 := Fr.nil n0
 refine Gz (castTop (own_ef_rm_text112 m d0 d1 f0 f1)) ?_
 have KP : Keep h0 h0 [] := Keep.refl _ _
 show Goes _ _ _ _ _ (fT s₁ m 0 #[vi 1, vi 1, vi 2, vi d0, vi d1, vi f0, vi f1] [])
 refine gN X0 hx hby d18_0 rfl rfl ?_
 refine gy X0 hx hby d18_1 1 182 ((if0 _ _).trans (feq (by decide : ¬ ((1 : Int32) = (0 : Int32)))).2) ?_
 refine gN X0 hx hby d18_182 rfl rfl ?_
 refine gC X0 hx hby d18_183 ?_
 refine gU X0 hx hby d18_184 (teq (by decide : ((1 : Int32) = (1 : Int32)))).2 ?_
 refine gN X0 hx hby d18_187 rfl rfl ?_
 show Goes _ _ _ _ _ (fT s₁ m 188 #[vi 1, vi 1, vi 2, vi d0, vi d1, vi f0, vi f1] [(.int 2)])
 refine gy X0 hx hby d18_188 188 211 ((if0 _ _).trans (feq (by decide : ¬ ((2 : Int32) = (0 : Int32)))).2) ?_
 refine gN X0 hx hby d18_211 rfl rfl ?_
 refine gC X0 hx hby d18_212 ?_
 refine gY X0 hx hby d18_213 213 246 (feq (by decide : ¬ ((2 : Int32) = (1 : Int32)))).2 ?_
 obtain ⟨T1, h1, X1, e1, E1, A1, D1, -, st1⟩ := newO X0 hx hZ hown (gw hw 7 rfl) (gw hw 8 rfl) (gw hw 9 rfl) e0 (g := (mkF m 246 #[vi 1, vi 1, vi 2, vi d0, vi d1, vi f0, vi f1] [])) rfl (hb hby d18_246) (by decide) (by decide)
 obtain ⟨b1, gq1⟩ : ∃ z, z = h0.size := ⟨_, rfl⟩
 rw [← gq1] at A1 st1 D1
 have g_b1 : n0 ≤ b1 := by rw [gq1]; exact Z0
 have sz_b1 : h0.size ≤ b1 := by rw [gq1]; exact KP.1
 replace sgC := sgC.ext E1
 replace KP := KP.ext E1
 replace Z0 : n0 ≤ h1.size := Nat.le_trans Z0 E1.1
 have A_b1 : Exa Z h1 b1 "java/lang/String" := A1
 have F_coder_b1 : Fld Z h1 b1 "java/lang/String" "coder" "B" (.int 0) := D1 (Or.inr (gw hw 34 rfl)) (ty := .byte) (by decide)
 have F_value_b1 : Fld Z h1 b1 "java/lang/String" "value" "[B" .null := D1 (Or.inr (gw hw 36 rfl)) (ty := (.array .byte)) (by decide)
 refine Gs st1 ?_
 show Goes _ _ _ _ _ (fT T1 m 249 #[vi 1, vi 1, vi 2, vi d0, vi d1, vi f0, vi f1] [(.ref b1)])
 refine Gz (XS.dup X1.here hx rfl (hb hby d18_249) rfl rfl) ?_
 refine gC X1 hx hby d18_250 ?_
 obtain ⟨T2, h2, k2, X2, e2, E2, A2, st2⟩ := newP X1 hx hZ (gw hw 10 rfl) e1 (g := (mkF m 251 #[vi 1, vi 1, vi 2, vi d0, vi d1, vi f0, vi f1] [(.int 5), (.ref b1), (.ref b1)])) rfl (hb hby d18_251) rfl (by decide) (cap := 5) (by decide) (by decide) (by decide) (by decide)
 obtain ⟨b2, gq2⟩ : ∃ z, z = h1.size := ⟨_, rfl⟩
 rw [← gq2] at A2 st2
 have g_b2 : n0 ≤ b2 := by rw [gq2]; exact Z0
 have sz_b2 : h0.size ≤ b2 := by rw [gq2]; exact KP.1
 have ne_b1_b2 : b1 ≠ b2 := by rw [gq2]; exact Nat.ne_of_lt A_b1.lt
 replace sgC := sgC.ext E2
 replace A_b1 := A_b1.ext E2
 replace F_coder_b1 := F_coder_b1.ext E2
 replace F_value_b1 := F_value_b1.ext E2
 replace KP := KP.ext E2
 replace Z0 : n0 ≤ h2.size := Nat.le_trans Z0 E2.1
 have V_b2 : Arv Z h2 b2 k2 .char 5 [(.int 0), (.int 0), (.int 0), (.int 0), (.int 0)] (.int 0) := (Arv.new A2 (by decide)).pad (pad_rep [] (.int 0) 5)
 refine Gs st2 ?_
 show Goes _ _ _ _ _ (fT T2 m 253 #[vi 1, vi 1, vi 2, vi d0, vi d1, vi f0, vi f1] [(.ref b2), (.ref b1), (.ref b1)])
 refine Gz (XS.dup X2.here hx rfl (hb hby d18_253) rfl rfl) ?_
 refine gC X2 hx hby d18_254 ?_
 refine gB X2 hx hby d18_255 ?_
 obtain ⟨cl3, Ar3, q3, S3, N3z, H3, G3⟩ := V_b2
 have hin3 : ¬ ((0 : Int32) < 0 ∨ cl3.slots.size ≤ ((0 : Int32)).toNatClampNeg) := inb_of S3 ⟨by decide, by decide⟩
 obtain ⟨T3, h3, X3, e3, W3, st3⟩ := stC X2 hx hZ e2 Ar3 (j := (0 : Int32)) hin3 (g := (mkF m 257 #[vi 1, vi 1, vi 2, vi d0, vi d1, vi f0, vi f1] [(.int 45), (.int 0), (.ref b2), (.ref b2), (.ref b1), (.ref b1)])) rfl rfl (hb hby d18_257)
 have Vn3 := Arv.set Ar3 q3 S3 N3z H3 G3 (fits_nar_char _) W3 0 rfl (Nat.le_of_ble_eq_true rfl)
 have N3 := Fr.snoc X3 N0 g_b2
 replace sgC := sgC.wr W3
 replace A_b1 := A_b1.wr W3
 replace F_coder_b1 := F_coder_b1.other W3 (Or.inl ne_b1_b2)
 replace F_value_b1 := F_value_b1.other W3 (Or.inl ne_b1_b2)
 replace KP := KP.wr W3 (Or.inr sz_b2)
 have V_b2 : Arv Z h3 b2 k2 .char 5 [(.int 45), (.int 0), (.int 0), (.int 0), (.int 0)] (.int 0) := by exact Vn3
 replace Z0 : n0 ≤ h3.size := by rw [W3.size]; exact Z0
 refine Gs st3 ?_
 show Goes _ _ _ _ _ (fT T3 m 258 #[vi 1, vi 1, vi 2, vi d0, vi d1, vi f0, vi f1] [(.ref b2), (.ref b1), (.ref b1)])
 refine Gz (XS.dup X3.here hx rfl (hb hby d18_258) rfl rfl) ?_
 refine gC X3 hx hby d18_259 ?_
 refine gN X3 hx hby d18_260 rfl rfl ?_
 obtain ⟨cl4, Ar4, q4, S4, N4z, H4, G4⟩ := V_b2
 have hin4 : ¬ ((1 : Int32) < 0 ∨ cl4.slots.size ≤ ((1 : Int32)).toNatClampNeg) := inb_of S4 ⟨by decide, by decide⟩
 obtain ⟨T4, h4, X4, e4, W4, st4⟩ := stC X3 hx hZ e3 Ar4 (j := (1 : Int32)) hin4 (g := (mkF m 261 #[vi 1, vi 1, vi 2, vi d0, vi d1, vi f0, vi f1] [(.int d0), (.int 1), (.ref b2), (.ref b2), (.ref b1), (.ref b1)])) rfl rfl (hb hby d18_261)
 have Vn4 := Arv.set Ar4 q4 S4 N4z H4 G4 (fits_nar_char _) W4 1 rfl (Nat.le_of_ble_eq_true rfl)
 have N4 := Fr.snoc X4 N3 g_b2
 replace sgC := sgC.wr W4
 replace A_b1 := A_b1.wr W4
 replace F_coder_b1 := F_coder_b1.other W4 (Or.inl ne_b1_b2)
 replace F_value_b1 := F_value_b1.other W4 (Or.inl ne_b1_b2)
 replace KP := KP.wr W4 (Or.inr sz_b2)
 have V_b2 : Arv Z h4 b2 k2 .char 5 [(.int 45), (.int d0), (.int 0), (.int 0), (.int 0)] (.int 0) := by have q := Vn4; rw [own_nc hD_d0.lat.chr] at q; exact q
 replace Z0 : n0 ≤ h4.size := by rw [W4.size]; exact Z0
 refine Gs st4 ?_
 show Goes _ _ _ _ _ (fT T4 m 262 #[vi 1, vi 1, vi 2, vi d0, vi d1, vi f0, vi f1] [(.ref b2), (.ref b1), (.ref b1)])
 refine Gz (XS.dup X4.here hx rfl (hb hby d18_262) rfl rfl) ?_
 refine gC X4 hx hby d18_263 ?_
 refine gB X4 hx hby d18_264 ?_
 obtain ⟨cl5, Ar5, q5, S5, N5z, H5, G5⟩ := V_b2
 have hin5 : ¬ ((2 : Int32) < 0 ∨ cl5.slots.size ≤ ((2 : Int32)).toNatClampNeg) := inb_of S5 ⟨by decide, by decide⟩
 obtain ⟨T5, h5, X5, e5, W5, st5⟩ := stC X4 hx hZ e4 Ar5 (j := (2 : Int32)) hin5 (g := (mkF m 266 #[vi 1, vi 1, vi 2, vi d0, vi d1, vi f0, vi f1] [(.int 46), (.int 2), (.ref b2), (.ref b2), (.ref b1), (.ref b1)])) rfl rfl (hb hby d18_266)
 have Vn5 := Arv.set Ar5 q5 S5 N5z H5 G5 (fits_nar_char _) W5 2 rfl (Nat.le_of_ble_eq_true rfl)
 have N5 := Fr.snoc X5 N4 g_b2
 replace sgC := sgC.wr W5
 replace A_b1 := A_b1.wr W5
 replace F_coder_b1 := F_coder_b1.other W5 (Or.inl ne_b1_b2)
 replace F_value_b1 := F_value_b1.other W5 (Or.inl ne_b1_b2)
 replace KP := KP.wr W5 (Or.inr sz_b2)
 have V_b2 : Arv Z h5 b2 k2 .char 5 [(.int 45), (.int d0), (.int 46), (.int 0), (.int 0)] (.int 0) := by exact Vn5
 replace Z0 : n0 ≤ h5.size := by rw [W5.size]; exact Z0
 refine Gs st5 ?_
 show Goes _ _ _ _ _ (fT T5 m 267 #[vi 1, vi 1, vi 2, vi d0, vi d1, vi f0, vi f1] [(.ref b2), (.ref b1), (.ref b1)])
 refine Gz (XS.dup X5.here hx rfl (hb hby d18_267) rfl rfl) ?_
 refine gC X5 hx hby d18_268 ?_
 refine gI X5 hx hby d18_269 rfl rfl ?_
 obtain ⟨cl6, Ar6, q6, S6, N6z, H6, G6⟩ := V_b2
 have hin6 : ¬ ((3 : Int32) < 0 ∨ cl6.slots.size ≤ ((3 : Int32)).toNatClampNeg) := inb_of S6 ⟨by decide, by decide⟩
 obtain ⟨T6, h6, X6, e6, W6, st6⟩ := stC X5 hx hZ e5 Ar6 (j := (3 : Int32)) hin6 (g := (mkF m 271 #[vi 1, vi 1, vi 2, vi d0, vi d1, vi f0, vi f1] [(.int f0), (.int 3), (.ref b2), (.ref b2), (.ref b1), (.ref b1)])) rfl rfl (hb hby d18_271)
 have Vn6 := Arv.set Ar6 q6 S6 N6z H6 G6 (fits_nar_char _) W6 3 rfl (Nat.le_of_ble_eq_true rfl)
 have N6 := Fr.snoc X6 N5 g_b2
 replace sgC := sgC.wr W6
 replace A_b1 := A_b1.wr W6
 replace F_coder_b1 := F_coder_b1.other W6 (Or.inl ne_b1_b2)
 replace F_value_b1 := F_value_b1.other W6 (Or.inl ne_b1_b2)
 replace KP := KP.wr W6 (Or.inr sz_b2)
 have V_b2 : Arv Z h6 b2 k2 .char 5 [(.int 45), (.int d0), (.int 46), (.int f0), (.int 0)] (.int 0) := by have q := Vn6; rw [own_nc hD_f0.lat.chr] at q; exact q
 replace Z0 : n0 ≤ h6.size := by rw [W6.size]; exact Z0
 refine Gs st6 ?_
 show Goes _ _ _ _ _ (fT T6 m 272 #[vi 1, vi 1, vi 2, vi d0, vi d1, vi f0, vi f1] [(.ref b2), (.ref b1), (.ref b1)])
 refine Gz (XS.dup X6.here hx rfl (hb hby d18_272) rfl rfl) ?_
 refine gC X6 hx hby d18_273 ?_
 refine gI X6 hx hby d18_274 rfl rfl ?_
 obtain ⟨cl7, Ar7, q7, S7, N7z, H7, G7⟩ := V_b2
 have hin7 : ¬ ((4 : Int32) < 0 ∨ cl7.slots.size ≤ ((4 : Int32)).toNatClampNeg) := inb_of S7 ⟨by decide, by decide⟩
 obtain ⟨T7, h7, X7, e7, W7, st7⟩ := stC X6 hx hZ e6 Ar7 (j := (4 : Int32)) hin7 (g := (mkF m 276 #[vi 1, vi 1, vi 2, vi d0, vi d1, vi f0, vi f1] [(.int f1), (.int 4), (.ref b2), (.ref b2), (.ref b1), (.ref b1)])) rfl rfl (hb hby d18_276)
 have Vn7 := Arv.set Ar7 q7 S7 N7z H7 G7 (fits_nar_char _) W7 4 rfl (Nat.le_of_ble_eq_true rfl)
 have N7 := Fr.snoc X7 N6 g_b2
 replace sgC := sgC.wr W7
 replace A_b1 := A_b1.wr W7
 replace F_coder_b1 := F_coder_b1.other W7 (Or.inl ne_b1_b2)
 replace F_value_b1 := F_value_b1.other W7 (Or.inl ne_b1_b2)
 replace KP := KP.wr W7 (Or.inr sz_b2)
 have V_b2 : Arv Z h7 b2 k2 .char 5 [(.int 45), (.int d0), (.int 46), (.int f0), (.int f1)] (.int 0) := by have q := Vn7; rw [own_nc hD_f1.lat.chr] at q; exact q
 replace Z0 : n0 ≤ h7.size := by rw [W7.size]; exact Z0
 refine Gs st7 ?_
 show Goes _ _ _ _ _ (fT T7 m 277 #[vi 1, vi 1, vi 2, vi d0, vi d1, vi f0, vi f1] [(.ref b2), (.ref b1), (.ref b1)])
 refine cIg X7 hx hZ hw hown hby hml e7 mN11 11 12 13 9 1 (rs_i1_5 l Z a0 hw [] b1 b2 k2 (45 : Int32) d0 (46 : Int32) f0 f1 cz h7 n0 Z0 A_b1 F_value_b1 F_coder_b1 V_b2 g_b1 (Ne.symm ne_b1_b2) sgC hcz own_lat45 hD_d0.lat own_lat46 hD_f0.lat hD_f1.lat) d18_277 (lenOf own_pd10 rfl) (fun _ T8 L8 X8 hQ8 => ?_)
 obtain ⟨rfl, N8q, K8, T_b1_8'⟩ := hQ8
 have N8 := Fr.app N7 N8q
 replace KP := KP.trans K8 (allS (Or.inr sz_b1) all0)
 replace Z0 := Nat.le_trans Z0 K8.1
 have T_b1 := T_b1_8'
 show Goes _ _ _ _ _ (fT T8 m 280 #[vi 1, vi 1, vi 2, vi d0, vi d1, vi f0, vi f1] [(.ref b1)])
 refine Goes.ret X8 (some (.ref b1)) (fun h => by rw [hret] at h; cases h) hlk (by decide) (by decide) ?_ (fun fs hr => ?_)
 ·exact ⟨b1, rfl, N8, KP, T_b1, g_b1, sz_b1⟩
 ·exact own_retA X8 hx hret rfl rfl (hb hby d18_280) hr
theorem d18_281 : decode method_3_code 281 = .ok (.iload_n 2, 1) := by decide +kernel
theorem d18_282 : decode method_3_code 282 = .ok (.ifCond .ne 28, 3) := by decide +kernel
theorem d18_285 : decode method_3_code 285 = .ok (.new 7, 3) := by decide +kernel
theorem d18_288 : decode method_3_code 288 = .ok (.dup, 1) := by decide +kernel
theorem d18_289 : decode method_3_code 289 = .ok (.iconst 3, 1) := by decide +kernel
theorem d18_290 : decode method_3_code 290 = .ok (.newarray .char, 2) := by decide +kernel
theorem d18_292 : decode method_3_code 292 = .ok (.dup, 1) := by decide +kernel
theorem d18_293 : decode method_3_code 293 = .ok (.iconst 0, 1) := by decide +kernel
theorem d18_294 : decode method_3_code 294 = .ok (.bipush 45, 2) := by decide +kernel
theorem d18_296 : decode method_3_code 296 = .ok (.castore, 1) := by decide +kernel
theorem d18_297 : decode method_3_code 297 = .ok (.dup, 1) := by decide +kernel
theorem d18_298 : decode method_3_code 298 = .ok (.iconst 1, 1) := by decide +kernel
theorem d18_299 : decode method_3_code 299 = .ok (.iload_n 3, 1) := by decide +kernel
theorem d18_300 : decode method_3_code 300 = .ok (.castore, 1) := by decide +kernel
theorem d18_301 : decode method_3_code 301 = .ok (.dup, 1) := by decide +kernel
theorem d18_302 : decode method_3_code 302 = .ok (.iconst 2, 1) := by decide +kernel
theorem d18_303 : decode method_3_code 303 = .ok (.iload 4, 2) := by decide +kernel
theorem d18_305 : decode method_3_code 305 = .ok (.castore, 1) := by decide +kernel
theorem d18_306 : decode method_3_code 306 = .ok (.invokespecial 9, 3) := by decide +kernel
theorem d18_309 : decode method_3_code 309 = .ok (.areturn, 1) := by decide +kernel
theorem own_ef_rm_text120 (m : MethodId) (x3 : Int32) (x4 : Int32) (x5 : Int32) (x6 : Int32) : entryFrame m #[(.int 1), (.int 2), (.int 0), (.int x3), (.int x4), (.int x5), (.int x6)] 7 = mkF m 0 #[vi 1, vi 2, vi 0, vi x3, vi x4, vi x5, vi x6] [] := by first | (simp [entryFrame, mkF, argsToLocals, Value.category]; done) | rfl
def Q_rm_text120 (Z : State) (d0 : Int32) (d1 : Int32) (f0 : Int32) (f1 : Int32) (cz : Int32) (h0 : Heap) (n0 : Nat) (v : Option Value) (h : Heap) (L : List Loc) : Prop := ∃ u : Addr, v = some (.ref u) ∧ Fr n0 L ∧ Keep h0 h [] ∧ StrOf Z h u [(45 : Int32), d0, d1] ∧ n0 ≤ u ∧ h0.size ≤ u
theorem rm_text120 (l : Launch) (Z : State) (a0 : Array Value) (hw : HW a0 Z) (ws : List Jvm.Cond) (d0 : Int32) (d1 : Int32) (f0 : Int32) (f1 : Int32) (cz : Int32) (h0 : Heap) (n0 : Nat) (Z0 : n0 ≤ h0.size) (hD_d0 : Dig d0) (hD_d1 : Dig d1) (hD_f0 : Dig f0) (hD_f1 : Dig f1) (sgC : Sta Z h0 "java/lang/String" "COMPACT_STRINGS" "Z" (.int cz)) (hcz : ¬ (cz = 0)) :
  Met l Z mN18 method_3_code 7 (some (.object "java/lang/String")) ({ frames := 4, cells := 3, slots := 10, locals := 66 } : Room) ws #[(.int 1), (.int 2), (.int 0), (.int d0), (.int d1), (.int f0), (.int f1)] h0 (Q_rm_text120 Z d0 d1 f0 f1 cz h0 n0) := by
 refine own_met (plainFor_of_name own_pn7) ?_
 intro p e s m below meth c s₁ hret hx hby hlk hml hown hnm X0 e0 hZ hh
 have N0 := Fr.nil n0
 refine Gz (castTop (own_ef_rm_text120 m d0 d1 f0 f1)) ?_
 have KP : Keep h0 h0 [] := Keep.refl _ _
 show Goes _ _ _ _ _ (fT s₁ m 0 #[vi 1, vi 2, vi 0, vi d0, vi d1, vi f0, vi f1] [])
 refine gN X0 hx hby d18_0 rfl rfl ?_
 refine gy X0 hx hby d18_1 1 182 ((if0 _ _).trans (feq (by decide : ¬ ((1 : Int32) = (0 : Int32)))).2) ?_
 refine gN X0 hx hby d18_182 rfl rfl ?_
 refine gC X0 hx hby d18_183 ?_
 refine gY X0 hx hby d18_184 184 281 (feq (by decide : ¬ ((2 : Int32) = (1 : Int32)))).2 ?_
 refine gN X0 hx hby d18_281 rfl rfl ?_
 show Goes _ _ _ _ _ (fT s₁ m 282 #[vi 1, vi 2, vi 0, vi d0, vi d1, vi f0, vi f1] [(.int 0)])
 refine gu X0 hx hby d18_282 ((if0 _ _).trans (teq (by decide : ((0 : Int32) = (0 : Int32)))).2) ?_
 obtain ⟨T1, h1, X1, e1, E1, A1, D1, -, st1⟩ := newO X0 hx hZ hown (gw hw 7 rfl) (gw hw 8 rfl) (gw hw 9 rfl) e0 (g := (mkF m 285 #[vi 1, vi 2, vi 0, vi d0, vi d1, vi f0, vi f1] [])) rfl (hb hby d18_285) (by decide) (by decide)
 obtain ⟨b1, gq1⟩ : ∃ z, z = h0.size := ⟨_, rfl⟩
 rw [← gq1] at A1 st1 D1
 have g_b1 : n0 ≤ b1 := by rw [gq1]; exact Z0
 have sz_b1 : h0.size ≤ b1 := by rw [gq1]; exact KP.1
 replace sgC := sgC.ext E1
 replace KP := KP.ext E1
 replace Z0 : n0 ≤ h1.size := Nat.le_trans Z0 E1.1
 have A_b1 : Exa Z h1 b1 "java/lang/String" := A1
 have F_coder_b1 : Fld Z h1 b1 "java/lang/String" "coder" "B" (.int 0) := D1 (Or.inr (gw hw 34 rfl)) (ty := .byte) (by decide)
 have F_value_b1 : Fld Z h1 b1 "java/lang/String" "value" "[B" .null := D1 (Or.inr (gw hw 36 rfl)) (ty := (.array .byte)) (by decide)
 refine Gs st1 ?_
 show Goes _ _ _ _ _ (fT T1 m 288 #[vi 1, vi 2, vi 0, vi d0, vi d1, vi f0, vi f1] [(.ref b1)])
 refine Gz (XS.dup X1.here hx rfl (hb hby d18_288) rfl rfl) ?_
 refine gC X1 hx hby d18_289 ?_
 obtain ⟨T2, h2, k2, X2, e2, E2, A2, st2⟩ := newP X1 hx hZ (gw hw 10 rfl) e1 (g := (mkF m 290 #[vi 1, vi 2, vi 0, vi d0, vi d1, vi f0, vi f1] [(.int 3), (.ref b1), (.ref b1)])) rfl (hb hby d18_290) rfl (by decide) (cap := 3) (by decide) (by decide) (by decide) (by decide)
 obtain ⟨b2, gq2⟩ : ∃ z, z = h1.size := ⟨_, rfl⟩
 rw [← gq2] at A2 st2
 have g_b2 : n0 ≤ b2 := by rw [gq2]; exact Z0
 have sz_b2 : h0.size ≤ b2 := by rw [gq2]; exact KP.1
 have ne_b1_b2 : b1 ≠ b2 := by rw [gq2]; exact Nat.ne_of_lt A_b1.lt
 replace sgC := sgC.ext E2
 replace A_b1 := A_b1.ext E2
 replace F_coder_b1 := F_coder_b1.ext E2
 replace F_value_b1 := F_value_b1.ext E2
 replace KP := KP.ext E2
 replace Z0 : n0 ≤ h2.size := Nat.le_trans Z0 E2.1
 have V_b2 : Arv Z h2 b2 k2 .char 3 [(.int 0), (.int 0), (.int 0)] (.int 0) := (Arv.new A2 (by decide)).pad (pad_rep [] (.int 0) 3)
 refine Gs st2 ?_
 show Goes _ _ _ _ _ (fT T2 m 292 #[vi 1, vi 2, vi 0, vi d0, vi d1, vi f0, vi f1] [(.ref b2), (.ref b1), (.ref b1)])
 refine Gz (XS.dup X2.here hx rfl (hb hby d18_292) rfl rfl) ?_
 refine gC X2 hx hby d18_293 ?_
 refine gB X2 hx hby d18_294 ?_
 obtain ⟨cl3, Ar3, q3, S3, N3z, H3, G3⟩ := V_b2
 have hin3 : ¬ ((0 : Int32) < 0 ∨ cl3.slots.size ≤ ((0 : Int32)).toNatClampNeg) := inb_of S3 ⟨by decide, by decide⟩
 obtain ⟨T3, h3, X3, e3, W3, st3⟩ := stC X2 hx hZ e2 Ar3 (j := (0 : Int32)) hin3 (g := (mkF m 296 #[vi 1, vi 2, vi 0, vi d0, vi d1, vi f0, vi f1] [(.int 45), (.int 0), (.ref b2), (.ref b2), (.ref b1), (.ref b1)])) rfl rfl (hb hby d18_296)
 have Vn3 := Arv.set Ar3 q3 S3 N3z H3 G3 (fits_nar_char _) W3 0 rfl (Nat.le_of_ble_eq_true rfl)
 have N3 := Fr.snoc X3 N0 g_b2
 replace sgC := sgC.wr W3
 replace A_b1 := A_b1.wr W3
 replace F_coder_b1 := F_coder_b1.other W3 (Or.inl ne_b1_b2)
 replace F_value_b1 := F_value_b1.other W3 (Or.inl ne_b1_b2)
 replace KP := KP.wr W3 (Or.inr sz_b2)
 have V_b2 : Arv Z h3 b2 k2 .char 3 [(.int 45), (.int 0), (.int 0)] (.int 0) := by exact Vn3
 replace Z0 : n0 ≤ h3.size := by rw [W3.size]; exact Z0
 refine Gs st3 ?_
 show Goes _ _ _ _ _ (fT T3 m 297 #[vi 1, vi 2, vi 0, vi d0, vi d1, vi f0, vi f1] [(.ref b2), (.ref b1), (.ref b1)])
 refine Gz (XS.dup X3.here hx rfl (hb hby d18_297) rfl rfl) ?_
 refine gC X3 hx hby d18_298 ?_
 refine gN X3 hx hby d18_299 rfl rfl ?_
 obtain ⟨cl4, Ar4, q4, S4, N4z, H4, G4⟩ := V_b2
 have hin4 : ¬ ((1 : Int32) < 0 ∨ cl4.slots.size ≤ ((1 : Int32)).toNatClampNeg) := inb_of S4 ⟨by decide, by decide⟩
 obtain ⟨T4, h4, X4, e4, W4, st4⟩ := stC X3 hx hZ e3 Ar4 (j := (1 : Int32)) hin4 (g := (mkF m 300 #[vi 1, vi 2, vi 0, vi d0, vi d1, vi f0, vi f1] [(.int d0), (.int 1), (.ref b2), (.ref b2), (.ref b1), (.ref b1)])) rfl rfl (hb hby d18_300)
 have Vn4 := Arv.set Ar4 q4 S4 N4z H4 G4 (fits_nar_char _) W4 1 rfl (Nat.le_of_ble_eq_true rfl)
 have N4 := Fr.snoc X4 N3 g_b2
 replace sgC := sgC.wr W4
 replace A_b1 := A_b1.wr W4
 replace F_coder_b1 := F_coder_b1.other W4 (Or.inl ne_b1_b2)
 replace F_value_b1 := F_value_b1.other W4 (Or.inl ne_b1_b2)
 replace KP := KP.wr W4 (Or.inr sz_b2)
 have V_b2 : Arv Z h4 b2 k2 .char 3 [(.int 45), (.int d0), (.int 0)] (.int 0) := by have q := Vn4; rw [own_nc hD_d0.lat.chr] at q; exact q
 replace Z0 : n0 ≤ h4.size := by rw [W4.size]; exact Z0
 refine Gs st4 ?_
 show Goes _ _ _ _ _ (fT T4 m 301 #[vi 1, vi 2, vi 0, vi d0, vi d1, vi f0, vi f1] [(.ref b2), (.ref b1), (.ref b1)])
 refine Gz (XS.dup X4.here hx rfl (hb hby d18_301) rfl rfl) ?_
 refine gC X4 hx hby d18_302 ?_
 refine gI X4 hx hby d18_303 rfl rfl ?_
 obtain ⟨cl5, Ar5, q5, S5, N5z, H5, G5⟩ := V_b2
 have hin5 : ¬ ((2 : Int32) < 0 ∨ cl5.slots.size ≤ ((2 : Int32)).toNatClampNeg) := inb_of S5 ⟨by decide, by decide⟩
 obtain ⟨T5, h5, X5, e5, W5, st5⟩ := stC X4 hx hZ e4 Ar5 (j := (2 : Int32)) hin5 (g := (mkF m 305 #[vi 1, vi 2, vi 0, vi d0, vi d1, vi f0, vi f1] [(.int d1), (.int 2), (.ref b2), (.ref b2), (.ref b1), (.ref b1)])) rfl rfl (hb hby d18_305)
 have Vn5 := Arv.set Ar5 q5 S5 N5z H5 G5 (fits_nar_char _) W5 2 rfl (Nat.le_of_ble_eq_true rfl)
 have N5 := Fr.snoc X5 N4 g_b2
 replace sgC := sgC.wr W5
 replace A_b1 := A_b1.wr W5
 replace F_coder_b1 := F_coder_b1.other W5 (Or.inl ne_b1_b2)
 replace F_value_b1 := F_value_b1.other W5 (Or.inl ne_b1_b2)
 replace KP := KP.wr W5 (Or.inr sz_b2)
 have V_b2 : Arv Z h5 b2 k2 .char 3 [(.int 45), (.int d0), (.int d1)] (.int 0) := by have q := Vn5; rw [own_nc hD_d1.lat.chr] at q; exact q
 replace Z0 : n0 ≤ h5.size := by rw [W5.size]; exact Z0
 refine Gs st5 ?_
 show Goes _ _ _ _ _ (fT T5 m 306 #[vi 1, vi 2, vi 0, vi d0, vi d1, vi f0, vi f1] [(.ref b2), (.ref b1), (.ref b1)])
 refine cIg X5 hx hZ hw hown hby hml e5 mN11 11 12 13 9 1 (rs_i1_3 l Z a0 hw [] b1 b2 k2 (45 : Int32) d0 d1 cz h5 n0 Z0 A_b1 F_value_b1 F_coder_b1 V_b2 g_b1 (Ne.symm ne_b1_b2) sgC hcz own_lat45 hD_d0.lat hD_d1.lat) d18_306 (lenOf own_pd10 rfl) (fun _ T6 L6 X6 hQ6 => ?_)
 obtain ⟨rfl, N6q, K6, T_b1_6'⟩ := hQ6
 have N6 := Fr.app N5 N6q
 replace KP := KP.trans K6 (allS (Or.inr sz_b1) all0)
 replace Z0 := Nat.le_trans Z0 K6.1
 have T_b1 := T_b1_6'
 show Goes _ _ _ _ _ (fT T6 m 309 #[vi 1, vi 2, vi 0, vi d0, vi d1, vi f0, vi f1] [(.ref b1)])
 refine Goes.ret X6 (some (.ref b1)) (fun h => by rw [hret] at h; cases h) hlk (by decide) (by decide) ?_ (fun fs hr => ?_)
 ·exact ⟨b1, rfl, N6, KP, T_b1, g_b1, sz_b1⟩
 ·exact own_retA X6 hx hret rfl rfl (hb hby d18_309) hr
theorem d18_310 : decode method_3_code 310 = .ok (.iload_n 2, 1) := by decide +kernel
theorem d18_311 : decode method_3_code 311 = .ok (.iconst 1, 1) := by decide +kernel
theorem d18_312 : decode method_3_code 312 = .ok (.if_icmp .ne 38, 3) := by decide +kernel
theorem d18_315 : decode method_3_code 315 = .ok (.new 7, 3) := by decide +kernel
theorem d18_318 : decode method_3_code 318 = .ok (.dup, 1) := by decide +kernel
theorem d18_319 : decode method_3_code 319 = .ok (.iconst 5, 1) := by decide +kernel
theorem d18_320 : decode method_3_code 320 = .ok (.newarray .char, 2) := by decide +kernel
theorem d18_322 : decode method_3_code 322 = .ok (.dup, 1) := by decide +kernel
theorem d18_323 : decode method_3_code 323 = .ok (.iconst 0, 1) := by decide +kernel
theorem d18_324 : decode method_3_code 324 = .ok (.bipush 45, 2) := by decide +kernel
theorem d18_326 : decode method_3_code 326 = .ok (.castore, 1) := by decide +kernel
theorem d18_327 : decode method_3_code 327 = .ok (.dup, 1) := by decide +kernel
theorem d18_328 : decode method_3_code 328 = .ok (.iconst 1, 1) := by decide +kernel
theorem d18_329 : decode method_3_code 329 = .ok (.iload_n 3, 1) := by decide +kernel
theorem d18_330 : decode method_3_code 330 = .ok (.castore, 1) := by decide +kernel
theorem d18_331 : decode method_3_code 331 = .ok (.dup, 1) := by decide +kernel
theorem d18_332 : decode method_3_code 332 = .ok (.iconst 2, 1) := by decide +kernel
theorem d18_333 : decode method_3_code 333 = .ok (.iload 4, 2) := by decide +kernel
theorem d18_335 : decode method_3_code 335 = .ok (.castore, 1) := by decide +kernel
theorem d18_336 : decode method_3_code 336 = .ok (.dup, 1) := by decide +kernel
theorem d18_337 : decode method_3_code 337 = .ok (.iconst 3, 1) := by decide +kernel
theorem d18_338 : decode method_3_code 338 = .ok (.bipush 46, 2) := by decide +kernel
theorem d18_340 : decode method_3_code 340 = .ok (.castore, 1) := by decide +kernel
theorem d18_341 : decode method_3_code 341 = .ok (.dup, 1) := by decide +kernel
theorem d18_342 : decode method_3_code 342 = .ok (.iconst 4, 1) := by decide +kernel
theorem d18_343 : decode method_3_code 343 = .ok (.iload 5, 2) := by decide +kernel
theorem d18_345 : decode method_3_code 345 = .ok (.castore, 1) := by decide +kernel
theorem d18_346 : decode method_3_code 346 = .ok (.invokespecial 9, 3) := by decide +kernel
theorem d18_349 : decode method_3_code 349 = .ok (.areturn, 1) := by decide +kernel
theorem own_ef_rm_text121 (m : MethodId) (x3 : Int32) (x4 : Int32) (x5 : Int32) (x6 : Int32) : entryFrame m #[(.int 1), (.int 2), (.int 1), (.int x3), (.int x4), (.int x5), (.int x6)] 7 = mkF m 0 #[vi 1, vi 2, vi 1, vi x3, vi x4, vi x5, vi x6] [] := by first | (simp [entryFrame, mkF, argsToLocals, Value.category]; done) | rfl
def Q_rm_text121 (Z : State) (d0 : Int32) (d1 : Int32) (f0 : Int32) (f1 : Int32) (cz : Int32) (h0 : Heap) (n0 : Nat) (v : Option Value) (h : Heap) (L : List Loc) : Prop := ∃ u : Addr, v = some (.ref u) ∧ Fr n0 L ∧ Keep h0 h [] ∧ StrOf Z h u [(45 : Int32), d0, d1, (46 : Int32), f0] ∧ n0 ≤ u ∧ h0.size ≤ u
theorem rm_text121 (l : Launch) (Z : State) (a0 : Array Value) (hw : HW a0 Z) (ws : List Jvm.Cond) (d0 : Int32) (d1 : Int32) (f0 : Int32) (f1 : Int32) (cz : Int32) (h0 : Heap) (n0 : Nat) (Z0 : n0 ≤ h0.size) (hD_d0 : Dig d0) (hD_d1 : Dig d1) (hD_f0 : Dig f0) (hD_f1 : Dig f1) (sgC : Sta Z h0 "java/lang/String" "COMPACT_STRINGS" "Z" (.int cz)) (hcz : ¬ (cz = 0)) :
  Met l Z mN18 method_3_code 7 (some (.object "java/lang/String")) ({ frames := 4, cells := 3, slots := 14, locals := 66 } : Room) ws #[(.int 1), (.int 2), (.int 1), (.int d0), (.int d1), (.int f0), (.int f1)] h0 (Q_rm_text121 Z d0 d1 f0 f1 cz h0 n0) := by
 refine own_met (plainFor_of_name own_pn7) ?_
 intro p e s m below meth c s₁ hret hx hby hlk hml hown hnm X0 e0 hZ hh
 have N0 := Fr.nil n0
 refine Gz (castTop (own_ef_rm_text121 m d0 d1 f0 f1)) ?_
 have KP : Keep h0 h0 [] := Keep.refl _ _
 show Goes _ _ _ _ _ (fT s₁ m 0 #[vi 1, vi 2, vi 1, vi d0, vi d1, vi f0, vi f1] [])
 refine gN X0 hx hby d18_0 rfl rfl ?_
 refine gy X0 hx hby d18_1 1 182 ((if0 _ _).trans (feq (by decide : ¬ ((1 : Int32) = (0 : Int32)))).2) ?_
 refine gN X0 hx hby d18_182 rfl rfl ?_
 refine gC X0 hx hby d18_183 ?_
 refine gY X0 hx hby d18_184 184 281 (feq (by decide : ¬ ((2 : Int32) = (1 : Int32)))).2 ?_
 refine gN X0 hx hby d18_281 rfl rfl ?_
 show Goes _ _ _ _ _ (fT s₁ m 282 #[vi 1, vi 2, vi 1, vi d0, vi d1, vi f0, vi f1] [(.int 1)])
 refine gy X0 hx hby d18_282 282 310 ((if0 _ _).trans (feq (by decide : ¬ ((1 : Int32) = (0 : Int32)))).2) ?_
 refine gN X0 hx hby d18_310 rfl rfl ?_
 refine gC X0 hx hby d18_311 ?_
 refine gU X0 hx hby d18_312 (teq (by decide : ((1 : Int32) = (1 : Int32)))).2 ?_
 obtain ⟨T1, h1, X1, e1, E1, A1, D1, -, st1⟩ := newO X0 hx hZ hown (gw hw 7 rfl) (gw hw 8 rfl) (gw hw 9 rfl) e0 (g := (mkF m 315 #[vi 1, vi 2, vi 1, vi d0, vi d1, vi f0, vi f1] [])) rfl (hb hby d18_315) (by decide) (by decide)
 obtain ⟨b1, gq1⟩ : ∃ z, z = h0.size := ⟨_, rfl⟩
 rw [← gq1] at A1 st1 D1
 have g_b1 : n0 ≤ b1 := by rw [gq1]; exact Z0
 have sz_b1 : h0.size ≤ b1 := by rw [gq1]; exact KP.1
 replace sgC := sgC.ext E1
 replace KP := KP.ext E1
 replace Z0 : n0 ≤ h1.size := Nat.le_trans Z0 E1.1
 have A_b1 : Exa Z h1 b1 "java/lang/String" := A1
 have F_coder_b1 : Fld Z h1 b1 "java/lang/String" "coder" "B" (.int 0) := D1 (Or.inr (gw hw 34 rfl)) (ty := .byte) (by decide)
 have F_value_b1 : Fld Z h1 b1 "java/lang/String" "value" "[B" .null := D1 (Or.inr (gw hw 36 rfl)) (ty := (.array .byte)) (by decide)
 refine Gs st1 ?_
 show Goes _ _ _ _ _ (fT T1 m 318 #[vi 1, vi 2, vi 1, vi d0, vi d1, vi f0, vi f1] [(.ref b1)])
 refine Gz (XS.dup X1.here hx rfl (hb hby d18_318) rfl rfl) ?_
 refine gC X1 hx hby d18_319 ?_
 obtain ⟨T2, h2, k2, X2, e2, E2, A2, st2⟩ := newP X1 hx hZ (gw hw 10 rfl) e1 (g := (mkF m 320 #[vi 1, vi 2, vi 1, vi d0, vi d1, vi f0, vi f1] [(.int 5), (.ref b1), (.ref b1)])) rfl (hb hby d18_320) rfl (by decide) (cap := 5) (by decide) (by decide) (by decide) (by decide)
 obtain ⟨b2, gq2⟩ : ∃ z, z = h1.size := ⟨_, rfl⟩
 rw [← gq2] at A2 st2
 have g_b2 : n0 ≤ b2 := by rw [gq2]; exact Z0
 have sz_b2 : h0.size ≤ b2 := by rw [gq2]; exact KP.1
 have ne_b1_b2 : b1 ≠ b2 := by rw [gq2]; exact Nat.ne_of_lt A_b1.lt
 replace sgC := sgC.ext E2
 replace A_b1 := A_b1.ext E2
 replace F_coder_b1 := F_coder_b1.ext E2
 replace F_value_b1 := F_value_b1.ext E2
 replace KP := KP.ext E2
 replace Z0 : n0 ≤ h2.size := Nat.le_trans Z0 E2.1
 have V_b2 : Arv Z h2 b2 k2 .char 5 [(.int 0), (.int 0), (.int 0), (.int 0), (.int 0)] (.int 0) := (Arv.new A2 (by decide)).pad (pad_rep [] (.int 0) 5)
 refine Gs st2 ?_
 show Goes _ _ _ _ _ (fT T2 m 322 #[vi 1, vi 2, vi 1, vi d0, vi d1, vi f0, vi f1] [(.ref b2), (.ref b1), (.ref b1)])
 refine Gz (XS.dup X2.here hx rfl (hb hby d18_322) rfl rfl) ?_
 refine gC X2 hx hby d18_323 ?_
 refine gB X2 hx hby d18_324 ?_
 obtain ⟨cl3, Ar3, q3, S3, N3z, H3, G3⟩ := V_b2
 have hin3 : ¬ ((0 : Int32) < 0 ∨ cl3.slots.size ≤ ((0 : Int32)).toNatClampNeg) := inb_of S3 ⟨by decide, by decide⟩
 obtain ⟨T3, h3, X3, e3, W3, st3⟩ := stC X2 hx hZ e2 Ar3 (j := (0 : Int32)) hin3 (g := (mkF m 326 #[vi 1, vi 2, vi 1, vi d0, vi d1, vi f0, vi f1] [(.int 45), (.int 0), (.ref b2), (.ref b2), (.ref b1), (.ref b1)])) rfl rfl (hb hby d18_326)
 have Vn3 := Arv.set Ar3 q3 S3 N3z H3 G3 (fits_nar_char _) W3 0 rfl (Nat.le_of_ble_eq_true rfl)
 have N3 := Fr.snoc X3 N0 g_b2
 replace sgC := sgC.wr W3
 replace A_b1 := A_b1.wr W3
 replace F_coder_b1 := F_coder_b1.other W3 (Or.inl ne_b1_b2)
 replace F_value_b1 := F_value_b1.other W3 (Or.inl ne_b1_b2)
 replace KP := KP.wr W3 (Or.inr sz_b2)
 have V_b2 : Arv Z h3 b2 k2 .char 5 [(.int 45), (.int 0), (.int 0), (.int 0), (.int 0)] (.int 0) := by exact Vn3
 replace Z0 : n0 ≤ h3.size := by rw [W3.size]; exact Z0
 refine Gs st3 ?_
 show Goes _ _ _ _ _ (fT T3 m 327 #[vi 1, vi 2, vi 1, vi d0, vi d1, vi f0, vi f1] [(.ref b2), (.ref b1), (.ref b1)])
 refine Gz (XS.dup X3.here hx rfl (hb hby d18_327) rfl rfl) ?_
 refine gC X3 hx hby d18_328 ?_
 refine gN X3 hx hby d18_329 rfl rfl ?_
 obtain ⟨cl4, Ar4, q4, S4, N4z, H4, G4⟩ := V_b2
 have hin4 : ¬ ((1 : Int32) < 0 ∨ cl4.slots.size ≤ ((1 : Int32)).toNatClampNeg) := inb_of S4 ⟨by decide, by decide⟩
 obtain ⟨T4, h4, X4, e4, W4, st4⟩ := stC X3 hx hZ e3 Ar4 (j := (1 : Int32)) hin4 (g := (mkF m 330 #[vi 1, vi 2, vi 1, vi d0, vi d1, vi f0, vi f1] [(.int d0), (.int 1), (.ref b2), (.ref b2), (.ref b1), (.ref b1)])) rfl rfl (hb hby d18_330)
 have Vn4 := Arv.set Ar4 q4 S4 N4z H4 G4 (fits_nar_char _) W4 1 rfl (Nat.le_of_ble_eq_true rfl)
 have N4 := Fr.snoc X4 N3 g_b2
 replace sgC := sgC.wr W4
 replace A_b1 := A_b1.wr W4
 replace F_coder_b1 := F_coder_b1.other W4 (Or.inl ne_b1_b2)
 replace F_value_b1 := F_value_b1.other W4 (Or.inl ne_b1_b2)
 replace KP := KP.wr W4 (Or.inr sz_b2)
 have V_b2 : Arv Z h4 b2 k2 .char 5 [(.int 45), (.int d0), (.int 0), (.int 0), (.int 0)] (.int 0) := by have q := Vn4; rw [own_nc hD_d0.lat.chr] at q; exact q
 replace Z0 : n0 ≤ h4.size := by rw [W4.size]; exact Z0
 refine Gs st4 ?_
 show Goes _ _ _ _ _ (fT T4 m 331 #[vi 1, vi 2, vi 1, vi d0, vi d1, vi f0, vi f1] [(.ref b2), (.ref b1), (.ref b1)])
 refine Gz (XS.dup X4.here hx rfl (hb hby d18_331) rfl rfl) ?_
 refine gC X4 hx hby d18_332 ?_
 refine gI X4 hx hby d18_333 rfl rfl ?_
 obtain ⟨cl5, Ar5, q5, S5, N5z, H5, G5⟩ := V_b2
 have hin5 : ¬ ((2 : Int32) < 0 ∨ cl5.slots.size ≤ ((2 : Int32)).toNatClampNeg) := inb_of S5 ⟨by decide, by decide⟩
 obtain ⟨T5, h5, X5, e5, W5, st5⟩ := stC X4 hx hZ e4 Ar5 (j := (2 : Int32)) hin5 (g := (mkF m 335 #[vi 1, vi 2, vi 1, vi d0, vi d1, vi f0, vi f1] [(.int d1), (.int 2), (.ref b2), (.ref b2), (.ref b1), (.ref b1)])) rfl rfl (hb hby d18_335)
 have Vn5 := Arv.set Ar5 q5 S5 N5z H5 G5 (fits_nar_char _) W5 2 rfl (Nat.le_of_ble_eq_true rfl)
 have N5 := Fr.snoc X5 N4 g_b2
 replace sgC := sgC.wr W5
 replace A_b1 := A_b1.wr W5
 replace F_coder_b1 := F_coder_b1.other W5 (Or.inl ne_b1_b2)
 replace F_value_b1 := F_value_b1.other W5 (Or.inl ne_b1_b2)
 replace KP := KP.wr W5 (Or.inr sz_b2)
 have V_b2 : Arv Z h5 b2 k2 .char 5 [(.int 45), (.int d0), (.int d1), (.int 0), (.int 0)] (.int 0) := by have q := Vn5; rw [own_nc hD_d1.lat.chr] at q; exact q
 replace Z0 : n0 ≤ h5.size := by rw [W5.size]; exact Z0
 refine Gs st5 ?_
 show Goes _ _ _ _ _ (fT T5 m 336 #[vi 1, vi 2, vi 1, vi d0, vi d1, vi f0, vi f1] [(.ref b2), (.ref b1), (.ref b1)])
 refine Gz (XS.dup X5.here hx rfl (hb hby d18_336) rfl rfl) ?_
 refine gC X5 hx hby d18_337 ?_
 refine gB X5 hx hby d18_338 ?_
 obtain ⟨cl6, Ar6, q6, S6, N6z, H6, G6⟩ := V_b2
 have hin6 : ¬ ((3 : Int32) < 0 ∨ cl6.slots.size ≤ ((3 : Int32)).toNatClampNeg) := inb_of S6 ⟨by decide, by decide⟩
 obtain ⟨T6, h6, X6, e6, W6, st6⟩ := stC X5 hx hZ e5 Ar6 (j := (3 : Int32)) hin6 (g := (mkF m 340 #[vi 1, vi 2, vi 1, vi d0, vi d1, vi f0, vi f1] [(.int 46), (.int 3), (.ref b2), (.ref b2), (.ref b1), (.ref b1)])) rfl rfl (hb hby d18_340)
 have Vn6 := Arv.set Ar6 q6 S6 N6z H6 G6 (fits_nar_char _) W6 3 rfl (Nat.le_of_ble_eq_true rfl)
 have N6 := Fr.snoc X6 N5 g_b2
 replace sgC := sgC.wr W6
 replace A_b1 := A_b1.wr W6
 replace F_coder_b1 := F_coder_b1.other W6 (Or.inl ne_b1_b2)
 replace F_value_b1 := F_value_b1.other W6 (Or.inl ne_b1_b2)
 replace KP := KP.wr W6 (Or.inr sz_b2)
 have V_b2 : Arv Z h6 b2 k2 .char 5 [(.int 45), (.int d0), (.int d1), (.int 46), (.int 0)] (.int 0) := by exact Vn6
 replace Z0 : n0 ≤ h6.size := by rw [W6.size]; exact Z0
 refine Gs st6 ?_
 show Goes _ _ _ _ _ (fT T6 m 341 #[vi 1, vi 2, vi 1, vi d0, vi d1, vi f0, vi f1] [(.ref b2), (.ref b1), (.ref b1)])
 refine Gz (XS.dup X6.here hx rfl (hb hby d18_341) rfl rfl) ?_
 refine gC X6 hx hby d18_342 ?_
 refine gI X6 hx hby d18_343 rfl rfl ?_
 obtain ⟨cl7, Ar7, q7, S7, N7z, H7, G7⟩ := V_b2
 have hin7 : ¬ ((4 : Int32) < 0 ∨ cl7.slots.size ≤ ((4 : Int32)).toNatClampNeg) := inb_of S7 ⟨by decide, by decide⟩
 obtain ⟨T7, h7, X7, e7, W7, st7⟩ := stC X6 hx hZ e6 Ar7 (j := (4 : Int32)) hin7 (g := (mkF m 345 #[vi 1, vi 2, vi 1, vi d0, vi d1, vi f0, vi f1] [(.int f0), (.int 4), (.ref b2), (.ref b2), (.ref b1), (.ref b1)])) rfl rfl (hb hby d18_345)
 have Vn7 := Arv.set Ar7 q7 S7 N7z H7 G7 (fits_nar_char _) W7 4 rfl (Nat.le_of_ble_eq_true rfl)
 have N7 := Fr.snoc X7 N6 g_b2
 replace sgC := sgC.wr W7
 replace A_b1 := A_b1.wr W7
 replace F_coder_b1 := F_coder_b1.other W7 (Or.inl ne_b1_b2)
 replace F_value_b1 := F_value_b1.other W7 (Or.inl ne_b1_b2)
 replace KP := KP.wr W7 (Or.inr sz_b2)
 have V_b2 : Arv Z h7 b2 k2 .char 5 [(.int 45), (.int d0), (.int d1), (.int 46), (.int f0)] (.int 0) := by have q := Vn7; rw [own_nc hD_f0.lat.chr] at q; exact q
 replace Z0 : n0 ≤ h7.size := by rw [W7.size]; exact Z0
 refine Gs st7 ?_
 show Goes _ _ _ _ _ (fT T7 m 346 #[vi 1, vi 2, vi 1, vi d0, vi d1, vi f0, vi f1] [(.ref b2), (.ref b1), (.ref b1)])
 refine cIg X7 hx hZ hw hown hby hml e7 mN11 11 12 13 9 1 (rs_i1_5 l Z a0 hw [] b1 b2 k2 (45 : Int32) d0 d1 (46 : Int32) f0 cz h7 n0 Z0 A_b1 F_value_b1 F_coder_b1 V_b2 g_b1 (Ne.symm ne_b1_b2) sgC hcz own_lat45 hD_d0.lat hD_d1.lat own_lat46 hD_f0.lat) d18_346 (lenOf own_pd10 rfl) (fun _ T8 L8 X8 hQ8 => ?_)
 obtain ⟨rfl, N8q, K8, T_b1_8'⟩ := hQ8
 have N8 := Fr.app N7 N8q
 replace KP := KP.trans K8 (allS (Or.inr sz_b1) all0)
 replace Z0 := Nat.le_trans Z0 K8.1
 have T_b1 := T_b1_8'
 show Goes _ _ _ _ _ (fT T8 m 349 #[vi 1, vi 2, vi 1, vi d0, vi d1, vi f0, vi f1] [(.ref b1)])
 refine Goes.ret X8 (some (.ref b1)) (fun h => by rw [hret] at h; cases h) hlk (by decide) (by decide) ?_ (fun fs hr => ?_)
 ·exact ⟨b1, rfl, N8, KP, T_b1, g_b1, sz_b1⟩
 ·exact own_retA X8 hx hret rfl rfl (hb hby d18_349) hr
theorem d18_350 : decode method_3_code 350 = .ok (.new 7, 3) := by decide +kernel
theorem d18_353 : decode method_3_code 353 = .ok (.dup, 1) := by decide +kernel
theorem d18_354 : decode method_3_code 354 = .ok (.bipush 6, 2) := by decide +kernel
theorem d18_356 : decode method_3_code 356 = .ok (.newarray .char, 2) := by decide +kernel
theorem d18_358 : decode method_3_code 358 = .ok (.dup, 1) := by decide +kernel
theorem d18_359 : decode method_3_code 359 = .ok (.iconst 0, 1) := by decide +kernel
theorem d18_360 : decode method_3_code 360 = .ok (.bipush 45, 2) := by decide +kernel
theorem d18_362 : decode method_3_code 362 = .ok (.castore, 1) := by decide +kernel
theorem d18_363 : decode method_3_code 363 = .ok (.dup, 1) := by decide +kernel
theorem d18_364 : decode method_3_code 364 = .ok (.iconst 1, 1) := by decide +kernel
theorem d18_365 : decode method_3_code 365 = .ok (.iload_n 3, 1) := by decide +kernel
theorem d18_366 : decode method_3_code 366 = .ok (.castore, 1) := by decide +kernel
theorem d18_367 : decode method_3_code 367 = .ok (.dup, 1) := by decide +kernel
theorem d18_368 : decode method_3_code 368 = .ok (.iconst 2, 1) := by decide +kernel
theorem d18_369 : decode method_3_code 369 = .ok (.iload 4, 2) := by decide +kernel
theorem d18_371 : decode method_3_code 371 = .ok (.castore, 1) := by decide +kernel
theorem d18_372 : decode method_3_code 372 = .ok (.dup, 1) := by decide +kernel
theorem d18_373 : decode method_3_code 373 = .ok (.iconst 3, 1) := by decide +kernel
theorem d18_374 : decode method_3_code 374 = .ok (.bipush 46, 2) := by decide +kernel
theorem d18_376 : decode method_3_code 376 = .ok (.castore, 1) := by decide +kernel
theorem d18_377 : decode method_3_code 377 = .ok (.dup, 1) := by decide +kernel
theorem d18_378 : decode method_3_code 378 = .ok (.iconst 4, 1) := by decide +kernel
theorem d18_379 : decode method_3_code 379 = .ok (.iload 5, 2) := by decide +kernel
theorem d18_381 : decode method_3_code 381 = .ok (.castore, 1) := by decide +kernel
theorem d18_382 : decode method_3_code 382 = .ok (.dup, 1) := by decide +kernel
theorem d18_383 : decode method_3_code 383 = .ok (.iconst 5, 1) := by decide +kernel
theorem d18_384 : decode method_3_code 384 = .ok (.iload 6, 2) := by decide +kernel
theorem d18_386 : decode method_3_code 386 = .ok (.castore, 1) := by decide +kernel
theorem d18_387 : decode method_3_code 387 = .ok (.invokespecial 9, 3) := by decide +kernel
theorem d18_390 : decode method_3_code 390 = .ok (.areturn, 1) := by decide +kernel
theorem own_ef_rm_text122 (m : MethodId) (x3 : Int32) (x4 : Int32) (x5 : Int32) (x6 : Int32) : entryFrame m #[(.int 1), (.int 2), (.int 2), (.int x3), (.int x4), (.int x5), (.int x6)] 7 = mkF m 0 #[vi 1, vi 2, vi 2, vi x3, vi x4, vi x5, vi x6] [] := by first | (simp [entryFrame, mkF, argsToLocals, Value.category]; done) | rfl
def Q_rm_text122 (Z : State) (d0 : Int32) (d1 : Int32) (f0 : Int32) (f1 : Int32) (cz : Int32) (h0 : Heap) (n0 : Nat) (v : Option Value) (h : Heap) (L : List Loc) : Prop := ∃ u : Addr, v = some (.ref u) ∧ Fr n0 L ∧ Keep h0 h [] ∧ StrOf Z h u [(45 : Int32), d0, d1, (46 : Int32), f0, f1] ∧ n0 ≤ u ∧ h0.size ≤ u
theorem rm_text122 (l : Launch) (Z : State) (a0 : Array Value) (hw : HW a0 Z) (ws : List Jvm.Cond) (d0 : Int32) (d1 : Int32) (f0 : Int32) (f1 : Int32) (cz : Int32) (h0 : Heap) (n0 : Nat) (Z0 : n0 ≤ h0.size) (hD_d0 : Dig d0) (hD_d1 : Dig d1) (hD_f0 : Dig f0) (hD_f1 : Dig f1) (sgC : Sta Z h0 "java/lang/String" "COMPACT_STRINGS" "Z" (.int cz)) (hcz : ¬ (cz = 0)) :
  Met l Z mN18 method_3_code 7 (some (.object "java/lang/String")) ({ frames := 4, cells := 3, slots := 16, locals := 66 } : Room) ws #[(.int 1), (.int 2), (.int 2), (.int d0), (.int d1), (.int f0), (.int f1)] h0 (Q_rm_text122 Z d0 d1 f0 f1 cz h0 n0) := by
 refine own_met (plainFor_of_name own_pn7) ?_
 intro p e s m below meth c s₁ hret hx hby hlk hml hown hnm X0 e0 hZ hh
 have N0 := Fr.nil n0
 refine Gz (castTop (own_ef_rm_text122 m d0 d1 f0 f1)) ?_
 have KP : Keep h0 h0 [] := Keep.refl _ _
 show Goes _ _ _ _ _ (fT s₁ m 0 #[vi 1, vi 2, vi 2, vi d0, vi d1, vi f0, vi f1] [])
 refine gN X0 hx hby d18_0 rfl rfl ?_
 refine gy X0 hx hby d18_1 1 182 ((if0 _ _).trans (feq (by decide : ¬ ((1 : Int32) = (0 : Int32)))).2) ?_
 refine gN X0 hx hby d18_182 rfl rfl ?_
 refine gC X0 hx hby d18_183 ?_
 refine gY X0 hx hby d18_184 184 281 (feq (by decide : ¬ ((2 : Int32) = (1 : Int32)))).2 ?_
 refine gN X0 hx hby d18_281 rfl rfl ?_
 show Goes _ _ _ _ _ (fT s₁ m 282 #[vi 1, vi 2, vi 2, vi d0, vi d1, vi f0, vi f1] [(.int 2)])
 refine gy X0 hx hby d18_282 282 310 ((if0 _ _).trans (feq (by decide : ¬ ((2 : Int32) = (0 : Int32)))).2) ?_
 refine gN X0 hx hby d18_310 rfl rfl ?_
 refine gC X0 hx hby d18_311 ?_
 refine gY X0 hx hby d18_312 312 350 (feq (by decide : ¬ ((2 : Int32) = (1 : Int32)))).2 ?_
 obtain ⟨T1, h1, X1, e1, E1, A1, D1, -, st1⟩ := newO X0 hx hZ hown (gw hw 7 rfl) (gw hw 8 rfl) (gw hw 9 rfl) e0 (g := (mkF m 350 #[vi 1, vi 2, vi 2, vi d0, vi d1, vi f0, vi f1] [])) rfl (hb hby d18_350) (by decide) (by decide)
 obtain ⟨b1, gq1⟩ : ∃ z, z = h0.size := ⟨_, rfl⟩
 rw [← gq1] at A1 st1 D1
 have g_b1 : n0 ≤ b1 := by rw [gq1]; exact Z0
 have sz_b1 : h0.size ≤ b1 := by rw [gq1]; exact KP.1
 replace sgC := sgC.ext E1
 replace KP := KP.ext E1
 replace Z0 : n0 ≤ h1.size := Nat.le_trans Z0 E1.1
 have A_b1 : Exa Z h1 b1 "java/lang/String" := A1
 have F_coder_b1 : Fld Z h1 b1 "java/lang/String" "coder" "B" (.int 0) := D1 (Or.inr (gw hw 34 rfl)) (ty := .byte) (by decide)
 have F_value_b1 : Fld Z h1 b1 "java/lang/String" "value" "[B" .null := D1 (Or.inr (gw hw 36 rfl)) (ty := (.array .byte)) (by decide)
 refine Gs st1 ?_
 show Goes _ _ _ _ _ (fT T1 m 353 #[vi 1, vi 2, vi 2, vi d0, vi d1, vi f0, vi f1] [(.ref b1)])
 refine Gz (XS.dup X1.here hx rfl (hb hby d18_353) rfl rfl) ?_
 refine gB X1 hx hby d18_354 ?_
 obtain ⟨T2, h2, k2, X2, e2, E2, A2, st2⟩ := newP X1 hx hZ (gw hw 10 rfl) e1 (g := (mkF m 356 #[vi 1, vi 2, vi 2, vi d0, vi d1, vi f0, vi f1] [(.int 6), (.ref b1), (.ref b1)])) rfl (hb hby d18_356) rfl (by decide) (cap := 6) (by decide) (by decide) (by decide) (by decide)
 obtain ⟨b2, gq2⟩ : ∃ z, z = h1.size := ⟨_, rfl⟩
 rw [← gq2] at A2 st2
 have g_b2 : n0 ≤ b2 := by rw [gq2]; exact Z0
 have sz_b2 : h0.size ≤ b2 := by rw [gq2]; exact KP.1
 have ne_b1_b2 : b1 ≠ b2 := by rw [gq2]; exact Nat.ne_of_lt A_b1.lt
 replace sgC := sgC.ext E2
 replace A_b1 := A_b1.ext E2
 replace F_coder_b1 := F_coder_b1.ext E2
 replace F_value_b1 := F_value_b1.ext E2
 replace KP := KP.ext E2
 replace Z0 : n0 ≤ h2.size := Nat.le_trans Z0 E2.1
 have V_b2 : Arv Z h2 b2 k2 .char 6 [(.int 0), (.int 0), (.int 0), (.int 0), (.int 0), (.int 0)] (.int 0) := (Arv.new A2 (by decide)).pad (pad_rep [] (.int 0) 6)
 refine Gs st2 ?_
 show Goes _ _ _ _ _ (fT T2 m 358 #[vi 1, vi 2, vi 2, vi d0, vi d1, vi f0, vi f1] [(.ref b2), (.ref b1), (.ref b1)])
 refine Gz (XS.dup X2.here hx rfl (hb hby d18_358) rfl rfl) ?_
 refine gC X2 hx hby d18_359 ?_
 refine gB X2 hx hby d18_360 ?_
 obtain ⟨cl3, Ar3, q3, S3, N3z, H3, G3⟩ := V_b2
 have hin3 : ¬ ((0 : Int32) < 0 ∨ cl3.slots.size ≤ ((0 : Int32)).toNatClampNeg) := inb_of S3 ⟨by decide, by decide⟩
 obtain ⟨T3, h3, X3, e3, W3, st3⟩ := stC X2 hx hZ e2 Ar3 (j := (0 : Int32)) hin3 (g := (mkF m 362 #[vi 1, vi 2, vi 2, vi d0, vi d1, vi f0, vi f1] [(.int 45), (.int 0), (.ref b2), (.ref b2), (.ref b1), (.ref b1)])) rfl rfl (hb hby d18_362)
 have Vn3 := Arv.set Ar3 q3 S3 N3z H3 G3 (fits_nar_char _) W3 0 rfl (Nat.le_of_ble_eq_true rfl)
 have N3 := Fr.snoc X3 N0 g_b2
 replace sgC := sgC.wr W3
 replace A_b1 := A_b1.wr W3
 replace F_coder_b1 := F_coder_b1.other W3 (Or.inl ne_b1_b2)
 replace F_value_b1 := F_value_b1.other W3 (Or.inl ne_b1_b2)
 replace KP := KP.wr W3 (Or.inr sz_b2)
 have V_b2 : Arv Z h3 b2 k2 .char 6 [(.int 45), (.int 0), (.int 0), (.int 0), (.int 0), (.int 0)] (.int 0) := by exact Vn3
 replace Z0 : n0 ≤ h3.size := by rw [W3.size]; exact Z0
 refine Gs st3 ?_
 show Goes _ _ _ _ _ (fT T3 m 363 #[vi 1, vi 2, vi 2, vi d0, vi d1, vi f0, vi f1] [(.ref b2), (.ref b1), (.ref b1)])
 refine Gz (XS.dup X3.here hx rfl (hb hby d18_363) rfl rfl) ?_
 refine gC X3 hx hby d18_364 ?_
 refine gN X3 hx hby d18_365 rfl rfl ?_
 obtain ⟨cl4, Ar4, q4, S4, N4z, H4, G4⟩ := V_b2
 have hin4 : ¬ ((1 : Int32) < 0 ∨ cl4.slots.size ≤ ((1 : Int32)).toNatClampNeg) := inb_of S4 ⟨by decide, by decide⟩
 obtain ⟨T4, h4, X4, e4, W4, st4⟩ := stC X3 hx hZ e3 Ar4 (j := (1 : Int32)) hin4 (g := (mkF m 366 #[vi 1, vi 2, vi 2, vi d0, vi d1, vi f0, vi f1] [(.int d0), (.int 1), (.ref b2), (.ref b2), (.ref b1), (.ref b1)])) rfl rfl (hb hby d18_366)
 have Vn4 := Arv.set Ar4 q4 S4 N4z H4 G4 (fits_nar_char _) W4 1 rfl (Nat.le_of_ble_eq_true rfl)
 have N4 := Fr.snoc X4 N3 g_b2
 replace sgC := sgC.wr W4
 replace A_b1 := A_b1.wr W4
 replace F_coder_b1 := F_coder_b1.other W4 (Or.inl ne_b1_b2)
 replace F_value_b1 := F_value_b1.other W4 (Or.inl ne_b1_b2)
 replace KP := KP.wr W4 (Or.inr sz_b2)
 have V_b2 : Arv Z h4 b2 k2 .char 6 [(.int 45), (.int d0), (.int 0), (.int 0), (.int 0), (.int 0)] (.int 0) := by have q := Vn4; rw [own_nc hD_d0.lat.chr] at q; exact q
 replace Z0 : n0 ≤ h4.size := by rw [W4.size]; exact Z0
 refine Gs st4 ?_
 show Goes _ _ _ _ _ (fT T4 m 367 #[vi 1, vi 2, vi 2, vi d0, vi d1, vi f0, vi f1] [(.ref b2), (.ref b1), (.ref b1)])
 refine Gz (XS.dup X4.here hx rfl (hb hby d18_367) rfl rfl) ?_
 refine gC X4 hx hby d18_368 ?_
 refine gI X4 hx hby d18_369 rfl rfl ?_
 obtain ⟨cl5, Ar5, q5, S5, N5z, H5, G5⟩ := V_b2
 have hin5 : ¬ ((2 : Int32) < 0 ∨ cl5.slots.size ≤ ((2 : Int32)).toNatClampNeg) := inb_of S5 ⟨by decide, by decide⟩
 obtain ⟨T5, h5, X5, e5, W5, st5⟩ := stC X4 hx hZ e4 Ar5 (j := (2 : Int32)) hin5 (g := (mkF m 371 #[vi 1, vi 2, vi 2, vi d0, vi d1, vi f0, vi f1] [(.int d1), (.int 2), (.ref b2), (.ref b2), (.ref b1), (.ref b1)])) rfl rfl (hb hby d18_371)
 have Vn5 := Arv.set Ar5 q5 S5 N5z H5 G5 (fits_nar_char _) W5 2 rfl (Nat.le_of_ble_eq_true rfl)
 have N5 := Fr.snoc X5 N4 g_b2
 replace sgC := sgC.wr W5
 replace A_b1 := A_b1.wr W5
 replace F_coder_b1 := F_coder_b1.other W5 (Or.inl ne_b1_b2)
 replace F_value_b1 := F_value_b1.other W5 (Or.inl ne_b1_b2)
 replace KP := KP.wr W5 (Or.inr sz_b2)
 have V_b2 : Arv Z h5 b2 k2 .char 6 [(.int 45), (.int d0), (.int d1), (.int 0), (.int 0), (.int 0)] (.int 0) := by have q := Vn5; rw [own_nc hD_d1.lat.chr] at q; exact q
 replace Z0 : n0 ≤ h5.size := by rw [W5.size]; exact Z0
 refine Gs st5 ?_
 show Goes _ _ _ _ _ (fT T5 m 372 #[vi 1, vi 2, vi 2, vi d0, vi d1, vi f0, vi f1] [(.ref b2), (.ref b1), (.ref b1)])
 refine Gz (XS.dup X5.here hx rfl (hb hby d18_372) rfl rfl) ?_
 refine gC X5 hx hby d18_373 ?_
 refine gB X5 hx hby d18_374 ?_
 obtain ⟨cl6, Ar6, q6, S6, N6z, H6, G6⟩ := V_b2
 have hin6 : ¬ ((3 : Int32) < 0 ∨ cl6.slots.size ≤ ((3 : Int32)).toNatClampNeg) := inb_of S6 ⟨by decide, by decide⟩
 obtain ⟨T6, h6, X6, e6, W6, st6⟩ := stC X5 hx hZ e5 Ar6 (j := (3 : Int32)) hin6 (g := (mkF m 376 #[vi 1, vi 2, vi 2, vi d0, vi d1, vi f0, vi f1] [(.int 46), (.int 3), (.ref b2), (.ref b2), (.ref b1), (.ref b1)])) rfl rfl (hb hby d18_376)
 have Vn6 := Arv.set Ar6 q6 S6 N6z H6 G6 (fits_nar_char _) W6 3 rfl (Nat.le_of_ble_eq_true rfl)
 have N6 := Fr.snoc X6 N5 g_b2
 replace sgC := sgC.wr W6
 replace A_b1 := A_b1.wr W6
 replace F_coder_b1 := F_coder_b1.other W6 (Or.inl ne_b1_b2)
 replace F_value_b1 := F_value_b1.other W6 (Or.inl ne_b1_b2)
 replace KP := KP.wr W6 (Or.inr sz_b2)
 have V_b2 : Arv Z h6 b2 k2 .char 6 [(.int 45), (.int d0), (.int d1), (.int 46), (.int 0), (.int 0)] (.int 0) := by exact Vn6
 replace Z0 : n0 ≤ h6.size := by rw [W6.size]; exact Z0
 refine Gs st6 ?_
 show Goes _ _ _ _ _ (fT T6 m 377 #[vi 1, vi 2, vi 2, vi d0, vi d1, vi f0, vi f1] [(.ref b2), (.ref b1), (.ref b1)])
 refine Gz (XS.dup X6.here hx rfl (hb hby d18_377) rfl rfl) ?_
 refine gC X6 hx hby d18_378 ?_
 refine gI X6 hx hby d18_379 rfl rfl ?_
 obtain ⟨cl7, Ar7, q7, S7, N7z, H7, G7⟩ := V_b2
 have hin7 : ¬ ((4 : Int32) < 0 ∨ cl7.slots.size ≤ ((4 : Int32)).toNatClampNeg) := inb_of S7 ⟨by decide, by decide⟩
 obtain ⟨T7, h7, X7, e7, W7, st7⟩ := stC X6 hx hZ e6 Ar7 (j := (4 : Int32)) hin7 (g := (mkF m 381 #[vi 1, vi 2, vi 2, vi d0, vi d1, vi f0, vi f1] [(.int f0), (.int 4), (.ref b2), (.ref b2), (.ref b1), (.ref b1)])) rfl rfl (hb hby d18_381)
 have Vn7 := Arv.set Ar7 q7 S7 N7z H7 G7 (fits_nar_char _) W7 4 rfl (Nat.le_of_ble_eq_true rfl)
 have N7 := Fr.snoc X7 N6 g_b2
 replace sgC := sgC.wr W7
 replace A_b1 := A_b1.wr W7
 replace F_coder_b1 := F_coder_b1.other W7 (Or.inl ne_b1_b2)
 replace F_value_b1 := F_value_b1.other W7 (Or.inl ne_b1_b2)
 replace KP := KP.wr W7 (Or.inr sz_b2)
 have V_b2 : Arv Z h7 b2 k2 .char 6 [(.int 45), (.int d0), (.int d1), (.int 46), (.int f0), (.int 0)] (.int 0) := by have q := Vn7; rw [own_nc hD_f0.lat.chr] at q; exact q
 replace Z0 : n0 ≤ h7.size := by rw [W7.size]; exact Z0
 refine Gs st7 ?_
 show Goes _ _ _ _ _ (fT T7 m 382 #[vi 1, vi 2, vi 2, vi d0, vi d1, vi f0, vi f1] [(.ref b2), (.ref b1), (.ref b1)])
 refine Gz (XS.dup X7.here hx rfl (hb hby d18_382) rfl rfl) ?_
 refine gC X7 hx hby d18_383 ?_
 refine gI X7 hx hby d18_384 rfl rfl ?_
 obtain ⟨cl8, Ar8, q8, S8, N8z, H8, G8⟩ := V_b2
 have hin8 : ¬ ((5 : Int32) < 0 ∨ cl8.slots.size ≤ ((5 : Int32)).toNatClampNeg) := inb_of S8 ⟨by decide, by decide⟩
 obtain ⟨T8, h8, X8, e8, W8, st8⟩ := stC X7 hx hZ e7 Ar8 (j := (5 : Int32)) hin8 (g := (mkF m 386 #[vi 1, vi 2, vi 2, vi d0, vi d1, vi f0, vi f1] [(.int f1), (.int 5), (.ref b2), (.ref b2), (.ref b1), (.ref b1)])) rfl rfl (hb hby d18_386)
 have Vn8 := Arv.set Ar8 q8 S8 N8z H8 G8 (fits_nar_char _) W8 5 rfl (Nat.le_of_ble_eq_true rfl)
 have N8 := Fr.snoc X8 N7 g_b2
 replace sgC := sgC.wr W8
 replace A_b1 := A_b1.wr W8
 replace F_coder_b1 := F_coder_b1.other W8 (Or.inl ne_b1_b2)
 replace F_value_b1 := F_value_b1.other W8 (Or.inl ne_b1_b2)
 replace KP := KP.wr W8 (Or.inr sz_b2)
 have V_b2 : Arv Z h8 b2 k2 .char 6 [(.int 45), (.int d0), (.int d1), (.int 46), (.int f0), (.int f1)] (.int 0) := by have q := Vn8; rw [own_nc hD_f1.lat.chr] at q; exact q
 replace Z0 : n0 ≤ h8.size := by rw [W8.size]; exact Z0
 refine Gs st8 ?_
 show Goes _ _ _ _ _ (fT T8 m 387 #[vi 1, vi 2, vi 2, vi d0, vi d1, vi f0, vi f1] [(.ref b2), (.ref b1), (.ref b1)])
 refine cIg X8 hx hZ hw hown hby hml e8 mN11 11 12 13 9 1 (rs_i1_6 l Z a0 hw [] b1 b2 k2 (45 : Int32) d0 d1 (46 : Int32) f0 f1 cz h8 n0 Z0 A_b1 F_value_b1 F_coder_b1 V_b2 g_b1 (Ne.symm ne_b1_b2) sgC hcz own_lat45 hD_d0.lat hD_d1.lat own_lat46 hD_f0.lat hD_f1.lat) d18_387 (lenOf own_pd10 rfl) (fun _ T9 L9 X9 hQ9 => ?_)
 obtain ⟨rfl, N9q, K9, T_b1_9'⟩ := hQ9
 have N9 := Fr.app N8 N9q
 replace KP := KP.trans K9 (allS (Or.inr sz_b1) all0)
 replace Z0 := Nat.le_trans Z0 K9.1
 have T_b1 := T_b1_9'
 show Goes _ _ _ _ _ (fT T9 m 390 #[vi 1, vi 2, vi 2, vi d0, vi d1, vi f0, vi f1] [(.ref b1)])
 refine Goes.ret X9 (some (.ref b1)) (fun h => by rw [hret] at h; cases h) hlk (by decide) (by decide) ?_ (fun fs hr => ?_)
 ·exact ⟨b1, rfl, N9, KP, T_b1, g_b1, sz_b1⟩
 ·exact own_retA X9 hx hret rfl rfl (hb hby d18_390) hr
theorem d19_0 : DK kc13 0 (.iconst 0) 1 := by decide +kernel
theorem d19_1 : DK kc13 1 (.istore 5) 2 := by decide +kernel
theorem d19_3 : DK kc13 3 (.iload 4) 2 := by decide +kernel
theorem d19_5 : DK kc13 5 (.bipush 7) 2 := by decide +kernel
theorem d19_7 : DK kc13 7 (.if_icmp .le 63) 3 := by decide +kernel
theorem d19_70 : DK kc13 70 (.iload 5) 2 := by decide +kernel
theorem d19_72 : DK kc13 72 (.iload 4) 2 := by decide +kernel
theorem d19_74 : DK kc13 74 (.if_icmp .ge 27) 3 := by decide +kernel
theorem d19_77 : DK kc13 77 (.aload_n 0) 1 := by decide +kernel
theorem d19_78 : DK kc13 78 (.iload_n 1) 1 := by decide +kernel
theorem d19_79 : DK kc13 79 (.iload 5) 2 := by decide +kernel
theorem d19_81 : DK kc13 81 .iadd 1 := by decide +kernel
theorem d19_82 : DK kc13 82 .baload 1 := by decide +kernel
theorem d19_83 : DK kc13 83 (.aload_n 2) 1 := by decide +kernel
theorem d19_84 : DK kc13 84 (.iload_n 3) 1 := by decide +kernel
theorem d19_85 : DK kc13 85 (.iload 5) 2 := by decide +kernel
theorem d19_87 : DK kc13 87 .iadd 1 := by decide +kernel
theorem d19_88 : DK kc13 88 .baload 1 := by decide +kernel
theorem d19_89 : DK kc13 89 (.if_icmp .eq 6) 3 := by decide +kernel
theorem d19_92 : DK kc13 92 (.iload 5) 2 := by decide +kernel
theorem d19_94 : DK kc13 94 .ireturn 1 := by decide +kernel
theorem own_pn9 : plainName "jdk/internal/util/ArraysSupport" = true := by first | (simp [plainName, overriddenIn]; done) | decide +kernel
theorem own_ef_rm_mm0 (m : MethodId) (x0 : Addr) (x2 : Addr) : entryFrame m #[(.ref x0), (.int 0), (.ref x2), (.int 0), (.int 1)] 8 = mkF m 0 #[vr x0, vi 0, vr x2, vi 0, vi 1, vu, vu, vu] [] := by first | (simp [entryFrame, mkF, argsToLocals, Value.category]; done) | rfl
def Q_rm_mm0 (Z : State) (va : Addr) (ka : ClassId) (xs : List Int32) (wb : Addr) (kw : ClassId) (c0 : Int32) (h0 : Heap) (n0 : Nat) (v : Option Value) (h : Heap) (L : List Loc) : Prop := v = some (.int 0) ∧ Fr n0 L ∧ h = h0
theorem rm_mm0 (l : Launch) (Z : State) (a0 : Array Value) (hw : HW a0 Z) (ws : List Jvm.Cond) (va : Addr) (ka : ClassId) (xs : List Int32) (wb : Addr) (kw : ClassId) (c0 : Int32) (h0 : Heap) (n0 : Nat) (Z0 : n0 ≤ h0.size) (V_va : Arv Z h0 va ka .byte (Int32.ofNat xs.length) (latV xs) (.int 0)) (V_wb : Arv Z h0 wb kw .byte (Int32.ofNat [(45 : Int32)].length) (latV [(45 : Int32)]) (.int 0)) (hpos : (0 : Int32) < Int32.ofNat xs.length) (hr : xs.getD (0 : Int32).toNatClampNeg 0 = c0) (hD0 : Dig c0) (hlen : xs.length ≤ 1000) :
  Met l Z mN19 jdk_48_method_14_code 8 (some .int) ({ frames := 0, cells := 0, slots := 0, locals := 0 } : Room) ws #[(.ref va), (.int 0), (.ref wb), (.int 0), (.int 1)] h0 (Q_rm_mm0 Z va ka xs wb kw c0 h0 n0) := by
 refine own_met (plainFor_of_name own_pn9) ?_
 intro p e s m below meth c s₁ hret hx hby hlk hml hown hnm X0 e0 hZ hh
 have N0 := Fr.nil n0
 refine Gz (castTop (own_ef_rm_mm0 m va wb)) ?_
 show Goes _ _ _ _ _ (fT s₁ m 0 #[vr va, vi 0, vr wb, vi 0, vi 1, vu, vu, vu] [])
 refine gC X0 hx hby d19_0 ?_
 refine gS X0 hx hby d19_1 #[vr va, vi 0, vr wb, vi 0, vi 1, vi 0, vu, vu] ?_
 refine gI X0 hx hby d19_3 rfl rfl ?_
 refine gB X0 hx hby d19_5 ?_
 refine gY X0 hx hby d19_7 7 70 (flt (by decide : ¬ ((7 : Int32) < (1 : Int32)))).2.2.2 ?_
 refine gI X0 hx hby d19_70 rfl rfl ?_
 show Goes _ _ _ _ _ (fT s₁ m 72 #[vr va, vi 0, vr wb, vi 0, vi 1, vi 0, vu, vu] [(.int 0)])
 refine gI X0 hx hby d19_72 rfl rfl ?_
 refine gU X0 hx hby d19_74 (tlt (by decide : ((0 : Int32) < (1 : Int32)))).2.1 ?_
 refine gA X0 hx hby d19_77 rfl rfl rfl ?_
 refine gN X0 hx hby d19_78 rfl rfl ?_
 refine gI X0 hx hby d19_79 rfl rfl ?_
 show Goes _ _ _ _ _ (fT s₁ m 81 #[vr va, vi 0, vr wb, vi 0, vi 1, vi 0, vu, vu] [(.int 0), (.int 0), (.ref va)])
 refine Gz (XS.iadd X0.here hx rfl (hb hby d19_81) rfl) ?_
 show Goes _ _ _ _ _ (fT s₁ m 82 #[vr va, vi 0, vr wb, vi 0, vi 1, vi 0, vu, vu] [(.int 0), (.ref va)])
 obtain ⟨cl1, Ar1, -, S1, N1z, H1, -⟩ := id V_va
 have hin1 : ¬ ((0 : Int32) < 0 ∨ cl1.slots.size ≤ ((0 : Int32)).toNatClampNeg) := inb_of S1 ⟨own_00, hpos⟩
 have hat1 : cl1.slots[((0 : Int32)).toNatClampNeg]? = some (.int (lo8 c0)) := Has.at H1 hin1 (own_latGet own_00 hpos hlen hr)
 refine Gs (fun _ tk => X0.baloadBytes hx (j := (0 : Int32)) (v := (.int (lo8 c0))) (by rw [e0]; exact Ar1.1) (State.isArrayOf_alike hZ.alike Ar1.2.1) Ar1.2.2 hin1 hat1 (g := (mkF m 82 #[vr va, vi 0, vr wb, vi 0, vi 1, vi 0, vu, vu] [(.int 0), (.ref va)])) rfl rfl (hb hby d19_82) _ tk) ?_
 show Goes _ _ _ _ _ (fT s₁ m 83 #[vr va, vi 0, vr wb, vi 0, vi 1, vi 0, vu, vu] [(.int (lo8 c0))])
 refine gA X0 hx hby d19_83 rfl rfl rfl ?_
 refine gN X0 hx hby d19_84 rfl rfl ?_
 refine gI X0 hx hby d19_85 rfl rfl ?_
 show Goes _ _ _ _ _ (fT s₁ m 87 #[vr va, vi 0, vr wb, vi 0, vi 1, vi 0, vu, vu] [(.int 0), (.int 0), (.ref wb), (.int (lo8 c0))])
 refine Gz (XS.iadd X0.here hx rfl (hb hby d19_87) rfl) ?_
 show Goes _ _ _ _ _ (fT s₁ m 88 #[vr va, vi 0, vr wb, vi 0, vi 1, vi 0, vu, vu] [(.int 0), (.ref wb), (.int (lo8 c0))])
 obtain ⟨cl2, Ar2, -, S2, N2z, H2, -⟩ := id V_wb
 have hin2 : ¬ ((0 : Int32) < 0 ∨ cl2.slots.size ≤ ((0 : Int32)).toNatClampNeg) := inb_of S2 ⟨own_00, own_p45⟩
 have hat2 : cl2.slots[((0 : Int32)).toNatClampNeg]? = some (.int (lo8 (45 : Int32))) := Has.at H2 hin2 own_g45
 refine Gs (fun _ tk => X0.baloadBytes hx (j := (0 : Int32)) (v := (.int (lo8 (45 : Int32)))) (by rw [e0]; exact Ar2.1) (State.isArrayOf_alike hZ.alike Ar2.2.1) Ar2.2.2 hin2 hat2 (g := (mkF m 88 #[vr va, vi 0, vr wb, vi 0, vi 1, vi 0, vu, vu] [(.int 0), (.ref wb), (.int (lo8 c0))])) rfl rfl (hb hby d19_88) _ tk) ?_
 show Goes _ _ _ _ _ (fT s₁ m 89 #[vr va, vi 0, vr wb, vi 0, vi 1, vi 0, vu, vu] [(.int (lo8 (45 : Int32))), (.int (lo8 c0))])
 refine gU X0 hx hby d19_89 (feq (own_lo45 hD0)).1 ?_
 refine gI X0 hx hby d19_92 rfl rfl ?_
 refine Goes.ret X0 (some (.int 0)) (fun h => by rw [hret] at h; cases h) hlk (by decide) (by decide) ?_ (fun fs hr => ?_)
 ·exact ⟨rfl, N0, e0⟩
 ·exact retI X0 hx hret (hb hby d19_94) hr
theorem d20_0 : DK kc10 0 (.iload_n 2) 1 := by decide +kernel
theorem d20_1 : DK kc10 1 (.ifCond .lt 16) 3 := by decide +kernel
theorem d20_4 : DK kc10 4 (.iload_n 2) 1 := by decide +kernel
theorem d20_5 : DK kc10 5 (.aload_n 0) 1 := by decide +kernel
theorem d20_6 : DK kc10 6 (.invokevirtual 505) 3 := by decide +kernel
theorem own_pd11 : parseMethodDescriptor "()I" = some ⟨[], some .int⟩ := by decide +kernel
theorem d20_9 : DK kc10 9 (.aload_n 1) 1 := by decide +kernel
theorem d20_10 : DK kc10 10 (.invokevirtual 505) 3 := by decide +kernel
theorem d20_13 : DK kc10 13 .isub 1 := by decide +kernel
theorem d20_14 : DK kc10 14 (.if_icmp .le 5) 3 := by decide +kernel
theorem d20_19 : DK kc10 19 (.aload_n 0) 1 := by decide +kernel
theorem d20_20 : DK kc10 20 (.getfield 9) 3 := by decide +kernel
theorem d20_23 : DK kc10 23 (.astore_n 3) 1 := by decide +kernel
theorem d20_24 : DK kc10 24 (.aload_n 1) 1 := by decide +kernel
theorem d20_25 : DK kc10 25 (.getfield 9) 3 := by decide +kernel
theorem d20_28 : DK kc10 28 (.astore 4) 2 := by decide +kernel
theorem d20_30 : DK kc10 30 (.iconst 0) 1 := by decide +kernel
theorem d20_31 : DK kc10 31 (.istore 5) 2 := by decide +kernel
theorem d20_33 : DK kc10 33 (.aload 4) 2 := by decide +kernel
theorem d20_35 : DK kc10 35 .arraylength 1 := by decide +kernel
theorem d20_36 : DK kc10 36 (.istore 6) 2 := by decide +kernel
theorem d20_38 : DK kc10 38 (.aload_n 0) 1 := by decide +kernel
theorem d20_39 : DK kc10 39 (.invokevirtual 335) 3 := by decide +kernel
theorem d20_42 : DK kc10 42 (.istore 7) 2 := by decide +kernel
theorem d20_44 : DK kc10 44 (.iload 7) 2 := by decide +kernel
theorem d20_46 : DK kc10 46 (.aload_n 1) 1 := by decide +kernel
theorem d20_47 : DK kc10 47 (.invokevirtual 335) 3 := by decide +kernel
theorem d20_50 : DK kc10 50 (.if_icmp .ne 32) 3 := by decide +kernel
theorem d20_53 : DK kc10 53 (.iload 7) 2 := by decide +kernel
theorem d20_55 : DK kc10 55 (.iconst 1) 1 := by decide +kernel
theorem d20_56 : DK kc10 56 (.if_icmp .ne 7) 3 := by decide +kernel
theorem d20_63 : DK kc10 63 (.aload_n 3) 1 := by decide +kernel
theorem d20_64 : DK kc10 64 (.iload_n 2) 1 := by decide +kernel
theorem d20_65 : DK kc10 65 (.aload 4) 2 := by decide +kernel
theorem d20_67 : DK kc10 67 (.iconst 0) 1 := by decide +kernel
theorem d20_68 : DK kc10 68 (.iload 6) 2 := by decide +kernel
theorem d20_70 : DK kc10 70 (.invokestatic 607) 3 := by decide +kernel
theorem own_pd12 : parseMethodDescriptor "([BI[BII)I" = some ⟨[(.array .byte), .int, (.array .byte), .int, .int], some .int⟩ := by decide +kernel
theorem d20_73 : DK kc10 73 (.ifCond .ge 7) 3 := by decide +kernel
theorem d20_80 : DK kc10 80 (.iconst 0) 1 := by decide +kernel
theorem d20_81 : DK kc10 81 .ireturn 1 := by decide +kernel
theorem own_ef_rm_sw20 (m : MethodId) (x0 : Addr) (x1 : Addr) : entryFrame m #[(.ref x0), (.ref x1), (.int 0)] 8 = mkF m 0 #[vr x0, vr x1, vi 0, vu, vu, vu, vu, vu] [] := by first | (simp [entryFrame, mkF, argsToLocals, Value.category]; done) | rfl
def Q_rm_sw20 (Z : State) (a : Addr) (b : Addr) (xs : List Int32) (c0 : Int32) (cz : Int32) (h0 : Heap) (n0 : Nat) (v : Option Value) (h : Heap) (L : List Loc) : Prop := v = some (.int 0) ∧ Fr n0 L ∧ h = h0
theorem rm_sw20 (l : Launch) (Z : State) (a0 : Array Value) (hw : HW a0 Z) (ws : List Jvm.Cond) (a : Addr) (b : Addr) (xs : List Int32) (c0 : Int32) (cz : Int32) (h0 : Heap) (n0 : Nat) (Z0 : n0 ≤ h0.size) (T_a : StrOf Z h0 a xs) (T_b : StrOf Z h0 b [(45 : Int32)]) (hpos : (0 : Int32) < Int32.ofNat xs.length) (hr : xs.getD (0 : Int32).toNatClampNeg 0 = c0) (hD0 : Dig c0) (sgC : Sta Z h0 "java/lang/String" "COMPACT_STRINGS" "Z" (.int cz)) (hcz : ¬ (cz = 0)) :
  Met l Z mN20 jdk_42_method_75_code 8 (some .boolean) ({ frames := 2, cells := 0, slots := 0, locals := 27 } : Room) ws #[(.ref a), (.ref b), (.int 0)] h0 (Q_rm_sw20 Z a b xs c0 cz h0 n0) := by
 refine own_met (plainFor_of_name own_pn0) ?_
 intro p e s m below meth c s₁ hret hx hby hlk hml hown hnm X0 e0 hZ hh
 have N0 := Fr.nil n0
 refine Gz (castTop (own_ef_rm_sw20 m a b)) ?_
 show Goes _ _ _ _ _ (fT s₁ m 0 #[vr a, vr b, vi 0, vu, vu, vu, vu, vu] [])
 obtain ⟨vb, kb, A_a, F_value_a, hrep, hlen⟩ := id T_a
 rcases hrep with ⟨F_coder_a, hall, V_vb⟩ | hf
 ·show Goes _ _ _ _ _ (fT s₁ m 0 #[vr a, vr b, vi 0, vu, vu, vu, vu, vu] [])
  obtain ⟨wb, kw, A_b, F_value_b, hrb, hlb⟩ := id T_b
  rcases hrb with ⟨F_coder_b, hab, V_wb⟩ | hf
  ·show Goes _ _ _ _ _ (fT s₁ m 0 #[vr a, vr b, vi 0, vu, vu, vu, vu, vu] [])
   refine gN X0 hx hby d20_0 rfl rfl ?_
   refine gu X0 hx hby d20_1 ((if0 _ _).trans (flt (by decide : ¬ ((0 : Int32) < (0 : Int32)))).1) ?_
   refine gN X0 hx hby d20_4 rfl rfl ?_
   refine gA X0 hx hby d20_5 rfl rfl rfl ?_
   refine cV X0 hx hZ hw hown hby hml e0 mN2 62 63 65 64 66 9 1 (rs_len l Z a0 hw [] a xs cz h0 n0 Z0 T_a sgC hcz) T_a.exa d20_6 (lenOf own_pd11 rfl) N0 (fun T1 L1 X1 e1 N1 => ?_)
   show Goes _ _ _ _ _ (fT T1 m 9 #[vr a, vr b, vi 0, vu, vu, vu, vu, vu] [(.int (Int32.ofNat xs.length)), (.int 0)])
   refine gA X1 hx hby d20_9 rfl rfl rfl ?_
   refine cV X1 hx hZ hw hown hby hml e1 mN2 62 63 65 64 66 9 2 (rs_len l Z a0 hw [] b [(45 : Int32)] cz h0 n0 Z0 T_b sgC hcz) T_b.exa d20_10 (lenOf own_pd11 rfl) N1 (fun T2 L2 X2 e2 N2 => ?_)
   show Goes _ _ _ _ _ (fT T2 m 13 #[vr a, vr b, vi 0, vu, vu, vu, vu, vu] [(.int 1), (.int (Int32.ofNat xs.length)), (.int 0)])
   refine Gz (XS.isub X2.here hx rfl (hb hby d20_13) rfl) ?_
   show Goes _ _ _ _ _ (fT T2 m 14 #[vr a, vr b, vi 0, vu, vu, vu, vu, vu] [(.int ((Int32.ofNat xs.length) - 1)), (.int 0)])
   refine gY X2 hx hby d20_14 14 19 (flt (own_sub1 hpos hlen)).2.2.2 ?_
   refine gA X2 hx hby d20_19 rfl rfl rfl ?_
   obtain ⟨T3, X3, e3, st3⟩ := getF X2 hx hZ hown (host := "") (Or.inl (gw hw 35 rfl)) Via.refl e2 F_value_a (g := (mkF m 20 #[vr a, vr b, vi 0, vu, vu, vu, vu, vu] [(.ref a)])) rfl rfl (hb hby d20_20)
   refine Gs st3 ?_
   show Goes _ _ _ _ _ (fT T3 m 23 #[vr a, vr b, vi 0, vu, vu, vu, vu, vu] [(.ref vb)])
   refine Gz (XS.astoreN X3.here hx rfl (hb hby d20_23) rfl rfl (l' := #[vr a, vr b, vi 0, vr vb, vu, vu, vu, vu]) rfl) ?_
   refine gA X3 hx hby d20_24 rfl rfl rfl ?_
   obtain ⟨T4, X4, e4, st4⟩ := getF X3 hx hZ hown (host := "") (Or.inl (gw hw 35 rfl)) Via.refl e3 F_value_b (g := (mkF m 25 #[vr a, vr b, vi 0, vr vb, vu, vu, vu, vu] [(.ref b)])) rfl rfl (hb hby d20_25)
   refine Gs st4 ?_
   show Goes _ _ _ _ _ (fT T4 m 28 #[vr a, vr b, vi 0, vr vb, vu, vu, vu, vu] [(.ref wb)])
   refine Gz (XS.astore X4.here hx rfl (hb hby d20_28) rfl rfl (l' := #[vr a, vr b, vi 0, vr vb, vr wb, vu, vu, vu]) rfl) ?_
   refine gC X4 hx hby d20_30 ?_
   refine gS X4 hx hby d20_31 #[vr a, vr b, vi 0, vr vb, vr wb, vi 0, vu, vu] ?_
   refine Gz (XS.aload X4.here hx rfl (hb hby d20_33) rfl rfl) ?_
   obtain ⟨cl5, Ar5, -, S5, N5z, -, -⟩ := id V_wb
   refine Gs (fun _ tk => X4.arraylength hx (by rw [e4]; exact Ar5.1) (State.isArrayOf_alike hZ.alike Ar5.2.1) (g := (mkF m 35 #[vr a, vr b, vi 0, vr vb, vr wb, vi 0, vu, vu] [(.ref wb)])) rfl rfl (hb hby d20_35) _ tk) ?_
   rw [len_of S5 N5z]
   show Goes _ _ _ _ _ (fT T4 m 36 #[vr a, vr b, vi 0, vr vb, vr wb, vi 0, vu, vu] [(.int 1)])
   refine gS X4 hx hby d20_36 #[vr a, vr b, vi 0, vr vb, vr wb, vi 0, vi 1, vu] ?_
   refine gA X4 hx hby d20_38 rfl rfl rfl ?_
   refine cV X4 hx hZ hw hown hby hml e4 mN0 67 68 70 69 71 9 0 (rs_coder0 l Z a0 hw [] a cz h0 n0 Z0 F_coder_a sgC hcz) T_a.exa d20_39 (lenOf own_pd0 rfl) N2 (fun T6 L6 X6 e6 N6 => ?_)
   show Goes _ _ _ _ _ (fT T6 m 42 #[vr a, vr b, vi 0, vr vb, vr wb, vi 0, vi 1, vu] [(.int 0)])
   refine gS X6 hx hby d20_42 #[vr a, vr b, vi 0, vr vb, vr wb, vi 0, vi 1, vi 0] ?_
   refine gI X6 hx hby d20_44 rfl rfl ?_
   refine gA X6 hx hby d20_46 rfl rfl rfl ?_
   refine cV X6 hx hZ hw hown hby hml e6 mN0 67 68 70 69 71 9 1 (rs_coder0 l Z a0 hw [] b cz h0 n0 Z0 F_coder_b sgC hcz) T_b.exa d20_47 (lenOf own_pd0 rfl) N6 (fun T7 L7 X7 e7 N7 => ?_)
   show Goes _ _ _ _ _ (fT T7 m 50 #[vr a, vr b, vi 0, vr vb, vr wb, vi 0, vi 1, vi 0] [(.int 0), (.int 0)])
   refine gU X7 hx hby d20_50 (teq (by decide : ((0 : Int32) = (0 : Int32)))).2 ?_
   refine gI X7 hx hby d20_53 rfl rfl ?_
   refine gC X7 hx hby d20_55 ?_
   refine gY X7 hx hby d20_56 56 63 (feq (by decide : ¬ ((0 : Int32) = (1 : Int32)))).2 ?_
   refine gA X7 hx hby d20_63 rfl rfl rfl ?_
   refine gN X7 hx hby d20_64 rfl rfl ?_
   show Goes _ _ _ _ _ (fT T7 m 65 #[vr a, vr b, vi 0, vr vb, vr wb, vi 0, vi 1, vi 0] [(.int 0), (.ref vb)])
   refine Gz (XS.aload X7.here hx rfl (hb hby d20_65) rfl rfl) ?_
   refine gC X7 hx hby d20_67 ?_
   refine gI X7 hx hby d20_68 rfl rfl ?_
   refine cS X7 hx hZ hw hown hby hml e7 mN19 72 73 75 74 0 (rm_mm0 l Z a0 hw [] vb kb xs wb kw c0 h0 n0 Z0 V_vb V_wb hpos hr hD0 (by first | assumption | decide)) d20_70 (lenOf own_pd12 rfl) N7 (fun T8 L8 X8 e8 N8 => ?_)
   show Goes _ _ _ _ _ (fT T8 m 73 #[vr a, vr b, vi 0, vr vb, vr wb, vi 0, vi 1, vi 0] [(.int 0)])
   refine gy X8 hx hby d20_73 73 80 ((if0 _ _).trans (flt (by decide : ¬ ((0 : Int32) < (0 : Int32)))).2.1) ?_
   refine gC X8 hx hby d20_80 ?_
   refine Goes.ret X8 (some (.int 0)) (fun h => by rw [hret] at h; cases h) hlk (by decide) (by decide) ?_ (fun fs hr => ?_)
   ·exact ⟨rfl, N8, e8⟩
   ·exact own_retN X8 hx (t := .boolean) hret (by simp) rfl (hb hby d20_81) hr
  ·exact hf.elim
 ·exact hf.elim
theorem d21_0 : DK kc11 0 (.aload_n 0) 1 := by decide +kernel
theorem d21_1 : DK kc11 1 (.aload_n 1) 1 := by decide +kernel
theorem d21_2 : DK kc11 2 (.iconst 0) 1 := by decide +kernel
theorem d21_3 : DK kc11 3 (.invokevirtual 624) 3 := by decide +kernel
theorem own_pd13 : parseMethodDescriptor "(Ljava/lang/String;I)Z" = some ⟨[(.object "java/lang/String"), .int], some .boolean⟩ := by decide +kernel
theorem d21_6 : DK kc11 6 .ireturn 1 := by decide +kernel
theorem own_ef_rm_sw10 (m : MethodId) (x0 : Addr) (x1 : Addr) : entryFrame m #[(.ref x0), (.ref x1)] 2 = mkF m 0 #[vr x0, vr x1] [] := by first | (simp [entryFrame, mkF, argsToLocals, Value.category]; done) | rfl
def Q_rm_sw10 (Z : State) (a : Addr) (b : Addr) (xs : List Int32) (c0 : Int32) (cz : Int32) (h0 : Heap) (n0 : Nat) (v : Option Value) (h : Heap) (L : List Loc) : Prop := v = some (.int 0) ∧ Fr n0 L ∧ h = h0
theorem rm_sw10 (l : Launch) (Z : State) (a0 : Array Value) (hw : HW a0 Z) (ws : List Jvm.Cond) (a : Addr) (b : Addr) (xs : List Int32) (c0 : Int32) (cz : Int32) (h0 : Heap) (n0 : Nat) (Z0 : n0 ≤ h0.size) (T_a : StrOf Z h0 a xs) (T_b : StrOf Z h0 b [(45 : Int32)]) (hpos : (0 : Int32) < Int32.ofNat xs.length) (hr : xs.getD (0 : Int32).toNatClampNeg 0 = c0) (hD0 : Dig c0) (sgC : Sta Z h0 "java/lang/String" "COMPACT_STRINGS" "Z" (.int cz)) (hcz : ¬ (cz = 0)) :
  Met l Z mN21 jdk_42_method_76_code 2 (some .boolean) ({ frames := 3, cells := 0, slots := 0, locals := 46 } : Room) ws #[(.ref a), (.ref b)] h0 (Q_rm_sw10 Z a b xs c0 cz h0 n0) := by
 refine own_met (plainFor_of_name own_pn0) ?_
 intro p e s m below meth c s₁ hret hx hby hlk hml hown hnm X0 e0 hZ hh
 have N0 := Fr.nil n0
 refine Gz (castTop (own_ef_rm_sw10 m a b)) ?_
 show Goes _ _ _ _ _ (fT s₁ m 0 #[vr a, vr b] [])
 refine gA X0 hx hby d21_0 rfl rfl rfl ?_
 refine gA X0 hx hby d21_1 rfl rfl rfl ?_
 refine gC X0 hx hby d21_2 ?_
 refine cV X0 hx hZ hw hown hby hml e0 mN20 57 58 60 59 61 9 0 (rm_sw20 l Z a0 hw [] a b xs c0 cz h0 n0 Z0 T_a T_b hpos hr hD0 sgC hcz) T_a.exa d21_3 (lenOf own_pd13 rfl) N0 (fun T1 L1 X1 e1 N1 => ?_)
 show Goes _ _ _ _ _ (fT T1 m 6 #[vr a, vr b] [(.int 0)])
 refine Goes.ret X1 (some (.int 0)) (fun h => by rw [hret] at h; cases h) hlk (by decide) (by decide) ?_ (fun fs hr => ?_)
 ·exact ⟨rfl, N1, e1⟩
 ·exact own_retN X1 hx (t := .boolean) hret (by simp) rfl (hb hby d21_6) hr
theorem d19_95 : DK kc13 95 (.iinc 5 1) 3 := by decide +kernel
theorem d19_98 : DK kc13 98 (.goto (-28)) 3 := by decide +kernel
theorem d19_101 : DK kc13 101 (.iconst (-1)) 1 := by decide +kernel
theorem d19_102 : DK kc13 102 .ireturn 1 := by decide +kernel
theorem own_ef_rm_mm1 (m : MethodId) (x0 : Addr) (x2 : Addr) : entryFrame m #[(.ref x0), (.int 0), (.ref x2), (.int 0), (.int 1)] 8 = mkF m 0 #[vr x0, vi 0, vr x2, vi 0, vi 1, vu, vu, vu] [] := by first | (simp [entryFrame, mkF, argsToLocals, Value.category]; done) | rfl
def Q_rm_mm1 (Z : State) (va : Addr) (ka : ClassId) (xs : List Int32) (wb : Addr) (kw : ClassId) (h0 : Heap) (n0 : Nat) (v : Option Value) (h : Heap) (L : List Loc) : Prop := v = some (.int (-1 : Int32)) ∧ Fr n0 L ∧ h = h0
theorem rm_mm1 (l : Launch) (Z : State) (a0 : Array Value) (hw : HW a0 Z) (ws : List Jvm.Cond) (va : Addr) (ka : ClassId) (xs : List Int32) (wb : Addr) (kw : ClassId) (h0 : Heap) (n0 : Nat) (Z0 : n0 ≤ h0.size) (V_va : Arv Z h0 va ka .byte (Int32.ofNat xs.length) (latV xs) (.int 0)) (V_wb : Arv Z h0 wb kw .byte (Int32.ofNat [(45 : Int32)].length) (latV [(45 : Int32)]) (.int 0)) (hpos : (0 : Int32) < Int32.ofNat xs.length) (hr : xs.getD (0 : Int32).toNatClampNeg 0 = 45) (hlen : xs.length ≤ 1000) :
  Met l Z mN19 jdk_48_method_14_code 8 (some .int) ({ frames := 0, cells := 0, slots := 0, locals := 0 } : Room) ws #[(.ref va), (.int 0), (.ref wb), (.int 0), (.int 1)] h0 (Q_rm_mm1 Z va ka xs wb kw h0 n0) := by
 refine own_met (plainFor_of_name own_pn9) ?_
 intro p e s m below meth c s₁ hret hx hby hlk hml hown hnm X0 e0 hZ hh
 have N0 := Fr.nil n0
 refine Gz (castTop (own_ef_rm_mm1 m va wb)) ?_
 show Goes _ _ _ _ _ (fT s₁ m 0 #[vr va, vi 0, vr wb, vi 0, vi 1, vu, vu, vu] [])
 refine gC X0 hx hby d19_0 ?_
 refine gS X0 hx hby d19_1 #[vr va, vi 0, vr wb, vi 0, vi 1, vi 0, vu, vu] ?_
 refine gI X0 hx hby d19_3 rfl rfl ?_
 refine gB X0 hx hby d19_5 ?_
 refine gY X0 hx hby d19_7 7 70 (flt (by decide : ¬ ((7 : Int32) < (1 : Int32)))).2.2.2 ?_
 refine gI X0 hx hby d19_70 rfl rfl ?_
 show Goes _ _ _ _ _ (fT s₁ m 72 #[vr va, vi 0, vr wb, vi 0, vi 1, vi 0, vu, vu] [(.int 0)])
 refine gI X0 hx hby d19_72 rfl rfl ?_
 refine gU X0 hx hby d19_74 (tlt (by decide : ((0 : Int32) < (1 : Int32)))).2.1 ?_
 refine gA X0 hx hby d19_77 rfl rfl rfl ?_
 refine gN X0 hx hby d19_78 rfl rfl ?_
 refine gI X0 hx hby d19_79 rfl rfl ?_
 show Goes _ _ _ _ _ (fT s₁ m 81 #[vr va, vi 0, vr wb, vi 0, vi 1, vi 0, vu, vu] [(.int 0), (.int 0), (.ref va)])
 refine Gz (XS.iadd X0.here hx rfl (hb hby d19_81) rfl) ?_
 show Goes _ _ _ _ _ (fT s₁ m 82 #[vr va, vi 0, vr wb, vi 0, vi 1, vi 0, vu, vu] [(.int 0), (.ref va)])
 obtain ⟨cl1, Ar1, -, S1, N1z, H1, -⟩ := id V_va
 have hin1 : ¬ ((0 : Int32) < 0 ∨ cl1.slots.size ≤ ((0 : Int32)).toNatClampNeg) := inb_of S1 ⟨own_00, hpos⟩
 have hat1 : cl1.slots[((0 : Int32)).toNatClampNeg]? = some (.int (lo8 (45 : Int32))) := Has.at H1 hin1 (own_latGet own_00 hpos hlen hr)
 refine Gs (fun _ tk => X0.baloadBytes hx (j := (0 : Int32)) (v := (.int (lo8 (45 : Int32)))) (by rw [e0]; exact Ar1.1) (State.isArrayOf_alike hZ.alike Ar1.2.1) Ar1.2.2 hin1 hat1 (g := (mkF m 82 #[vr va, vi 0, vr wb, vi 0, vi 1, vi 0, vu, vu] [(.int 0), (.ref va)])) rfl rfl (hb hby d19_82) _ tk) ?_
 show Goes _ _ _ _ _ (fT s₁ m 83 #[vr va, vi 0, vr wb, vi 0, vi 1, vi 0, vu, vu] [(.int (lo8 (45 : Int32)))])
 refine gA X0 hx hby d19_83 rfl rfl rfl ?_
 refine gN X0 hx hby d19_84 rfl rfl ?_
 refine gI X0 hx hby d19_85 rfl rfl ?_
 show Goes _ _ _ _ _ (fT s₁ m 87 #[vr va, vi 0, vr wb, vi 0, vi 1, vi 0, vu, vu] [(.int 0), (.int 0), (.ref wb), (.int (lo8 (45 : Int32)))])
 refine Gz (XS.iadd X0.here hx rfl (hb hby d19_87) rfl) ?_
 show Goes _ _ _ _ _ (fT s₁ m 88 #[vr va, vi 0, vr wb, vi 0, vi 1, vi 0, vu, vu] [(.int 0), (.ref wb), (.int (lo8 (45 : Int32)))])
 obtain ⟨cl2, Ar2, -, S2, N2z, H2, -⟩ := id V_wb
 have hin2 : ¬ ((0 : Int32) < 0 ∨ cl2.slots.size ≤ ((0 : Int32)).toNatClampNeg) := inb_of S2 ⟨own_00, own_p45⟩
 have hat2 : cl2.slots[((0 : Int32)).toNatClampNeg]? = some (.int (lo8 (45 : Int32))) := Has.at H2 hin2 own_g45
 refine Gs (fun _ tk => X0.baloadBytes hx (j := (0 : Int32)) (v := (.int (lo8 (45 : Int32)))) (by rw [e0]; exact Ar2.1) (State.isArrayOf_alike hZ.alike Ar2.2.1) Ar2.2.2 hin2 hat2 (g := (mkF m 88 #[vr va, vi 0, vr wb, vi 0, vi 1, vi 0, vu, vu] [(.int 0), (.ref wb), (.int (lo8 (45 : Int32)))])) rfl rfl (hb hby d19_88) _ tk) ?_
 show Goes _ _ _ _ _ (fT s₁ m 89 #[vr va, vi 0, vr wb, vi 0, vi 1, vi 0, vu, vu] [(.int (lo8 (45 : Int32))), (.int (lo8 (45 : Int32)))])
 refine gY X0 hx hby d19_89 89 95 (teq (rfl : (lo8 (45 : Int32)) = (lo8 (45 : Int32)))).1 ?_
 show Goes _ _ _ _ _ (fT s₁ m 95 #[vr va, vi 0, vr wb, vi 0, vi 1, vi 0, vu, vu] [])
 refine Gz (XS.iinc X0.here hx rfl (hb hby d19_95) rfl (l' := #[vr va, vi 0, vr wb, vi 0, vi 1, vi ((0 : Int32) + (1 : Int32)), vu, vu]) rfl) ?_
 show Goes _ _ _ _ _ (fT s₁ m 98 #[vr va, vi 0, vr wb, vi 0, vi 1, vi 1, vu, vu] [])
 refine gG X0 hx hby d19_98 98 70 ?_
 refine gI X0 hx hby d19_70 rfl rfl ?_
 refine gI X0 hx hby d19_72 rfl rfl ?_
 refine gY X0 hx hby d19_74 74 101 (flt (by decide : ¬ ((1 : Int32) < (1 : Int32)))).2.1 ?_
 refine gC X0 hx hby d19_101 ?_
 refine Goes.ret X0 (some (.int (-1 : Int32))) (fun h => by rw [hret] at h; cases h) hlk (by decide) (by decide) ?_ (fun fs hr => ?_)
 ·exact ⟨rfl, N0, e0⟩
 ·exact retI X0 hx hret (hb hby d19_102) hr
theorem d20_76 : DK kc10 76 (.iconst 1) 1 := by decide +kernel
theorem d20_77 : DK kc10 77 (.goto 4) 3 := by decide +kernel
theorem own_ef_rm_sw21 (m : MethodId) (x0 : Addr) (x1 : Addr) : entryFrame m #[(.ref x0), (.ref x1), (.int 0)] 8 = mkF m 0 #[vr x0, vr x1, vi 0, vu, vu, vu, vu, vu] [] := by first | (simp [entryFrame, mkF, argsToLocals, Value.category]; done) | rfl
def Q_rm_sw21 (Z : State) (a : Addr) (b : Addr) (xs : List Int32) (cz : Int32) (h0 : Heap) (n0 : Nat) (v : Option Value) (h : Heap) (L : List Loc) : Prop := v = some (.int 1) ∧ Fr n0 L ∧ h = h0
theorem rm_sw21 (l : Launch) (Z : State) (a0 : Array Value) (hw : HW a0 Z) (ws : List Jvm.Cond) (a : Addr) (b : Addr) (xs : List Int32) (cz : Int32) (h0 : Heap) (n0 : Nat) (Z0 : n0 ≤ h0.size) (T_a : StrOf Z h0 a xs) (T_b : StrOf Z h0 b [(45 : Int32)]) (hpos : (0 : Int32) < Int32.ofNat xs.length) (hr : xs.getD (0 : Int32).toNatClampNeg 0 = 45) (sgC : Sta Z h0 "java/lang/String" "COMPACT_STRINGS" "Z" (.int cz)) (hcz : ¬ (cz = 0)) :
  Met l Z mN20 jdk_42_method_75_code 8 (some .boolean) ({ frames := 2, cells := 0, slots := 0, locals := 27 } : Room) ws #[(.ref a), (.ref b), (.int 0)] h0 (Q_rm_sw21 Z a b xs cz h0 n0) := by
 refine own_met (plainFor_of_name own_pn0) ?_
 intro p e s m below meth c s₁ hret hx hby hlk hml hown hnm X0 e0 hZ hh
 have N0 := Fr.nil n0
 refine Gz (castTop (own_ef_rm_sw21 m a b)) ?_
 show Goes _ _ _ _ _ (fT s₁ m 0 #[vr a, vr b, vi 0, vu, vu, vu, vu, vu] [])
 obtain ⟨vb, kb, A_a, F_value_a, hrep, hlen⟩ := id T_a
 rcases hrep with ⟨F_coder_a, hall, V_vb⟩ | hf
 ·show Goes _ _ _ _ _ (fT s₁ m 0 #[vr a, vr b, vi 0, vu, vu, vu, vu, vu] [])
  obtain ⟨wb, kw, A_b, F_value_b, hrb, hlb⟩ := id T_b
  rcases hrb with ⟨F_coder_b, hab, V_wb⟩ | hf
  ·show Goes _ _ _ _ _ (fT s₁ m 0 #[vr a, vr b, vi 0, vu, vu, vu, vu, vu] [])
   refine gN X0 hx hby d20_0 rfl rfl ?_
   refine gu X0 hx hby d20_1 ((if0 _ _).trans (flt (by decide : ¬ ((0 : Int32) < (0 : Int32)))).1) ?_
   refine gN X0 hx hby d20_4 rfl rfl ?_
   refine gA X0 hx hby d20_5 rfl rfl rfl ?_
   refine cV X0 hx hZ hw hown hby hml e0 mN2 62 63 65 64 66 9 1 (rs_len l Z a0 hw [] a xs cz h0 n0 Z0 T_a sgC hcz) T_a.exa d20_6 (lenOf own_pd11 rfl) N0 (fun T1 L1 X1 e1 N1 => ?_)
   show Goes _ _ _ _ _ (fT T1 m 9 #[vr a, vr b, vi 0, vu, vu, vu, vu, vu] [(.int (Int32.ofNat xs.length)), (.int 0)])
   refine gA X1 hx hby d20_9 rfl rfl rfl ?_
   refine cV X1 hx hZ hw hown hby hml e1 mN2 62 63 65 64 66 9 2 (rs_len l Z a0 hw [] b [(45 : Int32)] cz h0 n0 Z0 T_b sgC hcz) T_b.exa d20_10 (lenOf own_pd11 rfl) N1 (fun T2 L2 X2 e2 N2 => ?_)
   show Goes _ _ _ _ _ (fT T2 m 13 #[vr a, vr b, vi 0, vu, vu, vu, vu, vu] [(.int 1), (.int (Int32.ofNat xs.length)), (.int 0)])
   refine Gz (XS.isub X2.here hx rfl (hb hby d20_13) rfl) ?_
   show Goes _ _ _ _ _ (fT T2 m 14 #[vr a, vr b, vi 0, vu, vu, vu, vu, vu] [(.int ((Int32.ofNat xs.length) - 1)), (.int 0)])
   refine gY X2 hx hby d20_14 14 19 (flt (own_sub1 hpos hlen)).2.2.2 ?_
   refine gA X2 hx hby d20_19 rfl rfl rfl ?_
   obtain ⟨T3, X3, e3, st3⟩ := getF X2 hx hZ hown (host := "") (Or.inl (gw hw 35 rfl)) Via.refl e2 F_value_a (g := (mkF m 20 #[vr a, vr b, vi 0, vu, vu, vu, vu, vu] [(.ref a)])) rfl rfl (hb hby d20_20)
   refine Gs st3 ?_
   show Goes _ _ _ _ _ (fT T3 m 23 #[vr a, vr b, vi 0, vu, vu, vu, vu, vu] [(.ref vb)])
   refine Gz (XS.astoreN X3.here hx rfl (hb hby d20_23) rfl rfl (l' := #[vr a, vr b, vi 0, vr vb, vu, vu, vu, vu]) rfl) ?_
   refine gA X3 hx hby d20_24 rfl rfl rfl ?_
   obtain ⟨T4, X4, e4, st4⟩ := getF X3 hx hZ hown (host := "") (Or.inl (gw hw 35 rfl)) Via.refl e3 F_value_b (g := (mkF m 25 #[vr a, vr b, vi 0, vr vb, vu, vu, vu, vu] [(.ref b)])) rfl rfl (hb hby d20_25)
   refine Gs st4 ?_
   show Goes _ _ _ _ _ (fT T4 m 28 #[vr a, vr b, vi 0, vr vb, vu, vu, vu, vu] [(.ref wb)])
   refine Gz (XS.astore X4.here hx rfl (hb hby d20_28) rfl rfl (l' := #[vr a, vr b, vi 0, vr vb, vr wb, vu, vu, vu]) rfl) ?_
   refine gC X4 hx hby d20_30 ?_
   refine gS X4 hx hby d20_31 #[vr a, vr b, vi 0, vr vb, vr wb, vi 0, vu, vu] ?_
   refine Gz (XS.aload X4.here hx rfl (hb hby d20_33) rfl rfl) ?_
   obtain ⟨cl5, Ar5, -, S5, N5z, -, -⟩ := id V_wb
   refine Gs (fun _ tk => X4.arraylength hx (by rw [e4]; exact Ar5.1) (State.isArrayOf_alike hZ.alike Ar5.2.1) (g := (mkF m 35 #[vr a, vr b, vi 0, vr vb, vr wb, vi 0, vu, vu] [(.ref wb)])) rfl rfl (hb hby d20_35) _ tk) ?_
   rw [len_of S5 N5z]
   show Goes _ _ _ _ _ (fT T4 m 36 #[vr a, vr b, vi 0, vr vb, vr wb, vi 0, vu, vu] [(.int 1)])
   refine gS X4 hx hby d20_36 #[vr a, vr b, vi 0, vr vb, vr wb, vi 0, vi 1, vu] ?_
   refine gA X4 hx hby d20_38 rfl rfl rfl ?_
   refine cV X4 hx hZ hw hown hby hml e4 mN0 67 68 70 69 71 9 0 (rs_coder0 l Z a0 hw [] a cz h0 n0 Z0 F_coder_a sgC hcz) T_a.exa d20_39 (lenOf own_pd0 rfl) N2 (fun T6 L6 X6 e6 N6 => ?_)
   show Goes _ _ _ _ _ (fT T6 m 42 #[vr a, vr b, vi 0, vr vb, vr wb, vi 0, vi 1, vu] [(.int 0)])
   refine gS X6 hx hby d20_42 #[vr a, vr b, vi 0, vr vb, vr wb, vi 0, vi 1, vi 0] ?_
   refine gI X6 hx hby d20_44 rfl rfl ?_
   refine gA X6 hx hby d20_46 rfl rfl rfl ?_
   refine cV X6 hx hZ hw hown hby hml e6 mN0 67 68 70 69 71 9 1 (rs_coder0 l Z a0 hw [] b cz h0 n0 Z0 F_coder_b sgC hcz) T_b.exa d20_47 (lenOf own_pd0 rfl) N6 (fun T7 L7 X7 e7 N7 => ?_)
   show Goes _ _ _ _ _ (fT T7 m 50 #[vr a, vr b, vi 0, vr vb, vr wb, vi 0, vi 1, vi 0] [(.int 0), (.int 0)])
   refine gU X7 hx hby d20_50 (teq (by decide : ((0 : Int32) = (0 : Int32)))).2 ?_
   refine gI X7 hx hby d20_53 rfl rfl ?_
   refine gC X7 hx hby d20_55 ?_
   refine gY X7 hx hby d20_56 56 63 (feq (by decide : ¬ ((0 : Int32) = (1 : Int32)))).2 ?_
   refine gA X7 hx hby d20_63 rfl rfl rfl ?_
   refine gN X7 hx hby d20_64 rfl rfl ?_
   show Goes _ _ _ _ _ (fT T7 m 65 #[vr a, vr b, vi 0, vr vb, vr wb, vi 0, vi 1, vi 0] [(.int 0), (.ref vb)])
   refine Gz (XS.aload X7.here hx rfl (hb hby d20_65) rfl rfl) ?_
   refine gC X7 hx hby d20_67 ?_
   refine gI X7 hx hby d20_68 rfl rfl ?_
   refine cS X7 hx hZ hw hown hby hml e7 mN19 72 73 75 74 0 (rm_mm1 l Z a0 hw [] vb kb xs wb kw h0 n0 Z0 V_vb V_wb hpos hr (by first | assumption | decide)) d20_70 (lenOf own_pd12 rfl) N7 (fun T8 L8 X8 e8 N8 => ?_)
   show Goes _ _ _ _ _ (fT T8 m 73 #[vr a, vr b, vi 0, vr vb, vr wb, vi 0, vi 1, vi 0] [(.int (-1 : Int32))])
   refine gu X8 hx hby d20_73 ((if0 _ _).trans (tlt (by decide : ((-1 : Int32) < (0 : Int32)))).2.1) ?_
   refine gC X8 hx hby d20_76 ?_
   refine gG X8 hx hby d20_77 77 81 ?_
   refine Goes.ret X8 (some (.int 1)) (fun h => by rw [hret] at h; cases h) hlk (by decide) (by decide) ?_ (fun fs hr => ?_)
   ·exact ⟨rfl, N8, e8⟩
   ·exact own_retN X8 hx (t := .boolean) hret (by simp) rfl (hb hby d20_81) hr
  ·exact hf.elim
 ·exact hf.elim
theorem own_ef_rm_sw11 (m : MethodId) (x0 : Addr) (x1 : Addr) : entryFrame m #[(.ref x0), (.ref x1)] 2 = mkF m 0 #[vr x0, vr x1] [] := by first | (simp [entryFrame, mkF, argsToLocals, Value.category]; done) | rfl
def Q_rm_sw11 (Z : State) (a : Addr) (b : Addr) (xs : List Int32) (cz : Int32) (h0 : Heap) (n0 : Nat) (v : Option Value) (h : Heap) (L : List Loc) : Prop := v = some (.int 1) ∧ Fr n0 L ∧ h = h0
theorem rm_sw11 (l : Launch) (Z : State) (a0 : Array Value) (hw : HW a0 Z) (ws : List Jvm.Cond) (a : Addr) (b : Addr) (xs : List Int32) (cz : Int32) (h0 : Heap) (n0 : Nat) (Z0 : n0 ≤ h0.size) (T_a : StrOf Z h0 a xs) (T_b : StrOf Z h0 b [(45 : Int32)]) (hpos : (0 : Int32) < Int32.ofNat xs.length) (hr : xs.getD (0 : Int32).toNatClampNeg 0 = 45) (sgC : Sta Z h0 "java/lang/String" "COMPACT_STRINGS" "Z" (.int cz)) (hcz : ¬ (cz = 0)) :
  Met l Z mN21 jdk_42_method_76_code 2 (some .boolean) ({ frames := 3, cells := 0, slots := 0, locals := 46 } : Room) ws #[(.ref a), (.ref b)] h0 (Q_rm_sw11 Z a b xs cz h0 n0) := by
 refine own_met (plainFor_of_name own_pn0) ?_
 intro p e s m below meth c s₁ hret hx hby hlk hml hown hnm X0 e0 hZ hh
 have N0 := Fr.nil n0
 refine Gz (castTop (own_ef_rm_sw11 m a b)) ?_
 show Goes _ _ _ _ _ (fT s₁ m 0 #[vr a, vr b] [])
 refine gA X0 hx hby d21_0 rfl rfl rfl ?_
 refine gA X0 hx hby d21_1 rfl rfl rfl ?_
 refine gC X0 hx hby d21_2 ?_
 refine cV X0 hx hZ hw hown hby hml e0 mN20 57 58 60 59 61 9 0 (rm_sw21 l Z a0 hw [] a b xs cz h0 n0 Z0 T_a T_b hpos hr sgC hcz) T_a.exa d21_3 (lenOf own_pd13 rfl) N0 (fun T1 L1 X1 e1 N1 => ?_)
 show Goes _ _ _ _ _ (fT T1 m 6 #[vr a, vr b] [(.int 1)])
 refine Goes.ret X1 (some (.int 1)) (fun h => by rw [hret] at h; cases h) hlk (by decide) (by decide) ?_ (fun fs hr => ?_)
 ·exact ⟨rfl, N1, e1⟩
 ·exact own_retN X1 hx (t := .boolean) hret (by simp) rfl (hb hby d21_6) hr
theorem d22_0 : DK kc18 0 (.aload_n 0) 1 := by decide +kernel
theorem d22_1 : DK kc18 1 (.ldc 101) 2 := by decide +kernel
theorem own_strW {a0 : Array Value} {Z : State} (hw : HW a0 Z) : ∀ a ∈ Bundle.stringAtoms, a.before a0 Z = true := by
 intro a ha
 simp only [Bundle.stringAtoms, List.mem_cons, List.not_mem_nil, or_false] at ha
 rcases ha with rfl | rfl | rfl | rfl | rfl | rfl | rfl
 ·exact (gw hw 9 rfl)
 ·exact (gw hw 8 rfl)
 ·exact (gw hw 26 rfl)
 ·exact (gw hw 36 rfl)
 ·exact (gw hw 34 rfl)
 ·exact (gw hw 42 rfl)
 ·exact (gw hw 43 rfl)
theorem own_EW {a0 : Array Value} {Z : State} (hw : HW a0 Z) : EW Z a0 consts_1 := (EW.cons (gw hw 41 rfl) (by decide) (EW.cons (gw hw 51 rfl) (by decide) EW.nil))
theorem d22_3 : DK kc18 3 (.invokevirtual 103) 3 := by decide +kernel
theorem own_pd14 : parseMethodDescriptor "(Ljava/lang/String;)Z" = some ⟨[(.object "java/lang/String")], some .boolean⟩ := by decide +kernel
theorem d22_6 : DK kc18 6 (.ifCond .eq 7) 3 := by decide +kernel
theorem d22_13 : DK kc18 13 (.iconst 0) 1 := by decide +kernel
theorem d22_14 : DK kc18 14 (.istore_n 1) 1 := by decide +kernel
theorem d22_15 : DK kc18 15 (.iload_n 1) 1 := by decide +kernel
theorem d22_16 : DK kc18 16 (.istore_n 2) 1 := by decide +kernel
theorem d22_17 : DK kc18 17 (.iconst 1) 1 := by decide +kernel
theorem d22_18 : DK kc18 18 (.istore_n 3) 1 := by decide +kernel
theorem d22_19 : DK kc18 19 (.iload_n 1) 1 := by decide +kernel
theorem d22_20 : DK kc18 20 (.aload_n 0) 1 := by decide +kernel
theorem d22_21 : DK kc18 21 (.invokevirtual 107) 3 := by decide +kernel
theorem d22_24 : DK kc18 24 (.if_icmp .ge 38) 3 := by decide +kernel
theorem d22_27 : DK kc18 27 (.aload_n 0) 1 := by decide +kernel
theorem d22_28 : DK kc18 28 (.iload_n 1) 1 := by decide +kernel
theorem d22_29 : DK kc18 29 (.invokevirtual 110) 3 := by decide +kernel
theorem own_pd15 : parseMethodDescriptor "(I)C" = some ⟨[.int], some .char⟩ := by decide +kernel
theorem d22_32 : DK kc18 32 (.invokestatic 114) 3 := by decide +kernel
theorem own_pd16 : parseMethodDescriptor "(C)Z" = some ⟨[.char], some .boolean⟩ := by decide +kernel
theorem d22_35 : DK kc18 35 (.ifCond .eq 27) 3 := by decide +kernel
theorem d22_38 : DK kc18 38 (.iload_n 3) 1 := by decide +kernel
theorem d22_39 : DK kc18 39 (.aload_n 0) 1 := by decide +kernel
theorem d22_40 : DK kc18 40 (.iload_n 1) 1 := by decide +kernel
theorem d22_41 : DK kc18 41 (.invokevirtual 110) 3 := by decide +kernel
theorem d22_44 : DK kc18 44 (.bipush 48) 2 := by decide +kernel
theorem d22_46 : DK kc18 46 (.if_icmp .ne 7) 3 := by decide +kernel
theorem d22_54 : DK kc18 54 .iand 1 := by decide +kernel
theorem d22_55 : DK kc18 55 (.istore_n 3) 1 := by decide +kernel
theorem d22_56 : DK kc18 56 (.iinc 1 1) 3 := by decide +kernel
theorem d22_59 : DK kc18 59 (.goto (-40)) 3 := by decide +kernel
theorem d22_62 : DK kc18 62 (.iload_n 1) 1 := by decide +kernel
theorem d22_63 : DK kc18 63 (.iload_n 2) 1 := by decide +kernel
theorem d22_64 : DK kc18 64 .isub 1 := by decide +kernel
theorem d22_65 : DK kc18 65 (.istore 4) 2 := by decide +kernel
theorem d22_67 : DK kc18 67 (.iload 4) 2 := by decide +kernel
theorem d22_69 : DK kc18 69 (.iconst 1) 1 := by decide +kernel
theorem d22_70 : DK kc18 70 (.if_icmp .eq 19) 3 := by decide +kernel
theorem d22_89 : DK kc18 89 (.iconst 1) 1 := by decide +kernel
theorem d22_90 : DK kc18 90 (.goto 4) 3 := by decide +kernel
theorem d22_94 : DK kc18 94 (.istore 5) 2 := by decide +kernel
theorem d22_96 : DK kc18 96 (.iconst 0) 1 := by decide +kernel
theorem d22_97 : DK kc18 97 (.istore 6) 2 := by decide +kernel
theorem d22_99 : DK kc18 99 (.iload 5) 2 := by decide +kernel
theorem d22_101 : DK kc18 101 (.ifCond .eq 93) 3 := by decide +kernel
theorem d22_104 : DK kc18 104 (.iload_n 1) 1 := by decide +kernel
theorem d22_105 : DK kc18 105 (.aload_n 0) 1 := by decide +kernel
theorem d22_106 : DK kc18 106 (.invokevirtual 107) 3 := by decide +kernel
theorem d22_109 : DK kc18 109 (.if_icmp .ge 85) 3 := by decide +kernel
theorem d22_194 : DK kc18 194 (.iload 5) 2 := by decide +kernel
theorem d22_196 : DK kc18 196 (.ifCond .ne 17) 3 := by decide +kernel
theorem d22_213 : DK kc18 213 (.new 85) 3 := by decide +kernel
theorem d22_216 : DK kc18 216 .dup 1 := by decide +kernel
theorem d22_217 : DK kc18 217 (.iload_n 3) 1 := by decide +kernel
theorem d22_218 : DK kc18 218 (.ifCond .eq 7) 3 := by decide +kernel
theorem d22_234 : DK kc18 234 (.iload 6) 2 := by decide +kernel
theorem d22_236 : DK kc18 236 (.invokespecial 119) 3 := by decide +kernel
theorem d22_239 : DK kc18 239 .areturn 1 := by decide +kernel
theorem d22_225 : DK kc18 225 (.iload_n 2) 1 := by decide +kernel
theorem d22_226 : DK kc18 226 (.ifCond .ne 7) 3 := by decide +kernel
theorem d22_229 : DK kc18 229 (.iconst 1) 1 := by decide +kernel
theorem d22_230 : DK kc18 230 (.goto 4) 3 := by decide +kernel
theorem d22_221 : DK kc18 221 (.iconst 0) 1 := by decide +kernel
theorem d22_222 : DK kc18 222 (.goto 12) 3 := by decide +kernel
theorem d22_49 : DK kc18 49 (.iconst 1) 1 := by decide +kernel
theorem d22_50 : DK kc18 50 (.goto 4) 3 := by decide +kernel
theorem d22_53 : DK kc18 53 (.iconst 0) 1 := by decide +kernel
theorem own_ef_rm_cs010 (m : MethodId) (x0 : Addr) : entryFrame m #[(.ref x0)] 7 = mkF m 0 #[vr x0, vu, vu, vu, vu, vu, vu] [] := by first | (simp [entryFrame, mkF, argsToLocals, Value.category]; done) | rfl
def Q_rm_cs010 (Z : State) (a : Addr) (d0 : Int32) (cz : Int32) (fo : Value) (h0 : Heap) (n0 : Nat) (v : Option Value) (h : Heap) (L : List Loc) : Prop := ∃ o : Addr, v = some (.ref o) ∧ Fr n0 L ∧ Keep h0 h [] ∧ Exa Z h o "com/example/modest_billing/modestbilling/Money$Shape" ∧ Fld Z h o "com/example/modest_billing/modestbilling/Money$Shape" "signum" "I" (.int (own_sg (own_allz [d0]) (1 : Int32))) ∧ n0 ≤ o ∧ h0.size ≤ o
theorem rm_cs010 (l : Launch) (Z : State) (a0 : Array Value) (hw : HW a0 Z) (ws : List Jvm.Cond) (a : Addr) (d0 : Int32) (cz : Int32) (fo : Value) (h0 : Heap) (n0 : Nat) (Z0 : n0 ≤ h0.size) (T_a : StrOf Z h0 a [d0]) (hD_d0 : Dig d0) (sgC : Sta Z h0 "java/lang/String" "COMPACT_STRINGS" "Z" (.int cz)) (hcz : ¬ (cz = 0)) (sgF : Sta Z h0 "jdk/internal/util/Preconditions" "SIOOBE_FORMATTER" "Ljava/util/function/BiFunction;" fo) (r_fo : fo.isRef = true) :
  MetH l Z mN22 prog_29_method_8_code 7 (some (.object "com/example/modest_billing/modestbilling/Money$Shape")) ({ frames := 4, cells := 3, slots := 10, locals := 59 } : Room) ws #[(.ref a)] h0 (Q_rm_cs010 Z a d0 cz fo h0 n0) := by
 refine own_metH (plainFor_of_name own_pn8) ?_
 intro p e s m below meth c s₁ hret hx hby hlk hml hown hnm X0 e0 hZ hh hC0
 have N0 := Fr.nil n0
 have hS : s.Since s.vm h0.size := (State.WarmedH.refl s).since _
 have hk : h0.size ≤ h0.size := Nat.le_refl _
 replace hZ : Z.Warmed39 (s.setVm s.vm).vm := hZ
 have hR : CHr Z consts_1 s.vm h0 s.vm h0 := CHr.refl hC0
 refine Gz (castTop (own_ef_rm_cs010 m a)) ?_
 have KP : Keep h0 h0 [] := Keep.refl _ _
 show Goes _ _ _ _ _ (fT s₁ m 0 #[vr a, vu, vu, vu, vu, vu, vu] [])
 refine gA X0 hx hby d22_0 rfl rfl rfl ?_
 obtain ⟨c1, T1, h1, kk1, cb1, kc1, X1, e1, E1, hS, hk1, hZ, hown, A_c1, F_coder_c1, F_value_c1, V_cb1, -, -, hC1, hL1, hsf1, st1⟩ := ldcCH X0 hx hZ hown (gw hw 51 rfl) (own_strW hw) e0 hS hk (own_EW hw) (List.mem_of_getElem? (i := 1) rfl) hR.1 (vs := [(.int 45)]) (z := (1 : Int32)) ⟨by first | decide | rfl, by first | decide | rfl⟩ (by decide) (by decide) (g := (mkF m 1 #[vr a, vu, vu, vu, vu, vu, vu] [(.ref a)])) rfl (hb hby d22_1) (n := 4) (by decide) (by decide) (by decide) (by decide)
 replace T_a := T_a.ext E1
 replace sgC := sgC.ext E1
 replace sgF := sgF.ext E1
 replace KP := KP.ext E1
 replace hR := hR.trans hC1
 replace Z0 : n0 ≤ h1.size := Nat.le_trans Z0 E1.1
 replace hk := hk1
 refine Gs st1 ?_
 show Goes _ _ _ _ _ (fT T1 m 3 #[vr a, vu, vu, vu, vu, vu, vu] [(.ref c1), (.ref a)])
 have T_c1 : StrOf Z h1 c1 [(45 : Int32)] := StrOf.latin A_c1 F_value_c1 F_coder_c1 V_cb1 (by intro c hc; rw [List.mem_singleton.mp hc]; exact own_lat45) rfl rfl (Nat.le_of_ble_eq_true rfl)
 refine cV X1 hx hZ hw hown hby hml e1 mN21 52 53 55 54 56 9 0 (rm_sw10 l Z a0 hw [] a c1 [d0] d0 cz h1 n0 Z0 T_a T_c1 (own_il 0 _ (by decide) (by simp) T_a.len) rfl hD_d0 sgC hcz) T_a.exa d22_3 (lenOf own_pd14 rfl) N0 (fun T2 L2 X2 e2 N2 => ?_)
 show Goes _ _ _ _ _ (fT T2 m 6 #[vr a, vu, vu, vu, vu, vu, vu] [(.int 0)])
 refine gy X2 hx hby d22_6 6 13 ((if0 _ _).trans (teq (by decide : ((0 : Int32) = (0 : Int32)))).1) ?_
 refine gC X2 hx hby d22_13 ?_
 refine gs X2 hx hby d22_14 #[vr a, vi 0, vu, vu, vu, vu, vu] ?_
 refine gN X2 hx hby d22_15 rfl rfl ?_
 refine gs X2 hx hby d22_16 #[vr a, vi 0, vi 0, vu, vu, vu, vu] ?_
 refine gC X2 hx hby d22_17 ?_
 show Goes _ _ _ _ _ (fT T2 m 18 #[vr a, vi 0, vi 0, vu, vu, vu, vu] [(.int 1)])
 refine gs X2 hx hby d22_18 #[vr a, vi 0, vi 0, vi 1, vu, vu, vu] ?_
 refine gN X2 hx hby d22_19 rfl rfl ?_
 refine gA X2 hx hby d22_20 rfl rfl rfl ?_
 refine cV X2 hx hZ hw hown hby hml e2 mN2 76 63 65 64 66 9 1 (rs_len l Z a0 hw [] a [d0] cz h1 n0 Z0 T_a sgC hcz) T_a.exa d22_21 (lenOf own_pd11 rfl) N2 (fun T3 L3 X3 e3 N3 => ?_)
 show Goes _ _ _ _ _ (fT T3 m 24 #[vr a, vi 0, vi 0, vi 1, vu, vu, vu] [(.int 1), (.int 0)])
 refine gU X3 hx hby d22_24 (tlt (by decide : ((0 : Int32) < (1 : Int32)))).2.1 ?_
 refine gA X3 hx hby d22_27 rfl rfl rfl ?_
 refine gN X3 hx hby d22_28 rfl rfl ?_
 refine cV X3 hx hZ hw hown hby hml e3 mN6 77 78 80 79 81 9 0 (rs_chr l Z a0 hw [] a [d0] (0 : Int32) d0 cz fo h1 n0 Z0 T_a sgC hcz (by first | assumption | decide) (own_il 0 _ (by decide) (by simp) T_a.len) rfl sgF r_fo) T_a.exa d22_29 (lenOf own_pd15 rfl) N3 (fun T4 L4 X4 e4 N4 => ?_)
 show Goes _ _ _ _ _ (fT T4 m 32 #[vr a, vi 0, vi 0, vi 1, vu, vu, vu] [(.int d0)])
 refine cS X4 hx hZ hw hown hby hml e4 mN17 99 100 101 39 0 (rm_isd l Z a0 hw [] d0 h1 n0 Z0 (own_n48 hD_d0).1 (own_n48 hD_d0).2) d22_32 (lenOf own_pd16 rfl) N4 (fun T5 L5 X5 e5 N5 => ?_)
 show Goes _ _ _ _ _ (fT T5 m 35 #[vr a, vi 0, vi 0, vi 1, vu, vu, vu] [(.int 1)])
 refine gu X5 hx hby d22_35 ((if0 _ _).trans (feq (by decide : ¬ ((1 : Int32) = (0 : Int32)))).1) ?_
 refine gN X5 hx hby d22_38 rfl rfl ?_
 refine gA X5 hx hby d22_39 rfl rfl rfl ?_
 refine gN X5 hx hby d22_40 rfl rfl ?_
 refine cV X5 hx hZ hw hown hby hml e5 mN6 77 78 80 79 81 9 1 (rs_chr l Z a0 hw [] a [d0] (0 : Int32) d0 cz fo h1 n0 Z0 T_a sgC hcz (by first | assumption | decide) (own_il 0 _ (by decide) (by simp) T_a.len) rfl sgF r_fo) T_a.exa d22_41 (lenOf own_pd15 rfl) N5 (fun T6 L6 X6 e6 N6 => ?_)
 show Goes _ _ _ _ _ (fT T6 m 44 #[vr a, vi 0, vi 0, vi 1, vu, vu, vu] [(.int d0), (.int 1)])
 refine gB X6 hx hby d22_44 ?_
 show Goes _ _ _ _ _ (fT T6 m 46 #[vr a, vi 0, vi 0, vi 1, vu, vu, vu] [(.int 48), (.int d0), (.int 1)])
 refine own_join (B := T6.setTop (mkF m 54 #[vr a, vi 0, vi 0, vi 1, vu, vu, vu] [(.int (own_z d0)), (.int 1)])) ?_ ?_
 ·show Goes _ _ _ _ _ (fT T6 m 54 #[vr a, vi 0, vi 0, vi 1, vu, vu, vu] [(.int (own_z d0)), (.int 1)])
  refine Gz (XS.iand X6.here hx rfl (hb hby d22_54) rfl) ?_
  show Goes _ _ _ _ _ (fT T6 m 55 #[vr a, vi 0, vi 0, vi 1, vu, vu, vu] [(.int ((1 : Int32) &&& (own_z d0)))])
  refine gs X6 hx hby d22_55 #[vr a, vi 0, vi 0, vi ((1 : Int32) &&& (own_z d0)), vu, vu, vu] ?_
  show Goes _ _ _ _ _ (fT T6 m 56 #[vr a, vi 0, vi 0, vi ((1 : Int32) &&& (own_z d0)), vu, vu, vu] [])
  refine Gz (XS.iinc X6.here hx rfl (hb hby d22_56) rfl (l' := #[vr a, vi ((0 : Int32) + (1 : Int32)), vi 0, vi ((1 : Int32) &&& (own_z d0)), vu, vu, vu]) rfl) ?_
  show Goes _ _ _ _ _ (fT T6 m 59 #[vr a, vi 1, vi 0, vi ((1 : Int32) &&& (own_z d0)), vu, vu, vu] [])
  refine gG X6 hx hby d22_59 59 19 ?_
  refine gN X6 hx hby d22_19 rfl rfl ?_
  refine gA X6 hx hby d22_20 rfl rfl rfl ?_
  refine cV X6 hx hZ hw hown hby hml e6 mN2 76 63 65 64 66 9 1 (rs_len l Z a0 hw [] a [d0] cz h1 n0 Z0 T_a sgC hcz) T_a.exa d22_21 (lenOf own_pd11 rfl) N6 (fun T8 L8 X8 e8 N8 => ?_)
  show Goes _ _ _ _ _ (fT T8 m 24 #[vr a, vi 1, vi 0, vi ((1 : Int32) &&& (own_z d0)), vu, vu, vu] [(.int 1), (.int 1)])
  refine gY X8 hx hby d22_24 24 62 (flt (by decide : ¬ ((1 : Int32) < (1 : Int32)))).2.1 ?_
  refine gN X8 hx hby d22_62 rfl rfl ?_
  refine gN X8 hx hby d22_63 rfl rfl ?_
  show Goes _ _ _ _ _ (fT T8 m 64 #[vr a, vi 1, vi 0, vi ((1 : Int32) &&& (own_z d0)), vu, vu, vu] [(.int 0), (.int 1)])
  refine Gz (XS.isub X8.here hx rfl (hb hby d22_64) rfl) ?_
  show Goes _ _ _ _ _ (fT T8 m 65 #[vr a, vi 1, vi 0, vi ((1 : Int32) &&& (own_z d0)), vu, vu, vu] [(.int 1)])
  refine gS X8 hx hby d22_65 #[vr a, vi 1, vi 0, vi ((1 : Int32) &&& (own_z d0)), vi 1, vu, vu] ?_
  refine gI X8 hx hby d22_67 rfl rfl ?_
  refine gC X8 hx hby d22_69 ?_
  refine gY X8 hx hby d22_70 70 89 (teq (by decide : ((1 : Int32) = (1 : Int32)))).1 ?_
  refine gC X8 hx hby d22_89 ?_
  refine gG X8 hx hby d22_90 90 94 ?_
  show Goes _ _ _ _ _ (fT T8 m 94 #[vr a, vi 1, vi 0, vi ((1 : Int32) &&& (own_z d0)), vi 1, vu, vu] [(.int 1)])
  refine gS X8 hx hby d22_94 #[vr a, vi 1, vi 0, vi ((1 : Int32) &&& (own_z d0)), vi 1, vi 1, vu] ?_
  refine gC X8 hx hby d22_96 ?_
  refine gS X8 hx hby d22_97 #[vr a, vi 1, vi 0, vi ((1 : Int32) &&& (own_z d0)), vi 1, vi 1, vi 0] ?_
  refine gI X8 hx hby d22_99 rfl rfl ?_
  refine gu X8 hx hby d22_101 ((if0 _ _).trans (feq (by decide : ¬ ((1 : Int32) = (0 : Int32)))).1) ?_
  refine gN X8 hx hby d22_104 rfl rfl ?_
  show Goes _ _ _ _ _ (fT T8 m 105 #[vr a, vi 1, vi 0, vi ((1 : Int32) &&& (own_z d0)), vi 1, vi 1, vi 0] [(.int 1)])
  refine gA X8 hx hby d22_105 rfl rfl rfl ?_
  refine cV X8 hx hZ hw hown hby hml e8 mN2 76 63 65 64 66 9 1 (rs_len l Z a0 hw [] a [d0] cz h1 n0 Z0 T_a sgC hcz) T_a.exa d22_106 (lenOf own_pd11 rfl) N8 (fun T9 L9 X9 e9 N9 => ?_)
  show Goes _ _ _ _ _ (fT T9 m 109 #[vr a, vi 1, vi 0, vi ((1 : Int32) &&& (own_z d0)), vi 1, vi 1, vi 0] [(.int 1), (.int 1)])
  refine gY X9 hx hby d22_109 109 194 (flt (by decide : ¬ ((1 : Int32) < (1 : Int32)))).2.1 ?_
  refine gI X9 hx hby d22_194 rfl rfl ?_
  refine gy X9 hx hby d22_196 196 213 ((if0 _ _).trans (feq (by decide : ¬ ((1 : Int32) = (0 : Int32)))).2) ?_
  obtain ⟨T10, h10, X10, e10, E10, A10, D10, -, st10⟩ := newO X9 hx hZ hown (gw hw 102 rfl) (gw hw 103 rfl) (gw hw 104 rfl) e9 (g := (mkF m 213 #[vr a, vi 1, vi 0, vi ((1 : Int32) &&& (own_z d0)), vi 1, vi 1, vi 0] [])) rfl (hb hby d22_213) (by decide) (by decide)
  obtain ⟨b10, gq10⟩ : ∃ z, z = h1.size := ⟨_, rfl⟩
  rw [← gq10] at A10 st10 D10
  have g_b10 : n0 ≤ b10 := by rw [gq10]; exact Z0
  have sz_b10 : h0.size ≤ b10 := by rw [gq10]; exact KP.1
  have ne_a_b10 : a ≠ b10 := by rw [gq10]; exact Nat.ne_of_lt T_a.lt
  have ne_c1_b10 : c1 ≠ b10 := by rw [gq10]; exact Nat.ne_of_lt A_c1.lt
  have ne_cb1_b10 : cb1 ≠ b10 := by rw [gq10]; exact Nat.ne_of_lt V_cb1.lt
  have Sf_b10 : Safe Z consts_1 T1.vm h1 b10 := Safe.new (Nat.le_of_eq gq10.symm)
  replace Sf_b10 := Safe.ext E10 hR.1 Sf_b10
  replace hR := hR.trans (CHr.ext E10 hR.1)
  replace T_a := T_a.ext E10
  replace T_c1 := T_c1.ext E10
  replace KP := KP.ext E10
  replace Z0 : n0 ≤ h10.size := Nat.le_trans Z0 E10.1
  replace hk := Nat.le_trans hk E10.1
  have A_b10 : Exa Z h10 b10 "com/example/modest_billing/modestbilling/Money$Shape" := A10
  have F_signum_b10 : Fld Z h10 b10 "com/example/modest_billing/modestbilling/Money$Shape" "signum" "I" (.int 0) := D10 (Or.inr (gw hw 115 rfl)) (ty := .int) (by decide)
  have F_fractionDigits_b10 : Fld Z h10 b10 "com/example/modest_billing/modestbilling/Money$Shape" "fractionDigits" "I" (.int 0) := D10 (Or.inr (gw hw 117 rfl)) (ty := .int) (by decide)
  refine Gs st10 ?_
  show Goes _ _ _ _ _ (fT T10 m 216 #[vr a, vi 1, vi 0, vi ((1 : Int32) &&& (own_z d0)), vi 1, vi 1, vi 0] [(.ref b10)])
  refine Gz (XS.dup X10.here hx rfl (hb hby d22_216) rfl rfl) ?_
  refine gN X10 hx hby d22_217 rfl rfl ?_
  show Goes _ _ _ _ _ (fT T10 m 218 #[vr a, vi 1, vi 0, vi ((1 : Int32) &&& (own_z d0)), vi 1, vi 1, vi 0] [(.int ((1 : Int32) &&& (own_z d0))), (.ref b10), (.ref b10)])
  refine own_join (B := T10.setTop (mkF m 234 #[vr a, vi 1, vi 0, vi ((1 : Int32) &&& (own_z d0)), vi 1, vi 1, vi 0] [(.int (own_sg (own_allz [d0]) (1 : Int32))), (.ref b10), (.ref b10)])) ?_ ?_
  ·show Goes _ _ _ _ _ (fT T10 m 234 #[vr a, vi 1, vi 0, vi ((1 : Int32) &&& (own_z d0)), vi 1, vi 1, vi 0] [(.int (own_sg (own_allz [d0]) (1 : Int32))), (.ref b10), (.ref b10)])
   refine gI X10 hx hby d22_234 rfl rfl ?_
   obtain ⟨_, _, ⟨T12, L12, k12, n12⟩, -, X12, ⟨Lc12, hQ12, l12, y12, z12⟩, st12⟩ := own_specialRef X10 hx hZ (y := mN13) rfl hown (gw hw 105 rfl) (gw hw 106 rfl) (gw hw 107 rfl) (by decide) (backOf (W := 1) (rm_shi l Z a0 hw [] b10 (own_sg (own_allz [d0]) (1 : Int32)) (0 : Int32) h10 n0 Z0 A_b10 F_signum_b10 F_fractionDigits_b10 g_b10) hZ (gw hw 107 rfl) (gw hw 104 rfl) (by decide) (by decide)) (g := (mkF m 236 #[vr a, vi 1, vi 0, vi ((1 : Int32) &&& (own_z d0)), vi 1, vi 1, vi 0] [(.int 0), (.int (own_sg (own_allz [d0]) (1 : Int32))), (.ref b10), (.ref b10)])) rfl hml.symm (Steps.refl _) (a := b10) (argsL := [(.int (own_sg (own_allz [d0]) (1 : Int32))), (.int 0)]) (rest := [(.ref b10)]) (lenOf own_pd2 rfl) rfl (wz rfl) (hb hby d22_236) (fun _ _ => ⟨rfl, e10, (by decide : 3 + 0 ≤ _), (by decide : 10 + 0 ≤ _)⟩)
   dsimp only [Pt.U, Pt.locs, Pt.cells, Pt.slots] at X12 l12 y12 z12 st12 hQ12
   subst l12 y12 z12
   obtain ⟨rfl, N12q, K12, F_signum_b10_12'⟩ := hQ12
   have N12 := Fr.app N9 N12q
   replace hR := hR.trans (CHr.keep K12 (allS Sf_b10 all0) hR.1)
   replace T_a := T_a.keep K12 (allS ⟨(Ne.symm ne_a_b10), (own_nbE A_b10 (gw hw 103 rfl))⟩ all0)
   replace T_c1 := T_c1.keep K12 (allS ⟨(Ne.symm ne_c1_b10), (own_nbE A_b10 (gw hw 103 rfl))⟩ all0)
   replace A_b10 := A_b10.keep K12
   replace KP := KP.trans K12 (allS (Or.inr sz_b10) all0)
   replace Z0 := Nat.le_trans Z0 K12.1
   replace hk := Nat.le_trans hk K12.1
   have F_signum_b10 := F_signum_b10_12'
   refine Gs (fun _ tk => st12.trans tk) ?_
   show Goes _ _ _ _ _ (fT T12 m 239 #[vr a, vi 1, vi 0, vi ((1 : Int32) &&& (own_z d0)), vi 1, vi 1, vi 0] [(.ref b10)])
   refine Goes.retH X12 hS rfl hk hZ (own_EW hw) hh hR (some (.ref b10)) (fun h => by rw [hret] at h; cases h) hlk (by decide) (by decide) ?_ (fun fs hr => ?_)
   ·exact ⟨b10, rfl, N12, KP, A_b10, F_signum_b10, g_b10, sz_b10⟩
   ·exact own_retA X12 hx hret rfl rfl (hb hby d22_239) hr
  intro J234_11
  by_cases hc218_13 : ((1 : Int32) &&& (own_z d0)) = 0
  ·refine gy X10 hx hby d22_218 218 225 ((if0 _ _).trans (teq hc218_13).1) ?_
   refine gN X10 hx hby d22_225 rfl rfl ?_
   refine gu X10 hx hby d22_226 ((if0 _ _).trans (teq (by decide : ((0 : Int32) = (0 : Int32)))).2) ?_
   refine gC X10 hx hby d22_229 ?_
   refine gG X10 hx hby d22_230 230 234 ?_
   rw [show (own_sg (own_allz [d0]) (1 : Int32)) = 1 from by rw [← own_F1, own_sg, if_pos hc218_13]] at J234_11
   exact J234_11
  ·refine gu X10 hx hby d22_218 ((if0 _ _).trans (feq hc218_13).1) ?_
   refine gC X10 hx hby d22_221 ?_
   refine gG X10 hx hby d22_222 222 234 ?_
   rw [show (own_sg (own_allz [d0]) (1 : Int32)) = 0 from by rw [← own_F1, own_sg, if_neg hc218_13]] at J234_11
   exact J234_11
 intro J54_7
 by_cases hc46_14 : d0 = 48
 ·refine gU X6 hx hby d22_46 (teq hc46_14).2 ?_
  refine gC X6 hx hby d22_49 ?_
  refine gG X6 hx hby d22_50 50 54 ?_
  rw [show (own_z d0) = 1 from by rw [own_z, if_pos hc46_14]] at J54_7
  exact J54_7
 ·refine gY X6 hx hby d22_46 46 53 (feq hc46_14).2 ?_
  refine gC X6 hx hby d22_53 ?_
  rw [show (own_z d0) = 0 from by rw [own_z, if_neg hc46_14]] at J54_7
  exact J54_7
theorem d23_0 : DK kc17 0 (.aload_n 0) 1 := by decide +kernel
theorem d23_1 : DK kc17 1 (.ldc 78) 2 := by decide +kernel
theorem d23_3 : DK kc17 3 (.invokestatic 19) 3 := by decide +kernel
theorem own_pd17 : parseMethodDescriptor "(Ljava/lang/Object;Ljava/lang/String;)Ljava/lang/Object;" = some ⟨[(.object "java/lang/Object"), (.object "java/lang/String")], some (.object "java/lang/Object")⟩ := by decide +kernel
theorem d23_6 : DK kc17 6 .pop 1 := by decide +kernel
theorem d23_7 : DK kc17 7 (.aload_n 0) 1 := by decide +kernel
theorem d23_8 : DK kc17 8 (.invokestatic 80) 3 := by decide +kernel
theorem own_pd18 : parseMethodDescriptor "(Ljava/lang/String;)Lcom/example/modest_billing/modestbilling/Money$Shape;" = some ⟨[(.object "java/lang/String")], some (.object "com/example/modest_billing/modestbilling/Money$Shape")⟩ := by decide +kernel
theorem d23_11 : DK kc17 11 (.invokevirtual 84) 3 := by decide +kernel
theorem d23_14 : DK kc17 14 .ireturn 1 := by decide +kernel
theorem own_ef_rm_so010 (m : MethodId) (x0 : Addr) : entryFrame m #[(.ref x0)] 1 = mkF m 0 #[vr x0] [] := by first | (simp [entryFrame, mkF, argsToLocals, Value.category]; done) | rfl
def Q_rm_so010 (Z : State) (a : Addr) (d0 : Int32) (cz : Int32) (fo : Value) (h0 : Heap) (n0 : Nat) (v : Option Value) (h : Heap) (L : List Loc) : Prop := v = some (.int (own_sg (own_allz [d0]) (1 : Int32))) ∧ Fr n0 L ∧ Keep h0 h []
theorem rm_so010 (l : Launch) (Z : State) (a0 : Array Value) (hw : HW a0 Z) (ws : List Jvm.Cond) (a : Addr) (d0 : Int32) (cz : Int32) (fo : Value) (h0 : Heap) (n0 : Nat) (Z0 : n0 ≤ h0.size) (T_a : StrOf Z h0 a [d0]) (hD_d0 : Dig d0) (sgC : Sta Z h0 "java/lang/String" "COMPACT_STRINGS" "Z" (.int cz)) (hcz : ¬ (cz = 0)) (sgF : Sta Z h0 "jdk/internal/util/Preconditions" "SIOOBE_FORMATTER" "Ljava/util/function/BiFunction;" fo) (r_fo : fo.isRef = true) :
  MetH l Z mN23 prog_29_method_6_code 1 (some .int) ({ frames := 5, cells := 5, slots := 30, locals := 77 } : Room) ws #[(.ref a)] h0 (Q_rm_so010 Z a d0 cz fo h0 n0) := by
 refine own_metH (plainFor_of_name own_pn8) ?_
 intro p e s m below meth c s₁ hret hx hby hlk hml hown hnm X0 e0 hZ hh hC0
 have N0 := Fr.nil n0
 have hS : s.Since s.vm h0.size := (State.WarmedH.refl s).since _
 have hk : h0.size ≤ h0.size := Nat.le_refl _
 replace hZ : Z.Warmed39 (s.setVm s.vm).vm := hZ
 have hR : CHr Z consts_1 s.vm h0 s.vm h0 := CHr.refl hC0
 refine Gz (castTop (own_ef_rm_so010 m a)) ?_
 have KP : Keep h0 h0 [] := Keep.refl _ _
 show Goes _ _ _ _ _ (fT s₁ m 0 #[vr a] [])
 refine gA X0 hx hby d23_0 rfl rfl rfl ?_
 obtain ⟨c1, T1, h1, kk1, cb1, kc1, X1, e1, E1, hS, hk1, hZ, hown, A_c1, F_coder_c1, F_value_c1, V_cb1, -, -, hC1, hL1, hsf1, st1⟩ := ldcCH X0 hx hZ hown (gw hw 41 rfl) (own_strW hw) e0 hS hk (own_EW hw) (List.mem_of_getElem? (i := 0) rfl) hR.1 (vs := [(.int 116), (.int 101), (.int 120), (.int 116)]) (z := (4 : Int32)) ⟨by first | decide | rfl, by first | decide | rfl⟩ (by decide) (by decide) (g := (mkF m 1 #[vr a] [(.ref a)])) rfl (hb hby d23_1) (n := 16) (by decide) (by decide) (by decide) (by decide)
 replace T_a := T_a.ext E1
 replace sgC := sgC.ext E1
 replace sgF := sgF.ext E1
 replace KP := KP.ext E1
 replace hR := hR.trans hC1
 replace Z0 : n0 ≤ h1.size := Nat.le_trans Z0 E1.1
 replace hk := hk1
 refine Gs st1 ?_
 show Goes _ _ _ _ _ (fT T1 m 3 #[vr a] [(.ref c1), (.ref a)])
 refine cS X1 hx hZ hw hown hby hml e1 mN15 44 45 47 46 0 (rm_nn l Z a0 hw [] a c1 h1 n0 Z0) d23_3 (lenOf own_pd17 rfl) N0 (fun T2 L2 X2 e2 N2 => ?_)
 show Goes _ _ _ _ _ (fT T2 m 6 #[vr a] [(.ref a)])
 refine Gz (XS.pop X2.here hx rfl (hb hby d23_6) rfl rfl) ?_
 refine gA X2 hx hby d23_7 rfl rfl rfl ?_
 obtain ⟨_, _, ⟨T3, L3, k3, n3⟩, -, X3, hS3, gr3, ⟨Lc3, hQ3, l3, y3, z3, hC3⟩, st3⟩ := callSS X2 hx (y := mN22) hown (gz hZ hw 48 rfl) (gz hZ hw 49 rfl) (gz hZ hw 39 rfl) (gz hZ hw 50 rfl) (by decide) (backOfSH (W := 0) (rm_cs010 l Z a0 hw [] a d0 cz fo h1 n0 Z0 T_a hD_d0 sgC hcz sgF r_fo) hZ (gw hw 50 rfl) (gw hw 39 rfl) (by decide) (by decide) (own_EW hw) hR.1) (g := (mkF m 8 #[vr a] [(.ref a)])) rfl hml.symm (argsL := [(.ref a)]) (rest := []) (lenOf own_pd18 rfl) rfl (wz rfl) (hb hby d23_8) (fun _ _ => ⟨rfl, e2, (by decide : 2 + 3 ≤ _), (by decide : 20 + 10 ≤ _)⟩)
 dsimp only [Pt.U, Pt.locs, Pt.cells, Pt.slots] at X3 l3 y3 z3 st3 hQ3 hS3 gr3 hC3
 subst l3 y3 z3
 obtain ⟨X3, hS, hZ, hown⟩ := rebS hS hk X3 hS3 (by have q := gr3; rw [e2] at q; exact q) hZ hown
 replace hk : T3.heap.size ≤ T3.heap.size := Nat.le_refl _
 obtain ⟨o3, rfl, N3q, K3, A_o3_3', F_signum_o3_3', g_o3_3', sz_o3_3'⟩ := hQ3
 have N3 := Fr.app N2 N3q
 replace hR := hR.trans hC3
 replace T_a := T_a.keep K3 all0
 replace KP := KP.trans K3 all0
 replace Z0 := Nat.le_trans Z0 K3.1
 have A_o3 := A_o3_3'
 have F_signum_o3 := F_signum_o3_3'
 refine Gs (fun _ tk => st3.trans tk) ?_
 show Goes _ _ _ _ _ (fT T3 m 11 #[vr a] [(.ref o3)])
 refine cV X3 hx hZ hw hown hby hml rfl mN14 118 119 121 120 122 104 0 (rm_sgn l Z a0 hw [] o3 (own_sg (own_allz [d0]) (1 : Int32)) T3.heap n0 Z0 F_signum_o3) A_o3 d23_11 (lenOf own_pd11 rfl) N3 (fun T4 L4 X4 e4 N4 => ?_)
 show Goes _ _ _ _ _ (fT T4 m 14 #[vr a] [(.int (own_sg (own_allz [d0]) (1 : Int32)))])
 refine Goes.retH X4 hS e4 hk hZ (own_EW hw) hh hR (some (.int (own_sg (own_allz [d0]) (1 : Int32)))) (fun h => by rw [hret] at h; cases h) hlk (by decide) (by decide) ?_ (fun fs hr => ?_)
 ·rw [e4]; exact ⟨rfl, N4, KP⟩
 ·exact retI X4 hx hret (hb hby d23_14) hr
theorem d22_112 : DK kc18 112 (.aload_n 0) 1 := by decide +kernel
theorem d22_113 : DK kc18 113 (.invokevirtual 107) 3 := by decide +kernel
theorem d22_116 : DK kc18 116 (.iload_n 1) 1 := by decide +kernel
theorem d22_117 : DK kc18 117 .isub 1 := by decide +kernel
theorem d22_118 : DK kc18 118 (.iconst 1) 1 := by decide +kernel
theorem d22_119 : DK kc18 119 .isub 1 := by decide +kernel
theorem d22_120 : DK kc18 120 (.istore 6) 2 := by decide +kernel
theorem d22_122 : DK kc18 122 (.aload_n 0) 1 := by decide +kernel
theorem d22_123 : DK kc18 123 (.iload_n 1) 1 := by decide +kernel
theorem d22_124 : DK kc18 124 (.invokevirtual 110) 3 := by decide +kernel
theorem d22_127 : DK kc18 127 (.bipush 46) 2 := by decide +kernel
theorem d22_129 : DK kc18 129 (.if_icmp .ne 12) 3 := by decide +kernel
theorem d22_132 : DK kc18 132 (.iload 6) 2 := by decide +kernel
theorem d22_134 : DK kc18 134 (.ifCond .le 7) 3 := by decide +kernel
theorem d22_137 : DK kc18 137 (.iconst 1) 1 := by decide +kernel
theorem d22_138 : DK kc18 138 (.goto 4) 3 := by decide +kernel
theorem d22_142 : DK kc18 142 (.istore 5) 2 := by decide +kernel
theorem d22_144 : DK kc18 144 (.iinc 1 1) 3 := by decide +kernel
theorem d22_147 : DK kc18 147 (.iload 5) 2 := by decide +kernel
theorem d22_149 : DK kc18 149 (.ifCond .eq 45) 3 := by decide +kernel
theorem d22_152 : DK kc18 152 (.iload_n 1) 1 := by decide +kernel
theorem d22_153 : DK kc18 153 (.aload_n 0) 1 := by decide +kernel
theorem d22_154 : DK kc18 154 (.invokevirtual 107) 3 := by decide +kernel
theorem d22_157 : DK kc18 157 (.if_icmp .ge 37) 3 := by decide +kernel
theorem d22_160 : DK kc18 160 (.aload_n 0) 1 := by decide +kernel
theorem d22_161 : DK kc18 161 (.iload_n 1) 1 := by decide +kernel
theorem d22_162 : DK kc18 162 (.invokevirtual 110) 3 := by decide +kernel
theorem d22_165 : DK kc18 165 (.invokestatic 114) 3 := by decide +kernel
theorem d22_168 : DK kc18 168 (.istore 5) 2 := by decide +kernel
theorem d22_170 : DK kc18 170 (.iload_n 3) 1 := by decide +kernel
theorem d22_171 : DK kc18 171 (.aload_n 0) 1 := by decide +kernel
theorem d22_172 : DK kc18 172 (.iload_n 1) 1 := by decide +kernel
theorem d22_173 : DK kc18 173 (.invokevirtual 110) 3 := by decide +kernel
theorem d22_176 : DK kc18 176 (.bipush 48) 2 := by decide +kernel
theorem d22_178 : DK kc18 178 (.if_icmp .ne 7) 3 := by decide +kernel
theorem d22_186 : DK kc18 186 .iand 1 := by decide +kernel
theorem d22_187 : DK kc18 187 (.istore_n 3) 1 := by decide +kernel
theorem d22_188 : DK kc18 188 (.iinc 1 1) 3 := by decide +kernel
theorem d22_191 : DK kc18 191 (.goto (-44)) 3 := by decide +kernel
theorem d22_181 : DK kc18 181 (.iconst 1) 1 := by decide +kernel
theorem d22_182 : DK kc18 182 (.goto 4) 3 := by decide +kernel
theorem d22_185 : DK kc18 185 (.iconst 0) 1 := by decide +kernel
theorem own_ef_rm_cs011 (m : MethodId) (x0 : Addr) : entryFrame m #[(.ref x0)] 7 = mkF m 0 #[vr x0, vu, vu, vu, vu, vu, vu] [] := by first | (simp [entryFrame, mkF, argsToLocals, Value.category]; done) | rfl
def Q_rm_cs011 (Z : State) (a : Addr) (d0 : Int32) (f0 : Int32) (cz : Int32) (fo : Value) (h0 : Heap) (n0 : Nat) (v : Option Value) (h : Heap) (L : List Loc) : Prop := ∃ o : Addr, v = some (.ref o) ∧ Fr n0 L ∧ Keep h0 h [] ∧ Exa Z h o "com/example/modest_billing/modestbilling/Money$Shape" ∧ Fld Z h o "com/example/modest_billing/modestbilling/Money$Shape" "signum" "I" (.int (own_sg (own_allz [d0, f0]) (1 : Int32))) ∧ n0 ≤ o ∧ h0.size ≤ o
theorem rm_cs011 (l : Launch) (Z : State) (a0 : Array Value) (hw : HW a0 Z) (ws : List Jvm.Cond) (a : Addr) (d0 : Int32) (f0 : Int32) (cz : Int32) (fo : Value) (h0 : Heap) (n0 : Nat) (Z0 : n0 ≤ h0.size) (T_a : StrOf Z h0 a [d0, (46 : Int32), f0]) (hD_d0 : Dig d0) (hD_f0 : Dig f0) (sgC : Sta Z h0 "java/lang/String" "COMPACT_STRINGS" "Z" (.int cz)) (hcz : ¬ (cz = 0)) (sgF : Sta Z h0 "jdk/internal/util/Preconditions" "SIOOBE_FORMATTER" "Ljava/util/function/BiFunction;" fo) (r_fo : fo.isRef = true) :
  MetH l Z mN22 prog_29_method_8_code 7 (some (.object "com/example/modest_billing/modestbilling/Money$Shape")) ({ frames := 4, cells := 3, slots := 10, locals := 59 } : Room) ws #[(.ref a)] h0 (Q_rm_cs011 Z a d0 f0 cz fo h0 n0) := by
 refine own_metH (plainFor_of_name own_pn8) ?_
 intro p e s m below meth c s₁ hret hx hby hlk hml hown hnm X0 e0 hZ hh hC0
 have N0 := Fr.nil n0
 have hS : s.Since s.vm h0.size := (State.WarmedH.refl s).since _
 have hk : h0.size ≤ h0.size := Nat.le_refl _
 replace hZ : Z.Warmed39 (s.setVm s.vm).vm := hZ
 have hR : CHr Z consts_1 s.vm h0 s.vm h0 := CHr.refl hC0
 refine Gz (castTop (own_ef_rm_cs011 m a)) ?_
 have KP : Keep h0 h0 [] := Keep.refl _ _
 show Goes _ _ _ _ _ (fT s₁ m 0 #[vr a, vu, vu, vu, vu, vu, vu] [])
 refine gA X0 hx hby d22_0 rfl rfl rfl ?_
 obtain ⟨c1, T1, h1, kk1, cb1, kc1, X1, e1, E1, hS, hk1, hZ, hown, A_c1, F_coder_c1, F_value_c1, V_cb1, -, -, hC1, hL1, hsf1, st1⟩ := ldcCH X0 hx hZ hown (gw hw 51 rfl) (own_strW hw) e0 hS hk (own_EW hw) (List.mem_of_getElem? (i := 1) rfl) hR.1 (vs := [(.int 45)]) (z := (1 : Int32)) ⟨by first | decide | rfl, by first | decide | rfl⟩ (by decide) (by decide) (g := (mkF m 1 #[vr a, vu, vu, vu, vu, vu, vu] [(.ref a)])) rfl (hb hby d22_1) (n := 4) (by decide) (by decide) (by decide) (by decide)
 replace T_a := T_a.ext E1
 replace sgC := sgC.ext E1
 replace sgF := sgF.ext E1
 replace KP := KP.ext E1
 replace hR := hR.trans hC1
 replace Z0 : n0 ≤ h1.size := Nat.le_trans Z0 E1.1
 replace hk := hk1
 refine Gs st1 ?_
 show Goes _ _ _ _ _ (fT T1 m 3 #[vr a, vu, vu, vu, vu, vu, vu] [(.ref c1), (.ref a)])
 have T_c1 : StrOf Z h1 c1 [(45 : Int32)] := StrOf.latin A_c1 F_value_c1 F_coder_c1 V_cb1 (by intro c hc; rw [List.mem_singleton.mp hc]; exact own_lat45) rfl rfl (Nat.le_of_ble_eq_true rfl)
 refine cV X1 hx hZ hw hown hby hml e1 mN21 52 53 55 54 56 9 0 (rm_sw10 l Z a0 hw [] a c1 [d0, (46 : Int32), f0] d0 cz h1 n0 Z0 T_a T_c1 (own_il 0 _ (by decide) (by simp) T_a.len) rfl hD_d0 sgC hcz) T_a.exa d22_3 (lenOf own_pd14 rfl) N0 (fun T2 L2 X2 e2 N2 => ?_)
 show Goes _ _ _ _ _ (fT T2 m 6 #[vr a, vu, vu, vu, vu, vu, vu] [(.int 0)])
 refine gy X2 hx hby d22_6 6 13 ((if0 _ _).trans (teq (by decide : ((0 : Int32) = (0 : Int32)))).1) ?_
 refine gC X2 hx hby d22_13 ?_
 refine gs X2 hx hby d22_14 #[vr a, vi 0, vu, vu, vu, vu, vu] ?_
 refine gN X2 hx hby d22_15 rfl rfl ?_
 refine gs X2 hx hby d22_16 #[vr a, vi 0, vi 0, vu, vu, vu, vu] ?_
 refine gC X2 hx hby d22_17 ?_
 show Goes _ _ _ _ _ (fT T2 m 18 #[vr a, vi 0, vi 0, vu, vu, vu, vu] [(.int 1)])
 refine gs X2 hx hby d22_18 #[vr a, vi 0, vi 0, vi 1, vu, vu, vu] ?_
 refine gN X2 hx hby d22_19 rfl rfl ?_
 refine gA X2 hx hby d22_20 rfl rfl rfl ?_
 refine cV X2 hx hZ hw hown hby hml e2 mN2 76 63 65 64 66 9 1 (rs_len l Z a0 hw [] a [d0, (46 : Int32), f0] cz h1 n0 Z0 T_a sgC hcz) T_a.exa d22_21 (lenOf own_pd11 rfl) N2 (fun T3 L3 X3 e3 N3 => ?_)
 show Goes _ _ _ _ _ (fT T3 m 24 #[vr a, vi 0, vi 0, vi 1, vu, vu, vu] [(.int 3), (.int 0)])
 refine gU X3 hx hby d22_24 (tlt (by decide : ((0 : Int32) < (3 : Int32)))).2.1 ?_
 refine gA X3 hx hby d22_27 rfl rfl rfl ?_
 refine gN X3 hx hby d22_28 rfl rfl ?_
 refine cV X3 hx hZ hw hown hby hml e3 mN6 77 78 80 79 81 9 0 (rs_chr l Z a0 hw [] a [d0, (46 : Int32), f0] (0 : Int32) d0 cz fo h1 n0 Z0 T_a sgC hcz (by first | assumption | decide) (own_il 0 _ (by decide) (by simp) T_a.len) rfl sgF r_fo) T_a.exa d22_29 (lenOf own_pd15 rfl) N3 (fun T4 L4 X4 e4 N4 => ?_)
 show Goes _ _ _ _ _ (fT T4 m 32 #[vr a, vi 0, vi 0, vi 1, vu, vu, vu] [(.int d0)])
 refine cS X4 hx hZ hw hown hby hml e4 mN17 99 100 101 39 0 (rm_isd l Z a0 hw [] d0 h1 n0 Z0 (own_n48 hD_d0).1 (own_n48 hD_d0).2) d22_32 (lenOf own_pd16 rfl) N4 (fun T5 L5 X5 e5 N5 => ?_)
 show Goes _ _ _ _ _ (fT T5 m 35 #[vr a, vi 0, vi 0, vi 1, vu, vu, vu] [(.int 1)])
 refine gu X5 hx hby d22_35 ((if0 _ _).trans (feq (by decide : ¬ ((1 : Int32) = (0 : Int32)))).1) ?_
 refine gN X5 hx hby d22_38 rfl rfl ?_
 refine gA X5 hx hby d22_39 rfl rfl rfl ?_
 refine gN X5 hx hby d22_40 rfl rfl ?_
 refine cV X5 hx hZ hw hown hby hml e5 mN6 77 78 80 79 81 9 1 (rs_chr l Z a0 hw [] a [d0, (46 : Int32), f0] (0 : Int32) d0 cz fo h1 n0 Z0 T_a sgC hcz (by first | assumption | decide) (own_il 0 _ (by decide) (by simp) T_a.len) rfl sgF r_fo) T_a.exa d22_41 (lenOf own_pd15 rfl) N5 (fun T6 L6 X6 e6 N6 => ?_)
 show Goes _ _ _ _ _ (fT T6 m 44 #[vr a, vi 0, vi 0, vi 1, vu, vu, vu] [(.int d0), (.int 1)])
 refine gB X6 hx hby d22_44 ?_
 show Goes _ _ _ _ _ (fT T6 m 46 #[vr a, vi 0, vi 0, vi 1, vu, vu, vu] [(.int 48), (.int d0), (.int 1)])
 refine own_join (B := T6.setTop (mkF m 54 #[vr a, vi 0, vi 0, vi 1, vu, vu, vu] [(.int (own_z d0)), (.int 1)])) ?_ ?_
 ·show Goes _ _ _ _ _ (fT T6 m 54 #[vr a, vi 0, vi 0, vi 1, vu, vu, vu] [(.int (own_z d0)), (.int 1)])
  refine Gz (XS.iand X6.here hx rfl (hb hby d22_54) rfl) ?_
  show Goes _ _ _ _ _ (fT T6 m 55 #[vr a, vi 0, vi 0, vi 1, vu, vu, vu] [(.int ((1 : Int32) &&& (own_z d0)))])
  refine gs X6 hx hby d22_55 #[vr a, vi 0, vi 0, vi ((1 : Int32) &&& (own_z d0)), vu, vu, vu] ?_
  show Goes _ _ _ _ _ (fT T6 m 56 #[vr a, vi 0, vi 0, vi ((1 : Int32) &&& (own_z d0)), vu, vu, vu] [])
  refine Gz (XS.iinc X6.here hx rfl (hb hby d22_56) rfl (l' := #[vr a, vi ((0 : Int32) + (1 : Int32)), vi 0, vi ((1 : Int32) &&& (own_z d0)), vu, vu, vu]) rfl) ?_
  show Goes _ _ _ _ _ (fT T6 m 59 #[vr a, vi 1, vi 0, vi ((1 : Int32) &&& (own_z d0)), vu, vu, vu] [])
  refine gG X6 hx hby d22_59 59 19 ?_
  refine gN X6 hx hby d22_19 rfl rfl ?_
  refine gA X6 hx hby d22_20 rfl rfl rfl ?_
  refine cV X6 hx hZ hw hown hby hml e6 mN2 76 63 65 64 66 9 1 (rs_len l Z a0 hw [] a [d0, (46 : Int32), f0] cz h1 n0 Z0 T_a sgC hcz) T_a.exa d22_21 (lenOf own_pd11 rfl) N6 (fun T8 L8 X8 e8 N8 => ?_)
  show Goes _ _ _ _ _ (fT T8 m 24 #[vr a, vi 1, vi 0, vi ((1 : Int32) &&& (own_z d0)), vu, vu, vu] [(.int 3), (.int 1)])
  refine gU X8 hx hby d22_24 (tlt (by decide : ((1 : Int32) < (3 : Int32)))).2.1 ?_
  refine gA X8 hx hby d22_27 rfl rfl rfl ?_
  refine gN X8 hx hby d22_28 rfl rfl ?_
  refine cV X8 hx hZ hw hown hby hml e8 mN6 77 78 80 79 81 9 0 (rs_chr l Z a0 hw [] a [d0, (46 : Int32), f0] (1 : Int32) (46 : Int32) cz fo h1 n0 Z0 T_a sgC hcz (by first | assumption | decide) (own_il 1 _ (by decide) (by simp) T_a.len) rfl sgF r_fo) T_a.exa d22_29 (lenOf own_pd15 rfl) N8 (fun T9 L9 X9 e9 N9 => ?_)
  show Goes _ _ _ _ _ (fT T9 m 32 #[vr a, vi 1, vi 0, vi ((1 : Int32) &&& (own_z d0)), vu, vu, vu] [(.int 46)])
  refine cS X9 hx hZ hw hown hby hml e9 mN17 99 100 101 39 0 (rm_isn l Z a0 hw []  h1 n0 Z0) d22_32 (lenOf own_pd16 rfl) N9 (fun T10 L10 X10 e10 N10 => ?_)
  show Goes _ _ _ _ _ (fT T10 m 35 #[vr a, vi 1, vi 0, vi ((1 : Int32) &&& (own_z d0)), vu, vu, vu] [(.int 0)])
  refine gy X10 hx hby d22_35 35 62 ((if0 _ _).trans (teq (by decide : ((0 : Int32) = (0 : Int32)))).1) ?_
  refine gN X10 hx hby d22_62 rfl rfl ?_
  refine gN X10 hx hby d22_63 rfl rfl ?_
  show Goes _ _ _ _ _ (fT T10 m 64 #[vr a, vi 1, vi 0, vi ((1 : Int32) &&& (own_z d0)), vu, vu, vu] [(.int 0), (.int 1)])
  refine Gz (XS.isub X10.here hx rfl (hb hby d22_64) rfl) ?_
  show Goes _ _ _ _ _ (fT T10 m 65 #[vr a, vi 1, vi 0, vi ((1 : Int32) &&& (own_z d0)), vu, vu, vu] [(.int 1)])
  refine gS X10 hx hby d22_65 #[vr a, vi 1, vi 0, vi ((1 : Int32) &&& (own_z d0)), vi 1, vu, vu] ?_
  refine gI X10 hx hby d22_67 rfl rfl ?_
  refine gC X10 hx hby d22_69 ?_
  refine gY X10 hx hby d22_70 70 89 (teq (by decide : ((1 : Int32) = (1 : Int32)))).1 ?_
  refine gC X10 hx hby d22_89 ?_
  refine gG X10 hx hby d22_90 90 94 ?_
  show Goes _ _ _ _ _ (fT T10 m 94 #[vr a, vi 1, vi 0, vi ((1 : Int32) &&& (own_z d0)), vi 1, vu, vu] [(.int 1)])
  refine gS X10 hx hby d22_94 #[vr a, vi 1, vi 0, vi ((1 : Int32) &&& (own_z d0)), vi 1, vi 1, vu] ?_
  refine gC X10 hx hby d22_96 ?_
  refine gS X10 hx hby d22_97 #[vr a, vi 1, vi 0, vi ((1 : Int32) &&& (own_z d0)), vi 1, vi 1, vi 0] ?_
  refine gI X10 hx hby d22_99 rfl rfl ?_
  refine gu X10 hx hby d22_101 ((if0 _ _).trans (feq (by decide : ¬ ((1 : Int32) = (0 : Int32)))).1) ?_
  refine gN X10 hx hby d22_104 rfl rfl ?_
  show Goes _ _ _ _ _ (fT T10 m 105 #[vr a, vi 1, vi 0, vi ((1 : Int32) &&& (own_z d0)), vi 1, vi 1, vi 0] [(.int 1)])
  refine gA X10 hx hby d22_105 rfl rfl rfl ?_
  refine cV X10 hx hZ hw hown hby hml e10 mN2 76 63 65 64 66 9 1 (rs_len l Z a0 hw [] a [d0, (46 : Int32), f0] cz h1 n0 Z0 T_a sgC hcz) T_a.exa d22_106 (lenOf own_pd11 rfl) N10 (fun T11 L11 X11 e11 N11 => ?_)
  show Goes _ _ _ _ _ (fT T11 m 109 #[vr a, vi 1, vi 0, vi ((1 : Int32) &&& (own_z d0)), vi 1, vi 1, vi 0] [(.int 3), (.int 1)])
  refine gU X11 hx hby d22_109 (tlt (by decide : ((1 : Int32) < (3 : Int32)))).2.1 ?_
  refine gA X11 hx hby d22_112 rfl rfl rfl ?_
  refine cV X11 hx hZ hw hown hby hml e11 mN2 76 63 65 64 66 9 0 (rs_len l Z a0 hw [] a [d0, (46 : Int32), f0] cz h1 n0 Z0 T_a sgC hcz) T_a.exa d22_113 (lenOf own_pd11 rfl) N11 (fun T12 L12 X12 e12 N12 => ?_)
  show Goes _ _ _ _ _ (fT T12 m 116 #[vr a, vi 1, vi 0, vi ((1 : Int32) &&& (own_z d0)), vi 1, vi 1, vi 0] [(.int 3)])
  refine gN X12 hx hby d22_116 rfl rfl ?_
  show Goes _ _ _ _ _ (fT T12 m 117 #[vr a, vi 1, vi 0, vi ((1 : Int32) &&& (own_z d0)), vi 1, vi 1, vi 0] [(.int 1), (.int 3)])
  refine Gz (XS.isub X12.here hx rfl (hb hby d22_117) rfl) ?_
  show Goes _ _ _ _ _ (fT T12 m 118 #[vr a, vi 1, vi 0, vi ((1 : Int32) &&& (own_z d0)), vi 1, vi 1, vi 0] [(.int 2)])
  refine gC X12 hx hby d22_118 ?_
  show Goes _ _ _ _ _ (fT T12 m 119 #[vr a, vi 1, vi 0, vi ((1 : Int32) &&& (own_z d0)), vi 1, vi 1, vi 0] [(.int 1), (.int 2)])
  refine Gz (XS.isub X12.here hx rfl (hb hby d22_119) rfl) ?_
  show Goes _ _ _ _ _ (fT T12 m 120 #[vr a, vi 1, vi 0, vi ((1 : Int32) &&& (own_z d0)), vi 1, vi 1, vi 0] [(.int 1)])
  refine gS X12 hx hby d22_120 #[vr a, vi 1, vi 0, vi ((1 : Int32) &&& (own_z d0)), vi 1, vi 1, vi 1] ?_
  refine gA X12 hx hby d22_122 rfl rfl rfl ?_
  refine gN X12 hx hby d22_123 rfl rfl ?_
  refine cV X12 hx hZ hw hown hby hml e12 mN6 77 78 80 79 81 9 0 (rs_chr l Z a0 hw [] a [d0, (46 : Int32), f0] (1 : Int32) (46 : Int32) cz fo h1 n0 Z0 T_a sgC hcz (by first | assumption | decide) (own_il 1 _ (by decide) (by simp) T_a.len) rfl sgF r_fo) T_a.exa d22_124 (lenOf own_pd15 rfl) N12 (fun T13 L13 X13 e13 N13 => ?_)
  show Goes _ _ _ _ _ (fT T13 m 127 #[vr a, vi 1, vi 0, vi ((1 : Int32) &&& (own_z d0)), vi 1, vi 1, vi 1] [(.int 46)])
  refine gB X13 hx hby d22_127 ?_
  refine gU X13 hx hby d22_129 (teq (by decide : ((46 : Int32) = (46 : Int32)))).2 ?_
  refine gI X13 hx hby d22_132 rfl rfl ?_
  refine gu X13 hx hby d22_134 ((if0 _ _).trans (tlt (by decide : ((0 : Int32) < (1 : Int32)))).2.2.2) ?_
  refine gC X13 hx hby d22_137 ?_
  refine gG X13 hx hby d22_138 138 142 ?_
  show Goes _ _ _ _ _ (fT T13 m 142 #[vr a, vi 1, vi 0, vi ((1 : Int32) &&& (own_z d0)), vi 1, vi 1, vi 1] [(.int 1)])
  refine gS X13 hx hby d22_142 #[vr a, vi 1, vi 0, vi ((1 : Int32) &&& (own_z d0)), vi 1, vi 1, vi 1] ?_
  show Goes _ _ _ _ _ (fT T13 m 144 #[vr a, vi 1, vi 0, vi ((1 : Int32) &&& (own_z d0)), vi 1, vi 1, vi 1] [])
  refine Gz (XS.iinc X13.here hx rfl (hb hby d22_144) rfl (l' := #[vr a, vi ((1 : Int32) + (1 : Int32)), vi 0, vi ((1 : Int32) &&& (own_z d0)), vi 1, vi 1, vi 1]) rfl) ?_
  show Goes _ _ _ _ _ (fT T13 m 147 #[vr a, vi 2, vi 0, vi ((1 : Int32) &&& (own_z d0)), vi 1, vi 1, vi 1] [])
  refine gI X13 hx hby d22_147 rfl rfl ?_
  refine gu X13 hx hby d22_149 ((if0 _ _).trans (feq (by decide : ¬ ((1 : Int32) = (0 : Int32)))).1) ?_
  refine gN X13 hx hby d22_152 rfl rfl ?_
  refine gA X13 hx hby d22_153 rfl rfl rfl ?_
  refine cV X13 hx hZ hw hown hby hml e13 mN2 76 63 65 64 66 9 1 (rs_len l Z a0 hw [] a [d0, (46 : Int32), f0] cz h1 n0 Z0 T_a sgC hcz) T_a.exa d22_154 (lenOf own_pd11 rfl) N13 (fun T14 L14 X14 e14 N14 => ?_)
  show Goes _ _ _ _ _ (fT T14 m 157 #[vr a, vi 2, vi 0, vi ((1 : Int32) &&& (own_z d0)), vi 1, vi 1, vi 1] [(.int 3), (.int 2)])
  refine gU X14 hx hby d22_157 (tlt (by decide : ((2 : Int32) < (3 : Int32)))).2.1 ?_
  refine gA X14 hx hby d22_160 rfl rfl rfl ?_
  refine gN X14 hx hby d22_161 rfl rfl ?_
  refine cV X14 hx hZ hw hown hby hml e14 mN6 77 78 80 79 81 9 0 (rs_chr l Z a0 hw [] a [d0, (46 : Int32), f0] (2 : Int32) f0 cz fo h1 n0 Z0 T_a sgC hcz (by first | assumption | decide) (own_il 2 _ (by decide) (by simp) T_a.len) rfl sgF r_fo) T_a.exa d22_162 (lenOf own_pd15 rfl) N14 (fun T15 L15 X15 e15 N15 => ?_)
  show Goes _ _ _ _ _ (fT T15 m 165 #[vr a, vi 2, vi 0, vi ((1 : Int32) &&& (own_z d0)), vi 1, vi 1, vi 1] [(.int f0)])
  refine cS X15 hx hZ hw hown hby hml e15 mN17 99 100 101 39 0 (rm_isd l Z a0 hw [] f0 h1 n0 Z0 (own_n48 hD_f0).1 (own_n48 hD_f0).2) d22_165 (lenOf own_pd16 rfl) N15 (fun T16 L16 X16 e16 N16 => ?_)
  show Goes _ _ _ _ _ (fT T16 m 168 #[vr a, vi 2, vi 0, vi ((1 : Int32) &&& (own_z d0)), vi 1, vi 1, vi 1] [(.int 1)])
  refine gS X16 hx hby d22_168 #[vr a, vi 2, vi 0, vi ((1 : Int32) &&& (own_z d0)), vi 1, vi 1, vi 1] ?_
  refine gN X16 hx hby d22_170 rfl rfl ?_
  refine gA X16 hx hby d22_171 rfl rfl rfl ?_
  refine gN X16 hx hby d22_172 rfl rfl ?_
  refine cV X16 hx hZ hw hown hby hml e16 mN6 77 78 80 79 81 9 1 (rs_chr l Z a0 hw [] a [d0, (46 : Int32), f0] (2 : Int32) f0 cz fo h1 n0 Z0 T_a sgC hcz (by first | assumption | decide) (own_il 2 _ (by decide) (by simp) T_a.len) rfl sgF r_fo) T_a.exa d22_173 (lenOf own_pd15 rfl) N16 (fun T17 L17 X17 e17 N17 => ?_)
  show Goes _ _ _ _ _ (fT T17 m 176 #[vr a, vi 2, vi 0, vi ((1 : Int32) &&& (own_z d0)), vi 1, vi 1, vi 1] [(.int f0), (.int ((1 : Int32) &&& (own_z d0)))])
  refine gB X17 hx hby d22_176 ?_
  show Goes _ _ _ _ _ (fT T17 m 178 #[vr a, vi 2, vi 0, vi ((1 : Int32) &&& (own_z d0)), vi 1, vi 1, vi 1] [(.int 48), (.int f0), (.int ((1 : Int32) &&& (own_z d0)))])
  refine own_join (B := T17.setTop (mkF m 186 #[vr a, vi 2, vi 0, vi ((1 : Int32) &&& (own_z d0)), vi 1, vi 1, vi 1] [(.int (own_z f0)), (.int ((1 : Int32) &&& (own_z d0)))])) ?_ ?_
  ·show Goes _ _ _ _ _ (fT T17 m 186 #[vr a, vi 2, vi 0, vi ((1 : Int32) &&& (own_z d0)), vi 1, vi 1, vi 1] [(.int (own_z f0)), (.int ((1 : Int32) &&& (own_z d0)))])
   refine Gz (XS.iand X17.here hx rfl (hb hby d22_186) rfl) ?_
   show Goes _ _ _ _ _ (fT T17 m 187 #[vr a, vi 2, vi 0, vi ((1 : Int32) &&& (own_z d0)), vi 1, vi 1, vi 1] [(.int (((1 : Int32) &&& (own_z d0)) &&& (own_z f0)))])
   refine gs X17 hx hby d22_187 #[vr a, vi 2, vi 0, vi (((1 : Int32) &&& (own_z d0)) &&& (own_z f0)), vi 1, vi 1, vi 1] ?_
   show Goes _ _ _ _ _ (fT T17 m 188 #[vr a, vi 2, vi 0, vi (((1 : Int32) &&& (own_z d0)) &&& (own_z f0)), vi 1, vi 1, vi 1] [])
   refine Gz (XS.iinc X17.here hx rfl (hb hby d22_188) rfl (l' := #[vr a, vi ((2 : Int32) + (1 : Int32)), vi 0, vi (((1 : Int32) &&& (own_z d0)) &&& (own_z f0)), vi 1, vi 1, vi 1]) rfl) ?_
   show Goes _ _ _ _ _ (fT T17 m 191 #[vr a, vi 3, vi 0, vi (((1 : Int32) &&& (own_z d0)) &&& (own_z f0)), vi 1, vi 1, vi 1] [])
   refine gG X17 hx hby d22_191 191 147 ?_
   refine gI X17 hx hby d22_147 rfl rfl ?_
   refine gu X17 hx hby d22_149 ((if0 _ _).trans (feq (by decide : ¬ ((1 : Int32) = (0 : Int32)))).1) ?_
   refine gN X17 hx hby d22_152 rfl rfl ?_
   refine gA X17 hx hby d22_153 rfl rfl rfl ?_
   refine cV X17 hx hZ hw hown hby hml e17 mN2 76 63 65 64 66 9 1 (rs_len l Z a0 hw [] a [d0, (46 : Int32), f0] cz h1 n0 Z0 T_a sgC hcz) T_a.exa d22_154 (lenOf own_pd11 rfl) N17 (fun T19 L19 X19 e19 N19 => ?_)
   show Goes _ _ _ _ _ (fT T19 m 157 #[vr a, vi 3, vi 0, vi (((1 : Int32) &&& (own_z d0)) &&& (own_z f0)), vi 1, vi 1, vi 1] [(.int 3), (.int 3)])
   refine gY X19 hx hby d22_157 157 194 (flt (by decide : ¬ ((3 : Int32) < (3 : Int32)))).2.1 ?_
   refine gI X19 hx hby d22_194 rfl rfl ?_
   refine gy X19 hx hby d22_196 196 213 ((if0 _ _).trans (feq (by decide : ¬ ((1 : Int32) = (0 : Int32)))).2) ?_
   obtain ⟨T20, h20, X20, e20, E20, A20, D20, -, st20⟩ := newO X19 hx hZ hown (gw hw 102 rfl) (gw hw 103 rfl) (gw hw 104 rfl) e19 (g := (mkF m 213 #[vr a, vi 3, vi 0, vi (((1 : Int32) &&& (own_z d0)) &&& (own_z f0)), vi 1, vi 1, vi 1] [])) rfl (hb hby d22_213) (by decide) (by decide)
   obtain ⟨b20, gq20⟩ : ∃ z, z = h1.size := ⟨_, rfl⟩
   rw [← gq20] at A20 st20 D20
   have g_b20 : n0 ≤ b20 := by rw [gq20]; exact Z0
   have sz_b20 : h0.size ≤ b20 := by rw [gq20]; exact KP.1
   have ne_a_b20 : a ≠ b20 := by rw [gq20]; exact Nat.ne_of_lt T_a.lt
   have ne_c1_b20 : c1 ≠ b20 := by rw [gq20]; exact Nat.ne_of_lt A_c1.lt
   have ne_cb1_b20 : cb1 ≠ b20 := by rw [gq20]; exact Nat.ne_of_lt V_cb1.lt
   have Sf_b20 : Safe Z consts_1 T1.vm h1 b20 := Safe.new (Nat.le_of_eq gq20.symm)
   replace Sf_b20 := Safe.ext E20 hR.1 Sf_b20
   replace hR := hR.trans (CHr.ext E20 hR.1)
   replace T_a := T_a.ext E20
   replace T_c1 := T_c1.ext E20
   replace KP := KP.ext E20
   replace Z0 : n0 ≤ h20.size := Nat.le_trans Z0 E20.1
   replace hk := Nat.le_trans hk E20.1
   have A_b20 : Exa Z h20 b20 "com/example/modest_billing/modestbilling/Money$Shape" := A20
   have F_signum_b20 : Fld Z h20 b20 "com/example/modest_billing/modestbilling/Money$Shape" "signum" "I" (.int 0) := D20 (Or.inr (gw hw 115 rfl)) (ty := .int) (by decide)
   have F_fractionDigits_b20 : Fld Z h20 b20 "com/example/modest_billing/modestbilling/Money$Shape" "fractionDigits" "I" (.int 0) := D20 (Or.inr (gw hw 117 rfl)) (ty := .int) (by decide)
   refine Gs st20 ?_
   show Goes _ _ _ _ _ (fT T20 m 216 #[vr a, vi 3, vi 0, vi (((1 : Int32) &&& (own_z d0)) &&& (own_z f0)), vi 1, vi 1, vi 1] [(.ref b20)])
   refine Gz (XS.dup X20.here hx rfl (hb hby d22_216) rfl rfl) ?_
   refine gN X20 hx hby d22_217 rfl rfl ?_
   show Goes _ _ _ _ _ (fT T20 m 218 #[vr a, vi 3, vi 0, vi (((1 : Int32) &&& (own_z d0)) &&& (own_z f0)), vi 1, vi 1, vi 1] [(.int (((1 : Int32) &&& (own_z d0)) &&& (own_z f0))), (.ref b20), (.ref b20)])
   refine own_join (B := T20.setTop (mkF m 234 #[vr a, vi 3, vi 0, vi (((1 : Int32) &&& (own_z d0)) &&& (own_z f0)), vi 1, vi 1, vi 1] [(.int (own_sg (own_allz [d0, f0]) (1 : Int32))), (.ref b20), (.ref b20)])) ?_ ?_
   ·show Goes _ _ _ _ _ (fT T20 m 234 #[vr a, vi 3, vi 0, vi (((1 : Int32) &&& (own_z d0)) &&& (own_z f0)), vi 1, vi 1, vi 1] [(.int (own_sg (own_allz [d0, f0]) (1 : Int32))), (.ref b20), (.ref b20)])
    refine gI X20 hx hby d22_234 rfl rfl ?_
    obtain ⟨_, _, ⟨T22, L22, k22, n22⟩, -, X22, ⟨Lc22, hQ22, l22, y22, z22⟩, st22⟩ := own_specialRef X20 hx hZ (y := mN13) rfl hown (gw hw 105 rfl) (gw hw 106 rfl) (gw hw 107 rfl) (by decide) (backOf (W := 1) (rm_shi l Z a0 hw [] b20 (own_sg (own_allz [d0, f0]) (1 : Int32)) (1 : Int32) h20 n0 Z0 A_b20 F_signum_b20 F_fractionDigits_b20 g_b20) hZ (gw hw 107 rfl) (gw hw 104 rfl) (by decide) (by decide)) (g := (mkF m 236 #[vr a, vi 3, vi 0, vi (((1 : Int32) &&& (own_z d0)) &&& (own_z f0)), vi 1, vi 1, vi 1] [(.int 1), (.int (own_sg (own_allz [d0, f0]) (1 : Int32))), (.ref b20), (.ref b20)])) rfl hml.symm (Steps.refl _) (a := b20) (argsL := [(.int (own_sg (own_allz [d0, f0]) (1 : Int32))), (.int 1)]) (rest := [(.ref b20)]) (lenOf own_pd2 rfl) rfl (wz rfl) (hb hby d22_236) (fun _ _ => ⟨rfl, e20, (by decide : 3 + 0 ≤ _), (by decide : 10 + 0 ≤ _)⟩)
    dsimp only [Pt.U, Pt.locs, Pt.cells, Pt.slots] at X22 l22 y22 z22 st22 hQ22
    subst l22 y22 z22
    obtain ⟨rfl, N22q, K22, F_signum_b20_22'⟩ := hQ22
    have N22 := Fr.app N19 N22q
    replace hR := hR.trans (CHr.keep K22 (allS Sf_b20 all0) hR.1)
    replace T_a := T_a.keep K22 (allS ⟨(Ne.symm ne_a_b20), (own_nbE A_b20 (gw hw 103 rfl))⟩ all0)
    replace T_c1 := T_c1.keep K22 (allS ⟨(Ne.symm ne_c1_b20), (own_nbE A_b20 (gw hw 103 rfl))⟩ all0)
    replace A_b20 := A_b20.keep K22
    replace KP := KP.trans K22 (allS (Or.inr sz_b20) all0)
    replace Z0 := Nat.le_trans Z0 K22.1
    replace hk := Nat.le_trans hk K22.1
    have F_signum_b20 := F_signum_b20_22'
    refine Gs (fun _ tk => st22.trans tk) ?_
    show Goes _ _ _ _ _ (fT T22 m 239 #[vr a, vi 3, vi 0, vi (((1 : Int32) &&& (own_z d0)) &&& (own_z f0)), vi 1, vi 1, vi 1] [(.ref b20)])
    refine Goes.retH X22 hS rfl hk hZ (own_EW hw) hh hR (some (.ref b20)) (fun h => by rw [hret] at h; cases h) hlk (by decide) (by decide) ?_ (fun fs hr => ?_)
    ·exact ⟨b20, rfl, N22, KP, A_b20, F_signum_b20, g_b20, sz_b20⟩
    ·exact own_retA X22 hx hret rfl rfl (hb hby d22_239) hr
   intro J234_21
   by_cases hc218_23 : (((1 : Int32) &&& (own_z d0)) &&& (own_z f0)) = 0
   ·refine gy X20 hx hby d22_218 218 225 ((if0 _ _).trans (teq hc218_23).1) ?_
    refine gN X20 hx hby d22_225 rfl rfl ?_
    refine gu X20 hx hby d22_226 ((if0 _ _).trans (teq (by decide : ((0 : Int32) = (0 : Int32)))).2) ?_
    refine gC X20 hx hby d22_229 ?_
    refine gG X20 hx hby d22_230 230 234 ?_
    rw [show (own_sg (own_allz [d0, f0]) (1 : Int32)) = 1 from by rw [← own_F2, own_sg, if_pos hc218_23]] at J234_21
    exact J234_21
   ·refine gu X20 hx hby d22_218 ((if0 _ _).trans (feq hc218_23).1) ?_
    refine gC X20 hx hby d22_221 ?_
    refine gG X20 hx hby d22_222 222 234 ?_
    rw [show (own_sg (own_allz [d0, f0]) (1 : Int32)) = 0 from by rw [← own_F2, own_sg, if_neg hc218_23]] at J234_21
    exact J234_21
  intro J186_18
  by_cases hc178_24 : f0 = 48
  ·refine gU X17 hx hby d22_178 (teq hc178_24).2 ?_
   refine gC X17 hx hby d22_181 ?_
   refine gG X17 hx hby d22_182 182 186 ?_
   rw [show (own_z f0) = 1 from by rw [own_z, if_pos hc178_24]] at J186_18
   exact J186_18
  ·refine gY X17 hx hby d22_178 178 185 (feq hc178_24).2 ?_
   refine gC X17 hx hby d22_185 ?_
   rw [show (own_z f0) = 0 from by rw [own_z, if_neg hc178_24]] at J186_18
   exact J186_18
 intro J54_7
 by_cases hc46_25 : d0 = 48
 ·refine gU X6 hx hby d22_46 (teq hc46_25).2 ?_
  refine gC X6 hx hby d22_49 ?_
  refine gG X6 hx hby d22_50 50 54 ?_
  rw [show (own_z d0) = 1 from by rw [own_z, if_pos hc46_25]] at J54_7
  exact J54_7
 ·refine gY X6 hx hby d22_46 46 53 (feq hc46_25).2 ?_
  refine gC X6 hx hby d22_53 ?_
  rw [show (own_z d0) = 0 from by rw [own_z, if_neg hc46_25]] at J54_7
  exact J54_7
theorem own_ef_rm_so011 (m : MethodId) (x0 : Addr) : entryFrame m #[(.ref x0)] 1 = mkF m 0 #[vr x0] [] := by first | (simp [entryFrame, mkF, argsToLocals, Value.category]; done) | rfl
def Q_rm_so011 (Z : State) (a : Addr) (d0 : Int32) (f0 : Int32) (cz : Int32) (fo : Value) (h0 : Heap) (n0 : Nat) (v : Option Value) (h : Heap) (L : List Loc) : Prop := v = some (.int (own_sg (own_allz [d0, f0]) (1 : Int32))) ∧ Fr n0 L ∧ Keep h0 h []
theorem rm_so011 (l : Launch) (Z : State) (a0 : Array Value) (hw : HW a0 Z) (ws : List Jvm.Cond) (a : Addr) (d0 : Int32) (f0 : Int32) (cz : Int32) (fo : Value) (h0 : Heap) (n0 : Nat) (Z0 : n0 ≤ h0.size) (T_a : StrOf Z h0 a [d0, (46 : Int32), f0]) (hD_d0 : Dig d0) (hD_f0 : Dig f0) (sgC : Sta Z h0 "java/lang/String" "COMPACT_STRINGS" "Z" (.int cz)) (hcz : ¬ (cz = 0)) (sgF : Sta Z h0 "jdk/internal/util/Preconditions" "SIOOBE_FORMATTER" "Ljava/util/function/BiFunction;" fo) (r_fo : fo.isRef = true) :
  MetH l Z mN23 prog_29_method_6_code 1 (some .int) ({ frames := 5, cells := 5, slots := 30, locals := 77 } : Room) ws #[(.ref a)] h0 (Q_rm_so011 Z a d0 f0 cz fo h0 n0) := by
 refine own_metH (plainFor_of_name own_pn8) ?_
 intro p e s m below meth c s₁ hret hx hby hlk hml hown hnm X0 e0 hZ hh hC0
 have N0 := Fr.nil n0
 have hS : s.Since s.vm h0.size := (State.WarmedH.refl s).since _
 have hk : h0.size ≤ h0.size := Nat.le_refl _
 replace hZ : Z.Warmed39 (s.setVm s.vm).vm := hZ
 have hR : CHr Z consts_1 s.vm h0 s.vm h0 := CHr.refl hC0
 refine Gz (castTop (own_ef_rm_so011 m a)) ?_
 have KP : Keep h0 h0 [] := Keep.refl _ _
 show Goes _ _ _ _ _ (fT s₁ m 0 #[vr a] [])
 refine gA X0 hx hby d23_0 rfl rfl rfl ?_
 obtain ⟨c1, T1, h1, kk1, cb1, kc1, X1, e1, E1, hS, hk1, hZ, hown, A_c1, F_coder_c1, F_value_c1, V_cb1, -, -, hC1, hL1, hsf1, st1⟩ := ldcCH X0 hx hZ hown (gw hw 41 rfl) (own_strW hw) e0 hS hk (own_EW hw) (List.mem_of_getElem? (i := 0) rfl) hR.1 (vs := [(.int 116), (.int 101), (.int 120), (.int 116)]) (z := (4 : Int32)) ⟨by first | decide | rfl, by first | decide | rfl⟩ (by decide) (by decide) (g := (mkF m 1 #[vr a] [(.ref a)])) rfl (hb hby d23_1) (n := 16) (by decide) (by decide) (by decide) (by decide)
 replace T_a := T_a.ext E1
 replace sgC := sgC.ext E1
 replace sgF := sgF.ext E1
 replace KP := KP.ext E1
 replace hR := hR.trans hC1
 replace Z0 : n0 ≤ h1.size := Nat.le_trans Z0 E1.1
 replace hk := hk1
 refine Gs st1 ?_
 show Goes _ _ _ _ _ (fT T1 m 3 #[vr a] [(.ref c1), (.ref a)])
 refine cS X1 hx hZ hw hown hby hml e1 mN15 44 45 47 46 0 (rm_nn l Z a0 hw [] a c1 h1 n0 Z0) d23_3 (lenOf own_pd17 rfl) N0 (fun T2 L2 X2 e2 N2 => ?_)
 show Goes _ _ _ _ _ (fT T2 m 6 #[vr a] [(.ref a)])
 refine Gz (XS.pop X2.here hx rfl (hb hby d23_6) rfl rfl) ?_
 refine gA X2 hx hby d23_7 rfl rfl rfl ?_
 obtain ⟨_, _, ⟨T3, L3, k3, n3⟩, -, X3, hS3, gr3, ⟨Lc3, hQ3, l3, y3, z3, hC3⟩, st3⟩ := callSS X2 hx (y := mN22) hown (gz hZ hw 48 rfl) (gz hZ hw 49 rfl) (gz hZ hw 39 rfl) (gz hZ hw 50 rfl) (by decide) (backOfSH (W := 0) (rm_cs011 l Z a0 hw [] a d0 f0 cz fo h1 n0 Z0 T_a hD_d0 hD_f0 sgC hcz sgF r_fo) hZ (gw hw 50 rfl) (gw hw 39 rfl) (by decide) (by decide) (own_EW hw) hR.1) (g := (mkF m 8 #[vr a] [(.ref a)])) rfl hml.symm (argsL := [(.ref a)]) (rest := []) (lenOf own_pd18 rfl) rfl (wz rfl) (hb hby d23_8) (fun _ _ => ⟨rfl, e2, (by decide : 2 + 3 ≤ _), (by decide : 20 + 10 ≤ _)⟩)
 dsimp only [Pt.U, Pt.locs, Pt.cells, Pt.slots] at X3 l3 y3 z3 st3 hQ3 hS3 gr3 hC3
 subst l3 y3 z3
 obtain ⟨X3, hS, hZ, hown⟩ := rebS hS hk X3 hS3 (by have q := gr3; rw [e2] at q; exact q) hZ hown
 replace hk : T3.heap.size ≤ T3.heap.size := Nat.le_refl _
 obtain ⟨o3, rfl, N3q, K3, A_o3_3', F_signum_o3_3', g_o3_3', sz_o3_3'⟩ := hQ3
 have N3 := Fr.app N2 N3q
 replace hR := hR.trans hC3
 replace T_a := T_a.keep K3 all0
 replace KP := KP.trans K3 all0
 replace Z0 := Nat.le_trans Z0 K3.1
 have A_o3 := A_o3_3'
 have F_signum_o3 := F_signum_o3_3'
 refine Gs (fun _ tk => st3.trans tk) ?_
 show Goes _ _ _ _ _ (fT T3 m 11 #[vr a] [(.ref o3)])
 refine cV X3 hx hZ hw hown hby hml rfl mN14 118 119 121 120 122 104 0 (rm_sgn l Z a0 hw [] o3 (own_sg (own_allz [d0, f0]) (1 : Int32)) T3.heap n0 Z0 F_signum_o3) A_o3 d23_11 (lenOf own_pd11 rfl) N3 (fun T4 L4 X4 e4 N4 => ?_)
 show Goes _ _ _ _ _ (fT T4 m 14 #[vr a] [(.int (own_sg (own_allz [d0, f0]) (1 : Int32)))])
 refine Goes.retH X4 hS e4 hk hZ (own_EW hw) hh hR (some (.int (own_sg (own_allz [d0, f0]) (1 : Int32)))) (fun h => by rw [hret] at h; cases h) hlk (by decide) (by decide) ?_ (fun fs hr => ?_)
 ·rw [e4]; exact ⟨rfl, N4, KP⟩
 ·exact retI X4 hx hret (hb hby d23_14) hr
theorem own_ef_rm_cs012 (m : MethodId) (x0 : Addr) : entryFrame m #[(.ref x0)] 7 = mkF m 0 #[vr x0, vu, vu, vu, vu, vu, vu] [] := by first | (simp [entryFrame, mkF, argsToLocals, Value.category]; done) | rfl
def Q_rm_cs012 (Z : State) (a : Addr) (d0 : Int32) (f0 : Int32) (f1 : Int32) (cz : Int32) (fo : Value) (h0 : Heap) (n0 : Nat) (v : Option Value) (h : Heap) (L : List Loc) : Prop := ∃ o : Addr, v = some (.ref o) ∧ Fr n0 L ∧ Keep h0 h [] ∧ Exa Z h o "com/example/modest_billing/modestbilling/Money$Shape" ∧ Fld Z h o "com/example/modest_billing/modestbilling/Money$Shape" "signum" "I" (.int (own_sg (own_allz [d0, f0, f1]) (1 : Int32))) ∧ n0 ≤ o ∧ h0.size ≤ o
theorem rm_cs012 (l : Launch) (Z : State) (a0 : Array Value) (hw : HW a0 Z) (ws : List Jvm.Cond) (a : Addr) (d0 : Int32) (f0 : Int32) (f1 : Int32) (cz : Int32) (fo : Value) (h0 : Heap) (n0 : Nat) (Z0 : n0 ≤ h0.size) (T_a : StrOf Z h0 a [d0, (46 : Int32), f0, f1]) (hD_d0 : Dig d0) (hD_f0 : Dig f0) (hD_f1 : Dig f1) (sgC : Sta Z h0 "java/lang/String" "COMPACT_STRINGS" "Z" (.int cz)) (hcz : ¬ (cz = 0)) (sgF : Sta Z h0 "jdk/internal/util/Preconditions" "SIOOBE_FORMATTER" "Ljava/util/function/BiFunction;" fo) (r_fo : fo.isRef = true) :
  MetH l Z mN22 prog_29_method_8_code 7 (some (.object "com/example/modest_billing/modestbilling/Money$Shape")) ({ frames := 4, cells := 3, slots := 10, locals := 59 } : Room) ws #[(.ref a)] h0 (Q_rm_cs012 Z a d0 f0 f1 cz fo h0 n0) := by
 refine own_metH (plainFor_of_name own_pn8) ?_
 intro p e s m below meth c s₁ hret hx hby hlk hml hown hnm X0 e0 hZ hh hC0
 have N0 := Fr.nil n0
 have hS : s.Since s.vm h0.size := (State.WarmedH.refl s).since _
 have hk : h0.size ≤ h0.size := Nat.le_refl _
 replace hZ : Z.Warmed39 (s.setVm s.vm).vm := hZ
 have hR : CHr Z consts_1 s.vm h0 s.vm h0 := CHr.refl hC0
 refine Gz (castTop (own_ef_rm_cs012 m a)) ?_
 have KP : Keep h0 h0 [] := Keep.refl _ _
 show Goes _ _ _ _ _ (fT s₁ m 0 #[vr a, vu, vu, vu, vu, vu, vu] [])
 refine gA X0 hx hby d22_0 rfl rfl rfl ?_
 obtain ⟨c1, T1, h1, kk1, cb1, kc1, X1, e1, E1, hS, hk1, hZ, hown, A_c1, F_coder_c1, F_value_c1, V_cb1, -, -, hC1, hL1, hsf1, st1⟩ := ldcCH X0 hx hZ hown (gw hw 51 rfl) (own_strW hw) e0 hS hk (own_EW hw) (List.mem_of_getElem? (i := 1) rfl) hR.1 (vs := [(.int 45)]) (z := (1 : Int32)) ⟨by first | decide | rfl, by first | decide | rfl⟩ (by decide) (by decide) (g := (mkF m 1 #[vr a, vu, vu, vu, vu, vu, vu] [(.ref a)])) rfl (hb hby d22_1) (n := 4) (by decide) (by decide) (by decide) (by decide)
 replace T_a := T_a.ext E1
 replace sgC := sgC.ext E1
 replace sgF := sgF.ext E1
 replace KP := KP.ext E1
 replace hR := hR.trans hC1
 replace Z0 : n0 ≤ h1.size := Nat.le_trans Z0 E1.1
 replace hk := hk1
 refine Gs st1 ?_
 show Goes _ _ _ _ _ (fT T1 m 3 #[vr a, vu, vu, vu, vu, vu, vu] [(.ref c1), (.ref a)])
 have T_c1 : StrOf Z h1 c1 [(45 : Int32)] := StrOf.latin A_c1 F_value_c1 F_coder_c1 V_cb1 (by intro c hc; rw [List.mem_singleton.mp hc]; exact own_lat45) rfl rfl (Nat.le_of_ble_eq_true rfl)
 refine cV X1 hx hZ hw hown hby hml e1 mN21 52 53 55 54 56 9 0 (rm_sw10 l Z a0 hw [] a c1 [d0, (46 : Int32), f0, f1] d0 cz h1 n0 Z0 T_a T_c1 (own_il 0 _ (by decide) (by simp) T_a.len) rfl hD_d0 sgC hcz) T_a.exa d22_3 (lenOf own_pd14 rfl) N0 (fun T2 L2 X2 e2 N2 => ?_)
 show Goes _ _ _ _ _ (fT T2 m 6 #[vr a, vu, vu, vu, vu, vu, vu] [(.int 0)])
 refine gy X2 hx hby d22_6 6 13 ((if0 _ _).trans (teq (by decide : ((0 : Int32) = (0 : Int32)))).1) ?_
 refine gC X2 hx hby d22_13 ?_
 refine gs X2 hx hby d22_14 #[vr a, vi 0, vu, vu, vu, vu, vu] ?_
 refine gN X2 hx hby d22_15 rfl rfl ?_
 refine gs X2 hx hby d22_16 #[vr a, vi 0, vi 0, vu, vu, vu, vu] ?_
 refine gC X2 hx hby d22_17 ?_
 show Goes _ _ _ _ _ (fT T2 m 18 #[vr a, vi 0, vi 0, vu, vu, vu, vu] [(.int 1)])
 refine gs X2 hx hby d22_18 #[vr a, vi 0, vi 0, vi 1, vu, vu, vu] ?_
 refine gN X2 hx hby d22_19 rfl rfl ?_
 refine gA X2 hx hby d22_20 rfl rfl rfl ?_
 refine cV X2 hx hZ hw hown hby hml e2 mN2 76 63 65 64 66 9 1 (rs_len l Z a0 hw [] a [d0, (46 : Int32), f0, f1] cz h1 n0 Z0 T_a sgC hcz) T_a.exa d22_21 (lenOf own_pd11 rfl) N2 (fun T3 L3 X3 e3 N3 => ?_)
 show Goes _ _ _ _ _ (fT T3 m 24 #[vr a, vi 0, vi 0, vi 1, vu, vu, vu] [(.int 4), (.int 0)])
 refine gU X3 hx hby d22_24 (tlt (by decide : ((0 : Int32) < (4 : Int32)))).2.1 ?_
 refine gA X3 hx hby d22_27 rfl rfl rfl ?_
 refine gN X3 hx hby d22_28 rfl rfl ?_
 refine cV X3 hx hZ hw hown hby hml e3 mN6 77 78 80 79 81 9 0 (rs_chr l Z a0 hw [] a [d0, (46 : Int32), f0, f1] (0 : Int32) d0 cz fo h1 n0 Z0 T_a sgC hcz (by first | assumption | decide) (own_il 0 _ (by decide) (by simp) T_a.len) rfl sgF r_fo) T_a.exa d22_29 (lenOf own_pd15 rfl) N3 (fun T4 L4 X4 e4 N4 => ?_)
 show Goes _ _ _ _ _ (fT T4 m 32 #[vr a, vi 0, vi 0, vi 1, vu, vu, vu] [(.int d0)])
 refine cS X4 hx hZ hw hown hby hml e4 mN17 99 100 101 39 0 (rm_isd l Z a0 hw [] d0 h1 n0 Z0 (own_n48 hD_d0).1 (own_n48 hD_d0).2) d22_32 (lenOf own_pd16 rfl) N4 (fun T5 L5 X5 e5 N5 => ?_)
 show Goes _ _ _ _ _ (fT T5 m 35 #[vr a, vi 0, vi 0, vi 1, vu, vu, vu] [(.int 1)])
 refine gu X5 hx hby d22_35 ((if0 _ _).trans (feq (by decide : ¬ ((1 : Int32) = (0 : Int32)))).1) ?_
 refine gN X5 hx hby d22_38 rfl rfl ?_
 refine gA X5 hx hby d22_39 rfl rfl rfl ?_
 refine gN X5 hx hby d22_40 rfl rfl ?_
 refine cV X5 hx hZ hw hown hby hml e5 mN6 77 78 80 79 81 9 1 (rs_chr l Z a0 hw [] a [d0, (46 : Int32), f0, f1] (0 : Int32) d0 cz fo h1 n0 Z0 T_a sgC hcz (by first | assumption | decide) (own_il 0 _ (by decide) (by simp) T_a.len) rfl sgF r_fo) T_a.exa d22_41 (lenOf own_pd15 rfl) N5 (fun T6 L6 X6 e6 N6 => ?_)
 show Goes _ _ _ _ _ (fT T6 m 44 #[vr a, vi 0, vi 0, vi 1, vu, vu, vu] [(.int d0), (.int 1)])
 refine gB X6 hx hby d22_44 ?_
 show Goes _ _ _ _ _ (fT T6 m 46 #[vr a, vi 0, vi 0, vi 1, vu, vu, vu] [(.int 48), (.int d0), (.int 1)])
 refine own_join (B := T6.setTop (mkF m 54 #[vr a, vi 0, vi 0, vi 1, vu, vu, vu] [(.int (own_z d0)), (.int 1)])) ?_ ?_
 ·show Goes _ _ _ _ _ (fT T6 m 54 #[vr a, vi 0, vi 0, vi 1, vu, vu, vu] [(.int (own_z d0)), (.int 1)])
  refine Gz (XS.iand X6.here hx rfl (hb hby d22_54) rfl) ?_
  show Goes _ _ _ _ _ (fT T6 m 55 #[vr a, vi 0, vi 0, vi 1, vu, vu, vu] [(.int ((1 : Int32) &&& (own_z d0)))])
  refine gs X6 hx hby d22_55 #[vr a, vi 0, vi 0, vi ((1 : Int32) &&& (own_z d0)), vu, vu, vu] ?_
  show Goes _ _ _ _ _ (fT T6 m 56 #[vr a, vi 0, vi 0, vi ((1 : Int32) &&& (own_z d0)), vu, vu, vu] [])
  refine Gz (XS.iinc X6.here hx rfl (hb hby d22_56) rfl (l' := #[vr a, vi ((0 : Int32) + (1 : Int32)), vi 0, vi ((1 : Int32) &&& (own_z d0)), vu, vu, vu]) rfl) ?_
  show Goes _ _ _ _ _ (fT T6 m 59 #[vr a, vi 1, vi 0, vi ((1 : Int32) &&& (own_z d0)), vu, vu, vu] [])
  refine gG X6 hx hby d22_59 59 19 ?_
  refine gN X6 hx hby d22_19 rfl rfl ?_
  refine gA X6 hx hby d22_20 rfl rfl rfl ?_
  refine cV X6 hx hZ hw hown hby hml e6 mN2 76 63 65 64 66 9 1 (rs_len l Z a0 hw [] a [d0, (46 : Int32), f0, f1] cz h1 n0 Z0 T_a sgC hcz) T_a.exa d22_21 (lenOf own_pd11 rfl) N6 (fun T8 L8 X8 e8 N8 => ?_)
  show Goes _ _ _ _ _ (fT T8 m 24 #[vr a, vi 1, vi 0, vi ((1 : Int32) &&& (own_z d0)), vu, vu, vu] [(.int 4), (.int 1)])
  refine gU X8 hx hby d22_24 (tlt (by decide : ((1 : Int32) < (4 : Int32)))).2.1 ?_
  refine gA X8 hx hby d22_27 rfl rfl rfl ?_
  refine gN X8 hx hby d22_28 rfl rfl ?_
  refine cV X8 hx hZ hw hown hby hml e8 mN6 77 78 80 79 81 9 0 (rs_chr l Z a0 hw [] a [d0, (46 : Int32), f0, f1] (1 : Int32) (46 : Int32) cz fo h1 n0 Z0 T_a sgC hcz (by first | assumption | decide) (own_il 1 _ (by decide) (by simp) T_a.len) rfl sgF r_fo) T_a.exa d22_29 (lenOf own_pd15 rfl) N8 (fun T9 L9 X9 e9 N9 => ?_)
  show Goes _ _ _ _ _ (fT T9 m 32 #[vr a, vi 1, vi 0, vi ((1 : Int32) &&& (own_z d0)), vu, vu, vu] [(.int 46)])
  refine cS X9 hx hZ hw hown hby hml e9 mN17 99 100 101 39 0 (rm_isn l Z a0 hw []  h1 n0 Z0) d22_32 (lenOf own_pd16 rfl) N9 (fun T10 L10 X10 e10 N10 => ?_)
  show Goes _ _ _ _ _ (fT T10 m 35 #[vr a, vi 1, vi 0, vi ((1 : Int32) &&& (own_z d0)), vu, vu, vu] [(.int 0)])
  refine gy X10 hx hby d22_35 35 62 ((if0 _ _).trans (teq (by decide : ((0 : Int32) = (0 : Int32)))).1) ?_
  refine gN X10 hx hby d22_62 rfl rfl ?_
  refine gN X10 hx hby d22_63 rfl rfl ?_
  show Goes _ _ _ _ _ (fT T10 m 64 #[vr a, vi 1, vi 0, vi ((1 : Int32) &&& (own_z d0)), vu, vu, vu] [(.int 0), (.int 1)])
  refine Gz (XS.isub X10.here hx rfl (hb hby d22_64) rfl) ?_
  show Goes _ _ _ _ _ (fT T10 m 65 #[vr a, vi 1, vi 0, vi ((1 : Int32) &&& (own_z d0)), vu, vu, vu] [(.int 1)])
  refine gS X10 hx hby d22_65 #[vr a, vi 1, vi 0, vi ((1 : Int32) &&& (own_z d0)), vi 1, vu, vu] ?_
  refine gI X10 hx hby d22_67 rfl rfl ?_
  refine gC X10 hx hby d22_69 ?_
  refine gY X10 hx hby d22_70 70 89 (teq (by decide : ((1 : Int32) = (1 : Int32)))).1 ?_
  refine gC X10 hx hby d22_89 ?_
  refine gG X10 hx hby d22_90 90 94 ?_
  show Goes _ _ _ _ _ (fT T10 m 94 #[vr a, vi 1, vi 0, vi ((1 : Int32) &&& (own_z d0)), vi 1, vu, vu] [(.int 1)])
  refine gS X10 hx hby d22_94 #[vr a, vi 1, vi 0, vi ((1 : Int32) &&& (own_z d0)), vi 1, vi 1, vu] ?_
  refine gC X10 hx hby d22_96 ?_
  refine gS X10 hx hby d22_97 #[vr a, vi 1, vi 0, vi ((1 : Int32) &&& (own_z d0)), vi 1, vi 1, vi 0] ?_
  refine gI X10 hx hby d22_99 rfl rfl ?_
  refine gu X10 hx hby d22_101 ((if0 _ _).trans (feq (by decide : ¬ ((1 : Int32) = (0 : Int32)))).1) ?_
  refine gN X10 hx hby d22_104 rfl rfl ?_
  show Goes _ _ _ _ _ (fT T10 m 105 #[vr a, vi 1, vi 0, vi ((1 : Int32) &&& (own_z d0)), vi 1, vi 1, vi 0] [(.int 1)])
  refine gA X10 hx hby d22_105 rfl rfl rfl ?_
  refine cV X10 hx hZ hw hown hby hml e10 mN2 76 63 65 64 66 9 1 (rs_len l Z a0 hw [] a [d0, (46 : Int32), f0, f1] cz h1 n0 Z0 T_a sgC hcz) T_a.exa d22_106 (lenOf own_pd11 rfl) N10 (fun T11 L11 X11 e11 N11 => ?_)
  show Goes _ _ _ _ _ (fT T11 m 109 #[vr a, vi 1, vi 0, vi ((1 : Int32) &&& (own_z d0)), vi 1, vi 1, vi 0] [(.int 4), (.int 1)])
  refine gU X11 hx hby d22_109 (tlt (by decide : ((1 : Int32) < (4 : Int32)))).2.1 ?_
  refine gA X11 hx hby d22_112 rfl rfl rfl ?_
  refine cV X11 hx hZ hw hown hby hml e11 mN2 76 63 65 64 66 9 0 (rs_len l Z a0 hw [] a [d0, (46 : Int32), f0, f1] cz h1 n0 Z0 T_a sgC hcz) T_a.exa d22_113 (lenOf own_pd11 rfl) N11 (fun T12 L12 X12 e12 N12 => ?_)
  show Goes _ _ _ _ _ (fT T12 m 116 #[vr a, vi 1, vi 0, vi ((1 : Int32) &&& (own_z d0)), vi 1, vi 1, vi 0] [(.int 4)])
  refine gN X12 hx hby d22_116 rfl rfl ?_
  show Goes _ _ _ _ _ (fT T12 m 117 #[vr a, vi 1, vi 0, vi ((1 : Int32) &&& (own_z d0)), vi 1, vi 1, vi 0] [(.int 1), (.int 4)])
  refine Gz (XS.isub X12.here hx rfl (hb hby d22_117) rfl) ?_
  show Goes _ _ _ _ _ (fT T12 m 118 #[vr a, vi 1, vi 0, vi ((1 : Int32) &&& (own_z d0)), vi 1, vi 1, vi 0] [(.int 3)])
  refine gC X12 hx hby d22_118 ?_
  show Goes _ _ _ _ _ (fT T12 m 119 #[vr a, vi 1, vi 0, vi ((1 : Int32) &&& (own_z d0)), vi 1, vi 1, vi 0] [(.int 1), (.int 3)])
  refine Gz (XS.isub X12.here hx rfl (hb hby d22_119) rfl) ?_
  show Goes _ _ _ _ _ (fT T12 m 120 #[vr a, vi 1, vi 0, vi ((1 : Int32) &&& (own_z d0)), vi 1, vi 1, vi 0] [(.int 2)])
  refine gS X12 hx hby d22_120 #[vr a, vi 1, vi 0, vi ((1 : Int32) &&& (own_z d0)), vi 1, vi 1, vi 2] ?_
  refine gA X12 hx hby d22_122 rfl rfl rfl ?_
  refine gN X12 hx hby d22_123 rfl rfl ?_
  refine cV X12 hx hZ hw hown hby hml e12 mN6 77 78 80 79 81 9 0 (rs_chr l Z a0 hw [] a [d0, (46 : Int32), f0, f1] (1 : Int32) (46 : Int32) cz fo h1 n0 Z0 T_a sgC hcz (by first | assumption | decide) (own_il 1 _ (by decide) (by simp) T_a.len) rfl sgF r_fo) T_a.exa d22_124 (lenOf own_pd15 rfl) N12 (fun T13 L13 X13 e13 N13 => ?_)
  show Goes _ _ _ _ _ (fT T13 m 127 #[vr a, vi 1, vi 0, vi ((1 : Int32) &&& (own_z d0)), vi 1, vi 1, vi 2] [(.int 46)])
  refine gB X13 hx hby d22_127 ?_
  refine gU X13 hx hby d22_129 (teq (by decide : ((46 : Int32) = (46 : Int32)))).2 ?_
  refine gI X13 hx hby d22_132 rfl rfl ?_
  refine gu X13 hx hby d22_134 ((if0 _ _).trans (tlt (by decide : ((0 : Int32) < (2 : Int32)))).2.2.2) ?_
  refine gC X13 hx hby d22_137 ?_
  refine gG X13 hx hby d22_138 138 142 ?_
  show Goes _ _ _ _ _ (fT T13 m 142 #[vr a, vi 1, vi 0, vi ((1 : Int32) &&& (own_z d0)), vi 1, vi 1, vi 2] [(.int 1)])
  refine gS X13 hx hby d22_142 #[vr a, vi 1, vi 0, vi ((1 : Int32) &&& (own_z d0)), vi 1, vi 1, vi 2] ?_
  show Goes _ _ _ _ _ (fT T13 m 144 #[vr a, vi 1, vi 0, vi ((1 : Int32) &&& (own_z d0)), vi 1, vi 1, vi 2] [])
  refine Gz (XS.iinc X13.here hx rfl (hb hby d22_144) rfl (l' := #[vr a, vi ((1 : Int32) + (1 : Int32)), vi 0, vi ((1 : Int32) &&& (own_z d0)), vi 1, vi 1, vi 2]) rfl) ?_
  show Goes _ _ _ _ _ (fT T13 m 147 #[vr a, vi 2, vi 0, vi ((1 : Int32) &&& (own_z d0)), vi 1, vi 1, vi 2] [])
  refine gI X13 hx hby d22_147 rfl rfl ?_
  refine gu X13 hx hby d22_149 ((if0 _ _).trans (feq (by decide : ¬ ((1 : Int32) = (0 : Int32)))).1) ?_
  refine gN X13 hx hby d22_152 rfl rfl ?_
  refine gA X13 hx hby d22_153 rfl rfl rfl ?_
  refine cV X13 hx hZ hw hown hby hml e13 mN2 76 63 65 64 66 9 1 (rs_len l Z a0 hw [] a [d0, (46 : Int32), f0, f1] cz h1 n0 Z0 T_a sgC hcz) T_a.exa d22_154 (lenOf own_pd11 rfl) N13 (fun T14 L14 X14 e14 N14 => ?_)
  show Goes _ _ _ _ _ (fT T14 m 157 #[vr a, vi 2, vi 0, vi ((1 : Int32) &&& (own_z d0)), vi 1, vi 1, vi 2] [(.int 4), (.int 2)])
  refine gU X14 hx hby d22_157 (tlt (by decide : ((2 : Int32) < (4 : Int32)))).2.1 ?_
  refine gA X14 hx hby d22_160 rfl rfl rfl ?_
  refine gN X14 hx hby d22_161 rfl rfl ?_
  refine cV X14 hx hZ hw hown hby hml e14 mN6 77 78 80 79 81 9 0 (rs_chr l Z a0 hw [] a [d0, (46 : Int32), f0, f1] (2 : Int32) f0 cz fo h1 n0 Z0 T_a sgC hcz (by first | assumption | decide) (own_il 2 _ (by decide) (by simp) T_a.len) rfl sgF r_fo) T_a.exa d22_162 (lenOf own_pd15 rfl) N14 (fun T15 L15 X15 e15 N15 => ?_)
  show Goes _ _ _ _ _ (fT T15 m 165 #[vr a, vi 2, vi 0, vi ((1 : Int32) &&& (own_z d0)), vi 1, vi 1, vi 2] [(.int f0)])
  refine cS X15 hx hZ hw hown hby hml e15 mN17 99 100 101 39 0 (rm_isd l Z a0 hw [] f0 h1 n0 Z0 (own_n48 hD_f0).1 (own_n48 hD_f0).2) d22_165 (lenOf own_pd16 rfl) N15 (fun T16 L16 X16 e16 N16 => ?_)
  show Goes _ _ _ _ _ (fT T16 m 168 #[vr a, vi 2, vi 0, vi ((1 : Int32) &&& (own_z d0)), vi 1, vi 1, vi 2] [(.int 1)])
  refine gS X16 hx hby d22_168 #[vr a, vi 2, vi 0, vi ((1 : Int32) &&& (own_z d0)), vi 1, vi 1, vi 2] ?_
  refine gN X16 hx hby d22_170 rfl rfl ?_
  refine gA X16 hx hby d22_171 rfl rfl rfl ?_
  refine gN X16 hx hby d22_172 rfl rfl ?_
  refine cV X16 hx hZ hw hown hby hml e16 mN6 77 78 80 79 81 9 1 (rs_chr l Z a0 hw [] a [d0, (46 : Int32), f0, f1] (2 : Int32) f0 cz fo h1 n0 Z0 T_a sgC hcz (by first | assumption | decide) (own_il 2 _ (by decide) (by simp) T_a.len) rfl sgF r_fo) T_a.exa d22_173 (lenOf own_pd15 rfl) N16 (fun T17 L17 X17 e17 N17 => ?_)
  show Goes _ _ _ _ _ (fT T17 m 176 #[vr a, vi 2, vi 0, vi ((1 : Int32) &&& (own_z d0)), vi 1, vi 1, vi 2] [(.int f0), (.int ((1 : Int32) &&& (own_z d0)))])
  refine gB X17 hx hby d22_176 ?_
  show Goes _ _ _ _ _ (fT T17 m 178 #[vr a, vi 2, vi 0, vi ((1 : Int32) &&& (own_z d0)), vi 1, vi 1, vi 2] [(.int 48), (.int f0), (.int ((1 : Int32) &&& (own_z d0)))])
  refine own_join (B := T17.setTop (mkF m 186 #[vr a, vi 2, vi 0, vi ((1 : Int32) &&& (own_z d0)), vi 1, vi 1, vi 2] [(.int (own_z f0)), (.int ((1 : Int32) &&& (own_z d0)))])) ?_ ?_
  ·show Goes _ _ _ _ _ (fT T17 m 186 #[vr a, vi 2, vi 0, vi ((1 : Int32) &&& (own_z d0)), vi 1, vi 1, vi 2] [(.int (own_z f0)), (.int ((1 : Int32) &&& (own_z d0)))])
   refine Gz (XS.iand X17.here hx rfl (hb hby d22_186) rfl) ?_
   show Goes _ _ _ _ _ (fT T17 m 187 #[vr a, vi 2, vi 0, vi ((1 : Int32) &&& (own_z d0)), vi 1, vi 1, vi 2] [(.int (((1 : Int32) &&& (own_z d0)) &&& (own_z f0)))])
   refine gs X17 hx hby d22_187 #[vr a, vi 2, vi 0, vi (((1 : Int32) &&& (own_z d0)) &&& (own_z f0)), vi 1, vi 1, vi 2] ?_
   show Goes _ _ _ _ _ (fT T17 m 188 #[vr a, vi 2, vi 0, vi (((1 : Int32) &&& (own_z d0)) &&& (own_z f0)), vi 1, vi 1, vi 2] [])
   refine Gz (XS.iinc X17.here hx rfl (hb hby d22_188) rfl (l' := #[vr a, vi ((2 : Int32) + (1 : Int32)), vi 0, vi (((1 : Int32) &&& (own_z d0)) &&& (own_z f0)), vi 1, vi 1, vi 2]) rfl) ?_
   show Goes _ _ _ _ _ (fT T17 m 191 #[vr a, vi 3, vi 0, vi (((1 : Int32) &&& (own_z d0)) &&& (own_z f0)), vi 1, vi 1, vi 2] [])
   refine gG X17 hx hby d22_191 191 147 ?_
   refine gI X17 hx hby d22_147 rfl rfl ?_
   refine gu X17 hx hby d22_149 ((if0 _ _).trans (feq (by decide : ¬ ((1 : Int32) = (0 : Int32)))).1) ?_
   refine gN X17 hx hby d22_152 rfl rfl ?_
   refine gA X17 hx hby d22_153 rfl rfl rfl ?_
   refine cV X17 hx hZ hw hown hby hml e17 mN2 76 63 65 64 66 9 1 (rs_len l Z a0 hw [] a [d0, (46 : Int32), f0, f1] cz h1 n0 Z0 T_a sgC hcz) T_a.exa d22_154 (lenOf own_pd11 rfl) N17 (fun T19 L19 X19 e19 N19 => ?_)
   show Goes _ _ _ _ _ (fT T19 m 157 #[vr a, vi 3, vi 0, vi (((1 : Int32) &&& (own_z d0)) &&& (own_z f0)), vi 1, vi 1, vi 2] [(.int 4), (.int 3)])
   refine gU X19 hx hby d22_157 (tlt (by decide : ((3 : Int32) < (4 : Int32)))).2.1 ?_
   refine gA X19 hx hby d22_160 rfl rfl rfl ?_
   refine gN X19 hx hby d22_161 rfl rfl ?_
   refine cV X19 hx hZ hw hown hby hml e19 mN6 77 78 80 79 81 9 0 (rs_chr l Z a0 hw [] a [d0, (46 : Int32), f0, f1] (3 : Int32) f1 cz fo h1 n0 Z0 T_a sgC hcz (by first | assumption | decide) (own_il 3 _ (by decide) (by simp) T_a.len) rfl sgF r_fo) T_a.exa d22_162 (lenOf own_pd15 rfl) N19 (fun T20 L20 X20 e20 N20 => ?_)
   show Goes _ _ _ _ _ (fT T20 m 165 #[vr a, vi 3, vi 0, vi (((1 : Int32) &&& (own_z d0)) &&& (own_z f0)), vi 1, vi 1, vi 2] [(.int f1)])
   refine cS X20 hx hZ hw hown hby hml e20 mN17 99 100 101 39 0 (rm_isd l Z a0 hw [] f1 h1 n0 Z0 (own_n48 hD_f1).1 (own_n48 hD_f1).2) d22_165 (lenOf own_pd16 rfl) N20 (fun T21 L21 X21 e21 N21 => ?_)
   show Goes _ _ _ _ _ (fT T21 m 168 #[vr a, vi 3, vi 0, vi (((1 : Int32) &&& (own_z d0)) &&& (own_z f0)), vi 1, vi 1, vi 2] [(.int 1)])
   refine gS X21 hx hby d22_168 #[vr a, vi 3, vi 0, vi (((1 : Int32) &&& (own_z d0)) &&& (own_z f0)), vi 1, vi 1, vi 2] ?_
   refine gN X21 hx hby d22_170 rfl rfl ?_
   refine gA X21 hx hby d22_171 rfl rfl rfl ?_
   refine gN X21 hx hby d22_172 rfl rfl ?_
   refine cV X21 hx hZ hw hown hby hml e21 mN6 77 78 80 79 81 9 1 (rs_chr l Z a0 hw [] a [d0, (46 : Int32), f0, f1] (3 : Int32) f1 cz fo h1 n0 Z0 T_a sgC hcz (by first | assumption | decide) (own_il 3 _ (by decide) (by simp) T_a.len) rfl sgF r_fo) T_a.exa d22_173 (lenOf own_pd15 rfl) N21 (fun T22 L22 X22 e22 N22 => ?_)
   show Goes _ _ _ _ _ (fT T22 m 176 #[vr a, vi 3, vi 0, vi (((1 : Int32) &&& (own_z d0)) &&& (own_z f0)), vi 1, vi 1, vi 2] [(.int f1), (.int (((1 : Int32) &&& (own_z d0)) &&& (own_z f0)))])
   refine gB X22 hx hby d22_176 ?_
   show Goes _ _ _ _ _ (fT T22 m 178 #[vr a, vi 3, vi 0, vi (((1 : Int32) &&& (own_z d0)) &&& (own_z f0)), vi 1, vi 1, vi 2] [(.int 48), (.int f1), (.int (((1 : Int32) &&& (own_z d0)) &&& (own_z f0)))])
   refine own_join (B := T22.setTop (mkF m 186 #[vr a, vi 3, vi 0, vi (((1 : Int32) &&& (own_z d0)) &&& (own_z f0)), vi 1, vi 1, vi 2] [(.int (own_z f1)), (.int (((1 : Int32) &&& (own_z d0)) &&& (own_z f0)))])) ?_ ?_
   ·show Goes _ _ _ _ _ (fT T22 m 186 #[vr a, vi 3, vi 0, vi (((1 : Int32) &&& (own_z d0)) &&& (own_z f0)), vi 1, vi 1, vi 2] [(.int (own_z f1)), (.int (((1 : Int32) &&& (own_z d0)) &&& (own_z f0)))])
    refine Gz (XS.iand X22.here hx rfl (hb hby d22_186) rfl) ?_
    show Goes _ _ _ _ _ (fT T22 m 187 #[vr a, vi 3, vi 0, vi (((1 : Int32) &&& (own_z d0)) &&& (own_z f0)), vi 1, vi 1, vi 2] [(.int ((((1 : Int32) &&& (own_z d0)) &&& (own_z f0)) &&& (own_z f1)))])
    refine gs X22 hx hby d22_187 #[vr a, vi 3, vi 0, vi ((((1 : Int32) &&& (own_z d0)) &&& (own_z f0)) &&& (own_z f1)), vi 1, vi 1, vi 2] ?_
    show Goes _ _ _ _ _ (fT T22 m 188 #[vr a, vi 3, vi 0, vi ((((1 : Int32) &&& (own_z d0)) &&& (own_z f0)) &&& (own_z f1)), vi 1, vi 1, vi 2] [])
    refine Gz (XS.iinc X22.here hx rfl (hb hby d22_188) rfl (l' := #[vr a, vi ((3 : Int32) + (1 : Int32)), vi 0, vi ((((1 : Int32) &&& (own_z d0)) &&& (own_z f0)) &&& (own_z f1)), vi 1, vi 1, vi 2]) rfl) ?_
    show Goes _ _ _ _ _ (fT T22 m 191 #[vr a, vi 4, vi 0, vi ((((1 : Int32) &&& (own_z d0)) &&& (own_z f0)) &&& (own_z f1)), vi 1, vi 1, vi 2] [])
    refine gG X22 hx hby d22_191 191 147 ?_
    refine gI X22 hx hby d22_147 rfl rfl ?_
    refine gu X22 hx hby d22_149 ((if0 _ _).trans (feq (by decide : ¬ ((1 : Int32) = (0 : Int32)))).1) ?_
    refine gN X22 hx hby d22_152 rfl rfl ?_
    refine gA X22 hx hby d22_153 rfl rfl rfl ?_
    refine cV X22 hx hZ hw hown hby hml e22 mN2 76 63 65 64 66 9 1 (rs_len l Z a0 hw [] a [d0, (46 : Int32), f0, f1] cz h1 n0 Z0 T_a sgC hcz) T_a.exa d22_154 (lenOf own_pd11 rfl) N22 (fun T24 L24 X24 e24 N24 => ?_)
    show Goes _ _ _ _ _ (fT T24 m 157 #[vr a, vi 4, vi 0, vi ((((1 : Int32) &&& (own_z d0)) &&& (own_z f0)) &&& (own_z f1)), vi 1, vi 1, vi 2] [(.int 4), (.int 4)])
    refine gY X24 hx hby d22_157 157 194 (flt (by decide : ¬ ((4 : Int32) < (4 : Int32)))).2.1 ?_
    refine gI X24 hx hby d22_194 rfl rfl ?_
    refine gy X24 hx hby d22_196 196 213 ((if0 _ _).trans (feq (by decide : ¬ ((1 : Int32) = (0 : Int32)))).2) ?_
    obtain ⟨T25, h25, X25, e25, E25, A25, D25, -, st25⟩ := newO X24 hx hZ hown (gw hw 102 rfl) (gw hw 103 rfl) (gw hw 104 rfl) e24 (g := (mkF m 213 #[vr a, vi 4, vi 0, vi ((((1 : Int32) &&& (own_z d0)) &&& (own_z f0)) &&& (own_z f1)), vi 1, vi 1, vi 2] [])) rfl (hb hby d22_213) (by decide) (by decide)
    obtain ⟨b25, gq25⟩ : ∃ z, z = h1.size := ⟨_, rfl⟩
    rw [← gq25] at A25 st25 D25
    have g_b25 : n0 ≤ b25 := by rw [gq25]; exact Z0
    have sz_b25 : h0.size ≤ b25 := by rw [gq25]; exact KP.1
    have ne_a_b25 : a ≠ b25 := by rw [gq25]; exact Nat.ne_of_lt T_a.lt
    have ne_c1_b25 : c1 ≠ b25 := by rw [gq25]; exact Nat.ne_of_lt A_c1.lt
    have ne_cb1_b25 : cb1 ≠ b25 := by rw [gq25]; exact Nat.ne_of_lt V_cb1.lt
    have Sf_b25 : Safe Z consts_1 T1.vm h1 b25 := Safe.new (Nat.le_of_eq gq25.symm)
    replace Sf_b25 := Safe.ext E25 hR.1 Sf_b25
    replace hR := hR.trans (CHr.ext E25 hR.1)
    replace T_a := T_a.ext E25
    replace T_c1 := T_c1.ext E25
    replace KP := KP.ext E25
    replace Z0 : n0 ≤ h25.size := Nat.le_trans Z0 E25.1
    replace hk := Nat.le_trans hk E25.1
    have A_b25 : Exa Z h25 b25 "com/example/modest_billing/modestbilling/Money$Shape" := A25
    have F_signum_b25 : Fld Z h25 b25 "com/example/modest_billing/modestbilling/Money$Shape" "signum" "I" (.int 0) := D25 (Or.inr (gw hw 115 rfl)) (ty := .int) (by decide)
    have F_fractionDigits_b25 : Fld Z h25 b25 "com/example/modest_billing/modestbilling/Money$Shape" "fractionDigits" "I" (.int 0) := D25 (Or.inr (gw hw 117 rfl)) (ty := .int) (by decide)
    refine Gs st25 ?_
    show Goes _ _ _ _ _ (fT T25 m 216 #[vr a, vi 4, vi 0, vi ((((1 : Int32) &&& (own_z d0)) &&& (own_z f0)) &&& (own_z f1)), vi 1, vi 1, vi 2] [(.ref b25)])
    refine Gz (XS.dup X25.here hx rfl (hb hby d22_216) rfl rfl) ?_
    refine gN X25 hx hby d22_217 rfl rfl ?_
    show Goes _ _ _ _ _ (fT T25 m 218 #[vr a, vi 4, vi 0, vi ((((1 : Int32) &&& (own_z d0)) &&& (own_z f0)) &&& (own_z f1)), vi 1, vi 1, vi 2] [(.int ((((1 : Int32) &&& (own_z d0)) &&& (own_z f0)) &&& (own_z f1))), (.ref b25), (.ref b25)])
    refine own_join (B := T25.setTop (mkF m 234 #[vr a, vi 4, vi 0, vi ((((1 : Int32) &&& (own_z d0)) &&& (own_z f0)) &&& (own_z f1)), vi 1, vi 1, vi 2] [(.int (own_sg (own_allz [d0, f0, f1]) (1 : Int32))), (.ref b25), (.ref b25)])) ?_ ?_
    ·show Goes _ _ _ _ _ (fT T25 m 234 #[vr a, vi 4, vi 0, vi ((((1 : Int32) &&& (own_z d0)) &&& (own_z f0)) &&& (own_z f1)), vi 1, vi 1, vi 2] [(.int (own_sg (own_allz [d0, f0, f1]) (1 : Int32))), (.ref b25), (.ref b25)])
     refine gI X25 hx hby d22_234 rfl rfl ?_
     obtain ⟨_, _, ⟨T27, L27, k27, n27⟩, -, X27, ⟨Lc27, hQ27, l27, y27, z27⟩, st27⟩ := own_specialRef X25 hx hZ (y := mN13) rfl hown (gw hw 105 rfl) (gw hw 106 rfl) (gw hw 107 rfl) (by decide) (backOf (W := 1) (rm_shi l Z a0 hw [] b25 (own_sg (own_allz [d0, f0, f1]) (1 : Int32)) (2 : Int32) h25 n0 Z0 A_b25 F_signum_b25 F_fractionDigits_b25 g_b25) hZ (gw hw 107 rfl) (gw hw 104 rfl) (by decide) (by decide)) (g := (mkF m 236 #[vr a, vi 4, vi 0, vi ((((1 : Int32) &&& (own_z d0)) &&& (own_z f0)) &&& (own_z f1)), vi 1, vi 1, vi 2] [(.int 2), (.int (own_sg (own_allz [d0, f0, f1]) (1 : Int32))), (.ref b25), (.ref b25)])) rfl hml.symm (Steps.refl _) (a := b25) (argsL := [(.int (own_sg (own_allz [d0, f0, f1]) (1 : Int32))), (.int 2)]) (rest := [(.ref b25)]) (lenOf own_pd2 rfl) rfl (wz rfl) (hb hby d22_236) (fun _ _ => ⟨rfl, e25, (by decide : 3 + 0 ≤ _), (by decide : 10 + 0 ≤ _)⟩)
     dsimp only [Pt.U, Pt.locs, Pt.cells, Pt.slots] at X27 l27 y27 z27 st27 hQ27
     subst l27 y27 z27
     obtain ⟨rfl, N27q, K27, F_signum_b25_27'⟩ := hQ27
     have N27 := Fr.app N24 N27q
     replace hR := hR.trans (CHr.keep K27 (allS Sf_b25 all0) hR.1)
     replace T_a := T_a.keep K27 (allS ⟨(Ne.symm ne_a_b25), (own_nbE A_b25 (gw hw 103 rfl))⟩ all0)
     replace T_c1 := T_c1.keep K27 (allS ⟨(Ne.symm ne_c1_b25), (own_nbE A_b25 (gw hw 103 rfl))⟩ all0)
     replace A_b25 := A_b25.keep K27
     replace KP := KP.trans K27 (allS (Or.inr sz_b25) all0)
     replace Z0 := Nat.le_trans Z0 K27.1
     replace hk := Nat.le_trans hk K27.1
     have F_signum_b25 := F_signum_b25_27'
     refine Gs (fun _ tk => st27.trans tk) ?_
     show Goes _ _ _ _ _ (fT T27 m 239 #[vr a, vi 4, vi 0, vi ((((1 : Int32) &&& (own_z d0)) &&& (own_z f0)) &&& (own_z f1)), vi 1, vi 1, vi 2] [(.ref b25)])
     refine Goes.retH X27 hS rfl hk hZ (own_EW hw) hh hR (some (.ref b25)) (fun h => by rw [hret] at h; cases h) hlk (by decide) (by decide) ?_ (fun fs hr => ?_)
     ·exact ⟨b25, rfl, N27, KP, A_b25, F_signum_b25, g_b25, sz_b25⟩
     ·exact own_retA X27 hx hret rfl rfl (hb hby d22_239) hr
    intro J234_26
    by_cases hc218_28 : ((((1 : Int32) &&& (own_z d0)) &&& (own_z f0)) &&& (own_z f1)) = 0
    ·refine gy X25 hx hby d22_218 218 225 ((if0 _ _).trans (teq hc218_28).1) ?_
     refine gN X25 hx hby d22_225 rfl rfl ?_
     refine gu X25 hx hby d22_226 ((if0 _ _).trans (teq (by decide : ((0 : Int32) = (0 : Int32)))).2) ?_
     refine gC X25 hx hby d22_229 ?_
     refine gG X25 hx hby d22_230 230 234 ?_
     rw [show (own_sg (own_allz [d0, f0, f1]) (1 : Int32)) = 1 from by rw [← own_F3, own_sg, if_pos hc218_28]] at J234_26
     exact J234_26
    ·refine gu X25 hx hby d22_218 ((if0 _ _).trans (feq hc218_28).1) ?_
     refine gC X25 hx hby d22_221 ?_
     refine gG X25 hx hby d22_222 222 234 ?_
     rw [show (own_sg (own_allz [d0, f0, f1]) (1 : Int32)) = 0 from by rw [← own_F3, own_sg, if_neg hc218_28]] at J234_26
     exact J234_26
   intro J186_23
   by_cases hc178_29 : f1 = 48
   ·refine gU X22 hx hby d22_178 (teq hc178_29).2 ?_
    refine gC X22 hx hby d22_181 ?_
    refine gG X22 hx hby d22_182 182 186 ?_
    rw [show (own_z f1) = 1 from by rw [own_z, if_pos hc178_29]] at J186_23
    exact J186_23
   ·refine gY X22 hx hby d22_178 178 185 (feq hc178_29).2 ?_
    refine gC X22 hx hby d22_185 ?_
    rw [show (own_z f1) = 0 from by rw [own_z, if_neg hc178_29]] at J186_23
    exact J186_23
  intro J186_18
  by_cases hc178_30 : f0 = 48
  ·refine gU X17 hx hby d22_178 (teq hc178_30).2 ?_
   refine gC X17 hx hby d22_181 ?_
   refine gG X17 hx hby d22_182 182 186 ?_
   rw [show (own_z f0) = 1 from by rw [own_z, if_pos hc178_30]] at J186_18
   exact J186_18
  ·refine gY X17 hx hby d22_178 178 185 (feq hc178_30).2 ?_
   refine gC X17 hx hby d22_185 ?_
   rw [show (own_z f0) = 0 from by rw [own_z, if_neg hc178_30]] at J186_18
   exact J186_18
 intro J54_7
 by_cases hc46_31 : d0 = 48
 ·refine gU X6 hx hby d22_46 (teq hc46_31).2 ?_
  refine gC X6 hx hby d22_49 ?_
  refine gG X6 hx hby d22_50 50 54 ?_
  rw [show (own_z d0) = 1 from by rw [own_z, if_pos hc46_31]] at J54_7
  exact J54_7
 ·refine gY X6 hx hby d22_46 46 53 (feq hc46_31).2 ?_
  refine gC X6 hx hby d22_53 ?_
  rw [show (own_z d0) = 0 from by rw [own_z, if_neg hc46_31]] at J54_7
  exact J54_7
theorem own_ef_rm_so012 (m : MethodId) (x0 : Addr) : entryFrame m #[(.ref x0)] 1 = mkF m 0 #[vr x0] [] := by first | (simp [entryFrame, mkF, argsToLocals, Value.category]; done) | rfl
def Q_rm_so012 (Z : State) (a : Addr) (d0 : Int32) (f0 : Int32) (f1 : Int32) (cz : Int32) (fo : Value) (h0 : Heap) (n0 : Nat) (v : Option Value) (h : Heap) (L : List Loc) : Prop := v = some (.int (own_sg (own_allz [d0, f0, f1]) (1 : Int32))) ∧ Fr n0 L ∧ Keep h0 h []
theorem rm_so012 (l : Launch) (Z : State) (a0 : Array Value) (hw : HW a0 Z) (ws : List Jvm.Cond) (a : Addr) (d0 : Int32) (f0 : Int32) (f1 : Int32) (cz : Int32) (fo : Value) (h0 : Heap) (n0 : Nat) (Z0 : n0 ≤ h0.size) (T_a : StrOf Z h0 a [d0, (46 : Int32), f0, f1]) (hD_d0 : Dig d0) (hD_f0 : Dig f0) (hD_f1 : Dig f1) (sgC : Sta Z h0 "java/lang/String" "COMPACT_STRINGS" "Z" (.int cz)) (hcz : ¬ (cz = 0)) (sgF : Sta Z h0 "jdk/internal/util/Preconditions" "SIOOBE_FORMATTER" "Ljava/util/function/BiFunction;" fo) (r_fo : fo.isRef = true) :
  MetH l Z mN23 prog_29_method_6_code 1 (some .int) ({ frames := 5, cells := 5, slots := 30, locals := 77 } : Room) ws #[(.ref a)] h0 (Q_rm_so012 Z a d0 f0 f1 cz fo h0 n0) := by
 refine own_metH (plainFor_of_name own_pn8) ?_
 intro p e s m below meth c s₁ hret hx hby hlk hml hown hnm X0 e0 hZ hh hC0
 have N0 := Fr.nil n0
 have hS : s.Since s.vm h0.size := (State.WarmedH.refl s).since _
 have hk : h0.size ≤ h0.size := Nat.le_refl _
 replace hZ : Z.Warmed39 (s.setVm s.vm).vm := hZ
 have hR : CHr Z consts_1 s.vm h0 s.vm h0 := CHr.refl hC0
 refine Gz (castTop (own_ef_rm_so012 m a)) ?_
 have KP : Keep h0 h0 [] := Keep.refl _ _
 show Goes _ _ _ _ _ (fT s₁ m 0 #[vr a] [])
 refine gA X0 hx hby d23_0 rfl rfl rfl ?_
 obtain ⟨c1, T1, h1, kk1, cb1, kc1, X1, e1, E1, hS, hk1, hZ, hown, A_c1, F_coder_c1, F_value_c1, V_cb1, -, -, hC1, hL1, hsf1, st1⟩ := ldcCH X0 hx hZ hown (gw hw 41 rfl) (own_strW hw) e0 hS hk (own_EW hw) (List.mem_of_getElem? (i := 0) rfl) hR.1 (vs := [(.int 116), (.int 101), (.int 120), (.int 116)]) (z := (4 : Int32)) ⟨by first | decide | rfl, by first | decide | rfl⟩ (by decide) (by decide) (g := (mkF m 1 #[vr a] [(.ref a)])) rfl (hb hby d23_1) (n := 16) (by decide) (by decide) (by decide) (by decide)
 replace T_a := T_a.ext E1
 replace sgC := sgC.ext E1
 replace sgF := sgF.ext E1
 replace KP := KP.ext E1
 replace hR := hR.trans hC1
 replace Z0 : n0 ≤ h1.size := Nat.le_trans Z0 E1.1
 replace hk := hk1
 refine Gs st1 ?_
 show Goes _ _ _ _ _ (fT T1 m 3 #[vr a] [(.ref c1), (.ref a)])
 refine cS X1 hx hZ hw hown hby hml e1 mN15 44 45 47 46 0 (rm_nn l Z a0 hw [] a c1 h1 n0 Z0) d23_3 (lenOf own_pd17 rfl) N0 (fun T2 L2 X2 e2 N2 => ?_)
 show Goes _ _ _ _ _ (fT T2 m 6 #[vr a] [(.ref a)])
 refine Gz (XS.pop X2.here hx rfl (hb hby d23_6) rfl rfl) ?_
 refine gA X2 hx hby d23_7 rfl rfl rfl ?_
 obtain ⟨_, _, ⟨T3, L3, k3, n3⟩, -, X3, hS3, gr3, ⟨Lc3, hQ3, l3, y3, z3, hC3⟩, st3⟩ := callSS X2 hx (y := mN22) hown (gz hZ hw 48 rfl) (gz hZ hw 49 rfl) (gz hZ hw 39 rfl) (gz hZ hw 50 rfl) (by decide) (backOfSH (W := 0) (rm_cs012 l Z a0 hw [] a d0 f0 f1 cz fo h1 n0 Z0 T_a hD_d0 hD_f0 hD_f1 sgC hcz sgF r_fo) hZ (gw hw 50 rfl) (gw hw 39 rfl) (by decide) (by decide) (own_EW hw) hR.1) (g := (mkF m 8 #[vr a] [(.ref a)])) rfl hml.symm (argsL := [(.ref a)]) (rest := []) (lenOf own_pd18 rfl) rfl (wz rfl) (hb hby d23_8) (fun _ _ => ⟨rfl, e2, (by decide : 2 + 3 ≤ _), (by decide : 20 + 10 ≤ _)⟩)
 dsimp only [Pt.U, Pt.locs, Pt.cells, Pt.slots] at X3 l3 y3 z3 st3 hQ3 hS3 gr3 hC3
 subst l3 y3 z3
 obtain ⟨X3, hS, hZ, hown⟩ := rebS hS hk X3 hS3 (by have q := gr3; rw [e2] at q; exact q) hZ hown
 replace hk : T3.heap.size ≤ T3.heap.size := Nat.le_refl _
 obtain ⟨o3, rfl, N3q, K3, A_o3_3', F_signum_o3_3', g_o3_3', sz_o3_3'⟩ := hQ3
 have N3 := Fr.app N2 N3q
 replace hR := hR.trans hC3
 replace T_a := T_a.keep K3 all0
 replace KP := KP.trans K3 all0
 replace Z0 := Nat.le_trans Z0 K3.1
 have A_o3 := A_o3_3'
 have F_signum_o3 := F_signum_o3_3'
 refine Gs (fun _ tk => st3.trans tk) ?_
 show Goes _ _ _ _ _ (fT T3 m 11 #[vr a] [(.ref o3)])
 refine cV X3 hx hZ hw hown hby hml rfl mN14 118 119 121 120 122 104 0 (rm_sgn l Z a0 hw [] o3 (own_sg (own_allz [d0, f0, f1]) (1 : Int32)) T3.heap n0 Z0 F_signum_o3) A_o3 d23_11 (lenOf own_pd11 rfl) N3 (fun T4 L4 X4 e4 N4 => ?_)
 show Goes _ _ _ _ _ (fT T4 m 14 #[vr a] [(.int (own_sg (own_allz [d0, f0, f1]) (1 : Int32)))])
 refine Goes.retH X4 hS e4 hk hZ (own_EW hw) hh hR (some (.int (own_sg (own_allz [d0, f0, f1]) (1 : Int32)))) (fun h => by rw [hret] at h; cases h) hlk (by decide) (by decide) ?_ (fun fs hr => ?_)
 ·rw [e4]; exact ⟨rfl, N4, KP⟩
 ·exact retI X4 hx hret (hb hby d23_14) hr
theorem d22_73 : DK kc18 73 (.iload 4) 2 := by decide +kernel
theorem d22_75 : DK kc18 75 (.iconst 1) 1 := by decide +kernel
theorem d22_76 : DK kc18 76 (.if_icmp .le 17) 3 := by decide +kernel
theorem d22_79 : DK kc18 79 (.aload_n 0) 1 := by decide +kernel
theorem d22_80 : DK kc18 80 (.iload_n 2) 1 := by decide +kernel
theorem d22_81 : DK kc18 81 (.invokevirtual 110) 3 := by decide +kernel
theorem d22_84 : DK kc18 84 (.bipush 48) 2 := by decide +kernel
theorem d22_86 : DK kc18 86 (.if_icmp .eq 7) 3 := by decide +kernel
theorem own_ef_rm_cs020 (m : MethodId) (x0 : Addr) : entryFrame m #[(.ref x0)] 7 = mkF m 0 #[vr x0, vu, vu, vu, vu, vu, vu] [] := by first | (simp [entryFrame, mkF, argsToLocals, Value.category]; done) | rfl
def Q_rm_cs020 (Z : State) (a : Addr) (d0 : Int32) (d1 : Int32) (cz : Int32) (fo : Value) (h0 : Heap) (n0 : Nat) (v : Option Value) (h : Heap) (L : List Loc) : Prop := ∃ o : Addr, v = some (.ref o) ∧ Fr n0 L ∧ Keep h0 h [] ∧ Exa Z h o "com/example/modest_billing/modestbilling/Money$Shape" ∧ Fld Z h o "com/example/modest_billing/modestbilling/Money$Shape" "signum" "I" (.int (own_sg (own_allz [d0, d1]) (1 : Int32))) ∧ n0 ≤ o ∧ h0.size ≤ o
theorem rm_cs020 (l : Launch) (Z : State) (a0 : Array Value) (hw : HW a0 Z) (ws : List Jvm.Cond) (a : Addr) (d0 : Int32) (d1 : Int32) (cz : Int32) (fo : Value) (h0 : Heap) (n0 : Nat) (Z0 : n0 ≤ h0.size) (T_a : StrOf Z h0 a [d0, d1]) (hD_d0 : Dig d0) (hD_d1 : Dig d1) (hN8 : ¬ (d0 = 48)) (sgC : Sta Z h0 "java/lang/String" "COMPACT_STRINGS" "Z" (.int cz)) (hcz : ¬ (cz = 0)) (sgF : Sta Z h0 "jdk/internal/util/Preconditions" "SIOOBE_FORMATTER" "Ljava/util/function/BiFunction;" fo) (r_fo : fo.isRef = true) :
  MetH l Z mN22 prog_29_method_8_code 7 (some (.object "com/example/modest_billing/modestbilling/Money$Shape")) ({ frames := 4, cells := 3, slots := 10, locals := 59 } : Room) ws #[(.ref a)] h0 (Q_rm_cs020 Z a d0 d1 cz fo h0 n0) := by
 refine own_metH (plainFor_of_name own_pn8) ?_
 intro p e s m below meth c s₁ hret hx hby hlk hml hown hnm X0 e0 hZ hh hC0
 have N0 := Fr.nil n0
 have hS : s.Since s.vm h0.size := (State.WarmedH.refl s).since _
 have hk : h0.size ≤ h0.size := Nat.le_refl _
 replace hZ : Z.Warmed39 (s.setVm s.vm).vm := hZ
 have hR : CHr Z consts_1 s.vm h0 s.vm h0 := CHr.refl hC0
 refine Gz (castTop (own_ef_rm_cs020 m a)) ?_
 have KP : Keep h0 h0 [] := Keep.refl _ _
 show Goes _ _ _ _ _ (fT s₁ m 0 #[vr a, vu, vu, vu, vu, vu, vu] [])
 refine gA X0 hx hby d22_0 rfl rfl rfl ?_
 obtain ⟨c1, T1, h1, kk1, cb1, kc1, X1, e1, E1, hS, hk1, hZ, hown, A_c1, F_coder_c1, F_value_c1, V_cb1, -, -, hC1, hL1, hsf1, st1⟩ := ldcCH X0 hx hZ hown (gw hw 51 rfl) (own_strW hw) e0 hS hk (own_EW hw) (List.mem_of_getElem? (i := 1) rfl) hR.1 (vs := [(.int 45)]) (z := (1 : Int32)) ⟨by first | decide | rfl, by first | decide | rfl⟩ (by decide) (by decide) (g := (mkF m 1 #[vr a, vu, vu, vu, vu, vu, vu] [(.ref a)])) rfl (hb hby d22_1) (n := 4) (by decide) (by decide) (by decide) (by decide)
 replace T_a := T_a.ext E1
 replace sgC := sgC.ext E1
 replace sgF := sgF.ext E1
 replace KP := KP.ext E1
 replace hR := hR.trans hC1
 replace Z0 : n0 ≤ h1.size := Nat.le_trans Z0 E1.1
 replace hk := hk1
 refine Gs st1 ?_
 show Goes _ _ _ _ _ (fT T1 m 3 #[vr a, vu, vu, vu, vu, vu, vu] [(.ref c1), (.ref a)])
 have T_c1 : StrOf Z h1 c1 [(45 : Int32)] := StrOf.latin A_c1 F_value_c1 F_coder_c1 V_cb1 (by intro c hc; rw [List.mem_singleton.mp hc]; exact own_lat45) rfl rfl (Nat.le_of_ble_eq_true rfl)
 refine cV X1 hx hZ hw hown hby hml e1 mN21 52 53 55 54 56 9 0 (rm_sw10 l Z a0 hw [] a c1 [d0, d1] d0 cz h1 n0 Z0 T_a T_c1 (own_il 0 _ (by decide) (by simp) T_a.len) rfl hD_d0 sgC hcz) T_a.exa d22_3 (lenOf own_pd14 rfl) N0 (fun T2 L2 X2 e2 N2 => ?_)
 show Goes _ _ _ _ _ (fT T2 m 6 #[vr a, vu, vu, vu, vu, vu, vu] [(.int 0)])
 refine gy X2 hx hby d22_6 6 13 ((if0 _ _).trans (teq (by decide : ((0 : Int32) = (0 : Int32)))).1) ?_
 refine gC X2 hx hby d22_13 ?_
 refine gs X2 hx hby d22_14 #[vr a, vi 0, vu, vu, vu, vu, vu] ?_
 refine gN X2 hx hby d22_15 rfl rfl ?_
 refine gs X2 hx hby d22_16 #[vr a, vi 0, vi 0, vu, vu, vu, vu] ?_
 refine gC X2 hx hby d22_17 ?_
 show Goes _ _ _ _ _ (fT T2 m 18 #[vr a, vi 0, vi 0, vu, vu, vu, vu] [(.int 1)])
 refine gs X2 hx hby d22_18 #[vr a, vi 0, vi 0, vi 1, vu, vu, vu] ?_
 refine gN X2 hx hby d22_19 rfl rfl ?_
 refine gA X2 hx hby d22_20 rfl rfl rfl ?_
 refine cV X2 hx hZ hw hown hby hml e2 mN2 76 63 65 64 66 9 1 (rs_len l Z a0 hw [] a [d0, d1] cz h1 n0 Z0 T_a sgC hcz) T_a.exa d22_21 (lenOf own_pd11 rfl) N2 (fun T3 L3 X3 e3 N3 => ?_)
 show Goes _ _ _ _ _ (fT T3 m 24 #[vr a, vi 0, vi 0, vi 1, vu, vu, vu] [(.int 2), (.int 0)])
 refine gU X3 hx hby d22_24 (tlt (by decide : ((0 : Int32) < (2 : Int32)))).2.1 ?_
 refine gA X3 hx hby d22_27 rfl rfl rfl ?_
 refine gN X3 hx hby d22_28 rfl rfl ?_
 refine cV X3 hx hZ hw hown hby hml e3 mN6 77 78 80 79 81 9 0 (rs_chr l Z a0 hw [] a [d0, d1] (0 : Int32) d0 cz fo h1 n0 Z0 T_a sgC hcz (by first | assumption | decide) (own_il 0 _ (by decide) (by simp) T_a.len) rfl sgF r_fo) T_a.exa d22_29 (lenOf own_pd15 rfl) N3 (fun T4 L4 X4 e4 N4 => ?_)
 show Goes _ _ _ _ _ (fT T4 m 32 #[vr a, vi 0, vi 0, vi 1, vu, vu, vu] [(.int d0)])
 refine cS X4 hx hZ hw hown hby hml e4 mN17 99 100 101 39 0 (rm_isd l Z a0 hw [] d0 h1 n0 Z0 (own_n48 hD_d0).1 (own_n48 hD_d0).2) d22_32 (lenOf own_pd16 rfl) N4 (fun T5 L5 X5 e5 N5 => ?_)
 show Goes _ _ _ _ _ (fT T5 m 35 #[vr a, vi 0, vi 0, vi 1, vu, vu, vu] [(.int 1)])
 refine gu X5 hx hby d22_35 ((if0 _ _).trans (feq (by decide : ¬ ((1 : Int32) = (0 : Int32)))).1) ?_
 refine gN X5 hx hby d22_38 rfl rfl ?_
 refine gA X5 hx hby d22_39 rfl rfl rfl ?_
 refine gN X5 hx hby d22_40 rfl rfl ?_
 refine cV X5 hx hZ hw hown hby hml e5 mN6 77 78 80 79 81 9 1 (rs_chr l Z a0 hw [] a [d0, d1] (0 : Int32) d0 cz fo h1 n0 Z0 T_a sgC hcz (by first | assumption | decide) (own_il 0 _ (by decide) (by simp) T_a.len) rfl sgF r_fo) T_a.exa d22_41 (lenOf own_pd15 rfl) N5 (fun T6 L6 X6 e6 N6 => ?_)
 show Goes _ _ _ _ _ (fT T6 m 44 #[vr a, vi 0, vi 0, vi 1, vu, vu, vu] [(.int d0), (.int 1)])
 refine gB X6 hx hby d22_44 ?_
 show Goes _ _ _ _ _ (fT T6 m 46 #[vr a, vi 0, vi 0, vi 1, vu, vu, vu] [(.int 48), (.int d0), (.int 1)])
 refine own_join (B := T6.setTop (mkF m 54 #[vr a, vi 0, vi 0, vi 1, vu, vu, vu] [(.int (own_z d0)), (.int 1)])) ?_ ?_
 ·show Goes _ _ _ _ _ (fT T6 m 54 #[vr a, vi 0, vi 0, vi 1, vu, vu, vu] [(.int (own_z d0)), (.int 1)])
  refine Gz (XS.iand X6.here hx rfl (hb hby d22_54) rfl) ?_
  show Goes _ _ _ _ _ (fT T6 m 55 #[vr a, vi 0, vi 0, vi 1, vu, vu, vu] [(.int ((1 : Int32) &&& (own_z d0)))])
  refine gs X6 hx hby d22_55 #[vr a, vi 0, vi 0, vi ((1 : Int32) &&& (own_z d0)), vu, vu, vu] ?_
  show Goes _ _ _ _ _ (fT T6 m 56 #[vr a, vi 0, vi 0, vi ((1 : Int32) &&& (own_z d0)), vu, vu, vu] [])
  refine Gz (XS.iinc X6.here hx rfl (hb hby d22_56) rfl (l' := #[vr a, vi ((0 : Int32) + (1 : Int32)), vi 0, vi ((1 : Int32) &&& (own_z d0)), vu, vu, vu]) rfl) ?_
  show Goes _ _ _ _ _ (fT T6 m 59 #[vr a, vi 1, vi 0, vi ((1 : Int32) &&& (own_z d0)), vu, vu, vu] [])
  refine gG X6 hx hby d22_59 59 19 ?_
  refine gN X6 hx hby d22_19 rfl rfl ?_
  refine gA X6 hx hby d22_20 rfl rfl rfl ?_
  refine cV X6 hx hZ hw hown hby hml e6 mN2 76 63 65 64 66 9 1 (rs_len l Z a0 hw [] a [d0, d1] cz h1 n0 Z0 T_a sgC hcz) T_a.exa d22_21 (lenOf own_pd11 rfl) N6 (fun T8 L8 X8 e8 N8 => ?_)
  show Goes _ _ _ _ _ (fT T8 m 24 #[vr a, vi 1, vi 0, vi ((1 : Int32) &&& (own_z d0)), vu, vu, vu] [(.int 2), (.int 1)])
  refine gU X8 hx hby d22_24 (tlt (by decide : ((1 : Int32) < (2 : Int32)))).2.1 ?_
  refine gA X8 hx hby d22_27 rfl rfl rfl ?_
  refine gN X8 hx hby d22_28 rfl rfl ?_
  refine cV X8 hx hZ hw hown hby hml e8 mN6 77 78 80 79 81 9 0 (rs_chr l Z a0 hw [] a [d0, d1] (1 : Int32) d1 cz fo h1 n0 Z0 T_a sgC hcz (by first | assumption | decide) (own_il 1 _ (by decide) (by simp) T_a.len) rfl sgF r_fo) T_a.exa d22_29 (lenOf own_pd15 rfl) N8 (fun T9 L9 X9 e9 N9 => ?_)
  show Goes _ _ _ _ _ (fT T9 m 32 #[vr a, vi 1, vi 0, vi ((1 : Int32) &&& (own_z d0)), vu, vu, vu] [(.int d1)])
  refine cS X9 hx hZ hw hown hby hml e9 mN17 99 100 101 39 0 (rm_isd l Z a0 hw [] d1 h1 n0 Z0 (own_n48 hD_d1).1 (own_n48 hD_d1).2) d22_32 (lenOf own_pd16 rfl) N9 (fun T10 L10 X10 e10 N10 => ?_)
  show Goes _ _ _ _ _ (fT T10 m 35 #[vr a, vi 1, vi 0, vi ((1 : Int32) &&& (own_z d0)), vu, vu, vu] [(.int 1)])
  refine gu X10 hx hby d22_35 ((if0 _ _).trans (feq (by decide : ¬ ((1 : Int32) = (0 : Int32)))).1) ?_
  refine gN X10 hx hby d22_38 rfl rfl ?_
  refine gA X10 hx hby d22_39 rfl rfl rfl ?_
  refine gN X10 hx hby d22_40 rfl rfl ?_
  refine cV X10 hx hZ hw hown hby hml e10 mN6 77 78 80 79 81 9 1 (rs_chr l Z a0 hw [] a [d0, d1] (1 : Int32) d1 cz fo h1 n0 Z0 T_a sgC hcz (by first | assumption | decide) (own_il 1 _ (by decide) (by simp) T_a.len) rfl sgF r_fo) T_a.exa d22_41 (lenOf own_pd15 rfl) N10 (fun T11 L11 X11 e11 N11 => ?_)
  show Goes _ _ _ _ _ (fT T11 m 44 #[vr a, vi 1, vi 0, vi ((1 : Int32) &&& (own_z d0)), vu, vu, vu] [(.int d1), (.int ((1 : Int32) &&& (own_z d0)))])
  refine gB X11 hx hby d22_44 ?_
  show Goes _ _ _ _ _ (fT T11 m 46 #[vr a, vi 1, vi 0, vi ((1 : Int32) &&& (own_z d0)), vu, vu, vu] [(.int 48), (.int d1), (.int ((1 : Int32) &&& (own_z d0)))])
  refine own_join (B := T11.setTop (mkF m 54 #[vr a, vi 1, vi 0, vi ((1 : Int32) &&& (own_z d0)), vu, vu, vu] [(.int (own_z d1)), (.int ((1 : Int32) &&& (own_z d0)))])) ?_ ?_
  ·show Goes _ _ _ _ _ (fT T11 m 54 #[vr a, vi 1, vi 0, vi ((1 : Int32) &&& (own_z d0)), vu, vu, vu] [(.int (own_z d1)), (.int ((1 : Int32) &&& (own_z d0)))])
   refine Gz (XS.iand X11.here hx rfl (hb hby d22_54) rfl) ?_
   show Goes _ _ _ _ _ (fT T11 m 55 #[vr a, vi 1, vi 0, vi ((1 : Int32) &&& (own_z d0)), vu, vu, vu] [(.int (((1 : Int32) &&& (own_z d0)) &&& (own_z d1)))])
   refine gs X11 hx hby d22_55 #[vr a, vi 1, vi 0, vi (((1 : Int32) &&& (own_z d0)) &&& (own_z d1)), vu, vu, vu] ?_
   show Goes _ _ _ _ _ (fT T11 m 56 #[vr a, vi 1, vi 0, vi (((1 : Int32) &&& (own_z d0)) &&& (own_z d1)), vu, vu, vu] [])
   refine Gz (XS.iinc X11.here hx rfl (hb hby d22_56) rfl (l' := #[vr a, vi ((1 : Int32) + (1 : Int32)), vi 0, vi (((1 : Int32) &&& (own_z d0)) &&& (own_z d1)), vu, vu, vu]) rfl) ?_
   show Goes _ _ _ _ _ (fT T11 m 59 #[vr a, vi 2, vi 0, vi (((1 : Int32) &&& (own_z d0)) &&& (own_z d1)), vu, vu, vu] [])
   refine gG X11 hx hby d22_59 59 19 ?_
   refine gN X11 hx hby d22_19 rfl rfl ?_
   refine gA X11 hx hby d22_20 rfl rfl rfl ?_
   refine cV X11 hx hZ hw hown hby hml e11 mN2 76 63 65 64 66 9 1 (rs_len l Z a0 hw [] a [d0, d1] cz h1 n0 Z0 T_a sgC hcz) T_a.exa d22_21 (lenOf own_pd11 rfl) N11 (fun T13 L13 X13 e13 N13 => ?_)
   show Goes _ _ _ _ _ (fT T13 m 24 #[vr a, vi 2, vi 0, vi (((1 : Int32) &&& (own_z d0)) &&& (own_z d1)), vu, vu, vu] [(.int 2), (.int 2)])
   refine gY X13 hx hby d22_24 24 62 (flt (by decide : ¬ ((2 : Int32) < (2 : Int32)))).2.1 ?_
   refine gN X13 hx hby d22_62 rfl rfl ?_
   refine gN X13 hx hby d22_63 rfl rfl ?_
   show Goes _ _ _ _ _ (fT T13 m 64 #[vr a, vi 2, vi 0, vi (((1 : Int32) &&& (own_z d0)) &&& (own_z d1)), vu, vu, vu] [(.int 0), (.int 2)])
   refine Gz (XS.isub X13.here hx rfl (hb hby d22_64) rfl) ?_
   show Goes _ _ _ _ _ (fT T13 m 65 #[vr a, vi 2, vi 0, vi (((1 : Int32) &&& (own_z d0)) &&& (own_z d1)), vu, vu, vu] [(.int 2)])
   refine gS X13 hx hby d22_65 #[vr a, vi 2, vi 0, vi (((1 : Int32) &&& (own_z d0)) &&& (own_z d1)), vi 2, vu, vu] ?_
   refine gI X13 hx hby d22_67 rfl rfl ?_
   refine gC X13 hx hby d22_69 ?_
   refine gU X13 hx hby d22_70 (feq (by decide : ¬ ((2 : Int32) = (1 : Int32)))).1 ?_
   refine gI X13 hx hby d22_73 rfl rfl ?_
   refine gC X13 hx hby d22_75 ?_
   show Goes _ _ _ _ _ (fT T13 m 76 #[vr a, vi 2, vi 0, vi (((1 : Int32) &&& (own_z d0)) &&& (own_z d1)), vi 2, vu, vu] [(.int 1), (.int 2)])
   refine gU X13 hx hby d22_76 (tlt (by decide : ((1 : Int32) < (2 : Int32)))).2.2.2 ?_
   refine gA X13 hx hby d22_79 rfl rfl rfl ?_
   refine gN X13 hx hby d22_80 rfl rfl ?_
   refine cV X13 hx hZ hw hown hby hml e13 mN6 77 78 80 79 81 9 0 (rs_chr l Z a0 hw [] a [d0, d1] (0 : Int32) d0 cz fo h1 n0 Z0 T_a sgC hcz (by first | assumption | decide) (own_il 0 _ (by decide) (by simp) T_a.len) rfl sgF r_fo) T_a.exa d22_81 (lenOf own_pd15 rfl) N13 (fun T14 L14 X14 e14 N14 => ?_)
   show Goes _ _ _ _ _ (fT T14 m 84 #[vr a, vi 2, vi 0, vi (((1 : Int32) &&& (own_z d0)) &&& (own_z d1)), vi 2, vu, vu] [(.int d0)])
   refine gB X14 hx hby d22_84 ?_
   refine gU X14 hx hby d22_86 (feq hN8).1 ?_
   refine gC X14 hx hby d22_89 ?_
   refine gG X14 hx hby d22_90 90 94 ?_
   refine gS X14 hx hby d22_94 #[vr a, vi 2, vi 0, vi (((1 : Int32) &&& (own_z d0)) &&& (own_z d1)), vi 2, vi 1, vu] ?_
   refine gC X14 hx hby d22_96 ?_
   show Goes _ _ _ _ _ (fT T14 m 97 #[vr a, vi 2, vi 0, vi (((1 : Int32) &&& (own_z d0)) &&& (own_z d1)), vi 2, vi 1, vu] [(.int 0)])
   refine gS X14 hx hby d22_97 #[vr a, vi 2, vi 0, vi (((1 : Int32) &&& (own_z d0)) &&& (own_z d1)), vi 2, vi 1, vi 0] ?_
   refine gI X14 hx hby d22_99 rfl rfl ?_
   refine gu X14 hx hby d22_101 ((if0 _ _).trans (feq (by decide : ¬ ((1 : Int32) = (0 : Int32)))).1) ?_
   refine gN X14 hx hby d22_104 rfl rfl ?_
   refine gA X14 hx hby d22_105 rfl rfl rfl ?_
   refine cV X14 hx hZ hw hown hby hml e14 mN2 76 63 65 64 66 9 1 (rs_len l Z a0 hw [] a [d0, d1] cz h1 n0 Z0 T_a sgC hcz) T_a.exa d22_106 (lenOf own_pd11 rfl) N14 (fun T15 L15 X15 e15 N15 => ?_)
   show Goes _ _ _ _ _ (fT T15 m 109 #[vr a, vi 2, vi 0, vi (((1 : Int32) &&& (own_z d0)) &&& (own_z d1)), vi 2, vi 1, vi 0] [(.int 2), (.int 2)])
   refine gY X15 hx hby d22_109 109 194 (flt (by decide : ¬ ((2 : Int32) < (2 : Int32)))).2.1 ?_
   refine gI X15 hx hby d22_194 rfl rfl ?_
   refine gy X15 hx hby d22_196 196 213 ((if0 _ _).trans (feq (by decide : ¬ ((1 : Int32) = (0 : Int32)))).2) ?_
   obtain ⟨T16, h16, X16, e16, E16, A16, D16, -, st16⟩ := newO X15 hx hZ hown (gw hw 102 rfl) (gw hw 103 rfl) (gw hw 104 rfl) e15 (g := (mkF m 213 #[vr a, vi 2, vi 0, vi (((1 : Int32) &&& (own_z d0)) &&& (own_z d1)), vi 2, vi 1, vi 0] [])) rfl (hb hby d22_213) (by decide) (by decide)
   obtain ⟨b16, gq16⟩ : ∃ z, z = h1.size := ⟨_, rfl⟩
   rw [← gq16] at A16 st16 D16
   have g_b16 : n0 ≤ b16 := by rw [gq16]; exact Z0
   have sz_b16 : h0.size ≤ b16 := by rw [gq16]; exact KP.1
   have ne_a_b16 : a ≠ b16 := by rw [gq16]; exact Nat.ne_of_lt T_a.lt
   have ne_c1_b16 : c1 ≠ b16 := by rw [gq16]; exact Nat.ne_of_lt A_c1.lt
   have ne_cb1_b16 : cb1 ≠ b16 := by rw [gq16]; exact Nat.ne_of_lt V_cb1.lt
   have Sf_b16 : Safe Z consts_1 T1.vm h1 b16 := Safe.new (Nat.le_of_eq gq16.symm)
   replace Sf_b16 := Safe.ext E16 hR.1 Sf_b16
   replace hR := hR.trans (CHr.ext E16 hR.1)
   replace T_a := T_a.ext E16
   replace T_c1 := T_c1.ext E16
   replace KP := KP.ext E16
   replace Z0 : n0 ≤ h16.size := Nat.le_trans Z0 E16.1
   replace hk := Nat.le_trans hk E16.1
   have A_b16 : Exa Z h16 b16 "com/example/modest_billing/modestbilling/Money$Shape" := A16
   have F_signum_b16 : Fld Z h16 b16 "com/example/modest_billing/modestbilling/Money$Shape" "signum" "I" (.int 0) := D16 (Or.inr (gw hw 115 rfl)) (ty := .int) (by decide)
   have F_fractionDigits_b16 : Fld Z h16 b16 "com/example/modest_billing/modestbilling/Money$Shape" "fractionDigits" "I" (.int 0) := D16 (Or.inr (gw hw 117 rfl)) (ty := .int) (by decide)
   refine Gs st16 ?_
   show Goes _ _ _ _ _ (fT T16 m 216 #[vr a, vi 2, vi 0, vi (((1 : Int32) &&& (own_z d0)) &&& (own_z d1)), vi 2, vi 1, vi 0] [(.ref b16)])
   refine Gz (XS.dup X16.here hx rfl (hb hby d22_216) rfl rfl) ?_
   refine gN X16 hx hby d22_217 rfl rfl ?_
   show Goes _ _ _ _ _ (fT T16 m 218 #[vr a, vi 2, vi 0, vi (((1 : Int32) &&& (own_z d0)) &&& (own_z d1)), vi 2, vi 1, vi 0] [(.int (((1 : Int32) &&& (own_z d0)) &&& (own_z d1))), (.ref b16), (.ref b16)])
   refine own_join (B := T16.setTop (mkF m 234 #[vr a, vi 2, vi 0, vi (((1 : Int32) &&& (own_z d0)) &&& (own_z d1)), vi 2, vi 1, vi 0] [(.int (own_sg (own_allz [d0, d1]) (1 : Int32))), (.ref b16), (.ref b16)])) ?_ ?_
   ·show Goes _ _ _ _ _ (fT T16 m 234 #[vr a, vi 2, vi 0, vi (((1 : Int32) &&& (own_z d0)) &&& (own_z d1)), vi 2, vi 1, vi 0] [(.int (own_sg (own_allz [d0, d1]) (1 : Int32))), (.ref b16), (.ref b16)])
    refine gI X16 hx hby d22_234 rfl rfl ?_
    obtain ⟨_, _, ⟨T18, L18, k18, n18⟩, -, X18, ⟨Lc18, hQ18, l18, y18, z18⟩, st18⟩ := own_specialRef X16 hx hZ (y := mN13) rfl hown (gw hw 105 rfl) (gw hw 106 rfl) (gw hw 107 rfl) (by decide) (backOf (W := 1) (rm_shi l Z a0 hw [] b16 (own_sg (own_allz [d0, d1]) (1 : Int32)) (0 : Int32) h16 n0 Z0 A_b16 F_signum_b16 F_fractionDigits_b16 g_b16) hZ (gw hw 107 rfl) (gw hw 104 rfl) (by decide) (by decide)) (g := (mkF m 236 #[vr a, vi 2, vi 0, vi (((1 : Int32) &&& (own_z d0)) &&& (own_z d1)), vi 2, vi 1, vi 0] [(.int 0), (.int (own_sg (own_allz [d0, d1]) (1 : Int32))), (.ref b16), (.ref b16)])) rfl hml.symm (Steps.refl _) (a := b16) (argsL := [(.int (own_sg (own_allz [d0, d1]) (1 : Int32))), (.int 0)]) (rest := [(.ref b16)]) (lenOf own_pd2 rfl) rfl (wz rfl) (hb hby d22_236) (fun _ _ => ⟨rfl, e16, (by decide : 3 + 0 ≤ _), (by decide : 10 + 0 ≤ _)⟩)
    dsimp only [Pt.U, Pt.locs, Pt.cells, Pt.slots] at X18 l18 y18 z18 st18 hQ18
    subst l18 y18 z18
    obtain ⟨rfl, N18q, K18, F_signum_b16_18'⟩ := hQ18
    have N18 := Fr.app N15 N18q
    replace hR := hR.trans (CHr.keep K18 (allS Sf_b16 all0) hR.1)
    replace T_a := T_a.keep K18 (allS ⟨(Ne.symm ne_a_b16), (own_nbE A_b16 (gw hw 103 rfl))⟩ all0)
    replace T_c1 := T_c1.keep K18 (allS ⟨(Ne.symm ne_c1_b16), (own_nbE A_b16 (gw hw 103 rfl))⟩ all0)
    replace A_b16 := A_b16.keep K18
    replace KP := KP.trans K18 (allS (Or.inr sz_b16) all0)
    replace Z0 := Nat.le_trans Z0 K18.1
    replace hk := Nat.le_trans hk K18.1
    have F_signum_b16 := F_signum_b16_18'
    refine Gs (fun _ tk => st18.trans tk) ?_
    show Goes _ _ _ _ _ (fT T18 m 239 #[vr a, vi 2, vi 0, vi (((1 : Int32) &&& (own_z d0)) &&& (own_z d1)), vi 2, vi 1, vi 0] [(.ref b16)])
    refine Goes.retH X18 hS rfl hk hZ (own_EW hw) hh hR (some (.ref b16)) (fun h => by rw [hret] at h; cases h) hlk (by decide) (by decide) ?_ (fun fs hr => ?_)
    ·exact ⟨b16, rfl, N18, KP, A_b16, F_signum_b16, g_b16, sz_b16⟩
    ·exact own_retA X18 hx hret rfl rfl (hb hby d22_239) hr
   intro J234_17
   by_cases hc218_19 : (((1 : Int32) &&& (own_z d0)) &&& (own_z d1)) = 0
   ·refine gy X16 hx hby d22_218 218 225 ((if0 _ _).trans (teq hc218_19).1) ?_
    refine gN X16 hx hby d22_225 rfl rfl ?_
    refine gu X16 hx hby d22_226 ((if0 _ _).trans (teq (by decide : ((0 : Int32) = (0 : Int32)))).2) ?_
    refine gC X16 hx hby d22_229 ?_
    refine gG X16 hx hby d22_230 230 234 ?_
    rw [show (own_sg (own_allz [d0, d1]) (1 : Int32)) = 1 from by rw [← own_F2, own_sg, if_pos hc218_19]] at J234_17
    exact J234_17
   ·refine gu X16 hx hby d22_218 ((if0 _ _).trans (feq hc218_19).1) ?_
    refine gC X16 hx hby d22_221 ?_
    refine gG X16 hx hby d22_222 222 234 ?_
    rw [show (own_sg (own_allz [d0, d1]) (1 : Int32)) = 0 from by rw [← own_F2, own_sg, if_neg hc218_19]] at J234_17
    exact J234_17
  intro J54_12
  by_cases hc46_20 : d1 = 48
  ·refine gU X11 hx hby d22_46 (teq hc46_20).2 ?_
   refine gC X11 hx hby d22_49 ?_
   refine gG X11 hx hby d22_50 50 54 ?_
   rw [show (own_z d1) = 1 from by rw [own_z, if_pos hc46_20]] at J54_12
   exact J54_12
  ·refine gY X11 hx hby d22_46 46 53 (feq hc46_20).2 ?_
   refine gC X11 hx hby d22_53 ?_
   rw [show (own_z d1) = 0 from by rw [own_z, if_neg hc46_20]] at J54_12
   exact J54_12
 intro J54_7
 refine gY X6 hx hby d22_46 46 53 (feq hN8).2 ?_
 refine gC X6 hx hby d22_53 ?_
 rw [show (own_z d0) = 0 from by rw [own_z, if_neg hN8]] at J54_7
 exact J54_7
theorem own_ef_rm_so020 (m : MethodId) (x0 : Addr) : entryFrame m #[(.ref x0)] 1 = mkF m 0 #[vr x0] [] := by first | (simp [entryFrame, mkF, argsToLocals, Value.category]; done) | rfl
def Q_rm_so020 (Z : State) (a : Addr) (d0 : Int32) (d1 : Int32) (cz : Int32) (fo : Value) (h0 : Heap) (n0 : Nat) (v : Option Value) (h : Heap) (L : List Loc) : Prop := v = some (.int (own_sg (own_allz [d0, d1]) (1 : Int32))) ∧ Fr n0 L ∧ Keep h0 h []
theorem rm_so020 (l : Launch) (Z : State) (a0 : Array Value) (hw : HW a0 Z) (ws : List Jvm.Cond) (a : Addr) (d0 : Int32) (d1 : Int32) (cz : Int32) (fo : Value) (h0 : Heap) (n0 : Nat) (Z0 : n0 ≤ h0.size) (T_a : StrOf Z h0 a [d0, d1]) (hD_d0 : Dig d0) (hD_d1 : Dig d1) (hN8 : ¬ (d0 = 48)) (sgC : Sta Z h0 "java/lang/String" "COMPACT_STRINGS" "Z" (.int cz)) (hcz : ¬ (cz = 0)) (sgF : Sta Z h0 "jdk/internal/util/Preconditions" "SIOOBE_FORMATTER" "Ljava/util/function/BiFunction;" fo) (r_fo : fo.isRef = true) :
  MetH l Z mN23 prog_29_method_6_code 1 (some .int) ({ frames := 5, cells := 5, slots := 30, locals := 77 } : Room) ws #[(.ref a)] h0 (Q_rm_so020 Z a d0 d1 cz fo h0 n0) := by
 refine own_metH (plainFor_of_name own_pn8) ?_
 intro p e s m below meth c s₁ hret hx hby hlk hml hown hnm X0 e0 hZ hh hC0
 have N0 := Fr.nil n0
 have hS : s.Since s.vm h0.size := (State.WarmedH.refl s).since _
 have hk : h0.size ≤ h0.size := Nat.le_refl _
 replace hZ : Z.Warmed39 (s.setVm s.vm).vm := hZ
 have hR : CHr Z consts_1 s.vm h0 s.vm h0 := CHr.refl hC0
 refine Gz (castTop (own_ef_rm_so020 m a)) ?_
 have KP : Keep h0 h0 [] := Keep.refl _ _
 show Goes _ _ _ _ _ (fT s₁ m 0 #[vr a] [])
 refine gA X0 hx hby d23_0 rfl rfl rfl ?_
 obtain ⟨c1, T1, h1, kk1, cb1, kc1, X1, e1, E1, hS, hk1, hZ, hown, A_c1, F_coder_c1, F_value_c1, V_cb1, -, -, hC1, hL1, hsf1, st1⟩ := ldcCH X0 hx hZ hown (gw hw 41 rfl) (own_strW hw) e0 hS hk (own_EW hw) (List.mem_of_getElem? (i := 0) rfl) hR.1 (vs := [(.int 116), (.int 101), (.int 120), (.int 116)]) (z := (4 : Int32)) ⟨by first | decide | rfl, by first | decide | rfl⟩ (by decide) (by decide) (g := (mkF m 1 #[vr a] [(.ref a)])) rfl (hb hby d23_1) (n := 16) (by decide) (by decide) (by decide) (by decide)
 replace T_a := T_a.ext E1
 replace sgC := sgC.ext E1
 replace sgF := sgF.ext E1
 replace KP := KP.ext E1
 replace hR := hR.trans hC1
 replace Z0 : n0 ≤ h1.size := Nat.le_trans Z0 E1.1
 replace hk := hk1
 refine Gs st1 ?_
 show Goes _ _ _ _ _ (fT T1 m 3 #[vr a] [(.ref c1), (.ref a)])
 refine cS X1 hx hZ hw hown hby hml e1 mN15 44 45 47 46 0 (rm_nn l Z a0 hw [] a c1 h1 n0 Z0) d23_3 (lenOf own_pd17 rfl) N0 (fun T2 L2 X2 e2 N2 => ?_)
 show Goes _ _ _ _ _ (fT T2 m 6 #[vr a] [(.ref a)])
 refine Gz (XS.pop X2.here hx rfl (hb hby d23_6) rfl rfl) ?_
 refine gA X2 hx hby d23_7 rfl rfl rfl ?_
 obtain ⟨_, _, ⟨T3, L3, k3, n3⟩, -, X3, hS3, gr3, ⟨Lc3, hQ3, l3, y3, z3, hC3⟩, st3⟩ := callSS X2 hx (y := mN22) hown (gz hZ hw 48 rfl) (gz hZ hw 49 rfl) (gz hZ hw 39 rfl) (gz hZ hw 50 rfl) (by decide) (backOfSH (W := 0) (rm_cs020 l Z a0 hw [] a d0 d1 cz fo h1 n0 Z0 T_a hD_d0 hD_d1 hN8 sgC hcz sgF r_fo) hZ (gw hw 50 rfl) (gw hw 39 rfl) (by decide) (by decide) (own_EW hw) hR.1) (g := (mkF m 8 #[vr a] [(.ref a)])) rfl hml.symm (argsL := [(.ref a)]) (rest := []) (lenOf own_pd18 rfl) rfl (wz rfl) (hb hby d23_8) (fun _ _ => ⟨rfl, e2, (by decide : 2 + 3 ≤ _), (by decide : 20 + 10 ≤ _)⟩)
 dsimp only [Pt.U, Pt.locs, Pt.cells, Pt.slots] at X3 l3 y3 z3 st3 hQ3 hS3 gr3 hC3
 subst l3 y3 z3
 obtain ⟨X3, hS, hZ, hown⟩ := rebS hS hk X3 hS3 (by have q := gr3; rw [e2] at q; exact q) hZ hown
 replace hk : T3.heap.size ≤ T3.heap.size := Nat.le_refl _
 obtain ⟨o3, rfl, N3q, K3, A_o3_3', F_signum_o3_3', g_o3_3', sz_o3_3'⟩ := hQ3
 have N3 := Fr.app N2 N3q
 replace hR := hR.trans hC3
 replace T_a := T_a.keep K3 all0
 replace KP := KP.trans K3 all0
 replace Z0 := Nat.le_trans Z0 K3.1
 have A_o3 := A_o3_3'
 have F_signum_o3 := F_signum_o3_3'
 refine Gs (fun _ tk => st3.trans tk) ?_
 show Goes _ _ _ _ _ (fT T3 m 11 #[vr a] [(.ref o3)])
 refine cV X3 hx hZ hw hown hby hml rfl mN14 118 119 121 120 122 104 0 (rm_sgn l Z a0 hw [] o3 (own_sg (own_allz [d0, d1]) (1 : Int32)) T3.heap n0 Z0 F_signum_o3) A_o3 d23_11 (lenOf own_pd11 rfl) N3 (fun T4 L4 X4 e4 N4 => ?_)
 show Goes _ _ _ _ _ (fT T4 m 14 #[vr a] [(.int (own_sg (own_allz [d0, d1]) (1 : Int32)))])
 refine Goes.retH X4 hS e4 hk hZ (own_EW hw) hh hR (some (.int (own_sg (own_allz [d0, d1]) (1 : Int32)))) (fun h => by rw [hret] at h; cases h) hlk (by decide) (by decide) ?_ (fun fs hr => ?_)
 ·rw [e4]; exact ⟨rfl, N4, KP⟩
 ·exact retI X4 hx hret (hb hby d23_14) hr
theorem own_ef_rm_cs021 (m : MethodId) (x0 : Addr) : entryFrame m #[(.ref x0)] 7 = mkF m 0 #[vr x0, vu, vu, vu, vu, vu, vu] [] := by first | (simp [entryFrame, mkF, argsToLocals, Value.category]; done) | rfl
def Q_rm_cs021 (Z : State) (a : Addr) (d0 : Int32) (d1 : Int32) (f0 : Int32) (cz : Int32) (fo : Value) (h0 : Heap) (n0 : Nat) (v : Option Value) (h : Heap) (L : List Loc) : Prop := ∃ o : Addr, v = some (.ref o) ∧ Fr n0 L ∧ Keep h0 h [] ∧ Exa Z h o "com/example/modest_billing/modestbilling/Money$Shape" ∧ Fld Z h o "com/example/modest_billing/modestbilling/Money$Shape" "signum" "I" (.int (own_sg (own_allz [d0, d1, f0]) (1 : Int32))) ∧ n0 ≤ o ∧ h0.size ≤ o
theorem rm_cs021 (l : Launch) (Z : State) (a0 : Array Value) (hw : HW a0 Z) (ws : List Jvm.Cond) (a : Addr) (d0 : Int32) (d1 : Int32) (f0 : Int32) (cz : Int32) (fo : Value) (h0 : Heap) (n0 : Nat) (Z0 : n0 ≤ h0.size) (T_a : StrOf Z h0 a [d0, d1, (46 : Int32), f0]) (hD_d0 : Dig d0) (hD_d1 : Dig d1) (hD_f0 : Dig f0) (hN8 : ¬ (d0 = 48)) (sgC : Sta Z h0 "java/lang/String" "COMPACT_STRINGS" "Z" (.int cz)) (hcz : ¬ (cz = 0)) (sgF : Sta Z h0 "jdk/internal/util/Preconditions" "SIOOBE_FORMATTER" "Ljava/util/function/BiFunction;" fo) (r_fo : fo.isRef = true) :
  MetH l Z mN22 prog_29_method_8_code 7 (some (.object "com/example/modest_billing/modestbilling/Money$Shape")) ({ frames := 4, cells := 3, slots := 10, locals := 59 } : Room) ws #[(.ref a)] h0 (Q_rm_cs021 Z a d0 d1 f0 cz fo h0 n0) := by
 refine own_metH (plainFor_of_name own_pn8) ?_
 intro p e s m below meth c s₁ hret hx hby hlk hml hown hnm X0 e0 hZ hh hC0
 have N0 := Fr.nil n0
 have hS : s.Since s.vm h0.size := (State.WarmedH.refl s).since _
 have hk : h0.size ≤ h0.size := Nat.le_refl _
 replace hZ : Z.Warmed39 (s.setVm s.vm).vm := hZ
 have hR : CHr Z consts_1 s.vm h0 s.vm h0 := CHr.refl hC0
 refine Gz (castTop (own_ef_rm_cs021 m a)) ?_
 have KP : Keep h0 h0 [] := Keep.refl _ _
 show Goes _ _ _ _ _ (fT s₁ m 0 #[vr a, vu, vu, vu, vu, vu, vu] [])
 refine gA X0 hx hby d22_0 rfl rfl rfl ?_
 obtain ⟨c1, T1, h1, kk1, cb1, kc1, X1, e1, E1, hS, hk1, hZ, hown, A_c1, F_coder_c1, F_value_c1, V_cb1, -, -, hC1, hL1, hsf1, st1⟩ := ldcCH X0 hx hZ hown (gw hw 51 rfl) (own_strW hw) e0 hS hk (own_EW hw) (List.mem_of_getElem? (i := 1) rfl) hR.1 (vs := [(.int 45)]) (z := (1 : Int32)) ⟨by first | decide | rfl, by first | decide | rfl⟩ (by decide) (by decide) (g := (mkF m 1 #[vr a, vu, vu, vu, vu, vu, vu] [(.ref a)])) rfl (hb hby d22_1) (n := 4) (by decide) (by decide) (by decide) (by decide)
 replace T_a := T_a.ext E1
 replace sgC := sgC.ext E1
 replace sgF := sgF.ext E1
 replace KP := KP.ext E1
 replace hR := hR.trans hC1
 replace Z0 : n0 ≤ h1.size := Nat.le_trans Z0 E1.1
 replace hk := hk1
 refine Gs st1 ?_
 show Goes _ _ _ _ _ (fT T1 m 3 #[vr a, vu, vu, vu, vu, vu, vu] [(.ref c1), (.ref a)])
 have T_c1 : StrOf Z h1 c1 [(45 : Int32)] := StrOf.latin A_c1 F_value_c1 F_coder_c1 V_cb1 (by intro c hc; rw [List.mem_singleton.mp hc]; exact own_lat45) rfl rfl (Nat.le_of_ble_eq_true rfl)
 refine cV X1 hx hZ hw hown hby hml e1 mN21 52 53 55 54 56 9 0 (rm_sw10 l Z a0 hw [] a c1 [d0, d1, (46 : Int32), f0] d0 cz h1 n0 Z0 T_a T_c1 (own_il 0 _ (by decide) (by simp) T_a.len) rfl hD_d0 sgC hcz) T_a.exa d22_3 (lenOf own_pd14 rfl) N0 (fun T2 L2 X2 e2 N2 => ?_)
 show Goes _ _ _ _ _ (fT T2 m 6 #[vr a, vu, vu, vu, vu, vu, vu] [(.int 0)])
 refine gy X2 hx hby d22_6 6 13 ((if0 _ _).trans (teq (by decide : ((0 : Int32) = (0 : Int32)))).1) ?_
 refine gC X2 hx hby d22_13 ?_
 refine gs X2 hx hby d22_14 #[vr a, vi 0, vu, vu, vu, vu, vu] ?_
 refine gN X2 hx hby d22_15 rfl rfl ?_
 refine gs X2 hx hby d22_16 #[vr a, vi 0, vi 0, vu, vu, vu, vu] ?_
 refine gC X2 hx hby d22_17 ?_
 show Goes _ _ _ _ _ (fT T2 m 18 #[vr a, vi 0, vi 0, vu, vu, vu, vu] [(.int 1)])
 refine gs X2 hx hby d22_18 #[vr a, vi 0, vi 0, vi 1, vu, vu, vu] ?_
 refine gN X2 hx hby d22_19 rfl rfl ?_
 refine gA X2 hx hby d22_20 rfl rfl rfl ?_
 refine cV X2 hx hZ hw hown hby hml e2 mN2 76 63 65 64 66 9 1 (rs_len l Z a0 hw [] a [d0, d1, (46 : Int32), f0] cz h1 n0 Z0 T_a sgC hcz) T_a.exa d22_21 (lenOf own_pd11 rfl) N2 (fun T3 L3 X3 e3 N3 => ?_)
 show Goes _ _ _ _ _ (fT T3 m 24 #[vr a, vi 0, vi 0, vi 1, vu, vu, vu] [(.int 4), (.int 0)])
 refine gU X3 hx hby d22_24 (tlt (by decide : ((0 : Int32) < (4 : Int32)))).2.1 ?_
 refine gA X3 hx hby d22_27 rfl rfl rfl ?_
 refine gN X3 hx hby d22_28 rfl rfl ?_
 refine cV X3 hx hZ hw hown hby hml e3 mN6 77 78 80 79 81 9 0 (rs_chr l Z a0 hw [] a [d0, d1, (46 : Int32), f0] (0 : Int32) d0 cz fo h1 n0 Z0 T_a sgC hcz (by first | assumption | decide) (own_il 0 _ (by decide) (by simp) T_a.len) rfl sgF r_fo) T_a.exa d22_29 (lenOf own_pd15 rfl) N3 (fun T4 L4 X4 e4 N4 => ?_)
 show Goes _ _ _ _ _ (fT T4 m 32 #[vr a, vi 0, vi 0, vi 1, vu, vu, vu] [(.int d0)])
 refine cS X4 hx hZ hw hown hby hml e4 mN17 99 100 101 39 0 (rm_isd l Z a0 hw [] d0 h1 n0 Z0 (own_n48 hD_d0).1 (own_n48 hD_d0).2) d22_32 (lenOf own_pd16 rfl) N4 (fun T5 L5 X5 e5 N5 => ?_)
 show Goes _ _ _ _ _ (fT T5 m 35 #[vr a, vi 0, vi 0, vi 1, vu, vu, vu] [(.int 1)])
 refine gu X5 hx hby d22_35 ((if0 _ _).trans (feq (by decide : ¬ ((1 : Int32) = (0 : Int32)))).1) ?_
 refine gN X5 hx hby d22_38 rfl rfl ?_
 refine gA X5 hx hby d22_39 rfl rfl rfl ?_
 refine gN X5 hx hby d22_40 rfl rfl ?_
 refine cV X5 hx hZ hw hown hby hml e5 mN6 77 78 80 79 81 9 1 (rs_chr l Z a0 hw [] a [d0, d1, (46 : Int32), f0] (0 : Int32) d0 cz fo h1 n0 Z0 T_a sgC hcz (by first | assumption | decide) (own_il 0 _ (by decide) (by simp) T_a.len) rfl sgF r_fo) T_a.exa d22_41 (lenOf own_pd15 rfl) N5 (fun T6 L6 X6 e6 N6 => ?_)
 show Goes _ _ _ _ _ (fT T6 m 44 #[vr a, vi 0, vi 0, vi 1, vu, vu, vu] [(.int d0), (.int 1)])
 refine gB X6 hx hby d22_44 ?_
 show Goes _ _ _ _ _ (fT T6 m 46 #[vr a, vi 0, vi 0, vi 1, vu, vu, vu] [(.int 48), (.int d0), (.int 1)])
 refine own_join (B := T6.setTop (mkF m 54 #[vr a, vi 0, vi 0, vi 1, vu, vu, vu] [(.int (own_z d0)), (.int 1)])) ?_ ?_
 ·show Goes _ _ _ _ _ (fT T6 m 54 #[vr a, vi 0, vi 0, vi 1, vu, vu, vu] [(.int (own_z d0)), (.int 1)])
  refine Gz (XS.iand X6.here hx rfl (hb hby d22_54) rfl) ?_
  show Goes _ _ _ _ _ (fT T6 m 55 #[vr a, vi 0, vi 0, vi 1, vu, vu, vu] [(.int ((1 : Int32) &&& (own_z d0)))])
  refine gs X6 hx hby d22_55 #[vr a, vi 0, vi 0, vi ((1 : Int32) &&& (own_z d0)), vu, vu, vu] ?_
  show Goes _ _ _ _ _ (fT T6 m 56 #[vr a, vi 0, vi 0, vi ((1 : Int32) &&& (own_z d0)), vu, vu, vu] [])
  refine Gz (XS.iinc X6.here hx rfl (hb hby d22_56) rfl (l' := #[vr a, vi ((0 : Int32) + (1 : Int32)), vi 0, vi ((1 : Int32) &&& (own_z d0)), vu, vu, vu]) rfl) ?_
  show Goes _ _ _ _ _ (fT T6 m 59 #[vr a, vi 1, vi 0, vi ((1 : Int32) &&& (own_z d0)), vu, vu, vu] [])
  refine gG X6 hx hby d22_59 59 19 ?_
  refine gN X6 hx hby d22_19 rfl rfl ?_
  refine gA X6 hx hby d22_20 rfl rfl rfl ?_
  refine cV X6 hx hZ hw hown hby hml e6 mN2 76 63 65 64 66 9 1 (rs_len l Z a0 hw [] a [d0, d1, (46 : Int32), f0] cz h1 n0 Z0 T_a sgC hcz) T_a.exa d22_21 (lenOf own_pd11 rfl) N6 (fun T8 L8 X8 e8 N8 => ?_)
  show Goes _ _ _ _ _ (fT T8 m 24 #[vr a, vi 1, vi 0, vi ((1 : Int32) &&& (own_z d0)), vu, vu, vu] [(.int 4), (.int 1)])
  refine gU X8 hx hby d22_24 (tlt (by decide : ((1 : Int32) < (4 : Int32)))).2.1 ?_
  refine gA X8 hx hby d22_27 rfl rfl rfl ?_
  refine gN X8 hx hby d22_28 rfl rfl ?_
  refine cV X8 hx hZ hw hown hby hml e8 mN6 77 78 80 79 81 9 0 (rs_chr l Z a0 hw [] a [d0, d1, (46 : Int32), f0] (1 : Int32) d1 cz fo h1 n0 Z0 T_a sgC hcz (by first | assumption | decide) (own_il 1 _ (by decide) (by simp) T_a.len) rfl sgF r_fo) T_a.exa d22_29 (lenOf own_pd15 rfl) N8 (fun T9 L9 X9 e9 N9 => ?_)
  show Goes _ _ _ _ _ (fT T9 m 32 #[vr a, vi 1, vi 0, vi ((1 : Int32) &&& (own_z d0)), vu, vu, vu] [(.int d1)])
  refine cS X9 hx hZ hw hown hby hml e9 mN17 99 100 101 39 0 (rm_isd l Z a0 hw [] d1 h1 n0 Z0 (own_n48 hD_d1).1 (own_n48 hD_d1).2) d22_32 (lenOf own_pd16 rfl) N9 (fun T10 L10 X10 e10 N10 => ?_)
  show Goes _ _ _ _ _ (fT T10 m 35 #[vr a, vi 1, vi 0, vi ((1 : Int32) &&& (own_z d0)), vu, vu, vu] [(.int 1)])
  refine gu X10 hx hby d22_35 ((if0 _ _).trans (feq (by decide : ¬ ((1 : Int32) = (0 : Int32)))).1) ?_
  refine gN X10 hx hby d22_38 rfl rfl ?_
  refine gA X10 hx hby d22_39 rfl rfl rfl ?_
  refine gN X10 hx hby d22_40 rfl rfl ?_
  refine cV X10 hx hZ hw hown hby hml e10 mN6 77 78 80 79 81 9 1 (rs_chr l Z a0 hw [] a [d0, d1, (46 : Int32), f0] (1 : Int32) d1 cz fo h1 n0 Z0 T_a sgC hcz (by first | assumption | decide) (own_il 1 _ (by decide) (by simp) T_a.len) rfl sgF r_fo) T_a.exa d22_41 (lenOf own_pd15 rfl) N10 (fun T11 L11 X11 e11 N11 => ?_)
  show Goes _ _ _ _ _ (fT T11 m 44 #[vr a, vi 1, vi 0, vi ((1 : Int32) &&& (own_z d0)), vu, vu, vu] [(.int d1), (.int ((1 : Int32) &&& (own_z d0)))])
  refine gB X11 hx hby d22_44 ?_
  show Goes _ _ _ _ _ (fT T11 m 46 #[vr a, vi 1, vi 0, vi ((1 : Int32) &&& (own_z d0)), vu, vu, vu] [(.int 48), (.int d1), (.int ((1 : Int32) &&& (own_z d0)))])
  refine own_join (B := T11.setTop (mkF m 54 #[vr a, vi 1, vi 0, vi ((1 : Int32) &&& (own_z d0)), vu, vu, vu] [(.int (own_z d1)), (.int ((1 : Int32) &&& (own_z d0)))])) ?_ ?_
  ·show Goes _ _ _ _ _ (fT T11 m 54 #[vr a, vi 1, vi 0, vi ((1 : Int32) &&& (own_z d0)), vu, vu, vu] [(.int (own_z d1)), (.int ((1 : Int32) &&& (own_z d0)))])
   refine Gz (XS.iand X11.here hx rfl (hb hby d22_54) rfl) ?_
   show Goes _ _ _ _ _ (fT T11 m 55 #[vr a, vi 1, vi 0, vi ((1 : Int32) &&& (own_z d0)), vu, vu, vu] [(.int (((1 : Int32) &&& (own_z d0)) &&& (own_z d1)))])
   refine gs X11 hx hby d22_55 #[vr a, vi 1, vi 0, vi (((1 : Int32) &&& (own_z d0)) &&& (own_z d1)), vu, vu, vu] ?_
   show Goes _ _ _ _ _ (fT T11 m 56 #[vr a, vi 1, vi 0, vi (((1 : Int32) &&& (own_z d0)) &&& (own_z d1)), vu, vu, vu] [])
   refine Gz (XS.iinc X11.here hx rfl (hb hby d22_56) rfl (l' := #[vr a, vi ((1 : Int32) + (1 : Int32)), vi 0, vi (((1 : Int32) &&& (own_z d0)) &&& (own_z d1)), vu, vu, vu]) rfl) ?_
   show Goes _ _ _ _ _ (fT T11 m 59 #[vr a, vi 2, vi 0, vi (((1 : Int32) &&& (own_z d0)) &&& (own_z d1)), vu, vu, vu] [])
   refine gG X11 hx hby d22_59 59 19 ?_
   refine gN X11 hx hby d22_19 rfl rfl ?_
   refine gA X11 hx hby d22_20 rfl rfl rfl ?_
   refine cV X11 hx hZ hw hown hby hml e11 mN2 76 63 65 64 66 9 1 (rs_len l Z a0 hw [] a [d0, d1, (46 : Int32), f0] cz h1 n0 Z0 T_a sgC hcz) T_a.exa d22_21 (lenOf own_pd11 rfl) N11 (fun T13 L13 X13 e13 N13 => ?_)
   show Goes _ _ _ _ _ (fT T13 m 24 #[vr a, vi 2, vi 0, vi (((1 : Int32) &&& (own_z d0)) &&& (own_z d1)), vu, vu, vu] [(.int 4), (.int 2)])
   refine gU X13 hx hby d22_24 (tlt (by decide : ((2 : Int32) < (4 : Int32)))).2.1 ?_
   refine gA X13 hx hby d22_27 rfl rfl rfl ?_
   refine gN X13 hx hby d22_28 rfl rfl ?_
   refine cV X13 hx hZ hw hown hby hml e13 mN6 77 78 80 79 81 9 0 (rs_chr l Z a0 hw [] a [d0, d1, (46 : Int32), f0] (2 : Int32) (46 : Int32) cz fo h1 n0 Z0 T_a sgC hcz (by first | assumption | decide) (own_il 2 _ (by decide) (by simp) T_a.len) rfl sgF r_fo) T_a.exa d22_29 (lenOf own_pd15 rfl) N13 (fun T14 L14 X14 e14 N14 => ?_)
   show Goes _ _ _ _ _ (fT T14 m 32 #[vr a, vi 2, vi 0, vi (((1 : Int32) &&& (own_z d0)) &&& (own_z d1)), vu, vu, vu] [(.int 46)])
   refine cS X14 hx hZ hw hown hby hml e14 mN17 99 100 101 39 0 (rm_isn l Z a0 hw []  h1 n0 Z0) d22_32 (lenOf own_pd16 rfl) N14 (fun T15 L15 X15 e15 N15 => ?_)
   show Goes _ _ _ _ _ (fT T15 m 35 #[vr a, vi 2, vi 0, vi (((1 : Int32) &&& (own_z d0)) &&& (own_z d1)), vu, vu, vu] [(.int 0)])
   refine gy X15 hx hby d22_35 35 62 ((if0 _ _).trans (teq (by decide : ((0 : Int32) = (0 : Int32)))).1) ?_
   refine gN X15 hx hby d22_62 rfl rfl ?_
   refine gN X15 hx hby d22_63 rfl rfl ?_
   show Goes _ _ _ _ _ (fT T15 m 64 #[vr a, vi 2, vi 0, vi (((1 : Int32) &&& (own_z d0)) &&& (own_z d1)), vu, vu, vu] [(.int 0), (.int 2)])
   refine Gz (XS.isub X15.here hx rfl (hb hby d22_64) rfl) ?_
   show Goes _ _ _ _ _ (fT T15 m 65 #[vr a, vi 2, vi 0, vi (((1 : Int32) &&& (own_z d0)) &&& (own_z d1)), vu, vu, vu] [(.int 2)])
   refine gS X15 hx hby d22_65 #[vr a, vi 2, vi 0, vi (((1 : Int32) &&& (own_z d0)) &&& (own_z d1)), vi 2, vu, vu] ?_
   refine gI X15 hx hby d22_67 rfl rfl ?_
   refine gC X15 hx hby d22_69 ?_
   refine gU X15 hx hby d22_70 (feq (by decide : ¬ ((2 : Int32) = (1 : Int32)))).1 ?_
   refine gI X15 hx hby d22_73 rfl rfl ?_
   refine gC X15 hx hby d22_75 ?_
   show Goes _ _ _ _ _ (fT T15 m 76 #[vr a, vi 2, vi 0, vi (((1 : Int32) &&& (own_z d0)) &&& (own_z d1)), vi 2, vu, vu] [(.int 1), (.int 2)])
   refine gU X15 hx hby d22_76 (tlt (by decide : ((1 : Int32) < (2 : Int32)))).2.2.2 ?_
   refine gA X15 hx hby d22_79 rfl rfl rfl ?_
   refine gN X15 hx hby d22_80 rfl rfl ?_
   refine cV X15 hx hZ hw hown hby hml e15 mN6 77 78 80 79 81 9 0 (rs_chr l Z a0 hw [] a [d0, d1, (46 : Int32), f0] (0 : Int32) d0 cz fo h1 n0 Z0 T_a sgC hcz (by first | assumption | decide) (own_il 0 _ (by decide) (by simp) T_a.len) rfl sgF r_fo) T_a.exa d22_81 (lenOf own_pd15 rfl) N15 (fun T16 L16 X16 e16 N16 => ?_)
   show Goes _ _ _ _ _ (fT T16 m 84 #[vr a, vi 2, vi 0, vi (((1 : Int32) &&& (own_z d0)) &&& (own_z d1)), vi 2, vu, vu] [(.int d0)])
   refine gB X16 hx hby d22_84 ?_
   refine gU X16 hx hby d22_86 (feq hN8).1 ?_
   refine gC X16 hx hby d22_89 ?_
   refine gG X16 hx hby d22_90 90 94 ?_
   refine gS X16 hx hby d22_94 #[vr a, vi 2, vi 0, vi (((1 : Int32) &&& (own_z d0)) &&& (own_z d1)), vi 2, vi 1, vu] ?_
   refine gC X16 hx hby d22_96 ?_
   show Goes _ _ _ _ _ (fT T16 m 97 #[vr a, vi 2, vi 0, vi (((1 : Int32) &&& (own_z d0)) &&& (own_z d1)), vi 2, vi 1, vu] [(.int 0)])
   refine gS X16 hx hby d22_97 #[vr a, vi 2, vi 0, vi (((1 : Int32) &&& (own_z d0)) &&& (own_z d1)), vi 2, vi 1, vi 0] ?_
   refine gI X16 hx hby d22_99 rfl rfl ?_
   refine gu X16 hx hby d22_101 ((if0 _ _).trans (feq (by decide : ¬ ((1 : Int32) = (0 : Int32)))).1) ?_
   refine gN X16 hx hby d22_104 rfl rfl ?_
   refine gA X16 hx hby d22_105 rfl rfl rfl ?_
   refine cV X16 hx hZ hw hown hby hml e16 mN2 76 63 65 64 66 9 1 (rs_len l Z a0 hw [] a [d0, d1, (46 : Int32), f0] cz h1 n0 Z0 T_a sgC hcz) T_a.exa d22_106 (lenOf own_pd11 rfl) N16 (fun T17 L17 X17 e17 N17 => ?_)
   show Goes _ _ _ _ _ (fT T17 m 109 #[vr a, vi 2, vi 0, vi (((1 : Int32) &&& (own_z d0)) &&& (own_z d1)), vi 2, vi 1, vi 0] [(.int 4), (.int 2)])
   refine gU X17 hx hby d22_109 (tlt (by decide : ((2 : Int32) < (4 : Int32)))).2.1 ?_
   refine gA X17 hx hby d22_112 rfl rfl rfl ?_
   refine cV X17 hx hZ hw hown hby hml e17 mN2 76 63 65 64 66 9 0 (rs_len l Z a0 hw [] a [d0, d1, (46 : Int32), f0] cz h1 n0 Z0 T_a sgC hcz) T_a.exa d22_113 (lenOf own_pd11 rfl) N17 (fun T18 L18 X18 e18 N18 => ?_)
   show Goes _ _ _ _ _ (fT T18 m 116 #[vr a, vi 2, vi 0, vi (((1 : Int32) &&& (own_z d0)) &&& (own_z d1)), vi 2, vi 1, vi 0] [(.int 4)])
   refine gN X18 hx hby d22_116 rfl rfl ?_
   show Goes _ _ _ _ _ (fT T18 m 117 #[vr a, vi 2, vi 0, vi (((1 : Int32) &&& (own_z d0)) &&& (own_z d1)), vi 2, vi 1, vi 0] [(.int 2), (.int 4)])
   refine Gz (XS.isub X18.here hx rfl (hb hby d22_117) rfl) ?_
   show Goes _ _ _ _ _ (fT T18 m 118 #[vr a, vi 2, vi 0, vi (((1 : Int32) &&& (own_z d0)) &&& (own_z d1)), vi 2, vi 1, vi 0] [(.int 2)])
   refine gC X18 hx hby d22_118 ?_
   show Goes _ _ _ _ _ (fT T18 m 119 #[vr a, vi 2, vi 0, vi (((1 : Int32) &&& (own_z d0)) &&& (own_z d1)), vi 2, vi 1, vi 0] [(.int 1), (.int 2)])
   refine Gz (XS.isub X18.here hx rfl (hb hby d22_119) rfl) ?_
   show Goes _ _ _ _ _ (fT T18 m 120 #[vr a, vi 2, vi 0, vi (((1 : Int32) &&& (own_z d0)) &&& (own_z d1)), vi 2, vi 1, vi 0] [(.int 1)])
   refine gS X18 hx hby d22_120 #[vr a, vi 2, vi 0, vi (((1 : Int32) &&& (own_z d0)) &&& (own_z d1)), vi 2, vi 1, vi 1] ?_
   refine gA X18 hx hby d22_122 rfl rfl rfl ?_
   refine gN X18 hx hby d22_123 rfl rfl ?_
   refine cV X18 hx hZ hw hown hby hml e18 mN6 77 78 80 79 81 9 0 (rs_chr l Z a0 hw [] a [d0, d1, (46 : Int32), f0] (2 : Int32) (46 : Int32) cz fo h1 n0 Z0 T_a sgC hcz (by first | assumption | decide) (own_il 2 _ (by decide) (by simp) T_a.len) rfl sgF r_fo) T_a.exa d22_124 (lenOf own_pd15 rfl) N18 (fun T19 L19 X19 e19 N19 => ?_)
   show Goes _ _ _ _ _ (fT T19 m 127 #[vr a, vi 2, vi 0, vi (((1 : Int32) &&& (own_z d0)) &&& (own_z d1)), vi 2, vi 1, vi 1] [(.int 46)])
   refine gB X19 hx hby d22_127 ?_
   refine gU X19 hx hby d22_129 (teq (by decide : ((46 : Int32) = (46 : Int32)))).2 ?_
   refine gI X19 hx hby d22_132 rfl rfl ?_
   refine gu X19 hx hby d22_134 ((if0 _ _).trans (tlt (by decide : ((0 : Int32) < (1 : Int32)))).2.2.2) ?_
   refine gC X19 hx hby d22_137 ?_
   refine gG X19 hx hby d22_138 138 142 ?_
   show Goes _ _ _ _ _ (fT T19 m 142 #[vr a, vi 2, vi 0, vi (((1 : Int32) &&& (own_z d0)) &&& (own_z d1)), vi 2, vi 1, vi 1] [(.int 1)])
   refine gS X19 hx hby d22_142 #[vr a, vi 2, vi 0, vi (((1 : Int32) &&& (own_z d0)) &&& (own_z d1)), vi 2, vi 1, vi 1] ?_
   show Goes _ _ _ _ _ (fT T19 m 144 #[vr a, vi 2, vi 0, vi (((1 : Int32) &&& (own_z d0)) &&& (own_z d1)), vi 2, vi 1, vi 1] [])
   refine Gz (XS.iinc X19.here hx rfl (hb hby d22_144) rfl (l' := #[vr a, vi ((2 : Int32) + (1 : Int32)), vi 0, vi (((1 : Int32) &&& (own_z d0)) &&& (own_z d1)), vi 2, vi 1, vi 1]) rfl) ?_
   show Goes _ _ _ _ _ (fT T19 m 147 #[vr a, vi 3, vi 0, vi (((1 : Int32) &&& (own_z d0)) &&& (own_z d1)), vi 2, vi 1, vi 1] [])
   refine gI X19 hx hby d22_147 rfl rfl ?_
   refine gu X19 hx hby d22_149 ((if0 _ _).trans (feq (by decide : ¬ ((1 : Int32) = (0 : Int32)))).1) ?_
   refine gN X19 hx hby d22_152 rfl rfl ?_
   refine gA X19 hx hby d22_153 rfl rfl rfl ?_
   refine cV X19 hx hZ hw hown hby hml e19 mN2 76 63 65 64 66 9 1 (rs_len l Z a0 hw [] a [d0, d1, (46 : Int32), f0] cz h1 n0 Z0 T_a sgC hcz) T_a.exa d22_154 (lenOf own_pd11 rfl) N19 (fun T20 L20 X20 e20 N20 => ?_)
   show Goes _ _ _ _ _ (fT T20 m 157 #[vr a, vi 3, vi 0, vi (((1 : Int32) &&& (own_z d0)) &&& (own_z d1)), vi 2, vi 1, vi 1] [(.int 4), (.int 3)])
   refine gU X20 hx hby d22_157 (tlt (by decide : ((3 : Int32) < (4 : Int32)))).2.1 ?_
   refine gA X20 hx hby d22_160 rfl rfl rfl ?_
   refine gN X20 hx hby d22_161 rfl rfl ?_
   refine cV X20 hx hZ hw hown hby hml e20 mN6 77 78 80 79 81 9 0 (rs_chr l Z a0 hw [] a [d0, d1, (46 : Int32), f0] (3 : Int32) f0 cz fo h1 n0 Z0 T_a sgC hcz (by first | assumption | decide) (own_il 3 _ (by decide) (by simp) T_a.len) rfl sgF r_fo) T_a.exa d22_162 (lenOf own_pd15 rfl) N20 (fun T21 L21 X21 e21 N21 => ?_)
   show Goes _ _ _ _ _ (fT T21 m 165 #[vr a, vi 3, vi 0, vi (((1 : Int32) &&& (own_z d0)) &&& (own_z d1)), vi 2, vi 1, vi 1] [(.int f0)])
   refine cS X21 hx hZ hw hown hby hml e21 mN17 99 100 101 39 0 (rm_isd l Z a0 hw [] f0 h1 n0 Z0 (own_n48 hD_f0).1 (own_n48 hD_f0).2) d22_165 (lenOf own_pd16 rfl) N21 (fun T22 L22 X22 e22 N22 => ?_)
   show Goes _ _ _ _ _ (fT T22 m 168 #[vr a, vi 3, vi 0, vi (((1 : Int32) &&& (own_z d0)) &&& (own_z d1)), vi 2, vi 1, vi 1] [(.int 1)])
   refine gS X22 hx hby d22_168 #[vr a, vi 3, vi 0, vi (((1 : Int32) &&& (own_z d0)) &&& (own_z d1)), vi 2, vi 1, vi 1] ?_
   refine gN X22 hx hby d22_170 rfl rfl ?_
   refine gA X22 hx hby d22_171 rfl rfl rfl ?_
   refine gN X22 hx hby d22_172 rfl rfl ?_
   refine cV X22 hx hZ hw hown hby hml e22 mN6 77 78 80 79 81 9 1 (rs_chr l Z a0 hw [] a [d0, d1, (46 : Int32), f0] (3 : Int32) f0 cz fo h1 n0 Z0 T_a sgC hcz (by first | assumption | decide) (own_il 3 _ (by decide) (by simp) T_a.len) rfl sgF r_fo) T_a.exa d22_173 (lenOf own_pd15 rfl) N22 (fun T23 L23 X23 e23 N23 => ?_)
   show Goes _ _ _ _ _ (fT T23 m 176 #[vr a, vi 3, vi 0, vi (((1 : Int32) &&& (own_z d0)) &&& (own_z d1)), vi 2, vi 1, vi 1] [(.int f0), (.int (((1 : Int32) &&& (own_z d0)) &&& (own_z d1)))])
   refine gB X23 hx hby d22_176 ?_
   show Goes _ _ _ _ _ (fT T23 m 178 #[vr a, vi 3, vi 0, vi (((1 : Int32) &&& (own_z d0)) &&& (own_z d1)), vi 2, vi 1, vi 1] [(.int 48), (.int f0), (.int (((1 : Int32) &&& (own_z d0)) &&& (own_z d1)))])
   refine own_join (B := T23.setTop (mkF m 186 #[vr a, vi 3, vi 0, vi (((1 : Int32) &&& (own_z d0)) &&& (own_z d1)), vi 2, vi 1, vi 1] [(.int (own_z f0)), (.int (((1 : Int32) &&& (own_z d0)) &&& (own_z d1)))])) ?_ ?_
   ·show Goes _ _ _ _ _ (fT T23 m 186 #[vr a, vi 3, vi 0, vi (((1 : Int32) &&& (own_z d0)) &&& (own_z d1)), vi 2, vi 1, vi 1] [(.int (own_z f0)), (.int (((1 : Int32) &&& (own_z d0)) &&& (own_z d1)))])
    refine Gz (XS.iand X23.here hx rfl (hb hby d22_186) rfl) ?_
    show Goes _ _ _ _ _ (fT T23 m 187 #[vr a, vi 3, vi 0, vi (((1 : Int32) &&& (own_z d0)) &&& (own_z d1)), vi 2, vi 1, vi 1] [(.int ((((1 : Int32) &&& (own_z d0)) &&& (own_z d1)) &&& (own_z f0)))])
    refine gs X23 hx hby d22_187 #[vr a, vi 3, vi 0, vi ((((1 : Int32) &&& (own_z d0)) &&& (own_z d1)) &&& (own_z f0)), vi 2, vi 1, vi 1] ?_
    show Goes _ _ _ _ _ (fT T23 m 188 #[vr a, vi 3, vi 0, vi ((((1 : Int32) &&& (own_z d0)) &&& (own_z d1)) &&& (own_z f0)), vi 2, vi 1, vi 1] [])
    refine Gz (XS.iinc X23.here hx rfl (hb hby d22_188) rfl (l' := #[vr a, vi ((3 : Int32) + (1 : Int32)), vi 0, vi ((((1 : Int32) &&& (own_z d0)) &&& (own_z d1)) &&& (own_z f0)), vi 2, vi 1, vi 1]) rfl) ?_
    show Goes _ _ _ _ _ (fT T23 m 191 #[vr a, vi 4, vi 0, vi ((((1 : Int32) &&& (own_z d0)) &&& (own_z d1)) &&& (own_z f0)), vi 2, vi 1, vi 1] [])
    refine gG X23 hx hby d22_191 191 147 ?_
    refine gI X23 hx hby d22_147 rfl rfl ?_
    refine gu X23 hx hby d22_149 ((if0 _ _).trans (feq (by decide : ¬ ((1 : Int32) = (0 : Int32)))).1) ?_
    refine gN X23 hx hby d22_152 rfl rfl ?_
    refine gA X23 hx hby d22_153 rfl rfl rfl ?_
    refine cV X23 hx hZ hw hown hby hml e23 mN2 76 63 65 64 66 9 1 (rs_len l Z a0 hw [] a [d0, d1, (46 : Int32), f0] cz h1 n0 Z0 T_a sgC hcz) T_a.exa d22_154 (lenOf own_pd11 rfl) N23 (fun T25 L25 X25 e25 N25 => ?_)
    show Goes _ _ _ _ _ (fT T25 m 157 #[vr a, vi 4, vi 0, vi ((((1 : Int32) &&& (own_z d0)) &&& (own_z d1)) &&& (own_z f0)), vi 2, vi 1, vi 1] [(.int 4), (.int 4)])
    refine gY X25 hx hby d22_157 157 194 (flt (by decide : ¬ ((4 : Int32) < (4 : Int32)))).2.1 ?_
    refine gI X25 hx hby d22_194 rfl rfl ?_
    refine gy X25 hx hby d22_196 196 213 ((if0 _ _).trans (feq (by decide : ¬ ((1 : Int32) = (0 : Int32)))).2) ?_
    obtain ⟨T26, h26, X26, e26, E26, A26, D26, -, st26⟩ := newO X25 hx hZ hown (gw hw 102 rfl) (gw hw 103 rfl) (gw hw 104 rfl) e25 (g := (mkF m 213 #[vr a, vi 4, vi 0, vi ((((1 : Int32) &&& (own_z d0)) &&& (own_z d1)) &&& (own_z f0)), vi 2, vi 1, vi 1] [])) rfl (hb hby d22_213) (by decide) (by decide)
    obtain ⟨b26, gq26⟩ : ∃ z, z = h1.size := ⟨_, rfl⟩
    rw [← gq26] at A26 st26 D26
    have g_b26 : n0 ≤ b26 := by rw [gq26]; exact Z0
    have sz_b26 : h0.size ≤ b26 := by rw [gq26]; exact KP.1
    have ne_a_b26 : a ≠ b26 := by rw [gq26]; exact Nat.ne_of_lt T_a.lt
    have ne_c1_b26 : c1 ≠ b26 := by rw [gq26]; exact Nat.ne_of_lt A_c1.lt
    have ne_cb1_b26 : cb1 ≠ b26 := by rw [gq26]; exact Nat.ne_of_lt V_cb1.lt
    have Sf_b26 : Safe Z consts_1 T1.vm h1 b26 := Safe.new (Nat.le_of_eq gq26.symm)
    replace Sf_b26 := Safe.ext E26 hR.1 Sf_b26
    replace hR := hR.trans (CHr.ext E26 hR.1)
    replace T_a := T_a.ext E26
    replace T_c1 := T_c1.ext E26
    replace KP := KP.ext E26
    replace Z0 : n0 ≤ h26.size := Nat.le_trans Z0 E26.1
    replace hk := Nat.le_trans hk E26.1
    have A_b26 : Exa Z h26 b26 "com/example/modest_billing/modestbilling/Money$Shape" := A26
    have F_signum_b26 : Fld Z h26 b26 "com/example/modest_billing/modestbilling/Money$Shape" "signum" "I" (.int 0) := D26 (Or.inr (gw hw 115 rfl)) (ty := .int) (by decide)
    have F_fractionDigits_b26 : Fld Z h26 b26 "com/example/modest_billing/modestbilling/Money$Shape" "fractionDigits" "I" (.int 0) := D26 (Or.inr (gw hw 117 rfl)) (ty := .int) (by decide)
    refine Gs st26 ?_
    show Goes _ _ _ _ _ (fT T26 m 216 #[vr a, vi 4, vi 0, vi ((((1 : Int32) &&& (own_z d0)) &&& (own_z d1)) &&& (own_z f0)), vi 2, vi 1, vi 1] [(.ref b26)])
    refine Gz (XS.dup X26.here hx rfl (hb hby d22_216) rfl rfl) ?_
    refine gN X26 hx hby d22_217 rfl rfl ?_
    show Goes _ _ _ _ _ (fT T26 m 218 #[vr a, vi 4, vi 0, vi ((((1 : Int32) &&& (own_z d0)) &&& (own_z d1)) &&& (own_z f0)), vi 2, vi 1, vi 1] [(.int ((((1 : Int32) &&& (own_z d0)) &&& (own_z d1)) &&& (own_z f0))), (.ref b26), (.ref b26)])
    refine own_join (B := T26.setTop (mkF m 234 #[vr a, vi 4, vi 0, vi ((((1 : Int32) &&& (own_z d0)) &&& (own_z d1)) &&& (own_z f0)), vi 2, vi 1, vi 1] [(.int (own_sg (own_allz [d0, d1, f0]) (1 : Int32))), (.ref b26), (.ref b26)])) ?_ ?_
    ·show Goes _ _ _ _ _ (fT T26 m 234 #[vr a, vi 4, vi 0, vi ((((1 : Int32) &&& (own_z d0)) &&& (own_z d1)) &&& (own_z f0)), vi 2, vi 1, vi 1] [(.int (own_sg (own_allz [d0, d1, f0]) (1 : Int32))), (.ref b26), (.ref b26)])
     refine gI X26 hx hby d22_234 rfl rfl ?_
     obtain ⟨_, _, ⟨T28, L28, k28, n28⟩, -, X28, ⟨Lc28, hQ28, l28, y28, z28⟩, st28⟩ := own_specialRef X26 hx hZ (y := mN13) rfl hown (gw hw 105 rfl) (gw hw 106 rfl) (gw hw 107 rfl) (by decide) (backOf (W := 1) (rm_shi l Z a0 hw [] b26 (own_sg (own_allz [d0, d1, f0]) (1 : Int32)) (1 : Int32) h26 n0 Z0 A_b26 F_signum_b26 F_fractionDigits_b26 g_b26) hZ (gw hw 107 rfl) (gw hw 104 rfl) (by decide) (by decide)) (g := (mkF m 236 #[vr a, vi 4, vi 0, vi ((((1 : Int32) &&& (own_z d0)) &&& (own_z d1)) &&& (own_z f0)), vi 2, vi 1, vi 1] [(.int 1), (.int (own_sg (own_allz [d0, d1, f0]) (1 : Int32))), (.ref b26), (.ref b26)])) rfl hml.symm (Steps.refl _) (a := b26) (argsL := [(.int (own_sg (own_allz [d0, d1, f0]) (1 : Int32))), (.int 1)]) (rest := [(.ref b26)]) (lenOf own_pd2 rfl) rfl (wz rfl) (hb hby d22_236) (fun _ _ => ⟨rfl, e26, (by decide : 3 + 0 ≤ _), (by decide : 10 + 0 ≤ _)⟩)
     dsimp only [Pt.U, Pt.locs, Pt.cells, Pt.slots] at X28 l28 y28 z28 st28 hQ28
     subst l28 y28 z28
     obtain ⟨rfl, N28q, K28, F_signum_b26_28'⟩ := hQ28
     have N28 := Fr.app N25 N28q
     replace hR := hR.trans (CHr.keep K28 (allS Sf_b26 all0) hR.1)
     replace T_a := T_a.keep K28 (allS ⟨(Ne.symm ne_a_b26), (own_nbE A_b26 (gw hw 103 rfl))⟩ all0)
     replace T_c1 := T_c1.keep K28 (allS ⟨(Ne.symm ne_c1_b26), (own_nbE A_b26 (gw hw 103 rfl))⟩ all0)
     replace A_b26 := A_b26.keep K28
     replace KP := KP.trans K28 (allS (Or.inr sz_b26) all0)
     replace Z0 := Nat.le_trans Z0 K28.1
     replace hk := Nat.le_trans hk K28.1
     have F_signum_b26 := F_signum_b26_28'
     refine Gs (fun _ tk => st28.trans tk) ?_
     show Goes _ _ _ _ _ (fT T28 m 239 #[vr a, vi 4, vi 0, vi ((((1 : Int32) &&& (own_z d0)) &&& (own_z d1)) &&& (own_z f0)), vi 2, vi 1, vi 1] [(.ref b26)])
     refine Goes.retH X28 hS rfl hk hZ (own_EW hw) hh hR (some (.ref b26)) (fun h => by rw [hret] at h; cases h) hlk (by decide) (by decide) ?_ (fun fs hr => ?_)
     ·exact ⟨b26, rfl, N28, KP, A_b26, F_signum_b26, g_b26, sz_b26⟩
     ·exact own_retA X28 hx hret rfl rfl (hb hby d22_239) hr
    intro J234_27
    by_cases hc218_29 : ((((1 : Int32) &&& (own_z d0)) &&& (own_z d1)) &&& (own_z f0)) = 0
    ·refine gy X26 hx hby d22_218 218 225 ((if0 _ _).trans (teq hc218_29).1) ?_
     refine gN X26 hx hby d22_225 rfl rfl ?_
     refine gu X26 hx hby d22_226 ((if0 _ _).trans (teq (by decide : ((0 : Int32) = (0 : Int32)))).2) ?_
     refine gC X26 hx hby d22_229 ?_
     refine gG X26 hx hby d22_230 230 234 ?_
     rw [show (own_sg (own_allz [d0, d1, f0]) (1 : Int32)) = 1 from by rw [← own_F3, own_sg, if_pos hc218_29]] at J234_27
     exact J234_27
    ·refine gu X26 hx hby d22_218 ((if0 _ _).trans (feq hc218_29).1) ?_
     refine gC X26 hx hby d22_221 ?_
     refine gG X26 hx hby d22_222 222 234 ?_
     rw [show (own_sg (own_allz [d0, d1, f0]) (1 : Int32)) = 0 from by rw [← own_F3, own_sg, if_neg hc218_29]] at J234_27
     exact J234_27
   intro J186_24
   by_cases hc178_30 : f0 = 48
   ·refine gU X23 hx hby d22_178 (teq hc178_30).2 ?_
    refine gC X23 hx hby d22_181 ?_
    refine gG X23 hx hby d22_182 182 186 ?_
    rw [show (own_z f0) = 1 from by rw [own_z, if_pos hc178_30]] at J186_24
    exact J186_24
   ·refine gY X23 hx hby d22_178 178 185 (feq hc178_30).2 ?_
    refine gC X23 hx hby d22_185 ?_
    rw [show (own_z f0) = 0 from by rw [own_z, if_neg hc178_30]] at J186_24
    exact J186_24
  intro J54_12
  by_cases hc46_31 : d1 = 48
  ·refine gU X11 hx hby d22_46 (teq hc46_31).2 ?_
   refine gC X11 hx hby d22_49 ?_
   refine gG X11 hx hby d22_50 50 54 ?_
   rw [show (own_z d1) = 1 from by rw [own_z, if_pos hc46_31]] at J54_12
   exact J54_12
  ·refine gY X11 hx hby d22_46 46 53 (feq hc46_31).2 ?_
   refine gC X11 hx hby d22_53 ?_
   rw [show (own_z d1) = 0 from by rw [own_z, if_neg hc46_31]] at J54_12
   exact J54_12
 intro J54_7
 refine gY X6 hx hby d22_46 46 53 (feq hN8).2 ?_
 refine gC X6 hx hby d22_53 ?_
 rw [show (own_z d0) = 0 from by rw [own_z, if_neg hN8]] at J54_7
 exact J54_7
theorem own_ef_rm_so021 (m : MethodId) (x0 : Addr) : entryFrame m #[(.ref x0)] 1 = mkF m 0 #[vr x0] [] := by first | (simp [entryFrame, mkF, argsToLocals, Value.category]; done) | rfl
def Q_rm_so021 (Z : State) (a : Addr) (d0 : Int32) (d1 : Int32) (f0 : Int32) (cz : Int32) (fo : Value) (h0 : Heap) (n0 : Nat) (v : Option Value) (h : Heap) (L : List Loc) : Prop := v = some (.int (own_sg (own_allz [d0, d1, f0]) (1 : Int32))) ∧ Fr n0 L ∧ Keep h0 h []
theorem rm_so021 (l : Launch) (Z : State) (a0 : Array Value) (hw : HW a0 Z) (ws : List Jvm.Cond) (a : Addr) (d0 : Int32) (d1 : Int32) (f0 : Int32) (cz : Int32) (fo : Value) (h0 : Heap) (n0 : Nat) (Z0 : n0 ≤ h0.size) (T_a : StrOf Z h0 a [d0, d1, (46 : Int32), f0]) (hD_d0 : Dig d0) (hD_d1 : Dig d1) (hD_f0 : Dig f0) (hN8 : ¬ (d0 = 48)) (sgC : Sta Z h0 "java/lang/String" "COMPACT_STRINGS" "Z" (.int cz)) (hcz : ¬ (cz = 0)) (sgF : Sta Z h0 "jdk/internal/util/Preconditions" "SIOOBE_FORMATTER" "Ljava/util/function/BiFunction;" fo) (r_fo : fo.isRef = true) :
  MetH l Z mN23 prog_29_method_6_code 1 (some .int) ({ frames := 5, cells := 5, slots := 30, locals := 77 } : Room) ws #[(.ref a)] h0 (Q_rm_so021 Z a d0 d1 f0 cz fo h0 n0) := by
 refine own_metH (plainFor_of_name own_pn8) ?_
 intro p e s m below meth c s₁ hret hx hby hlk hml hown hnm X0 e0 hZ hh hC0
 have N0 := Fr.nil n0
 have hS : s.Since s.vm h0.size := (State.WarmedH.refl s).since _
 have hk : h0.size ≤ h0.size := Nat.le_refl _
 replace hZ : Z.Warmed39 (s.setVm s.vm).vm := hZ
 have hR : CHr Z consts_1 s.vm h0 s.vm h0 := CHr.refl hC0
 refine Gz (castTop (own_ef_rm_so021 m a)) ?_
 have KP : Keep h0 h0 [] := Keep.refl _ _
 show Goes _ _ _ _ _ (fT s₁ m 0 #[vr a] [])
 refine gA X0 hx hby d23_0 rfl rfl rfl ?_
 obtain ⟨c1, T1, h1, kk1, cb1, kc1, X1, e1, E1, hS, hk1, hZ, hown, A_c1, F_coder_c1, F_value_c1, V_cb1, -, -, hC1, hL1, hsf1, st1⟩ := ldcCH X0 hx hZ hown (gw hw 41 rfl) (own_strW hw) e0 hS hk (own_EW hw) (List.mem_of_getElem? (i := 0) rfl) hR.1 (vs := [(.int 116), (.int 101), (.int 120), (.int 116)]) (z := (4 : Int32)) ⟨by first | decide | rfl, by first | decide | rfl⟩ (by decide) (by decide) (g := (mkF m 1 #[vr a] [(.ref a)])) rfl (hb hby d23_1) (n := 16) (by decide) (by decide) (by decide) (by decide)
 replace T_a := T_a.ext E1
 replace sgC := sgC.ext E1
 replace sgF := sgF.ext E1
 replace KP := KP.ext E1
 replace hR := hR.trans hC1
 replace Z0 : n0 ≤ h1.size := Nat.le_trans Z0 E1.1
 replace hk := hk1
 refine Gs st1 ?_
 show Goes _ _ _ _ _ (fT T1 m 3 #[vr a] [(.ref c1), (.ref a)])
 refine cS X1 hx hZ hw hown hby hml e1 mN15 44 45 47 46 0 (rm_nn l Z a0 hw [] a c1 h1 n0 Z0) d23_3 (lenOf own_pd17 rfl) N0 (fun T2 L2 X2 e2 N2 => ?_)
 show Goes _ _ _ _ _ (fT T2 m 6 #[vr a] [(.ref a)])
 refine Gz (XS.pop X2.here hx rfl (hb hby d23_6) rfl rfl) ?_
 refine gA X2 hx hby d23_7 rfl rfl rfl ?_
 obtain ⟨_, _, ⟨T3, L3, k3, n3⟩, -, X3, hS3, gr3, ⟨Lc3, hQ3, l3, y3, z3, hC3⟩, st3⟩ := callSS X2 hx (y := mN22) hown (gz hZ hw 48 rfl) (gz hZ hw 49 rfl) (gz hZ hw 39 rfl) (gz hZ hw 50 rfl) (by decide) (backOfSH (W := 0) (rm_cs021 l Z a0 hw [] a d0 d1 f0 cz fo h1 n0 Z0 T_a hD_d0 hD_d1 hD_f0 hN8 sgC hcz sgF r_fo) hZ (gw hw 50 rfl) (gw hw 39 rfl) (by decide) (by decide) (own_EW hw) hR.1) (g := (mkF m 8 #[vr a] [(.ref a)])) rfl hml.symm (argsL := [(.ref a)]) (rest := []) (lenOf own_pd18 rfl) rfl (wz rfl) (hb hby d23_8) (fun _ _ => ⟨rfl, e2, (by decide : 2 + 3 ≤ _), (by decide : 20 + 10 ≤ _)⟩)
 dsimp only [Pt.U, Pt.locs, Pt.cells, Pt.slots] at X3 l3 y3 z3 st3 hQ3 hS3 gr3 hC3
 subst l3 y3 z3
 obtain ⟨X3, hS, hZ, hown⟩ := rebS hS hk X3 hS3 (by have q := gr3; rw [e2] at q; exact q) hZ hown
 replace hk : T3.heap.size ≤ T3.heap.size := Nat.le_refl _
 obtain ⟨o3, rfl, N3q, K3, A_o3_3', F_signum_o3_3', g_o3_3', sz_o3_3'⟩ := hQ3
 have N3 := Fr.app N2 N3q
 replace hR := hR.trans hC3
 replace T_a := T_a.keep K3 all0
 replace KP := KP.trans K3 all0
 replace Z0 := Nat.le_trans Z0 K3.1
 have A_o3 := A_o3_3'
 have F_signum_o3 := F_signum_o3_3'
 refine Gs (fun _ tk => st3.trans tk) ?_
 show Goes _ _ _ _ _ (fT T3 m 11 #[vr a] [(.ref o3)])
 refine cV X3 hx hZ hw hown hby hml rfl mN14 118 119 121 120 122 104 0 (rm_sgn l Z a0 hw [] o3 (own_sg (own_allz [d0, d1, f0]) (1 : Int32)) T3.heap n0 Z0 F_signum_o3) A_o3 d23_11 (lenOf own_pd11 rfl) N3 (fun T4 L4 X4 e4 N4 => ?_)
 show Goes _ _ _ _ _ (fT T4 m 14 #[vr a] [(.int (own_sg (own_allz [d0, d1, f0]) (1 : Int32)))])
 refine Goes.retH X4 hS e4 hk hZ (own_EW hw) hh hR (some (.int (own_sg (own_allz [d0, d1, f0]) (1 : Int32)))) (fun h => by rw [hret] at h; cases h) hlk (by decide) (by decide) ?_ (fun fs hr => ?_)
 ·rw [e4]; exact ⟨rfl, N4, KP⟩
 ·exact retI X4 hx hret (hb hby d23_14) hr
theorem own_ef_rm_cs022 (m : MethodId) (x0 : Addr) : entryFrame m #[(.ref x0)] 7 = mkF m 0 #[vr x0, vu, vu, vu, vu, vu, vu] [] := by first | (simp [entryFrame, mkF, argsToLocals, Value.category]; done) | rfl
def Q_rm_cs022 (Z : State) (a : Addr) (d0 : Int32) (d1 : Int32) (f0 : Int32) (f1 : Int32) (cz : Int32) (fo : Value) (h0 : Heap) (n0 : Nat) (v : Option Value) (h : Heap) (L : List Loc) : Prop := ∃ o : Addr, v = some (.ref o) ∧ Fr n0 L ∧ Keep h0 h [] ∧ Exa Z h o "com/example/modest_billing/modestbilling/Money$Shape" ∧ Fld Z h o "com/example/modest_billing/modestbilling/Money$Shape" "signum" "I" (.int (own_sg (own_allz [d0, d1, f0, f1]) (1 : Int32))) ∧ n0 ≤ o ∧ h0.size ≤ o
theorem rm_cs022 (l : Launch) (Z : State) (a0 : Array Value) (hw : HW a0 Z) (ws : List Jvm.Cond) (a : Addr) (d0 : Int32) (d1 : Int32) (f0 : Int32) (f1 : Int32) (cz : Int32) (fo : Value) (h0 : Heap) (n0 : Nat) (Z0 : n0 ≤ h0.size) (T_a : StrOf Z h0 a [d0, d1, (46 : Int32), f0, f1]) (hD_d0 : Dig d0) (hD_d1 : Dig d1) (hD_f0 : Dig f0) (hD_f1 : Dig f1) (hN8 : ¬ (d0 = 48)) (sgC : Sta Z h0 "java/lang/String" "COMPACT_STRINGS" "Z" (.int cz)) (hcz : ¬ (cz = 0)) (sgF : Sta Z h0 "jdk/internal/util/Preconditions" "SIOOBE_FORMATTER" "Ljava/util/function/BiFunction;" fo) (r_fo : fo.isRef = true) :
  MetH l Z mN22 prog_29_method_8_code 7 (some (.object "com/example/modest_billing/modestbilling/Money$Shape")) ({ frames := 4, cells := 3, slots := 10, locals := 59 } : Room) ws #[(.ref a)] h0 (Q_rm_cs022 Z a d0 d1 f0 f1 cz fo h0 n0) := by
 refine own_metH (plainFor_of_name own_pn8) ?_
 intro p e s m below meth c s₁ hret hx hby hlk hml hown hnm X0 e0 hZ hh hC0
 have N0 := Fr.nil n0
 have hS : s.Since s.vm h0.size := (State.WarmedH.refl s).since _
 have hk : h0.size ≤ h0.size := Nat.le_refl _
 replace hZ : Z.Warmed39 (s.setVm s.vm).vm := hZ
 have hR : CHr Z consts_1 s.vm h0 s.vm h0 := CHr.refl hC0
 refine Gz (castTop (own_ef_rm_cs022 m a)) ?_
 have KP : Keep h0 h0 [] := Keep.refl _ _
 show Goes _ _ _ _ _ (fT s₁ m 0 #[vr a, vu, vu, vu, vu, vu, vu] [])
 refine gA X0 hx hby d22_0 rfl rfl rfl ?_
 obtain ⟨c1, T1, h1, kk1, cb1, kc1, X1, e1, E1, hS, hk1, hZ, hown, A_c1, F_coder_c1, F_value_c1, V_cb1, -, -, hC1, hL1, hsf1, st1⟩ := ldcCH X0 hx hZ hown (gw hw 51 rfl) (own_strW hw) e0 hS hk (own_EW hw) (List.mem_of_getElem? (i := 1) rfl) hR.1 (vs := [(.int 45)]) (z := (1 : Int32)) ⟨by first | decide | rfl, by first | decide | rfl⟩ (by decide) (by decide) (g := (mkF m 1 #[vr a, vu, vu, vu, vu, vu, vu] [(.ref a)])) rfl (hb hby d22_1) (n := 4) (by decide) (by decide) (by decide) (by decide)
 replace T_a := T_a.ext E1
 replace sgC := sgC.ext E1
 replace sgF := sgF.ext E1
 replace KP := KP.ext E1
 replace hR := hR.trans hC1
 replace Z0 : n0 ≤ h1.size := Nat.le_trans Z0 E1.1
 replace hk := hk1
 refine Gs st1 ?_
 show Goes _ _ _ _ _ (fT T1 m 3 #[vr a, vu, vu, vu, vu, vu, vu] [(.ref c1), (.ref a)])
 have T_c1 : StrOf Z h1 c1 [(45 : Int32)] := StrOf.latin A_c1 F_value_c1 F_coder_c1 V_cb1 (by intro c hc; rw [List.mem_singleton.mp hc]; exact own_lat45) rfl rfl (Nat.le_of_ble_eq_true rfl)
 refine cV X1 hx hZ hw hown hby hml e1 mN21 52 53 55 54 56 9 0 (rm_sw10 l Z a0 hw [] a c1 [d0, d1, (46 : Int32), f0, f1] d0 cz h1 n0 Z0 T_a T_c1 (own_il 0 _ (by decide) (by simp) T_a.len) rfl hD_d0 sgC hcz) T_a.exa d22_3 (lenOf own_pd14 rfl) N0 (fun T2 L2 X2 e2 N2 => ?_)
 show Goes _ _ _ _ _ (fT T2 m 6 #[vr a, vu, vu, vu, vu, vu, vu] [(.int 0)])
 refine gy X2 hx hby d22_6 6 13 ((if0 _ _).trans (teq (by decide : ((0 : Int32) = (0 : Int32)))).1) ?_
 refine gC X2 hx hby d22_13 ?_
 refine gs X2 hx hby d22_14 #[vr a, vi 0, vu, vu, vu, vu, vu] ?_
 refine gN X2 hx hby d22_15 rfl rfl ?_
 refine gs X2 hx hby d22_16 #[vr a, vi 0, vi 0, vu, vu, vu, vu] ?_
 refine gC X2 hx hby d22_17 ?_
 show Goes _ _ _ _ _ (fT T2 m 18 #[vr a, vi 0, vi 0, vu, vu, vu, vu] [(.int 1)])
 refine gs X2 hx hby d22_18 #[vr a, vi 0, vi 0, vi 1, vu, vu, vu] ?_
 refine gN X2 hx hby d22_19 rfl rfl ?_
 refine gA X2 hx hby d22_20 rfl rfl rfl ?_
 refine cV X2 hx hZ hw hown hby hml e2 mN2 76 63 65 64 66 9 1 (rs_len l Z a0 hw [] a [d0, d1, (46 : Int32), f0, f1] cz h1 n0 Z0 T_a sgC hcz) T_a.exa d22_21 (lenOf own_pd11 rfl) N2 (fun T3 L3 X3 e3 N3 => ?_)
 show Goes _ _ _ _ _ (fT T3 m 24 #[vr a, vi 0, vi 0, vi 1, vu, vu, vu] [(.int 5), (.int 0)])
 refine gU X3 hx hby d22_24 (tlt (by decide : ((0 : Int32) < (5 : Int32)))).2.1 ?_
 refine gA X3 hx hby d22_27 rfl rfl rfl ?_
 refine gN X3 hx hby d22_28 rfl rfl ?_
 refine cV X3 hx hZ hw hown hby hml e3 mN6 77 78 80 79 81 9 0 (rs_chr l Z a0 hw [] a [d0, d1, (46 : Int32), f0, f1] (0 : Int32) d0 cz fo h1 n0 Z0 T_a sgC hcz (by first | assumption | decide) (own_il 0 _ (by decide) (by simp) T_a.len) rfl sgF r_fo) T_a.exa d22_29 (lenOf own_pd15 rfl) N3 (fun T4 L4 X4 e4 N4 => ?_)
 show Goes _ _ _ _ _ (fT T4 m 32 #[vr a, vi 0, vi 0, vi 1, vu, vu, vu] [(.int d0)])
 refine cS X4 hx hZ hw hown hby hml e4 mN17 99 100 101 39 0 (rm_isd l Z a0 hw [] d0 h1 n0 Z0 (own_n48 hD_d0).1 (own_n48 hD_d0).2) d22_32 (lenOf own_pd16 rfl) N4 (fun T5 L5 X5 e5 N5 => ?_)
 show Goes _ _ _ _ _ (fT T5 m 35 #[vr a, vi 0, vi 0, vi 1, vu, vu, vu] [(.int 1)])
 refine gu X5 hx hby d22_35 ((if0 _ _).trans (feq (by decide : ¬ ((1 : Int32) = (0 : Int32)))).1) ?_
 refine gN X5 hx hby d22_38 rfl rfl ?_
 refine gA X5 hx hby d22_39 rfl rfl rfl ?_
 refine gN X5 hx hby d22_40 rfl rfl ?_
 refine cV X5 hx hZ hw hown hby hml e5 mN6 77 78 80 79 81 9 1 (rs_chr l Z a0 hw [] a [d0, d1, (46 : Int32), f0, f1] (0 : Int32) d0 cz fo h1 n0 Z0 T_a sgC hcz (by first | assumption | decide) (own_il 0 _ (by decide) (by simp) T_a.len) rfl sgF r_fo) T_a.exa d22_41 (lenOf own_pd15 rfl) N5 (fun T6 L6 X6 e6 N6 => ?_)
 show Goes _ _ _ _ _ (fT T6 m 44 #[vr a, vi 0, vi 0, vi 1, vu, vu, vu] [(.int d0), (.int 1)])
 refine gB X6 hx hby d22_44 ?_
 show Goes _ _ _ _ _ (fT T6 m 46 #[vr a, vi 0, vi 0, vi 1, vu, vu, vu] [(.int 48), (.int d0), (.int 1)])
 refine own_join (B := T6.setTop (mkF m 54 #[vr a, vi 0, vi 0, vi 1, vu, vu, vu] [(.int (own_z d0)), (.int 1)])) ?_ ?_
 ·show Goes _ _ _ _ _ (fT T6 m 54 #[vr a, vi 0, vi 0, vi 1, vu, vu, vu] [(.int (own_z d0)), (.int 1)])
  refine Gz (XS.iand X6.here hx rfl (hb hby d22_54) rfl) ?_
  show Goes _ _ _ _ _ (fT T6 m 55 #[vr a, vi 0, vi 0, vi 1, vu, vu, vu] [(.int ((1 : Int32) &&& (own_z d0)))])
  refine gs X6 hx hby d22_55 #[vr a, vi 0, vi 0, vi ((1 : Int32) &&& (own_z d0)), vu, vu, vu] ?_
  show Goes _ _ _ _ _ (fT T6 m 56 #[vr a, vi 0, vi 0, vi ((1 : Int32) &&& (own_z d0)), vu, vu, vu] [])
  refine Gz (XS.iinc X6.here hx rfl (hb hby d22_56) rfl (l' := #[vr a, vi ((0 : Int32) + (1 : Int32)), vi 0, vi ((1 : Int32) &&& (own_z d0)), vu, vu, vu]) rfl) ?_
  show Goes _ _ _ _ _ (fT T6 m 59 #[vr a, vi 1, vi 0, vi ((1 : Int32) &&& (own_z d0)), vu, vu, vu] [])
  refine gG X6 hx hby d22_59 59 19 ?_
  refine gN X6 hx hby d22_19 rfl rfl ?_
  refine gA X6 hx hby d22_20 rfl rfl rfl ?_
  refine cV X6 hx hZ hw hown hby hml e6 mN2 76 63 65 64 66 9 1 (rs_len l Z a0 hw [] a [d0, d1, (46 : Int32), f0, f1] cz h1 n0 Z0 T_a sgC hcz) T_a.exa d22_21 (lenOf own_pd11 rfl) N6 (fun T8 L8 X8 e8 N8 => ?_)
  show Goes _ _ _ _ _ (fT T8 m 24 #[vr a, vi 1, vi 0, vi ((1 : Int32) &&& (own_z d0)), vu, vu, vu] [(.int 5), (.int 1)])
  refine gU X8 hx hby d22_24 (tlt (by decide : ((1 : Int32) < (5 : Int32)))).2.1 ?_
  refine gA X8 hx hby d22_27 rfl rfl rfl ?_
  refine gN X8 hx hby d22_28 rfl rfl ?_
  refine cV X8 hx hZ hw hown hby hml e8 mN6 77 78 80 79 81 9 0 (rs_chr l Z a0 hw [] a [d0, d1, (46 : Int32), f0, f1] (1 : Int32) d1 cz fo h1 n0 Z0 T_a sgC hcz (by first | assumption | decide) (own_il 1 _ (by decide) (by simp) T_a.len) rfl sgF r_fo) T_a.exa d22_29 (lenOf own_pd15 rfl) N8 (fun T9 L9 X9 e9 N9 => ?_)
  show Goes _ _ _ _ _ (fT T9 m 32 #[vr a, vi 1, vi 0, vi ((1 : Int32) &&& (own_z d0)), vu, vu, vu] [(.int d1)])
  refine cS X9 hx hZ hw hown hby hml e9 mN17 99 100 101 39 0 (rm_isd l Z a0 hw [] d1 h1 n0 Z0 (own_n48 hD_d1).1 (own_n48 hD_d1).2) d22_32 (lenOf own_pd16 rfl) N9 (fun T10 L10 X10 e10 N10 => ?_)
  show Goes _ _ _ _ _ (fT T10 m 35 #[vr a, vi 1, vi 0, vi ((1 : Int32) &&& (own_z d0)), vu, vu, vu] [(.int 1)])
  refine gu X10 hx hby d22_35 ((if0 _ _).trans (feq (by decide : ¬ ((1 : Int32) = (0 : Int32)))).1) ?_
  refine gN X10 hx hby d22_38 rfl rfl ?_
  refine gA X10 hx hby d22_39 rfl rfl rfl ?_
  refine gN X10 hx hby d22_40 rfl rfl ?_
  refine cV X10 hx hZ hw hown hby hml e10 mN6 77 78 80 79 81 9 1 (rs_chr l Z a0 hw [] a [d0, d1, (46 : Int32), f0, f1] (1 : Int32) d1 cz fo h1 n0 Z0 T_a sgC hcz (by first | assumption | decide) (own_il 1 _ (by decide) (by simp) T_a.len) rfl sgF r_fo) T_a.exa d22_41 (lenOf own_pd15 rfl) N10 (fun T11 L11 X11 e11 N11 => ?_)
  show Goes _ _ _ _ _ (fT T11 m 44 #[vr a, vi 1, vi 0, vi ((1 : Int32) &&& (own_z d0)), vu, vu, vu] [(.int d1), (.int ((1 : Int32) &&& (own_z d0)))])
  refine gB X11 hx hby d22_44 ?_
  show Goes _ _ _ _ _ (fT T11 m 46 #[vr a, vi 1, vi 0, vi ((1 : Int32) &&& (own_z d0)), vu, vu, vu] [(.int 48), (.int d1), (.int ((1 : Int32) &&& (own_z d0)))])
  refine own_join (B := T11.setTop (mkF m 54 #[vr a, vi 1, vi 0, vi ((1 : Int32) &&& (own_z d0)), vu, vu, vu] [(.int (own_z d1)), (.int ((1 : Int32) &&& (own_z d0)))])) ?_ ?_
  ·show Goes _ _ _ _ _ (fT T11 m 54 #[vr a, vi 1, vi 0, vi ((1 : Int32) &&& (own_z d0)), vu, vu, vu] [(.int (own_z d1)), (.int ((1 : Int32) &&& (own_z d0)))])
   refine Gz (XS.iand X11.here hx rfl (hb hby d22_54) rfl) ?_
   show Goes _ _ _ _ _ (fT T11 m 55 #[vr a, vi 1, vi 0, vi ((1 : Int32) &&& (own_z d0)), vu, vu, vu] [(.int (((1 : Int32) &&& (own_z d0)) &&& (own_z d1)))])
   refine gs X11 hx hby d22_55 #[vr a, vi 1, vi 0, vi (((1 : Int32) &&& (own_z d0)) &&& (own_z d1)), vu, vu, vu] ?_
   show Goes _ _ _ _ _ (fT T11 m 56 #[vr a, vi 1, vi 0, vi (((1 : Int32) &&& (own_z d0)) &&& (own_z d1)), vu, vu, vu] [])
   refine Gz (XS.iinc X11.here hx rfl (hb hby d22_56) rfl (l' := #[vr a, vi ((1 : Int32) + (1 : Int32)), vi 0, vi (((1 : Int32) &&& (own_z d0)) &&& (own_z d1)), vu, vu, vu]) rfl) ?_
   show Goes _ _ _ _ _ (fT T11 m 59 #[vr a, vi 2, vi 0, vi (((1 : Int32) &&& (own_z d0)) &&& (own_z d1)), vu, vu, vu] [])
   refine gG X11 hx hby d22_59 59 19 ?_
   refine gN X11 hx hby d22_19 rfl rfl ?_
   refine gA X11 hx hby d22_20 rfl rfl rfl ?_
   refine cV X11 hx hZ hw hown hby hml e11 mN2 76 63 65 64 66 9 1 (rs_len l Z a0 hw [] a [d0, d1, (46 : Int32), f0, f1] cz h1 n0 Z0 T_a sgC hcz) T_a.exa d22_21 (lenOf own_pd11 rfl) N11 (fun T13 L13 X13 e13 N13 => ?_)
   show Goes _ _ _ _ _ (fT T13 m 24 #[vr a, vi 2, vi 0, vi (((1 : Int32) &&& (own_z d0)) &&& (own_z d1)), vu, vu, vu] [(.int 5), (.int 2)])
   refine gU X13 hx hby d22_24 (tlt (by decide : ((2 : Int32) < (5 : Int32)))).2.1 ?_
   refine gA X13 hx hby d22_27 rfl rfl rfl ?_
   refine gN X13 hx hby d22_28 rfl rfl ?_
   refine cV X13 hx hZ hw hown hby hml e13 mN6 77 78 80 79 81 9 0 (rs_chr l Z a0 hw [] a [d0, d1, (46 : Int32), f0, f1] (2 : Int32) (46 : Int32) cz fo h1 n0 Z0 T_a sgC hcz (by first | assumption | decide) (own_il 2 _ (by decide) (by simp) T_a.len) rfl sgF r_fo) T_a.exa d22_29 (lenOf own_pd15 rfl) N13 (fun T14 L14 X14 e14 N14 => ?_)
   show Goes _ _ _ _ _ (fT T14 m 32 #[vr a, vi 2, vi 0, vi (((1 : Int32) &&& (own_z d0)) &&& (own_z d1)), vu, vu, vu] [(.int 46)])
   refine cS X14 hx hZ hw hown hby hml e14 mN17 99 100 101 39 0 (rm_isn l Z a0 hw []  h1 n0 Z0) d22_32 (lenOf own_pd16 rfl) N14 (fun T15 L15 X15 e15 N15 => ?_)
   show Goes _ _ _ _ _ (fT T15 m 35 #[vr a, vi 2, vi 0, vi (((1 : Int32) &&& (own_z d0)) &&& (own_z d1)), vu, vu, vu] [(.int 0)])
   refine gy X15 hx hby d22_35 35 62 ((if0 _ _).trans (teq (by decide : ((0 : Int32) = (0 : Int32)))).1) ?_
   refine gN X15 hx hby d22_62 rfl rfl ?_
   refine gN X15 hx hby d22_63 rfl rfl ?_
   show Goes _ _ _ _ _ (fT T15 m 64 #[vr a, vi 2, vi 0, vi (((1 : Int32) &&& (own_z d0)) &&& (own_z d1)), vu, vu, vu] [(.int 0), (.int 2)])
   refine Gz (XS.isub X15.here hx rfl (hb hby d22_64) rfl) ?_
   show Goes _ _ _ _ _ (fT T15 m 65 #[vr a, vi 2, vi 0, vi (((1 : Int32) &&& (own_z d0)) &&& (own_z d1)), vu, vu, vu] [(.int 2)])
   refine gS X15 hx hby d22_65 #[vr a, vi 2, vi 0, vi (((1 : Int32) &&& (own_z d0)) &&& (own_z d1)), vi 2, vu, vu] ?_
   refine gI X15 hx hby d22_67 rfl rfl ?_
   refine gC X15 hx hby d22_69 ?_
   refine gU X15 hx hby d22_70 (feq (by decide : ¬ ((2 : Int32) = (1 : Int32)))).1 ?_
   refine gI X15 hx hby d22_73 rfl rfl ?_
   refine gC X15 hx hby d22_75 ?_
   show Goes _ _ _ _ _ (fT T15 m 76 #[vr a, vi 2, vi 0, vi (((1 : Int32) &&& (own_z d0)) &&& (own_z d1)), vi 2, vu, vu] [(.int 1), (.int 2)])
   refine gU X15 hx hby d22_76 (tlt (by decide : ((1 : Int32) < (2 : Int32)))).2.2.2 ?_
   refine gA X15 hx hby d22_79 rfl rfl rfl ?_
   refine gN X15 hx hby d22_80 rfl rfl ?_
   refine cV X15 hx hZ hw hown hby hml e15 mN6 77 78 80 79 81 9 0 (rs_chr l Z a0 hw [] a [d0, d1, (46 : Int32), f0, f1] (0 : Int32) d0 cz fo h1 n0 Z0 T_a sgC hcz (by first | assumption | decide) (own_il 0 _ (by decide) (by simp) T_a.len) rfl sgF r_fo) T_a.exa d22_81 (lenOf own_pd15 rfl) N15 (fun T16 L16 X16 e16 N16 => ?_)
   show Goes _ _ _ _ _ (fT T16 m 84 #[vr a, vi 2, vi 0, vi (((1 : Int32) &&& (own_z d0)) &&& (own_z d1)), vi 2, vu, vu] [(.int d0)])
   refine gB X16 hx hby d22_84 ?_
   refine gU X16 hx hby d22_86 (feq hN8).1 ?_
   refine gC X16 hx hby d22_89 ?_
   refine gG X16 hx hby d22_90 90 94 ?_
   refine gS X16 hx hby d22_94 #[vr a, vi 2, vi 0, vi (((1 : Int32) &&& (own_z d0)) &&& (own_z d1)), vi 2, vi 1, vu] ?_
   refine gC X16 hx hby d22_96 ?_
   show Goes _ _ _ _ _ (fT T16 m 97 #[vr a, vi 2, vi 0, vi (((1 : Int32) &&& (own_z d0)) &&& (own_z d1)), vi 2, vi 1, vu] [(.int 0)])
   refine gS X16 hx hby d22_97 #[vr a, vi 2, vi 0, vi (((1 : Int32) &&& (own_z d0)) &&& (own_z d1)), vi 2, vi 1, vi 0] ?_
   refine gI X16 hx hby d22_99 rfl rfl ?_
   refine gu X16 hx hby d22_101 ((if0 _ _).trans (feq (by decide : ¬ ((1 : Int32) = (0 : Int32)))).1) ?_
   refine gN X16 hx hby d22_104 rfl rfl ?_
   refine gA X16 hx hby d22_105 rfl rfl rfl ?_
   refine cV X16 hx hZ hw hown hby hml e16 mN2 76 63 65 64 66 9 1 (rs_len l Z a0 hw [] a [d0, d1, (46 : Int32), f0, f1] cz h1 n0 Z0 T_a sgC hcz) T_a.exa d22_106 (lenOf own_pd11 rfl) N16 (fun T17 L17 X17 e17 N17 => ?_)
   show Goes _ _ _ _ _ (fT T17 m 109 #[vr a, vi 2, vi 0, vi (((1 : Int32) &&& (own_z d0)) &&& (own_z d1)), vi 2, vi 1, vi 0] [(.int 5), (.int 2)])
   refine gU X17 hx hby d22_109 (tlt (by decide : ((2 : Int32) < (5 : Int32)))).2.1 ?_
   refine gA X17 hx hby d22_112 rfl rfl rfl ?_
   refine cV X17 hx hZ hw hown hby hml e17 mN2 76 63 65 64 66 9 0 (rs_len l Z a0 hw [] a [d0, d1, (46 : Int32), f0, f1] cz h1 n0 Z0 T_a sgC hcz) T_a.exa d22_113 (lenOf own_pd11 rfl) N17 (fun T18 L18 X18 e18 N18 => ?_)
   show Goes _ _ _ _ _ (fT T18 m 116 #[vr a, vi 2, vi 0, vi (((1 : Int32) &&& (own_z d0)) &&& (own_z d1)), vi 2, vi 1, vi 0] [(.int 5)])
   refine gN X18 hx hby d22_116 rfl rfl ?_
   show Goes _ _ _ _ _ (fT T18 m 117 #[vr a, vi 2, vi 0, vi (((1 : Int32) &&& (own_z d0)) &&& (own_z d1)), vi 2, vi 1, vi 0] [(.int 2), (.int 5)])
   refine Gz (XS.isub X18.here hx rfl (hb hby d22_117) rfl) ?_
   show Goes _ _ _ _ _ (fT T18 m 118 #[vr a, vi 2, vi 0, vi (((1 : Int32) &&& (own_z d0)) &&& (own_z d1)), vi 2, vi 1, vi 0] [(.int 3)])
   refine gC X18 hx hby d22_118 ?_
   show Goes _ _ _ _ _ (fT T18 m 119 #[vr a, vi 2, vi 0, vi (((1 : Int32) &&& (own_z d0)) &&& (own_z d1)), vi 2, vi 1, vi 0] [(.int 1), (.int 3)])
   refine Gz (XS.isub X18.here hx rfl (hb hby d22_119) rfl) ?_
   show Goes _ _ _ _ _ (fT T18 m 120 #[vr a, vi 2, vi 0, vi (((1 : Int32) &&& (own_z d0)) &&& (own_z d1)), vi 2, vi 1, vi 0] [(.int 2)])
   refine gS X18 hx hby d22_120 #[vr a, vi 2, vi 0, vi (((1 : Int32) &&& (own_z d0)) &&& (own_z d1)), vi 2, vi 1, vi 2] ?_
   refine gA X18 hx hby d22_122 rfl rfl rfl ?_
   refine gN X18 hx hby d22_123 rfl rfl ?_
   refine cV X18 hx hZ hw hown hby hml e18 mN6 77 78 80 79 81 9 0 (rs_chr l Z a0 hw [] a [d0, d1, (46 : Int32), f0, f1] (2 : Int32) (46 : Int32) cz fo h1 n0 Z0 T_a sgC hcz (by first | assumption | decide) (own_il 2 _ (by decide) (by simp) T_a.len) rfl sgF r_fo) T_a.exa d22_124 (lenOf own_pd15 rfl) N18 (fun T19 L19 X19 e19 N19 => ?_)
   show Goes _ _ _ _ _ (fT T19 m 127 #[vr a, vi 2, vi 0, vi (((1 : Int32) &&& (own_z d0)) &&& (own_z d1)), vi 2, vi 1, vi 2] [(.int 46)])
   refine gB X19 hx hby d22_127 ?_
   refine gU X19 hx hby d22_129 (teq (by decide : ((46 : Int32) = (46 : Int32)))).2 ?_
   refine gI X19 hx hby d22_132 rfl rfl ?_
   refine gu X19 hx hby d22_134 ((if0 _ _).trans (tlt (by decide : ((0 : Int32) < (2 : Int32)))).2.2.2) ?_
   refine gC X19 hx hby d22_137 ?_
   refine gG X19 hx hby d22_138 138 142 ?_
   show Goes _ _ _ _ _ (fT T19 m 142 #[vr a, vi 2, vi 0, vi (((1 : Int32) &&& (own_z d0)) &&& (own_z d1)), vi 2, vi 1, vi 2] [(.int 1)])
   refine gS X19 hx hby d22_142 #[vr a, vi 2, vi 0, vi (((1 : Int32) &&& (own_z d0)) &&& (own_z d1)), vi 2, vi 1, vi 2] ?_
   show Goes _ _ _ _ _ (fT T19 m 144 #[vr a, vi 2, vi 0, vi (((1 : Int32) &&& (own_z d0)) &&& (own_z d1)), vi 2, vi 1, vi 2] [])
   refine Gz (XS.iinc X19.here hx rfl (hb hby d22_144) rfl (l' := #[vr a, vi ((2 : Int32) + (1 : Int32)), vi 0, vi (((1 : Int32) &&& (own_z d0)) &&& (own_z d1)), vi 2, vi 1, vi 2]) rfl) ?_
   show Goes _ _ _ _ _ (fT T19 m 147 #[vr a, vi 3, vi 0, vi (((1 : Int32) &&& (own_z d0)) &&& (own_z d1)), vi 2, vi 1, vi 2] [])
   refine gI X19 hx hby d22_147 rfl rfl ?_
   refine gu X19 hx hby d22_149 ((if0 _ _).trans (feq (by decide : ¬ ((1 : Int32) = (0 : Int32)))).1) ?_
   refine gN X19 hx hby d22_152 rfl rfl ?_
   refine gA X19 hx hby d22_153 rfl rfl rfl ?_
   refine cV X19 hx hZ hw hown hby hml e19 mN2 76 63 65 64 66 9 1 (rs_len l Z a0 hw [] a [d0, d1, (46 : Int32), f0, f1] cz h1 n0 Z0 T_a sgC hcz) T_a.exa d22_154 (lenOf own_pd11 rfl) N19 (fun T20 L20 X20 e20 N20 => ?_)
   show Goes _ _ _ _ _ (fT T20 m 157 #[vr a, vi 3, vi 0, vi (((1 : Int32) &&& (own_z d0)) &&& (own_z d1)), vi 2, vi 1, vi 2] [(.int 5), (.int 3)])
   refine gU X20 hx hby d22_157 (tlt (by decide : ((3 : Int32) < (5 : Int32)))).2.1 ?_
   refine gA X20 hx hby d22_160 rfl rfl rfl ?_
   refine gN X20 hx hby d22_161 rfl rfl ?_
   refine cV X20 hx hZ hw hown hby hml e20 mN6 77 78 80 79 81 9 0 (rs_chr l Z a0 hw [] a [d0, d1, (46 : Int32), f0, f1] (3 : Int32) f0 cz fo h1 n0 Z0 T_a sgC hcz (by first | assumption | decide) (own_il 3 _ (by decide) (by simp) T_a.len) rfl sgF r_fo) T_a.exa d22_162 (lenOf own_pd15 rfl) N20 (fun T21 L21 X21 e21 N21 => ?_)
   show Goes _ _ _ _ _ (fT T21 m 165 #[vr a, vi 3, vi 0, vi (((1 : Int32) &&& (own_z d0)) &&& (own_z d1)), vi 2, vi 1, vi 2] [(.int f0)])
   refine cS X21 hx hZ hw hown hby hml e21 mN17 99 100 101 39 0 (rm_isd l Z a0 hw [] f0 h1 n0 Z0 (own_n48 hD_f0).1 (own_n48 hD_f0).2) d22_165 (lenOf own_pd16 rfl) N21 (fun T22 L22 X22 e22 N22 => ?_)
   show Goes _ _ _ _ _ (fT T22 m 168 #[vr a, vi 3, vi 0, vi (((1 : Int32) &&& (own_z d0)) &&& (own_z d1)), vi 2, vi 1, vi 2] [(.int 1)])
   refine gS X22 hx hby d22_168 #[vr a, vi 3, vi 0, vi (((1 : Int32) &&& (own_z d0)) &&& (own_z d1)), vi 2, vi 1, vi 2] ?_
   refine gN X22 hx hby d22_170 rfl rfl ?_
   refine gA X22 hx hby d22_171 rfl rfl rfl ?_
   refine gN X22 hx hby d22_172 rfl rfl ?_
   refine cV X22 hx hZ hw hown hby hml e22 mN6 77 78 80 79 81 9 1 (rs_chr l Z a0 hw [] a [d0, d1, (46 : Int32), f0, f1] (3 : Int32) f0 cz fo h1 n0 Z0 T_a sgC hcz (by first | assumption | decide) (own_il 3 _ (by decide) (by simp) T_a.len) rfl sgF r_fo) T_a.exa d22_173 (lenOf own_pd15 rfl) N22 (fun T23 L23 X23 e23 N23 => ?_)
   show Goes _ _ _ _ _ (fT T23 m 176 #[vr a, vi 3, vi 0, vi (((1 : Int32) &&& (own_z d0)) &&& (own_z d1)), vi 2, vi 1, vi 2] [(.int f0), (.int (((1 : Int32) &&& (own_z d0)) &&& (own_z d1)))])
   refine gB X23 hx hby d22_176 ?_
   show Goes _ _ _ _ _ (fT T23 m 178 #[vr a, vi 3, vi 0, vi (((1 : Int32) &&& (own_z d0)) &&& (own_z d1)), vi 2, vi 1, vi 2] [(.int 48), (.int f0), (.int (((1 : Int32) &&& (own_z d0)) &&& (own_z d1)))])
   refine own_join (B := T23.setTop (mkF m 186 #[vr a, vi 3, vi 0, vi (((1 : Int32) &&& (own_z d0)) &&& (own_z d1)), vi 2, vi 1, vi 2] [(.int (own_z f0)), (.int (((1 : Int32) &&& (own_z d0)) &&& (own_z d1)))])) ?_ ?_
   ·show Goes _ _ _ _ _ (fT T23 m 186 #[vr a, vi 3, vi 0, vi (((1 : Int32) &&& (own_z d0)) &&& (own_z d1)), vi 2, vi 1, vi 2] [(.int (own_z f0)), (.int (((1 : Int32) &&& (own_z d0)) &&& (own_z d1)))])
    refine Gz (XS.iand X23.here hx rfl (hb hby d22_186) rfl) ?_
    show Goes _ _ _ _ _ (fT T23 m 187 #[vr a, vi 3, vi 0, vi (((1 : Int32) &&& (own_z d0)) &&& (own_z d1)), vi 2, vi 1, vi 2] [(.int ((((1 : Int32) &&& (own_z d0)) &&& (own_z d1)) &&& (own_z f0)))])
    refine gs X23 hx hby d22_187 #[vr a, vi 3, vi 0, vi ((((1 : Int32) &&& (own_z d0)) &&& (own_z d1)) &&& (own_z f0)), vi 2, vi 1, vi 2] ?_
    show Goes _ _ _ _ _ (fT T23 m 188 #[vr a, vi 3, vi 0, vi ((((1 : Int32) &&& (own_z d0)) &&& (own_z d1)) &&& (own_z f0)), vi 2, vi 1, vi 2] [])
    refine Gz (XS.iinc X23.here hx rfl (hb hby d22_188) rfl (l' := #[vr a, vi ((3 : Int32) + (1 : Int32)), vi 0, vi ((((1 : Int32) &&& (own_z d0)) &&& (own_z d1)) &&& (own_z f0)), vi 2, vi 1, vi 2]) rfl) ?_
    show Goes _ _ _ _ _ (fT T23 m 191 #[vr a, vi 4, vi 0, vi ((((1 : Int32) &&& (own_z d0)) &&& (own_z d1)) &&& (own_z f0)), vi 2, vi 1, vi 2] [])
    refine gG X23 hx hby d22_191 191 147 ?_
    refine gI X23 hx hby d22_147 rfl rfl ?_
    refine gu X23 hx hby d22_149 ((if0 _ _).trans (feq (by decide : ¬ ((1 : Int32) = (0 : Int32)))).1) ?_
    refine gN X23 hx hby d22_152 rfl rfl ?_
    refine gA X23 hx hby d22_153 rfl rfl rfl ?_
    refine cV X23 hx hZ hw hown hby hml e23 mN2 76 63 65 64 66 9 1 (rs_len l Z a0 hw [] a [d0, d1, (46 : Int32), f0, f1] cz h1 n0 Z0 T_a sgC hcz) T_a.exa d22_154 (lenOf own_pd11 rfl) N23 (fun T25 L25 X25 e25 N25 => ?_)
    show Goes _ _ _ _ _ (fT T25 m 157 #[vr a, vi 4, vi 0, vi ((((1 : Int32) &&& (own_z d0)) &&& (own_z d1)) &&& (own_z f0)), vi 2, vi 1, vi 2] [(.int 5), (.int 4)])
    refine gU X25 hx hby d22_157 (tlt (by decide : ((4 : Int32) < (5 : Int32)))).2.1 ?_
    refine gA X25 hx hby d22_160 rfl rfl rfl ?_
    refine gN X25 hx hby d22_161 rfl rfl ?_
    refine cV X25 hx hZ hw hown hby hml e25 mN6 77 78 80 79 81 9 0 (rs_chr l Z a0 hw [] a [d0, d1, (46 : Int32), f0, f1] (4 : Int32) f1 cz fo h1 n0 Z0 T_a sgC hcz (by first | assumption | decide) (own_il 4 _ (by decide) (by simp) T_a.len) rfl sgF r_fo) T_a.exa d22_162 (lenOf own_pd15 rfl) N25 (fun T26 L26 X26 e26 N26 => ?_)
    show Goes _ _ _ _ _ (fT T26 m 165 #[vr a, vi 4, vi 0, vi ((((1 : Int32) &&& (own_z d0)) &&& (own_z d1)) &&& (own_z f0)), vi 2, vi 1, vi 2] [(.int f1)])
    refine cS X26 hx hZ hw hown hby hml e26 mN17 99 100 101 39 0 (rm_isd l Z a0 hw [] f1 h1 n0 Z0 (own_n48 hD_f1).1 (own_n48 hD_f1).2) d22_165 (lenOf own_pd16 rfl) N26 (fun T27 L27 X27 e27 N27 => ?_)
    show Goes _ _ _ _ _ (fT T27 m 168 #[vr a, vi 4, vi 0, vi ((((1 : Int32) &&& (own_z d0)) &&& (own_z d1)) &&& (own_z f0)), vi 2, vi 1, vi 2] [(.int 1)])
    refine gS X27 hx hby d22_168 #[vr a, vi 4, vi 0, vi ((((1 : Int32) &&& (own_z d0)) &&& (own_z d1)) &&& (own_z f0)), vi 2, vi 1, vi 2] ?_
    refine gN X27 hx hby d22_170 rfl rfl ?_
    refine gA X27 hx hby d22_171 rfl rfl rfl ?_
    refine gN X27 hx hby d22_172 rfl rfl ?_
    refine cV X27 hx hZ hw hown hby hml e27 mN6 77 78 80 79 81 9 1 (rs_chr l Z a0 hw [] a [d0, d1, (46 : Int32), f0, f1] (4 : Int32) f1 cz fo h1 n0 Z0 T_a sgC hcz (by first | assumption | decide) (own_il 4 _ (by decide) (by simp) T_a.len) rfl sgF r_fo) T_a.exa d22_173 (lenOf own_pd15 rfl) N27 (fun T28 L28 X28 e28 N28 => ?_)
    show Goes _ _ _ _ _ (fT T28 m 176 #[vr a, vi 4, vi 0, vi ((((1 : Int32) &&& (own_z d0)) &&& (own_z d1)) &&& (own_z f0)), vi 2, vi 1, vi 2] [(.int f1), (.int ((((1 : Int32) &&& (own_z d0)) &&& (own_z d1)) &&& (own_z f0)))])
    refine gB X28 hx hby d22_176 ?_
    show Goes _ _ _ _ _ (fT T28 m 178 #[vr a, vi 4, vi 0, vi ((((1 : Int32) &&& (own_z d0)) &&& (own_z d1)) &&& (own_z f0)), vi 2, vi 1, vi 2] [(.int 48), (.int f1), (.int ((((1 : Int32) &&& (own_z d0)) &&& (own_z d1)) &&& (own_z f0)))])
    refine own_join (B := T28.setTop (mkF m 186 #[vr a, vi 4, vi 0, vi ((((1 : Int32) &&& (own_z d0)) &&& (own_z d1)) &&& (own_z f0)), vi 2, vi 1, vi 2] [(.int (own_z f1)), (.int ((((1 : Int32) &&& (own_z d0)) &&& (own_z d1)) &&& (own_z f0)))])) ?_ ?_
    ·show Goes _ _ _ _ _ (fT T28 m 186 #[vr a, vi 4, vi 0, vi ((((1 : Int32) &&& (own_z d0)) &&& (own_z d1)) &&& (own_z f0)), vi 2, vi 1, vi 2] [(.int (own_z f1)), (.int ((((1 : Int32) &&& (own_z d0)) &&& (own_z d1)) &&& (own_z f0)))])
     refine Gz (XS.iand X28.here hx rfl (hb hby d22_186) rfl) ?_
     show Goes _ _ _ _ _ (fT T28 m 187 #[vr a, vi 4, vi 0, vi ((((1 : Int32) &&& (own_z d0)) &&& (own_z d1)) &&& (own_z f0)), vi 2, vi 1, vi 2] [(.int (((((1 : Int32) &&& (own_z d0)) &&& (own_z d1)) &&& (own_z f0)) &&& (own_z f1)))])
     refine gs X28 hx hby d22_187 #[vr a, vi 4, vi 0, .val (.int (((((1 : Int32) &&& (own_z d0)) &&& (own_z d1)) &&& (own_z f0)) &&& (own_z f1))), vi 2, vi 1, vi 2] ?_
     show Goes _ _ _ _ _ (fT T28 m 188 #[vr a, vi 4, vi 0, .val (.int (((((1 : Int32) &&& (own_z d0)) &&& (own_z d1)) &&& (own_z f0)) &&& (own_z f1))), vi 2, vi 1, vi 2] [])
     refine Gz (XS.iinc X28.here hx rfl (hb hby d22_188) rfl (l' := #[vr a, vi ((4 : Int32) + (1 : Int32)), vi 0, .val (.int (((((1 : Int32) &&& (own_z d0)) &&& (own_z d1)) &&& (own_z f0)) &&& (own_z f1))), vi 2, vi 1, vi 2]) rfl) ?_
     show Goes _ _ _ _ _ (fT T28 m 191 #[vr a, vi 5, vi 0, .val (.int (((((1 : Int32) &&& (own_z d0)) &&& (own_z d1)) &&& (own_z f0)) &&& (own_z f1))), vi 2, vi 1, vi 2] [])
     refine gG X28 hx hby d22_191 191 147 ?_
     refine gI X28 hx hby d22_147 rfl rfl ?_
     refine gu X28 hx hby d22_149 ((if0 _ _).trans (feq (by decide : ¬ ((1 : Int32) = (0 : Int32)))).1) ?_
     refine gN X28 hx hby d22_152 rfl rfl ?_
     refine gA X28 hx hby d22_153 rfl rfl rfl ?_
     refine cV X28 hx hZ hw hown hby hml e28 mN2 76 63 65 64 66 9 1 (rs_len l Z a0 hw [] a [d0, d1, (46 : Int32), f0, f1] cz h1 n0 Z0 T_a sgC hcz) T_a.exa d22_154 (lenOf own_pd11 rfl) N28 (fun T30 L30 X30 e30 N30 => ?_)
     show Goes _ _ _ _ _ (fT T30 m 157 #[vr a, vi 5, vi 0, .val (.int (((((1 : Int32) &&& (own_z d0)) &&& (own_z d1)) &&& (own_z f0)) &&& (own_z f1))), vi 2, vi 1, vi 2] [(.int 5), (.int 5)])
     refine gY X30 hx hby d22_157 157 194 (flt (by decide : ¬ ((5 : Int32) < (5 : Int32)))).2.1 ?_
     refine gI X30 hx hby d22_194 rfl rfl ?_
     refine gy X30 hx hby d22_196 196 213 ((if0 _ _).trans (feq (by decide : ¬ ((1 : Int32) = (0 : Int32)))).2) ?_
     obtain ⟨T31, h31, X31, e31, E31, A31, D31, -, st31⟩ := newO X30 hx hZ hown (gw hw 102 rfl) (gw hw 103 rfl) (gw hw 104 rfl) e30 (g := (mkF m 213 #[vr a, vi 5, vi 0, .val (.int (((((1 : Int32) &&& (own_z d0)) &&& (own_z d1)) &&& (own_z f0)) &&& (own_z f1))), vi 2, vi 1, vi 2] [])) rfl (hb hby d22_213) (by decide) (by decide)
     obtain ⟨b31, gq31⟩ : ∃ z, z = h1.size := ⟨_, rfl⟩
     rw [← gq31] at A31 st31 D31
     have g_b31 : n0 ≤ b31 := by rw [gq31]; exact Z0
     have sz_b31 : h0.size ≤ b31 := by rw [gq31]; exact KP.1
     have ne_a_b31 : a ≠ b31 := by rw [gq31]; exact Nat.ne_of_lt T_a.lt
     have ne_c1_b31 : c1 ≠ b31 := by rw [gq31]; exact Nat.ne_of_lt A_c1.lt
     have ne_cb1_b31 : cb1 ≠ b31 := by rw [gq31]; exact Nat.ne_of_lt V_cb1.lt
     have Sf_b31 : Safe Z consts_1 T1.vm h1 b31 := Safe.new (Nat.le_of_eq gq31.symm)
     replace Sf_b31 := Safe.ext E31 hR.1 Sf_b31
     replace hR := hR.trans (CHr.ext E31 hR.1)
     replace T_a := T_a.ext E31
     replace T_c1 := T_c1.ext E31
     replace KP := KP.ext E31
     replace Z0 : n0 ≤ h31.size := Nat.le_trans Z0 E31.1
     replace hk := Nat.le_trans hk E31.1
     have A_b31 : Exa Z h31 b31 "com/example/modest_billing/modestbilling/Money$Shape" := A31
     have F_signum_b31 : Fld Z h31 b31 "com/example/modest_billing/modestbilling/Money$Shape" "signum" "I" (.int 0) := D31 (Or.inr (gw hw 115 rfl)) (ty := .int) (by decide)
     have F_fractionDigits_b31 : Fld Z h31 b31 "com/example/modest_billing/modestbilling/Money$Shape" "fractionDigits" "I" (.int 0) := D31 (Or.inr (gw hw 117 rfl)) (ty := .int) (by decide)
     refine Gs st31 ?_
     show Goes _ _ _ _ _ (fT T31 m 216 #[vr a, vi 5, vi 0, .val (.int (((((1 : Int32) &&& (own_z d0)) &&& (own_z d1)) &&& (own_z f0)) &&& (own_z f1))), vi 2, vi 1, vi 2] [(.ref b31)])
     refine Gz (XS.dup X31.here hx rfl (hb hby d22_216) rfl rfl) ?_
     refine gN X31 hx hby d22_217 rfl rfl ?_
     show Goes _ _ _ _ _ (fT T31 m 218 #[vr a, vi 5, vi 0, .val (.int (((((1 : Int32) &&& (own_z d0)) &&& (own_z d1)) &&& (own_z f0)) &&& (own_z f1))), vi 2, vi 1, vi 2] [(.int (((((1 : Int32) &&& (own_z d0)) &&& (own_z d1)) &&& (own_z f0)) &&& (own_z f1))), (.ref b31), (.ref b31)])
     refine own_join (B := T31.setTop (mkF m 234 #[vr a, vi 5, vi 0, .val (.int (((((1 : Int32) &&& (own_z d0)) &&& (own_z d1)) &&& (own_z f0)) &&& (own_z f1))), vi 2, vi 1, vi 2] [(.int (own_sg (own_allz [d0, d1, f0, f1]) (1 : Int32))), (.ref b31), (.ref b31)])) ?_ ?_
     ·show Goes _ _ _ _ _ (fT T31 m 234 #[vr a, vi 5, vi 0, .val (.int (((((1 : Int32) &&& (own_z d0)) &&& (own_z d1)) &&& (own_z f0)) &&& (own_z f1))), vi 2, vi 1, vi 2] [(.int (own_sg (own_allz [d0, d1, f0, f1]) (1 : Int32))), (.ref b31), (.ref b31)])
      refine gI X31 hx hby d22_234 rfl rfl ?_
      obtain ⟨_, _, ⟨T33, L33, k33, n33⟩, -, X33, ⟨Lc33, hQ33, l33, y33, z33⟩, st33⟩ := own_specialRef X31 hx hZ (y := mN13) rfl hown (gw hw 105 rfl) (gw hw 106 rfl) (gw hw 107 rfl) (by decide) (backOf (W := 1) (rm_shi l Z a0 hw [] b31 (own_sg (own_allz [d0, d1, f0, f1]) (1 : Int32)) (2 : Int32) h31 n0 Z0 A_b31 F_signum_b31 F_fractionDigits_b31 g_b31) hZ (gw hw 107 rfl) (gw hw 104 rfl) (by decide) (by decide)) (g := (mkF m 236 #[vr a, vi 5, vi 0, .val (.int (((((1 : Int32) &&& (own_z d0)) &&& (own_z d1)) &&& (own_z f0)) &&& (own_z f1))), vi 2, vi 1, vi 2] [(.int 2), (.int (own_sg (own_allz [d0, d1, f0, f1]) (1 : Int32))), (.ref b31), (.ref b31)])) rfl hml.symm (Steps.refl _) (a := b31) (argsL := [(.int (own_sg (own_allz [d0, d1, f0, f1]) (1 : Int32))), (.int 2)]) (rest := [(.ref b31)]) (lenOf own_pd2 rfl) rfl (wz rfl) (hb hby d22_236) (fun _ _ => ⟨rfl, e31, (by decide : 3 + 0 ≤ _), (by decide : 10 + 0 ≤ _)⟩)
      dsimp only [Pt.U, Pt.locs, Pt.cells, Pt.slots] at X33 l33 y33 z33 st33 hQ33
      subst l33 y33 z33
      obtain ⟨rfl, N33q, K33, F_signum_b31_33'⟩ := hQ33
      have N33 := Fr.app N30 N33q
      replace hR := hR.trans (CHr.keep K33 (allS Sf_b31 all0) hR.1)
      replace T_a := T_a.keep K33 (allS ⟨(Ne.symm ne_a_b31), (own_nbE A_b31 (gw hw 103 rfl))⟩ all0)
      replace T_c1 := T_c1.keep K33 (allS ⟨(Ne.symm ne_c1_b31), (own_nbE A_b31 (gw hw 103 rfl))⟩ all0)
      replace A_b31 := A_b31.keep K33
      replace KP := KP.trans K33 (allS (Or.inr sz_b31) all0)
      replace Z0 := Nat.le_trans Z0 K33.1
      replace hk := Nat.le_trans hk K33.1
      have F_signum_b31 := F_signum_b31_33'
      refine Gs (fun _ tk => st33.trans tk) ?_
      show Goes _ _ _ _ _ (fT T33 m 239 #[vr a, vi 5, vi 0, .val (.int (((((1 : Int32) &&& (own_z d0)) &&& (own_z d1)) &&& (own_z f0)) &&& (own_z f1))), vi 2, vi 1, vi 2] [(.ref b31)])
      refine Goes.retH X33 hS rfl hk hZ (own_EW hw) hh hR (some (.ref b31)) (fun h => by rw [hret] at h; cases h) hlk (by decide) (by decide) ?_ (fun fs hr => ?_)
      ·exact ⟨b31, rfl, N33, KP, A_b31, F_signum_b31, g_b31, sz_b31⟩
      ·exact own_retA X33 hx hret rfl rfl (hb hby d22_239) hr
     intro J234_32
     by_cases hc218_34 : (((((1 : Int32) &&& (own_z d0)) &&& (own_z d1)) &&& (own_z f0)) &&& (own_z f1)) = 0
     ·refine gy X31 hx hby d22_218 218 225 ((if0 _ _).trans (teq hc218_34).1) ?_
      refine gN X31 hx hby d22_225 rfl rfl ?_
      refine gu X31 hx hby d22_226 ((if0 _ _).trans (teq (by decide : ((0 : Int32) = (0 : Int32)))).2) ?_
      refine gC X31 hx hby d22_229 ?_
      refine gG X31 hx hby d22_230 230 234 ?_
      rw [show (own_sg (own_allz [d0, d1, f0, f1]) (1 : Int32)) = 1 from by rw [← own_F4, own_sg, if_pos hc218_34]] at J234_32
      exact J234_32
     ·refine gu X31 hx hby d22_218 ((if0 _ _).trans (feq hc218_34).1) ?_
      refine gC X31 hx hby d22_221 ?_
      refine gG X31 hx hby d22_222 222 234 ?_
      rw [show (own_sg (own_allz [d0, d1, f0, f1]) (1 : Int32)) = 0 from by rw [← own_F4, own_sg, if_neg hc218_34]] at J234_32
      exact J234_32
    intro J186_29
    by_cases hc178_35 : f1 = 48
    ·refine gU X28 hx hby d22_178 (teq hc178_35).2 ?_
     refine gC X28 hx hby d22_181 ?_
     refine gG X28 hx hby d22_182 182 186 ?_
     rw [show (own_z f1) = 1 from by rw [own_z, if_pos hc178_35]] at J186_29
     exact J186_29
    ·refine gY X28 hx hby d22_178 178 185 (feq hc178_35).2 ?_
     refine gC X28 hx hby d22_185 ?_
     rw [show (own_z f1) = 0 from by rw [own_z, if_neg hc178_35]] at J186_29
     exact J186_29
   intro J186_24
   by_cases hc178_36 : f0 = 48
   ·refine gU X23 hx hby d22_178 (teq hc178_36).2 ?_
    refine gC X23 hx hby d22_181 ?_
    refine gG X23 hx hby d22_182 182 186 ?_
    rw [show (own_z f0) = 1 from by rw [own_z, if_pos hc178_36]] at J186_24
    exact J186_24
   ·refine gY X23 hx hby d22_178 178 185 (feq hc178_36).2 ?_
    refine gC X23 hx hby d22_185 ?_
    rw [show (own_z f0) = 0 from by rw [own_z, if_neg hc178_36]] at J186_24
    exact J186_24
  intro J54_12
  by_cases hc46_37 : d1 = 48
  ·refine gU X11 hx hby d22_46 (teq hc46_37).2 ?_
   refine gC X11 hx hby d22_49 ?_
   refine gG X11 hx hby d22_50 50 54 ?_
   rw [show (own_z d1) = 1 from by rw [own_z, if_pos hc46_37]] at J54_12
   exact J54_12
  ·refine gY X11 hx hby d22_46 46 53 (feq hc46_37).2 ?_
   refine gC X11 hx hby d22_53 ?_
   rw [show (own_z d1) = 0 from by rw [own_z, if_neg hc46_37]] at J54_12
   exact J54_12
 intro J54_7
 refine gY X6 hx hby d22_46 46 53 (feq hN8).2 ?_
 refine gC X6 hx hby d22_53 ?_
 rw [show (own_z d0) = 0 from by rw [own_z, if_neg hN8]] at J54_7
 exact J54_7
theorem own_ef_rm_so022 (m : MethodId) (x0 : Addr) : entryFrame m #[(.ref x0)] 1 = mkF m 0 #[vr x0] [] := by first | (simp [entryFrame, mkF, argsToLocals, Value.category]; done) | rfl
def Q_rm_so022 (Z : State) (a : Addr) (d0 : Int32) (d1 : Int32) (f0 : Int32) (f1 : Int32) (cz : Int32) (fo : Value) (h0 : Heap) (n0 : Nat) (v : Option Value) (h : Heap) (L : List Loc) : Prop := v = some (.int (own_sg (own_allz [d0, d1, f0, f1]) (1 : Int32))) ∧ Fr n0 L ∧ Keep h0 h []
theorem rm_so022 (l : Launch) (Z : State) (a0 : Array Value) (hw : HW a0 Z) (ws : List Jvm.Cond) (a : Addr) (d0 : Int32) (d1 : Int32) (f0 : Int32) (f1 : Int32) (cz : Int32) (fo : Value) (h0 : Heap) (n0 : Nat) (Z0 : n0 ≤ h0.size) (T_a : StrOf Z h0 a [d0, d1, (46 : Int32), f0, f1]) (hD_d0 : Dig d0) (hD_d1 : Dig d1) (hD_f0 : Dig f0) (hD_f1 : Dig f1) (hN8 : ¬ (d0 = 48)) (sgC : Sta Z h0 "java/lang/String" "COMPACT_STRINGS" "Z" (.int cz)) (hcz : ¬ (cz = 0)) (sgF : Sta Z h0 "jdk/internal/util/Preconditions" "SIOOBE_FORMATTER" "Ljava/util/function/BiFunction;" fo) (r_fo : fo.isRef = true) :
  MetH l Z mN23 prog_29_method_6_code 1 (some .int) ({ frames := 5, cells := 5, slots := 30, locals := 77 } : Room) ws #[(.ref a)] h0 (Q_rm_so022 Z a d0 d1 f0 f1 cz fo h0 n0) := by
 refine own_metH (plainFor_of_name own_pn8) ?_
 intro p e s m below meth c s₁ hret hx hby hlk hml hown hnm X0 e0 hZ hh hC0
 have N0 := Fr.nil n0
 have hS : s.Since s.vm h0.size := (State.WarmedH.refl s).since _
 have hk : h0.size ≤ h0.size := Nat.le_refl _
 replace hZ : Z.Warmed39 (s.setVm s.vm).vm := hZ
 have hR : CHr Z consts_1 s.vm h0 s.vm h0 := CHr.refl hC0
 refine Gz (castTop (own_ef_rm_so022 m a)) ?_
 have KP : Keep h0 h0 [] := Keep.refl _ _
 show Goes _ _ _ _ _ (fT s₁ m 0 #[vr a] [])
 refine gA X0 hx hby d23_0 rfl rfl rfl ?_
 obtain ⟨c1, T1, h1, kk1, cb1, kc1, X1, e1, E1, hS, hk1, hZ, hown, A_c1, F_coder_c1, F_value_c1, V_cb1, -, -, hC1, hL1, hsf1, st1⟩ := ldcCH X0 hx hZ hown (gw hw 41 rfl) (own_strW hw) e0 hS hk (own_EW hw) (List.mem_of_getElem? (i := 0) rfl) hR.1 (vs := [(.int 116), (.int 101), (.int 120), (.int 116)]) (z := (4 : Int32)) ⟨by first | decide | rfl, by first | decide | rfl⟩ (by decide) (by decide) (g := (mkF m 1 #[vr a] [(.ref a)])) rfl (hb hby d23_1) (n := 16) (by decide) (by decide) (by decide) (by decide)
 replace T_a := T_a.ext E1
 replace sgC := sgC.ext E1
 replace sgF := sgF.ext E1
 replace KP := KP.ext E1
 replace hR := hR.trans hC1
 replace Z0 : n0 ≤ h1.size := Nat.le_trans Z0 E1.1
 replace hk := hk1
 refine Gs st1 ?_
 show Goes _ _ _ _ _ (fT T1 m 3 #[vr a] [(.ref c1), (.ref a)])
 refine cS X1 hx hZ hw hown hby hml e1 mN15 44 45 47 46 0 (rm_nn l Z a0 hw [] a c1 h1 n0 Z0) d23_3 (lenOf own_pd17 rfl) N0 (fun T2 L2 X2 e2 N2 => ?_)
 show Goes _ _ _ _ _ (fT T2 m 6 #[vr a] [(.ref a)])
 refine Gz (XS.pop X2.here hx rfl (hb hby d23_6) rfl rfl) ?_
 refine gA X2 hx hby d23_7 rfl rfl rfl ?_
 obtain ⟨_, _, ⟨T3, L3, k3, n3⟩, -, X3, hS3, gr3, ⟨Lc3, hQ3, l3, y3, z3, hC3⟩, st3⟩ := callSS X2 hx (y := mN22) hown (gz hZ hw 48 rfl) (gz hZ hw 49 rfl) (gz hZ hw 39 rfl) (gz hZ hw 50 rfl) (by decide) (backOfSH (W := 0) (rm_cs022 l Z a0 hw [] a d0 d1 f0 f1 cz fo h1 n0 Z0 T_a hD_d0 hD_d1 hD_f0 hD_f1 hN8 sgC hcz sgF r_fo) hZ (gw hw 50 rfl) (gw hw 39 rfl) (by decide) (by decide) (own_EW hw) hR.1) (g := (mkF m 8 #[vr a] [(.ref a)])) rfl hml.symm (argsL := [(.ref a)]) (rest := []) (lenOf own_pd18 rfl) rfl (wz rfl) (hb hby d23_8) (fun _ _ => ⟨rfl, e2, (by decide : 2 + 3 ≤ _), (by decide : 20 + 10 ≤ _)⟩)
 dsimp only [Pt.U, Pt.locs, Pt.cells, Pt.slots] at X3 l3 y3 z3 st3 hQ3 hS3 gr3 hC3
 subst l3 y3 z3
 obtain ⟨X3, hS, hZ, hown⟩ := rebS hS hk X3 hS3 (by have q := gr3; rw [e2] at q; exact q) hZ hown
 replace hk : T3.heap.size ≤ T3.heap.size := Nat.le_refl _
 obtain ⟨o3, rfl, N3q, K3, A_o3_3', F_signum_o3_3', g_o3_3', sz_o3_3'⟩ := hQ3
 have N3 := Fr.app N2 N3q
 replace hR := hR.trans hC3
 replace T_a := T_a.keep K3 all0
 replace KP := KP.trans K3 all0
 replace Z0 := Nat.le_trans Z0 K3.1
 have A_o3 := A_o3_3'
 have F_signum_o3 := F_signum_o3_3'
 refine Gs (fun _ tk => st3.trans tk) ?_
 show Goes _ _ _ _ _ (fT T3 m 11 #[vr a] [(.ref o3)])
 refine cV X3 hx hZ hw hown hby hml rfl mN14 118 119 121 120 122 104 0 (rm_sgn l Z a0 hw [] o3 (own_sg (own_allz [d0, d1, f0, f1]) (1 : Int32)) T3.heap n0 Z0 F_signum_o3) A_o3 d23_11 (lenOf own_pd11 rfl) N3 (fun T4 L4 X4 e4 N4 => ?_)
 show Goes _ _ _ _ _ (fT T4 m 14 #[vr a] [(.int (own_sg (own_allz [d0, d1, f0, f1]) (1 : Int32)))])
 refine Goes.retH X4 hS e4 hk hZ (own_EW hw) hh hR (some (.int (own_sg (own_allz [d0, d1, f0, f1]) (1 : Int32)))) (fun h => by rw [hret] at h; cases h) hlk (by decide) (by decide) ?_ (fun fs hr => ?_)
 ·rw [e4]; exact ⟨rfl, N4, KP⟩
 ·exact retI X4 hx hret (hb hby d23_14) hr
theorem d22_9 : DK kc18 9 (.iconst 1) 1 := by decide +kernel
theorem d22_10 : DK kc18 10 (.goto 4) 3 := by decide +kernel
theorem d22_233 : DK kc18 233 (.iconst (-1)) 1 := by decide +kernel
theorem own_ef_rm_cs110 (m : MethodId) (x0 : Addr) : entryFrame m #[(.ref x0)] 7 = mkF m 0 #[vr x0, vu, vu, vu, vu, vu, vu] [] := by first | (simp [entryFrame, mkF, argsToLocals, Value.category]; done) | rfl
def Q_rm_cs110 (Z : State) (a : Addr) (d0 : Int32) (cz : Int32) (fo : Value) (h0 : Heap) (n0 : Nat) (v : Option Value) (h : Heap) (L : List Loc) : Prop := ∃ o : Addr, v = some (.ref o) ∧ Fr n0 L ∧ Keep h0 h [] ∧ Exa Z h o "com/example/modest_billing/modestbilling/Money$Shape" ∧ Fld Z h o "com/example/modest_billing/modestbilling/Money$Shape" "signum" "I" (.int (own_sg (own_allz [d0]) (-1 : Int32))) ∧ n0 ≤ o ∧ h0.size ≤ o
theorem rm_cs110 (l : Launch) (Z : State) (a0 : Array Value) (hw : HW a0 Z) (ws : List Jvm.Cond) (a : Addr) (d0 : Int32) (cz : Int32) (fo : Value) (h0 : Heap) (n0 : Nat) (Z0 : n0 ≤ h0.size) (T_a : StrOf Z h0 a [(45 : Int32), d0]) (hD_d0 : Dig d0) (sgC : Sta Z h0 "java/lang/String" "COMPACT_STRINGS" "Z" (.int cz)) (hcz : ¬ (cz = 0)) (sgF : Sta Z h0 "jdk/internal/util/Preconditions" "SIOOBE_FORMATTER" "Ljava/util/function/BiFunction;" fo) (r_fo : fo.isRef = true) :
  MetH l Z mN22 prog_29_method_8_code 7 (some (.object "com/example/modest_billing/modestbilling/Money$Shape")) ({ frames := 4, cells := 3, slots := 10, locals := 59 } : Room) ws #[(.ref a)] h0 (Q_rm_cs110 Z a d0 cz fo h0 n0) := by
 refine own_metH (plainFor_of_name own_pn8) ?_
 intro p e s m below meth c s₁ hret hx hby hlk hml hown hnm X0 e0 hZ hh hC0
 have N0 := Fr.nil n0
 have hS : s.Since s.vm h0.size := (State.WarmedH.refl s).since _
 have hk : h0.size ≤ h0.size := Nat.le_refl _
 replace hZ : Z.Warmed39 (s.setVm s.vm).vm := hZ
 have hR : CHr Z consts_1 s.vm h0 s.vm h0 := CHr.refl hC0
 refine Gz (castTop (own_ef_rm_cs110 m a)) ?_
 have KP : Keep h0 h0 [] := Keep.refl _ _
 show Goes _ _ _ _ _ (fT s₁ m 0 #[vr a, vu, vu, vu, vu, vu, vu] [])
 refine gA X0 hx hby d22_0 rfl rfl rfl ?_
 obtain ⟨c1, T1, h1, kk1, cb1, kc1, X1, e1, E1, hS, hk1, hZ, hown, A_c1, F_coder_c1, F_value_c1, V_cb1, -, -, hC1, hL1, hsf1, st1⟩ := ldcCH X0 hx hZ hown (gw hw 51 rfl) (own_strW hw) e0 hS hk (own_EW hw) (List.mem_of_getElem? (i := 1) rfl) hR.1 (vs := [(.int 45)]) (z := (1 : Int32)) ⟨by first | decide | rfl, by first | decide | rfl⟩ (by decide) (by decide) (g := (mkF m 1 #[vr a, vu, vu, vu, vu, vu, vu] [(.ref a)])) rfl (hb hby d22_1) (n := 4) (by decide) (by decide) (by decide) (by decide)
 replace T_a := T_a.ext E1
 replace sgC := sgC.ext E1
 replace sgF := sgF.ext E1
 replace KP := KP.ext E1
 replace hR := hR.trans hC1
 replace Z0 : n0 ≤ h1.size := Nat.le_trans Z0 E1.1
 replace hk := hk1
 refine Gs st1 ?_
 show Goes _ _ _ _ _ (fT T1 m 3 #[vr a, vu, vu, vu, vu, vu, vu] [(.ref c1), (.ref a)])
 have T_c1 : StrOf Z h1 c1 [(45 : Int32)] := StrOf.latin A_c1 F_value_c1 F_coder_c1 V_cb1 (by intro c hc; rw [List.mem_singleton.mp hc]; exact own_lat45) rfl rfl (Nat.le_of_ble_eq_true rfl)
 refine cV X1 hx hZ hw hown hby hml e1 mN21 52 53 55 54 56 9 0 (rm_sw11 l Z a0 hw [] a c1 [(45 : Int32), d0] cz h1 n0 Z0 T_a T_c1 (own_il 0 _ (by decide) (by simp) T_a.len) rfl sgC hcz) T_a.exa d22_3 (lenOf own_pd14 rfl) N0 (fun T2 L2 X2 e2 N2 => ?_)
 show Goes _ _ _ _ _ (fT T2 m 6 #[vr a, vu, vu, vu, vu, vu, vu] [(.int 1)])
 refine gu X2 hx hby d22_6 ((if0 _ _).trans (feq (by decide : ¬ ((1 : Int32) = (0 : Int32)))).1) ?_
 refine gC X2 hx hby d22_9 ?_
 refine gG X2 hx hby d22_10 10 14 ?_
 refine gs X2 hx hby d22_14 #[vr a, vi 1, vu, vu, vu, vu, vu] ?_
 refine gN X2 hx hby d22_15 rfl rfl ?_
 refine gs X2 hx hby d22_16 #[vr a, vi 1, vi 1, vu, vu, vu, vu] ?_
 show Goes _ _ _ _ _ (fT T2 m 17 #[vr a, vi 1, vi 1, vu, vu, vu, vu] [])
 refine gC X2 hx hby d22_17 ?_
 refine gs X2 hx hby d22_18 #[vr a, vi 1, vi 1, vi 1, vu, vu, vu] ?_
 refine gN X2 hx hby d22_19 rfl rfl ?_
 refine gA X2 hx hby d22_20 rfl rfl rfl ?_
 refine cV X2 hx hZ hw hown hby hml e2 mN2 76 63 65 64 66 9 1 (rs_len l Z a0 hw [] a [(45 : Int32), d0] cz h1 n0 Z0 T_a sgC hcz) T_a.exa d22_21 (lenOf own_pd11 rfl) N2 (fun T3 L3 X3 e3 N3 => ?_)
 show Goes _ _ _ _ _ (fT T3 m 24 #[vr a, vi 1, vi 1, vi 1, vu, vu, vu] [(.int 2), (.int 1)])
 refine gU X3 hx hby d22_24 (tlt (by decide : ((1 : Int32) < (2 : Int32)))).2.1 ?_
 refine gA X3 hx hby d22_27 rfl rfl rfl ?_
 refine gN X3 hx hby d22_28 rfl rfl ?_
 refine cV X3 hx hZ hw hown hby hml e3 mN6 77 78 80 79 81 9 0 (rs_chr l Z a0 hw [] a [(45 : Int32), d0] (1 : Int32) d0 cz fo h1 n0 Z0 T_a sgC hcz (by first | assumption | decide) (own_il 1 _ (by decide) (by simp) T_a.len) rfl sgF r_fo) T_a.exa d22_29 (lenOf own_pd15 rfl) N3 (fun T4 L4 X4 e4 N4 => ?_)
 show Goes _ _ _ _ _ (fT T4 m 32 #[vr a, vi 1, vi 1, vi 1, vu, vu, vu] [(.int d0)])
 refine cS X4 hx hZ hw hown hby hml e4 mN17 99 100 101 39 0 (rm_isd l Z a0 hw [] d0 h1 n0 Z0 (own_n48 hD_d0).1 (own_n48 hD_d0).2) d22_32 (lenOf own_pd16 rfl) N4 (fun T5 L5 X5 e5 N5 => ?_)
 show Goes _ _ _ _ _ (fT T5 m 35 #[vr a, vi 1, vi 1, vi 1, vu, vu, vu] [(.int 1)])
 refine gu X5 hx hby d22_35 ((if0 _ _).trans (feq (by decide : ¬ ((1 : Int32) = (0 : Int32)))).1) ?_
 refine gN X5 hx hby d22_38 rfl rfl ?_
 refine gA X5 hx hby d22_39 rfl rfl rfl ?_
 refine gN X5 hx hby d22_40 rfl rfl ?_
 refine cV X5 hx hZ hw hown hby hml e5 mN6 77 78 80 79 81 9 1 (rs_chr l Z a0 hw [] a [(45 : Int32), d0] (1 : Int32) d0 cz fo h1 n0 Z0 T_a sgC hcz (by first | assumption | decide) (own_il 1 _ (by decide) (by simp) T_a.len) rfl sgF r_fo) T_a.exa d22_41 (lenOf own_pd15 rfl) N5 (fun T6 L6 X6 e6 N6 => ?_)
 show Goes _ _ _ _ _ (fT T6 m 44 #[vr a, vi 1, vi 1, vi 1, vu, vu, vu] [(.int d0), (.int 1)])
 refine gB X6 hx hby d22_44 ?_
 show Goes _ _ _ _ _ (fT T6 m 46 #[vr a, vi 1, vi 1, vi 1, vu, vu, vu] [(.int 48), (.int d0), (.int 1)])
 refine own_join (B := T6.setTop (mkF m 54 #[vr a, vi 1, vi 1, vi 1, vu, vu, vu] [(.int (own_z d0)), (.int 1)])) ?_ ?_
 ·show Goes _ _ _ _ _ (fT T6 m 54 #[vr a, vi 1, vi 1, vi 1, vu, vu, vu] [(.int (own_z d0)), (.int 1)])
  refine Gz (XS.iand X6.here hx rfl (hb hby d22_54) rfl) ?_
  show Goes _ _ _ _ _ (fT T6 m 55 #[vr a, vi 1, vi 1, vi 1, vu, vu, vu] [(.int ((1 : Int32) &&& (own_z d0)))])
  refine gs X6 hx hby d22_55 #[vr a, vi 1, vi 1, vi ((1 : Int32) &&& (own_z d0)), vu, vu, vu] ?_
  show Goes _ _ _ _ _ (fT T6 m 56 #[vr a, vi 1, vi 1, vi ((1 : Int32) &&& (own_z d0)), vu, vu, vu] [])
  refine Gz (XS.iinc X6.here hx rfl (hb hby d22_56) rfl (l' := #[vr a, vi ((1 : Int32) + (1 : Int32)), vi 1, vi ((1 : Int32) &&& (own_z d0)), vu, vu, vu]) rfl) ?_
  show Goes _ _ _ _ _ (fT T6 m 59 #[vr a, vi 2, vi 1, vi ((1 : Int32) &&& (own_z d0)), vu, vu, vu] [])
  refine gG X6 hx hby d22_59 59 19 ?_
  refine gN X6 hx hby d22_19 rfl rfl ?_
  refine gA X6 hx hby d22_20 rfl rfl rfl ?_
  refine cV X6 hx hZ hw hown hby hml e6 mN2 76 63 65 64 66 9 1 (rs_len l Z a0 hw [] a [(45 : Int32), d0] cz h1 n0 Z0 T_a sgC hcz) T_a.exa d22_21 (lenOf own_pd11 rfl) N6 (fun T8 L8 X8 e8 N8 => ?_)
  show Goes _ _ _ _ _ (fT T8 m 24 #[vr a, vi 2, vi 1, vi ((1 : Int32) &&& (own_z d0)), vu, vu, vu] [(.int 2), (.int 2)])
  refine gY X8 hx hby d22_24 24 62 (flt (by decide : ¬ ((2 : Int32) < (2 : Int32)))).2.1 ?_
  refine gN X8 hx hby d22_62 rfl rfl ?_
  refine gN X8 hx hby d22_63 rfl rfl ?_
  show Goes _ _ _ _ _ (fT T8 m 64 #[vr a, vi 2, vi 1, vi ((1 : Int32) &&& (own_z d0)), vu, vu, vu] [(.int 1), (.int 2)])
  refine Gz (XS.isub X8.here hx rfl (hb hby d22_64) rfl) ?_
  show Goes _ _ _ _ _ (fT T8 m 65 #[vr a, vi 2, vi 1, vi ((1 : Int32) &&& (own_z d0)), vu, vu, vu] [(.int 1)])
  refine gS X8 hx hby d22_65 #[vr a, vi 2, vi 1, vi ((1 : Int32) &&& (own_z d0)), vi 1, vu, vu] ?_
  refine gI X8 hx hby d22_67 rfl rfl ?_
  refine gC X8 hx hby d22_69 ?_
  refine gY X8 hx hby d22_70 70 89 (teq (by decide : ((1 : Int32) = (1 : Int32)))).1 ?_
  refine gC X8 hx hby d22_89 ?_
  refine gG X8 hx hby d22_90 90 94 ?_
  show Goes _ _ _ _ _ (fT T8 m 94 #[vr a, vi 2, vi 1, vi ((1 : Int32) &&& (own_z d0)), vi 1, vu, vu] [(.int 1)])
  refine gS X8 hx hby d22_94 #[vr a, vi 2, vi 1, vi ((1 : Int32) &&& (own_z d0)), vi 1, vi 1, vu] ?_
  refine gC X8 hx hby d22_96 ?_
  refine gS X8 hx hby d22_97 #[vr a, vi 2, vi 1, vi ((1 : Int32) &&& (own_z d0)), vi 1, vi 1, vi 0] ?_
  refine gI X8 hx hby d22_99 rfl rfl ?_
  refine gu X8 hx hby d22_101 ((if0 _ _).trans (feq (by decide : ¬ ((1 : Int32) = (0 : Int32)))).1) ?_
  refine gN X8 hx hby d22_104 rfl rfl ?_
  show Goes _ _ _ _ _ (fT T8 m 105 #[vr a, vi 2, vi 1, vi ((1 : Int32) &&& (own_z d0)), vi 1, vi 1, vi 0] [(.int 2)])
  refine gA X8 hx hby d22_105 rfl rfl rfl ?_
  refine cV X8 hx hZ hw hown hby hml e8 mN2 76 63 65 64 66 9 1 (rs_len l Z a0 hw [] a [(45 : Int32), d0] cz h1 n0 Z0 T_a sgC hcz) T_a.exa d22_106 (lenOf own_pd11 rfl) N8 (fun T9 L9 X9 e9 N9 => ?_)
  show Goes _ _ _ _ _ (fT T9 m 109 #[vr a, vi 2, vi 1, vi ((1 : Int32) &&& (own_z d0)), vi 1, vi 1, vi 0] [(.int 2), (.int 2)])
  refine gY X9 hx hby d22_109 109 194 (flt (by decide : ¬ ((2 : Int32) < (2 : Int32)))).2.1 ?_
  refine gI X9 hx hby d22_194 rfl rfl ?_
  refine gy X9 hx hby d22_196 196 213 ((if0 _ _).trans (feq (by decide : ¬ ((1 : Int32) = (0 : Int32)))).2) ?_
  obtain ⟨T10, h10, X10, e10, E10, A10, D10, -, st10⟩ := newO X9 hx hZ hown (gw hw 102 rfl) (gw hw 103 rfl) (gw hw 104 rfl) e9 (g := (mkF m 213 #[vr a, vi 2, vi 1, vi ((1 : Int32) &&& (own_z d0)), vi 1, vi 1, vi 0] [])) rfl (hb hby d22_213) (by decide) (by decide)
  obtain ⟨b10, gq10⟩ : ∃ z, z = h1.size := ⟨_, rfl⟩
  rw [← gq10] at A10 st10 D10
  have g_b10 : n0 ≤ b10 := by rw [gq10]; exact Z0
  have sz_b10 : h0.size ≤ b10 := by rw [gq10]; exact KP.1
  have ne_a_b10 : a ≠ b10 := by rw [gq10]; exact Nat.ne_of_lt T_a.lt
  have ne_c1_b10 : c1 ≠ b10 := by rw [gq10]; exact Nat.ne_of_lt A_c1.lt
  have ne_cb1_b10 : cb1 ≠ b10 := by rw [gq10]; exact Nat.ne_of_lt V_cb1.lt
  have Sf_b10 : Safe Z consts_1 T1.vm h1 b10 := Safe.new (Nat.le_of_eq gq10.symm)
  replace Sf_b10 := Safe.ext E10 hR.1 Sf_b10
  replace hR := hR.trans (CHr.ext E10 hR.1)
  replace T_a := T_a.ext E10
  replace T_c1 := T_c1.ext E10
  replace KP := KP.ext E10
  replace Z0 : n0 ≤ h10.size := Nat.le_trans Z0 E10.1
  replace hk := Nat.le_trans hk E10.1
  have A_b10 : Exa Z h10 b10 "com/example/modest_billing/modestbilling/Money$Shape" := A10
  have F_signum_b10 : Fld Z h10 b10 "com/example/modest_billing/modestbilling/Money$Shape" "signum" "I" (.int 0) := D10 (Or.inr (gw hw 115 rfl)) (ty := .int) (by decide)
  have F_fractionDigits_b10 : Fld Z h10 b10 "com/example/modest_billing/modestbilling/Money$Shape" "fractionDigits" "I" (.int 0) := D10 (Or.inr (gw hw 117 rfl)) (ty := .int) (by decide)
  refine Gs st10 ?_
  show Goes _ _ _ _ _ (fT T10 m 216 #[vr a, vi 2, vi 1, vi ((1 : Int32) &&& (own_z d0)), vi 1, vi 1, vi 0] [(.ref b10)])
  refine Gz (XS.dup X10.here hx rfl (hb hby d22_216) rfl rfl) ?_
  refine gN X10 hx hby d22_217 rfl rfl ?_
  show Goes _ _ _ _ _ (fT T10 m 218 #[vr a, vi 2, vi 1, vi ((1 : Int32) &&& (own_z d0)), vi 1, vi 1, vi 0] [(.int ((1 : Int32) &&& (own_z d0))), (.ref b10), (.ref b10)])
  refine own_join (B := T10.setTop (mkF m 234 #[vr a, vi 2, vi 1, vi ((1 : Int32) &&& (own_z d0)), vi 1, vi 1, vi 0] [(.int (own_sg (own_allz [d0]) (-1 : Int32))), (.ref b10), (.ref b10)])) ?_ ?_
  ·show Goes _ _ _ _ _ (fT T10 m 234 #[vr a, vi 2, vi 1, vi ((1 : Int32) &&& (own_z d0)), vi 1, vi 1, vi 0] [(.int (own_sg (own_allz [d0]) (-1 : Int32))), (.ref b10), (.ref b10)])
   refine gI X10 hx hby d22_234 rfl rfl ?_
   obtain ⟨_, _, ⟨T12, L12, k12, n12⟩, -, X12, ⟨Lc12, hQ12, l12, y12, z12⟩, st12⟩ := own_specialRef X10 hx hZ (y := mN13) rfl hown (gw hw 105 rfl) (gw hw 106 rfl) (gw hw 107 rfl) (by decide) (backOf (W := 1) (rm_shi l Z a0 hw [] b10 (own_sg (own_allz [d0]) (-1 : Int32)) (0 : Int32) h10 n0 Z0 A_b10 F_signum_b10 F_fractionDigits_b10 g_b10) hZ (gw hw 107 rfl) (gw hw 104 rfl) (by decide) (by decide)) (g := (mkF m 236 #[vr a, vi 2, vi 1, vi ((1 : Int32) &&& (own_z d0)), vi 1, vi 1, vi 0] [(.int 0), (.int (own_sg (own_allz [d0]) (-1 : Int32))), (.ref b10), (.ref b10)])) rfl hml.symm (Steps.refl _) (a := b10) (argsL := [(.int (own_sg (own_allz [d0]) (-1 : Int32))), (.int 0)]) (rest := [(.ref b10)]) (lenOf own_pd2 rfl) rfl (wz rfl) (hb hby d22_236) (fun _ _ => ⟨rfl, e10, (by decide : 3 + 0 ≤ _), (by decide : 10 + 0 ≤ _)⟩)
   dsimp only [Pt.U, Pt.locs, Pt.cells, Pt.slots] at X12 l12 y12 z12 st12 hQ12
   subst l12 y12 z12
   obtain ⟨rfl, N12q, K12, F_signum_b10_12'⟩ := hQ12
   have N12 := Fr.app N9 N12q
   replace hR := hR.trans (CHr.keep K12 (allS Sf_b10 all0) hR.1)
   replace T_a := T_a.keep K12 (allS ⟨(Ne.symm ne_a_b10), (own_nbE A_b10 (gw hw 103 rfl))⟩ all0)
   replace T_c1 := T_c1.keep K12 (allS ⟨(Ne.symm ne_c1_b10), (own_nbE A_b10 (gw hw 103 rfl))⟩ all0)
   replace A_b10 := A_b10.keep K12
   replace KP := KP.trans K12 (allS (Or.inr sz_b10) all0)
   replace Z0 := Nat.le_trans Z0 K12.1
   replace hk := Nat.le_trans hk K12.1
   have F_signum_b10 := F_signum_b10_12'
   refine Gs (fun _ tk => st12.trans tk) ?_
   show Goes _ _ _ _ _ (fT T12 m 239 #[vr a, vi 2, vi 1, vi ((1 : Int32) &&& (own_z d0)), vi 1, vi 1, vi 0] [(.ref b10)])
   refine Goes.retH X12 hS rfl hk hZ (own_EW hw) hh hR (some (.ref b10)) (fun h => by rw [hret] at h; cases h) hlk (by decide) (by decide) ?_ (fun fs hr => ?_)
   ·exact ⟨b10, rfl, N12, KP, A_b10, F_signum_b10, g_b10, sz_b10⟩
   ·exact own_retA X12 hx hret rfl rfl (hb hby d22_239) hr
  intro J234_11
  by_cases hc218_13 : ((1 : Int32) &&& (own_z d0)) = 0
  ·refine gy X10 hx hby d22_218 218 225 ((if0 _ _).trans (teq hc218_13).1) ?_
   refine gN X10 hx hby d22_225 rfl rfl ?_
   refine gy X10 hx hby d22_226 226 233 ((if0 _ _).trans (feq (by decide : ¬ ((1 : Int32) = (0 : Int32)))).2) ?_
   refine gC X10 hx hby d22_233 ?_
   rw [show (own_sg (own_allz [d0]) (-1 : Int32)) = (-1 : Int32) from by rw [← own_F1, own_sg, if_pos hc218_13]] at J234_11
   exact J234_11
  ·refine gu X10 hx hby d22_218 ((if0 _ _).trans (feq hc218_13).1) ?_
   refine gC X10 hx hby d22_221 ?_
   refine gG X10 hx hby d22_222 222 234 ?_
   rw [show (own_sg (own_allz [d0]) (-1 : Int32)) = 0 from by rw [← own_F1, own_sg, if_neg hc218_13]] at J234_11
   exact J234_11
 intro J54_7
 by_cases hc46_14 : d0 = 48
 ·refine gU X6 hx hby d22_46 (teq hc46_14).2 ?_
  refine gC X6 hx hby d22_49 ?_
  refine gG X6 hx hby d22_50 50 54 ?_
  rw [show (own_z d0) = 1 from by rw [own_z, if_pos hc46_14]] at J54_7
  exact J54_7
 ·refine gY X6 hx hby d22_46 46 53 (feq hc46_14).2 ?_
  refine gC X6 hx hby d22_53 ?_
  rw [show (own_z d0) = 0 from by rw [own_z, if_neg hc46_14]] at J54_7
  exact J54_7
theorem own_ef_rm_so110 (m : MethodId) (x0 : Addr) : entryFrame m #[(.ref x0)] 1 = mkF m 0 #[vr x0] [] := by first | (simp [entryFrame, mkF, argsToLocals, Value.category]; done) | rfl
def Q_rm_so110 (Z : State) (a : Addr) (d0 : Int32) (cz : Int32) (fo : Value) (h0 : Heap) (n0 : Nat) (v : Option Value) (h : Heap) (L : List Loc) : Prop := v = some (.int (own_sg (own_allz [d0]) (-1 : Int32))) ∧ Fr n0 L ∧ Keep h0 h []
theorem rm_so110 (l : Launch) (Z : State) (a0 : Array Value) (hw : HW a0 Z) (ws : List Jvm.Cond) (a : Addr) (d0 : Int32) (cz : Int32) (fo : Value) (h0 : Heap) (n0 : Nat) (Z0 : n0 ≤ h0.size) (T_a : StrOf Z h0 a [(45 : Int32), d0]) (hD_d0 : Dig d0) (sgC : Sta Z h0 "java/lang/String" "COMPACT_STRINGS" "Z" (.int cz)) (hcz : ¬ (cz = 0)) (sgF : Sta Z h0 "jdk/internal/util/Preconditions" "SIOOBE_FORMATTER" "Ljava/util/function/BiFunction;" fo) (r_fo : fo.isRef = true) :
  MetH l Z mN23 prog_29_method_6_code 1 (some .int) ({ frames := 5, cells := 5, slots := 30, locals := 77 } : Room) ws #[(.ref a)] h0 (Q_rm_so110 Z a d0 cz fo h0 n0) := by
 refine own_metH (plainFor_of_name own_pn8) ?_
 intro p e s m below meth c s₁ hret hx hby hlk hml hown hnm X0 e0 hZ hh hC0
 have N0 := Fr.nil n0
 have hS : s.Since s.vm h0.size := (State.WarmedH.refl s).since _
 have hk : h0.size ≤ h0.size := Nat.le_refl _
 replace hZ : Z.Warmed39 (s.setVm s.vm).vm := hZ
 have hR : CHr Z consts_1 s.vm h0 s.vm h0 := CHr.refl hC0
 refine Gz (castTop (own_ef_rm_so110 m a)) ?_
 have KP : Keep h0 h0 [] := Keep.refl _ _
 show Goes _ _ _ _ _ (fT s₁ m 0 #[vr a] [])
 refine gA X0 hx hby d23_0 rfl rfl rfl ?_
 obtain ⟨c1, T1, h1, kk1, cb1, kc1, X1, e1, E1, hS, hk1, hZ, hown, A_c1, F_coder_c1, F_value_c1, V_cb1, -, -, hC1, hL1, hsf1, st1⟩ := ldcCH X0 hx hZ hown (gw hw 41 rfl) (own_strW hw) e0 hS hk (own_EW hw) (List.mem_of_getElem? (i := 0) rfl) hR.1 (vs := [(.int 116), (.int 101), (.int 120), (.int 116)]) (z := (4 : Int32)) ⟨by first | decide | rfl, by first | decide | rfl⟩ (by decide) (by decide) (g := (mkF m 1 #[vr a] [(.ref a)])) rfl (hb hby d23_1) (n := 16) (by decide) (by decide) (by decide) (by decide)
 replace T_a := T_a.ext E1
 replace sgC := sgC.ext E1
 replace sgF := sgF.ext E1
 replace KP := KP.ext E1
 replace hR := hR.trans hC1
 replace Z0 : n0 ≤ h1.size := Nat.le_trans Z0 E1.1
 replace hk := hk1
 refine Gs st1 ?_
 show Goes _ _ _ _ _ (fT T1 m 3 #[vr a] [(.ref c1), (.ref a)])
 refine cS X1 hx hZ hw hown hby hml e1 mN15 44 45 47 46 0 (rm_nn l Z a0 hw [] a c1 h1 n0 Z0) d23_3 (lenOf own_pd17 rfl) N0 (fun T2 L2 X2 e2 N2 => ?_)
 show Goes _ _ _ _ _ (fT T2 m 6 #[vr a] [(.ref a)])
 refine Gz (XS.pop X2.here hx rfl (hb hby d23_6) rfl rfl) ?_
 refine gA X2 hx hby d23_7 rfl rfl rfl ?_
 obtain ⟨_, _, ⟨T3, L3, k3, n3⟩, -, X3, hS3, gr3, ⟨Lc3, hQ3, l3, y3, z3, hC3⟩, st3⟩ := callSS X2 hx (y := mN22) hown (gz hZ hw 48 rfl) (gz hZ hw 49 rfl) (gz hZ hw 39 rfl) (gz hZ hw 50 rfl) (by decide) (backOfSH (W := 0) (rm_cs110 l Z a0 hw [] a d0 cz fo h1 n0 Z0 T_a hD_d0 sgC hcz sgF r_fo) hZ (gw hw 50 rfl) (gw hw 39 rfl) (by decide) (by decide) (own_EW hw) hR.1) (g := (mkF m 8 #[vr a] [(.ref a)])) rfl hml.symm (argsL := [(.ref a)]) (rest := []) (lenOf own_pd18 rfl) rfl (wz rfl) (hb hby d23_8) (fun _ _ => ⟨rfl, e2, (by decide : 2 + 3 ≤ _), (by decide : 20 + 10 ≤ _)⟩)
 dsimp only [Pt.U, Pt.locs, Pt.cells, Pt.slots] at X3 l3 y3 z3 st3 hQ3 hS3 gr3 hC3
 subst l3 y3 z3
 obtain ⟨X3, hS, hZ, hown⟩ := rebS hS hk X3 hS3 (by have q := gr3; rw [e2] at q; exact q) hZ hown
 replace hk : T3.heap.size ≤ T3.heap.size := Nat.le_refl _
 obtain ⟨o3, rfl, N3q, K3, A_o3_3', F_signum_o3_3', g_o3_3', sz_o3_3'⟩ := hQ3
 have N3 := Fr.app N2 N3q
 replace hR := hR.trans hC3
 replace T_a := T_a.keep K3 all0
 replace KP := KP.trans K3 all0
 replace Z0 := Nat.le_trans Z0 K3.1
 have A_o3 := A_o3_3'
 have F_signum_o3 := F_signum_o3_3'
 refine Gs (fun _ tk => st3.trans tk) ?_
 show Goes _ _ _ _ _ (fT T3 m 11 #[vr a] [(.ref o3)])
 refine cV X3 hx hZ hw hown hby hml rfl mN14 118 119 121 120 122 104 0 (rm_sgn l Z a0 hw [] o3 (own_sg (own_allz [d0]) (-1 : Int32)) T3.heap n0 Z0 F_signum_o3) A_o3 d23_11 (lenOf own_pd11 rfl) N3 (fun T4 L4 X4 e4 N4 => ?_)
 show Goes _ _ _ _ _ (fT T4 m 14 #[vr a] [(.int (own_sg (own_allz [d0]) (-1 : Int32)))])
 refine Goes.retH X4 hS e4 hk hZ (own_EW hw) hh hR (some (.int (own_sg (own_allz [d0]) (-1 : Int32)))) (fun h => by rw [hret] at h; cases h) hlk (by decide) (by decide) ?_ (fun fs hr => ?_)
 ·rw [e4]; exact ⟨rfl, N4, KP⟩
 ·exact retI X4 hx hret (hb hby d23_14) hr
theorem own_ef_rm_cs111 (m : MethodId) (x0 : Addr) : entryFrame m #[(.ref x0)] 7 = mkF m 0 #[vr x0, vu, vu, vu, vu, vu, vu] [] := by first | (simp [entryFrame, mkF, argsToLocals, Value.category]; done) | rfl
def Q_rm_cs111 (Z : State) (a : Addr) (d0 : Int32) (f0 : Int32) (cz : Int32) (fo : Value) (h0 : Heap) (n0 : Nat) (v : Option Value) (h : Heap) (L : List Loc) : Prop := ∃ o : Addr, v = some (.ref o) ∧ Fr n0 L ∧ Keep h0 h [] ∧ Exa Z h o "com/example/modest_billing/modestbilling/Money$Shape" ∧ Fld Z h o "com/example/modest_billing/modestbilling/Money$Shape" "signum" "I" (.int (own_sg (own_allz [d0, f0]) (-1 : Int32))) ∧ n0 ≤ o ∧ h0.size ≤ o
theorem rm_cs111 (l : Launch) (Z : State) (a0 : Array Value) (hw : HW a0 Z) (ws : List Jvm.Cond) (a : Addr) (d0 : Int32) (f0 : Int32) (cz : Int32) (fo : Value) (h0 : Heap) (n0 : Nat) (Z0 : n0 ≤ h0.size) (T_a : StrOf Z h0 a [(45 : Int32), d0, (46 : Int32), f0]) (hD_d0 : Dig d0) (hD_f0 : Dig f0) (sgC : Sta Z h0 "java/lang/String" "COMPACT_STRINGS" "Z" (.int cz)) (hcz : ¬ (cz = 0)) (sgF : Sta Z h0 "jdk/internal/util/Preconditions" "SIOOBE_FORMATTER" "Ljava/util/function/BiFunction;" fo) (r_fo : fo.isRef = true) :
  MetH l Z mN22 prog_29_method_8_code 7 (some (.object "com/example/modest_billing/modestbilling/Money$Shape")) ({ frames := 4, cells := 3, slots := 10, locals := 59 } : Room) ws #[(.ref a)] h0 (Q_rm_cs111 Z a d0 f0 cz fo h0 n0) := by
 refine own_metH (plainFor_of_name own_pn8) ?_
 intro p e s m below meth c s₁ hret hx hby hlk hml hown hnm X0 e0 hZ hh hC0
 have N0 := Fr.nil n0
 have hS : s.Since s.vm h0.size := (State.WarmedH.refl s).since _
 have hk : h0.size ≤ h0.size := Nat.le_refl _
 replace hZ : Z.Warmed39 (s.setVm s.vm).vm := hZ
 have hR : CHr Z consts_1 s.vm h0 s.vm h0 := CHr.refl hC0
 refine Gz (castTop (own_ef_rm_cs111 m a)) ?_
 have KP : Keep h0 h0 [] := Keep.refl _ _
 show Goes _ _ _ _ _ (fT s₁ m 0 #[vr a, vu, vu, vu, vu, vu, vu] [])
 refine gA X0 hx hby d22_0 rfl rfl rfl ?_
 obtain ⟨c1, T1, h1, kk1, cb1, kc1, X1, e1, E1, hS, hk1, hZ, hown, A_c1, F_coder_c1, F_value_c1, V_cb1, -, -, hC1, hL1, hsf1, st1⟩ := ldcCH X0 hx hZ hown (gw hw 51 rfl) (own_strW hw) e0 hS hk (own_EW hw) (List.mem_of_getElem? (i := 1) rfl) hR.1 (vs := [(.int 45)]) (z := (1 : Int32)) ⟨by first | decide | rfl, by first | decide | rfl⟩ (by decide) (by decide) (g := (mkF m 1 #[vr a, vu, vu, vu, vu, vu, vu] [(.ref a)])) rfl (hb hby d22_1) (n := 4) (by decide) (by decide) (by decide) (by decide)
 replace T_a := T_a.ext E1
 replace sgC := sgC.ext E1
 replace sgF := sgF.ext E1
 replace KP := KP.ext E1
 replace hR := hR.trans hC1
 replace Z0 : n0 ≤ h1.size := Nat.le_trans Z0 E1.1
 replace hk := hk1
 refine Gs st1 ?_
 show Goes _ _ _ _ _ (fT T1 m 3 #[vr a, vu, vu, vu, vu, vu, vu] [(.ref c1), (.ref a)])
 have T_c1 : StrOf Z h1 c1 [(45 : Int32)] := StrOf.latin A_c1 F_value_c1 F_coder_c1 V_cb1 (by intro c hc; rw [List.mem_singleton.mp hc]; exact own_lat45) rfl rfl (Nat.le_of_ble_eq_true rfl)
 refine cV X1 hx hZ hw hown hby hml e1 mN21 52 53 55 54 56 9 0 (rm_sw11 l Z a0 hw [] a c1 [(45 : Int32), d0, (46 : Int32), f0] cz h1 n0 Z0 T_a T_c1 (own_il 0 _ (by decide) (by simp) T_a.len) rfl sgC hcz) T_a.exa d22_3 (lenOf own_pd14 rfl) N0 (fun T2 L2 X2 e2 N2 => ?_)
 show Goes _ _ _ _ _ (fT T2 m 6 #[vr a, vu, vu, vu, vu, vu, vu] [(.int 1)])
 refine gu X2 hx hby d22_6 ((if0 _ _).trans (feq (by decide : ¬ ((1 : Int32) = (0 : Int32)))).1) ?_
 refine gC X2 hx hby d22_9 ?_
 refine gG X2 hx hby d22_10 10 14 ?_
 refine gs X2 hx hby d22_14 #[vr a, vi 1, vu, vu, vu, vu, vu] ?_
 refine gN X2 hx hby d22_15 rfl rfl ?_
 refine gs X2 hx hby d22_16 #[vr a, vi 1, vi 1, vu, vu, vu, vu] ?_
 show Goes _ _ _ _ _ (fT T2 m 17 #[vr a, vi 1, vi 1, vu, vu, vu, vu] [])
 refine gC X2 hx hby d22_17 ?_
 refine gs X2 hx hby d22_18 #[vr a, vi 1, vi 1, vi 1, vu, vu, vu] ?_
 refine gN X2 hx hby d22_19 rfl rfl ?_
 refine gA X2 hx hby d22_20 rfl rfl rfl ?_
 refine cV X2 hx hZ hw hown hby hml e2 mN2 76 63 65 64 66 9 1 (rs_len l Z a0 hw [] a [(45 : Int32), d0, (46 : Int32), f0] cz h1 n0 Z0 T_a sgC hcz) T_a.exa d22_21 (lenOf own_pd11 rfl) N2 (fun T3 L3 X3 e3 N3 => ?_)
 show Goes _ _ _ _ _ (fT T3 m 24 #[vr a, vi 1, vi 1, vi 1, vu, vu, vu] [(.int 4), (.int 1)])
 refine gU X3 hx hby d22_24 (tlt (by decide : ((1 : Int32) < (4 : Int32)))).2.1 ?_
 refine gA X3 hx hby d22_27 rfl rfl rfl ?_
 refine gN X3 hx hby d22_28 rfl rfl ?_
 refine cV X3 hx hZ hw hown hby hml e3 mN6 77 78 80 79 81 9 0 (rs_chr l Z a0 hw [] a [(45 : Int32), d0, (46 : Int32), f0] (1 : Int32) d0 cz fo h1 n0 Z0 T_a sgC hcz (by first | assumption | decide) (own_il 1 _ (by decide) (by simp) T_a.len) rfl sgF r_fo) T_a.exa d22_29 (lenOf own_pd15 rfl) N3 (fun T4 L4 X4 e4 N4 => ?_)
 show Goes _ _ _ _ _ (fT T4 m 32 #[vr a, vi 1, vi 1, vi 1, vu, vu, vu] [(.int d0)])
 refine cS X4 hx hZ hw hown hby hml e4 mN17 99 100 101 39 0 (rm_isd l Z a0 hw [] d0 h1 n0 Z0 (own_n48 hD_d0).1 (own_n48 hD_d0).2) d22_32 (lenOf own_pd16 rfl) N4 (fun T5 L5 X5 e5 N5 => ?_)
 show Goes _ _ _ _ _ (fT T5 m 35 #[vr a, vi 1, vi 1, vi 1, vu, vu, vu] [(.int 1)])
 refine gu X5 hx hby d22_35 ((if0 _ _).trans (feq (by decide : ¬ ((1 : Int32) = (0 : Int32)))).1) ?_
 refine gN X5 hx hby d22_38 rfl rfl ?_
 refine gA X5 hx hby d22_39 rfl rfl rfl ?_
 refine gN X5 hx hby d22_40 rfl rfl ?_
 refine cV X5 hx hZ hw hown hby hml e5 mN6 77 78 80 79 81 9 1 (rs_chr l Z a0 hw [] a [(45 : Int32), d0, (46 : Int32), f0] (1 : Int32) d0 cz fo h1 n0 Z0 T_a sgC hcz (by first | assumption | decide) (own_il 1 _ (by decide) (by simp) T_a.len) rfl sgF r_fo) T_a.exa d22_41 (lenOf own_pd15 rfl) N5 (fun T6 L6 X6 e6 N6 => ?_)
 show Goes _ _ _ _ _ (fT T6 m 44 #[vr a, vi 1, vi 1, vi 1, vu, vu, vu] [(.int d0), (.int 1)])
 refine gB X6 hx hby d22_44 ?_
 show Goes _ _ _ _ _ (fT T6 m 46 #[vr a, vi 1, vi 1, vi 1, vu, vu, vu] [(.int 48), (.int d0), (.int 1)])
 refine own_join (B := T6.setTop (mkF m 54 #[vr a, vi 1, vi 1, vi 1, vu, vu, vu] [(.int (own_z d0)), (.int 1)])) ?_ ?_
 ·show Goes _ _ _ _ _ (fT T6 m 54 #[vr a, vi 1, vi 1, vi 1, vu, vu, vu] [(.int (own_z d0)), (.int 1)])
  refine Gz (XS.iand X6.here hx rfl (hb hby d22_54) rfl) ?_
  show Goes _ _ _ _ _ (fT T6 m 55 #[vr a, vi 1, vi 1, vi 1, vu, vu, vu] [(.int ((1 : Int32) &&& (own_z d0)))])
  refine gs X6 hx hby d22_55 #[vr a, vi 1, vi 1, vi ((1 : Int32) &&& (own_z d0)), vu, vu, vu] ?_
  show Goes _ _ _ _ _ (fT T6 m 56 #[vr a, vi 1, vi 1, vi ((1 : Int32) &&& (own_z d0)), vu, vu, vu] [])
  refine Gz (XS.iinc X6.here hx rfl (hb hby d22_56) rfl (l' := #[vr a, vi ((1 : Int32) + (1 : Int32)), vi 1, vi ((1 : Int32) &&& (own_z d0)), vu, vu, vu]) rfl) ?_
  show Goes _ _ _ _ _ (fT T6 m 59 #[vr a, vi 2, vi 1, vi ((1 : Int32) &&& (own_z d0)), vu, vu, vu] [])
  refine gG X6 hx hby d22_59 59 19 ?_
  refine gN X6 hx hby d22_19 rfl rfl ?_
  refine gA X6 hx hby d22_20 rfl rfl rfl ?_
  refine cV X6 hx hZ hw hown hby hml e6 mN2 76 63 65 64 66 9 1 (rs_len l Z a0 hw [] a [(45 : Int32), d0, (46 : Int32), f0] cz h1 n0 Z0 T_a sgC hcz) T_a.exa d22_21 (lenOf own_pd11 rfl) N6 (fun T8 L8 X8 e8 N8 => ?_)
  show Goes _ _ _ _ _ (fT T8 m 24 #[vr a, vi 2, vi 1, vi ((1 : Int32) &&& (own_z d0)), vu, vu, vu] [(.int 4), (.int 2)])
  refine gU X8 hx hby d22_24 (tlt (by decide : ((2 : Int32) < (4 : Int32)))).2.1 ?_
  refine gA X8 hx hby d22_27 rfl rfl rfl ?_
  refine gN X8 hx hby d22_28 rfl rfl ?_
  refine cV X8 hx hZ hw hown hby hml e8 mN6 77 78 80 79 81 9 0 (rs_chr l Z a0 hw [] a [(45 : Int32), d0, (46 : Int32), f0] (2 : Int32) (46 : Int32) cz fo h1 n0 Z0 T_a sgC hcz (by first | assumption | decide) (own_il 2 _ (by decide) (by simp) T_a.len) rfl sgF r_fo) T_a.exa d22_29 (lenOf own_pd15 rfl) N8 (fun T9 L9 X9 e9 N9 => ?_)
  show Goes _ _ _ _ _ (fT T9 m 32 #[vr a, vi 2, vi 1, vi ((1 : Int32) &&& (own_z d0)), vu, vu, vu] [(.int 46)])
  refine cS X9 hx hZ hw hown hby hml e9 mN17 99 100 101 39 0 (rm_isn l Z a0 hw []  h1 n0 Z0) d22_32 (lenOf own_pd16 rfl) N9 (fun T10 L10 X10 e10 N10 => ?_)
  show Goes _ _ _ _ _ (fT T10 m 35 #[vr a, vi 2, vi 1, vi ((1 : Int32) &&& (own_z d0)), vu, vu, vu] [(.int 0)])
  refine gy X10 hx hby d22_35 35 62 ((if0 _ _).trans (teq (by decide : ((0 : Int32) = (0 : Int32)))).1) ?_
  refine gN X10 hx hby d22_62 rfl rfl ?_
  refine gN X10 hx hby d22_63 rfl rfl ?_
  show Goes _ _ _ _ _ (fT T10 m 64 #[vr a, vi 2, vi 1, vi ((1 : Int32) &&& (own_z d0)), vu, vu, vu] [(.int 1), (.int 2)])
  refine Gz (XS.isub X10.here hx rfl (hb hby d22_64) rfl) ?_
  show Goes _ _ _ _ _ (fT T10 m 65 #[vr a, vi 2, vi 1, vi ((1 : Int32) &&& (own_z d0)), vu, vu, vu] [(.int 1)])
  refine gS X10 hx hby d22_65 #[vr a, vi 2, vi 1, vi ((1 : Int32) &&& (own_z d0)), vi 1, vu, vu] ?_
  refine gI X10 hx hby d22_67 rfl rfl ?_
  refine gC X10 hx hby d22_69 ?_
  refine gY X10 hx hby d22_70 70 89 (teq (by decide : ((1 : Int32) = (1 : Int32)))).1 ?_
  refine gC X10 hx hby d22_89 ?_
  refine gG X10 hx hby d22_90 90 94 ?_
  show Goes _ _ _ _ _ (fT T10 m 94 #[vr a, vi 2, vi 1, vi ((1 : Int32) &&& (own_z d0)), vi 1, vu, vu] [(.int 1)])
  refine gS X10 hx hby d22_94 #[vr a, vi 2, vi 1, vi ((1 : Int32) &&& (own_z d0)), vi 1, vi 1, vu] ?_
  refine gC X10 hx hby d22_96 ?_
  refine gS X10 hx hby d22_97 #[vr a, vi 2, vi 1, vi ((1 : Int32) &&& (own_z d0)), vi 1, vi 1, vi 0] ?_
  refine gI X10 hx hby d22_99 rfl rfl ?_
  refine gu X10 hx hby d22_101 ((if0 _ _).trans (feq (by decide : ¬ ((1 : Int32) = (0 : Int32)))).1) ?_
  refine gN X10 hx hby d22_104 rfl rfl ?_
  show Goes _ _ _ _ _ (fT T10 m 105 #[vr a, vi 2, vi 1, vi ((1 : Int32) &&& (own_z d0)), vi 1, vi 1, vi 0] [(.int 2)])
  refine gA X10 hx hby d22_105 rfl rfl rfl ?_
  refine cV X10 hx hZ hw hown hby hml e10 mN2 76 63 65 64 66 9 1 (rs_len l Z a0 hw [] a [(45 : Int32), d0, (46 : Int32), f0] cz h1 n0 Z0 T_a sgC hcz) T_a.exa d22_106 (lenOf own_pd11 rfl) N10 (fun T11 L11 X11 e11 N11 => ?_)
  show Goes _ _ _ _ _ (fT T11 m 109 #[vr a, vi 2, vi 1, vi ((1 : Int32) &&& (own_z d0)), vi 1, vi 1, vi 0] [(.int 4), (.int 2)])
  refine gU X11 hx hby d22_109 (tlt (by decide : ((2 : Int32) < (4 : Int32)))).2.1 ?_
  refine gA X11 hx hby d22_112 rfl rfl rfl ?_
  refine cV X11 hx hZ hw hown hby hml e11 mN2 76 63 65 64 66 9 0 (rs_len l Z a0 hw [] a [(45 : Int32), d0, (46 : Int32), f0] cz h1 n0 Z0 T_a sgC hcz) T_a.exa d22_113 (lenOf own_pd11 rfl) N11 (fun T12 L12 X12 e12 N12 => ?_)
  show Goes _ _ _ _ _ (fT T12 m 116 #[vr a, vi 2, vi 1, vi ((1 : Int32) &&& (own_z d0)), vi 1, vi 1, vi 0] [(.int 4)])
  refine gN X12 hx hby d22_116 rfl rfl ?_
  show Goes _ _ _ _ _ (fT T12 m 117 #[vr a, vi 2, vi 1, vi ((1 : Int32) &&& (own_z d0)), vi 1, vi 1, vi 0] [(.int 2), (.int 4)])
  refine Gz (XS.isub X12.here hx rfl (hb hby d22_117) rfl) ?_
  show Goes _ _ _ _ _ (fT T12 m 118 #[vr a, vi 2, vi 1, vi ((1 : Int32) &&& (own_z d0)), vi 1, vi 1, vi 0] [(.int 2)])
  refine gC X12 hx hby d22_118 ?_
  show Goes _ _ _ _ _ (fT T12 m 119 #[vr a, vi 2, vi 1, vi ((1 : Int32) &&& (own_z d0)), vi 1, vi 1, vi 0] [(.int 1), (.int 2)])
  refine Gz (XS.isub X12.here hx rfl (hb hby d22_119) rfl) ?_
  show Goes _ _ _ _ _ (fT T12 m 120 #[vr a, vi 2, vi 1, vi ((1 : Int32) &&& (own_z d0)), vi 1, vi 1, vi 0] [(.int 1)])
  refine gS X12 hx hby d22_120 #[vr a, vi 2, vi 1, vi ((1 : Int32) &&& (own_z d0)), vi 1, vi 1, vi 1] ?_
  refine gA X12 hx hby d22_122 rfl rfl rfl ?_
  refine gN X12 hx hby d22_123 rfl rfl ?_
  refine cV X12 hx hZ hw hown hby hml e12 mN6 77 78 80 79 81 9 0 (rs_chr l Z a0 hw [] a [(45 : Int32), d0, (46 : Int32), f0] (2 : Int32) (46 : Int32) cz fo h1 n0 Z0 T_a sgC hcz (by first | assumption | decide) (own_il 2 _ (by decide) (by simp) T_a.len) rfl sgF r_fo) T_a.exa d22_124 (lenOf own_pd15 rfl) N12 (fun T13 L13 X13 e13 N13 => ?_)
  show Goes _ _ _ _ _ (fT T13 m 127 #[vr a, vi 2, vi 1, vi ((1 : Int32) &&& (own_z d0)), vi 1, vi 1, vi 1] [(.int 46)])
  refine gB X13 hx hby d22_127 ?_
  refine gU X13 hx hby d22_129 (teq (by decide : ((46 : Int32) = (46 : Int32)))).2 ?_
  refine gI X13 hx hby d22_132 rfl rfl ?_
  refine gu X13 hx hby d22_134 ((if0 _ _).trans (tlt (by decide : ((0 : Int32) < (1 : Int32)))).2.2.2) ?_
  refine gC X13 hx hby d22_137 ?_
  refine gG X13 hx hby d22_138 138 142 ?_
  show Goes _ _ _ _ _ (fT T13 m 142 #[vr a, vi 2, vi 1, vi ((1 : Int32) &&& (own_z d0)), vi 1, vi 1, vi 1] [(.int 1)])
  refine gS X13 hx hby d22_142 #[vr a, vi 2, vi 1, vi ((1 : Int32) &&& (own_z d0)), vi 1, vi 1, vi 1] ?_
  show Goes _ _ _ _ _ (fT T13 m 144 #[vr a, vi 2, vi 1, vi ((1 : Int32) &&& (own_z d0)), vi 1, vi 1, vi 1] [])
  refine Gz (XS.iinc X13.here hx rfl (hb hby d22_144) rfl (l' := #[vr a, vi ((2 : Int32) + (1 : Int32)), vi 1, vi ((1 : Int32) &&& (own_z d0)), vi 1, vi 1, vi 1]) rfl) ?_
  show Goes _ _ _ _ _ (fT T13 m 147 #[vr a, vi 3, vi 1, vi ((1 : Int32) &&& (own_z d0)), vi 1, vi 1, vi 1] [])
  refine gI X13 hx hby d22_147 rfl rfl ?_
  refine gu X13 hx hby d22_149 ((if0 _ _).trans (feq (by decide : ¬ ((1 : Int32) = (0 : Int32)))).1) ?_
  refine gN X13 hx hby d22_152 rfl rfl ?_
  refine gA X13 hx hby d22_153 rfl rfl rfl ?_
  refine cV X13 hx hZ hw hown hby hml e13 mN2 76 63 65 64 66 9 1 (rs_len l Z a0 hw [] a [(45 : Int32), d0, (46 : Int32), f0] cz h1 n0 Z0 T_a sgC hcz) T_a.exa d22_154 (lenOf own_pd11 rfl) N13 (fun T14 L14 X14 e14 N14 => ?_)
  show Goes _ _ _ _ _ (fT T14 m 157 #[vr a, vi 3, vi 1, vi ((1 : Int32) &&& (own_z d0)), vi 1, vi 1, vi 1] [(.int 4), (.int 3)])
  refine gU X14 hx hby d22_157 (tlt (by decide : ((3 : Int32) < (4 : Int32)))).2.1 ?_
  refine gA X14 hx hby d22_160 rfl rfl rfl ?_
  refine gN X14 hx hby d22_161 rfl rfl ?_
  refine cV X14 hx hZ hw hown hby hml e14 mN6 77 78 80 79 81 9 0 (rs_chr l Z a0 hw [] a [(45 : Int32), d0, (46 : Int32), f0] (3 : Int32) f0 cz fo h1 n0 Z0 T_a sgC hcz (by first | assumption | decide) (own_il 3 _ (by decide) (by simp) T_a.len) rfl sgF r_fo) T_a.exa d22_162 (lenOf own_pd15 rfl) N14 (fun T15 L15 X15 e15 N15 => ?_)
  show Goes _ _ _ _ _ (fT T15 m 165 #[vr a, vi 3, vi 1, vi ((1 : Int32) &&& (own_z d0)), vi 1, vi 1, vi 1] [(.int f0)])
  refine cS X15 hx hZ hw hown hby hml e15 mN17 99 100 101 39 0 (rm_isd l Z a0 hw [] f0 h1 n0 Z0 (own_n48 hD_f0).1 (own_n48 hD_f0).2) d22_165 (lenOf own_pd16 rfl) N15 (fun T16 L16 X16 e16 N16 => ?_)
  show Goes _ _ _ _ _ (fT T16 m 168 #[vr a, vi 3, vi 1, vi ((1 : Int32) &&& (own_z d0)), vi 1, vi 1, vi 1] [(.int 1)])
  refine gS X16 hx hby d22_168 #[vr a, vi 3, vi 1, vi ((1 : Int32) &&& (own_z d0)), vi 1, vi 1, vi 1] ?_
  refine gN X16 hx hby d22_170 rfl rfl ?_
  refine gA X16 hx hby d22_171 rfl rfl rfl ?_
  refine gN X16 hx hby d22_172 rfl rfl ?_
  refine cV X16 hx hZ hw hown hby hml e16 mN6 77 78 80 79 81 9 1 (rs_chr l Z a0 hw [] a [(45 : Int32), d0, (46 : Int32), f0] (3 : Int32) f0 cz fo h1 n0 Z0 T_a sgC hcz (by first | assumption | decide) (own_il 3 _ (by decide) (by simp) T_a.len) rfl sgF r_fo) T_a.exa d22_173 (lenOf own_pd15 rfl) N16 (fun T17 L17 X17 e17 N17 => ?_)
  show Goes _ _ _ _ _ (fT T17 m 176 #[vr a, vi 3, vi 1, vi ((1 : Int32) &&& (own_z d0)), vi 1, vi 1, vi 1] [(.int f0), (.int ((1 : Int32) &&& (own_z d0)))])
  refine gB X17 hx hby d22_176 ?_
  show Goes _ _ _ _ _ (fT T17 m 178 #[vr a, vi 3, vi 1, vi ((1 : Int32) &&& (own_z d0)), vi 1, vi 1, vi 1] [(.int 48), (.int f0), (.int ((1 : Int32) &&& (own_z d0)))])
  refine own_join (B := T17.setTop (mkF m 186 #[vr a, vi 3, vi 1, vi ((1 : Int32) &&& (own_z d0)), vi 1, vi 1, vi 1] [(.int (own_z f0)), (.int ((1 : Int32) &&& (own_z d0)))])) ?_ ?_
  ·show Goes _ _ _ _ _ (fT T17 m 186 #[vr a, vi 3, vi 1, vi ((1 : Int32) &&& (own_z d0)), vi 1, vi 1, vi 1] [(.int (own_z f0)), (.int ((1 : Int32) &&& (own_z d0)))])
   refine Gz (XS.iand X17.here hx rfl (hb hby d22_186) rfl) ?_
   show Goes _ _ _ _ _ (fT T17 m 187 #[vr a, vi 3, vi 1, vi ((1 : Int32) &&& (own_z d0)), vi 1, vi 1, vi 1] [(.int (((1 : Int32) &&& (own_z d0)) &&& (own_z f0)))])
   refine gs X17 hx hby d22_187 #[vr a, vi 3, vi 1, vi (((1 : Int32) &&& (own_z d0)) &&& (own_z f0)), vi 1, vi 1, vi 1] ?_
   show Goes _ _ _ _ _ (fT T17 m 188 #[vr a, vi 3, vi 1, vi (((1 : Int32) &&& (own_z d0)) &&& (own_z f0)), vi 1, vi 1, vi 1] [])
   refine Gz (XS.iinc X17.here hx rfl (hb hby d22_188) rfl (l' := #[vr a, vi ((3 : Int32) + (1 : Int32)), vi 1, vi (((1 : Int32) &&& (own_z d0)) &&& (own_z f0)), vi 1, vi 1, vi 1]) rfl) ?_
   show Goes _ _ _ _ _ (fT T17 m 191 #[vr a, vi 4, vi 1, vi (((1 : Int32) &&& (own_z d0)) &&& (own_z f0)), vi 1, vi 1, vi 1] [])
   refine gG X17 hx hby d22_191 191 147 ?_
   refine gI X17 hx hby d22_147 rfl rfl ?_
   refine gu X17 hx hby d22_149 ((if0 _ _).trans (feq (by decide : ¬ ((1 : Int32) = (0 : Int32)))).1) ?_
   refine gN X17 hx hby d22_152 rfl rfl ?_
   refine gA X17 hx hby d22_153 rfl rfl rfl ?_
   refine cV X17 hx hZ hw hown hby hml e17 mN2 76 63 65 64 66 9 1 (rs_len l Z a0 hw [] a [(45 : Int32), d0, (46 : Int32), f0] cz h1 n0 Z0 T_a sgC hcz) T_a.exa d22_154 (lenOf own_pd11 rfl) N17 (fun T19 L19 X19 e19 N19 => ?_)
   show Goes _ _ _ _ _ (fT T19 m 157 #[vr a, vi 4, vi 1, vi (((1 : Int32) &&& (own_z d0)) &&& (own_z f0)), vi 1, vi 1, vi 1] [(.int 4), (.int 4)])
   refine gY X19 hx hby d22_157 157 194 (flt (by decide : ¬ ((4 : Int32) < (4 : Int32)))).2.1 ?_
   refine gI X19 hx hby d22_194 rfl rfl ?_
   refine gy X19 hx hby d22_196 196 213 ((if0 _ _).trans (feq (by decide : ¬ ((1 : Int32) = (0 : Int32)))).2) ?_
   obtain ⟨T20, h20, X20, e20, E20, A20, D20, -, st20⟩ := newO X19 hx hZ hown (gw hw 102 rfl) (gw hw 103 rfl) (gw hw 104 rfl) e19 (g := (mkF m 213 #[vr a, vi 4, vi 1, vi (((1 : Int32) &&& (own_z d0)) &&& (own_z f0)), vi 1, vi 1, vi 1] [])) rfl (hb hby d22_213) (by decide) (by decide)
   obtain ⟨b20, gq20⟩ : ∃ z, z = h1.size := ⟨_, rfl⟩
   rw [← gq20] at A20 st20 D20
   have g_b20 : n0 ≤ b20 := by rw [gq20]; exact Z0
   have sz_b20 : h0.size ≤ b20 := by rw [gq20]; exact KP.1
   have ne_a_b20 : a ≠ b20 := by rw [gq20]; exact Nat.ne_of_lt T_a.lt
   have ne_c1_b20 : c1 ≠ b20 := by rw [gq20]; exact Nat.ne_of_lt A_c1.lt
   have ne_cb1_b20 : cb1 ≠ b20 := by rw [gq20]; exact Nat.ne_of_lt V_cb1.lt
   have Sf_b20 : Safe Z consts_1 T1.vm h1 b20 := Safe.new (Nat.le_of_eq gq20.symm)
   replace Sf_b20 := Safe.ext E20 hR.1 Sf_b20
   replace hR := hR.trans (CHr.ext E20 hR.1)
   replace T_a := T_a.ext E20
   replace T_c1 := T_c1.ext E20
   replace KP := KP.ext E20
   replace Z0 : n0 ≤ h20.size := Nat.le_trans Z0 E20.1
   replace hk := Nat.le_trans hk E20.1
   have A_b20 : Exa Z h20 b20 "com/example/modest_billing/modestbilling/Money$Shape" := A20
   have F_signum_b20 : Fld Z h20 b20 "com/example/modest_billing/modestbilling/Money$Shape" "signum" "I" (.int 0) := D20 (Or.inr (gw hw 115 rfl)) (ty := .int) (by decide)
   have F_fractionDigits_b20 : Fld Z h20 b20 "com/example/modest_billing/modestbilling/Money$Shape" "fractionDigits" "I" (.int 0) := D20 (Or.inr (gw hw 117 rfl)) (ty := .int) (by decide)
   refine Gs st20 ?_
   show Goes _ _ _ _ _ (fT T20 m 216 #[vr a, vi 4, vi 1, vi (((1 : Int32) &&& (own_z d0)) &&& (own_z f0)), vi 1, vi 1, vi 1] [(.ref b20)])
   refine Gz (XS.dup X20.here hx rfl (hb hby d22_216) rfl rfl) ?_
   refine gN X20 hx hby d22_217 rfl rfl ?_
   show Goes _ _ _ _ _ (fT T20 m 218 #[vr a, vi 4, vi 1, vi (((1 : Int32) &&& (own_z d0)) &&& (own_z f0)), vi 1, vi 1, vi 1] [(.int (((1 : Int32) &&& (own_z d0)) &&& (own_z f0))), (.ref b20), (.ref b20)])
   refine own_join (B := T20.setTop (mkF m 234 #[vr a, vi 4, vi 1, vi (((1 : Int32) &&& (own_z d0)) &&& (own_z f0)), vi 1, vi 1, vi 1] [(.int (own_sg (own_allz [d0, f0]) (-1 : Int32))), (.ref b20), (.ref b20)])) ?_ ?_
   ·show Goes _ _ _ _ _ (fT T20 m 234 #[vr a, vi 4, vi 1, vi (((1 : Int32) &&& (own_z d0)) &&& (own_z f0)), vi 1, vi 1, vi 1] [(.int (own_sg (own_allz [d0, f0]) (-1 : Int32))), (.ref b20), (.ref b20)])
    refine gI X20 hx hby d22_234 rfl rfl ?_
    obtain ⟨_, _, ⟨T22, L22, k22, n22⟩, -, X22, ⟨Lc22, hQ22, l22, y22, z22⟩, st22⟩ := own_specialRef X20 hx hZ (y := mN13) rfl hown (gw hw 105 rfl) (gw hw 106 rfl) (gw hw 107 rfl) (by decide) (backOf (W := 1) (rm_shi l Z a0 hw [] b20 (own_sg (own_allz [d0, f0]) (-1 : Int32)) (1 : Int32) h20 n0 Z0 A_b20 F_signum_b20 F_fractionDigits_b20 g_b20) hZ (gw hw 107 rfl) (gw hw 104 rfl) (by decide) (by decide)) (g := (mkF m 236 #[vr a, vi 4, vi 1, vi (((1 : Int32) &&& (own_z d0)) &&& (own_z f0)), vi 1, vi 1, vi 1] [(.int 1), (.int (own_sg (own_allz [d0, f0]) (-1 : Int32))), (.ref b20), (.ref b20)])) rfl hml.symm (Steps.refl _) (a := b20) (argsL := [(.int (own_sg (own_allz [d0, f0]) (-1 : Int32))), (.int 1)]) (rest := [(.ref b20)]) (lenOf own_pd2 rfl) rfl (wz rfl) (hb hby d22_236) (fun _ _ => ⟨rfl, e20, (by decide : 3 + 0 ≤ _), (by decide : 10 + 0 ≤ _)⟩)
    dsimp only [Pt.U, Pt.locs, Pt.cells, Pt.slots] at X22 l22 y22 z22 st22 hQ22
    subst l22 y22 z22
    obtain ⟨rfl, N22q, K22, F_signum_b20_22'⟩ := hQ22
    have N22 := Fr.app N19 N22q
    replace hR := hR.trans (CHr.keep K22 (allS Sf_b20 all0) hR.1)
    replace T_a := T_a.keep K22 (allS ⟨(Ne.symm ne_a_b20), (own_nbE A_b20 (gw hw 103 rfl))⟩ all0)
    replace T_c1 := T_c1.keep K22 (allS ⟨(Ne.symm ne_c1_b20), (own_nbE A_b20 (gw hw 103 rfl))⟩ all0)
    replace A_b20 := A_b20.keep K22
    replace KP := KP.trans K22 (allS (Or.inr sz_b20) all0)
    replace Z0 := Nat.le_trans Z0 K22.1
    replace hk := Nat.le_trans hk K22.1
    have F_signum_b20 := F_signum_b20_22'
    refine Gs (fun _ tk => st22.trans tk) ?_
    show Goes _ _ _ _ _ (fT T22 m 239 #[vr a, vi 4, vi 1, vi (((1 : Int32) &&& (own_z d0)) &&& (own_z f0)), vi 1, vi 1, vi 1] [(.ref b20)])
    refine Goes.retH X22 hS rfl hk hZ (own_EW hw) hh hR (some (.ref b20)) (fun h => by rw [hret] at h; cases h) hlk (by decide) (by decide) ?_ (fun fs hr => ?_)
    ·exact ⟨b20, rfl, N22, KP, A_b20, F_signum_b20, g_b20, sz_b20⟩
    ·exact own_retA X22 hx hret rfl rfl (hb hby d22_239) hr
   intro J234_21
   by_cases hc218_23 : (((1 : Int32) &&& (own_z d0)) &&& (own_z f0)) = 0
   ·refine gy X20 hx hby d22_218 218 225 ((if0 _ _).trans (teq hc218_23).1) ?_
    refine gN X20 hx hby d22_225 rfl rfl ?_
    refine gy X20 hx hby d22_226 226 233 ((if0 _ _).trans (feq (by decide : ¬ ((1 : Int32) = (0 : Int32)))).2) ?_
    refine gC X20 hx hby d22_233 ?_
    rw [show (own_sg (own_allz [d0, f0]) (-1 : Int32)) = (-1 : Int32) from by rw [← own_F2, own_sg, if_pos hc218_23]] at J234_21
    exact J234_21
   ·refine gu X20 hx hby d22_218 ((if0 _ _).trans (feq hc218_23).1) ?_
    refine gC X20 hx hby d22_221 ?_
    refine gG X20 hx hby d22_222 222 234 ?_
    rw [show (own_sg (own_allz [d0, f0]) (-1 : Int32)) = 0 from by rw [← own_F2, own_sg, if_neg hc218_23]] at J234_21
    exact J234_21
  intro J186_18
  by_cases hc178_24 : f0 = 48
  ·refine gU X17 hx hby d22_178 (teq hc178_24).2 ?_
   refine gC X17 hx hby d22_181 ?_
   refine gG X17 hx hby d22_182 182 186 ?_
   rw [show (own_z f0) = 1 from by rw [own_z, if_pos hc178_24]] at J186_18
   exact J186_18
  ·refine gY X17 hx hby d22_178 178 185 (feq hc178_24).2 ?_
   refine gC X17 hx hby d22_185 ?_
   rw [show (own_z f0) = 0 from by rw [own_z, if_neg hc178_24]] at J186_18
   exact J186_18
 intro J54_7
 by_cases hc46_25 : d0 = 48
 ·refine gU X6 hx hby d22_46 (teq hc46_25).2 ?_
  refine gC X6 hx hby d22_49 ?_
  refine gG X6 hx hby d22_50 50 54 ?_
  rw [show (own_z d0) = 1 from by rw [own_z, if_pos hc46_25]] at J54_7
  exact J54_7
 ·refine gY X6 hx hby d22_46 46 53 (feq hc46_25).2 ?_
  refine gC X6 hx hby d22_53 ?_
  rw [show (own_z d0) = 0 from by rw [own_z, if_neg hc46_25]] at J54_7
  exact J54_7
theorem own_ef_rm_so111 (m : MethodId) (x0 : Addr) : entryFrame m #[(.ref x0)] 1 = mkF m 0 #[vr x0] [] := by first | (simp [entryFrame, mkF, argsToLocals, Value.category]; done) | rfl
def Q_rm_so111 (Z : State) (a : Addr) (d0 : Int32) (f0 : Int32) (cz : Int32) (fo : Value) (h0 : Heap) (n0 : Nat) (v : Option Value) (h : Heap) (L : List Loc) : Prop := v = some (.int (own_sg (own_allz [d0, f0]) (-1 : Int32))) ∧ Fr n0 L ∧ Keep h0 h []
theorem rm_so111 (l : Launch) (Z : State) (a0 : Array Value) (hw : HW a0 Z) (ws : List Jvm.Cond) (a : Addr) (d0 : Int32) (f0 : Int32) (cz : Int32) (fo : Value) (h0 : Heap) (n0 : Nat) (Z0 : n0 ≤ h0.size) (T_a : StrOf Z h0 a [(45 : Int32), d0, (46 : Int32), f0]) (hD_d0 : Dig d0) (hD_f0 : Dig f0) (sgC : Sta Z h0 "java/lang/String" "COMPACT_STRINGS" "Z" (.int cz)) (hcz : ¬ (cz = 0)) (sgF : Sta Z h0 "jdk/internal/util/Preconditions" "SIOOBE_FORMATTER" "Ljava/util/function/BiFunction;" fo) (r_fo : fo.isRef = true) :
  MetH l Z mN23 prog_29_method_6_code 1 (some .int) ({ frames := 5, cells := 5, slots := 30, locals := 77 } : Room) ws #[(.ref a)] h0 (Q_rm_so111 Z a d0 f0 cz fo h0 n0) := by
 refine own_metH (plainFor_of_name own_pn8) ?_
 intro p e s m below meth c s₁ hret hx hby hlk hml hown hnm X0 e0 hZ hh hC0
 have N0 := Fr.nil n0
 have hS : s.Since s.vm h0.size := (State.WarmedH.refl s).since _
 have hk : h0.size ≤ h0.size := Nat.le_refl _
 replace hZ : Z.Warmed39 (s.setVm s.vm).vm := hZ
 have hR : CHr Z consts_1 s.vm h0 s.vm h0 := CHr.refl hC0
 refine Gz (castTop (own_ef_rm_so111 m a)) ?_
 have KP : Keep h0 h0 [] := Keep.refl _ _
 show Goes _ _ _ _ _ (fT s₁ m 0 #[vr a] [])
 refine gA X0 hx hby d23_0 rfl rfl rfl ?_
 obtain ⟨c1, T1, h1, kk1, cb1, kc1, X1, e1, E1, hS, hk1, hZ, hown, A_c1, F_coder_c1, F_value_c1, V_cb1, -, -, hC1, hL1, hsf1, st1⟩ := ldcCH X0 hx hZ hown (gw hw 41 rfl) (own_strW hw) e0 hS hk (own_EW hw) (List.mem_of_getElem? (i := 0) rfl) hR.1 (vs := [(.int 116), (.int 101), (.int 120), (.int 116)]) (z := (4 : Int32)) ⟨by first | decide | rfl, by first | decide | rfl⟩ (by decide) (by decide) (g := (mkF m 1 #[vr a] [(.ref a)])) rfl (hb hby d23_1) (n := 16) (by decide) (by decide) (by decide) (by decide)
 replace T_a := T_a.ext E1
 replace sgC := sgC.ext E1
 replace sgF := sgF.ext E1
 replace KP := KP.ext E1
 replace hR := hR.trans hC1
 replace Z0 : n0 ≤ h1.size := Nat.le_trans Z0 E1.1
 replace hk := hk1
 refine Gs st1 ?_
 show Goes _ _ _ _ _ (fT T1 m 3 #[vr a] [(.ref c1), (.ref a)])
 refine cS X1 hx hZ hw hown hby hml e1 mN15 44 45 47 46 0 (rm_nn l Z a0 hw [] a c1 h1 n0 Z0) d23_3 (lenOf own_pd17 rfl) N0 (fun T2 L2 X2 e2 N2 => ?_)
 show Goes _ _ _ _ _ (fT T2 m 6 #[vr a] [(.ref a)])
 refine Gz (XS.pop X2.here hx rfl (hb hby d23_6) rfl rfl) ?_
 refine gA X2 hx hby d23_7 rfl rfl rfl ?_
 obtain ⟨_, _, ⟨T3, L3, k3, n3⟩, -, X3, hS3, gr3, ⟨Lc3, hQ3, l3, y3, z3, hC3⟩, st3⟩ := callSS X2 hx (y := mN22) hown (gz hZ hw 48 rfl) (gz hZ hw 49 rfl) (gz hZ hw 39 rfl) (gz hZ hw 50 rfl) (by decide) (backOfSH (W := 0) (rm_cs111 l Z a0 hw [] a d0 f0 cz fo h1 n0 Z0 T_a hD_d0 hD_f0 sgC hcz sgF r_fo) hZ (gw hw 50 rfl) (gw hw 39 rfl) (by decide) (by decide) (own_EW hw) hR.1) (g := (mkF m 8 #[vr a] [(.ref a)])) rfl hml.symm (argsL := [(.ref a)]) (rest := []) (lenOf own_pd18 rfl) rfl (wz rfl) (hb hby d23_8) (fun _ _ => ⟨rfl, e2, (by decide : 2 + 3 ≤ _), (by decide : 20 + 10 ≤ _)⟩)
 dsimp only [Pt.U, Pt.locs, Pt.cells, Pt.slots] at X3 l3 y3 z3 st3 hQ3 hS3 gr3 hC3
 subst l3 y3 z3
 obtain ⟨X3, hS, hZ, hown⟩ := rebS hS hk X3 hS3 (by have q := gr3; rw [e2] at q; exact q) hZ hown
 replace hk : T3.heap.size ≤ T3.heap.size := Nat.le_refl _
 obtain ⟨o3, rfl, N3q, K3, A_o3_3', F_signum_o3_3', g_o3_3', sz_o3_3'⟩ := hQ3
 have N3 := Fr.app N2 N3q
 replace hR := hR.trans hC3
 replace T_a := T_a.keep K3 all0
 replace KP := KP.trans K3 all0
 replace Z0 := Nat.le_trans Z0 K3.1
 have A_o3 := A_o3_3'
 have F_signum_o3 := F_signum_o3_3'
 refine Gs (fun _ tk => st3.trans tk) ?_
 show Goes _ _ _ _ _ (fT T3 m 11 #[vr a] [(.ref o3)])
 refine cV X3 hx hZ hw hown hby hml rfl mN14 118 119 121 120 122 104 0 (rm_sgn l Z a0 hw [] o3 (own_sg (own_allz [d0, f0]) (-1 : Int32)) T3.heap n0 Z0 F_signum_o3) A_o3 d23_11 (lenOf own_pd11 rfl) N3 (fun T4 L4 X4 e4 N4 => ?_)
 show Goes _ _ _ _ _ (fT T4 m 14 #[vr a] [(.int (own_sg (own_allz [d0, f0]) (-1 : Int32)))])
 refine Goes.retH X4 hS e4 hk hZ (own_EW hw) hh hR (some (.int (own_sg (own_allz [d0, f0]) (-1 : Int32)))) (fun h => by rw [hret] at h; cases h) hlk (by decide) (by decide) ?_ (fun fs hr => ?_)
 ·rw [e4]; exact ⟨rfl, N4, KP⟩
 ·exact retI X4 hx hret (hb hby d23_14) hr
theorem own_ef_rm_cs112 (m : MethodId) (x0 : Addr) : entryFrame m #[(.ref x0)] 7 = mkF m 0 #[vr x0, vu, vu, vu, vu, vu, vu] [] := by first | (simp [entryFrame, mkF, argsToLocals, Value.category]; done) | rfl
def Q_rm_cs112 (Z : State) (a : Addr) (d0 : Int32) (f0 : Int32) (f1 : Int32) (cz : Int32) (fo : Value) (h0 : Heap) (n0 : Nat) (v : Option Value) (h : Heap) (L : List Loc) : Prop := ∃ o : Addr, v = some (.ref o) ∧ Fr n0 L ∧ Keep h0 h [] ∧ Exa Z h o "com/example/modest_billing/modestbilling/Money$Shape" ∧ Fld Z h o "com/example/modest_billing/modestbilling/Money$Shape" "signum" "I" (.int (own_sg (own_allz [d0, f0, f1]) (-1 : Int32))) ∧ n0 ≤ o ∧ h0.size ≤ o
theorem rm_cs112 (l : Launch) (Z : State) (a0 : Array Value) (hw : HW a0 Z) (ws : List Jvm.Cond) (a : Addr) (d0 : Int32) (f0 : Int32) (f1 : Int32) (cz : Int32) (fo : Value) (h0 : Heap) (n0 : Nat) (Z0 : n0 ≤ h0.size) (T_a : StrOf Z h0 a [(45 : Int32), d0, (46 : Int32), f0, f1]) (hD_d0 : Dig d0) (hD_f0 : Dig f0) (hD_f1 : Dig f1) (sgC : Sta Z h0 "java/lang/String" "COMPACT_STRINGS" "Z" (.int cz)) (hcz : ¬ (cz = 0)) (sgF : Sta Z h0 "jdk/internal/util/Preconditions" "SIOOBE_FORMATTER" "Ljava/util/function/BiFunction;" fo) (r_fo : fo.isRef = true) :
  MetH l Z mN22 prog_29_method_8_code 7 (some (.object "com/example/modest_billing/modestbilling/Money$Shape")) ({ frames := 4, cells := 3, slots := 10, locals := 59 } : Room) ws #[(.ref a)] h0 (Q_rm_cs112 Z a d0 f0 f1 cz fo h0 n0) := by
 refine own_metH (plainFor_of_name own_pn8) ?_
 intro p e s m below meth c s₁ hret hx hby hlk hml hown hnm X0 e0 hZ hh hC0
 have N0 := Fr.nil n0
 have hS : s.Since s.vm h0.size := (State.WarmedH.refl s).since _
 have hk : h0.size ≤ h0.size := Nat.le_refl _
 replace hZ : Z.Warmed39 (s.setVm s.vm).vm := hZ
 have hR : CHr Z consts_1 s.vm h0 s.vm h0 := CHr.refl hC0
 refine Gz (castTop (own_ef_rm_cs112 m a)) ?_
 have KP : Keep h0 h0 [] := Keep.refl _ _
 show Goes _ _ _ _ _ (fT s₁ m 0 #[vr a, vu, vu, vu, vu, vu, vu] [])
 refine gA X0 hx hby d22_0 rfl rfl rfl ?_
 obtain ⟨c1, T1, h1, kk1, cb1, kc1, X1, e1, E1, hS, hk1, hZ, hown, A_c1, F_coder_c1, F_value_c1, V_cb1, -, -, hC1, hL1, hsf1, st1⟩ := ldcCH X0 hx hZ hown (gw hw 51 rfl) (own_strW hw) e0 hS hk (own_EW hw) (List.mem_of_getElem? (i := 1) rfl) hR.1 (vs := [(.int 45)]) (z := (1 : Int32)) ⟨by first | decide | rfl, by first | decide | rfl⟩ (by decide) (by decide) (g := (mkF m 1 #[vr a, vu, vu, vu, vu, vu, vu] [(.ref a)])) rfl (hb hby d22_1) (n := 4) (by decide) (by decide) (by decide) (by decide)
 replace T_a := T_a.ext E1
 replace sgC := sgC.ext E1
 replace sgF := sgF.ext E1
 replace KP := KP.ext E1
 replace hR := hR.trans hC1
 replace Z0 : n0 ≤ h1.size := Nat.le_trans Z0 E1.1
 replace hk := hk1
 refine Gs st1 ?_
 show Goes _ _ _ _ _ (fT T1 m 3 #[vr a, vu, vu, vu, vu, vu, vu] [(.ref c1), (.ref a)])
 have T_c1 : StrOf Z h1 c1 [(45 : Int32)] := StrOf.latin A_c1 F_value_c1 F_coder_c1 V_cb1 (by intro c hc; rw [List.mem_singleton.mp hc]; exact own_lat45) rfl rfl (Nat.le_of_ble_eq_true rfl)
 refine cV X1 hx hZ hw hown hby hml e1 mN21 52 53 55 54 56 9 0 (rm_sw11 l Z a0 hw [] a c1 [(45 : Int32), d0, (46 : Int32), f0, f1] cz h1 n0 Z0 T_a T_c1 (own_il 0 _ (by decide) (by simp) T_a.len) rfl sgC hcz) T_a.exa d22_3 (lenOf own_pd14 rfl) N0 (fun T2 L2 X2 e2 N2 => ?_)
 show Goes _ _ _ _ _ (fT T2 m 6 #[vr a, vu, vu, vu, vu, vu, vu] [(.int 1)])
 refine gu X2 hx hby d22_6 ((if0 _ _).trans (feq (by decide : ¬ ((1 : Int32) = (0 : Int32)))).1) ?_
 refine gC X2 hx hby d22_9 ?_
 refine gG X2 hx hby d22_10 10 14 ?_
 refine gs X2 hx hby d22_14 #[vr a, vi 1, vu, vu, vu, vu, vu] ?_
 refine gN X2 hx hby d22_15 rfl rfl ?_
 refine gs X2 hx hby d22_16 #[vr a, vi 1, vi 1, vu, vu, vu, vu] ?_
 show Goes _ _ _ _ _ (fT T2 m 17 #[vr a, vi 1, vi 1, vu, vu, vu, vu] [])
 refine gC X2 hx hby d22_17 ?_
 refine gs X2 hx hby d22_18 #[vr a, vi 1, vi 1, vi 1, vu, vu, vu] ?_
 refine gN X2 hx hby d22_19 rfl rfl ?_
 refine gA X2 hx hby d22_20 rfl rfl rfl ?_
 refine cV X2 hx hZ hw hown hby hml e2 mN2 76 63 65 64 66 9 1 (rs_len l Z a0 hw [] a [(45 : Int32), d0, (46 : Int32), f0, f1] cz h1 n0 Z0 T_a sgC hcz) T_a.exa d22_21 (lenOf own_pd11 rfl) N2 (fun T3 L3 X3 e3 N3 => ?_)
 show Goes _ _ _ _ _ (fT T3 m 24 #[vr a, vi 1, vi 1, vi 1, vu, vu, vu] [(.int 5), (.int 1)])
 refine gU X3 hx hby d22_24 (tlt (by decide : ((1 : Int32) < (5 : Int32)))).2.1 ?_
 refine gA X3 hx hby d22_27 rfl rfl rfl ?_
 refine gN X3 hx hby d22_28 rfl rfl ?_
 refine cV X3 hx hZ hw hown hby hml e3 mN6 77 78 80 79 81 9 0 (rs_chr l Z a0 hw [] a [(45 : Int32), d0, (46 : Int32), f0, f1] (1 : Int32) d0 cz fo h1 n0 Z0 T_a sgC hcz (by first | assumption | decide) (own_il 1 _ (by decide) (by simp) T_a.len) rfl sgF r_fo) T_a.exa d22_29 (lenOf own_pd15 rfl) N3 (fun T4 L4 X4 e4 N4 => ?_)
 show Goes _ _ _ _ _ (fT T4 m 32 #[vr a, vi 1, vi 1, vi 1, vu, vu, vu] [(.int d0)])
 refine cS X4 hx hZ hw hown hby hml e4 mN17 99 100 101 39 0 (rm_isd l Z a0 hw [] d0 h1 n0 Z0 (own_n48 hD_d0).1 (own_n48 hD_d0).2) d22_32 (lenOf own_pd16 rfl) N4 (fun T5 L5 X5 e5 N5 => ?_)
 show Goes _ _ _ _ _ (fT T5 m 35 #[vr a, vi 1, vi 1, vi 1, vu, vu, vu] [(.int 1)])
 refine gu X5 hx hby d22_35 ((if0 _ _).trans (feq (by decide : ¬ ((1 : Int32) = (0 : Int32)))).1) ?_
 refine gN X5 hx hby d22_38 rfl rfl ?_
 refine gA X5 hx hby d22_39 rfl rfl rfl ?_
 refine gN X5 hx hby d22_40 rfl rfl ?_
 refine cV X5 hx hZ hw hown hby hml e5 mN6 77 78 80 79 81 9 1 (rs_chr l Z a0 hw [] a [(45 : Int32), d0, (46 : Int32), f0, f1] (1 : Int32) d0 cz fo h1 n0 Z0 T_a sgC hcz (by first | assumption | decide) (own_il 1 _ (by decide) (by simp) T_a.len) rfl sgF r_fo) T_a.exa d22_41 (lenOf own_pd15 rfl) N5 (fun T6 L6 X6 e6 N6 => ?_)
 show Goes _ _ _ _ _ (fT T6 m 44 #[vr a, vi 1, vi 1, vi 1, vu, vu, vu] [(.int d0), (.int 1)])
 refine gB X6 hx hby d22_44 ?_
 show Goes _ _ _ _ _ (fT T6 m 46 #[vr a, vi 1, vi 1, vi 1, vu, vu, vu] [(.int 48), (.int d0), (.int 1)])
 refine own_join (B := T6.setTop (mkF m 54 #[vr a, vi 1, vi 1, vi 1, vu, vu, vu] [(.int (own_z d0)), (.int 1)])) ?_ ?_
 ·show Goes _ _ _ _ _ (fT T6 m 54 #[vr a, vi 1, vi 1, vi 1, vu, vu, vu] [(.int (own_z d0)), (.int 1)])
  refine Gz (XS.iand X6.here hx rfl (hb hby d22_54) rfl) ?_
  show Goes _ _ _ _ _ (fT T6 m 55 #[vr a, vi 1, vi 1, vi 1, vu, vu, vu] [(.int ((1 : Int32) &&& (own_z d0)))])
  refine gs X6 hx hby d22_55 #[vr a, vi 1, vi 1, vi ((1 : Int32) &&& (own_z d0)), vu, vu, vu] ?_
  show Goes _ _ _ _ _ (fT T6 m 56 #[vr a, vi 1, vi 1, vi ((1 : Int32) &&& (own_z d0)), vu, vu, vu] [])
  refine Gz (XS.iinc X6.here hx rfl (hb hby d22_56) rfl (l' := #[vr a, vi ((1 : Int32) + (1 : Int32)), vi 1, vi ((1 : Int32) &&& (own_z d0)), vu, vu, vu]) rfl) ?_
  show Goes _ _ _ _ _ (fT T6 m 59 #[vr a, vi 2, vi 1, vi ((1 : Int32) &&& (own_z d0)), vu, vu, vu] [])
  refine gG X6 hx hby d22_59 59 19 ?_
  refine gN X6 hx hby d22_19 rfl rfl ?_
  refine gA X6 hx hby d22_20 rfl rfl rfl ?_
  refine cV X6 hx hZ hw hown hby hml e6 mN2 76 63 65 64 66 9 1 (rs_len l Z a0 hw [] a [(45 : Int32), d0, (46 : Int32), f0, f1] cz h1 n0 Z0 T_a sgC hcz) T_a.exa d22_21 (lenOf own_pd11 rfl) N6 (fun T8 L8 X8 e8 N8 => ?_)
  show Goes _ _ _ _ _ (fT T8 m 24 #[vr a, vi 2, vi 1, vi ((1 : Int32) &&& (own_z d0)), vu, vu, vu] [(.int 5), (.int 2)])
  refine gU X8 hx hby d22_24 (tlt (by decide : ((2 : Int32) < (5 : Int32)))).2.1 ?_
  refine gA X8 hx hby d22_27 rfl rfl rfl ?_
  refine gN X8 hx hby d22_28 rfl rfl ?_
  refine cV X8 hx hZ hw hown hby hml e8 mN6 77 78 80 79 81 9 0 (rs_chr l Z a0 hw [] a [(45 : Int32), d0, (46 : Int32), f0, f1] (2 : Int32) (46 : Int32) cz fo h1 n0 Z0 T_a sgC hcz (by first | assumption | decide) (own_il 2 _ (by decide) (by simp) T_a.len) rfl sgF r_fo) T_a.exa d22_29 (lenOf own_pd15 rfl) N8 (fun T9 L9 X9 e9 N9 => ?_)
  show Goes _ _ _ _ _ (fT T9 m 32 #[vr a, vi 2, vi 1, vi ((1 : Int32) &&& (own_z d0)), vu, vu, vu] [(.int 46)])
  refine cS X9 hx hZ hw hown hby hml e9 mN17 99 100 101 39 0 (rm_isn l Z a0 hw []  h1 n0 Z0) d22_32 (lenOf own_pd16 rfl) N9 (fun T10 L10 X10 e10 N10 => ?_)
  show Goes _ _ _ _ _ (fT T10 m 35 #[vr a, vi 2, vi 1, vi ((1 : Int32) &&& (own_z d0)), vu, vu, vu] [(.int 0)])
  refine gy X10 hx hby d22_35 35 62 ((if0 _ _).trans (teq (by decide : ((0 : Int32) = (0 : Int32)))).1) ?_
  refine gN X10 hx hby d22_62 rfl rfl ?_
  refine gN X10 hx hby d22_63 rfl rfl ?_
  show Goes _ _ _ _ _ (fT T10 m 64 #[vr a, vi 2, vi 1, vi ((1 : Int32) &&& (own_z d0)), vu, vu, vu] [(.int 1), (.int 2)])
  refine Gz (XS.isub X10.here hx rfl (hb hby d22_64) rfl) ?_
  show Goes _ _ _ _ _ (fT T10 m 65 #[vr a, vi 2, vi 1, vi ((1 : Int32) &&& (own_z d0)), vu, vu, vu] [(.int 1)])
  refine gS X10 hx hby d22_65 #[vr a, vi 2, vi 1, vi ((1 : Int32) &&& (own_z d0)), vi 1, vu, vu] ?_
  refine gI X10 hx hby d22_67 rfl rfl ?_
  refine gC X10 hx hby d22_69 ?_
  refine gY X10 hx hby d22_70 70 89 (teq (by decide : ((1 : Int32) = (1 : Int32)))).1 ?_
  refine gC X10 hx hby d22_89 ?_
  refine gG X10 hx hby d22_90 90 94 ?_
  show Goes _ _ _ _ _ (fT T10 m 94 #[vr a, vi 2, vi 1, vi ((1 : Int32) &&& (own_z d0)), vi 1, vu, vu] [(.int 1)])
  refine gS X10 hx hby d22_94 #[vr a, vi 2, vi 1, vi ((1 : Int32) &&& (own_z d0)), vi 1, vi 1, vu] ?_
  refine gC X10 hx hby d22_96 ?_
  refine gS X10 hx hby d22_97 #[vr a, vi 2, vi 1, vi ((1 : Int32) &&& (own_z d0)), vi 1, vi 1, vi 0] ?_
  refine gI X10 hx hby d22_99 rfl rfl ?_
  refine gu X10 hx hby d22_101 ((if0 _ _).trans (feq (by decide : ¬ ((1 : Int32) = (0 : Int32)))).1) ?_
  refine gN X10 hx hby d22_104 rfl rfl ?_
  show Goes _ _ _ _ _ (fT T10 m 105 #[vr a, vi 2, vi 1, vi ((1 : Int32) &&& (own_z d0)), vi 1, vi 1, vi 0] [(.int 2)])
  refine gA X10 hx hby d22_105 rfl rfl rfl ?_
  refine cV X10 hx hZ hw hown hby hml e10 mN2 76 63 65 64 66 9 1 (rs_len l Z a0 hw [] a [(45 : Int32), d0, (46 : Int32), f0, f1] cz h1 n0 Z0 T_a sgC hcz) T_a.exa d22_106 (lenOf own_pd11 rfl) N10 (fun T11 L11 X11 e11 N11 => ?_)
  show Goes _ _ _ _ _ (fT T11 m 109 #[vr a, vi 2, vi 1, vi ((1 : Int32) &&& (own_z d0)), vi 1, vi 1, vi 0] [(.int 5), (.int 2)])
  refine gU X11 hx hby d22_109 (tlt (by decide : ((2 : Int32) < (5 : Int32)))).2.1 ?_
  refine gA X11 hx hby d22_112 rfl rfl rfl ?_
  refine cV X11 hx hZ hw hown hby hml e11 mN2 76 63 65 64 66 9 0 (rs_len l Z a0 hw [] a [(45 : Int32), d0, (46 : Int32), f0, f1] cz h1 n0 Z0 T_a sgC hcz) T_a.exa d22_113 (lenOf own_pd11 rfl) N11 (fun T12 L12 X12 e12 N12 => ?_)
  show Goes _ _ _ _ _ (fT T12 m 116 #[vr a, vi 2, vi 1, vi ((1 : Int32) &&& (own_z d0)), vi 1, vi 1, vi 0] [(.int 5)])
  refine gN X12 hx hby d22_116 rfl rfl ?_
  show Goes _ _ _ _ _ (fT T12 m 117 #[vr a, vi 2, vi 1, vi ((1 : Int32) &&& (own_z d0)), vi 1, vi 1, vi 0] [(.int 2), (.int 5)])
  refine Gz (XS.isub X12.here hx rfl (hb hby d22_117) rfl) ?_
  show Goes _ _ _ _ _ (fT T12 m 118 #[vr a, vi 2, vi 1, vi ((1 : Int32) &&& (own_z d0)), vi 1, vi 1, vi 0] [(.int 3)])
  refine gC X12 hx hby d22_118 ?_
  show Goes _ _ _ _ _ (fT T12 m 119 #[vr a, vi 2, vi 1, vi ((1 : Int32) &&& (own_z d0)), vi 1, vi 1, vi 0] [(.int 1), (.int 3)])
  refine Gz (XS.isub X12.here hx rfl (hb hby d22_119) rfl) ?_
  show Goes _ _ _ _ _ (fT T12 m 120 #[vr a, vi 2, vi 1, vi ((1 : Int32) &&& (own_z d0)), vi 1, vi 1, vi 0] [(.int 2)])
  refine gS X12 hx hby d22_120 #[vr a, vi 2, vi 1, vi ((1 : Int32) &&& (own_z d0)), vi 1, vi 1, vi 2] ?_
  refine gA X12 hx hby d22_122 rfl rfl rfl ?_
  refine gN X12 hx hby d22_123 rfl rfl ?_
  refine cV X12 hx hZ hw hown hby hml e12 mN6 77 78 80 79 81 9 0 (rs_chr l Z a0 hw [] a [(45 : Int32), d0, (46 : Int32), f0, f1] (2 : Int32) (46 : Int32) cz fo h1 n0 Z0 T_a sgC hcz (by first | assumption | decide) (own_il 2 _ (by decide) (by simp) T_a.len) rfl sgF r_fo) T_a.exa d22_124 (lenOf own_pd15 rfl) N12 (fun T13 L13 X13 e13 N13 => ?_)
  show Goes _ _ _ _ _ (fT T13 m 127 #[vr a, vi 2, vi 1, vi ((1 : Int32) &&& (own_z d0)), vi 1, vi 1, vi 2] [(.int 46)])
  refine gB X13 hx hby d22_127 ?_
  refine gU X13 hx hby d22_129 (teq (by decide : ((46 : Int32) = (46 : Int32)))).2 ?_
  refine gI X13 hx hby d22_132 rfl rfl ?_
  refine gu X13 hx hby d22_134 ((if0 _ _).trans (tlt (by decide : ((0 : Int32) < (2 : Int32)))).2.2.2) ?_
  refine gC X13 hx hby d22_137 ?_
  refine gG X13 hx hby d22_138 138 142 ?_
  show Goes _ _ _ _ _ (fT T13 m 142 #[vr a, vi 2, vi 1, vi ((1 : Int32) &&& (own_z d0)), vi 1, vi 1, vi 2] [(.int 1)])
  refine gS X13 hx hby d22_142 #[vr a, vi 2, vi 1, vi ((1 : Int32) &&& (own_z d0)), vi 1, vi 1, vi 2] ?_
  show Goes _ _ _ _ _ (fT T13 m 144 #[vr a, vi 2, vi 1, vi ((1 : Int32) &&& (own_z d0)), vi 1, vi 1, vi 2] [])
  refine Gz (XS.iinc X13.here hx rfl (hb hby d22_144) rfl (l' := #[vr a, vi ((2 : Int32) + (1 : Int32)), vi 1, vi ((1 : Int32) &&& (own_z d0)), vi 1, vi 1, vi 2]) rfl) ?_
  show Goes _ _ _ _ _ (fT T13 m 147 #[vr a, vi 3, vi 1, vi ((1 : Int32) &&& (own_z d0)), vi 1, vi 1, vi 2] [])
  refine gI X13 hx hby d22_147 rfl rfl ?_
  refine gu X13 hx hby d22_149 ((if0 _ _).trans (feq (by decide : ¬ ((1 : Int32) = (0 : Int32)))).1) ?_
  refine gN X13 hx hby d22_152 rfl rfl ?_
  refine gA X13 hx hby d22_153 rfl rfl rfl ?_
  refine cV X13 hx hZ hw hown hby hml e13 mN2 76 63 65 64 66 9 1 (rs_len l Z a0 hw [] a [(45 : Int32), d0, (46 : Int32), f0, f1] cz h1 n0 Z0 T_a sgC hcz) T_a.exa d22_154 (lenOf own_pd11 rfl) N13 (fun T14 L14 X14 e14 N14 => ?_)
  show Goes _ _ _ _ _ (fT T14 m 157 #[vr a, vi 3, vi 1, vi ((1 : Int32) &&& (own_z d0)), vi 1, vi 1, vi 2] [(.int 5), (.int 3)])
  refine gU X14 hx hby d22_157 (tlt (by decide : ((3 : Int32) < (5 : Int32)))).2.1 ?_
  refine gA X14 hx hby d22_160 rfl rfl rfl ?_
  refine gN X14 hx hby d22_161 rfl rfl ?_
  refine cV X14 hx hZ hw hown hby hml e14 mN6 77 78 80 79 81 9 0 (rs_chr l Z a0 hw [] a [(45 : Int32), d0, (46 : Int32), f0, f1] (3 : Int32) f0 cz fo h1 n0 Z0 T_a sgC hcz (by first | assumption | decide) (own_il 3 _ (by decide) (by simp) T_a.len) rfl sgF r_fo) T_a.exa d22_162 (lenOf own_pd15 rfl) N14 (fun T15 L15 X15 e15 N15 => ?_)
  show Goes _ _ _ _ _ (fT T15 m 165 #[vr a, vi 3, vi 1, vi ((1 : Int32) &&& (own_z d0)), vi 1, vi 1, vi 2] [(.int f0)])
  refine cS X15 hx hZ hw hown hby hml e15 mN17 99 100 101 39 0 (rm_isd l Z a0 hw [] f0 h1 n0 Z0 (own_n48 hD_f0).1 (own_n48 hD_f0).2) d22_165 (lenOf own_pd16 rfl) N15 (fun T16 L16 X16 e16 N16 => ?_)
  show Goes _ _ _ _ _ (fT T16 m 168 #[vr a, vi 3, vi 1, vi ((1 : Int32) &&& (own_z d0)), vi 1, vi 1, vi 2] [(.int 1)])
  refine gS X16 hx hby d22_168 #[vr a, vi 3, vi 1, vi ((1 : Int32) &&& (own_z d0)), vi 1, vi 1, vi 2] ?_
  refine gN X16 hx hby d22_170 rfl rfl ?_
  refine gA X16 hx hby d22_171 rfl rfl rfl ?_
  refine gN X16 hx hby d22_172 rfl rfl ?_
  refine cV X16 hx hZ hw hown hby hml e16 mN6 77 78 80 79 81 9 1 (rs_chr l Z a0 hw [] a [(45 : Int32), d0, (46 : Int32), f0, f1] (3 : Int32) f0 cz fo h1 n0 Z0 T_a sgC hcz (by first | assumption | decide) (own_il 3 _ (by decide) (by simp) T_a.len) rfl sgF r_fo) T_a.exa d22_173 (lenOf own_pd15 rfl) N16 (fun T17 L17 X17 e17 N17 => ?_)
  show Goes _ _ _ _ _ (fT T17 m 176 #[vr a, vi 3, vi 1, vi ((1 : Int32) &&& (own_z d0)), vi 1, vi 1, vi 2] [(.int f0), (.int ((1 : Int32) &&& (own_z d0)))])
  refine gB X17 hx hby d22_176 ?_
  show Goes _ _ _ _ _ (fT T17 m 178 #[vr a, vi 3, vi 1, vi ((1 : Int32) &&& (own_z d0)), vi 1, vi 1, vi 2] [(.int 48), (.int f0), (.int ((1 : Int32) &&& (own_z d0)))])
  refine own_join (B := T17.setTop (mkF m 186 #[vr a, vi 3, vi 1, vi ((1 : Int32) &&& (own_z d0)), vi 1, vi 1, vi 2] [(.int (own_z f0)), (.int ((1 : Int32) &&& (own_z d0)))])) ?_ ?_
  ·show Goes _ _ _ _ _ (fT T17 m 186 #[vr a, vi 3, vi 1, vi ((1 : Int32) &&& (own_z d0)), vi 1, vi 1, vi 2] [(.int (own_z f0)), (.int ((1 : Int32) &&& (own_z d0)))])
   refine Gz (XS.iand X17.here hx rfl (hb hby d22_186) rfl) ?_
   show Goes _ _ _ _ _ (fT T17 m 187 #[vr a, vi 3, vi 1, vi ((1 : Int32) &&& (own_z d0)), vi 1, vi 1, vi 2] [(.int (((1 : Int32) &&& (own_z d0)) &&& (own_z f0)))])
   refine gs X17 hx hby d22_187 #[vr a, vi 3, vi 1, vi (((1 : Int32) &&& (own_z d0)) &&& (own_z f0)), vi 1, vi 1, vi 2] ?_
   show Goes _ _ _ _ _ (fT T17 m 188 #[vr a, vi 3, vi 1, vi (((1 : Int32) &&& (own_z d0)) &&& (own_z f0)), vi 1, vi 1, vi 2] [])
   refine Gz (XS.iinc X17.here hx rfl (hb hby d22_188) rfl (l' := #[vr a, vi ((3 : Int32) + (1 : Int32)), vi 1, vi (((1 : Int32) &&& (own_z d0)) &&& (own_z f0)), vi 1, vi 1, vi 2]) rfl) ?_
   show Goes _ _ _ _ _ (fT T17 m 191 #[vr a, vi 4, vi 1, vi (((1 : Int32) &&& (own_z d0)) &&& (own_z f0)), vi 1, vi 1, vi 2] [])
   refine gG X17 hx hby d22_191 191 147 ?_
   refine gI X17 hx hby d22_147 rfl rfl ?_
   refine gu X17 hx hby d22_149 ((if0 _ _).trans (feq (by decide : ¬ ((1 : Int32) = (0 : Int32)))).1) ?_
   refine gN X17 hx hby d22_152 rfl rfl ?_
   refine gA X17 hx hby d22_153 rfl rfl rfl ?_
   refine cV X17 hx hZ hw hown hby hml e17 mN2 76 63 65 64 66 9 1 (rs_len l Z a0 hw [] a [(45 : Int32), d0, (46 : Int32), f0, f1] cz h1 n0 Z0 T_a sgC hcz) T_a.exa d22_154 (lenOf own_pd11 rfl) N17 (fun T19 L19 X19 e19 N19 => ?_)
   show Goes _ _ _ _ _ (fT T19 m 157 #[vr a, vi 4, vi 1, vi (((1 : Int32) &&& (own_z d0)) &&& (own_z f0)), vi 1, vi 1, vi 2] [(.int 5), (.int 4)])
   refine gU X19 hx hby d22_157 (tlt (by decide : ((4 : Int32) < (5 : Int32)))).2.1 ?_
   refine gA X19 hx hby d22_160 rfl rfl rfl ?_
   refine gN X19 hx hby d22_161 rfl rfl ?_
   refine cV X19 hx hZ hw hown hby hml e19 mN6 77 78 80 79 81 9 0 (rs_chr l Z a0 hw [] a [(45 : Int32), d0, (46 : Int32), f0, f1] (4 : Int32) f1 cz fo h1 n0 Z0 T_a sgC hcz (by first | assumption | decide) (own_il 4 _ (by decide) (by simp) T_a.len) rfl sgF r_fo) T_a.exa d22_162 (lenOf own_pd15 rfl) N19 (fun T20 L20 X20 e20 N20 => ?_)
   show Goes _ _ _ _ _ (fT T20 m 165 #[vr a, vi 4, vi 1, vi (((1 : Int32) &&& (own_z d0)) &&& (own_z f0)), vi 1, vi 1, vi 2] [(.int f1)])
   refine cS X20 hx hZ hw hown hby hml e20 mN17 99 100 101 39 0 (rm_isd l Z a0 hw [] f1 h1 n0 Z0 (own_n48 hD_f1).1 (own_n48 hD_f1).2) d22_165 (lenOf own_pd16 rfl) N20 (fun T21 L21 X21 e21 N21 => ?_)
   show Goes _ _ _ _ _ (fT T21 m 168 #[vr a, vi 4, vi 1, vi (((1 : Int32) &&& (own_z d0)) &&& (own_z f0)), vi 1, vi 1, vi 2] [(.int 1)])
   refine gS X21 hx hby d22_168 #[vr a, vi 4, vi 1, vi (((1 : Int32) &&& (own_z d0)) &&& (own_z f0)), vi 1, vi 1, vi 2] ?_
   refine gN X21 hx hby d22_170 rfl rfl ?_
   refine gA X21 hx hby d22_171 rfl rfl rfl ?_
   refine gN X21 hx hby d22_172 rfl rfl ?_
   refine cV X21 hx hZ hw hown hby hml e21 mN6 77 78 80 79 81 9 1 (rs_chr l Z a0 hw [] a [(45 : Int32), d0, (46 : Int32), f0, f1] (4 : Int32) f1 cz fo h1 n0 Z0 T_a sgC hcz (by first | assumption | decide) (own_il 4 _ (by decide) (by simp) T_a.len) rfl sgF r_fo) T_a.exa d22_173 (lenOf own_pd15 rfl) N21 (fun T22 L22 X22 e22 N22 => ?_)
   show Goes _ _ _ _ _ (fT T22 m 176 #[vr a, vi 4, vi 1, vi (((1 : Int32) &&& (own_z d0)) &&& (own_z f0)), vi 1, vi 1, vi 2] [(.int f1), (.int (((1 : Int32) &&& (own_z d0)) &&& (own_z f0)))])
   refine gB X22 hx hby d22_176 ?_
   show Goes _ _ _ _ _ (fT T22 m 178 #[vr a, vi 4, vi 1, vi (((1 : Int32) &&& (own_z d0)) &&& (own_z f0)), vi 1, vi 1, vi 2] [(.int 48), (.int f1), (.int (((1 : Int32) &&& (own_z d0)) &&& (own_z f0)))])
   refine own_join (B := T22.setTop (mkF m 186 #[vr a, vi 4, vi 1, vi (((1 : Int32) &&& (own_z d0)) &&& (own_z f0)), vi 1, vi 1, vi 2] [(.int (own_z f1)), (.int (((1 : Int32) &&& (own_z d0)) &&& (own_z f0)))])) ?_ ?_
   ·show Goes _ _ _ _ _ (fT T22 m 186 #[vr a, vi 4, vi 1, vi (((1 : Int32) &&& (own_z d0)) &&& (own_z f0)), vi 1, vi 1, vi 2] [(.int (own_z f1)), (.int (((1 : Int32) &&& (own_z d0)) &&& (own_z f0)))])
    refine Gz (XS.iand X22.here hx rfl (hb hby d22_186) rfl) ?_
    show Goes _ _ _ _ _ (fT T22 m 187 #[vr a, vi 4, vi 1, vi (((1 : Int32) &&& (own_z d0)) &&& (own_z f0)), vi 1, vi 1, vi 2] [(.int ((((1 : Int32) &&& (own_z d0)) &&& (own_z f0)) &&& (own_z f1)))])
    refine gs X22 hx hby d22_187 #[vr a, vi 4, vi 1, vi ((((1 : Int32) &&& (own_z d0)) &&& (own_z f0)) &&& (own_z f1)), vi 1, vi 1, vi 2] ?_
    show Goes _ _ _ _ _ (fT T22 m 188 #[vr a, vi 4, vi 1, vi ((((1 : Int32) &&& (own_z d0)) &&& (own_z f0)) &&& (own_z f1)), vi 1, vi 1, vi 2] [])
    refine Gz (XS.iinc X22.here hx rfl (hb hby d22_188) rfl (l' := #[vr a, vi ((4 : Int32) + (1 : Int32)), vi 1, vi ((((1 : Int32) &&& (own_z d0)) &&& (own_z f0)) &&& (own_z f1)), vi 1, vi 1, vi 2]) rfl) ?_
    show Goes _ _ _ _ _ (fT T22 m 191 #[vr a, vi 5, vi 1, vi ((((1 : Int32) &&& (own_z d0)) &&& (own_z f0)) &&& (own_z f1)), vi 1, vi 1, vi 2] [])
    refine gG X22 hx hby d22_191 191 147 ?_
    refine gI X22 hx hby d22_147 rfl rfl ?_
    refine gu X22 hx hby d22_149 ((if0 _ _).trans (feq (by decide : ¬ ((1 : Int32) = (0 : Int32)))).1) ?_
    refine gN X22 hx hby d22_152 rfl rfl ?_
    refine gA X22 hx hby d22_153 rfl rfl rfl ?_
    refine cV X22 hx hZ hw hown hby hml e22 mN2 76 63 65 64 66 9 1 (rs_len l Z a0 hw [] a [(45 : Int32), d0, (46 : Int32), f0, f1] cz h1 n0 Z0 T_a sgC hcz) T_a.exa d22_154 (lenOf own_pd11 rfl) N22 (fun T24 L24 X24 e24 N24 => ?_)
    show Goes _ _ _ _ _ (fT T24 m 157 #[vr a, vi 5, vi 1, vi ((((1 : Int32) &&& (own_z d0)) &&& (own_z f0)) &&& (own_z f1)), vi 1, vi 1, vi 2] [(.int 5), (.int 5)])
    refine gY X24 hx hby d22_157 157 194 (flt (by decide : ¬ ((5 : Int32) < (5 : Int32)))).2.1 ?_
    refine gI X24 hx hby d22_194 rfl rfl ?_
    refine gy X24 hx hby d22_196 196 213 ((if0 _ _).trans (feq (by decide : ¬ ((1 : Int32) = (0 : Int32)))).2) ?_
    obtain ⟨T25, h25, X25, e25, E25, A25, D25, -, st25⟩ := newO X24 hx hZ hown (gw hw 102 rfl) (gw hw 103 rfl) (gw hw 104 rfl) e24 (g := (mkF m 213 #[vr a, vi 5, vi 1, vi ((((1 : Int32) &&& (own_z d0)) &&& (own_z f0)) &&& (own_z f1)), vi 1, vi 1, vi 2] [])) rfl (hb hby d22_213) (by decide) (by decide)
    obtain ⟨b25, gq25⟩ : ∃ z, z = h1.size := ⟨_, rfl⟩
    rw [← gq25] at A25 st25 D25
    have g_b25 : n0 ≤ b25 := by rw [gq25]; exact Z0
    have sz_b25 : h0.size ≤ b25 := by rw [gq25]; exact KP.1
    have ne_a_b25 : a ≠ b25 := by rw [gq25]; exact Nat.ne_of_lt T_a.lt
    have ne_c1_b25 : c1 ≠ b25 := by rw [gq25]; exact Nat.ne_of_lt A_c1.lt
    have ne_cb1_b25 : cb1 ≠ b25 := by rw [gq25]; exact Nat.ne_of_lt V_cb1.lt
    have Sf_b25 : Safe Z consts_1 T1.vm h1 b25 := Safe.new (Nat.le_of_eq gq25.symm)
    replace Sf_b25 := Safe.ext E25 hR.1 Sf_b25
    replace hR := hR.trans (CHr.ext E25 hR.1)
    replace T_a := T_a.ext E25
    replace T_c1 := T_c1.ext E25
    replace KP := KP.ext E25
    replace Z0 : n0 ≤ h25.size := Nat.le_trans Z0 E25.1
    replace hk := Nat.le_trans hk E25.1
    have A_b25 : Exa Z h25 b25 "com/example/modest_billing/modestbilling/Money$Shape" := A25
    have F_signum_b25 : Fld Z h25 b25 "com/example/modest_billing/modestbilling/Money$Shape" "signum" "I" (.int 0) := D25 (Or.inr (gw hw 115 rfl)) (ty := .int) (by decide)
    have F_fractionDigits_b25 : Fld Z h25 b25 "com/example/modest_billing/modestbilling/Money$Shape" "fractionDigits" "I" (.int 0) := D25 (Or.inr (gw hw 117 rfl)) (ty := .int) (by decide)
    refine Gs st25 ?_
    show Goes _ _ _ _ _ (fT T25 m 216 #[vr a, vi 5, vi 1, vi ((((1 : Int32) &&& (own_z d0)) &&& (own_z f0)) &&& (own_z f1)), vi 1, vi 1, vi 2] [(.ref b25)])
    refine Gz (XS.dup X25.here hx rfl (hb hby d22_216) rfl rfl) ?_
    refine gN X25 hx hby d22_217 rfl rfl ?_
    show Goes _ _ _ _ _ (fT T25 m 218 #[vr a, vi 5, vi 1, vi ((((1 : Int32) &&& (own_z d0)) &&& (own_z f0)) &&& (own_z f1)), vi 1, vi 1, vi 2] [(.int ((((1 : Int32) &&& (own_z d0)) &&& (own_z f0)) &&& (own_z f1))), (.ref b25), (.ref b25)])
    refine own_join (B := T25.setTop (mkF m 234 #[vr a, vi 5, vi 1, vi ((((1 : Int32) &&& (own_z d0)) &&& (own_z f0)) &&& (own_z f1)), vi 1, vi 1, vi 2] [(.int (own_sg (own_allz [d0, f0, f1]) (-1 : Int32))), (.ref b25), (.ref b25)])) ?_ ?_
    ·show Goes _ _ _ _ _ (fT T25 m 234 #[vr a, vi 5, vi 1, vi ((((1 : Int32) &&& (own_z d0)) &&& (own_z f0)) &&& (own_z f1)), vi 1, vi 1, vi 2] [(.int (own_sg (own_allz [d0, f0, f1]) (-1 : Int32))), (.ref b25), (.ref b25)])
     refine gI X25 hx hby d22_234 rfl rfl ?_
     obtain ⟨_, _, ⟨T27, L27, k27, n27⟩, -, X27, ⟨Lc27, hQ27, l27, y27, z27⟩, st27⟩ := own_specialRef X25 hx hZ (y := mN13) rfl hown (gw hw 105 rfl) (gw hw 106 rfl) (gw hw 107 rfl) (by decide) (backOf (W := 1) (rm_shi l Z a0 hw [] b25 (own_sg (own_allz [d0, f0, f1]) (-1 : Int32)) (2 : Int32) h25 n0 Z0 A_b25 F_signum_b25 F_fractionDigits_b25 g_b25) hZ (gw hw 107 rfl) (gw hw 104 rfl) (by decide) (by decide)) (g := (mkF m 236 #[vr a, vi 5, vi 1, vi ((((1 : Int32) &&& (own_z d0)) &&& (own_z f0)) &&& (own_z f1)), vi 1, vi 1, vi 2] [(.int 2), (.int (own_sg (own_allz [d0, f0, f1]) (-1 : Int32))), (.ref b25), (.ref b25)])) rfl hml.symm (Steps.refl _) (a := b25) (argsL := [(.int (own_sg (own_allz [d0, f0, f1]) (-1 : Int32))), (.int 2)]) (rest := [(.ref b25)]) (lenOf own_pd2 rfl) rfl (wz rfl) (hb hby d22_236) (fun _ _ => ⟨rfl, e25, (by decide : 3 + 0 ≤ _), (by decide : 10 + 0 ≤ _)⟩)
     dsimp only [Pt.U, Pt.locs, Pt.cells, Pt.slots] at X27 l27 y27 z27 st27 hQ27
     subst l27 y27 z27
     obtain ⟨rfl, N27q, K27, F_signum_b25_27'⟩ := hQ27
     have N27 := Fr.app N24 N27q
     replace hR := hR.trans (CHr.keep K27 (allS Sf_b25 all0) hR.1)
     replace T_a := T_a.keep K27 (allS ⟨(Ne.symm ne_a_b25), (own_nbE A_b25 (gw hw 103 rfl))⟩ all0)
     replace T_c1 := T_c1.keep K27 (allS ⟨(Ne.symm ne_c1_b25), (own_nbE A_b25 (gw hw 103 rfl))⟩ all0)
     replace A_b25 := A_b25.keep K27
     replace KP := KP.trans K27 (allS (Or.inr sz_b25) all0)
     replace Z0 := Nat.le_trans Z0 K27.1
     replace hk := Nat.le_trans hk K27.1
     have F_signum_b25 := F_signum_b25_27'
     refine Gs (fun _ tk => st27.trans tk) ?_
     show Goes _ _ _ _ _ (fT T27 m 239 #[vr a, vi 5, vi 1, vi ((((1 : Int32) &&& (own_z d0)) &&& (own_z f0)) &&& (own_z f1)), vi 1, vi 1, vi 2] [(.ref b25)])
     refine Goes.retH X27 hS rfl hk hZ (own_EW hw) hh hR (some (.ref b25)) (fun h => by rw [hret] at h; cases h) hlk (by decide) (by decide) ?_ (fun fs hr => ?_)
     ·exact ⟨b25, rfl, N27, KP, A_b25, F_signum_b25, g_b25, sz_b25⟩
     ·exact own_retA X27 hx hret rfl rfl (hb hby d22_239) hr
    intro J234_26
    by_cases hc218_28 : ((((1 : Int32) &&& (own_z d0)) &&& (own_z f0)) &&& (own_z f1)) = 0
    ·refine gy X25 hx hby d22_218 218 225 ((if0 _ _).trans (teq hc218_28).1) ?_
     refine gN X25 hx hby d22_225 rfl rfl ?_
     refine gy X25 hx hby d22_226 226 233 ((if0 _ _).trans (feq (by decide : ¬ ((1 : Int32) = (0 : Int32)))).2) ?_
     refine gC X25 hx hby d22_233 ?_
     rw [show (own_sg (own_allz [d0, f0, f1]) (-1 : Int32)) = (-1 : Int32) from by rw [← own_F3, own_sg, if_pos hc218_28]] at J234_26
     exact J234_26
    ·refine gu X25 hx hby d22_218 ((if0 _ _).trans (feq hc218_28).1) ?_
     refine gC X25 hx hby d22_221 ?_
     refine gG X25 hx hby d22_222 222 234 ?_
     rw [show (own_sg (own_allz [d0, f0, f1]) (-1 : Int32)) = 0 from by rw [← own_F3, own_sg, if_neg hc218_28]] at J234_26
     exact J234_26
   intro J186_23
   by_cases hc178_29 : f1 = 48
   ·refine gU X22 hx hby d22_178 (teq hc178_29).2 ?_
    refine gC X22 hx hby d22_181 ?_
    refine gG X22 hx hby d22_182 182 186 ?_
    rw [show (own_z f1) = 1 from by rw [own_z, if_pos hc178_29]] at J186_23
    exact J186_23
   ·refine gY X22 hx hby d22_178 178 185 (feq hc178_29).2 ?_
    refine gC X22 hx hby d22_185 ?_
    rw [show (own_z f1) = 0 from by rw [own_z, if_neg hc178_29]] at J186_23
    exact J186_23
  intro J186_18
  by_cases hc178_30 : f0 = 48
  ·refine gU X17 hx hby d22_178 (teq hc178_30).2 ?_
   refine gC X17 hx hby d22_181 ?_
   refine gG X17 hx hby d22_182 182 186 ?_
   rw [show (own_z f0) = 1 from by rw [own_z, if_pos hc178_30]] at J186_18
   exact J186_18
  ·refine gY X17 hx hby d22_178 178 185 (feq hc178_30).2 ?_
   refine gC X17 hx hby d22_185 ?_
   rw [show (own_z f0) = 0 from by rw [own_z, if_neg hc178_30]] at J186_18
   exact J186_18
 intro J54_7
 by_cases hc46_31 : d0 = 48
 ·refine gU X6 hx hby d22_46 (teq hc46_31).2 ?_
  refine gC X6 hx hby d22_49 ?_
  refine gG X6 hx hby d22_50 50 54 ?_
  rw [show (own_z d0) = 1 from by rw [own_z, if_pos hc46_31]] at J54_7
  exact J54_7
 ·refine gY X6 hx hby d22_46 46 53 (feq hc46_31).2 ?_
  refine gC X6 hx hby d22_53 ?_
  rw [show (own_z d0) = 0 from by rw [own_z, if_neg hc46_31]] at J54_7
  exact J54_7
theorem own_ef_rm_so112 (m : MethodId) (x0 : Addr) : entryFrame m #[(.ref x0)] 1 = mkF m 0 #[vr x0] [] := by first | (simp [entryFrame, mkF, argsToLocals, Value.category]; done) | rfl
def Q_rm_so112 (Z : State) (a : Addr) (d0 : Int32) (f0 : Int32) (f1 : Int32) (cz : Int32) (fo : Value) (h0 : Heap) (n0 : Nat) (v : Option Value) (h : Heap) (L : List Loc) : Prop := v = some (.int (own_sg (own_allz [d0, f0, f1]) (-1 : Int32))) ∧ Fr n0 L ∧ Keep h0 h []
theorem rm_so112 (l : Launch) (Z : State) (a0 : Array Value) (hw : HW a0 Z) (ws : List Jvm.Cond) (a : Addr) (d0 : Int32) (f0 : Int32) (f1 : Int32) (cz : Int32) (fo : Value) (h0 : Heap) (n0 : Nat) (Z0 : n0 ≤ h0.size) (T_a : StrOf Z h0 a [(45 : Int32), d0, (46 : Int32), f0, f1]) (hD_d0 : Dig d0) (hD_f0 : Dig f0) (hD_f1 : Dig f1) (sgC : Sta Z h0 "java/lang/String" "COMPACT_STRINGS" "Z" (.int cz)) (hcz : ¬ (cz = 0)) (sgF : Sta Z h0 "jdk/internal/util/Preconditions" "SIOOBE_FORMATTER" "Ljava/util/function/BiFunction;" fo) (r_fo : fo.isRef = true) :
  MetH l Z mN23 prog_29_method_6_code 1 (some .int) ({ frames := 5, cells := 5, slots := 30, locals := 77 } : Room) ws #[(.ref a)] h0 (Q_rm_so112 Z a d0 f0 f1 cz fo h0 n0) := by
 refine own_metH (plainFor_of_name own_pn8) ?_
 intro p e s m below meth c s₁ hret hx hby hlk hml hown hnm X0 e0 hZ hh hC0
 have N0 := Fr.nil n0
 have hS : s.Since s.vm h0.size := (State.WarmedH.refl s).since _
 have hk : h0.size ≤ h0.size := Nat.le_refl _
 replace hZ : Z.Warmed39 (s.setVm s.vm).vm := hZ
 have hR : CHr Z consts_1 s.vm h0 s.vm h0 := CHr.refl hC0
 refine Gz (castTop (own_ef_rm_so112 m a)) ?_
 have KP : Keep h0 h0 [] := Keep.refl _ _
 show Goes _ _ _ _ _ (fT s₁ m 0 #[vr a] [])
 refine gA X0 hx hby d23_0 rfl rfl rfl ?_
 obtain ⟨c1, T1, h1, kk1, cb1, kc1, X1, e1, E1, hS, hk1, hZ, hown, A_c1, F_coder_c1, F_value_c1, V_cb1, -, -, hC1, hL1, hsf1, st1⟩ := ldcCH X0 hx hZ hown (gw hw 41 rfl) (own_strW hw) e0 hS hk (own_EW hw) (List.mem_of_getElem? (i := 0) rfl) hR.1 (vs := [(.int 116), (.int 101), (.int 120), (.int 116)]) (z := (4 : Int32)) ⟨by first | decide | rfl, by first | decide | rfl⟩ (by decide) (by decide) (g := (mkF m 1 #[vr a] [(.ref a)])) rfl (hb hby d23_1) (n := 16) (by decide) (by decide) (by decide) (by decide)
 replace T_a := T_a.ext E1
 replace sgC := sgC.ext E1
 replace sgF := sgF.ext E1
 replace KP := KP.ext E1
 replace hR := hR.trans hC1
 replace Z0 : n0 ≤ h1.size := Nat.le_trans Z0 E1.1
 replace hk := hk1
 refine Gs st1 ?_
 show Goes _ _ _ _ _ (fT T1 m 3 #[vr a] [(.ref c1), (.ref a)])
 refine cS X1 hx hZ hw hown hby hml e1 mN15 44 45 47 46 0 (rm_nn l Z a0 hw [] a c1 h1 n0 Z0) d23_3 (lenOf own_pd17 rfl) N0 (fun T2 L2 X2 e2 N2 => ?_)
 show Goes _ _ _ _ _ (fT T2 m 6 #[vr a] [(.ref a)])
 refine Gz (XS.pop X2.here hx rfl (hb hby d23_6) rfl rfl) ?_
 refine gA X2 hx hby d23_7 rfl rfl rfl ?_
 obtain ⟨_, _, ⟨T3, L3, k3, n3⟩, -, X3, hS3, gr3, ⟨Lc3, hQ3, l3, y3, z3, hC3⟩, st3⟩ := callSS X2 hx (y := mN22) hown (gz hZ hw 48 rfl) (gz hZ hw 49 rfl) (gz hZ hw 39 rfl) (gz hZ hw 50 rfl) (by decide) (backOfSH (W := 0) (rm_cs112 l Z a0 hw [] a d0 f0 f1 cz fo h1 n0 Z0 T_a hD_d0 hD_f0 hD_f1 sgC hcz sgF r_fo) hZ (gw hw 50 rfl) (gw hw 39 rfl) (by decide) (by decide) (own_EW hw) hR.1) (g := (mkF m 8 #[vr a] [(.ref a)])) rfl hml.symm (argsL := [(.ref a)]) (rest := []) (lenOf own_pd18 rfl) rfl (wz rfl) (hb hby d23_8) (fun _ _ => ⟨rfl, e2, (by decide : 2 + 3 ≤ _), (by decide : 20 + 10 ≤ _)⟩)
 dsimp only [Pt.U, Pt.locs, Pt.cells, Pt.slots] at X3 l3 y3 z3 st3 hQ3 hS3 gr3 hC3
 subst l3 y3 z3
 obtain ⟨X3, hS, hZ, hown⟩ := rebS hS hk X3 hS3 (by have q := gr3; rw [e2] at q; exact q) hZ hown
 replace hk : T3.heap.size ≤ T3.heap.size := Nat.le_refl _
 obtain ⟨o3, rfl, N3q, K3, A_o3_3', F_signum_o3_3', g_o3_3', sz_o3_3'⟩ := hQ3
 have N3 := Fr.app N2 N3q
 replace hR := hR.trans hC3
 replace T_a := T_a.keep K3 all0
 replace KP := KP.trans K3 all0
 replace Z0 := Nat.le_trans Z0 K3.1
 have A_o3 := A_o3_3'
 have F_signum_o3 := F_signum_o3_3'
 refine Gs (fun _ tk => st3.trans tk) ?_
 show Goes _ _ _ _ _ (fT T3 m 11 #[vr a] [(.ref o3)])
 refine cV X3 hx hZ hw hown hby hml rfl mN14 118 119 121 120 122 104 0 (rm_sgn l Z a0 hw [] o3 (own_sg (own_allz [d0, f0, f1]) (-1 : Int32)) T3.heap n0 Z0 F_signum_o3) A_o3 d23_11 (lenOf own_pd11 rfl) N3 (fun T4 L4 X4 e4 N4 => ?_)
 show Goes _ _ _ _ _ (fT T4 m 14 #[vr a] [(.int (own_sg (own_allz [d0, f0, f1]) (-1 : Int32)))])
 refine Goes.retH X4 hS e4 hk hZ (own_EW hw) hh hR (some (.int (own_sg (own_allz [d0, f0, f1]) (-1 : Int32)))) (fun h => by rw [hret] at h; cases h) hlk (by decide) (by decide) ?_ (fun fs hr => ?_)
 ·rw [e4]; exact ⟨rfl, N4, KP⟩
 ·exact retI X4 hx hret (hb hby d23_14) hr
theorem own_ef_rm_cs120 (m : MethodId) (x0 : Addr) : entryFrame m #[(.ref x0)] 7 = mkF m 0 #[vr x0, vu, vu, vu, vu, vu, vu] [] := by first | (simp [entryFrame, mkF, argsToLocals, Value.category]; done) | rfl
def Q_rm_cs120 (Z : State) (a : Addr) (d0 : Int32) (d1 : Int32) (cz : Int32) (fo : Value) (h0 : Heap) (n0 : Nat) (v : Option Value) (h : Heap) (L : List Loc) : Prop := ∃ o : Addr, v = some (.ref o) ∧ Fr n0 L ∧ Keep h0 h [] ∧ Exa Z h o "com/example/modest_billing/modestbilling/Money$Shape" ∧ Fld Z h o "com/example/modest_billing/modestbilling/Money$Shape" "signum" "I" (.int (own_sg (own_allz [d0, d1]) (-1 : Int32))) ∧ n0 ≤ o ∧ h0.size ≤ o
theorem rm_cs120 (l : Launch) (Z : State) (a0 : Array Value) (hw : HW a0 Z) (ws : List Jvm.Cond) (a : Addr) (d0 : Int32) (d1 : Int32) (cz : Int32) (fo : Value) (h0 : Heap) (n0 : Nat) (Z0 : n0 ≤ h0.size) (T_a : StrOf Z h0 a [(45 : Int32), d0, d1]) (hD_d0 : Dig d0) (hD_d1 : Dig d1) (hN8 : ¬ (d0 = 48)) (sgC : Sta Z h0 "java/lang/String" "COMPACT_STRINGS" "Z" (.int cz)) (hcz : ¬ (cz = 0)) (sgF : Sta Z h0 "jdk/internal/util/Preconditions" "SIOOBE_FORMATTER" "Ljava/util/function/BiFunction;" fo) (r_fo : fo.isRef = true) :
  MetH l Z mN22 prog_29_method_8_code 7 (some (.object "com/example/modest_billing/modestbilling/Money$Shape")) ({ frames := 4, cells := 3, slots := 10, locals := 59 } : Room) ws #[(.ref a)] h0 (Q_rm_cs120 Z a d0 d1 cz fo h0 n0) := by
 refine own_metH (plainFor_of_name own_pn8) ?_
 intro p e s m below meth c s₁ hret hx hby hlk hml hown hnm X0 e0 hZ hh hC0
 have N0 := Fr.nil n0
 have hS : s.Since s.vm h0.size := (State.WarmedH.refl s).since _
 have hk : h0.size ≤ h0.size := Nat.le_refl _
 replace hZ : Z.Warmed39 (s.setVm s.vm).vm := hZ
 have hR : CHr Z consts_1 s.vm h0 s.vm h0 := CHr.refl hC0
 refine Gz (castTop (own_ef_rm_cs120 m a)) ?_
 have KP : Keep h0 h0 [] := Keep.refl _ _
 show Goes _ _ _ _ _ (fT s₁ m 0 #[vr a, vu, vu, vu, vu, vu, vu] [])
 refine gA X0 hx hby d22_0 rfl rfl rfl ?_
 obtain ⟨c1, T1, h1, kk1, cb1, kc1, X1, e1, E1, hS, hk1, hZ, hown, A_c1, F_coder_c1, F_value_c1, V_cb1, -, -, hC1, hL1, hsf1, st1⟩ := ldcCH X0 hx hZ hown (gw hw 51 rfl) (own_strW hw) e0 hS hk (own_EW hw) (List.mem_of_getElem? (i := 1) rfl) hR.1 (vs := [(.int 45)]) (z := (1 : Int32)) ⟨by first | decide | rfl, by first | decide | rfl⟩ (by decide) (by decide) (g := (mkF m 1 #[vr a, vu, vu, vu, vu, vu, vu] [(.ref a)])) rfl (hb hby d22_1) (n := 4) (by decide) (by decide) (by decide) (by decide)
 replace T_a := T_a.ext E1
 replace sgC := sgC.ext E1
 replace sgF := sgF.ext E1
 replace KP := KP.ext E1
 replace hR := hR.trans hC1
 replace Z0 : n0 ≤ h1.size := Nat.le_trans Z0 E1.1
 replace hk := hk1
 refine Gs st1 ?_
 show Goes _ _ _ _ _ (fT T1 m 3 #[vr a, vu, vu, vu, vu, vu, vu] [(.ref c1), (.ref a)])
 have T_c1 : StrOf Z h1 c1 [(45 : Int32)] := StrOf.latin A_c1 F_value_c1 F_coder_c1 V_cb1 (by intro c hc; rw [List.mem_singleton.mp hc]; exact own_lat45) rfl rfl (Nat.le_of_ble_eq_true rfl)
 refine cV X1 hx hZ hw hown hby hml e1 mN21 52 53 55 54 56 9 0 (rm_sw11 l Z a0 hw [] a c1 [(45 : Int32), d0, d1] cz h1 n0 Z0 T_a T_c1 (own_il 0 _ (by decide) (by simp) T_a.len) rfl sgC hcz) T_a.exa d22_3 (lenOf own_pd14 rfl) N0 (fun T2 L2 X2 e2 N2 => ?_)
 show Goes _ _ _ _ _ (fT T2 m 6 #[vr a, vu, vu, vu, vu, vu, vu] [(.int 1)])
 refine gu X2 hx hby d22_6 ((if0 _ _).trans (feq (by decide : ¬ ((1 : Int32) = (0 : Int32)))).1) ?_
 refine gC X2 hx hby d22_9 ?_
 refine gG X2 hx hby d22_10 10 14 ?_
 refine gs X2 hx hby d22_14 #[vr a, vi 1, vu, vu, vu, vu, vu] ?_
 refine gN X2 hx hby d22_15 rfl rfl ?_
 refine gs X2 hx hby d22_16 #[vr a, vi 1, vi 1, vu, vu, vu, vu] ?_
 show Goes _ _ _ _ _ (fT T2 m 17 #[vr a, vi 1, vi 1, vu, vu, vu, vu] [])
 refine gC X2 hx hby d22_17 ?_
 refine gs X2 hx hby d22_18 #[vr a, vi 1, vi 1, vi 1, vu, vu, vu] ?_
 refine gN X2 hx hby d22_19 rfl rfl ?_
 refine gA X2 hx hby d22_20 rfl rfl rfl ?_
 refine cV X2 hx hZ hw hown hby hml e2 mN2 76 63 65 64 66 9 1 (rs_len l Z a0 hw [] a [(45 : Int32), d0, d1] cz h1 n0 Z0 T_a sgC hcz) T_a.exa d22_21 (lenOf own_pd11 rfl) N2 (fun T3 L3 X3 e3 N3 => ?_)
 show Goes _ _ _ _ _ (fT T3 m 24 #[vr a, vi 1, vi 1, vi 1, vu, vu, vu] [(.int 3), (.int 1)])
 refine gU X3 hx hby d22_24 (tlt (by decide : ((1 : Int32) < (3 : Int32)))).2.1 ?_
 refine gA X3 hx hby d22_27 rfl rfl rfl ?_
 refine gN X3 hx hby d22_28 rfl rfl ?_
 refine cV X3 hx hZ hw hown hby hml e3 mN6 77 78 80 79 81 9 0 (rs_chr l Z a0 hw [] a [(45 : Int32), d0, d1] (1 : Int32) d0 cz fo h1 n0 Z0 T_a sgC hcz (by first | assumption | decide) (own_il 1 _ (by decide) (by simp) T_a.len) rfl sgF r_fo) T_a.exa d22_29 (lenOf own_pd15 rfl) N3 (fun T4 L4 X4 e4 N4 => ?_)
 show Goes _ _ _ _ _ (fT T4 m 32 #[vr a, vi 1, vi 1, vi 1, vu, vu, vu] [(.int d0)])
 refine cS X4 hx hZ hw hown hby hml e4 mN17 99 100 101 39 0 (rm_isd l Z a0 hw [] d0 h1 n0 Z0 (own_n48 hD_d0).1 (own_n48 hD_d0).2) d22_32 (lenOf own_pd16 rfl) N4 (fun T5 L5 X5 e5 N5 => ?_)
 show Goes _ _ _ _ _ (fT T5 m 35 #[vr a, vi 1, vi 1, vi 1, vu, vu, vu] [(.int 1)])
 refine gu X5 hx hby d22_35 ((if0 _ _).trans (feq (by decide : ¬ ((1 : Int32) = (0 : Int32)))).1) ?_
 refine gN X5 hx hby d22_38 rfl rfl ?_
 refine gA X5 hx hby d22_39 rfl rfl rfl ?_
 refine gN X5 hx hby d22_40 rfl rfl ?_
 refine cV X5 hx hZ hw hown hby hml e5 mN6 77 78 80 79 81 9 1 (rs_chr l Z a0 hw [] a [(45 : Int32), d0, d1] (1 : Int32) d0 cz fo h1 n0 Z0 T_a sgC hcz (by first | assumption | decide) (own_il 1 _ (by decide) (by simp) T_a.len) rfl sgF r_fo) T_a.exa d22_41 (lenOf own_pd15 rfl) N5 (fun T6 L6 X6 e6 N6 => ?_)
 show Goes _ _ _ _ _ (fT T6 m 44 #[vr a, vi 1, vi 1, vi 1, vu, vu, vu] [(.int d0), (.int 1)])
 refine gB X6 hx hby d22_44 ?_
 show Goes _ _ _ _ _ (fT T6 m 46 #[vr a, vi 1, vi 1, vi 1, vu, vu, vu] [(.int 48), (.int d0), (.int 1)])
 refine own_join (B := T6.setTop (mkF m 54 #[vr a, vi 1, vi 1, vi 1, vu, vu, vu] [(.int (own_z d0)), (.int 1)])) ?_ ?_
 ·show Goes _ _ _ _ _ (fT T6 m 54 #[vr a, vi 1, vi 1, vi 1, vu, vu, vu] [(.int (own_z d0)), (.int 1)])
  refine Gz (XS.iand X6.here hx rfl (hb hby d22_54) rfl) ?_
  show Goes _ _ _ _ _ (fT T6 m 55 #[vr a, vi 1, vi 1, vi 1, vu, vu, vu] [(.int ((1 : Int32) &&& (own_z d0)))])
  refine gs X6 hx hby d22_55 #[vr a, vi 1, vi 1, vi ((1 : Int32) &&& (own_z d0)), vu, vu, vu] ?_
  show Goes _ _ _ _ _ (fT T6 m 56 #[vr a, vi 1, vi 1, vi ((1 : Int32) &&& (own_z d0)), vu, vu, vu] [])
  refine Gz (XS.iinc X6.here hx rfl (hb hby d22_56) rfl (l' := #[vr a, vi ((1 : Int32) + (1 : Int32)), vi 1, vi ((1 : Int32) &&& (own_z d0)), vu, vu, vu]) rfl) ?_
  show Goes _ _ _ _ _ (fT T6 m 59 #[vr a, vi 2, vi 1, vi ((1 : Int32) &&& (own_z d0)), vu, vu, vu] [])
  refine gG X6 hx hby d22_59 59 19 ?_
  refine gN X6 hx hby d22_19 rfl rfl ?_
  refine gA X6 hx hby d22_20 rfl rfl rfl ?_
  refine cV X6 hx hZ hw hown hby hml e6 mN2 76 63 65 64 66 9 1 (rs_len l Z a0 hw [] a [(45 : Int32), d0, d1] cz h1 n0 Z0 T_a sgC hcz) T_a.exa d22_21 (lenOf own_pd11 rfl) N6 (fun T8 L8 X8 e8 N8 => ?_)
  show Goes _ _ _ _ _ (fT T8 m 24 #[vr a, vi 2, vi 1, vi ((1 : Int32) &&& (own_z d0)), vu, vu, vu] [(.int 3), (.int 2)])
  refine gU X8 hx hby d22_24 (tlt (by decide : ((2 : Int32) < (3 : Int32)))).2.1 ?_
  refine gA X8 hx hby d22_27 rfl rfl rfl ?_
  refine gN X8 hx hby d22_28 rfl rfl ?_
  refine cV X8 hx hZ hw hown hby hml e8 mN6 77 78 80 79 81 9 0 (rs_chr l Z a0 hw [] a [(45 : Int32), d0, d1] (2 : Int32) d1 cz fo h1 n0 Z0 T_a sgC hcz (by first | assumption | decide) (own_il 2 _ (by decide) (by simp) T_a.len) rfl sgF r_fo) T_a.exa d22_29 (lenOf own_pd15 rfl) N8 (fun T9 L9 X9 e9 N9 => ?_)
  show Goes _ _ _ _ _ (fT T9 m 32 #[vr a, vi 2, vi 1, vi ((1 : Int32) &&& (own_z d0)), vu, vu, vu] [(.int d1)])
  refine cS X9 hx hZ hw hown hby hml e9 mN17 99 100 101 39 0 (rm_isd l Z a0 hw [] d1 h1 n0 Z0 (own_n48 hD_d1).1 (own_n48 hD_d1).2) d22_32 (lenOf own_pd16 rfl) N9 (fun T10 L10 X10 e10 N10 => ?_)
  show Goes _ _ _ _ _ (fT T10 m 35 #[vr a, vi 2, vi 1, vi ((1 : Int32) &&& (own_z d0)), vu, vu, vu] [(.int 1)])
  refine gu X10 hx hby d22_35 ((if0 _ _).trans (feq (by decide : ¬ ((1 : Int32) = (0 : Int32)))).1) ?_
  refine gN X10 hx hby d22_38 rfl rfl ?_
  refine gA X10 hx hby d22_39 rfl rfl rfl ?_
  refine gN X10 hx hby d22_40 rfl rfl ?_
  refine cV X10 hx hZ hw hown hby hml e10 mN6 77 78 80 79 81 9 1 (rs_chr l Z a0 hw [] a [(45 : Int32), d0, d1] (2 : Int32) d1 cz fo h1 n0 Z0 T_a sgC hcz (by first | assumption | decide) (own_il 2 _ (by decide) (by simp) T_a.len) rfl sgF r_fo) T_a.exa d22_41 (lenOf own_pd15 rfl) N10 (fun T11 L11 X11 e11 N11 => ?_)
  show Goes _ _ _ _ _ (fT T11 m 44 #[vr a, vi 2, vi 1, vi ((1 : Int32) &&& (own_z d0)), vu, vu, vu] [(.int d1), (.int ((1 : Int32) &&& (own_z d0)))])
  refine gB X11 hx hby d22_44 ?_
  show Goes _ _ _ _ _ (fT T11 m 46 #[vr a, vi 2, vi 1, vi ((1 : Int32) &&& (own_z d0)), vu, vu, vu] [(.int 48), (.int d1), (.int ((1 : Int32) &&& (own_z d0)))])
  refine own_join (B := T11.setTop (mkF m 54 #[vr a, vi 2, vi 1, vi ((1 : Int32) &&& (own_z d0)), vu, vu, vu] [(.int (own_z d1)), (.int ((1 : Int32) &&& (own_z d0)))])) ?_ ?_
  ·show Goes _ _ _ _ _ (fT T11 m 54 #[vr a, vi 2, vi 1, vi ((1 : Int32) &&& (own_z d0)), vu, vu, vu] [(.int (own_z d1)), (.int ((1 : Int32) &&& (own_z d0)))])
   refine Gz (XS.iand X11.here hx rfl (hb hby d22_54) rfl) ?_
   show Goes _ _ _ _ _ (fT T11 m 55 #[vr a, vi 2, vi 1, vi ((1 : Int32) &&& (own_z d0)), vu, vu, vu] [(.int (((1 : Int32) &&& (own_z d0)) &&& (own_z d1)))])
   refine gs X11 hx hby d22_55 #[vr a, vi 2, vi 1, vi (((1 : Int32) &&& (own_z d0)) &&& (own_z d1)), vu, vu, vu] ?_
   show Goes _ _ _ _ _ (fT T11 m 56 #[vr a, vi 2, vi 1, vi (((1 : Int32) &&& (own_z d0)) &&& (own_z d1)), vu, vu, vu] [])
   refine Gz (XS.iinc X11.here hx rfl (hb hby d22_56) rfl (l' := #[vr a, vi ((2 : Int32) + (1 : Int32)), vi 1, vi (((1 : Int32) &&& (own_z d0)) &&& (own_z d1)), vu, vu, vu]) rfl) ?_
   show Goes _ _ _ _ _ (fT T11 m 59 #[vr a, vi 3, vi 1, vi (((1 : Int32) &&& (own_z d0)) &&& (own_z d1)), vu, vu, vu] [])
   refine gG X11 hx hby d22_59 59 19 ?_
   refine gN X11 hx hby d22_19 rfl rfl ?_
   refine gA X11 hx hby d22_20 rfl rfl rfl ?_
   refine cV X11 hx hZ hw hown hby hml e11 mN2 76 63 65 64 66 9 1 (rs_len l Z a0 hw [] a [(45 : Int32), d0, d1] cz h1 n0 Z0 T_a sgC hcz) T_a.exa d22_21 (lenOf own_pd11 rfl) N11 (fun T13 L13 X13 e13 N13 => ?_)
   show Goes _ _ _ _ _ (fT T13 m 24 #[vr a, vi 3, vi 1, vi (((1 : Int32) &&& (own_z d0)) &&& (own_z d1)), vu, vu, vu] [(.int 3), (.int 3)])
   refine gY X13 hx hby d22_24 24 62 (flt (by decide : ¬ ((3 : Int32) < (3 : Int32)))).2.1 ?_
   refine gN X13 hx hby d22_62 rfl rfl ?_
   refine gN X13 hx hby d22_63 rfl rfl ?_
   show Goes _ _ _ _ _ (fT T13 m 64 #[vr a, vi 3, vi 1, vi (((1 : Int32) &&& (own_z d0)) &&& (own_z d1)), vu, vu, vu] [(.int 1), (.int 3)])
   refine Gz (XS.isub X13.here hx rfl (hb hby d22_64) rfl) ?_
   show Goes _ _ _ _ _ (fT T13 m 65 #[vr a, vi 3, vi 1, vi (((1 : Int32) &&& (own_z d0)) &&& (own_z d1)), vu, vu, vu] [(.int 2)])
   refine gS X13 hx hby d22_65 #[vr a, vi 3, vi 1, vi (((1 : Int32) &&& (own_z d0)) &&& (own_z d1)), vi 2, vu, vu] ?_
   refine gI X13 hx hby d22_67 rfl rfl ?_
   refine gC X13 hx hby d22_69 ?_
   refine gU X13 hx hby d22_70 (feq (by decide : ¬ ((2 : Int32) = (1 : Int32)))).1 ?_
   refine gI X13 hx hby d22_73 rfl rfl ?_
   refine gC X13 hx hby d22_75 ?_
   show Goes _ _ _ _ _ (fT T13 m 76 #[vr a, vi 3, vi 1, vi (((1 : Int32) &&& (own_z d0)) &&& (own_z d1)), vi 2, vu, vu] [(.int 1), (.int 2)])
   refine gU X13 hx hby d22_76 (tlt (by decide : ((1 : Int32) < (2 : Int32)))).2.2.2 ?_
   refine gA X13 hx hby d22_79 rfl rfl rfl ?_
   refine gN X13 hx hby d22_80 rfl rfl ?_
   refine cV X13 hx hZ hw hown hby hml e13 mN6 77 78 80 79 81 9 0 (rs_chr l Z a0 hw [] a [(45 : Int32), d0, d1] (1 : Int32) d0 cz fo h1 n0 Z0 T_a sgC hcz (by first | assumption | decide) (own_il 1 _ (by decide) (by simp) T_a.len) rfl sgF r_fo) T_a.exa d22_81 (lenOf own_pd15 rfl) N13 (fun T14 L14 X14 e14 N14 => ?_)
   show Goes _ _ _ _ _ (fT T14 m 84 #[vr a, vi 3, vi 1, vi (((1 : Int32) &&& (own_z d0)) &&& (own_z d1)), vi 2, vu, vu] [(.int d0)])
   refine gB X14 hx hby d22_84 ?_
   refine gU X14 hx hby d22_86 (feq hN8).1 ?_
   refine gC X14 hx hby d22_89 ?_
   refine gG X14 hx hby d22_90 90 94 ?_
   refine gS X14 hx hby d22_94 #[vr a, vi 3, vi 1, vi (((1 : Int32) &&& (own_z d0)) &&& (own_z d1)), vi 2, vi 1, vu] ?_
   refine gC X14 hx hby d22_96 ?_
   show Goes _ _ _ _ _ (fT T14 m 97 #[vr a, vi 3, vi 1, vi (((1 : Int32) &&& (own_z d0)) &&& (own_z d1)), vi 2, vi 1, vu] [(.int 0)])
   refine gS X14 hx hby d22_97 #[vr a, vi 3, vi 1, vi (((1 : Int32) &&& (own_z d0)) &&& (own_z d1)), vi 2, vi 1, vi 0] ?_
   refine gI X14 hx hby d22_99 rfl rfl ?_
   refine gu X14 hx hby d22_101 ((if0 _ _).trans (feq (by decide : ¬ ((1 : Int32) = (0 : Int32)))).1) ?_
   refine gN X14 hx hby d22_104 rfl rfl ?_
   refine gA X14 hx hby d22_105 rfl rfl rfl ?_
   refine cV X14 hx hZ hw hown hby hml e14 mN2 76 63 65 64 66 9 1 (rs_len l Z a0 hw [] a [(45 : Int32), d0, d1] cz h1 n0 Z0 T_a sgC hcz) T_a.exa d22_106 (lenOf own_pd11 rfl) N14 (fun T15 L15 X15 e15 N15 => ?_)
   show Goes _ _ _ _ _ (fT T15 m 109 #[vr a, vi 3, vi 1, vi (((1 : Int32) &&& (own_z d0)) &&& (own_z d1)), vi 2, vi 1, vi 0] [(.int 3), (.int 3)])
   refine gY X15 hx hby d22_109 109 194 (flt (by decide : ¬ ((3 : Int32) < (3 : Int32)))).2.1 ?_
   refine gI X15 hx hby d22_194 rfl rfl ?_
   refine gy X15 hx hby d22_196 196 213 ((if0 _ _).trans (feq (by decide : ¬ ((1 : Int32) = (0 : Int32)))).2) ?_
   obtain ⟨T16, h16, X16, e16, E16, A16, D16, -, st16⟩ := newO X15 hx hZ hown (gw hw 102 rfl) (gw hw 103 rfl) (gw hw 104 rfl) e15 (g := (mkF m 213 #[vr a, vi 3, vi 1, vi (((1 : Int32) &&& (own_z d0)) &&& (own_z d1)), vi 2, vi 1, vi 0] [])) rfl (hb hby d22_213) (by decide) (by decide)
   obtain ⟨b16, gq16⟩ : ∃ z, z = h1.size := ⟨_, rfl⟩
   rw [← gq16] at A16 st16 D16
   have g_b16 : n0 ≤ b16 := by rw [gq16]; exact Z0
   have sz_b16 : h0.size ≤ b16 := by rw [gq16]; exact KP.1
   have ne_a_b16 : a ≠ b16 := by rw [gq16]; exact Nat.ne_of_lt T_a.lt
   have ne_c1_b16 : c1 ≠ b16 := by rw [gq16]; exact Nat.ne_of_lt A_c1.lt
   have ne_cb1_b16 : cb1 ≠ b16 := by rw [gq16]; exact Nat.ne_of_lt V_cb1.lt
   have Sf_b16 : Safe Z consts_1 T1.vm h1 b16 := Safe.new (Nat.le_of_eq gq16.symm)
   replace Sf_b16 := Safe.ext E16 hR.1 Sf_b16
   replace hR := hR.trans (CHr.ext E16 hR.1)
   replace T_a := T_a.ext E16
   replace T_c1 := T_c1.ext E16
   replace KP := KP.ext E16
   replace Z0 : n0 ≤ h16.size := Nat.le_trans Z0 E16.1
   replace hk := Nat.le_trans hk E16.1
   have A_b16 : Exa Z h16 b16 "com/example/modest_billing/modestbilling/Money$Shape" := A16
   have F_signum_b16 : Fld Z h16 b16 "com/example/modest_billing/modestbilling/Money$Shape" "signum" "I" (.int 0) := D16 (Or.inr (gw hw 115 rfl)) (ty := .int) (by decide)
   have F_fractionDigits_b16 : Fld Z h16 b16 "com/example/modest_billing/modestbilling/Money$Shape" "fractionDigits" "I" (.int 0) := D16 (Or.inr (gw hw 117 rfl)) (ty := .int) (by decide)
   refine Gs st16 ?_
   show Goes _ _ _ _ _ (fT T16 m 216 #[vr a, vi 3, vi 1, vi (((1 : Int32) &&& (own_z d0)) &&& (own_z d1)), vi 2, vi 1, vi 0] [(.ref b16)])
   refine Gz (XS.dup X16.here hx rfl (hb hby d22_216) rfl rfl) ?_
   refine gN X16 hx hby d22_217 rfl rfl ?_
   show Goes _ _ _ _ _ (fT T16 m 218 #[vr a, vi 3, vi 1, vi (((1 : Int32) &&& (own_z d0)) &&& (own_z d1)), vi 2, vi 1, vi 0] [(.int (((1 : Int32) &&& (own_z d0)) &&& (own_z d1))), (.ref b16), (.ref b16)])
   refine own_join (B := T16.setTop (mkF m 234 #[vr a, vi 3, vi 1, vi (((1 : Int32) &&& (own_z d0)) &&& (own_z d1)), vi 2, vi 1, vi 0] [(.int (own_sg (own_allz [d0, d1]) (-1 : Int32))), (.ref b16), (.ref b16)])) ?_ ?_
   ·show Goes _ _ _ _ _ (fT T16 m 234 #[vr a, vi 3, vi 1, vi (((1 : Int32) &&& (own_z d0)) &&& (own_z d1)), vi 2, vi 1, vi 0] [(.int (own_sg (own_allz [d0, d1]) (-1 : Int32))), (.ref b16), (.ref b16)])
    refine gI X16 hx hby d22_234 rfl rfl ?_
    obtain ⟨_, _, ⟨T18, L18, k18, n18⟩, -, X18, ⟨Lc18, hQ18, l18, y18, z18⟩, st18⟩ := own_specialRef X16 hx hZ (y := mN13) rfl hown (gw hw 105 rfl) (gw hw 106 rfl) (gw hw 107 rfl) (by decide) (backOf (W := 1) (rm_shi l Z a0 hw [] b16 (own_sg (own_allz [d0, d1]) (-1 : Int32)) (0 : Int32) h16 n0 Z0 A_b16 F_signum_b16 F_fractionDigits_b16 g_b16) hZ (gw hw 107 rfl) (gw hw 104 rfl) (by decide) (by decide)) (g := (mkF m 236 #[vr a, vi 3, vi 1, vi (((1 : Int32) &&& (own_z d0)) &&& (own_z d1)), vi 2, vi 1, vi 0] [(.int 0), (.int (own_sg (own_allz [d0, d1]) (-1 : Int32))), (.ref b16), (.ref b16)])) rfl hml.symm (Steps.refl _) (a := b16) (argsL := [(.int (own_sg (own_allz [d0, d1]) (-1 : Int32))), (.int 0)]) (rest := [(.ref b16)]) (lenOf own_pd2 rfl) rfl (wz rfl) (hb hby d22_236) (fun _ _ => ⟨rfl, e16, (by decide : 3 + 0 ≤ _), (by decide : 10 + 0 ≤ _)⟩)
    dsimp only [Pt.U, Pt.locs, Pt.cells, Pt.slots] at X18 l18 y18 z18 st18 hQ18
    subst l18 y18 z18
    obtain ⟨rfl, N18q, K18, F_signum_b16_18'⟩ := hQ18
    have N18 := Fr.app N15 N18q
    replace hR := hR.trans (CHr.keep K18 (allS Sf_b16 all0) hR.1)
    replace T_a := T_a.keep K18 (allS ⟨(Ne.symm ne_a_b16), (own_nbE A_b16 (gw hw 103 rfl))⟩ all0)
    replace T_c1 := T_c1.keep K18 (allS ⟨(Ne.symm ne_c1_b16), (own_nbE A_b16 (gw hw 103 rfl))⟩ all0)
    replace A_b16 := A_b16.keep K18
    replace KP := KP.trans K18 (allS (Or.inr sz_b16) all0)
    replace Z0 := Nat.le_trans Z0 K18.1
    replace hk := Nat.le_trans hk K18.1
    have F_signum_b16 := F_signum_b16_18'
    refine Gs (fun _ tk => st18.trans tk) ?_
    show Goes _ _ _ _ _ (fT T18 m 239 #[vr a, vi 3, vi 1, vi (((1 : Int32) &&& (own_z d0)) &&& (own_z d1)), vi 2, vi 1, vi 0] [(.ref b16)])
    refine Goes.retH X18 hS rfl hk hZ (own_EW hw) hh hR (some (.ref b16)) (fun h => by rw [hret] at h; cases h) hlk (by decide) (by decide) ?_ (fun fs hr => ?_)
    ·exact ⟨b16, rfl, N18, KP, A_b16, F_signum_b16, g_b16, sz_b16⟩
    ·exact own_retA X18 hx hret rfl rfl (hb hby d22_239) hr
   intro J234_17
   by_cases hc218_19 : (((1 : Int32) &&& (own_z d0)) &&& (own_z d1)) = 0
   ·refine gy X16 hx hby d22_218 218 225 ((if0 _ _).trans (teq hc218_19).1) ?_
    refine gN X16 hx hby d22_225 rfl rfl ?_
    refine gy X16 hx hby d22_226 226 233 ((if0 _ _).trans (feq (by decide : ¬ ((1 : Int32) = (0 : Int32)))).2) ?_
    refine gC X16 hx hby d22_233 ?_
    rw [show (own_sg (own_allz [d0, d1]) (-1 : Int32)) = (-1 : Int32) from by rw [← own_F2, own_sg, if_pos hc218_19]] at J234_17
    exact J234_17
   ·refine gu X16 hx hby d22_218 ((if0 _ _).trans (feq hc218_19).1) ?_
    refine gC X16 hx hby d22_221 ?_
    refine gG X16 hx hby d22_222 222 234 ?_
    rw [show (own_sg (own_allz [d0, d1]) (-1 : Int32)) = 0 from by rw [← own_F2, own_sg, if_neg hc218_19]] at J234_17
    exact J234_17
  intro J54_12
  by_cases hc46_20 : d1 = 48
  ·refine gU X11 hx hby d22_46 (teq hc46_20).2 ?_
   refine gC X11 hx hby d22_49 ?_
   refine gG X11 hx hby d22_50 50 54 ?_
   rw [show (own_z d1) = 1 from by rw [own_z, if_pos hc46_20]] at J54_12
   exact J54_12
  ·refine gY X11 hx hby d22_46 46 53 (feq hc46_20).2 ?_
   refine gC X11 hx hby d22_53 ?_
   rw [show (own_z d1) = 0 from by rw [own_z, if_neg hc46_20]] at J54_12
   exact J54_12
 intro J54_7
 refine gY X6 hx hby d22_46 46 53 (feq hN8).2 ?_
 refine gC X6 hx hby d22_53 ?_
 rw [show (own_z d0) = 0 from by rw [own_z, if_neg hN8]] at J54_7
 exact J54_7
theorem own_ef_rm_so120 (m : MethodId) (x0 : Addr) : entryFrame m #[(.ref x0)] 1 = mkF m 0 #[vr x0] [] := by first | (simp [entryFrame, mkF, argsToLocals, Value.category]; done) | rfl
def Q_rm_so120 (Z : State) (a : Addr) (d0 : Int32) (d1 : Int32) (cz : Int32) (fo : Value) (h0 : Heap) (n0 : Nat) (v : Option Value) (h : Heap) (L : List Loc) : Prop := v = some (.int (own_sg (own_allz [d0, d1]) (-1 : Int32))) ∧ Fr n0 L ∧ Keep h0 h []
theorem rm_so120 (l : Launch) (Z : State) (a0 : Array Value) (hw : HW a0 Z) (ws : List Jvm.Cond) (a : Addr) (d0 : Int32) (d1 : Int32) (cz : Int32) (fo : Value) (h0 : Heap) (n0 : Nat) (Z0 : n0 ≤ h0.size) (T_a : StrOf Z h0 a [(45 : Int32), d0, d1]) (hD_d0 : Dig d0) (hD_d1 : Dig d1) (hN8 : ¬ (d0 = 48)) (sgC : Sta Z h0 "java/lang/String" "COMPACT_STRINGS" "Z" (.int cz)) (hcz : ¬ (cz = 0)) (sgF : Sta Z h0 "jdk/internal/util/Preconditions" "SIOOBE_FORMATTER" "Ljava/util/function/BiFunction;" fo) (r_fo : fo.isRef = true) :
  MetH l Z mN23 prog_29_method_6_code 1 (some .int) ({ frames := 5, cells := 5, slots := 30, locals := 77 } : Room) ws #[(.ref a)] h0 (Q_rm_so120 Z a d0 d1 cz fo h0 n0) := by
 refine own_metH (plainFor_of_name own_pn8) ?_
 intro p e s m below meth c s₁ hret hx hby hlk hml hown hnm X0 e0 hZ hh hC0
 have N0 := Fr.nil n0
 have hS : s.Since s.vm h0.size := (State.WarmedH.refl s).since _
 have hk : h0.size ≤ h0.size := Nat.le_refl _
 replace hZ : Z.Warmed39 (s.setVm s.vm).vm := hZ
 have hR : CHr Z consts_1 s.vm h0 s.vm h0 := CHr.refl hC0
 refine Gz (castTop (own_ef_rm_so120 m a)) ?_
 have KP : Keep h0 h0 [] := Keep.refl _ _
 show Goes _ _ _ _ _ (fT s₁ m 0 #[vr a] [])
 refine gA X0 hx hby d23_0 rfl rfl rfl ?_
 obtain ⟨c1, T1, h1, kk1, cb1, kc1, X1, e1, E1, hS, hk1, hZ, hown, A_c1, F_coder_c1, F_value_c1, V_cb1, -, -, hC1, hL1, hsf1, st1⟩ := ldcCH X0 hx hZ hown (gw hw 41 rfl) (own_strW hw) e0 hS hk (own_EW hw) (List.mem_of_getElem? (i := 0) rfl) hR.1 (vs := [(.int 116), (.int 101), (.int 120), (.int 116)]) (z := (4 : Int32)) ⟨by first | decide | rfl, by first | decide | rfl⟩ (by decide) (by decide) (g := (mkF m 1 #[vr a] [(.ref a)])) rfl (hb hby d23_1) (n := 16) (by decide) (by decide) (by decide) (by decide)
 replace T_a := T_a.ext E1
 replace sgC := sgC.ext E1
 replace sgF := sgF.ext E1
 replace KP := KP.ext E1
 replace hR := hR.trans hC1
 replace Z0 : n0 ≤ h1.size := Nat.le_trans Z0 E1.1
 replace hk := hk1
 refine Gs st1 ?_
 show Goes _ _ _ _ _ (fT T1 m 3 #[vr a] [(.ref c1), (.ref a)])
 refine cS X1 hx hZ hw hown hby hml e1 mN15 44 45 47 46 0 (rm_nn l Z a0 hw [] a c1 h1 n0 Z0) d23_3 (lenOf own_pd17 rfl) N0 (fun T2 L2 X2 e2 N2 => ?_)
 show Goes _ _ _ _ _ (fT T2 m 6 #[vr a] [(.ref a)])
 refine Gz (XS.pop X2.here hx rfl (hb hby d23_6) rfl rfl) ?_
 refine gA X2 hx hby d23_7 rfl rfl rfl ?_
 obtain ⟨_, _, ⟨T3, L3, k3, n3⟩, -, X3, hS3, gr3, ⟨Lc3, hQ3, l3, y3, z3, hC3⟩, st3⟩ := callSS X2 hx (y := mN22) hown (gz hZ hw 48 rfl) (gz hZ hw 49 rfl) (gz hZ hw 39 rfl) (gz hZ hw 50 rfl) (by decide) (backOfSH (W := 0) (rm_cs120 l Z a0 hw [] a d0 d1 cz fo h1 n0 Z0 T_a hD_d0 hD_d1 hN8 sgC hcz sgF r_fo) hZ (gw hw 50 rfl) (gw hw 39 rfl) (by decide) (by decide) (own_EW hw) hR.1) (g := (mkF m 8 #[vr a] [(.ref a)])) rfl hml.symm (argsL := [(.ref a)]) (rest := []) (lenOf own_pd18 rfl) rfl (wz rfl) (hb hby d23_8) (fun _ _ => ⟨rfl, e2, (by decide : 2 + 3 ≤ _), (by decide : 20 + 10 ≤ _)⟩)
 dsimp only [Pt.U, Pt.locs, Pt.cells, Pt.slots] at X3 l3 y3 z3 st3 hQ3 hS3 gr3 hC3
 subst l3 y3 z3
 obtain ⟨X3, hS, hZ, hown⟩ := rebS hS hk X3 hS3 (by have q := gr3; rw [e2] at q; exact q) hZ hown
 replace hk : T3.heap.size ≤ T3.heap.size := Nat.le_refl _
 obtain ⟨o3, rfl, N3q, K3, A_o3_3', F_signum_o3_3', g_o3_3', sz_o3_3'⟩ := hQ3
 have N3 := Fr.app N2 N3q
 replace hR := hR.trans hC3
 replace T_a := T_a.keep K3 all0
 replace KP := KP.trans K3 all0
 replace Z0 := Nat.le_trans Z0 K3.1
 have A_o3 := A_o3_3'
 have F_signum_o3 := F_signum_o3_3'
 refine Gs (fun _ tk => st3.trans tk) ?_
 show Goes _ _ _ _ _ (fT T3 m 11 #[vr a] [(.ref o3)])
 refine cV X3 hx hZ hw hown hby hml rfl mN14 118 119 121 120 122 104 0 (rm_sgn l Z a0 hw [] o3 (own_sg (own_allz [d0, d1]) (-1 : Int32)) T3.heap n0 Z0 F_signum_o3) A_o3 d23_11 (lenOf own_pd11 rfl) N3 (fun T4 L4 X4 e4 N4 => ?_)
 show Goes _ _ _ _ _ (fT T4 m 14 #[vr a] [(.int (own_sg (own_allz [d0, d1]) (-1 : Int32)))])
 refine Goes.retH X4 hS e4 hk hZ (own_EW hw) hh hR (some (.int (own_sg (own_allz [d0, d1]) (-1 : Int32)))) (fun h => by rw [hret] at h; cases h) hlk (by decide) (by decide) ?_ (fun fs hr => ?_)
 ·rw [e4]; exact ⟨rfl, N4, KP⟩
 ·exact retI X4 hx hret (hb hby d23_14) hr
theorem own_ef_rm_cs121 (m : MethodId) (x0 : Addr) : entryFrame m #[(.ref x0)] 7 = mkF m 0 #[vr x0, vu, vu, vu, vu, vu, vu] [] := by first | (simp [entryFrame, mkF, argsToLocals, Value.category]; done) | rfl
def Q_rm_cs121 (Z : State) (a : Addr) (d0 : Int32) (d1 : Int32) (f0 : Int32) (cz : Int32) (fo : Value) (h0 : Heap) (n0 : Nat) (v : Option Value) (h : Heap) (L : List Loc) : Prop := ∃ o : Addr, v = some (.ref o) ∧ Fr n0 L ∧ Keep h0 h [] ∧ Exa Z h o "com/example/modest_billing/modestbilling/Money$Shape" ∧ Fld Z h o "com/example/modest_billing/modestbilling/Money$Shape" "signum" "I" (.int (own_sg (own_allz [d0, d1, f0]) (-1 : Int32))) ∧ n0 ≤ o ∧ h0.size ≤ o
theorem rm_cs121 (l : Launch) (Z : State) (a0 : Array Value) (hw : HW a0 Z) (ws : List Jvm.Cond) (a : Addr) (d0 : Int32) (d1 : Int32) (f0 : Int32) (cz : Int32) (fo : Value) (h0 : Heap) (n0 : Nat) (Z0 : n0 ≤ h0.size) (T_a : StrOf Z h0 a [(45 : Int32), d0, d1, (46 : Int32), f0]) (hD_d0 : Dig d0) (hD_d1 : Dig d1) (hD_f0 : Dig f0) (hN8 : ¬ (d0 = 48)) (sgC : Sta Z h0 "java/lang/String" "COMPACT_STRINGS" "Z" (.int cz)) (hcz : ¬ (cz = 0)) (sgF : Sta Z h0 "jdk/internal/util/Preconditions" "SIOOBE_FORMATTER" "Ljava/util/function/BiFunction;" fo) (r_fo : fo.isRef = true) :
  MetH l Z mN22 prog_29_method_8_code 7 (some (.object "com/example/modest_billing/modestbilling/Money$Shape")) ({ frames := 4, cells := 3, slots := 10, locals := 59 } : Room) ws #[(.ref a)] h0 (Q_rm_cs121 Z a d0 d1 f0 cz fo h0 n0) := by
 refine own_metH (plainFor_of_name own_pn8) ?_
 intro p e s m below meth c s₁ hret hx hby hlk hml hown hnm X0 e0 hZ hh hC0
 have N0 := Fr.nil n0
 have hS : s.Since s.vm h0.size := (State.WarmedH.refl s).since _
 have hk : h0.size ≤ h0.size := Nat.le_refl _
 replace hZ : Z.Warmed39 (s.setVm s.vm).vm := hZ
 have hR : CHr Z consts_1 s.vm h0 s.vm h0 := CHr.refl hC0
 refine Gz (castTop (own_ef_rm_cs121 m a)) ?_
 have KP : Keep h0 h0 [] := Keep.refl _ _
 show Goes _ _ _ _ _ (fT s₁ m 0 #[vr a, vu, vu, vu, vu, vu, vu] [])
 refine gA X0 hx hby d22_0 rfl rfl rfl ?_
 obtain ⟨c1, T1, h1, kk1, cb1, kc1, X1, e1, E1, hS, hk1, hZ, hown, A_c1, F_coder_c1, F_value_c1, V_cb1, -, -, hC1, hL1, hsf1, st1⟩ := ldcCH X0 hx hZ hown (gw hw 51 rfl) (own_strW hw) e0 hS hk (own_EW hw) (List.mem_of_getElem? (i := 1) rfl) hR.1 (vs := [(.int 45)]) (z := (1 : Int32)) ⟨by first | decide | rfl, by first | decide | rfl⟩ (by decide) (by decide) (g := (mkF m 1 #[vr a, vu, vu, vu, vu, vu, vu] [(.ref a)])) rfl (hb hby d22_1) (n := 4) (by decide) (by decide) (by decide) (by decide)
 replace T_a := T_a.ext E1
 replace sgC := sgC.ext E1
 replace sgF := sgF.ext E1
 replace KP := KP.ext E1
 replace hR := hR.trans hC1
 replace Z0 : n0 ≤ h1.size := Nat.le_trans Z0 E1.1
 replace hk := hk1
 refine Gs st1 ?_
 show Goes _ _ _ _ _ (fT T1 m 3 #[vr a, vu, vu, vu, vu, vu, vu] [(.ref c1), (.ref a)])
 have T_c1 : StrOf Z h1 c1 [(45 : Int32)] := StrOf.latin A_c1 F_value_c1 F_coder_c1 V_cb1 (by intro c hc; rw [List.mem_singleton.mp hc]; exact own_lat45) rfl rfl (Nat.le_of_ble_eq_true rfl)
 refine cV X1 hx hZ hw hown hby hml e1 mN21 52 53 55 54 56 9 0 (rm_sw11 l Z a0 hw [] a c1 [(45 : Int32), d0, d1, (46 : Int32), f0] cz h1 n0 Z0 T_a T_c1 (own_il 0 _ (by decide) (by simp) T_a.len) rfl sgC hcz) T_a.exa d22_3 (lenOf own_pd14 rfl) N0 (fun T2 L2 X2 e2 N2 => ?_)
 show Goes _ _ _ _ _ (fT T2 m 6 #[vr a, vu, vu, vu, vu, vu, vu] [(.int 1)])
 refine gu X2 hx hby d22_6 ((if0 _ _).trans (feq (by decide : ¬ ((1 : Int32) = (0 : Int32)))).1) ?_
 refine gC X2 hx hby d22_9 ?_
 refine gG X2 hx hby d22_10 10 14 ?_
 refine gs X2 hx hby d22_14 #[vr a, vi 1, vu, vu, vu, vu, vu] ?_
 refine gN X2 hx hby d22_15 rfl rfl ?_
 refine gs X2 hx hby d22_16 #[vr a, vi 1, vi 1, vu, vu, vu, vu] ?_
 show Goes _ _ _ _ _ (fT T2 m 17 #[vr a, vi 1, vi 1, vu, vu, vu, vu] [])
 refine gC X2 hx hby d22_17 ?_
 refine gs X2 hx hby d22_18 #[vr a, vi 1, vi 1, vi 1, vu, vu, vu] ?_
 refine gN X2 hx hby d22_19 rfl rfl ?_
 refine gA X2 hx hby d22_20 rfl rfl rfl ?_
 refine cV X2 hx hZ hw hown hby hml e2 mN2 76 63 65 64 66 9 1 (rs_len l Z a0 hw [] a [(45 : Int32), d0, d1, (46 : Int32), f0] cz h1 n0 Z0 T_a sgC hcz) T_a.exa d22_21 (lenOf own_pd11 rfl) N2 (fun T3 L3 X3 e3 N3 => ?_)
 show Goes _ _ _ _ _ (fT T3 m 24 #[vr a, vi 1, vi 1, vi 1, vu, vu, vu] [(.int 5), (.int 1)])
 refine gU X3 hx hby d22_24 (tlt (by decide : ((1 : Int32) < (5 : Int32)))).2.1 ?_
 refine gA X3 hx hby d22_27 rfl rfl rfl ?_
 refine gN X3 hx hby d22_28 rfl rfl ?_
 refine cV X3 hx hZ hw hown hby hml e3 mN6 77 78 80 79 81 9 0 (rs_chr l Z a0 hw [] a [(45 : Int32), d0, d1, (46 : Int32), f0] (1 : Int32) d0 cz fo h1 n0 Z0 T_a sgC hcz (by first | assumption | decide) (own_il 1 _ (by decide) (by simp) T_a.len) rfl sgF r_fo) T_a.exa d22_29 (lenOf own_pd15 rfl) N3 (fun T4 L4 X4 e4 N4 => ?_)
 show Goes _ _ _ _ _ (fT T4 m 32 #[vr a, vi 1, vi 1, vi 1, vu, vu, vu] [(.int d0)])
 refine cS X4 hx hZ hw hown hby hml e4 mN17 99 100 101 39 0 (rm_isd l Z a0 hw [] d0 h1 n0 Z0 (own_n48 hD_d0).1 (own_n48 hD_d0).2) d22_32 (lenOf own_pd16 rfl) N4 (fun T5 L5 X5 e5 N5 => ?_)
 show Goes _ _ _ _ _ (fT T5 m 35 #[vr a, vi 1, vi 1, vi 1, vu, vu, vu] [(.int 1)])
 refine gu X5 hx hby d22_35 ((if0 _ _).trans (feq (by decide : ¬ ((1 : Int32) = (0 : Int32)))).1) ?_
 refine gN X5 hx hby d22_38 rfl rfl ?_
 refine gA X5 hx hby d22_39 rfl rfl rfl ?_
 refine gN X5 hx hby d22_40 rfl rfl ?_
 refine cV X5 hx hZ hw hown hby hml e5 mN6 77 78 80 79 81 9 1 (rs_chr l Z a0 hw [] a [(45 : Int32), d0, d1, (46 : Int32), f0] (1 : Int32) d0 cz fo h1 n0 Z0 T_a sgC hcz (by first | assumption | decide) (own_il 1 _ (by decide) (by simp) T_a.len) rfl sgF r_fo) T_a.exa d22_41 (lenOf own_pd15 rfl) N5 (fun T6 L6 X6 e6 N6 => ?_)
 show Goes _ _ _ _ _ (fT T6 m 44 #[vr a, vi 1, vi 1, vi 1, vu, vu, vu] [(.int d0), (.int 1)])
 refine gB X6 hx hby d22_44 ?_
 show Goes _ _ _ _ _ (fT T6 m 46 #[vr a, vi 1, vi 1, vi 1, vu, vu, vu] [(.int 48), (.int d0), (.int 1)])
 refine own_join (B := T6.setTop (mkF m 54 #[vr a, vi 1, vi 1, vi 1, vu, vu, vu] [(.int (own_z d0)), (.int 1)])) ?_ ?_
 ·show Goes _ _ _ _ _ (fT T6 m 54 #[vr a, vi 1, vi 1, vi 1, vu, vu, vu] [(.int (own_z d0)), (.int 1)])
  refine Gz (XS.iand X6.here hx rfl (hb hby d22_54) rfl) ?_
  show Goes _ _ _ _ _ (fT T6 m 55 #[vr a, vi 1, vi 1, vi 1, vu, vu, vu] [(.int ((1 : Int32) &&& (own_z d0)))])
  refine gs X6 hx hby d22_55 #[vr a, vi 1, vi 1, vi ((1 : Int32) &&& (own_z d0)), vu, vu, vu] ?_
  show Goes _ _ _ _ _ (fT T6 m 56 #[vr a, vi 1, vi 1, vi ((1 : Int32) &&& (own_z d0)), vu, vu, vu] [])
  refine Gz (XS.iinc X6.here hx rfl (hb hby d22_56) rfl (l' := #[vr a, vi ((1 : Int32) + (1 : Int32)), vi 1, vi ((1 : Int32) &&& (own_z d0)), vu, vu, vu]) rfl) ?_
  show Goes _ _ _ _ _ (fT T6 m 59 #[vr a, vi 2, vi 1, vi ((1 : Int32) &&& (own_z d0)), vu, vu, vu] [])
  refine gG X6 hx hby d22_59 59 19 ?_
  refine gN X6 hx hby d22_19 rfl rfl ?_
  refine gA X6 hx hby d22_20 rfl rfl rfl ?_
  refine cV X6 hx hZ hw hown hby hml e6 mN2 76 63 65 64 66 9 1 (rs_len l Z a0 hw [] a [(45 : Int32), d0, d1, (46 : Int32), f0] cz h1 n0 Z0 T_a sgC hcz) T_a.exa d22_21 (lenOf own_pd11 rfl) N6 (fun T8 L8 X8 e8 N8 => ?_)
  show Goes _ _ _ _ _ (fT T8 m 24 #[vr a, vi 2, vi 1, vi ((1 : Int32) &&& (own_z d0)), vu, vu, vu] [(.int 5), (.int 2)])
  refine gU X8 hx hby d22_24 (tlt (by decide : ((2 : Int32) < (5 : Int32)))).2.1 ?_
  refine gA X8 hx hby d22_27 rfl rfl rfl ?_
  refine gN X8 hx hby d22_28 rfl rfl ?_
  refine cV X8 hx hZ hw hown hby hml e8 mN6 77 78 80 79 81 9 0 (rs_chr l Z a0 hw [] a [(45 : Int32), d0, d1, (46 : Int32), f0] (2 : Int32) d1 cz fo h1 n0 Z0 T_a sgC hcz (by first | assumption | decide) (own_il 2 _ (by decide) (by simp) T_a.len) rfl sgF r_fo) T_a.exa d22_29 (lenOf own_pd15 rfl) N8 (fun T9 L9 X9 e9 N9 => ?_)
  show Goes _ _ _ _ _ (fT T9 m 32 #[vr a, vi 2, vi 1, vi ((1 : Int32) &&& (own_z d0)), vu, vu, vu] [(.int d1)])
  refine cS X9 hx hZ hw hown hby hml e9 mN17 99 100 101 39 0 (rm_isd l Z a0 hw [] d1 h1 n0 Z0 (own_n48 hD_d1).1 (own_n48 hD_d1).2) d22_32 (lenOf own_pd16 rfl) N9 (fun T10 L10 X10 e10 N10 => ?_)
  show Goes _ _ _ _ _ (fT T10 m 35 #[vr a, vi 2, vi 1, vi ((1 : Int32) &&& (own_z d0)), vu, vu, vu] [(.int 1)])
  refine gu X10 hx hby d22_35 ((if0 _ _).trans (feq (by decide : ¬ ((1 : Int32) = (0 : Int32)))).1) ?_
  refine gN X10 hx hby d22_38 rfl rfl ?_
  refine gA X10 hx hby d22_39 rfl rfl rfl ?_
  refine gN X10 hx hby d22_40 rfl rfl ?_
  refine cV X10 hx hZ hw hown hby hml e10 mN6 77 78 80 79 81 9 1 (rs_chr l Z a0 hw [] a [(45 : Int32), d0, d1, (46 : Int32), f0] (2 : Int32) d1 cz fo h1 n0 Z0 T_a sgC hcz (by first | assumption | decide) (own_il 2 _ (by decide) (by simp) T_a.len) rfl sgF r_fo) T_a.exa d22_41 (lenOf own_pd15 rfl) N10 (fun T11 L11 X11 e11 N11 => ?_)
  show Goes _ _ _ _ _ (fT T11 m 44 #[vr a, vi 2, vi 1, vi ((1 : Int32) &&& (own_z d0)), vu, vu, vu] [(.int d1), (.int ((1 : Int32) &&& (own_z d0)))])
  refine gB X11 hx hby d22_44 ?_
  show Goes _ _ _ _ _ (fT T11 m 46 #[vr a, vi 2, vi 1, vi ((1 : Int32) &&& (own_z d0)), vu, vu, vu] [(.int 48), (.int d1), (.int ((1 : Int32) &&& (own_z d0)))])
  refine own_join (B := T11.setTop (mkF m 54 #[vr a, vi 2, vi 1, vi ((1 : Int32) &&& (own_z d0)), vu, vu, vu] [(.int (own_z d1)), (.int ((1 : Int32) &&& (own_z d0)))])) ?_ ?_
  ·show Goes _ _ _ _ _ (fT T11 m 54 #[vr a, vi 2, vi 1, vi ((1 : Int32) &&& (own_z d0)), vu, vu, vu] [(.int (own_z d1)), (.int ((1 : Int32) &&& (own_z d0)))])
   refine Gz (XS.iand X11.here hx rfl (hb hby d22_54) rfl) ?_
   show Goes _ _ _ _ _ (fT T11 m 55 #[vr a, vi 2, vi 1, vi ((1 : Int32) &&& (own_z d0)), vu, vu, vu] [(.int (((1 : Int32) &&& (own_z d0)) &&& (own_z d1)))])
   refine gs X11 hx hby d22_55 #[vr a, vi 2, vi 1, vi (((1 : Int32) &&& (own_z d0)) &&& (own_z d1)), vu, vu, vu] ?_
   show Goes _ _ _ _ _ (fT T11 m 56 #[vr a, vi 2, vi 1, vi (((1 : Int32) &&& (own_z d0)) &&& (own_z d1)), vu, vu, vu] [])
   refine Gz (XS.iinc X11.here hx rfl (hb hby d22_56) rfl (l' := #[vr a, vi ((2 : Int32) + (1 : Int32)), vi 1, vi (((1 : Int32) &&& (own_z d0)) &&& (own_z d1)), vu, vu, vu]) rfl) ?_
   show Goes _ _ _ _ _ (fT T11 m 59 #[vr a, vi 3, vi 1, vi (((1 : Int32) &&& (own_z d0)) &&& (own_z d1)), vu, vu, vu] [])
   refine gG X11 hx hby d22_59 59 19 ?_
   refine gN X11 hx hby d22_19 rfl rfl ?_
   refine gA X11 hx hby d22_20 rfl rfl rfl ?_
   refine cV X11 hx hZ hw hown hby hml e11 mN2 76 63 65 64 66 9 1 (rs_len l Z a0 hw [] a [(45 : Int32), d0, d1, (46 : Int32), f0] cz h1 n0 Z0 T_a sgC hcz) T_a.exa d22_21 (lenOf own_pd11 rfl) N11 (fun T13 L13 X13 e13 N13 => ?_)
   show Goes _ _ _ _ _ (fT T13 m 24 #[vr a, vi 3, vi 1, vi (((1 : Int32) &&& (own_z d0)) &&& (own_z d1)), vu, vu, vu] [(.int 5), (.int 3)])
   refine gU X13 hx hby d22_24 (tlt (by decide : ((3 : Int32) < (5 : Int32)))).2.1 ?_
   refine gA X13 hx hby d22_27 rfl rfl rfl ?_
   refine gN X13 hx hby d22_28 rfl rfl ?_
   refine cV X13 hx hZ hw hown hby hml e13 mN6 77 78 80 79 81 9 0 (rs_chr l Z a0 hw [] a [(45 : Int32), d0, d1, (46 : Int32), f0] (3 : Int32) (46 : Int32) cz fo h1 n0 Z0 T_a sgC hcz (by first | assumption | decide) (own_il 3 _ (by decide) (by simp) T_a.len) rfl sgF r_fo) T_a.exa d22_29 (lenOf own_pd15 rfl) N13 (fun T14 L14 X14 e14 N14 => ?_)
   show Goes _ _ _ _ _ (fT T14 m 32 #[vr a, vi 3, vi 1, vi (((1 : Int32) &&& (own_z d0)) &&& (own_z d1)), vu, vu, vu] [(.int 46)])
   refine cS X14 hx hZ hw hown hby hml e14 mN17 99 100 101 39 0 (rm_isn l Z a0 hw []  h1 n0 Z0) d22_32 (lenOf own_pd16 rfl) N14 (fun T15 L15 X15 e15 N15 => ?_)
   show Goes _ _ _ _ _ (fT T15 m 35 #[vr a, vi 3, vi 1, vi (((1 : Int32) &&& (own_z d0)) &&& (own_z d1)), vu, vu, vu] [(.int 0)])
   refine gy X15 hx hby d22_35 35 62 ((if0 _ _).trans (teq (by decide : ((0 : Int32) = (0 : Int32)))).1) ?_
   refine gN X15 hx hby d22_62 rfl rfl ?_
   refine gN X15 hx hby d22_63 rfl rfl ?_
   show Goes _ _ _ _ _ (fT T15 m 64 #[vr a, vi 3, vi 1, vi (((1 : Int32) &&& (own_z d0)) &&& (own_z d1)), vu, vu, vu] [(.int 1), (.int 3)])
   refine Gz (XS.isub X15.here hx rfl (hb hby d22_64) rfl) ?_
   show Goes _ _ _ _ _ (fT T15 m 65 #[vr a, vi 3, vi 1, vi (((1 : Int32) &&& (own_z d0)) &&& (own_z d1)), vu, vu, vu] [(.int 2)])
   refine gS X15 hx hby d22_65 #[vr a, vi 3, vi 1, vi (((1 : Int32) &&& (own_z d0)) &&& (own_z d1)), vi 2, vu, vu] ?_
   refine gI X15 hx hby d22_67 rfl rfl ?_
   refine gC X15 hx hby d22_69 ?_
   refine gU X15 hx hby d22_70 (feq (by decide : ¬ ((2 : Int32) = (1 : Int32)))).1 ?_
   refine gI X15 hx hby d22_73 rfl rfl ?_
   refine gC X15 hx hby d22_75 ?_
   show Goes _ _ _ _ _ (fT T15 m 76 #[vr a, vi 3, vi 1, vi (((1 : Int32) &&& (own_z d0)) &&& (own_z d1)), vi 2, vu, vu] [(.int 1), (.int 2)])
   refine gU X15 hx hby d22_76 (tlt (by decide : ((1 : Int32) < (2 : Int32)))).2.2.2 ?_
   refine gA X15 hx hby d22_79 rfl rfl rfl ?_
   refine gN X15 hx hby d22_80 rfl rfl ?_
   refine cV X15 hx hZ hw hown hby hml e15 mN6 77 78 80 79 81 9 0 (rs_chr l Z a0 hw [] a [(45 : Int32), d0, d1, (46 : Int32), f0] (1 : Int32) d0 cz fo h1 n0 Z0 T_a sgC hcz (by first | assumption | decide) (own_il 1 _ (by decide) (by simp) T_a.len) rfl sgF r_fo) T_a.exa d22_81 (lenOf own_pd15 rfl) N15 (fun T16 L16 X16 e16 N16 => ?_)
   show Goes _ _ _ _ _ (fT T16 m 84 #[vr a, vi 3, vi 1, vi (((1 : Int32) &&& (own_z d0)) &&& (own_z d1)), vi 2, vu, vu] [(.int d0)])
   refine gB X16 hx hby d22_84 ?_
   refine gU X16 hx hby d22_86 (feq hN8).1 ?_
   refine gC X16 hx hby d22_89 ?_
   refine gG X16 hx hby d22_90 90 94 ?_
   refine gS X16 hx hby d22_94 #[vr a, vi 3, vi 1, vi (((1 : Int32) &&& (own_z d0)) &&& (own_z d1)), vi 2, vi 1, vu] ?_
   refine gC X16 hx hby d22_96 ?_
   show Goes _ _ _ _ _ (fT T16 m 97 #[vr a, vi 3, vi 1, vi (((1 : Int32) &&& (own_z d0)) &&& (own_z d1)), vi 2, vi 1, vu] [(.int 0)])
   refine gS X16 hx hby d22_97 #[vr a, vi 3, vi 1, vi (((1 : Int32) &&& (own_z d0)) &&& (own_z d1)), vi 2, vi 1, vi 0] ?_
   refine gI X16 hx hby d22_99 rfl rfl ?_
   refine gu X16 hx hby d22_101 ((if0 _ _).trans (feq (by decide : ¬ ((1 : Int32) = (0 : Int32)))).1) ?_
   refine gN X16 hx hby d22_104 rfl rfl ?_
   refine gA X16 hx hby d22_105 rfl rfl rfl ?_
   refine cV X16 hx hZ hw hown hby hml e16 mN2 76 63 65 64 66 9 1 (rs_len l Z a0 hw [] a [(45 : Int32), d0, d1, (46 : Int32), f0] cz h1 n0 Z0 T_a sgC hcz) T_a.exa d22_106 (lenOf own_pd11 rfl) N16 (fun T17 L17 X17 e17 N17 => ?_)
   show Goes _ _ _ _ _ (fT T17 m 109 #[vr a, vi 3, vi 1, vi (((1 : Int32) &&& (own_z d0)) &&& (own_z d1)), vi 2, vi 1, vi 0] [(.int 5), (.int 3)])
   refine gU X17 hx hby d22_109 (tlt (by decide : ((3 : Int32) < (5 : Int32)))).2.1 ?_
   refine gA X17 hx hby d22_112 rfl rfl rfl ?_
   refine cV X17 hx hZ hw hown hby hml e17 mN2 76 63 65 64 66 9 0 (rs_len l Z a0 hw [] a [(45 : Int32), d0, d1, (46 : Int32), f0] cz h1 n0 Z0 T_a sgC hcz) T_a.exa d22_113 (lenOf own_pd11 rfl) N17 (fun T18 L18 X18 e18 N18 => ?_)
   show Goes _ _ _ _ _ (fT T18 m 116 #[vr a, vi 3, vi 1, vi (((1 : Int32) &&& (own_z d0)) &&& (own_z d1)), vi 2, vi 1, vi 0] [(.int 5)])
   refine gN X18 hx hby d22_116 rfl rfl ?_
   show Goes _ _ _ _ _ (fT T18 m 117 #[vr a, vi 3, vi 1, vi (((1 : Int32) &&& (own_z d0)) &&& (own_z d1)), vi 2, vi 1, vi 0] [(.int 3), (.int 5)])
   refine Gz (XS.isub X18.here hx rfl (hb hby d22_117) rfl) ?_
   show Goes _ _ _ _ _ (fT T18 m 118 #[vr a, vi 3, vi 1, vi (((1 : Int32) &&& (own_z d0)) &&& (own_z d1)), vi 2, vi 1, vi 0] [(.int 2)])
   refine gC X18 hx hby d22_118 ?_
   show Goes _ _ _ _ _ (fT T18 m 119 #[vr a, vi 3, vi 1, vi (((1 : Int32) &&& (own_z d0)) &&& (own_z d1)), vi 2, vi 1, vi 0] [(.int 1), (.int 2)])
   refine Gz (XS.isub X18.here hx rfl (hb hby d22_119) rfl) ?_
   show Goes _ _ _ _ _ (fT T18 m 120 #[vr a, vi 3, vi 1, vi (((1 : Int32) &&& (own_z d0)) &&& (own_z d1)), vi 2, vi 1, vi 0] [(.int 1)])
   refine gS X18 hx hby d22_120 #[vr a, vi 3, vi 1, vi (((1 : Int32) &&& (own_z d0)) &&& (own_z d1)), vi 2, vi 1, vi 1] ?_
   refine gA X18 hx hby d22_122 rfl rfl rfl ?_
   refine gN X18 hx hby d22_123 rfl rfl ?_
   refine cV X18 hx hZ hw hown hby hml e18 mN6 77 78 80 79 81 9 0 (rs_chr l Z a0 hw [] a [(45 : Int32), d0, d1, (46 : Int32), f0] (3 : Int32) (46 : Int32) cz fo h1 n0 Z0 T_a sgC hcz (by first | assumption | decide) (own_il 3 _ (by decide) (by simp) T_a.len) rfl sgF r_fo) T_a.exa d22_124 (lenOf own_pd15 rfl) N18 (fun T19 L19 X19 e19 N19 => ?_)
   show Goes _ _ _ _ _ (fT T19 m 127 #[vr a, vi 3, vi 1, vi (((1 : Int32) &&& (own_z d0)) &&& (own_z d1)), vi 2, vi 1, vi 1] [(.int 46)])
   refine gB X19 hx hby d22_127 ?_
   refine gU X19 hx hby d22_129 (teq (by decide : ((46 : Int32) = (46 : Int32)))).2 ?_
   refine gI X19 hx hby d22_132 rfl rfl ?_
   refine gu X19 hx hby d22_134 ((if0 _ _).trans (tlt (by decide : ((0 : Int32) < (1 : Int32)))).2.2.2) ?_
   refine gC X19 hx hby d22_137 ?_
   refine gG X19 hx hby d22_138 138 142 ?_
   show Goes _ _ _ _ _ (fT T19 m 142 #[vr a, vi 3, vi 1, vi (((1 : Int32) &&& (own_z d0)) &&& (own_z d1)), vi 2, vi 1, vi 1] [(.int 1)])
   refine gS X19 hx hby d22_142 #[vr a, vi 3, vi 1, vi (((1 : Int32) &&& (own_z d0)) &&& (own_z d1)), vi 2, vi 1, vi 1] ?_
   show Goes _ _ _ _ _ (fT T19 m 144 #[vr a, vi 3, vi 1, vi (((1 : Int32) &&& (own_z d0)) &&& (own_z d1)), vi 2, vi 1, vi 1] [])
   refine Gz (XS.iinc X19.here hx rfl (hb hby d22_144) rfl (l' := #[vr a, vi ((3 : Int32) + (1 : Int32)), vi 1, vi (((1 : Int32) &&& (own_z d0)) &&& (own_z d1)), vi 2, vi 1, vi 1]) rfl) ?_
   show Goes _ _ _ _ _ (fT T19 m 147 #[vr a, vi 4, vi 1, vi (((1 : Int32) &&& (own_z d0)) &&& (own_z d1)), vi 2, vi 1, vi 1] [])
   refine gI X19 hx hby d22_147 rfl rfl ?_
   refine gu X19 hx hby d22_149 ((if0 _ _).trans (feq (by decide : ¬ ((1 : Int32) = (0 : Int32)))).1) ?_
   refine gN X19 hx hby d22_152 rfl rfl ?_
   refine gA X19 hx hby d22_153 rfl rfl rfl ?_
   refine cV X19 hx hZ hw hown hby hml e19 mN2 76 63 65 64 66 9 1 (rs_len l Z a0 hw [] a [(45 : Int32), d0, d1, (46 : Int32), f0] cz h1 n0 Z0 T_a sgC hcz) T_a.exa d22_154 (lenOf own_pd11 rfl) N19 (fun T20 L20 X20 e20 N20 => ?_)
   show Goes _ _ _ _ _ (fT T20 m 157 #[vr a, vi 4, vi 1, vi (((1 : Int32) &&& (own_z d0)) &&& (own_z d1)), vi 2, vi 1, vi 1] [(.int 5), (.int 4)])
   refine gU X20 hx hby d22_157 (tlt (by decide : ((4 : Int32) < (5 : Int32)))).2.1 ?_
   refine gA X20 hx hby d22_160 rfl rfl rfl ?_
   refine gN X20 hx hby d22_161 rfl rfl ?_
   refine cV X20 hx hZ hw hown hby hml e20 mN6 77 78 80 79 81 9 0 (rs_chr l Z a0 hw [] a [(45 : Int32), d0, d1, (46 : Int32), f0] (4 : Int32) f0 cz fo h1 n0 Z0 T_a sgC hcz (by first | assumption | decide) (own_il 4 _ (by decide) (by simp) T_a.len) rfl sgF r_fo) T_a.exa d22_162 (lenOf own_pd15 rfl) N20 (fun T21 L21 X21 e21 N21 => ?_)
   show Goes _ _ _ _ _ (fT T21 m 165 #[vr a, vi 4, vi 1, vi (((1 : Int32) &&& (own_z d0)) &&& (own_z d1)), vi 2, vi 1, vi 1] [(.int f0)])
   refine cS X21 hx hZ hw hown hby hml e21 mN17 99 100 101 39 0 (rm_isd l Z a0 hw [] f0 h1 n0 Z0 (own_n48 hD_f0).1 (own_n48 hD_f0).2) d22_165 (lenOf own_pd16 rfl) N21 (fun T22 L22 X22 e22 N22 => ?_)
   show Goes _ _ _ _ _ (fT T22 m 168 #[vr a, vi 4, vi 1, vi (((1 : Int32) &&& (own_z d0)) &&& (own_z d1)), vi 2, vi 1, vi 1] [(.int 1)])
   refine gS X22 hx hby d22_168 #[vr a, vi 4, vi 1, vi (((1 : Int32) &&& (own_z d0)) &&& (own_z d1)), vi 2, vi 1, vi 1] ?_
   refine gN X22 hx hby d22_170 rfl rfl ?_
   refine gA X22 hx hby d22_171 rfl rfl rfl ?_
   refine gN X22 hx hby d22_172 rfl rfl ?_
   refine cV X22 hx hZ hw hown hby hml e22 mN6 77 78 80 79 81 9 1 (rs_chr l Z a0 hw [] a [(45 : Int32), d0, d1, (46 : Int32), f0] (4 : Int32) f0 cz fo h1 n0 Z0 T_a sgC hcz (by first | assumption | decide) (own_il 4 _ (by decide) (by simp) T_a.len) rfl sgF r_fo) T_a.exa d22_173 (lenOf own_pd15 rfl) N22 (fun T23 L23 X23 e23 N23 => ?_)
   show Goes _ _ _ _ _ (fT T23 m 176 #[vr a, vi 4, vi 1, vi (((1 : Int32) &&& (own_z d0)) &&& (own_z d1)), vi 2, vi 1, vi 1] [(.int f0), (.int (((1 : Int32) &&& (own_z d0)) &&& (own_z d1)))])
   refine gB X23 hx hby d22_176 ?_
   show Goes _ _ _ _ _ (fT T23 m 178 #[vr a, vi 4, vi 1, vi (((1 : Int32) &&& (own_z d0)) &&& (own_z d1)), vi 2, vi 1, vi 1] [(.int 48), (.int f0), (.int (((1 : Int32) &&& (own_z d0)) &&& (own_z d1)))])
   refine own_join (B := T23.setTop (mkF m 186 #[vr a, vi 4, vi 1, vi (((1 : Int32) &&& (own_z d0)) &&& (own_z d1)), vi 2, vi 1, vi 1] [(.int (own_z f0)), (.int (((1 : Int32) &&& (own_z d0)) &&& (own_z d1)))])) ?_ ?_
   ·show Goes _ _ _ _ _ (fT T23 m 186 #[vr a, vi 4, vi 1, vi (((1 : Int32) &&& (own_z d0)) &&& (own_z d1)), vi 2, vi 1, vi 1] [(.int (own_z f0)), (.int (((1 : Int32) &&& (own_z d0)) &&& (own_z d1)))])
    refine Gz (XS.iand X23.here hx rfl (hb hby d22_186) rfl) ?_
    show Goes _ _ _ _ _ (fT T23 m 187 #[vr a, vi 4, vi 1, vi (((1 : Int32) &&& (own_z d0)) &&& (own_z d1)), vi 2, vi 1, vi 1] [(.int ((((1 : Int32) &&& (own_z d0)) &&& (own_z d1)) &&& (own_z f0)))])
    refine gs X23 hx hby d22_187 #[vr a, vi 4, vi 1, vi ((((1 : Int32) &&& (own_z d0)) &&& (own_z d1)) &&& (own_z f0)), vi 2, vi 1, vi 1] ?_
    show Goes _ _ _ _ _ (fT T23 m 188 #[vr a, vi 4, vi 1, vi ((((1 : Int32) &&& (own_z d0)) &&& (own_z d1)) &&& (own_z f0)), vi 2, vi 1, vi 1] [])
    refine Gz (XS.iinc X23.here hx rfl (hb hby d22_188) rfl (l' := #[vr a, vi ((4 : Int32) + (1 : Int32)), vi 1, vi ((((1 : Int32) &&& (own_z d0)) &&& (own_z d1)) &&& (own_z f0)), vi 2, vi 1, vi 1]) rfl) ?_
    show Goes _ _ _ _ _ (fT T23 m 191 #[vr a, vi 5, vi 1, vi ((((1 : Int32) &&& (own_z d0)) &&& (own_z d1)) &&& (own_z f0)), vi 2, vi 1, vi 1] [])
    refine gG X23 hx hby d22_191 191 147 ?_
    refine gI X23 hx hby d22_147 rfl rfl ?_
    refine gu X23 hx hby d22_149 ((if0 _ _).trans (feq (by decide : ¬ ((1 : Int32) = (0 : Int32)))).1) ?_
    refine gN X23 hx hby d22_152 rfl rfl ?_
    refine gA X23 hx hby d22_153 rfl rfl rfl ?_
    refine cV X23 hx hZ hw hown hby hml e23 mN2 76 63 65 64 66 9 1 (rs_len l Z a0 hw [] a [(45 : Int32), d0, d1, (46 : Int32), f0] cz h1 n0 Z0 T_a sgC hcz) T_a.exa d22_154 (lenOf own_pd11 rfl) N23 (fun T25 L25 X25 e25 N25 => ?_)
    show Goes _ _ _ _ _ (fT T25 m 157 #[vr a, vi 5, vi 1, vi ((((1 : Int32) &&& (own_z d0)) &&& (own_z d1)) &&& (own_z f0)), vi 2, vi 1, vi 1] [(.int 5), (.int 5)])
    refine gY X25 hx hby d22_157 157 194 (flt (by decide : ¬ ((5 : Int32) < (5 : Int32)))).2.1 ?_
    refine gI X25 hx hby d22_194 rfl rfl ?_
    refine gy X25 hx hby d22_196 196 213 ((if0 _ _).trans (feq (by decide : ¬ ((1 : Int32) = (0 : Int32)))).2) ?_
    obtain ⟨T26, h26, X26, e26, E26, A26, D26, -, st26⟩ := newO X25 hx hZ hown (gw hw 102 rfl) (gw hw 103 rfl) (gw hw 104 rfl) e25 (g := (mkF m 213 #[vr a, vi 5, vi 1, vi ((((1 : Int32) &&& (own_z d0)) &&& (own_z d1)) &&& (own_z f0)), vi 2, vi 1, vi 1] [])) rfl (hb hby d22_213) (by decide) (by decide)
    obtain ⟨b26, gq26⟩ : ∃ z, z = h1.size := ⟨_, rfl⟩
    rw [← gq26] at A26 st26 D26
    have g_b26 : n0 ≤ b26 := by rw [gq26]; exact Z0
    have sz_b26 : h0.size ≤ b26 := by rw [gq26]; exact KP.1
    have ne_a_b26 : a ≠ b26 := by rw [gq26]; exact Nat.ne_of_lt T_a.lt
    have ne_c1_b26 : c1 ≠ b26 := by rw [gq26]; exact Nat.ne_of_lt A_c1.lt
    have ne_cb1_b26 : cb1 ≠ b26 := by rw [gq26]; exact Nat.ne_of_lt V_cb1.lt
    have Sf_b26 : Safe Z consts_1 T1.vm h1 b26 := Safe.new (Nat.le_of_eq gq26.symm)
    replace Sf_b26 := Safe.ext E26 hR.1 Sf_b26
    replace hR := hR.trans (CHr.ext E26 hR.1)
    replace T_a := T_a.ext E26
    replace T_c1 := T_c1.ext E26
    replace KP := KP.ext E26
    replace Z0 : n0 ≤ h26.size := Nat.le_trans Z0 E26.1
    replace hk := Nat.le_trans hk E26.1
    have A_b26 : Exa Z h26 b26 "com/example/modest_billing/modestbilling/Money$Shape" := A26
    have F_signum_b26 : Fld Z h26 b26 "com/example/modest_billing/modestbilling/Money$Shape" "signum" "I" (.int 0) := D26 (Or.inr (gw hw 115 rfl)) (ty := .int) (by decide)
    have F_fractionDigits_b26 : Fld Z h26 b26 "com/example/modest_billing/modestbilling/Money$Shape" "fractionDigits" "I" (.int 0) := D26 (Or.inr (gw hw 117 rfl)) (ty := .int) (by decide)
    refine Gs st26 ?_
    show Goes _ _ _ _ _ (fT T26 m 216 #[vr a, vi 5, vi 1, vi ((((1 : Int32) &&& (own_z d0)) &&& (own_z d1)) &&& (own_z f0)), vi 2, vi 1, vi 1] [(.ref b26)])
    refine Gz (XS.dup X26.here hx rfl (hb hby d22_216) rfl rfl) ?_
    refine gN X26 hx hby d22_217 rfl rfl ?_
    show Goes _ _ _ _ _ (fT T26 m 218 #[vr a, vi 5, vi 1, vi ((((1 : Int32) &&& (own_z d0)) &&& (own_z d1)) &&& (own_z f0)), vi 2, vi 1, vi 1] [(.int ((((1 : Int32) &&& (own_z d0)) &&& (own_z d1)) &&& (own_z f0))), (.ref b26), (.ref b26)])
    refine own_join (B := T26.setTop (mkF m 234 #[vr a, vi 5, vi 1, vi ((((1 : Int32) &&& (own_z d0)) &&& (own_z d1)) &&& (own_z f0)), vi 2, vi 1, vi 1] [(.int (own_sg (own_allz [d0, d1, f0]) (-1 : Int32))), (.ref b26), (.ref b26)])) ?_ ?_
    ·show Goes _ _ _ _ _ (fT T26 m 234 #[vr a, vi 5, vi 1, vi ((((1 : Int32) &&& (own_z d0)) &&& (own_z d1)) &&& (own_z f0)), vi 2, vi 1, vi 1] [(.int (own_sg (own_allz [d0, d1, f0]) (-1 : Int32))), (.ref b26), (.ref b26)])
     refine gI X26 hx hby d22_234 rfl rfl ?_
     obtain ⟨_, _, ⟨T28, L28, k28, n28⟩, -, X28, ⟨Lc28, hQ28, l28, y28, z28⟩, st28⟩ := own_specialRef X26 hx hZ (y := mN13) rfl hown (gw hw 105 rfl) (gw hw 106 rfl) (gw hw 107 rfl) (by decide) (backOf (W := 1) (rm_shi l Z a0 hw [] b26 (own_sg (own_allz [d0, d1, f0]) (-1 : Int32)) (1 : Int32) h26 n0 Z0 A_b26 F_signum_b26 F_fractionDigits_b26 g_b26) hZ (gw hw 107 rfl) (gw hw 104 rfl) (by decide) (by decide)) (g := (mkF m 236 #[vr a, vi 5, vi 1, vi ((((1 : Int32) &&& (own_z d0)) &&& (own_z d1)) &&& (own_z f0)), vi 2, vi 1, vi 1] [(.int 1), (.int (own_sg (own_allz [d0, d1, f0]) (-1 : Int32))), (.ref b26), (.ref b26)])) rfl hml.symm (Steps.refl _) (a := b26) (argsL := [(.int (own_sg (own_allz [d0, d1, f0]) (-1 : Int32))), (.int 1)]) (rest := [(.ref b26)]) (lenOf own_pd2 rfl) rfl (wz rfl) (hb hby d22_236) (fun _ _ => ⟨rfl, e26, (by decide : 3 + 0 ≤ _), (by decide : 10 + 0 ≤ _)⟩)
     dsimp only [Pt.U, Pt.locs, Pt.cells, Pt.slots] at X28 l28 y28 z28 st28 hQ28
     subst l28 y28 z28
     obtain ⟨rfl, N28q, K28, F_signum_b26_28'⟩ := hQ28
     have N28 := Fr.app N25 N28q
     replace hR := hR.trans (CHr.keep K28 (allS Sf_b26 all0) hR.1)
     replace T_a := T_a.keep K28 (allS ⟨(Ne.symm ne_a_b26), (own_nbE A_b26 (gw hw 103 rfl))⟩ all0)
     replace T_c1 := T_c1.keep K28 (allS ⟨(Ne.symm ne_c1_b26), (own_nbE A_b26 (gw hw 103 rfl))⟩ all0)
     replace A_b26 := A_b26.keep K28
     replace KP := KP.trans K28 (allS (Or.inr sz_b26) all0)
     replace Z0 := Nat.le_trans Z0 K28.1
     replace hk := Nat.le_trans hk K28.1
     have F_signum_b26 := F_signum_b26_28'
     refine Gs (fun _ tk => st28.trans tk) ?_
     show Goes _ _ _ _ _ (fT T28 m 239 #[vr a, vi 5, vi 1, vi ((((1 : Int32) &&& (own_z d0)) &&& (own_z d1)) &&& (own_z f0)), vi 2, vi 1, vi 1] [(.ref b26)])
     refine Goes.retH X28 hS rfl hk hZ (own_EW hw) hh hR (some (.ref b26)) (fun h => by rw [hret] at h; cases h) hlk (by decide) (by decide) ?_ (fun fs hr => ?_)
     ·exact ⟨b26, rfl, N28, KP, A_b26, F_signum_b26, g_b26, sz_b26⟩
     ·exact own_retA X28 hx hret rfl rfl (hb hby d22_239) hr
    intro J234_27
    by_cases hc218_29 : ((((1 : Int32) &&& (own_z d0)) &&& (own_z d1)) &&& (own_z f0)) = 0
    ·refine gy X26 hx hby d22_218 218 225 ((if0 _ _).trans (teq hc218_29).1) ?_
     refine gN X26 hx hby d22_225 rfl rfl ?_
     refine gy X26 hx hby d22_226 226 233 ((if0 _ _).trans (feq (by decide : ¬ ((1 : Int32) = (0 : Int32)))).2) ?_
     refine gC X26 hx hby d22_233 ?_
     rw [show (own_sg (own_allz [d0, d1, f0]) (-1 : Int32)) = (-1 : Int32) from by rw [← own_F3, own_sg, if_pos hc218_29]] at J234_27
     exact J234_27
    ·refine gu X26 hx hby d22_218 ((if0 _ _).trans (feq hc218_29).1) ?_
     refine gC X26 hx hby d22_221 ?_
     refine gG X26 hx hby d22_222 222 234 ?_
     rw [show (own_sg (own_allz [d0, d1, f0]) (-1 : Int32)) = 0 from by rw [← own_F3, own_sg, if_neg hc218_29]] at J234_27
     exact J234_27
   intro J186_24
   by_cases hc178_30 : f0 = 48
   ·refine gU X23 hx hby d22_178 (teq hc178_30).2 ?_
    refine gC X23 hx hby d22_181 ?_
    refine gG X23 hx hby d22_182 182 186 ?_
    rw [show (own_z f0) = 1 from by rw [own_z, if_pos hc178_30]] at J186_24
    exact J186_24
   ·refine gY X23 hx hby d22_178 178 185 (feq hc178_30).2 ?_
    refine gC X23 hx hby d22_185 ?_
    rw [show (own_z f0) = 0 from by rw [own_z, if_neg hc178_30]] at J186_24
    exact J186_24
  intro J54_12
  by_cases hc46_31 : d1 = 48
  ·refine gU X11 hx hby d22_46 (teq hc46_31).2 ?_
   refine gC X11 hx hby d22_49 ?_
   refine gG X11 hx hby d22_50 50 54 ?_
   rw [show (own_z d1) = 1 from by rw [own_z, if_pos hc46_31]] at J54_12
   exact J54_12
  ·refine gY X11 hx hby d22_46 46 53 (feq hc46_31).2 ?_
   refine gC X11 hx hby d22_53 ?_
   rw [show (own_z d1) = 0 from by rw [own_z, if_neg hc46_31]] at J54_12
   exact J54_12
 intro J54_7
 refine gY X6 hx hby d22_46 46 53 (feq hN8).2 ?_
 refine gC X6 hx hby d22_53 ?_
 rw [show (own_z d0) = 0 from by rw [own_z, if_neg hN8]] at J54_7
 exact J54_7
theorem own_ef_rm_so121 (m : MethodId) (x0 : Addr) : entryFrame m #[(.ref x0)] 1 = mkF m 0 #[vr x0] [] := by first | (simp [entryFrame, mkF, argsToLocals, Value.category]; done) | rfl
def Q_rm_so121 (Z : State) (a : Addr) (d0 : Int32) (d1 : Int32) (f0 : Int32) (cz : Int32) (fo : Value) (h0 : Heap) (n0 : Nat) (v : Option Value) (h : Heap) (L : List Loc) : Prop := v = some (.int (own_sg (own_allz [d0, d1, f0]) (-1 : Int32))) ∧ Fr n0 L ∧ Keep h0 h []
theorem rm_so121 (l : Launch) (Z : State) (a0 : Array Value) (hw : HW a0 Z) (ws : List Jvm.Cond) (a : Addr) (d0 : Int32) (d1 : Int32) (f0 : Int32) (cz : Int32) (fo : Value) (h0 : Heap) (n0 : Nat) (Z0 : n0 ≤ h0.size) (T_a : StrOf Z h0 a [(45 : Int32), d0, d1, (46 : Int32), f0]) (hD_d0 : Dig d0) (hD_d1 : Dig d1) (hD_f0 : Dig f0) (hN8 : ¬ (d0 = 48)) (sgC : Sta Z h0 "java/lang/String" "COMPACT_STRINGS" "Z" (.int cz)) (hcz : ¬ (cz = 0)) (sgF : Sta Z h0 "jdk/internal/util/Preconditions" "SIOOBE_FORMATTER" "Ljava/util/function/BiFunction;" fo) (r_fo : fo.isRef = true) :
  MetH l Z mN23 prog_29_method_6_code 1 (some .int) ({ frames := 5, cells := 5, slots := 30, locals := 77 } : Room) ws #[(.ref a)] h0 (Q_rm_so121 Z a d0 d1 f0 cz fo h0 n0) := by
 refine own_metH (plainFor_of_name own_pn8) ?_
 intro p e s m below meth c s₁ hret hx hby hlk hml hown hnm X0 e0 hZ hh hC0
 have N0 := Fr.nil n0
 have hS : s.Since s.vm h0.size := (State.WarmedH.refl s).since _
 have hk : h0.size ≤ h0.size := Nat.le_refl _
 replace hZ : Z.Warmed39 (s.setVm s.vm).vm := hZ
 have hR : CHr Z consts_1 s.vm h0 s.vm h0 := CHr.refl hC0
 refine Gz (castTop (own_ef_rm_so121 m a)) ?_
 have KP : Keep h0 h0 [] := Keep.refl _ _
 show Goes _ _ _ _ _ (fT s₁ m 0 #[vr a] [])
 refine gA X0 hx hby d23_0 rfl rfl rfl ?_
 obtain ⟨c1, T1, h1, kk1, cb1, kc1, X1, e1, E1, hS, hk1, hZ, hown, A_c1, F_coder_c1, F_value_c1, V_cb1, -, -, hC1, hL1, hsf1, st1⟩ := ldcCH X0 hx hZ hown (gw hw 41 rfl) (own_strW hw) e0 hS hk (own_EW hw) (List.mem_of_getElem? (i := 0) rfl) hR.1 (vs := [(.int 116), (.int 101), (.int 120), (.int 116)]) (z := (4 : Int32)) ⟨by first | decide | rfl, by first | decide | rfl⟩ (by decide) (by decide) (g := (mkF m 1 #[vr a] [(.ref a)])) rfl (hb hby d23_1) (n := 16) (by decide) (by decide) (by decide) (by decide)
 replace T_a := T_a.ext E1
 replace sgC := sgC.ext E1
 replace sgF := sgF.ext E1
 replace KP := KP.ext E1
 replace hR := hR.trans hC1
 replace Z0 : n0 ≤ h1.size := Nat.le_trans Z0 E1.1
 replace hk := hk1
 refine Gs st1 ?_
 show Goes _ _ _ _ _ (fT T1 m 3 #[vr a] [(.ref c1), (.ref a)])
 refine cS X1 hx hZ hw hown hby hml e1 mN15 44 45 47 46 0 (rm_nn l Z a0 hw [] a c1 h1 n0 Z0) d23_3 (lenOf own_pd17 rfl) N0 (fun T2 L2 X2 e2 N2 => ?_)
 show Goes _ _ _ _ _ (fT T2 m 6 #[vr a] [(.ref a)])
 refine Gz (XS.pop X2.here hx rfl (hb hby d23_6) rfl rfl) ?_
 refine gA X2 hx hby d23_7 rfl rfl rfl ?_
 obtain ⟨_, _, ⟨T3, L3, k3, n3⟩, -, X3, hS3, gr3, ⟨Lc3, hQ3, l3, y3, z3, hC3⟩, st3⟩ := callSS X2 hx (y := mN22) hown (gz hZ hw 48 rfl) (gz hZ hw 49 rfl) (gz hZ hw 39 rfl) (gz hZ hw 50 rfl) (by decide) (backOfSH (W := 0) (rm_cs121 l Z a0 hw [] a d0 d1 f0 cz fo h1 n0 Z0 T_a hD_d0 hD_d1 hD_f0 hN8 sgC hcz sgF r_fo) hZ (gw hw 50 rfl) (gw hw 39 rfl) (by decide) (by decide) (own_EW hw) hR.1) (g := (mkF m 8 #[vr a] [(.ref a)])) rfl hml.symm (argsL := [(.ref a)]) (rest := []) (lenOf own_pd18 rfl) rfl (wz rfl) (hb hby d23_8) (fun _ _ => ⟨rfl, e2, (by decide : 2 + 3 ≤ _), (by decide : 20 + 10 ≤ _)⟩)
 dsimp only [Pt.U, Pt.locs, Pt.cells, Pt.slots] at X3 l3 y3 z3 st3 hQ3 hS3 gr3 hC3
 subst l3 y3 z3
 obtain ⟨X3, hS, hZ, hown⟩ := rebS hS hk X3 hS3 (by have q := gr3; rw [e2] at q; exact q) hZ hown
 replace hk : T3.heap.size ≤ T3.heap.size := Nat.le_refl _
 obtain ⟨o3, rfl, N3q, K3, A_o3_3', F_signum_o3_3', g_o3_3', sz_o3_3'⟩ := hQ3
 have N3 := Fr.app N2 N3q
 replace hR := hR.trans hC3
 replace T_a := T_a.keep K3 all0
 replace KP := KP.trans K3 all0
 replace Z0 := Nat.le_trans Z0 K3.1
 have A_o3 := A_o3_3'
 have F_signum_o3 := F_signum_o3_3'
 refine Gs (fun _ tk => st3.trans tk) ?_
 show Goes _ _ _ _ _ (fT T3 m 11 #[vr a] [(.ref o3)])
 refine cV X3 hx hZ hw hown hby hml rfl mN14 118 119 121 120 122 104 0 (rm_sgn l Z a0 hw [] o3 (own_sg (own_allz [d0, d1, f0]) (-1 : Int32)) T3.heap n0 Z0 F_signum_o3) A_o3 d23_11 (lenOf own_pd11 rfl) N3 (fun T4 L4 X4 e4 N4 => ?_)
 show Goes _ _ _ _ _ (fT T4 m 14 #[vr a] [(.int (own_sg (own_allz [d0, d1, f0]) (-1 : Int32)))])
 refine Goes.retH X4 hS e4 hk hZ (own_EW hw) hh hR (some (.int (own_sg (own_allz [d0, d1, f0]) (-1 : Int32)))) (fun h => by rw [hret] at h; cases h) hlk (by decide) (by decide) ?_ (fun fs hr => ?_)
 ·rw [e4]; exact ⟨rfl, N4, KP⟩
 ·exact retI X4 hx hret (hb hby d23_14) hr
theorem own_ef_rm_cs122 (m : MethodId) (x0 : Addr) : entryFrame m #[(.ref x0)] 7 = mkF m 0 #[vr x0, vu, vu, vu, vu, vu, vu] [] := by first | (simp [entryFrame, mkF, argsToLocals, Value.category]; done) | rfl
def Q_rm_cs122 (Z : State) (a : Addr) (d0 : Int32) (d1 : Int32) (f0 : Int32) (f1 : Int32) (cz : Int32) (fo : Value) (h0 : Heap) (n0 : Nat) (v : Option Value) (h : Heap) (L : List Loc) : Prop := ∃ o : Addr, v = some (.ref o) ∧ Fr n0 L ∧ Keep h0 h [] ∧ Exa Z h o "com/example/modest_billing/modestbilling/Money$Shape" ∧ Fld Z h o "com/example/modest_billing/modestbilling/Money$Shape" "signum" "I" (.int (own_sg (own_allz [d0, d1, f0, f1]) (-1 : Int32))) ∧ n0 ≤ o ∧ h0.size ≤ o
theorem rm_cs122 (l : Launch) (Z : State) (a0 : Array Value) (hw : HW a0 Z) (ws : List Jvm.Cond) (a : Addr) (d0 : Int32) (d1 : Int32) (f0 : Int32) (f1 : Int32) (cz : Int32) (fo : Value) (h0 : Heap) (n0 : Nat) (Z0 : n0 ≤ h0.size) (T_a : StrOf Z h0 a [(45 : Int32), d0, d1, (46 : Int32), f0, f1]) (hD_d0 : Dig d0) (hD_d1 : Dig d1) (hD_f0 : Dig f0) (hD_f1 : Dig f1) (hN8 : ¬ (d0 = 48)) (sgC : Sta Z h0 "java/lang/String" "COMPACT_STRINGS" "Z" (.int cz)) (hcz : ¬ (cz = 0)) (sgF : Sta Z h0 "jdk/internal/util/Preconditions" "SIOOBE_FORMATTER" "Ljava/util/function/BiFunction;" fo) (r_fo : fo.isRef = true) :
  MetH l Z mN22 prog_29_method_8_code 7 (some (.object "com/example/modest_billing/modestbilling/Money$Shape")) ({ frames := 4, cells := 3, slots := 10, locals := 59 } : Room) ws #[(.ref a)] h0 (Q_rm_cs122 Z a d0 d1 f0 f1 cz fo h0 n0) := by
 refine own_metH (plainFor_of_name own_pn8) ?_
 intro p e s m below meth c s₁ hret hx hby hlk hml hown hnm X0 e0 hZ hh hC0
 have N0 := Fr.nil n0
 have hS : s.Since s.vm h0.size := (State.WarmedH.refl s).since _
 have hk : h0.size ≤ h0.size := Nat.le_refl _
 replace hZ : Z.Warmed39 (s.setVm s.vm).vm := hZ
 have hR : CHr Z consts_1 s.vm h0 s.vm h0 := CHr.refl hC0
 refine Gz (castTop (own_ef_rm_cs122 m a)) ?_
 have KP : Keep h0 h0 [] := Keep.refl _ _
 show Goes _ _ _ _ _ (fT s₁ m 0 #[vr a, vu, vu, vu, vu, vu, vu] [])
 refine gA X0 hx hby d22_0 rfl rfl rfl ?_
 obtain ⟨c1, T1, h1, kk1, cb1, kc1, X1, e1, E1, hS, hk1, hZ, hown, A_c1, F_coder_c1, F_value_c1, V_cb1, -, -, hC1, hL1, hsf1, st1⟩ := ldcCH X0 hx hZ hown (gw hw 51 rfl) (own_strW hw) e0 hS hk (own_EW hw) (List.mem_of_getElem? (i := 1) rfl) hR.1 (vs := [(.int 45)]) (z := (1 : Int32)) ⟨by first | decide | rfl, by first | decide | rfl⟩ (by decide) (by decide) (g := (mkF m 1 #[vr a, vu, vu, vu, vu, vu, vu] [(.ref a)])) rfl (hb hby d22_1) (n := 4) (by decide) (by decide) (by decide) (by decide)
 replace T_a := T_a.ext E1
 replace sgC := sgC.ext E1
 replace sgF := sgF.ext E1
 replace KP := KP.ext E1
 replace hR := hR.trans hC1
 replace Z0 : n0 ≤ h1.size := Nat.le_trans Z0 E1.1
 replace hk := hk1
 refine Gs st1 ?_
 show Goes _ _ _ _ _ (fT T1 m 3 #[vr a, vu, vu, vu, vu, vu, vu] [(.ref c1), (.ref a)])
 have T_c1 : StrOf Z h1 c1 [(45 : Int32)] := StrOf.latin A_c1 F_value_c1 F_coder_c1 V_cb1 (by intro c hc; rw [List.mem_singleton.mp hc]; exact own_lat45) rfl rfl (Nat.le_of_ble_eq_true rfl)
 refine cV X1 hx hZ hw hown hby hml e1 mN21 52 53 55 54 56 9 0 (rm_sw11 l Z a0 hw [] a c1 [(45 : Int32), d0, d1, (46 : Int32), f0, f1] cz h1 n0 Z0 T_a T_c1 (own_il 0 _ (by decide) (by simp) T_a.len) rfl sgC hcz) T_a.exa d22_3 (lenOf own_pd14 rfl) N0 (fun T2 L2 X2 e2 N2 => ?_)
 show Goes _ _ _ _ _ (fT T2 m 6 #[vr a, vu, vu, vu, vu, vu, vu] [(.int 1)])
 refine gu X2 hx hby d22_6 ((if0 _ _).trans (feq (by decide : ¬ ((1 : Int32) = (0 : Int32)))).1) ?_
 refine gC X2 hx hby d22_9 ?_
 refine gG X2 hx hby d22_10 10 14 ?_
 refine gs X2 hx hby d22_14 #[vr a, vi 1, vu, vu, vu, vu, vu] ?_
 refine gN X2 hx hby d22_15 rfl rfl ?_
 refine gs X2 hx hby d22_16 #[vr a, vi 1, vi 1, vu, vu, vu, vu] ?_
 show Goes _ _ _ _ _ (fT T2 m 17 #[vr a, vi 1, vi 1, vu, vu, vu, vu] [])
 refine gC X2 hx hby d22_17 ?_
 refine gs X2 hx hby d22_18 #[vr a, vi 1, vi 1, vi 1, vu, vu, vu] ?_
 refine gN X2 hx hby d22_19 rfl rfl ?_
 refine gA X2 hx hby d22_20 rfl rfl rfl ?_
 refine cV X2 hx hZ hw hown hby hml e2 mN2 76 63 65 64 66 9 1 (rs_len l Z a0 hw [] a [(45 : Int32), d0, d1, (46 : Int32), f0, f1] cz h1 n0 Z0 T_a sgC hcz) T_a.exa d22_21 (lenOf own_pd11 rfl) N2 (fun T3 L3 X3 e3 N3 => ?_)
 show Goes _ _ _ _ _ (fT T3 m 24 #[vr a, vi 1, vi 1, vi 1, vu, vu, vu] [(.int 6), (.int 1)])
 refine gU X3 hx hby d22_24 (tlt (by decide : ((1 : Int32) < (6 : Int32)))).2.1 ?_
 refine gA X3 hx hby d22_27 rfl rfl rfl ?_
 refine gN X3 hx hby d22_28 rfl rfl ?_
 refine cV X3 hx hZ hw hown hby hml e3 mN6 77 78 80 79 81 9 0 (rs_chr l Z a0 hw [] a [(45 : Int32), d0, d1, (46 : Int32), f0, f1] (1 : Int32) d0 cz fo h1 n0 Z0 T_a sgC hcz (by first | assumption | decide) (own_il 1 _ (by decide) (by simp) T_a.len) rfl sgF r_fo) T_a.exa d22_29 (lenOf own_pd15 rfl) N3 (fun T4 L4 X4 e4 N4 => ?_)
 show Goes _ _ _ _ _ (fT T4 m 32 #[vr a, vi 1, vi 1, vi 1, vu, vu, vu] [(.int d0)])
 refine cS X4 hx hZ hw hown hby hml e4 mN17 99 100 101 39 0 (rm_isd l Z a0 hw [] d0 h1 n0 Z0 (own_n48 hD_d0).1 (own_n48 hD_d0).2) d22_32 (lenOf own_pd16 rfl) N4 (fun T5 L5 X5 e5 N5 => ?_)
 show Goes _ _ _ _ _ (fT T5 m 35 #[vr a, vi 1, vi 1, vi 1, vu, vu, vu] [(.int 1)])
 refine gu X5 hx hby d22_35 ((if0 _ _).trans (feq (by decide : ¬ ((1 : Int32) = (0 : Int32)))).1) ?_
 refine gN X5 hx hby d22_38 rfl rfl ?_
 refine gA X5 hx hby d22_39 rfl rfl rfl ?_
 refine gN X5 hx hby d22_40 rfl rfl ?_
 refine cV X5 hx hZ hw hown hby hml e5 mN6 77 78 80 79 81 9 1 (rs_chr l Z a0 hw [] a [(45 : Int32), d0, d1, (46 : Int32), f0, f1] (1 : Int32) d0 cz fo h1 n0 Z0 T_a sgC hcz (by first | assumption | decide) (own_il 1 _ (by decide) (by simp) T_a.len) rfl sgF r_fo) T_a.exa d22_41 (lenOf own_pd15 rfl) N5 (fun T6 L6 X6 e6 N6 => ?_)
 show Goes _ _ _ _ _ (fT T6 m 44 #[vr a, vi 1, vi 1, vi 1, vu, vu, vu] [(.int d0), (.int 1)])
 refine gB X6 hx hby d22_44 ?_
 show Goes _ _ _ _ _ (fT T6 m 46 #[vr a, vi 1, vi 1, vi 1, vu, vu, vu] [(.int 48), (.int d0), (.int 1)])
 refine own_join (B := T6.setTop (mkF m 54 #[vr a, vi 1, vi 1, vi 1, vu, vu, vu] [(.int (own_z d0)), (.int 1)])) ?_ ?_
 ·show Goes _ _ _ _ _ (fT T6 m 54 #[vr a, vi 1, vi 1, vi 1, vu, vu, vu] [(.int (own_z d0)), (.int 1)])
  refine Gz (XS.iand X6.here hx rfl (hb hby d22_54) rfl) ?_
  show Goes _ _ _ _ _ (fT T6 m 55 #[vr a, vi 1, vi 1, vi 1, vu, vu, vu] [(.int ((1 : Int32) &&& (own_z d0)))])
  refine gs X6 hx hby d22_55 #[vr a, vi 1, vi 1, vi ((1 : Int32) &&& (own_z d0)), vu, vu, vu] ?_
  show Goes _ _ _ _ _ (fT T6 m 56 #[vr a, vi 1, vi 1, vi ((1 : Int32) &&& (own_z d0)), vu, vu, vu] [])
  refine Gz (XS.iinc X6.here hx rfl (hb hby d22_56) rfl (l' := #[vr a, vi ((1 : Int32) + (1 : Int32)), vi 1, vi ((1 : Int32) &&& (own_z d0)), vu, vu, vu]) rfl) ?_
  show Goes _ _ _ _ _ (fT T6 m 59 #[vr a, vi 2, vi 1, vi ((1 : Int32) &&& (own_z d0)), vu, vu, vu] [])
  refine gG X6 hx hby d22_59 59 19 ?_
  refine gN X6 hx hby d22_19 rfl rfl ?_
  refine gA X6 hx hby d22_20 rfl rfl rfl ?_
  refine cV X6 hx hZ hw hown hby hml e6 mN2 76 63 65 64 66 9 1 (rs_len l Z a0 hw [] a [(45 : Int32), d0, d1, (46 : Int32), f0, f1] cz h1 n0 Z0 T_a sgC hcz) T_a.exa d22_21 (lenOf own_pd11 rfl) N6 (fun T8 L8 X8 e8 N8 => ?_)
  show Goes _ _ _ _ _ (fT T8 m 24 #[vr a, vi 2, vi 1, vi ((1 : Int32) &&& (own_z d0)), vu, vu, vu] [(.int 6), (.int 2)])
  refine gU X8 hx hby d22_24 (tlt (by decide : ((2 : Int32) < (6 : Int32)))).2.1 ?_
  refine gA X8 hx hby d22_27 rfl rfl rfl ?_
  refine gN X8 hx hby d22_28 rfl rfl ?_
  refine cV X8 hx hZ hw hown hby hml e8 mN6 77 78 80 79 81 9 0 (rs_chr l Z a0 hw [] a [(45 : Int32), d0, d1, (46 : Int32), f0, f1] (2 : Int32) d1 cz fo h1 n0 Z0 T_a sgC hcz (by first | assumption | decide) (own_il 2 _ (by decide) (by simp) T_a.len) rfl sgF r_fo) T_a.exa d22_29 (lenOf own_pd15 rfl) N8 (fun T9 L9 X9 e9 N9 => ?_)
  show Goes _ _ _ _ _ (fT T9 m 32 #[vr a, vi 2, vi 1, vi ((1 : Int32) &&& (own_z d0)), vu, vu, vu] [(.int d1)])
  refine cS X9 hx hZ hw hown hby hml e9 mN17 99 100 101 39 0 (rm_isd l Z a0 hw [] d1 h1 n0 Z0 (own_n48 hD_d1).1 (own_n48 hD_d1).2) d22_32 (lenOf own_pd16 rfl) N9 (fun T10 L10 X10 e10 N10 => ?_)
  show Goes _ _ _ _ _ (fT T10 m 35 #[vr a, vi 2, vi 1, vi ((1 : Int32) &&& (own_z d0)), vu, vu, vu] [(.int 1)])
  refine gu X10 hx hby d22_35 ((if0 _ _).trans (feq (by decide : ¬ ((1 : Int32) = (0 : Int32)))).1) ?_
  refine gN X10 hx hby d22_38 rfl rfl ?_
  refine gA X10 hx hby d22_39 rfl rfl rfl ?_
  refine gN X10 hx hby d22_40 rfl rfl ?_
  refine cV X10 hx hZ hw hown hby hml e10 mN6 77 78 80 79 81 9 1 (rs_chr l Z a0 hw [] a [(45 : Int32), d0, d1, (46 : Int32), f0, f1] (2 : Int32) d1 cz fo h1 n0 Z0 T_a sgC hcz (by first | assumption | decide) (own_il 2 _ (by decide) (by simp) T_a.len) rfl sgF r_fo) T_a.exa d22_41 (lenOf own_pd15 rfl) N10 (fun T11 L11 X11 e11 N11 => ?_)
  show Goes _ _ _ _ _ (fT T11 m 44 #[vr a, vi 2, vi 1, vi ((1 : Int32) &&& (own_z d0)), vu, vu, vu] [(.int d1), (.int ((1 : Int32) &&& (own_z d0)))])
  refine gB X11 hx hby d22_44 ?_
  show Goes _ _ _ _ _ (fT T11 m 46 #[vr a, vi 2, vi 1, vi ((1 : Int32) &&& (own_z d0)), vu, vu, vu] [(.int 48), (.int d1), (.int ((1 : Int32) &&& (own_z d0)))])
  refine own_join (B := T11.setTop (mkF m 54 #[vr a, vi 2, vi 1, vi ((1 : Int32) &&& (own_z d0)), vu, vu, vu] [(.int (own_z d1)), (.int ((1 : Int32) &&& (own_z d0)))])) ?_ ?_
  ·show Goes _ _ _ _ _ (fT T11 m 54 #[vr a, vi 2, vi 1, vi ((1 : Int32) &&& (own_z d0)), vu, vu, vu] [(.int (own_z d1)), (.int ((1 : Int32) &&& (own_z d0)))])
   refine Gz (XS.iand X11.here hx rfl (hb hby d22_54) rfl) ?_
   show Goes _ _ _ _ _ (fT T11 m 55 #[vr a, vi 2, vi 1, vi ((1 : Int32) &&& (own_z d0)), vu, vu, vu] [(.int (((1 : Int32) &&& (own_z d0)) &&& (own_z d1)))])
   refine gs X11 hx hby d22_55 #[vr a, vi 2, vi 1, vi (((1 : Int32) &&& (own_z d0)) &&& (own_z d1)), vu, vu, vu] ?_
   show Goes _ _ _ _ _ (fT T11 m 56 #[vr a, vi 2, vi 1, vi (((1 : Int32) &&& (own_z d0)) &&& (own_z d1)), vu, vu, vu] [])
   refine Gz (XS.iinc X11.here hx rfl (hb hby d22_56) rfl (l' := #[vr a, vi ((2 : Int32) + (1 : Int32)), vi 1, vi (((1 : Int32) &&& (own_z d0)) &&& (own_z d1)), vu, vu, vu]) rfl) ?_
   show Goes _ _ _ _ _ (fT T11 m 59 #[vr a, vi 3, vi 1, vi (((1 : Int32) &&& (own_z d0)) &&& (own_z d1)), vu, vu, vu] [])
   refine gG X11 hx hby d22_59 59 19 ?_
   refine gN X11 hx hby d22_19 rfl rfl ?_
   refine gA X11 hx hby d22_20 rfl rfl rfl ?_
   refine cV X11 hx hZ hw hown hby hml e11 mN2 76 63 65 64 66 9 1 (rs_len l Z a0 hw [] a [(45 : Int32), d0, d1, (46 : Int32), f0, f1] cz h1 n0 Z0 T_a sgC hcz) T_a.exa d22_21 (lenOf own_pd11 rfl) N11 (fun T13 L13 X13 e13 N13 => ?_)
   show Goes _ _ _ _ _ (fT T13 m 24 #[vr a, vi 3, vi 1, vi (((1 : Int32) &&& (own_z d0)) &&& (own_z d1)), vu, vu, vu] [(.int 6), (.int 3)])
   refine gU X13 hx hby d22_24 (tlt (by decide : ((3 : Int32) < (6 : Int32)))).2.1 ?_
   refine gA X13 hx hby d22_27 rfl rfl rfl ?_
   refine gN X13 hx hby d22_28 rfl rfl ?_
   refine cV X13 hx hZ hw hown hby hml e13 mN6 77 78 80 79 81 9 0 (rs_chr l Z a0 hw [] a [(45 : Int32), d0, d1, (46 : Int32), f0, f1] (3 : Int32) (46 : Int32) cz fo h1 n0 Z0 T_a sgC hcz (by first | assumption | decide) (own_il 3 _ (by decide) (by simp) T_a.len) rfl sgF r_fo) T_a.exa d22_29 (lenOf own_pd15 rfl) N13 (fun T14 L14 X14 e14 N14 => ?_)
   show Goes _ _ _ _ _ (fT T14 m 32 #[vr a, vi 3, vi 1, vi (((1 : Int32) &&& (own_z d0)) &&& (own_z d1)), vu, vu, vu] [(.int 46)])
   refine cS X14 hx hZ hw hown hby hml e14 mN17 99 100 101 39 0 (rm_isn l Z a0 hw []  h1 n0 Z0) d22_32 (lenOf own_pd16 rfl) N14 (fun T15 L15 X15 e15 N15 => ?_)
   show Goes _ _ _ _ _ (fT T15 m 35 #[vr a, vi 3, vi 1, vi (((1 : Int32) &&& (own_z d0)) &&& (own_z d1)), vu, vu, vu] [(.int 0)])
   refine gy X15 hx hby d22_35 35 62 ((if0 _ _).trans (teq (by decide : ((0 : Int32) = (0 : Int32)))).1) ?_
   refine gN X15 hx hby d22_62 rfl rfl ?_
   refine gN X15 hx hby d22_63 rfl rfl ?_
   show Goes _ _ _ _ _ (fT T15 m 64 #[vr a, vi 3, vi 1, vi (((1 : Int32) &&& (own_z d0)) &&& (own_z d1)), vu, vu, vu] [(.int 1), (.int 3)])
   refine Gz (XS.isub X15.here hx rfl (hb hby d22_64) rfl) ?_
   show Goes _ _ _ _ _ (fT T15 m 65 #[vr a, vi 3, vi 1, vi (((1 : Int32) &&& (own_z d0)) &&& (own_z d1)), vu, vu, vu] [(.int 2)])
   refine gS X15 hx hby d22_65 #[vr a, vi 3, vi 1, vi (((1 : Int32) &&& (own_z d0)) &&& (own_z d1)), vi 2, vu, vu] ?_
   refine gI X15 hx hby d22_67 rfl rfl ?_
   refine gC X15 hx hby d22_69 ?_
   refine gU X15 hx hby d22_70 (feq (by decide : ¬ ((2 : Int32) = (1 : Int32)))).1 ?_
   refine gI X15 hx hby d22_73 rfl rfl ?_
   refine gC X15 hx hby d22_75 ?_
   show Goes _ _ _ _ _ (fT T15 m 76 #[vr a, vi 3, vi 1, vi (((1 : Int32) &&& (own_z d0)) &&& (own_z d1)), vi 2, vu, vu] [(.int 1), (.int 2)])
   refine gU X15 hx hby d22_76 (tlt (by decide : ((1 : Int32) < (2 : Int32)))).2.2.2 ?_
   refine gA X15 hx hby d22_79 rfl rfl rfl ?_
   refine gN X15 hx hby d22_80 rfl rfl ?_
   refine cV X15 hx hZ hw hown hby hml e15 mN6 77 78 80 79 81 9 0 (rs_chr l Z a0 hw [] a [(45 : Int32), d0, d1, (46 : Int32), f0, f1] (1 : Int32) d0 cz fo h1 n0 Z0 T_a sgC hcz (by first | assumption | decide) (own_il 1 _ (by decide) (by simp) T_a.len) rfl sgF r_fo) T_a.exa d22_81 (lenOf own_pd15 rfl) N15 (fun T16 L16 X16 e16 N16 => ?_)
   show Goes _ _ _ _ _ (fT T16 m 84 #[vr a, vi 3, vi 1, vi (((1 : Int32) &&& (own_z d0)) &&& (own_z d1)), vi 2, vu, vu] [(.int d0)])
   refine gB X16 hx hby d22_84 ?_
   refine gU X16 hx hby d22_86 (feq hN8).1 ?_
   refine gC X16 hx hby d22_89 ?_
   refine gG X16 hx hby d22_90 90 94 ?_
   refine gS X16 hx hby d22_94 #[vr a, vi 3, vi 1, vi (((1 : Int32) &&& (own_z d0)) &&& (own_z d1)), vi 2, vi 1, vu] ?_
   refine gC X16 hx hby d22_96 ?_
   show Goes _ _ _ _ _ (fT T16 m 97 #[vr a, vi 3, vi 1, vi (((1 : Int32) &&& (own_z d0)) &&& (own_z d1)), vi 2, vi 1, vu] [(.int 0)])
   refine gS X16 hx hby d22_97 #[vr a, vi 3, vi 1, vi (((1 : Int32) &&& (own_z d0)) &&& (own_z d1)), vi 2, vi 1, vi 0] ?_
   refine gI X16 hx hby d22_99 rfl rfl ?_
   refine gu X16 hx hby d22_101 ((if0 _ _).trans (feq (by decide : ¬ ((1 : Int32) = (0 : Int32)))).1) ?_
   refine gN X16 hx hby d22_104 rfl rfl ?_
   refine gA X16 hx hby d22_105 rfl rfl rfl ?_
   refine cV X16 hx hZ hw hown hby hml e16 mN2 76 63 65 64 66 9 1 (rs_len l Z a0 hw [] a [(45 : Int32), d0, d1, (46 : Int32), f0, f1] cz h1 n0 Z0 T_a sgC hcz) T_a.exa d22_106 (lenOf own_pd11 rfl) N16 (fun T17 L17 X17 e17 N17 => ?_)
   show Goes _ _ _ _ _ (fT T17 m 109 #[vr a, vi 3, vi 1, vi (((1 : Int32) &&& (own_z d0)) &&& (own_z d1)), vi 2, vi 1, vi 0] [(.int 6), (.int 3)])
   refine gU X17 hx hby d22_109 (tlt (by decide : ((3 : Int32) < (6 : Int32)))).2.1 ?_
   refine gA X17 hx hby d22_112 rfl rfl rfl ?_
   refine cV X17 hx hZ hw hown hby hml e17 mN2 76 63 65 64 66 9 0 (rs_len l Z a0 hw [] a [(45 : Int32), d0, d1, (46 : Int32), f0, f1] cz h1 n0 Z0 T_a sgC hcz) T_a.exa d22_113 (lenOf own_pd11 rfl) N17 (fun T18 L18 X18 e18 N18 => ?_)
   show Goes _ _ _ _ _ (fT T18 m 116 #[vr a, vi 3, vi 1, vi (((1 : Int32) &&& (own_z d0)) &&& (own_z d1)), vi 2, vi 1, vi 0] [(.int 6)])
   refine gN X18 hx hby d22_116 rfl rfl ?_
   show Goes _ _ _ _ _ (fT T18 m 117 #[vr a, vi 3, vi 1, vi (((1 : Int32) &&& (own_z d0)) &&& (own_z d1)), vi 2, vi 1, vi 0] [(.int 3), (.int 6)])
   refine Gz (XS.isub X18.here hx rfl (hb hby d22_117) rfl) ?_
   show Goes _ _ _ _ _ (fT T18 m 118 #[vr a, vi 3, vi 1, vi (((1 : Int32) &&& (own_z d0)) &&& (own_z d1)), vi 2, vi 1, vi 0] [(.int 3)])
   refine gC X18 hx hby d22_118 ?_
   show Goes _ _ _ _ _ (fT T18 m 119 #[vr a, vi 3, vi 1, vi (((1 : Int32) &&& (own_z d0)) &&& (own_z d1)), vi 2, vi 1, vi 0] [(.int 1), (.int 3)])
   refine Gz (XS.isub X18.here hx rfl (hb hby d22_119) rfl) ?_
   show Goes _ _ _ _ _ (fT T18 m 120 #[vr a, vi 3, vi 1, vi (((1 : Int32) &&& (own_z d0)) &&& (own_z d1)), vi 2, vi 1, vi 0] [(.int 2)])
   refine gS X18 hx hby d22_120 #[vr a, vi 3, vi 1, vi (((1 : Int32) &&& (own_z d0)) &&& (own_z d1)), vi 2, vi 1, vi 2] ?_
   refine gA X18 hx hby d22_122 rfl rfl rfl ?_
   refine gN X18 hx hby d22_123 rfl rfl ?_
   refine cV X18 hx hZ hw hown hby hml e18 mN6 77 78 80 79 81 9 0 (rs_chr l Z a0 hw [] a [(45 : Int32), d0, d1, (46 : Int32), f0, f1] (3 : Int32) (46 : Int32) cz fo h1 n0 Z0 T_a sgC hcz (by first | assumption | decide) (own_il 3 _ (by decide) (by simp) T_a.len) rfl sgF r_fo) T_a.exa d22_124 (lenOf own_pd15 rfl) N18 (fun T19 L19 X19 e19 N19 => ?_)
   show Goes _ _ _ _ _ (fT T19 m 127 #[vr a, vi 3, vi 1, vi (((1 : Int32) &&& (own_z d0)) &&& (own_z d1)), vi 2, vi 1, vi 2] [(.int 46)])
   refine gB X19 hx hby d22_127 ?_
   refine gU X19 hx hby d22_129 (teq (by decide : ((46 : Int32) = (46 : Int32)))).2 ?_
   refine gI X19 hx hby d22_132 rfl rfl ?_
   refine gu X19 hx hby d22_134 ((if0 _ _).trans (tlt (by decide : ((0 : Int32) < (2 : Int32)))).2.2.2) ?_
   refine gC X19 hx hby d22_137 ?_
   refine gG X19 hx hby d22_138 138 142 ?_
   show Goes _ _ _ _ _ (fT T19 m 142 #[vr a, vi 3, vi 1, vi (((1 : Int32) &&& (own_z d0)) &&& (own_z d1)), vi 2, vi 1, vi 2] [(.int 1)])
   refine gS X19 hx hby d22_142 #[vr a, vi 3, vi 1, vi (((1 : Int32) &&& (own_z d0)) &&& (own_z d1)), vi 2, vi 1, vi 2] ?_
   show Goes _ _ _ _ _ (fT T19 m 144 #[vr a, vi 3, vi 1, vi (((1 : Int32) &&& (own_z d0)) &&& (own_z d1)), vi 2, vi 1, vi 2] [])
   refine Gz (XS.iinc X19.here hx rfl (hb hby d22_144) rfl (l' := #[vr a, vi ((3 : Int32) + (1 : Int32)), vi 1, vi (((1 : Int32) &&& (own_z d0)) &&& (own_z d1)), vi 2, vi 1, vi 2]) rfl) ?_
   show Goes _ _ _ _ _ (fT T19 m 147 #[vr a, vi 4, vi 1, vi (((1 : Int32) &&& (own_z d0)) &&& (own_z d1)), vi 2, vi 1, vi 2] [])
   refine gI X19 hx hby d22_147 rfl rfl ?_
   refine gu X19 hx hby d22_149 ((if0 _ _).trans (feq (by decide : ¬ ((1 : Int32) = (0 : Int32)))).1) ?_
   refine gN X19 hx hby d22_152 rfl rfl ?_
   refine gA X19 hx hby d22_153 rfl rfl rfl ?_
   refine cV X19 hx hZ hw hown hby hml e19 mN2 76 63 65 64 66 9 1 (rs_len l Z a0 hw [] a [(45 : Int32), d0, d1, (46 : Int32), f0, f1] cz h1 n0 Z0 T_a sgC hcz) T_a.exa d22_154 (lenOf own_pd11 rfl) N19 (fun T20 L20 X20 e20 N20 => ?_)
   show Goes _ _ _ _ _ (fT T20 m 157 #[vr a, vi 4, vi 1, vi (((1 : Int32) &&& (own_z d0)) &&& (own_z d1)), vi 2, vi 1, vi 2] [(.int 6), (.int 4)])
   refine gU X20 hx hby d22_157 (tlt (by decide : ((4 : Int32) < (6 : Int32)))).2.1 ?_
   refine gA X20 hx hby d22_160 rfl rfl rfl ?_
   refine gN X20 hx hby d22_161 rfl rfl ?_
   refine cV X20 hx hZ hw hown hby hml e20 mN6 77 78 80 79 81 9 0 (rs_chr l Z a0 hw [] a [(45 : Int32), d0, d1, (46 : Int32), f0, f1] (4 : Int32) f0 cz fo h1 n0 Z0 T_a sgC hcz (by first | assumption | decide) (own_il 4 _ (by decide) (by simp) T_a.len) rfl sgF r_fo) T_a.exa d22_162 (lenOf own_pd15 rfl) N20 (fun T21 L21 X21 e21 N21 => ?_)
   show Goes _ _ _ _ _ (fT T21 m 165 #[vr a, vi 4, vi 1, vi (((1 : Int32) &&& (own_z d0)) &&& (own_z d1)), vi 2, vi 1, vi 2] [(.int f0)])
   refine cS X21 hx hZ hw hown hby hml e21 mN17 99 100 101 39 0 (rm_isd l Z a0 hw [] f0 h1 n0 Z0 (own_n48 hD_f0).1 (own_n48 hD_f0).2) d22_165 (lenOf own_pd16 rfl) N21 (fun T22 L22 X22 e22 N22 => ?_)
   show Goes _ _ _ _ _ (fT T22 m 168 #[vr a, vi 4, vi 1, vi (((1 : Int32) &&& (own_z d0)) &&& (own_z d1)), vi 2, vi 1, vi 2] [(.int 1)])
   refine gS X22 hx hby d22_168 #[vr a, vi 4, vi 1, vi (((1 : Int32) &&& (own_z d0)) &&& (own_z d1)), vi 2, vi 1, vi 2] ?_
   refine gN X22 hx hby d22_170 rfl rfl ?_
   refine gA X22 hx hby d22_171 rfl rfl rfl ?_
   refine gN X22 hx hby d22_172 rfl rfl ?_
   refine cV X22 hx hZ hw hown hby hml e22 mN6 77 78 80 79 81 9 1 (rs_chr l Z a0 hw [] a [(45 : Int32), d0, d1, (46 : Int32), f0, f1] (4 : Int32) f0 cz fo h1 n0 Z0 T_a sgC hcz (by first | assumption | decide) (own_il 4 _ (by decide) (by simp) T_a.len) rfl sgF r_fo) T_a.exa d22_173 (lenOf own_pd15 rfl) N22 (fun T23 L23 X23 e23 N23 => ?_)
   show Goes _ _ _ _ _ (fT T23 m 176 #[vr a, vi 4, vi 1, vi (((1 : Int32) &&& (own_z d0)) &&& (own_z d1)), vi 2, vi 1, vi 2] [(.int f0), (.int (((1 : Int32) &&& (own_z d0)) &&& (own_z d1)))])
   refine gB X23 hx hby d22_176 ?_
   show Goes _ _ _ _ _ (fT T23 m 178 #[vr a, vi 4, vi 1, vi (((1 : Int32) &&& (own_z d0)) &&& (own_z d1)), vi 2, vi 1, vi 2] [(.int 48), (.int f0), (.int (((1 : Int32) &&& (own_z d0)) &&& (own_z d1)))])
   refine own_join (B := T23.setTop (mkF m 186 #[vr a, vi 4, vi 1, vi (((1 : Int32) &&& (own_z d0)) &&& (own_z d1)), vi 2, vi 1, vi 2] [(.int (own_z f0)), (.int (((1 : Int32) &&& (own_z d0)) &&& (own_z d1)))])) ?_ ?_
   ·show Goes _ _ _ _ _ (fT T23 m 186 #[vr a, vi 4, vi 1, vi (((1 : Int32) &&& (own_z d0)) &&& (own_z d1)), vi 2, vi 1, vi 2] [(.int (own_z f0)), (.int (((1 : Int32) &&& (own_z d0)) &&& (own_z d1)))])
    refine Gz (XS.iand X23.here hx rfl (hb hby d22_186) rfl) ?_
    show Goes _ _ _ _ _ (fT T23 m 187 #[vr a, vi 4, vi 1, vi (((1 : Int32) &&& (own_z d0)) &&& (own_z d1)), vi 2, vi 1, vi 2] [(.int ((((1 : Int32) &&& (own_z d0)) &&& (own_z d1)) &&& (own_z f0)))])
    refine gs X23 hx hby d22_187 #[vr a, vi 4, vi 1, vi ((((1 : Int32) &&& (own_z d0)) &&& (own_z d1)) &&& (own_z f0)), vi 2, vi 1, vi 2] ?_
    show Goes _ _ _ _ _ (fT T23 m 188 #[vr a, vi 4, vi 1, vi ((((1 : Int32) &&& (own_z d0)) &&& (own_z d1)) &&& (own_z f0)), vi 2, vi 1, vi 2] [])
    refine Gz (XS.iinc X23.here hx rfl (hb hby d22_188) rfl (l' := #[vr a, vi ((4 : Int32) + (1 : Int32)), vi 1, vi ((((1 : Int32) &&& (own_z d0)) &&& (own_z d1)) &&& (own_z f0)), vi 2, vi 1, vi 2]) rfl) ?_
    show Goes _ _ _ _ _ (fT T23 m 191 #[vr a, vi 5, vi 1, vi ((((1 : Int32) &&& (own_z d0)) &&& (own_z d1)) &&& (own_z f0)), vi 2, vi 1, vi 2] [])
    refine gG X23 hx hby d22_191 191 147 ?_
    refine gI X23 hx hby d22_147 rfl rfl ?_
    refine gu X23 hx hby d22_149 ((if0 _ _).trans (feq (by decide : ¬ ((1 : Int32) = (0 : Int32)))).1) ?_
    refine gN X23 hx hby d22_152 rfl rfl ?_
    refine gA X23 hx hby d22_153 rfl rfl rfl ?_
    refine cV X23 hx hZ hw hown hby hml e23 mN2 76 63 65 64 66 9 1 (rs_len l Z a0 hw [] a [(45 : Int32), d0, d1, (46 : Int32), f0, f1] cz h1 n0 Z0 T_a sgC hcz) T_a.exa d22_154 (lenOf own_pd11 rfl) N23 (fun T25 L25 X25 e25 N25 => ?_)
    show Goes _ _ _ _ _ (fT T25 m 157 #[vr a, vi 5, vi 1, vi ((((1 : Int32) &&& (own_z d0)) &&& (own_z d1)) &&& (own_z f0)), vi 2, vi 1, vi 2] [(.int 6), (.int 5)])
    refine gU X25 hx hby d22_157 (tlt (by decide : ((5 : Int32) < (6 : Int32)))).2.1 ?_
    refine gA X25 hx hby d22_160 rfl rfl rfl ?_
    refine gN X25 hx hby d22_161 rfl rfl ?_
    refine cV X25 hx hZ hw hown hby hml e25 mN6 77 78 80 79 81 9 0 (rs_chr l Z a0 hw [] a [(45 : Int32), d0, d1, (46 : Int32), f0, f1] (5 : Int32) f1 cz fo h1 n0 Z0 T_a sgC hcz (by first | assumption | decide) (own_il 5 _ (by decide) (by simp) T_a.len) rfl sgF r_fo) T_a.exa d22_162 (lenOf own_pd15 rfl) N25 (fun T26 L26 X26 e26 N26 => ?_)
    show Goes _ _ _ _ _ (fT T26 m 165 #[vr a, vi 5, vi 1, vi ((((1 : Int32) &&& (own_z d0)) &&& (own_z d1)) &&& (own_z f0)), vi 2, vi 1, vi 2] [(.int f1)])
    refine cS X26 hx hZ hw hown hby hml e26 mN17 99 100 101 39 0 (rm_isd l Z a0 hw [] f1 h1 n0 Z0 (own_n48 hD_f1).1 (own_n48 hD_f1).2) d22_165 (lenOf own_pd16 rfl) N26 (fun T27 L27 X27 e27 N27 => ?_)
    show Goes _ _ _ _ _ (fT T27 m 168 #[vr a, vi 5, vi 1, vi ((((1 : Int32) &&& (own_z d0)) &&& (own_z d1)) &&& (own_z f0)), vi 2, vi 1, vi 2] [(.int 1)])
    refine gS X27 hx hby d22_168 #[vr a, vi 5, vi 1, vi ((((1 : Int32) &&& (own_z d0)) &&& (own_z d1)) &&& (own_z f0)), vi 2, vi 1, vi 2] ?_
    refine gN X27 hx hby d22_170 rfl rfl ?_
    refine gA X27 hx hby d22_171 rfl rfl rfl ?_
    refine gN X27 hx hby d22_172 rfl rfl ?_
    refine cV X27 hx hZ hw hown hby hml e27 mN6 77 78 80 79 81 9 1 (rs_chr l Z a0 hw [] a [(45 : Int32), d0, d1, (46 : Int32), f0, f1] (5 : Int32) f1 cz fo h1 n0 Z0 T_a sgC hcz (by first | assumption | decide) (own_il 5 _ (by decide) (by simp) T_a.len) rfl sgF r_fo) T_a.exa d22_173 (lenOf own_pd15 rfl) N27 (fun T28 L28 X28 e28 N28 => ?_)
    show Goes _ _ _ _ _ (fT T28 m 176 #[vr a, vi 5, vi 1, vi ((((1 : Int32) &&& (own_z d0)) &&& (own_z d1)) &&& (own_z f0)), vi 2, vi 1, vi 2] [(.int f1), (.int ((((1 : Int32) &&& (own_z d0)) &&& (own_z d1)) &&& (own_z f0)))])
    refine gB X28 hx hby d22_176 ?_
    show Goes _ _ _ _ _ (fT T28 m 178 #[vr a, vi 5, vi 1, vi ((((1 : Int32) &&& (own_z d0)) &&& (own_z d1)) &&& (own_z f0)), vi 2, vi 1, vi 2] [(.int 48), (.int f1), (.int ((((1 : Int32) &&& (own_z d0)) &&& (own_z d1)) &&& (own_z f0)))])
    refine own_join (B := T28.setTop (mkF m 186 #[vr a, vi 5, vi 1, vi ((((1 : Int32) &&& (own_z d0)) &&& (own_z d1)) &&& (own_z f0)), vi 2, vi 1, vi 2] [(.int (own_z f1)), (.int ((((1 : Int32) &&& (own_z d0)) &&& (own_z d1)) &&& (own_z f0)))])) ?_ ?_
    ·show Goes _ _ _ _ _ (fT T28 m 186 #[vr a, vi 5, vi 1, vi ((((1 : Int32) &&& (own_z d0)) &&& (own_z d1)) &&& (own_z f0)), vi 2, vi 1, vi 2] [(.int (own_z f1)), (.int ((((1 : Int32) &&& (own_z d0)) &&& (own_z d1)) &&& (own_z f0)))])
     refine Gz (XS.iand X28.here hx rfl (hb hby d22_186) rfl) ?_
     show Goes _ _ _ _ _ (fT T28 m 187 #[vr a, vi 5, vi 1, vi ((((1 : Int32) &&& (own_z d0)) &&& (own_z d1)) &&& (own_z f0)), vi 2, vi 1, vi 2] [(.int (((((1 : Int32) &&& (own_z d0)) &&& (own_z d1)) &&& (own_z f0)) &&& (own_z f1)))])
     refine gs X28 hx hby d22_187 #[vr a, vi 5, vi 1, .val (.int (((((1 : Int32) &&& (own_z d0)) &&& (own_z d1)) &&& (own_z f0)) &&& (own_z f1))), vi 2, vi 1, vi 2] ?_
     show Goes _ _ _ _ _ (fT T28 m 188 #[vr a, vi 5, vi 1, .val (.int (((((1 : Int32) &&& (own_z d0)) &&& (own_z d1)) &&& (own_z f0)) &&& (own_z f1))), vi 2, vi 1, vi 2] [])
     refine Gz (XS.iinc X28.here hx rfl (hb hby d22_188) rfl (l' := #[vr a, vi ((5 : Int32) + (1 : Int32)), vi 1, .val (.int (((((1 : Int32) &&& (own_z d0)) &&& (own_z d1)) &&& (own_z f0)) &&& (own_z f1))), vi 2, vi 1, vi 2]) rfl) ?_
     show Goes _ _ _ _ _ (fT T28 m 191 #[vr a, vi 6, vi 1, .val (.int (((((1 : Int32) &&& (own_z d0)) &&& (own_z d1)) &&& (own_z f0)) &&& (own_z f1))), vi 2, vi 1, vi 2] [])
     refine gG X28 hx hby d22_191 191 147 ?_
     refine gI X28 hx hby d22_147 rfl rfl ?_
     refine gu X28 hx hby d22_149 ((if0 _ _).trans (feq (by decide : ¬ ((1 : Int32) = (0 : Int32)))).1) ?_
     refine gN X28 hx hby d22_152 rfl rfl ?_
     refine gA X28 hx hby d22_153 rfl rfl rfl ?_
     refine cV X28 hx hZ hw hown hby hml e28 mN2 76 63 65 64 66 9 1 (rs_len l Z a0 hw [] a [(45 : Int32), d0, d1, (46 : Int32), f0, f1] cz h1 n0 Z0 T_a sgC hcz) T_a.exa d22_154 (lenOf own_pd11 rfl) N28 (fun T30 L30 X30 e30 N30 => ?_)
     show Goes _ _ _ _ _ (fT T30 m 157 #[vr a, vi 6, vi 1, .val (.int (((((1 : Int32) &&& (own_z d0)) &&& (own_z d1)) &&& (own_z f0)) &&& (own_z f1))), vi 2, vi 1, vi 2] [(.int 6), (.int 6)])
     refine gY X30 hx hby d22_157 157 194 (flt (by decide : ¬ ((6 : Int32) < (6 : Int32)))).2.1 ?_
     refine gI X30 hx hby d22_194 rfl rfl ?_
     refine gy X30 hx hby d22_196 196 213 ((if0 _ _).trans (feq (by decide : ¬ ((1 : Int32) = (0 : Int32)))).2) ?_
     obtain ⟨T31, h31, X31, e31, E31, A31, D31, -, st31⟩ := newO X30 hx hZ hown (gw hw 102 rfl) (gw hw 103 rfl) (gw hw 104 rfl) e30 (g := (mkF m 213 #[vr a, vi 6, vi 1, .val (.int (((((1 : Int32) &&& (own_z d0)) &&& (own_z d1)) &&& (own_z f0)) &&& (own_z f1))), vi 2, vi 1, vi 2] [])) rfl (hb hby d22_213) (by decide) (by decide)
     obtain ⟨b31, gq31⟩ : ∃ z, z = h1.size := ⟨_, rfl⟩
     rw [← gq31] at A31 st31 D31
     have g_b31 : n0 ≤ b31 := by rw [gq31]; exact Z0
     have sz_b31 : h0.size ≤ b31 := by rw [gq31]; exact KP.1
     have ne_a_b31 : a ≠ b31 := by rw [gq31]; exact Nat.ne_of_lt T_a.lt
     have ne_c1_b31 : c1 ≠ b31 := by rw [gq31]; exact Nat.ne_of_lt A_c1.lt
     have ne_cb1_b31 : cb1 ≠ b31 := by rw [gq31]; exact Nat.ne_of_lt V_cb1.lt
     have Sf_b31 : Safe Z consts_1 T1.vm h1 b31 := Safe.new (Nat.le_of_eq gq31.symm)
     replace Sf_b31 := Safe.ext E31 hR.1 Sf_b31
     replace hR := hR.trans (CHr.ext E31 hR.1)
     replace T_a := T_a.ext E31
     replace T_c1 := T_c1.ext E31
     replace KP := KP.ext E31
     replace Z0 : n0 ≤ h31.size := Nat.le_trans Z0 E31.1
     replace hk := Nat.le_trans hk E31.1
     have A_b31 : Exa Z h31 b31 "com/example/modest_billing/modestbilling/Money$Shape" := A31
     have F_signum_b31 : Fld Z h31 b31 "com/example/modest_billing/modestbilling/Money$Shape" "signum" "I" (.int 0) := D31 (Or.inr (gw hw 115 rfl)) (ty := .int) (by decide)
     have F_fractionDigits_b31 : Fld Z h31 b31 "com/example/modest_billing/modestbilling/Money$Shape" "fractionDigits" "I" (.int 0) := D31 (Or.inr (gw hw 117 rfl)) (ty := .int) (by decide)
     refine Gs st31 ?_
     show Goes _ _ _ _ _ (fT T31 m 216 #[vr a, vi 6, vi 1, .val (.int (((((1 : Int32) &&& (own_z d0)) &&& (own_z d1)) &&& (own_z f0)) &&& (own_z f1))), vi 2, vi 1, vi 2] [(.ref b31)])
     refine Gz (XS.dup X31.here hx rfl (hb hby d22_216) rfl rfl) ?_
     refine gN X31 hx hby d22_217 rfl rfl ?_
     show Goes _ _ _ _ _ (fT T31 m 218 #[vr a, vi 6, vi 1, .val (.int (((((1 : Int32) &&& (own_z d0)) &&& (own_z d1)) &&& (own_z f0)) &&& (own_z f1))), vi 2, vi 1, vi 2] [(.int (((((1 : Int32) &&& (own_z d0)) &&& (own_z d1)) &&& (own_z f0)) &&& (own_z f1))), (.ref b31), (.ref b31)])
     refine own_join (B := T31.setTop (mkF m 234 #[vr a, vi 6, vi 1, .val (.int (((((1 : Int32) &&& (own_z d0)) &&& (own_z d1)) &&& (own_z f0)) &&& (own_z f1))), vi 2, vi 1, vi 2] [(.int (own_sg (own_allz [d0, d1, f0, f1]) (-1 : Int32))), (.ref b31), (.ref b31)])) ?_ ?_
     ·show Goes _ _ _ _ _ (fT T31 m 234 #[vr a, vi 6, vi 1, .val (.int (((((1 : Int32) &&& (own_z d0)) &&& (own_z d1)) &&& (own_z f0)) &&& (own_z f1))), vi 2, vi 1, vi 2] [(.int (own_sg (own_allz [d0, d1, f0, f1]) (-1 : Int32))), (.ref b31), (.ref b31)])
      refine gI X31 hx hby d22_234 rfl rfl ?_
      obtain ⟨_, _, ⟨T33, L33, k33, n33⟩, -, X33, ⟨Lc33, hQ33, l33, y33, z33⟩, st33⟩ := own_specialRef X31 hx hZ (y := mN13) rfl hown (gw hw 105 rfl) (gw hw 106 rfl) (gw hw 107 rfl) (by decide) (backOf (W := 1) (rm_shi l Z a0 hw [] b31 (own_sg (own_allz [d0, d1, f0, f1]) (-1 : Int32)) (2 : Int32) h31 n0 Z0 A_b31 F_signum_b31 F_fractionDigits_b31 g_b31) hZ (gw hw 107 rfl) (gw hw 104 rfl) (by decide) (by decide)) (g := (mkF m 236 #[vr a, vi 6, vi 1, .val (.int (((((1 : Int32) &&& (own_z d0)) &&& (own_z d1)) &&& (own_z f0)) &&& (own_z f1))), vi 2, vi 1, vi 2] [(.int 2), (.int (own_sg (own_allz [d0, d1, f0, f1]) (-1 : Int32))), (.ref b31), (.ref b31)])) rfl hml.symm (Steps.refl _) (a := b31) (argsL := [(.int (own_sg (own_allz [d0, d1, f0, f1]) (-1 : Int32))), (.int 2)]) (rest := [(.ref b31)]) (lenOf own_pd2 rfl) rfl (wz rfl) (hb hby d22_236) (fun _ _ => ⟨rfl, e31, (by decide : 3 + 0 ≤ _), (by decide : 10 + 0 ≤ _)⟩)
      dsimp only [Pt.U, Pt.locs, Pt.cells, Pt.slots] at X33 l33 y33 z33 st33 hQ33
      subst l33 y33 z33
      obtain ⟨rfl, N33q, K33, F_signum_b31_33'⟩ := hQ33
      have N33 := Fr.app N30 N33q
      replace hR := hR.trans (CHr.keep K33 (allS Sf_b31 all0) hR.1)
      replace T_a := T_a.keep K33 (allS ⟨(Ne.symm ne_a_b31), (own_nbE A_b31 (gw hw 103 rfl))⟩ all0)
      replace T_c1 := T_c1.keep K33 (allS ⟨(Ne.symm ne_c1_b31), (own_nbE A_b31 (gw hw 103 rfl))⟩ all0)
      replace A_b31 := A_b31.keep K33
      replace KP := KP.trans K33 (allS (Or.inr sz_b31) all0)
      replace Z0 := Nat.le_trans Z0 K33.1
      replace hk := Nat.le_trans hk K33.1
      have F_signum_b31 := F_signum_b31_33'
      refine Gs (fun _ tk => st33.trans tk) ?_
      show Goes _ _ _ _ _ (fT T33 m 239 #[vr a, vi 6, vi 1, .val (.int (((((1 : Int32) &&& (own_z d0)) &&& (own_z d1)) &&& (own_z f0)) &&& (own_z f1))), vi 2, vi 1, vi 2] [(.ref b31)])
      refine Goes.retH X33 hS rfl hk hZ (own_EW hw) hh hR (some (.ref b31)) (fun h => by rw [hret] at h; cases h) hlk (by decide) (by decide) ?_ (fun fs hr => ?_)
      ·exact ⟨b31, rfl, N33, KP, A_b31, F_signum_b31, g_b31, sz_b31⟩
      ·exact own_retA X33 hx hret rfl rfl (hb hby d22_239) hr
     intro J234_32
     by_cases hc218_34 : (((((1 : Int32) &&& (own_z d0)) &&& (own_z d1)) &&& (own_z f0)) &&& (own_z f1)) = 0
     ·refine gy X31 hx hby d22_218 218 225 ((if0 _ _).trans (teq hc218_34).1) ?_
      refine gN X31 hx hby d22_225 rfl rfl ?_
      refine gy X31 hx hby d22_226 226 233 ((if0 _ _).trans (feq (by decide : ¬ ((1 : Int32) = (0 : Int32)))).2) ?_
      refine gC X31 hx hby d22_233 ?_
      rw [show (own_sg (own_allz [d0, d1, f0, f1]) (-1 : Int32)) = (-1 : Int32) from by rw [← own_F4, own_sg, if_pos hc218_34]] at J234_32
      exact J234_32
     ·refine gu X31 hx hby d22_218 ((if0 _ _).trans (feq hc218_34).1) ?_
      refine gC X31 hx hby d22_221 ?_
      refine gG X31 hx hby d22_222 222 234 ?_
      rw [show (own_sg (own_allz [d0, d1, f0, f1]) (-1 : Int32)) = 0 from by rw [← own_F4, own_sg, if_neg hc218_34]] at J234_32
      exact J234_32
    intro J186_29
    by_cases hc178_35 : f1 = 48
    ·refine gU X28 hx hby d22_178 (teq hc178_35).2 ?_
     refine gC X28 hx hby d22_181 ?_
     refine gG X28 hx hby d22_182 182 186 ?_
     rw [show (own_z f1) = 1 from by rw [own_z, if_pos hc178_35]] at J186_29
     exact J186_29
    ·refine gY X28 hx hby d22_178 178 185 (feq hc178_35).2 ?_
     refine gC X28 hx hby d22_185 ?_
     rw [show (own_z f1) = 0 from by rw [own_z, if_neg hc178_35]] at J186_29
     exact J186_29
   intro J186_24
   by_cases hc178_36 : f0 = 48
   ·refine gU X23 hx hby d22_178 (teq hc178_36).2 ?_
    refine gC X23 hx hby d22_181 ?_
    refine gG X23 hx hby d22_182 182 186 ?_
    rw [show (own_z f0) = 1 from by rw [own_z, if_pos hc178_36]] at J186_24
    exact J186_24
   ·refine gY X23 hx hby d22_178 178 185 (feq hc178_36).2 ?_
    refine gC X23 hx hby d22_185 ?_
    rw [show (own_z f0) = 0 from by rw [own_z, if_neg hc178_36]] at J186_24
    exact J186_24
  intro J54_12
  by_cases hc46_37 : d1 = 48
  ·refine gU X11 hx hby d22_46 (teq hc46_37).2 ?_
   refine gC X11 hx hby d22_49 ?_
   refine gG X11 hx hby d22_50 50 54 ?_
   rw [show (own_z d1) = 1 from by rw [own_z, if_pos hc46_37]] at J54_12
   exact J54_12
  ·refine gY X11 hx hby d22_46 46 53 (feq hc46_37).2 ?_
   refine gC X11 hx hby d22_53 ?_
   rw [show (own_z d1) = 0 from by rw [own_z, if_neg hc46_37]] at J54_12
   exact J54_12
 intro J54_7
 refine gY X6 hx hby d22_46 46 53 (feq hN8).2 ?_
 refine gC X6 hx hby d22_53 ?_
 rw [show (own_z d0) = 0 from by rw [own_z, if_neg hN8]] at J54_7
 exact J54_7
theorem own_ef_rm_so122 (m : MethodId) (x0 : Addr) : entryFrame m #[(.ref x0)] 1 = mkF m 0 #[vr x0] [] := by first | (simp [entryFrame, mkF, argsToLocals, Value.category]; done) | rfl
def Q_rm_so122 (Z : State) (a : Addr) (d0 : Int32) (d1 : Int32) (f0 : Int32) (f1 : Int32) (cz : Int32) (fo : Value) (h0 : Heap) (n0 : Nat) (v : Option Value) (h : Heap) (L : List Loc) : Prop := v = some (.int (own_sg (own_allz [d0, d1, f0, f1]) (-1 : Int32))) ∧ Fr n0 L ∧ Keep h0 h []
theorem rm_so122 (l : Launch) (Z : State) (a0 : Array Value) (hw : HW a0 Z) (ws : List Jvm.Cond) (a : Addr) (d0 : Int32) (d1 : Int32) (f0 : Int32) (f1 : Int32) (cz : Int32) (fo : Value) (h0 : Heap) (n0 : Nat) (Z0 : n0 ≤ h0.size) (T_a : StrOf Z h0 a [(45 : Int32), d0, d1, (46 : Int32), f0, f1]) (hD_d0 : Dig d0) (hD_d1 : Dig d1) (hD_f0 : Dig f0) (hD_f1 : Dig f1) (hN8 : ¬ (d0 = 48)) (sgC : Sta Z h0 "java/lang/String" "COMPACT_STRINGS" "Z" (.int cz)) (hcz : ¬ (cz = 0)) (sgF : Sta Z h0 "jdk/internal/util/Preconditions" "SIOOBE_FORMATTER" "Ljava/util/function/BiFunction;" fo) (r_fo : fo.isRef = true) :
  MetH l Z mN23 prog_29_method_6_code 1 (some .int) ({ frames := 5, cells := 5, slots := 30, locals := 77 } : Room) ws #[(.ref a)] h0 (Q_rm_so122 Z a d0 d1 f0 f1 cz fo h0 n0) := by
 refine own_metH (plainFor_of_name own_pn8) ?_
 intro p e s m below meth c s₁ hret hx hby hlk hml hown hnm X0 e0 hZ hh hC0
 have N0 := Fr.nil n0
 have hS : s.Since s.vm h0.size := (State.WarmedH.refl s).since _
 have hk : h0.size ≤ h0.size := Nat.le_refl _
 replace hZ : Z.Warmed39 (s.setVm s.vm).vm := hZ
 have hR : CHr Z consts_1 s.vm h0 s.vm h0 := CHr.refl hC0
 refine Gz (castTop (own_ef_rm_so122 m a)) ?_
 have KP : Keep h0 h0 [] := Keep.refl _ _
 show Goes _ _ _ _ _ (fT s₁ m 0 #[vr a] [])
 refine gA X0 hx hby d23_0 rfl rfl rfl ?_
 obtain ⟨c1, T1, h1, kk1, cb1, kc1, X1, e1, E1, hS, hk1, hZ, hown, A_c1, F_coder_c1, F_value_c1, V_cb1, -, -, hC1, hL1, hsf1, st1⟩ := ldcCH X0 hx hZ hown (gw hw 41 rfl) (own_strW hw) e0 hS hk (own_EW hw) (List.mem_of_getElem? (i := 0) rfl) hR.1 (vs := [(.int 116), (.int 101), (.int 120), (.int 116)]) (z := (4 : Int32)) ⟨by first | decide | rfl, by first | decide | rfl⟩ (by decide) (by decide) (g := (mkF m 1 #[vr a] [(.ref a)])) rfl (hb hby d23_1) (n := 16) (by decide) (by decide) (by decide) (by decide)
 replace T_a := T_a.ext E1
 replace sgC := sgC.ext E1
 replace sgF := sgF.ext E1
 replace KP := KP.ext E1
 replace hR := hR.trans hC1
 replace Z0 : n0 ≤ h1.size := Nat.le_trans Z0 E1.1
 replace hk := hk1
 refine Gs st1 ?_
 show Goes _ _ _ _ _ (fT T1 m 3 #[vr a] [(.ref c1), (.ref a)])
 refine cS X1 hx hZ hw hown hby hml e1 mN15 44 45 47 46 0 (rm_nn l Z a0 hw [] a c1 h1 n0 Z0) d23_3 (lenOf own_pd17 rfl) N0 (fun T2 L2 X2 e2 N2 => ?_)
 show Goes _ _ _ _ _ (fT T2 m 6 #[vr a] [(.ref a)])
 refine Gz (XS.pop X2.here hx rfl (hb hby d23_6) rfl rfl) ?_
 refine gA X2 hx hby d23_7 rfl rfl rfl ?_
 obtain ⟨_, _, ⟨T3, L3, k3, n3⟩, -, X3, hS3, gr3, ⟨Lc3, hQ3, l3, y3, z3, hC3⟩, st3⟩ := callSS X2 hx (y := mN22) hown (gz hZ hw 48 rfl) (gz hZ hw 49 rfl) (gz hZ hw 39 rfl) (gz hZ hw 50 rfl) (by decide) (backOfSH (W := 0) (rm_cs122 l Z a0 hw [] a d0 d1 f0 f1 cz fo h1 n0 Z0 T_a hD_d0 hD_d1 hD_f0 hD_f1 hN8 sgC hcz sgF r_fo) hZ (gw hw 50 rfl) (gw hw 39 rfl) (by decide) (by decide) (own_EW hw) hR.1) (g := (mkF m 8 #[vr a] [(.ref a)])) rfl hml.symm (argsL := [(.ref a)]) (rest := []) (lenOf own_pd18 rfl) rfl (wz rfl) (hb hby d23_8) (fun _ _ => ⟨rfl, e2, (by decide : 2 + 3 ≤ _), (by decide : 20 + 10 ≤ _)⟩)
 dsimp only [Pt.U, Pt.locs, Pt.cells, Pt.slots] at X3 l3 y3 z3 st3 hQ3 hS3 gr3 hC3
 subst l3 y3 z3
 obtain ⟨X3, hS, hZ, hown⟩ := rebS hS hk X3 hS3 (by have q := gr3; rw [e2] at q; exact q) hZ hown
 replace hk : T3.heap.size ≤ T3.heap.size := Nat.le_refl _
 obtain ⟨o3, rfl, N3q, K3, A_o3_3', F_signum_o3_3', g_o3_3', sz_o3_3'⟩ := hQ3
 have N3 := Fr.app N2 N3q
 replace hR := hR.trans hC3
 replace T_a := T_a.keep K3 all0
 replace KP := KP.trans K3 all0
 replace Z0 := Nat.le_trans Z0 K3.1
 have A_o3 := A_o3_3'
 have F_signum_o3 := F_signum_o3_3'
 refine Gs (fun _ tk => st3.trans tk) ?_
 show Goes _ _ _ _ _ (fT T3 m 11 #[vr a] [(.ref o3)])
 refine cV X3 hx hZ hw hown hby hml rfl mN14 118 119 121 120 122 104 0 (rm_sgn l Z a0 hw [] o3 (own_sg (own_allz [d0, d1, f0, f1]) (-1 : Int32)) T3.heap n0 Z0 F_signum_o3) A_o3 d23_11 (lenOf own_pd11 rfl) N3 (fun T4 L4 X4 e4 N4 => ?_)
 show Goes _ _ _ _ _ (fT T4 m 14 #[vr a] [(.int (own_sg (own_allz [d0, d1, f0, f1]) (-1 : Int32)))])
 refine Goes.retH X4 hS e4 hk hZ (own_EW hw) hh hR (some (.int (own_sg (own_allz [d0, d1, f0, f1]) (-1 : Int32)))) (fun h => by rw [hret] at h; cases h) hlk (by decide) (by decide) ?_ (fun fs hr => ?_)
 ·rw [e4]; exact ⟨rfl, N4, KP⟩
 ·exact retI X4 hx hret (hb hby d23_14) hr
theorem own_pd19 : parseMethodDescriptor "(ZIICCCC)Ljava/lang/String;" = some ⟨[.boolean, .int, .int, .char, .char, .char, .char], some (.object "java/lang/String")⟩ := by decide +kernel
theorem own_pd20 : parseMethodDescriptor "(Ljava/lang/String;)I" = some ⟨[(.object "java/lang/String")], some .int⟩ := by decide +kernel
theorem own_ef_rm_law (m : MethodId) (x0 : Int32) (x1 : Int32) : entryFrame m #[(.int x0), (.int x1)] maxLocals = mkF m 0 #[vi x0, vi x1, vu, vu, vu, vu, vu, vu, vu, vu, vu, vu] [] := by first | (simp [entryFrame, mkF, argsToLocals, Value.category, maxLocals]; done) | rfl
def Q_rm_law (Z : State) (x0 : Int32) (x1 : Int32) (cz : Int32) (fo : Value) (h0 : Heap) (n0 : Nat) (v : Option Value) (h : Heap) (L : List Loc) : Prop := v = some (.int 1) ∧ Fr n0 L
theorem rm_law (l : Launch) (Z : State) (a0 : Array Value) (hw : HW a0 Z) (ws : List Jvm.Cond) (x0 : Int32) (x1 : Int32) (cz : Int32) (fo : Value) (h0 : Heap) (n0 : Nat) (Z0 : n0 ≤ h0.size) (sgC : Sta Z h0 "java/lang/String" "COMPACT_STRINGS" "Z" (.int cz)) (hcz : ¬ (cz = 0)) (sgF : Sta Z h0 "jdk/internal/util/Preconditions" "SIOOBE_FORMATTER" "Ljava/util/function/BiFunction;" fo) (r_fo : fo.isRef = true) :
  MetH l Z x code maxLocals ret room_1 ws #[(.int x0), (.int x1)] h0 (Q_rm_law Z x0 x1 cz fo h0 n0) := by
 refine own_metH (plainFor_of_name own_pn7) ?_
 intro p e s m below meth c s₁ hret hx hby hlk hml hown hnm X0 e0 hZ hh hC0
 have N0 := Fr.nil n0
 have hS : s.Since s.vm h0.size := (State.WarmedH.refl s).since _
 have hk : h0.size ≤ h0.size := Nat.le_refl _
 replace hZ : Z.Warmed39 (s.setVm s.vm).vm := hZ
 have hR : CHr Z consts_1 s.vm h0 s.vm h0 := CHr.refl hC0
 refine Gz (castTop (own_ef_rm_law m x0 x1)) ?_
 show Goes _ _ _ _ _ (fT s₁ m 0 #[vi x0, vi x1, vu, vu, vu, vu, vu, vu, vu, vu, vu, vu] [])
 refine gN X0 hx hby at_0 rfl rfl ?_
 refine gC X0 hx hby at_1 ?_
 show Goes _ _ _ _ _ (fT s₁ m 2 #[vi x0, vi x1, vu, vu, vu, vu, vu, vu, vu, vu, vu, vu] [(.int 1), (.int x0)])
 refine Gz (XS.iand X0.here hx rfl (hb hby at_2) rfl) ?_
 show Goes _ _ _ _ _ (fT s₁ m 3 #[vi x0, vi x1, vu, vu, vu, vu, vu, vu, vu, vu, vu, vu] [(.int (x0 &&& 1))])
 refine own_joinP (P := fun ng => ng = 0 ∨ ng = 1) (B := fun ng => s₁.setTop (mkF m 11 #[vi x0, vi x1, vu, vu, vu, vu, vu, vu, vu, vu, vu, vu] [(.int ng)])) ?_ ?_
 ·intro ng hng
  show Goes _ _ _ _ _ (fT s₁ m 11 #[vi x0, vi x1, vu, vu, vu, vu, vu, vu, vu, vu, vu, vu] [(.int ng)])
  refine gs X0 hx hby at_11 #[vi x0, vi x1, vi ng, vu, vu, vu, vu, vu, vu, vu, vu, vu] ?_
  refine gN X0 hx hby at_12 rfl rfl ?_
  refine gC X0 hx hby at_13 ?_
  show Goes _ _ _ _ _ (fT s₁ m 14 #[vi x0, vi x1, vi ng, vu, vu, vu, vu, vu, vu, vu, vu, vu] [(.int 1), (.int x0)])
  refine Gz (XS.iushr X0.here hx rfl (hb hby at_14) rfl) ?_
  show Goes _ _ _ _ _ (fT s₁ m 15 #[vi x0, vi x1, vi ng, vu, vu, vu, vu, vu, vu, vu, vu, vu] [(.int ((x0.toUInt32 >>> ((1 : Int32) &&& 31).toUInt32).toInt32))])
  refine gC X0 hx hby at_15 ?_
  show Goes _ _ _ _ _ (fT s₁ m 16 #[vi x0, vi x1, vi ng, vu, vu, vu, vu, vu, vu, vu, vu, vu] [(.int 1), (.int ((x0.toUInt32 >>> ((1 : Int32) &&& 31).toUInt32).toInt32))])
  refine Gz (XS.iand X0.here hx rfl (hb hby at_16) rfl) ?_
  show Goes _ _ _ _ _ (fT s₁ m 17 #[vi x0, vi x1, vi ng, vu, vu, vu, vu, vu, vu, vu, vu, vu] [(.int (((x0.toUInt32 >>> ((1 : Int32) &&& 31).toUInt32).toInt32) &&& (1 : Int32)))])
  refine gC X0 hx hby at_17 ?_
  show Goes _ _ _ _ _ (fT s₁ m 18 #[vi x0, vi x1, vi ng, vu, vu, vu, vu, vu, vu, vu, vu, vu] [(.int 1), (.int (((x0.toUInt32 >>> ((1 : Int32) &&& 31).toUInt32).toInt32) &&& (1 : Int32)))])
  refine Gz (XS.iadd X0.here hx rfl (hb hby at_18) rfl) ?_
  show Goes _ _ _ _ _ (fT s₁ m 19 #[vi x0, vi x1, vi ng, vu, vu, vu, vu, vu, vu, vu, vu, vu] [(.int ((((x0.toUInt32 >>> ((1 : Int32) &&& 31).toUInt32).toInt32) &&& (1 : Int32)) + 1))])
  generalize hil0 : ((((x0.toUInt32 >>> ((1 : Int32) &&& 31).toUInt32).toInt32) &&& (1 : Int32)) + 1) = il
  have hil : il = 1 ∨ il = 2 := by rw [← hil0]; exact own_il12 _
  clear hil0
  show Goes _ _ _ _ _ (fT s₁ m 19 #[vi x0, vi x1, vi ng, vu, vu, vu, vu, vu, vu, vu, vu, vu] [(.int il)])
  refine gs X0 hx hby at_19 #[vi x0, vi x1, vi ng, vi il, vu, vu, vu, vu, vu, vu, vu, vu] ?_
  refine gN X0 hx hby at_20 rfl rfl ?_
  refine gC X0 hx hby at_21 ?_
  show Goes _ _ _ _ _ (fT s₁ m 22 #[vi x0, vi x1, vi ng, vi il, vu, vu, vu, vu, vu, vu, vu, vu] [(.int 2), (.int x0)])
  refine Gz (XS.iushr X0.here hx rfl (hb hby at_22) rfl) ?_
  show Goes _ _ _ _ _ (fT s₁ m 23 #[vi x0, vi x1, vi ng, vi il, vu, vu, vu, vu, vu, vu, vu, vu] [(.int ((x0.toUInt32 >>> ((2 : Int32) &&& 31).toUInt32).toInt32))])
  refine gC X0 hx hby at_23 ?_
  show Goes _ _ _ _ _ (fT s₁ m 24 #[vi x0, vi x1, vi ng, vi il, vu, vu, vu, vu, vu, vu, vu, vu] [(.int 3), (.int ((x0.toUInt32 >>> ((2 : Int32) &&& 31).toUInt32).toInt32))])
  refine Gz (XS.iand X0.here hx rfl (hb hby at_24) rfl) ?_
  show Goes _ _ _ _ _ (fT s₁ m 25 #[vi x0, vi x1, vi ng, vi il, vu, vu, vu, vu, vu, vu, vu, vu] [(.int (((x0.toUInt32 >>> ((2 : Int32) &&& 31).toUInt32).toInt32) &&& (3 : Int32)))])
  refine gC X0 hx hby at_25 ?_
  show Goes _ _ _ _ _ (fT s₁ m 26 #[vi x0, vi x1, vi ng, vi il, vu, vu, vu, vu, vu, vu, vu, vu] [(.int 3), (.int (((x0.toUInt32 >>> ((2 : Int32) &&& 31).toUInt32).toInt32) &&& (3 : Int32)))])
  refine Gz (XS.irem X0.here hx rfl (hb hby at_26) rfl (by decide)) ?_
  rw [Jvm.irem_eq_mod]
  show Goes _ _ _ _ _ (fT s₁ m 27 #[vi x0, vi x1, vi ng, vi il, vu, vu, vu, vu, vu, vu, vu, vu] [(.int ((((x0.toUInt32 >>> ((2 : Int32) &&& 31).toUInt32).toInt32) &&& (3 : Int32)) % 3))])
  generalize hfl0 : ((((x0.toUInt32 >>> ((2 : Int32) &&& 31).toUInt32).toInt32) &&& (3 : Int32)) % 3) = fl
  have hfl : fl = 0 ∨ fl = 1 ∨ fl = 2 := by rw [← hfl0]; exact own_fr _
  clear hfl0
  show Goes _ _ _ _ _ (fT s₁ m 27 #[vi x0, vi x1, vi ng, vi il, vu, vu, vu, vu, vu, vu, vu, vu] [(.int fl)])
  refine gS X0 hx hby at_27 #[vi x0, vi x1, vi ng, vi il, vi fl, vu, vu, vu, vu, vu, vu, vu] ?_
  refine gN X0 hx hby at_29 rfl rfl ?_
  refine gC X0 hx hby at_30 ?_
  show Goes _ _ _ _ _ (fT s₁ m 31 #[vi x0, vi x1, vi ng, vi il, vi fl, vu, vu, vu, vu, vu, vu, vu] [(.int 2), (.int il)])
  refine own_joinTP X0 e0 N0 (P := fun d0 => Dig d0 ∧ (il = 2 → ¬ (d0 = 48))) (B := fun d0 T => T.setTop (mkF m 63 #[vi x0, vi x1, vi ng, vi il, vi fl, vi d0, vu, vu, vu, vu, vu, vu] [])) ?_ ?_
  ·intro T63 L63 d0 X63 e63 N63 hd0
   show Goes _ _ _ _ _ (fT T63 m 63 #[vi x0, vi x1, vi ng, vi il, vi fl, vi d0, vu, vu, vu, vu, vu, vu] [])
   refine gN X63 hx hby at_63 rfl rfl ?_
   refine gC X63 hx hby at_64 ?_
   show Goes _ _ _ _ _ (fT T63 m 65 #[vi x0, vi x1, vi ng, vi il, vi fl, vi d0, vu, vu, vu, vu, vu, vu] [(.int 4), (.int x1)])
   refine Gz (XS.iushr X63.here hx rfl (hb hby at_65) rfl) ?_
   show Goes _ _ _ _ _ (fT T63 m 66 #[vi x0, vi x1, vi ng, vi il, vi fl, vi d0, vu, vu, vu, vu, vu, vu] [(.int ((x1.toUInt32 >>> ((4 : Int32) &&& 31).toUInt32).toInt32))])
   refine gB X63 hx hby at_66 ?_
   show Goes _ _ _ _ _ (fT T63 m 68 #[vi x0, vi x1, vi ng, vi il, vi fl, vi d0, vu, vu, vu, vu, vu, vu] [(.int 15), (.int ((x1.toUInt32 >>> ((4 : Int32) &&& 31).toUInt32).toInt32))])
   refine Gz (XS.iand X63.here hx rfl (hb hby at_68) rfl) ?_
   show Goes _ _ _ _ _ (fT T63 m 69 #[vi x0, vi x1, vi ng, vi il, vi fl, vi d0, vu, vu, vu, vu, vu, vu] [(.int (((x1.toUInt32 >>> ((4 : Int32) &&& 31).toUInt32).toInt32) &&& (15 : Int32)))])
   refine gB X63 hx hby at_69 ?_
   show Goes _ _ _ _ _ (fT T63 m 71 #[vi x0, vi x1, vi ng, vi il, vi fl, vi d0, vu, vu, vu, vu, vu, vu] [(.int 10), (.int (((x1.toUInt32 >>> ((4 : Int32) &&& 31).toUInt32).toInt32) &&& (15 : Int32)))])
   refine Gz (XS.irem X63.here hx rfl (hb hby at_71) rfl (by decide)) ?_
   rw [Jvm.irem_eq_mod]
   show Goes _ _ _ _ _ (fT T63 m 72 #[vi x0, vi x1, vi ng, vi il, vi fl, vi d0, vu, vu, vu, vu, vu, vu] [(.int ((((x1.toUInt32 >>> ((4 : Int32) &&& 31).toUInt32).toInt32) &&& (15 : Int32)) % 10))])
   refine cSg X63 hx hZ hw hown hby hml e63 mN16 0 1 3 2 0 (rm_digit0 l Z a0 hw [] ((((x1.toUInt32 >>> ((4 : Int32) &&& 31).toUInt32).toInt32) &&& (15 : Int32)) % 10) h0 n0 Z0 (own_d10 _)) at_72 (lenOf own_pd15 rfl) (fun _ T1 L1 X1 hQ1 => ?_)
   obtain ⟨d1, rfl, N1q, e1, hDg_1⟩ := hQ1
   have N1 := Fr.app N63 N1q
   show Goes _ _ _ _ _ (fT T1 m 75 #[vi x0, vi x1, vi ng, vi il, vi fl, vi d0, vu, vu, vu, vu, vu, vu] [(.int d1)])
   refine gS X1 hx hby at_75 #[vi x0, vi x1, vi ng, vi il, vi fl, vi d0, vi d1, vu, vu, vu, vu, vu] ?_
   refine gN X1 hx hby at_77 rfl rfl ?_
   refine gB X1 hx hby at_78 ?_
   show Goes _ _ _ _ _ (fT T1 m 80 #[vi x0, vi x1, vi ng, vi il, vi fl, vi d0, vi d1, vu, vu, vu, vu, vu] [(.int 8), (.int x1)])
   refine Gz (XS.iushr X1.here hx rfl (hb hby at_80) rfl) ?_
   show Goes _ _ _ _ _ (fT T1 m 81 #[vi x0, vi x1, vi ng, vi il, vi fl, vi d0, vi d1, vu, vu, vu, vu, vu] [(.int ((x1.toUInt32 >>> ((8 : Int32) &&& 31).toUInt32).toInt32))])
   refine gB X1 hx hby at_81 ?_
   show Goes _ _ _ _ _ (fT T1 m 83 #[vi x0, vi x1, vi ng, vi il, vi fl, vi d0, vi d1, vu, vu, vu, vu, vu] [(.int 15), (.int ((x1.toUInt32 >>> ((8 : Int32) &&& 31).toUInt32).toInt32))])
   refine Gz (XS.iand X1.here hx rfl (hb hby at_83) rfl) ?_
   show Goes _ _ _ _ _ (fT T1 m 84 #[vi x0, vi x1, vi ng, vi il, vi fl, vi d0, vi d1, vu, vu, vu, vu, vu] [(.int (((x1.toUInt32 >>> ((8 : Int32) &&& 31).toUInt32).toInt32) &&& (15 : Int32)))])
   refine gB X1 hx hby at_84 ?_
   show Goes _ _ _ _ _ (fT T1 m 86 #[vi x0, vi x1, vi ng, vi il, vi fl, vi d0, vi d1, vu, vu, vu, vu, vu] [(.int 10), (.int (((x1.toUInt32 >>> ((8 : Int32) &&& 31).toUInt32).toInt32) &&& (15 : Int32)))])
   refine Gz (XS.irem X1.here hx rfl (hb hby at_86) rfl (by decide)) ?_
   rw [Jvm.irem_eq_mod]
   show Goes _ _ _ _ _ (fT T1 m 87 #[vi x0, vi x1, vi ng, vi il, vi fl, vi d0, vi d1, vu, vu, vu, vu, vu] [(.int ((((x1.toUInt32 >>> ((8 : Int32) &&& 31).toUInt32).toInt32) &&& (15 : Int32)) % 10))])
   refine cSg X1 hx hZ hw hown hby hml e1 mN16 0 1 3 2 0 (rm_digit0 l Z a0 hw [] ((((x1.toUInt32 >>> ((8 : Int32) &&& 31).toUInt32).toInt32) &&& (15 : Int32)) % 10) h0 n0 Z0 (own_d10 _)) at_87 (lenOf own_pd15 rfl) (fun _ T2 L2 X2 hQ2 => ?_)
   obtain ⟨f0, rfl, N2q, e2, hDg_2⟩ := hQ2
   have N2 := Fr.app N1 N2q
   show Goes _ _ _ _ _ (fT T2 m 90 #[vi x0, vi x1, vi ng, vi il, vi fl, vi d0, vi d1, vu, vu, vu, vu, vu] [(.int f0)])
   refine gS X2 hx hby at_90 #[vi x0, vi x1, vi ng, vi il, vi fl, vi d0, vi d1, vi f0, vu, vu, vu, vu] ?_
   refine gN X2 hx hby at_92 rfl rfl ?_
   refine gB X2 hx hby at_93 ?_
   show Goes _ _ _ _ _ (fT T2 m 95 #[vi x0, vi x1, vi ng, vi il, vi fl, vi d0, vi d1, vi f0, vu, vu, vu, vu] [(.int 12), (.int x1)])
   refine Gz (XS.iushr X2.here hx rfl (hb hby at_95) rfl) ?_
   show Goes _ _ _ _ _ (fT T2 m 96 #[vi x0, vi x1, vi ng, vi il, vi fl, vi d0, vi d1, vi f0, vu, vu, vu, vu] [(.int ((x1.toUInt32 >>> ((12 : Int32) &&& 31).toUInt32).toInt32))])
   refine gB X2 hx hby at_96 ?_
   show Goes _ _ _ _ _ (fT T2 m 98 #[vi x0, vi x1, vi ng, vi il, vi fl, vi d0, vi d1, vi f0, vu, vu, vu, vu] [(.int 15), (.int ((x1.toUInt32 >>> ((12 : Int32) &&& 31).toUInt32).toInt32))])
   refine Gz (XS.iand X2.here hx rfl (hb hby at_98) rfl) ?_
   show Goes _ _ _ _ _ (fT T2 m 99 #[vi x0, vi x1, vi ng, vi il, vi fl, vi d0, vi d1, vi f0, vu, vu, vu, vu] [(.int (((x1.toUInt32 >>> ((12 : Int32) &&& 31).toUInt32).toInt32) &&& (15 : Int32)))])
   refine gB X2 hx hby at_99 ?_
   show Goes _ _ _ _ _ (fT T2 m 101 #[vi x0, vi x1, vi ng, vi il, vi fl, vi d0, vi d1, vi f0, vu, vu, vu, vu] [(.int 10), (.int (((x1.toUInt32 >>> ((12 : Int32) &&& 31).toUInt32).toInt32) &&& (15 : Int32)))])
   refine Gz (XS.irem X2.here hx rfl (hb hby at_101) rfl (by decide)) ?_
   rw [Jvm.irem_eq_mod]
   show Goes _ _ _ _ _ (fT T2 m 102 #[vi x0, vi x1, vi ng, vi il, vi fl, vi d0, vi d1, vi f0, vu, vu, vu, vu] [(.int ((((x1.toUInt32 >>> ((12 : Int32) &&& 31).toUInt32).toInt32) &&& (15 : Int32)) % 10))])
   refine cSg X2 hx hZ hw hown hby hml e2 mN16 0 1 3 2 0 (rm_digit0 l Z a0 hw [] ((((x1.toUInt32 >>> ((12 : Int32) &&& 31).toUInt32).toInt32) &&& (15 : Int32)) % 10) h0 n0 Z0 (own_d10 _)) at_102 (lenOf own_pd15 rfl) (fun _ T3 L3 X3 hQ3 => ?_)
   obtain ⟨f1, rfl, N3q, e3, hDg_3⟩ := hQ3
   have N3 := Fr.app N2 N3q
   show Goes _ _ _ _ _ (fT T3 m 105 #[vi x0, vi x1, vi ng, vi il, vi fl, vi d0, vi d1, vi f0, vu, vu, vu, vu] [(.int f1)])
   refine gS X3 hx hby at_105 #[vi x0, vi x1, vi ng, vi il, vi fl, vi d0, vi d1, vi f0, vi f1, vu, vu, vu] ?_
   show Goes _ _ _ _ _ (fT T3 m 107 #[vi x0, vi x1, vi ng, vi il, vi fl, vi d0, vi d1, vi f0, vi f1, vu, vu, vu] [])
   obtain rfl | rfl := hng
   ·show Goes _ _ _ _ _ (fT T3 m 107 #[vi x0, vi x1, vi 0, vi il, vi fl, vi d0, vi d1, vi f0, vi f1, vu, vu, vu] [])
    obtain rfl | rfl := hil
    ·show Goes _ _ _ _ _ (fT T3 m 107 #[vi x0, vi x1, vi 0, vi 1, vi fl, vi d0, vi d1, vi f0, vi f1, vu, vu, vu] [])
     obtain rfl | rfl | rfl := hfl
     ·show Goes _ _ _ _ _ (fT T3 m 107 #[vi x0, vi x1, vi 0, vi 1, vi 0, vi d0, vi d1, vi f0, vi f1, vu, vu, vu] [])
      refine gN X3 hx hby at_107 rfl rfl ?_
      refine gN X3 hx hby at_108 rfl rfl ?_
      refine gI X3 hx hby at_109 rfl rfl ?_
      refine gI X3 hx hby at_111 rfl rfl ?_
      refine gI X3 hx hby at_113 rfl rfl ?_
      refine gI X3 hx hby at_115 rfl rfl ?_
      show Goes _ _ _ _ _ (fT T3 m 117 #[vi x0, vi x1, vi 0, vi 1, vi 0, vi d0, vi d1, vi f0, vi f1, vu, vu, vu] [(.int f0), (.int d1), (.int d0), (.int 0), (.int 1), (.int 0)])
      refine gI X3 hx hby at_117 rfl rfl ?_
      refine cSg X3 hx hZ hw hown hby hml e3 mN18 4 5 6 2 0 (rm_text010 l Z a0 hw [] d0 d1 f0 f1 cz h0 n0 Z0 hd0.1 hDg_1 hDg_2 hDg_3 sgC hcz) at_119 (lenOf own_pd19 rfl) (fun _ T4 L4 X4 hQ4 => ?_)
      obtain ⟨u4, rfl, N4q, K4, T_u4_4', g_u4_4', sz_u4_4'⟩ := hQ4
      have N4 := Fr.app N3 N4q
      replace sgC := own_staK sgC K4 all0
      replace sgF := own_staK sgF K4 all0
      replace hR := hR.trans (CHr.keep K4 all0 hR.1)
      replace Z0 := Nat.le_trans Z0 K4.1
      replace hk := Nat.le_trans hk K4.1
      have T_u4 := T_u4_4'
      show Goes _ _ _ _ _ (fT T4 m 122 #[vi x0, vi x1, vi 0, vi 1, vi 0, vi d0, vi d1, vi f0, vi f1, vu, vu, vu] [(.ref u4)])
      refine Gz (XS.astore X4.here hx rfl (hb hby at_122) rfl rfl (l' := #[vi x0, vi x1, vi 0, vi 1, vi 0, vi d0, vi d1, vi f0, vi f1, vr u4, vu, vu]) rfl) ?_
      refine gI X4 hx hby at_124 rfl rfl ?_
      refine gB X4 hx hby at_126 ?_
      show Goes _ _ _ _ _ (fT T4 m 128 #[vi x0, vi x1, vi 0, vi 1, vi 0, vi d0, vi d1, vi f0, vi f1, vr u4, vu, vu] [(.int 48), (.int d0)])
      refine own_join (B := T4.setTop (mkF m 174 #[vi x0, vi x1, vi 0, vi 1, vi 0, vi d0, vi d1, vi f0, vi f1, vr u4, vu, vu] [(.int (own_allz [d0]))])) ?_ ?_
      ·show Goes _ _ _ _ _ (fT T4 m 174 #[vi x0, vi x1, vi 0, vi 1, vi 0, vi d0, vi d1, vi f0, vi f1, vr u4, vu, vu] [(.int (own_allz [d0]))])
       refine gS X4 hx hby at_174 #[vi x0, vi x1, vi 0, vi 1, vi 0, vi d0, vi d1, vi f0, vi f1, vr u4, vi (own_allz [d0]), vu] ?_
       refine gI X4 hx hby at_176 rfl rfl ?_
       by_cases hc178_6 : (own_allz [d0]) = 0
       ·refine gy X4 hx hby at_178 178 187 ((if0 _ _).trans (teq hc178_6).1) ?_
        refine gN X4 hx hby at_187 rfl rfl ?_
        refine gy X4 hx hby at_188 188 197 ((if0 _ _).trans (teq (by decide : ((0 : Int32) = (0 : Int32)))).1) ?_
        refine gC X4 hx hby at_197 ?_
        show Goes _ _ _ _ _ (fT T4 m 198 #[vi x0, vi x1, vi 0, vi 1, vi 0, vi d0, vi d1, vi f0, vi f1, vr u4, vi (own_allz [d0]), vu] [(.int 1)])
        refine gS X4 hx hby at_198 #[vi x0, vi x1, vi 0, vi 1, vi 0, vi d0, vi d1, vi f0, vi f1, vr u4, vi (own_allz [d0]), vi 1] ?_
        refine Gz (XS.aload X4.here hx rfl (hb hby at_200) rfl rfl) ?_
        obtain ⟨_, _, ⟨T7, L7, k7, n7⟩, -, X7, hS7, gr7, ⟨Lc7, hQ7, l7, y7, z7, hC7⟩, st7⟩ := callSS X4 hx (y := mN23) hown (gz hZ hw 37 rfl) (gz hZ hw 38 rfl) (gz hZ hw 39 rfl) (gz hZ hw 40 rfl) (by decide) (backOfSH (W := 0) (rm_so010 l Z a0 hw [] u4 d0 cz fo T4.heap n0 Z0 T_u4 hd0.1 sgC hcz sgF r_fo) hZ (gw hw 40 rfl) (gw hw 39 rfl) (by decide) (by decide) (own_EW hw) hR.1) (g := (mkF m 202 #[vi x0, vi x1, vi 0, vi 1, vi 0, vi d0, vi d1, vi f0, vi f1, vr u4, vi (own_allz [d0]), vi 1] [(.ref u4)])) rfl hml.symm (argsL := [(.ref u4)]) (rest := []) (lenOf own_pd20 rfl) rfl (wz rfl) (hb hby at_202) (fun _ _ => ⟨rfl, rfl, (by decide : 3 + 5 ≤ _), (by decide : 6 + 30 ≤ _)⟩)
        dsimp only [Pt.U, Pt.locs, Pt.cells, Pt.slots] at X7 l7 y7 z7 st7 hQ7 hS7 gr7 hC7
        subst l7 y7 z7
        obtain ⟨X7, hS, hZ, hown⟩ := rebS hS hk X7 hS7 gr7 hZ hown
        replace hk : T7.heap.size ≤ T7.heap.size := Nat.le_refl _
        obtain ⟨rfl, N7q, K7⟩ := hQ7
        have N7 := Fr.app N4 N7q
        replace hR := hR.trans hC7
        replace sgC := own_staK sgC K7 all0
        replace sgF := own_staK sgF K7 all0
        replace T_u4 := T_u4.keep K7 all0
        replace Z0 := Nat.le_trans Z0 K7.1
        refine Gs (fun _ tk => st7.trans tk) ?_
        show Goes _ _ _ _ _ (fT T7 m 205 #[vi x0, vi x1, vi 0, vi 1, vi 0, vi d0, vi d1, vi f0, vi f1, vr u4, vi (own_allz [d0]), vi 1] [(.int (own_sg (own_allz [d0]) (1 : Int32)))])
        refine gI X7 hx hby at_205 rfl rfl ?_
        have hc207_8 : (own_sg (own_allz [d0]) (1 : Int32)) = 1 := by rw [own_sg, if_pos hc178_6]
        refine gU X7 hx hby at_207 (teq hc207_8).2 ?_
        refine gC X7 hx hby at_210 ?_
        refine gG X7 hx hby at_211 211 215 ?_
        refine Goes.retH X7 hS rfl hk hZ (own_EW hw) hh hR (some (.int 1)) (fun h => by rw [hret] at h; cases h) hlk (by decide) (by decide) ?_ (fun fs hr => ?_)
        ·exact ⟨rfl, N7⟩
        ·exact own_retN X7 hx (t := .boolean) hret (by simp) rfl (hb hby at_215) hr
       ·refine gu X4 hx hby at_178 ((if0 _ _).trans (feq hc178_6).1) ?_
        refine gC X4 hx hby at_181 ?_
        refine gS X4 hx hby at_182 #[vi x0, vi x1, vi 0, vi 1, vi 0, vi d0, vi d1, vi f0, vi f1, vr u4, vi (own_allz [d0]), vi 0] ?_
        refine gG X4 hx hby at_184 184 200 ?_
        show Goes _ _ _ _ _ (fT T4 m 200 #[vi x0, vi x1, vi 0, vi 1, vi 0, vi d0, vi d1, vi f0, vi f1, vr u4, vi (own_allz [d0]), vi 0] [])
        refine Gz (XS.aload X4.here hx rfl (hb hby at_200) rfl rfl) ?_
        obtain ⟨_, _, ⟨T9, L9, k9, n9⟩, -, X9, hS9, gr9, ⟨Lc9, hQ9, l9, y9, z9, hC9⟩, st9⟩ := callSS X4 hx (y := mN23) hown (gz hZ hw 37 rfl) (gz hZ hw 38 rfl) (gz hZ hw 39 rfl) (gz hZ hw 40 rfl) (by decide) (backOfSH (W := 0) (rm_so010 l Z a0 hw [] u4 d0 cz fo T4.heap n0 Z0 T_u4 hd0.1 sgC hcz sgF r_fo) hZ (gw hw 40 rfl) (gw hw 39 rfl) (by decide) (by decide) (own_EW hw) hR.1) (g := (mkF m 202 #[vi x0, vi x1, vi 0, vi 1, vi 0, vi d0, vi d1, vi f0, vi f1, vr u4, vi (own_allz [d0]), vi 0] [(.ref u4)])) rfl hml.symm (argsL := [(.ref u4)]) (rest := []) (lenOf own_pd20 rfl) rfl (wz rfl) (hb hby at_202) (fun _ _ => ⟨rfl, rfl, (by decide : 3 + 5 ≤ _), (by decide : 6 + 30 ≤ _)⟩)
        dsimp only [Pt.U, Pt.locs, Pt.cells, Pt.slots] at X9 l9 y9 z9 st9 hQ9 hS9 gr9 hC9
        subst l9 y9 z9
        obtain ⟨X9, hS, hZ, hown⟩ := rebS hS hk X9 hS9 gr9 hZ hown
        replace hk : T9.heap.size ≤ T9.heap.size := Nat.le_refl _
        obtain ⟨rfl, N9q, K9⟩ := hQ9
        have N9 := Fr.app N4 N9q
        replace hR := hR.trans hC9
        replace sgC := own_staK sgC K9 all0
        replace sgF := own_staK sgF K9 all0
        replace T_u4 := T_u4.keep K9 all0
        replace Z0 := Nat.le_trans Z0 K9.1
        refine Gs (fun _ tk => st9.trans tk) ?_
        show Goes _ _ _ _ _ (fT T9 m 205 #[vi x0, vi x1, vi 0, vi 1, vi 0, vi d0, vi d1, vi f0, vi f1, vr u4, vi (own_allz [d0]), vi 0] [(.int (own_sg (own_allz [d0]) (1 : Int32)))])
        refine gI X9 hx hby at_205 rfl rfl ?_
        have hc207_10 : (own_sg (own_allz [d0]) (1 : Int32)) = 0 := by rw [own_sg, if_neg hc178_6]
        refine gU X9 hx hby at_207 (teq hc207_10).2 ?_
        refine gC X9 hx hby at_210 ?_
        refine gG X9 hx hby at_211 211 215 ?_
        refine Goes.retH X9 hS rfl hk hZ (own_EW hw) hh hR (some (.int 1)) (fun h => by rw [hret] at h; cases h) hlk (by decide) (by decide) ?_ (fun fs hr => ?_)
        ·exact ⟨rfl, N9⟩
        ·exact own_retN X9 hx (t := .boolean) hret (by simp) rfl (hb hby at_215) hr
      intro J174_5
      by_cases hc128_11 : d0 = 48
      ·refine gU X4 hx hby at_128 (teq hc128_11).2 ?_
       refine gN X4 hx hby at_131 rfl rfl ?_
       refine gC X4 hx hby at_132 ?_
       refine gY X4 hx hby at_133 133 143 (tlt (by decide : ((1 : Int32) < (2 : Int32)))).1 ?_
       refine gI X4 hx hby at_143 rfl rfl ?_
       refine gC X4 hx hby at_145 ?_
       show Goes _ _ _ _ _ (fT T4 m 146 #[vi x0, vi x1, vi 0, vi 1, vi 0, vi d0, vi d1, vi f0, vi f1, vr u4, vu, vu] [(.int 1), (.int 0)])
       refine gY X4 hx hby at_146 146 156 (tlt (by decide : ((0 : Int32) < (1 : Int32)))).1 ?_
       refine gI X4 hx hby at_156 rfl rfl ?_
       refine gC X4 hx hby at_158 ?_
       refine gY X4 hx hby at_159 159 169 (tlt (by decide : ((0 : Int32) < (2 : Int32)))).1 ?_
       refine gC X4 hx hby at_169 ?_
       refine gG X4 hx hby at_170 170 174 ?_
       show Goes _ _ _ _ _ (fT T4 m 174 #[vi x0, vi x1, vi 0, vi 1, vi 0, vi d0, vi d1, vi f0, vi f1, vr u4, vu, vu] [(.int 1)])
       rw [show (own_allz [d0]) = 1 from by simp [own_allz, hc128_11]] at J174_5
       exact J174_5
      ·refine gY X4 hx hby at_128 128 173 (feq hc128_11).2 ?_
       refine gC X4 hx hby at_173 ?_
       rw [show (own_allz [d0]) = 0 from by simp [own_allz, hc128_11]] at J174_5
       exact J174_5
     ·show Goes _ _ _ _ _ (fT T3 m 107 #[vi x0, vi x1, vi 0, vi 1, vi 1, vi d0, vi d1, vi f0, vi f1, vu, vu, vu] [])
      refine gN X3 hx hby at_107 rfl rfl ?_
      refine gN X3 hx hby at_108 rfl rfl ?_
      refine gI X3 hx hby at_109 rfl rfl ?_
      refine gI X3 hx hby at_111 rfl rfl ?_
      refine gI X3 hx hby at_113 rfl rfl ?_
      refine gI X3 hx hby at_115 rfl rfl ?_
      show Goes _ _ _ _ _ (fT T3 m 117 #[vi x0, vi x1, vi 0, vi 1, vi 1, vi d0, vi d1, vi f0, vi f1, vu, vu, vu] [(.int f0), (.int d1), (.int d0), (.int 1), (.int 1), (.int 0)])
      refine gI X3 hx hby at_117 rfl rfl ?_
      refine cSg X3 hx hZ hw hown hby hml e3 mN18 4 5 6 2 0 (rm_text011 l Z a0 hw [] d0 d1 f0 f1 cz h0 n0 Z0 hd0.1 hDg_1 hDg_2 hDg_3 sgC hcz) at_119 (lenOf own_pd19 rfl) (fun _ T12 L12 X12 hQ12 => ?_)
      obtain ⟨u12, rfl, N12q, K12, T_u12_12', g_u12_12', sz_u12_12'⟩ := hQ12
      have N12 := Fr.app N3 N12q
      replace sgC := own_staK sgC K12 all0
      replace sgF := own_staK sgF K12 all0
      replace hR := hR.trans (CHr.keep K12 all0 hR.1)
      replace Z0 := Nat.le_trans Z0 K12.1
      replace hk := Nat.le_trans hk K12.1
      have T_u12 := T_u12_12'
      show Goes _ _ _ _ _ (fT T12 m 122 #[vi x0, vi x1, vi 0, vi 1, vi 1, vi d0, vi d1, vi f0, vi f1, vu, vu, vu] [(.ref u12)])
      refine Gz (XS.astore X12.here hx rfl (hb hby at_122) rfl rfl (l' := #[vi x0, vi x1, vi 0, vi 1, vi 1, vi d0, vi d1, vi f0, vi f1, vr u12, vu, vu]) rfl) ?_
      refine gI X12 hx hby at_124 rfl rfl ?_
      refine gB X12 hx hby at_126 ?_
      show Goes _ _ _ _ _ (fT T12 m 128 #[vi x0, vi x1, vi 0, vi 1, vi 1, vi d0, vi d1, vi f0, vi f1, vr u12, vu, vu] [(.int 48), (.int d0)])
      refine own_join (B := T12.setTop (mkF m 174 #[vi x0, vi x1, vi 0, vi 1, vi 1, vi d0, vi d1, vi f0, vi f1, vr u12, vu, vu] [(.int (own_allz [d0, f0]))])) ?_ ?_
      ·show Goes _ _ _ _ _ (fT T12 m 174 #[vi x0, vi x1, vi 0, vi 1, vi 1, vi d0, vi d1, vi f0, vi f1, vr u12, vu, vu] [(.int (own_allz [d0, f0]))])
       refine gS X12 hx hby at_174 #[vi x0, vi x1, vi 0, vi 1, vi 1, vi d0, vi d1, vi f0, vi f1, vr u12, vi (own_allz [d0, f0]), vu] ?_
       refine gI X12 hx hby at_176 rfl rfl ?_
       by_cases hc178_14 : (own_allz [d0, f0]) = 0
       ·refine gy X12 hx hby at_178 178 187 ((if0 _ _).trans (teq hc178_14).1) ?_
        refine gN X12 hx hby at_187 rfl rfl ?_
        refine gy X12 hx hby at_188 188 197 ((if0 _ _).trans (teq (by decide : ((0 : Int32) = (0 : Int32)))).1) ?_
        refine gC X12 hx hby at_197 ?_
        show Goes _ _ _ _ _ (fT T12 m 198 #[vi x0, vi x1, vi 0, vi 1, vi 1, vi d0, vi d1, vi f0, vi f1, vr u12, vi (own_allz [d0, f0]), vu] [(.int 1)])
        refine gS X12 hx hby at_198 #[vi x0, vi x1, vi 0, vi 1, vi 1, vi d0, vi d1, vi f0, vi f1, vr u12, vi (own_allz [d0, f0]), vi 1] ?_
        refine Gz (XS.aload X12.here hx rfl (hb hby at_200) rfl rfl) ?_
        obtain ⟨_, _, ⟨T15, L15, k15, n15⟩, -, X15, hS15, gr15, ⟨Lc15, hQ15, l15, y15, z15, hC15⟩, st15⟩ := callSS X12 hx (y := mN23) hown (gz hZ hw 37 rfl) (gz hZ hw 38 rfl) (gz hZ hw 39 rfl) (gz hZ hw 40 rfl) (by decide) (backOfSH (W := 0) (rm_so011 l Z a0 hw [] u12 d0 f0 cz fo T12.heap n0 Z0 T_u12 hd0.1 hDg_2 sgC hcz sgF r_fo) hZ (gw hw 40 rfl) (gw hw 39 rfl) (by decide) (by decide) (own_EW hw) hR.1) (g := (mkF m 202 #[vi x0, vi x1, vi 0, vi 1, vi 1, vi d0, vi d1, vi f0, vi f1, vr u12, vi (own_allz [d0, f0]), vi 1] [(.ref u12)])) rfl hml.symm (argsL := [(.ref u12)]) (rest := []) (lenOf own_pd20 rfl) rfl (wz rfl) (hb hby at_202) (fun _ _ => ⟨rfl, rfl, (by decide : 3 + 5 ≤ _), (by decide : 10 + 30 ≤ _)⟩)
        dsimp only [Pt.U, Pt.locs, Pt.cells, Pt.slots] at X15 l15 y15 z15 st15 hQ15 hS15 gr15 hC15
        subst l15 y15 z15
        obtain ⟨X15, hS, hZ, hown⟩ := rebS hS hk X15 hS15 gr15 hZ hown
        replace hk : T15.heap.size ≤ T15.heap.size := Nat.le_refl _
        obtain ⟨rfl, N15q, K15⟩ := hQ15
        have N15 := Fr.app N12 N15q
        replace hR := hR.trans hC15
        replace sgC := own_staK sgC K15 all0
        replace sgF := own_staK sgF K15 all0
        replace T_u12 := T_u12.keep K15 all0
        replace Z0 := Nat.le_trans Z0 K15.1
        refine Gs (fun _ tk => st15.trans tk) ?_
        show Goes _ _ _ _ _ (fT T15 m 205 #[vi x0, vi x1, vi 0, vi 1, vi 1, vi d0, vi d1, vi f0, vi f1, vr u12, vi (own_allz [d0, f0]), vi 1] [(.int (own_sg (own_allz [d0, f0]) (1 : Int32)))])
        refine gI X15 hx hby at_205 rfl rfl ?_
        have hc207_16 : (own_sg (own_allz [d0, f0]) (1 : Int32)) = 1 := by rw [own_sg, if_pos hc178_14]
        refine gU X15 hx hby at_207 (teq hc207_16).2 ?_
        refine gC X15 hx hby at_210 ?_
        refine gG X15 hx hby at_211 211 215 ?_
        refine Goes.retH X15 hS rfl hk hZ (own_EW hw) hh hR (some (.int 1)) (fun h => by rw [hret] at h; cases h) hlk (by decide) (by decide) ?_ (fun fs hr => ?_)
        ·exact ⟨rfl, N15⟩
        ·exact own_retN X15 hx (t := .boolean) hret (by simp) rfl (hb hby at_215) hr
       ·refine gu X12 hx hby at_178 ((if0 _ _).trans (feq hc178_14).1) ?_
        refine gC X12 hx hby at_181 ?_
        refine gS X12 hx hby at_182 #[vi x0, vi x1, vi 0, vi 1, vi 1, vi d0, vi d1, vi f0, vi f1, vr u12, vi (own_allz [d0, f0]), vi 0] ?_
        refine gG X12 hx hby at_184 184 200 ?_
        show Goes _ _ _ _ _ (fT T12 m 200 #[vi x0, vi x1, vi 0, vi 1, vi 1, vi d0, vi d1, vi f0, vi f1, vr u12, vi (own_allz [d0, f0]), vi 0] [])
        refine Gz (XS.aload X12.here hx rfl (hb hby at_200) rfl rfl) ?_
        obtain ⟨_, _, ⟨T17, L17, k17, n17⟩, -, X17, hS17, gr17, ⟨Lc17, hQ17, l17, y17, z17, hC17⟩, st17⟩ := callSS X12 hx (y := mN23) hown (gz hZ hw 37 rfl) (gz hZ hw 38 rfl) (gz hZ hw 39 rfl) (gz hZ hw 40 rfl) (by decide) (backOfSH (W := 0) (rm_so011 l Z a0 hw [] u12 d0 f0 cz fo T12.heap n0 Z0 T_u12 hd0.1 hDg_2 sgC hcz sgF r_fo) hZ (gw hw 40 rfl) (gw hw 39 rfl) (by decide) (by decide) (own_EW hw) hR.1) (g := (mkF m 202 #[vi x0, vi x1, vi 0, vi 1, vi 1, vi d0, vi d1, vi f0, vi f1, vr u12, vi (own_allz [d0, f0]), vi 0] [(.ref u12)])) rfl hml.symm (argsL := [(.ref u12)]) (rest := []) (lenOf own_pd20 rfl) rfl (wz rfl) (hb hby at_202) (fun _ _ => ⟨rfl, rfl, (by decide : 3 + 5 ≤ _), (by decide : 10 + 30 ≤ _)⟩)
        dsimp only [Pt.U, Pt.locs, Pt.cells, Pt.slots] at X17 l17 y17 z17 st17 hQ17 hS17 gr17 hC17
        subst l17 y17 z17
        obtain ⟨X17, hS, hZ, hown⟩ := rebS hS hk X17 hS17 gr17 hZ hown
        replace hk : T17.heap.size ≤ T17.heap.size := Nat.le_refl _
        obtain ⟨rfl, N17q, K17⟩ := hQ17
        have N17 := Fr.app N12 N17q
        replace hR := hR.trans hC17
        replace sgC := own_staK sgC K17 all0
        replace sgF := own_staK sgF K17 all0
        replace T_u12 := T_u12.keep K17 all0
        replace Z0 := Nat.le_trans Z0 K17.1
        refine Gs (fun _ tk => st17.trans tk) ?_
        show Goes _ _ _ _ _ (fT T17 m 205 #[vi x0, vi x1, vi 0, vi 1, vi 1, vi d0, vi d1, vi f0, vi f1, vr u12, vi (own_allz [d0, f0]), vi 0] [(.int (own_sg (own_allz [d0, f0]) (1 : Int32)))])
        refine gI X17 hx hby at_205 rfl rfl ?_
        have hc207_18 : (own_sg (own_allz [d0, f0]) (1 : Int32)) = 0 := by rw [own_sg, if_neg hc178_14]
        refine gU X17 hx hby at_207 (teq hc207_18).2 ?_
        refine gC X17 hx hby at_210 ?_
        refine gG X17 hx hby at_211 211 215 ?_
        refine Goes.retH X17 hS rfl hk hZ (own_EW hw) hh hR (some (.int 1)) (fun h => by rw [hret] at h; cases h) hlk (by decide) (by decide) ?_ (fun fs hr => ?_)
        ·exact ⟨rfl, N17⟩
        ·exact own_retN X17 hx (t := .boolean) hret (by simp) rfl (hb hby at_215) hr
      intro J174_13
      by_cases hc128_19 : d0 = 48
      ·refine gU X12 hx hby at_128 (teq hc128_19).2 ?_
       refine gN X12 hx hby at_131 rfl rfl ?_
       refine gC X12 hx hby at_132 ?_
       refine gY X12 hx hby at_133 133 143 (tlt (by decide : ((1 : Int32) < (2 : Int32)))).1 ?_
       refine gI X12 hx hby at_143 rfl rfl ?_
       refine gC X12 hx hby at_145 ?_
       show Goes _ _ _ _ _ (fT T12 m 146 #[vi x0, vi x1, vi 0, vi 1, vi 1, vi d0, vi d1, vi f0, vi f1, vr u12, vu, vu] [(.int 1), (.int 1)])
       refine gU X12 hx hby at_146 (flt (by decide : ¬ ((1 : Int32) < (1 : Int32)))).1 ?_
       refine gI X12 hx hby at_149 rfl rfl ?_
       refine gB X12 hx hby at_151 ?_
       by_cases hc153_20 : f0 = 48
       ·refine gU X12 hx hby at_153 (teq hc153_20).2 ?_
        refine gI X12 hx hby at_156 rfl rfl ?_
        refine gC X12 hx hby at_158 ?_
        show Goes _ _ _ _ _ (fT T12 m 159 #[vi x0, vi x1, vi 0, vi 1, vi 1, vi d0, vi d1, vi f0, vi f1, vr u12, vu, vu] [(.int 2), (.int 1)])
        refine gY X12 hx hby at_159 159 169 (tlt (by decide : ((1 : Int32) < (2 : Int32)))).1 ?_
        refine gC X12 hx hby at_169 ?_
        refine gG X12 hx hby at_170 170 174 ?_
        rw [show (own_allz [d0, f0]) = 1 from by simp [own_allz, hc128_19, hc153_20]] at J174_13
        exact J174_13
       ·refine gY X12 hx hby at_153 153 173 (feq hc153_20).2 ?_
        refine gC X12 hx hby at_173 ?_
        rw [show (own_allz [d0, f0]) = 0 from by simp [own_allz, hc128_19, hc153_20]] at J174_13
        exact J174_13
      ·refine gY X12 hx hby at_128 128 173 (feq hc128_19).2 ?_
       refine gC X12 hx hby at_173 ?_
       rw [show (own_allz [d0, f0]) = 0 from by simp [own_allz, hc128_19]] at J174_13
       exact J174_13
     ·show Goes _ _ _ _ _ (fT T3 m 107 #[vi x0, vi x1, vi 0, vi 1, vi 2, vi d0, vi d1, vi f0, vi f1, vu, vu, vu] [])
      refine gN X3 hx hby at_107 rfl rfl ?_
      refine gN X3 hx hby at_108 rfl rfl ?_
      refine gI X3 hx hby at_109 rfl rfl ?_
      refine gI X3 hx hby at_111 rfl rfl ?_
      refine gI X3 hx hby at_113 rfl rfl ?_
      refine gI X3 hx hby at_115 rfl rfl ?_
      show Goes _ _ _ _ _ (fT T3 m 117 #[vi x0, vi x1, vi 0, vi 1, vi 2, vi d0, vi d1, vi f0, vi f1, vu, vu, vu] [(.int f0), (.int d1), (.int d0), (.int 2), (.int 1), (.int 0)])
      refine gI X3 hx hby at_117 rfl rfl ?_
      refine cSg X3 hx hZ hw hown hby hml e3 mN18 4 5 6 2 0 (rm_text012 l Z a0 hw [] d0 d1 f0 f1 cz h0 n0 Z0 hd0.1 hDg_1 hDg_2 hDg_3 sgC hcz) at_119 (lenOf own_pd19 rfl) (fun _ T21 L21 X21 hQ21 => ?_)
      obtain ⟨u21, rfl, N21q, K21, T_u21_21', g_u21_21', sz_u21_21'⟩ := hQ21
      have N21 := Fr.app N3 N21q
      replace sgC := own_staK sgC K21 all0
      replace sgF := own_staK sgF K21 all0
      replace hR := hR.trans (CHr.keep K21 all0 hR.1)
      replace Z0 := Nat.le_trans Z0 K21.1
      replace hk := Nat.le_trans hk K21.1
      have T_u21 := T_u21_21'
      show Goes _ _ _ _ _ (fT T21 m 122 #[vi x0, vi x1, vi 0, vi 1, vi 2, vi d0, vi d1, vi f0, vi f1, vu, vu, vu] [(.ref u21)])
      refine Gz (XS.astore X21.here hx rfl (hb hby at_122) rfl rfl (l' := #[vi x0, vi x1, vi 0, vi 1, vi 2, vi d0, vi d1, vi f0, vi f1, vr u21, vu, vu]) rfl) ?_
      refine gI X21 hx hby at_124 rfl rfl ?_
      refine gB X21 hx hby at_126 ?_
      show Goes _ _ _ _ _ (fT T21 m 128 #[vi x0, vi x1, vi 0, vi 1, vi 2, vi d0, vi d1, vi f0, vi f1, vr u21, vu, vu] [(.int 48), (.int d0)])
      refine own_join (B := T21.setTop (mkF m 174 #[vi x0, vi x1, vi 0, vi 1, vi 2, vi d0, vi d1, vi f0, vi f1, vr u21, vu, vu] [(.int (own_allz [d0, f0, f1]))])) ?_ ?_
      ·show Goes _ _ _ _ _ (fT T21 m 174 #[vi x0, vi x1, vi 0, vi 1, vi 2, vi d0, vi d1, vi f0, vi f1, vr u21, vu, vu] [(.int (own_allz [d0, f0, f1]))])
       refine gS X21 hx hby at_174 #[vi x0, vi x1, vi 0, vi 1, vi 2, vi d0, vi d1, vi f0, vi f1, vr u21, vi (own_allz [d0, f0, f1]), vu] ?_
       refine gI X21 hx hby at_176 rfl rfl ?_
       by_cases hc178_23 : (own_allz [d0, f0, f1]) = 0
       ·refine gy X21 hx hby at_178 178 187 ((if0 _ _).trans (teq hc178_23).1) ?_
        refine gN X21 hx hby at_187 rfl rfl ?_
        refine gy X21 hx hby at_188 188 197 ((if0 _ _).trans (teq (by decide : ((0 : Int32) = (0 : Int32)))).1) ?_
        refine gC X21 hx hby at_197 ?_
        show Goes _ _ _ _ _ (fT T21 m 198 #[vi x0, vi x1, vi 0, vi 1, vi 2, vi d0, vi d1, vi f0, vi f1, vr u21, vi (own_allz [d0, f0, f1]), vu] [(.int 1)])
        refine gS X21 hx hby at_198 #[vi x0, vi x1, vi 0, vi 1, vi 2, vi d0, vi d1, vi f0, vi f1, vr u21, vi (own_allz [d0, f0, f1]), vi 1] ?_
        refine Gz (XS.aload X21.here hx rfl (hb hby at_200) rfl rfl) ?_
        obtain ⟨_, _, ⟨T24, L24, k24, n24⟩, -, X24, hS24, gr24, ⟨Lc24, hQ24, l24, y24, z24, hC24⟩, st24⟩ := callSS X21 hx (y := mN23) hown (gz hZ hw 37 rfl) (gz hZ hw 38 rfl) (gz hZ hw 39 rfl) (gz hZ hw 40 rfl) (by decide) (backOfSH (W := 0) (rm_so012 l Z a0 hw [] u21 d0 f0 f1 cz fo T21.heap n0 Z0 T_u21 hd0.1 hDg_2 hDg_3 sgC hcz sgF r_fo) hZ (gw hw 40 rfl) (gw hw 39 rfl) (by decide) (by decide) (own_EW hw) hR.1) (g := (mkF m 202 #[vi x0, vi x1, vi 0, vi 1, vi 2, vi d0, vi d1, vi f0, vi f1, vr u21, vi (own_allz [d0, f0, f1]), vi 1] [(.ref u21)])) rfl hml.symm (argsL := [(.ref u21)]) (rest := []) (lenOf own_pd20 rfl) rfl (wz rfl) (hb hby at_202) (fun _ _ => ⟨rfl, rfl, (by decide : 3 + 5 ≤ _), (by decide : 12 + 30 ≤ _)⟩)
        dsimp only [Pt.U, Pt.locs, Pt.cells, Pt.slots] at X24 l24 y24 z24 st24 hQ24 hS24 gr24 hC24
        subst l24 y24 z24
        obtain ⟨X24, hS, hZ, hown⟩ := rebS hS hk X24 hS24 gr24 hZ hown
        replace hk : T24.heap.size ≤ T24.heap.size := Nat.le_refl _
        obtain ⟨rfl, N24q, K24⟩ := hQ24
        have N24 := Fr.app N21 N24q
        replace hR := hR.trans hC24
        replace sgC := own_staK sgC K24 all0
        replace sgF := own_staK sgF K24 all0
        replace T_u21 := T_u21.keep K24 all0
        replace Z0 := Nat.le_trans Z0 K24.1
        refine Gs (fun _ tk => st24.trans tk) ?_
        show Goes _ _ _ _ _ (fT T24 m 205 #[vi x0, vi x1, vi 0, vi 1, vi 2, vi d0, vi d1, vi f0, vi f1, vr u21, vi (own_allz [d0, f0, f1]), vi 1] [(.int (own_sg (own_allz [d0, f0, f1]) (1 : Int32)))])
        refine gI X24 hx hby at_205 rfl rfl ?_
        have hc207_25 : (own_sg (own_allz [d0, f0, f1]) (1 : Int32)) = 1 := by rw [own_sg, if_pos hc178_23]
        refine gU X24 hx hby at_207 (teq hc207_25).2 ?_
        refine gC X24 hx hby at_210 ?_
        refine gG X24 hx hby at_211 211 215 ?_
        refine Goes.retH X24 hS rfl hk hZ (own_EW hw) hh hR (some (.int 1)) (fun h => by rw [hret] at h; cases h) hlk (by decide) (by decide) ?_ (fun fs hr => ?_)
        ·exact ⟨rfl, N24⟩
        ·exact own_retN X24 hx (t := .boolean) hret (by simp) rfl (hb hby at_215) hr
       ·refine gu X21 hx hby at_178 ((if0 _ _).trans (feq hc178_23).1) ?_
        refine gC X21 hx hby at_181 ?_
        refine gS X21 hx hby at_182 #[vi x0, vi x1, vi 0, vi 1, vi 2, vi d0, vi d1, vi f0, vi f1, vr u21, vi (own_allz [d0, f0, f1]), vi 0] ?_
        refine gG X21 hx hby at_184 184 200 ?_
        show Goes _ _ _ _ _ (fT T21 m 200 #[vi x0, vi x1, vi 0, vi 1, vi 2, vi d0, vi d1, vi f0, vi f1, vr u21, vi (own_allz [d0, f0, f1]), vi 0] [])
        refine Gz (XS.aload X21.here hx rfl (hb hby at_200) rfl rfl) ?_
        obtain ⟨_, _, ⟨T26, L26, k26, n26⟩, -, X26, hS26, gr26, ⟨Lc26, hQ26, l26, y26, z26, hC26⟩, st26⟩ := callSS X21 hx (y := mN23) hown (gz hZ hw 37 rfl) (gz hZ hw 38 rfl) (gz hZ hw 39 rfl) (gz hZ hw 40 rfl) (by decide) (backOfSH (W := 0) (rm_so012 l Z a0 hw [] u21 d0 f0 f1 cz fo T21.heap n0 Z0 T_u21 hd0.1 hDg_2 hDg_3 sgC hcz sgF r_fo) hZ (gw hw 40 rfl) (gw hw 39 rfl) (by decide) (by decide) (own_EW hw) hR.1) (g := (mkF m 202 #[vi x0, vi x1, vi 0, vi 1, vi 2, vi d0, vi d1, vi f0, vi f1, vr u21, vi (own_allz [d0, f0, f1]), vi 0] [(.ref u21)])) rfl hml.symm (argsL := [(.ref u21)]) (rest := []) (lenOf own_pd20 rfl) rfl (wz rfl) (hb hby at_202) (fun _ _ => ⟨rfl, rfl, (by decide : 3 + 5 ≤ _), (by decide : 12 + 30 ≤ _)⟩)
        dsimp only [Pt.U, Pt.locs, Pt.cells, Pt.slots] at X26 l26 y26 z26 st26 hQ26 hS26 gr26 hC26
        subst l26 y26 z26
        obtain ⟨X26, hS, hZ, hown⟩ := rebS hS hk X26 hS26 gr26 hZ hown
        replace hk : T26.heap.size ≤ T26.heap.size := Nat.le_refl _
        obtain ⟨rfl, N26q, K26⟩ := hQ26
        have N26 := Fr.app N21 N26q
        replace hR := hR.trans hC26
        replace sgC := own_staK sgC K26 all0
        replace sgF := own_staK sgF K26 all0
        replace T_u21 := T_u21.keep K26 all0
        replace Z0 := Nat.le_trans Z0 K26.1
        refine Gs (fun _ tk => st26.trans tk) ?_
        show Goes _ _ _ _ _ (fT T26 m 205 #[vi x0, vi x1, vi 0, vi 1, vi 2, vi d0, vi d1, vi f0, vi f1, vr u21, vi (own_allz [d0, f0, f1]), vi 0] [(.int (own_sg (own_allz [d0, f0, f1]) (1 : Int32)))])
        refine gI X26 hx hby at_205 rfl rfl ?_
        have hc207_27 : (own_sg (own_allz [d0, f0, f1]) (1 : Int32)) = 0 := by rw [own_sg, if_neg hc178_23]
        refine gU X26 hx hby at_207 (teq hc207_27).2 ?_
        refine gC X26 hx hby at_210 ?_
        refine gG X26 hx hby at_211 211 215 ?_
        refine Goes.retH X26 hS rfl hk hZ (own_EW hw) hh hR (some (.int 1)) (fun h => by rw [hret] at h; cases h) hlk (by decide) (by decide) ?_ (fun fs hr => ?_)
        ·exact ⟨rfl, N26⟩
        ·exact own_retN X26 hx (t := .boolean) hret (by simp) rfl (hb hby at_215) hr
      intro J174_22
      by_cases hc128_28 : d0 = 48
      ·refine gU X21 hx hby at_128 (teq hc128_28).2 ?_
       refine gN X21 hx hby at_131 rfl rfl ?_
       refine gC X21 hx hby at_132 ?_
       refine gY X21 hx hby at_133 133 143 (tlt (by decide : ((1 : Int32) < (2 : Int32)))).1 ?_
       refine gI X21 hx hby at_143 rfl rfl ?_
       refine gC X21 hx hby at_145 ?_
       show Goes _ _ _ _ _ (fT T21 m 146 #[vi x0, vi x1, vi 0, vi 1, vi 2, vi d0, vi d1, vi f0, vi f1, vr u21, vu, vu] [(.int 1), (.int 2)])
       refine gU X21 hx hby at_146 (flt (by decide : ¬ ((2 : Int32) < (1 : Int32)))).1 ?_
       refine gI X21 hx hby at_149 rfl rfl ?_
       refine gB X21 hx hby at_151 ?_
       by_cases hc153_29 : f0 = 48
       ·refine gU X21 hx hby at_153 (teq hc153_29).2 ?_
        refine gI X21 hx hby at_156 rfl rfl ?_
        refine gC X21 hx hby at_158 ?_
        show Goes _ _ _ _ _ (fT T21 m 159 #[vi x0, vi x1, vi 0, vi 1, vi 2, vi d0, vi d1, vi f0, vi f1, vr u21, vu, vu] [(.int 2), (.int 2)])
        refine gU X21 hx hby at_159 (flt (by decide : ¬ ((2 : Int32) < (2 : Int32)))).1 ?_
        refine gI X21 hx hby at_162 rfl rfl ?_
        refine gB X21 hx hby at_164 ?_
        by_cases hc166_30 : f1 = 48
        ·refine gU X21 hx hby at_166 (teq hc166_30).2 ?_
         refine gC X21 hx hby at_169 ?_
         refine gG X21 hx hby at_170 170 174 ?_
         show Goes _ _ _ _ _ (fT T21 m 174 #[vi x0, vi x1, vi 0, vi 1, vi 2, vi d0, vi d1, vi f0, vi f1, vr u21, vu, vu] [(.int 1)])
         rw [show (own_allz [d0, f0, f1]) = 1 from by simp [own_allz, hc128_28, hc153_29, hc166_30]] at J174_22
         exact J174_22
        ·refine gY X21 hx hby at_166 166 173 (feq hc166_30).2 ?_
         refine gC X21 hx hby at_173 ?_
         rw [show (own_allz [d0, f0, f1]) = 0 from by simp [own_allz, hc128_28, hc153_29, hc166_30]] at J174_22
         exact J174_22
       ·refine gY X21 hx hby at_153 153 173 (feq hc153_29).2 ?_
        refine gC X21 hx hby at_173 ?_
        rw [show (own_allz [d0, f0, f1]) = 0 from by simp [own_allz, hc128_28, hc153_29]] at J174_22
        exact J174_22
      ·refine gY X21 hx hby at_128 128 173 (feq hc128_28).2 ?_
       refine gC X21 hx hby at_173 ?_
       rw [show (own_allz [d0, f0, f1]) = 0 from by simp [own_allz, hc128_28]] at J174_22
       exact J174_22
    ·show Goes _ _ _ _ _ (fT T3 m 107 #[vi x0, vi x1, vi 0, vi 2, vi fl, vi d0, vi d1, vi f0, vi f1, vu, vu, vu] [])
     obtain rfl | rfl | rfl := hfl
     ·show Goes _ _ _ _ _ (fT T3 m 107 #[vi x0, vi x1, vi 0, vi 2, vi 0, vi d0, vi d1, vi f0, vi f1, vu, vu, vu] [])
      refine gN X3 hx hby at_107 rfl rfl ?_
      refine gN X3 hx hby at_108 rfl rfl ?_
      refine gI X3 hx hby at_109 rfl rfl ?_
      refine gI X3 hx hby at_111 rfl rfl ?_
      refine gI X3 hx hby at_113 rfl rfl ?_
      refine gI X3 hx hby at_115 rfl rfl ?_
      show Goes _ _ _ _ _ (fT T3 m 117 #[vi x0, vi x1, vi 0, vi 2, vi 0, vi d0, vi d1, vi f0, vi f1, vu, vu, vu] [(.int f0), (.int d1), (.int d0), (.int 0), (.int 2), (.int 0)])
      refine gI X3 hx hby at_117 rfl rfl ?_
      refine cSg X3 hx hZ hw hown hby hml e3 mN18 4 5 6 2 0 (rm_text020 l Z a0 hw [] d0 d1 f0 f1 cz h0 n0 Z0 hd0.1 hDg_1 hDg_2 hDg_3 sgC hcz) at_119 (lenOf own_pd19 rfl) (fun _ T31 L31 X31 hQ31 => ?_)
      obtain ⟨u31, rfl, N31q, K31, T_u31_31', g_u31_31', sz_u31_31'⟩ := hQ31
      have N31 := Fr.app N3 N31q
      replace sgC := own_staK sgC K31 all0
      replace sgF := own_staK sgF K31 all0
      replace hR := hR.trans (CHr.keep K31 all0 hR.1)
      replace Z0 := Nat.le_trans Z0 K31.1
      replace hk := Nat.le_trans hk K31.1
      have T_u31 := T_u31_31'
      show Goes _ _ _ _ _ (fT T31 m 122 #[vi x0, vi x1, vi 0, vi 2, vi 0, vi d0, vi d1, vi f0, vi f1, vu, vu, vu] [(.ref u31)])
      refine Gz (XS.astore X31.here hx rfl (hb hby at_122) rfl rfl (l' := #[vi x0, vi x1, vi 0, vi 2, vi 0, vi d0, vi d1, vi f0, vi f1, vr u31, vu, vu]) rfl) ?_
      refine gI X31 hx hby at_124 rfl rfl ?_
      refine gB X31 hx hby at_126 ?_
      show Goes _ _ _ _ _ (fT T31 m 128 #[vi x0, vi x1, vi 0, vi 2, vi 0, vi d0, vi d1, vi f0, vi f1, vr u31, vu, vu] [(.int 48), (.int d0)])
      refine own_join (B := T31.setTop (mkF m 174 #[vi x0, vi x1, vi 0, vi 2, vi 0, vi d0, vi d1, vi f0, vi f1, vr u31, vu, vu] [(.int (own_allz [d0, d1]))])) ?_ ?_
      ·show Goes _ _ _ _ _ (fT T31 m 174 #[vi x0, vi x1, vi 0, vi 2, vi 0, vi d0, vi d1, vi f0, vi f1, vr u31, vu, vu] [(.int (own_allz [d0, d1]))])
       refine gS X31 hx hby at_174 #[vi x0, vi x1, vi 0, vi 2, vi 0, vi d0, vi d1, vi f0, vi f1, vr u31, vi (own_allz [d0, d1]), vu] ?_
       refine gI X31 hx hby at_176 rfl rfl ?_
       by_cases hc178_33 : (own_allz [d0, d1]) = 0
       ·refine gy X31 hx hby at_178 178 187 ((if0 _ _).trans (teq hc178_33).1) ?_
        refine gN X31 hx hby at_187 rfl rfl ?_
        refine gy X31 hx hby at_188 188 197 ((if0 _ _).trans (teq (by decide : ((0 : Int32) = (0 : Int32)))).1) ?_
        refine gC X31 hx hby at_197 ?_
        show Goes _ _ _ _ _ (fT T31 m 198 #[vi x0, vi x1, vi 0, vi 2, vi 0, vi d0, vi d1, vi f0, vi f1, vr u31, vi (own_allz [d0, d1]), vu] [(.int 1)])
        refine gS X31 hx hby at_198 #[vi x0, vi x1, vi 0, vi 2, vi 0, vi d0, vi d1, vi f0, vi f1, vr u31, vi (own_allz [d0, d1]), vi 1] ?_
        refine Gz (XS.aload X31.here hx rfl (hb hby at_200) rfl rfl) ?_
        obtain ⟨_, _, ⟨T34, L34, k34, n34⟩, -, X34, hS34, gr34, ⟨Lc34, hQ34, l34, y34, z34, hC34⟩, st34⟩ := callSS X31 hx (y := mN23) hown (gz hZ hw 37 rfl) (gz hZ hw 38 rfl) (gz hZ hw 39 rfl) (gz hZ hw 40 rfl) (by decide) (backOfSH (W := 0) (rm_so020 l Z a0 hw [] u31 d0 d1 cz fo T31.heap n0 Z0 T_u31 hd0.1 hDg_1 (hd0.2 rfl) sgC hcz sgF r_fo) hZ (gw hw 40 rfl) (gw hw 39 rfl) (by decide) (by decide) (own_EW hw) hR.1) (g := (mkF m 202 #[vi x0, vi x1, vi 0, vi 2, vi 0, vi d0, vi d1, vi f0, vi f1, vr u31, vi (own_allz [d0, d1]), vi 1] [(.ref u31)])) rfl hml.symm (argsL := [(.ref u31)]) (rest := []) (lenOf own_pd20 rfl) rfl (wz rfl) (hb hby at_202) (fun _ _ => ⟨rfl, rfl, (by decide : 3 + 5 ≤ _), (by decide : 8 + 30 ≤ _)⟩)
        dsimp only [Pt.U, Pt.locs, Pt.cells, Pt.slots] at X34 l34 y34 z34 st34 hQ34 hS34 gr34 hC34
        subst l34 y34 z34
        obtain ⟨X34, hS, hZ, hown⟩ := rebS hS hk X34 hS34 gr34 hZ hown
        replace hk : T34.heap.size ≤ T34.heap.size := Nat.le_refl _
        obtain ⟨rfl, N34q, K34⟩ := hQ34
        have N34 := Fr.app N31 N34q
        replace hR := hR.trans hC34
        replace sgC := own_staK sgC K34 all0
        replace sgF := own_staK sgF K34 all0
        replace T_u31 := T_u31.keep K34 all0
        replace Z0 := Nat.le_trans Z0 K34.1
        refine Gs (fun _ tk => st34.trans tk) ?_
        show Goes _ _ _ _ _ (fT T34 m 205 #[vi x0, vi x1, vi 0, vi 2, vi 0, vi d0, vi d1, vi f0, vi f1, vr u31, vi (own_allz [d0, d1]), vi 1] [(.int (own_sg (own_allz [d0, d1]) (1 : Int32)))])
        refine gI X34 hx hby at_205 rfl rfl ?_
        have hc207_35 : (own_sg (own_allz [d0, d1]) (1 : Int32)) = 1 := by rw [own_sg, if_pos hc178_33]
        refine gU X34 hx hby at_207 (teq hc207_35).2 ?_
        refine gC X34 hx hby at_210 ?_
        refine gG X34 hx hby at_211 211 215 ?_
        refine Goes.retH X34 hS rfl hk hZ (own_EW hw) hh hR (some (.int 1)) (fun h => by rw [hret] at h; cases h) hlk (by decide) (by decide) ?_ (fun fs hr => ?_)
        ·exact ⟨rfl, N34⟩
        ·exact own_retN X34 hx (t := .boolean) hret (by simp) rfl (hb hby at_215) hr
       ·refine gu X31 hx hby at_178 ((if0 _ _).trans (feq hc178_33).1) ?_
        refine gC X31 hx hby at_181 ?_
        refine gS X31 hx hby at_182 #[vi x0, vi x1, vi 0, vi 2, vi 0, vi d0, vi d1, vi f0, vi f1, vr u31, vi (own_allz [d0, d1]), vi 0] ?_
        refine gG X31 hx hby at_184 184 200 ?_
        show Goes _ _ _ _ _ (fT T31 m 200 #[vi x0, vi x1, vi 0, vi 2, vi 0, vi d0, vi d1, vi f0, vi f1, vr u31, vi (own_allz [d0, d1]), vi 0] [])
        refine Gz (XS.aload X31.here hx rfl (hb hby at_200) rfl rfl) ?_
        obtain ⟨_, _, ⟨T36, L36, k36, n36⟩, -, X36, hS36, gr36, ⟨Lc36, hQ36, l36, y36, z36, hC36⟩, st36⟩ := callSS X31 hx (y := mN23) hown (gz hZ hw 37 rfl) (gz hZ hw 38 rfl) (gz hZ hw 39 rfl) (gz hZ hw 40 rfl) (by decide) (backOfSH (W := 0) (rm_so020 l Z a0 hw [] u31 d0 d1 cz fo T31.heap n0 Z0 T_u31 hd0.1 hDg_1 (hd0.2 rfl) sgC hcz sgF r_fo) hZ (gw hw 40 rfl) (gw hw 39 rfl) (by decide) (by decide) (own_EW hw) hR.1) (g := (mkF m 202 #[vi x0, vi x1, vi 0, vi 2, vi 0, vi d0, vi d1, vi f0, vi f1, vr u31, vi (own_allz [d0, d1]), vi 0] [(.ref u31)])) rfl hml.symm (argsL := [(.ref u31)]) (rest := []) (lenOf own_pd20 rfl) rfl (wz rfl) (hb hby at_202) (fun _ _ => ⟨rfl, rfl, (by decide : 3 + 5 ≤ _), (by decide : 8 + 30 ≤ _)⟩)
        dsimp only [Pt.U, Pt.locs, Pt.cells, Pt.slots] at X36 l36 y36 z36 st36 hQ36 hS36 gr36 hC36
        subst l36 y36 z36
        obtain ⟨X36, hS, hZ, hown⟩ := rebS hS hk X36 hS36 gr36 hZ hown
        replace hk : T36.heap.size ≤ T36.heap.size := Nat.le_refl _
        obtain ⟨rfl, N36q, K36⟩ := hQ36
        have N36 := Fr.app N31 N36q
        replace hR := hR.trans hC36
        replace sgC := own_staK sgC K36 all0
        replace sgF := own_staK sgF K36 all0
        replace T_u31 := T_u31.keep K36 all0
        replace Z0 := Nat.le_trans Z0 K36.1
        refine Gs (fun _ tk => st36.trans tk) ?_
        show Goes _ _ _ _ _ (fT T36 m 205 #[vi x0, vi x1, vi 0, vi 2, vi 0, vi d0, vi d1, vi f0, vi f1, vr u31, vi (own_allz [d0, d1]), vi 0] [(.int (own_sg (own_allz [d0, d1]) (1 : Int32)))])
        refine gI X36 hx hby at_205 rfl rfl ?_
        have hc207_37 : (own_sg (own_allz [d0, d1]) (1 : Int32)) = 0 := by rw [own_sg, if_neg hc178_33]
        refine gU X36 hx hby at_207 (teq hc207_37).2 ?_
        refine gC X36 hx hby at_210 ?_
        refine gG X36 hx hby at_211 211 215 ?_
        refine Goes.retH X36 hS rfl hk hZ (own_EW hw) hh hR (some (.int 1)) (fun h => by rw [hret] at h; cases h) hlk (by decide) (by decide) ?_ (fun fs hr => ?_)
        ·exact ⟨rfl, N36⟩
        ·exact own_retN X36 hx (t := .boolean) hret (by simp) rfl (hb hby at_215) hr
      intro J174_32
      refine gY X31 hx hby at_128 128 173 (feq (hd0.2 rfl)).2 ?_
      refine gC X31 hx hby at_173 ?_
      rw [show (own_allz [d0, d1]) = 0 from by simp [own_allz, (hd0.2 rfl)]] at J174_32
      exact J174_32
     ·show Goes _ _ _ _ _ (fT T3 m 107 #[vi x0, vi x1, vi 0, vi 2, vi 1, vi d0, vi d1, vi f0, vi f1, vu, vu, vu] [])
      refine gN X3 hx hby at_107 rfl rfl ?_
      refine gN X3 hx hby at_108 rfl rfl ?_
      refine gI X3 hx hby at_109 rfl rfl ?_
      refine gI X3 hx hby at_111 rfl rfl ?_
      refine gI X3 hx hby at_113 rfl rfl ?_
      refine gI X3 hx hby at_115 rfl rfl ?_
      show Goes _ _ _ _ _ (fT T3 m 117 #[vi x0, vi x1, vi 0, vi 2, vi 1, vi d0, vi d1, vi f0, vi f1, vu, vu, vu] [(.int f0), (.int d1), (.int d0), (.int 1), (.int 2), (.int 0)])
      refine gI X3 hx hby at_117 rfl rfl ?_
      refine cSg X3 hx hZ hw hown hby hml e3 mN18 4 5 6 2 0 (rm_text021 l Z a0 hw [] d0 d1 f0 f1 cz h0 n0 Z0 hd0.1 hDg_1 hDg_2 hDg_3 sgC hcz) at_119 (lenOf own_pd19 rfl) (fun _ T38 L38 X38 hQ38 => ?_)
      obtain ⟨u38, rfl, N38q, K38, T_u38_38', g_u38_38', sz_u38_38'⟩ := hQ38
      have N38 := Fr.app N3 N38q
      replace sgC := own_staK sgC K38 all0
      replace sgF := own_staK sgF K38 all0
      replace hR := hR.trans (CHr.keep K38 all0 hR.1)
      replace Z0 := Nat.le_trans Z0 K38.1
      replace hk := Nat.le_trans hk K38.1
      have T_u38 := T_u38_38'
      show Goes _ _ _ _ _ (fT T38 m 122 #[vi x0, vi x1, vi 0, vi 2, vi 1, vi d0, vi d1, vi f0, vi f1, vu, vu, vu] [(.ref u38)])
      refine Gz (XS.astore X38.here hx rfl (hb hby at_122) rfl rfl (l' := #[vi x0, vi x1, vi 0, vi 2, vi 1, vi d0, vi d1, vi f0, vi f1, vr u38, vu, vu]) rfl) ?_
      refine gI X38 hx hby at_124 rfl rfl ?_
      refine gB X38 hx hby at_126 ?_
      show Goes _ _ _ _ _ (fT T38 m 128 #[vi x0, vi x1, vi 0, vi 2, vi 1, vi d0, vi d1, vi f0, vi f1, vr u38, vu, vu] [(.int 48), (.int d0)])
      refine own_join (B := T38.setTop (mkF m 174 #[vi x0, vi x1, vi 0, vi 2, vi 1, vi d0, vi d1, vi f0, vi f1, vr u38, vu, vu] [(.int (own_allz [d0, d1, f0]))])) ?_ ?_
      ·show Goes _ _ _ _ _ (fT T38 m 174 #[vi x0, vi x1, vi 0, vi 2, vi 1, vi d0, vi d1, vi f0, vi f1, vr u38, vu, vu] [(.int (own_allz [d0, d1, f0]))])
       refine gS X38 hx hby at_174 #[vi x0, vi x1, vi 0, vi 2, vi 1, vi d0, vi d1, vi f0, vi f1, vr u38, vi (own_allz [d0, d1, f0]), vu] ?_
       refine gI X38 hx hby at_176 rfl rfl ?_
       by_cases hc178_40 : (own_allz [d0, d1, f0]) = 0
       ·refine gy X38 hx hby at_178 178 187 ((if0 _ _).trans (teq hc178_40).1) ?_
        refine gN X38 hx hby at_187 rfl rfl ?_
        refine gy X38 hx hby at_188 188 197 ((if0 _ _).trans (teq (by decide : ((0 : Int32) = (0 : Int32)))).1) ?_
        refine gC X38 hx hby at_197 ?_
        show Goes _ _ _ _ _ (fT T38 m 198 #[vi x0, vi x1, vi 0, vi 2, vi 1, vi d0, vi d1, vi f0, vi f1, vr u38, vi (own_allz [d0, d1, f0]), vu] [(.int 1)])
        refine gS X38 hx hby at_198 #[vi x0, vi x1, vi 0, vi 2, vi 1, vi d0, vi d1, vi f0, vi f1, vr u38, vi (own_allz [d0, d1, f0]), vi 1] ?_
        refine Gz (XS.aload X38.here hx rfl (hb hby at_200) rfl rfl) ?_
        obtain ⟨_, _, ⟨T41, L41, k41, n41⟩, -, X41, hS41, gr41, ⟨Lc41, hQ41, l41, y41, z41, hC41⟩, st41⟩ := callSS X38 hx (y := mN23) hown (gz hZ hw 37 rfl) (gz hZ hw 38 rfl) (gz hZ hw 39 rfl) (gz hZ hw 40 rfl) (by decide) (backOfSH (W := 0) (rm_so021 l Z a0 hw [] u38 d0 d1 f0 cz fo T38.heap n0 Z0 T_u38 hd0.1 hDg_1 hDg_2 (hd0.2 rfl) sgC hcz sgF r_fo) hZ (gw hw 40 rfl) (gw hw 39 rfl) (by decide) (by decide) (own_EW hw) hR.1) (g := (mkF m 202 #[vi x0, vi x1, vi 0, vi 2, vi 1, vi d0, vi d1, vi f0, vi f1, vr u38, vi (own_allz [d0, d1, f0]), vi 1] [(.ref u38)])) rfl hml.symm (argsL := [(.ref u38)]) (rest := []) (lenOf own_pd20 rfl) rfl (wz rfl) (hb hby at_202) (fun _ _ => ⟨rfl, rfl, (by decide : 3 + 5 ≤ _), (by decide : 12 + 30 ≤ _)⟩)
        dsimp only [Pt.U, Pt.locs, Pt.cells, Pt.slots] at X41 l41 y41 z41 st41 hQ41 hS41 gr41 hC41
        subst l41 y41 z41
        obtain ⟨X41, hS, hZ, hown⟩ := rebS hS hk X41 hS41 gr41 hZ hown
        replace hk : T41.heap.size ≤ T41.heap.size := Nat.le_refl _
        obtain ⟨rfl, N41q, K41⟩ := hQ41
        have N41 := Fr.app N38 N41q
        replace hR := hR.trans hC41
        replace sgC := own_staK sgC K41 all0
        replace sgF := own_staK sgF K41 all0
        replace T_u38 := T_u38.keep K41 all0
        replace Z0 := Nat.le_trans Z0 K41.1
        refine Gs (fun _ tk => st41.trans tk) ?_
        show Goes _ _ _ _ _ (fT T41 m 205 #[vi x0, vi x1, vi 0, vi 2, vi 1, vi d0, vi d1, vi f0, vi f1, vr u38, vi (own_allz [d0, d1, f0]), vi 1] [(.int (own_sg (own_allz [d0, d1, f0]) (1 : Int32)))])
        refine gI X41 hx hby at_205 rfl rfl ?_
        have hc207_42 : (own_sg (own_allz [d0, d1, f0]) (1 : Int32)) = 1 := by rw [own_sg, if_pos hc178_40]
        refine gU X41 hx hby at_207 (teq hc207_42).2 ?_
        refine gC X41 hx hby at_210 ?_
        refine gG X41 hx hby at_211 211 215 ?_
        refine Goes.retH X41 hS rfl hk hZ (own_EW hw) hh hR (some (.int 1)) (fun h => by rw [hret] at h; cases h) hlk (by decide) (by decide) ?_ (fun fs hr => ?_)
        ·exact ⟨rfl, N41⟩
        ·exact own_retN X41 hx (t := .boolean) hret (by simp) rfl (hb hby at_215) hr
       ·refine gu X38 hx hby at_178 ((if0 _ _).trans (feq hc178_40).1) ?_
        refine gC X38 hx hby at_181 ?_
        refine gS X38 hx hby at_182 #[vi x0, vi x1, vi 0, vi 2, vi 1, vi d0, vi d1, vi f0, vi f1, vr u38, vi (own_allz [d0, d1, f0]), vi 0] ?_
        refine gG X38 hx hby at_184 184 200 ?_
        show Goes _ _ _ _ _ (fT T38 m 200 #[vi x0, vi x1, vi 0, vi 2, vi 1, vi d0, vi d1, vi f0, vi f1, vr u38, vi (own_allz [d0, d1, f0]), vi 0] [])
        refine Gz (XS.aload X38.here hx rfl (hb hby at_200) rfl rfl) ?_
        obtain ⟨_, _, ⟨T43, L43, k43, n43⟩, -, X43, hS43, gr43, ⟨Lc43, hQ43, l43, y43, z43, hC43⟩, st43⟩ := callSS X38 hx (y := mN23) hown (gz hZ hw 37 rfl) (gz hZ hw 38 rfl) (gz hZ hw 39 rfl) (gz hZ hw 40 rfl) (by decide) (backOfSH (W := 0) (rm_so021 l Z a0 hw [] u38 d0 d1 f0 cz fo T38.heap n0 Z0 T_u38 hd0.1 hDg_1 hDg_2 (hd0.2 rfl) sgC hcz sgF r_fo) hZ (gw hw 40 rfl) (gw hw 39 rfl) (by decide) (by decide) (own_EW hw) hR.1) (g := (mkF m 202 #[vi x0, vi x1, vi 0, vi 2, vi 1, vi d0, vi d1, vi f0, vi f1, vr u38, vi (own_allz [d0, d1, f0]), vi 0] [(.ref u38)])) rfl hml.symm (argsL := [(.ref u38)]) (rest := []) (lenOf own_pd20 rfl) rfl (wz rfl) (hb hby at_202) (fun _ _ => ⟨rfl, rfl, (by decide : 3 + 5 ≤ _), (by decide : 12 + 30 ≤ _)⟩)
        dsimp only [Pt.U, Pt.locs, Pt.cells, Pt.slots] at X43 l43 y43 z43 st43 hQ43 hS43 gr43 hC43
        subst l43 y43 z43
        obtain ⟨X43, hS, hZ, hown⟩ := rebS hS hk X43 hS43 gr43 hZ hown
        replace hk : T43.heap.size ≤ T43.heap.size := Nat.le_refl _
        obtain ⟨rfl, N43q, K43⟩ := hQ43
        have N43 := Fr.app N38 N43q
        replace hR := hR.trans hC43
        replace sgC := own_staK sgC K43 all0
        replace sgF := own_staK sgF K43 all0
        replace T_u38 := T_u38.keep K43 all0
        replace Z0 := Nat.le_trans Z0 K43.1
        refine Gs (fun _ tk => st43.trans tk) ?_
        show Goes _ _ _ _ _ (fT T43 m 205 #[vi x0, vi x1, vi 0, vi 2, vi 1, vi d0, vi d1, vi f0, vi f1, vr u38, vi (own_allz [d0, d1, f0]), vi 0] [(.int (own_sg (own_allz [d0, d1, f0]) (1 : Int32)))])
        refine gI X43 hx hby at_205 rfl rfl ?_
        have hc207_44 : (own_sg (own_allz [d0, d1, f0]) (1 : Int32)) = 0 := by rw [own_sg, if_neg hc178_40]
        refine gU X43 hx hby at_207 (teq hc207_44).2 ?_
        refine gC X43 hx hby at_210 ?_
        refine gG X43 hx hby at_211 211 215 ?_
        refine Goes.retH X43 hS rfl hk hZ (own_EW hw) hh hR (some (.int 1)) (fun h => by rw [hret] at h; cases h) hlk (by decide) (by decide) ?_ (fun fs hr => ?_)
        ·exact ⟨rfl, N43⟩
        ·exact own_retN X43 hx (t := .boolean) hret (by simp) rfl (hb hby at_215) hr
      intro J174_39
      refine gY X38 hx hby at_128 128 173 (feq (hd0.2 rfl)).2 ?_
      refine gC X38 hx hby at_173 ?_
      rw [show (own_allz [d0, d1, f0]) = 0 from by simp [own_allz, (hd0.2 rfl)]] at J174_39
      exact J174_39
     ·show Goes _ _ _ _ _ (fT T3 m 107 #[vi x0, vi x1, vi 0, vi 2, vi 2, vi d0, vi d1, vi f0, vi f1, vu, vu, vu] [])
      refine gN X3 hx hby at_107 rfl rfl ?_
      refine gN X3 hx hby at_108 rfl rfl ?_
      refine gI X3 hx hby at_109 rfl rfl ?_
      refine gI X3 hx hby at_111 rfl rfl ?_
      refine gI X3 hx hby at_113 rfl rfl ?_
      refine gI X3 hx hby at_115 rfl rfl ?_
      show Goes _ _ _ _ _ (fT T3 m 117 #[vi x0, vi x1, vi 0, vi 2, vi 2, vi d0, vi d1, vi f0, vi f1, vu, vu, vu] [(.int f0), (.int d1), (.int d0), (.int 2), (.int 2), (.int 0)])
      refine gI X3 hx hby at_117 rfl rfl ?_
      refine cSg X3 hx hZ hw hown hby hml e3 mN18 4 5 6 2 0 (rm_text022 l Z a0 hw [] d0 d1 f0 f1 cz h0 n0 Z0 hd0.1 hDg_1 hDg_2 hDg_3 sgC hcz) at_119 (lenOf own_pd19 rfl) (fun _ T45 L45 X45 hQ45 => ?_)
      obtain ⟨u45, rfl, N45q, K45, T_u45_45', g_u45_45', sz_u45_45'⟩ := hQ45
      have N45 := Fr.app N3 N45q
      replace sgC := own_staK sgC K45 all0
      replace sgF := own_staK sgF K45 all0
      replace hR := hR.trans (CHr.keep K45 all0 hR.1)
      replace Z0 := Nat.le_trans Z0 K45.1
      replace hk := Nat.le_trans hk K45.1
      have T_u45 := T_u45_45'
      show Goes _ _ _ _ _ (fT T45 m 122 #[vi x0, vi x1, vi 0, vi 2, vi 2, vi d0, vi d1, vi f0, vi f1, vu, vu, vu] [(.ref u45)])
      refine Gz (XS.astore X45.here hx rfl (hb hby at_122) rfl rfl (l' := #[vi x0, vi x1, vi 0, vi 2, vi 2, vi d0, vi d1, vi f0, vi f1, vr u45, vu, vu]) rfl) ?_
      refine gI X45 hx hby at_124 rfl rfl ?_
      refine gB X45 hx hby at_126 ?_
      show Goes _ _ _ _ _ (fT T45 m 128 #[vi x0, vi x1, vi 0, vi 2, vi 2, vi d0, vi d1, vi f0, vi f1, vr u45, vu, vu] [(.int 48), (.int d0)])
      refine own_join (B := T45.setTop (mkF m 174 #[vi x0, vi x1, vi 0, vi 2, vi 2, vi d0, vi d1, vi f0, vi f1, vr u45, vu, vu] [(.int (own_allz [d0, d1, f0, f1]))])) ?_ ?_
      ·show Goes _ _ _ _ _ (fT T45 m 174 #[vi x0, vi x1, vi 0, vi 2, vi 2, vi d0, vi d1, vi f0, vi f1, vr u45, vu, vu] [(.int (own_allz [d0, d1, f0, f1]))])
       refine gS X45 hx hby at_174 #[vi x0, vi x1, vi 0, vi 2, vi 2, vi d0, vi d1, vi f0, vi f1, vr u45, vi (own_allz [d0, d1, f0, f1]), vu] ?_
       refine gI X45 hx hby at_176 rfl rfl ?_
       by_cases hc178_47 : (own_allz [d0, d1, f0, f1]) = 0
       ·refine gy X45 hx hby at_178 178 187 ((if0 _ _).trans (teq hc178_47).1) ?_
        refine gN X45 hx hby at_187 rfl rfl ?_
        refine gy X45 hx hby at_188 188 197 ((if0 _ _).trans (teq (by decide : ((0 : Int32) = (0 : Int32)))).1) ?_
        refine gC X45 hx hby at_197 ?_
        show Goes _ _ _ _ _ (fT T45 m 198 #[vi x0, vi x1, vi 0, vi 2, vi 2, vi d0, vi d1, vi f0, vi f1, vr u45, vi (own_allz [d0, d1, f0, f1]), vu] [(.int 1)])
        refine gS X45 hx hby at_198 #[vi x0, vi x1, vi 0, vi 2, vi 2, vi d0, vi d1, vi f0, vi f1, vr u45, vi (own_allz [d0, d1, f0, f1]), vi 1] ?_
        refine Gz (XS.aload X45.here hx rfl (hb hby at_200) rfl rfl) ?_
        obtain ⟨_, _, ⟨T48, L48, k48, n48⟩, -, X48, hS48, gr48, ⟨Lc48, hQ48, l48, y48, z48, hC48⟩, st48⟩ := callSS X45 hx (y := mN23) hown (gz hZ hw 37 rfl) (gz hZ hw 38 rfl) (gz hZ hw 39 rfl) (gz hZ hw 40 rfl) (by decide) (backOfSH (W := 0) (rm_so022 l Z a0 hw [] u45 d0 d1 f0 f1 cz fo T45.heap n0 Z0 T_u45 hd0.1 hDg_1 hDg_2 hDg_3 (hd0.2 rfl) sgC hcz sgF r_fo) hZ (gw hw 40 rfl) (gw hw 39 rfl) (by decide) (by decide) (own_EW hw) hR.1) (g := (mkF m 202 #[vi x0, vi x1, vi 0, vi 2, vi 2, vi d0, vi d1, vi f0, vi f1, vr u45, vi (own_allz [d0, d1, f0, f1]), vi 1] [(.ref u45)])) rfl hml.symm (argsL := [(.ref u45)]) (rest := []) (lenOf own_pd20 rfl) rfl (wz rfl) (hb hby at_202) (fun _ _ => ⟨rfl, rfl, (by decide : 3 + 5 ≤ _), (by decide : 14 + 30 ≤ _)⟩)
        dsimp only [Pt.U, Pt.locs, Pt.cells, Pt.slots] at X48 l48 y48 z48 st48 hQ48 hS48 gr48 hC48
        subst l48 y48 z48
        obtain ⟨X48, hS, hZ, hown⟩ := rebS hS hk X48 hS48 gr48 hZ hown
        replace hk : T48.heap.size ≤ T48.heap.size := Nat.le_refl _
        obtain ⟨rfl, N48q, K48⟩ := hQ48
        have N48 := Fr.app N45 N48q
        replace hR := hR.trans hC48
        replace sgC := own_staK sgC K48 all0
        replace sgF := own_staK sgF K48 all0
        replace T_u45 := T_u45.keep K48 all0
        replace Z0 := Nat.le_trans Z0 K48.1
        refine Gs (fun _ tk => st48.trans tk) ?_
        show Goes _ _ _ _ _ (fT T48 m 205 #[vi x0, vi x1, vi 0, vi 2, vi 2, vi d0, vi d1, vi f0, vi f1, vr u45, vi (own_allz [d0, d1, f0, f1]), vi 1] [(.int (own_sg (own_allz [d0, d1, f0, f1]) (1 : Int32)))])
        refine gI X48 hx hby at_205 rfl rfl ?_
        have hc207_49 : (own_sg (own_allz [d0, d1, f0, f1]) (1 : Int32)) = 1 := by rw [own_sg, if_pos hc178_47]
        refine gU X48 hx hby at_207 (teq hc207_49).2 ?_
        refine gC X48 hx hby at_210 ?_
        refine gG X48 hx hby at_211 211 215 ?_
        refine Goes.retH X48 hS rfl hk hZ (own_EW hw) hh hR (some (.int 1)) (fun h => by rw [hret] at h; cases h) hlk (by decide) (by decide) ?_ (fun fs hr => ?_)
        ·exact ⟨rfl, N48⟩
        ·exact own_retN X48 hx (t := .boolean) hret (by simp) rfl (hb hby at_215) hr
       ·refine gu X45 hx hby at_178 ((if0 _ _).trans (feq hc178_47).1) ?_
        refine gC X45 hx hby at_181 ?_
        refine gS X45 hx hby at_182 #[vi x0, vi x1, vi 0, vi 2, vi 2, vi d0, vi d1, vi f0, vi f1, vr u45, vi (own_allz [d0, d1, f0, f1]), vi 0] ?_
        refine gG X45 hx hby at_184 184 200 ?_
        show Goes _ _ _ _ _ (fT T45 m 200 #[vi x0, vi x1, vi 0, vi 2, vi 2, vi d0, vi d1, vi f0, vi f1, vr u45, vi (own_allz [d0, d1, f0, f1]), vi 0] [])
        refine Gz (XS.aload X45.here hx rfl (hb hby at_200) rfl rfl) ?_
        obtain ⟨_, _, ⟨T50, L50, k50, n50⟩, -, X50, hS50, gr50, ⟨Lc50, hQ50, l50, y50, z50, hC50⟩, st50⟩ := callSS X45 hx (y := mN23) hown (gz hZ hw 37 rfl) (gz hZ hw 38 rfl) (gz hZ hw 39 rfl) (gz hZ hw 40 rfl) (by decide) (backOfSH (W := 0) (rm_so022 l Z a0 hw [] u45 d0 d1 f0 f1 cz fo T45.heap n0 Z0 T_u45 hd0.1 hDg_1 hDg_2 hDg_3 (hd0.2 rfl) sgC hcz sgF r_fo) hZ (gw hw 40 rfl) (gw hw 39 rfl) (by decide) (by decide) (own_EW hw) hR.1) (g := (mkF m 202 #[vi x0, vi x1, vi 0, vi 2, vi 2, vi d0, vi d1, vi f0, vi f1, vr u45, vi (own_allz [d0, d1, f0, f1]), vi 0] [(.ref u45)])) rfl hml.symm (argsL := [(.ref u45)]) (rest := []) (lenOf own_pd20 rfl) rfl (wz rfl) (hb hby at_202) (fun _ _ => ⟨rfl, rfl, (by decide : 3 + 5 ≤ _), (by decide : 14 + 30 ≤ _)⟩)
        dsimp only [Pt.U, Pt.locs, Pt.cells, Pt.slots] at X50 l50 y50 z50 st50 hQ50 hS50 gr50 hC50
        subst l50 y50 z50
        obtain ⟨X50, hS, hZ, hown⟩ := rebS hS hk X50 hS50 gr50 hZ hown
        replace hk : T50.heap.size ≤ T50.heap.size := Nat.le_refl _
        obtain ⟨rfl, N50q, K50⟩ := hQ50
        have N50 := Fr.app N45 N50q
        replace hR := hR.trans hC50
        replace sgC := own_staK sgC K50 all0
        replace sgF := own_staK sgF K50 all0
        replace T_u45 := T_u45.keep K50 all0
        replace Z0 := Nat.le_trans Z0 K50.1
        refine Gs (fun _ tk => st50.trans tk) ?_
        show Goes _ _ _ _ _ (fT T50 m 205 #[vi x0, vi x1, vi 0, vi 2, vi 2, vi d0, vi d1, vi f0, vi f1, vr u45, vi (own_allz [d0, d1, f0, f1]), vi 0] [(.int (own_sg (own_allz [d0, d1, f0, f1]) (1 : Int32)))])
        refine gI X50 hx hby at_205 rfl rfl ?_
        have hc207_51 : (own_sg (own_allz [d0, d1, f0, f1]) (1 : Int32)) = 0 := by rw [own_sg, if_neg hc178_47]
        refine gU X50 hx hby at_207 (teq hc207_51).2 ?_
        refine gC X50 hx hby at_210 ?_
        refine gG X50 hx hby at_211 211 215 ?_
        refine Goes.retH X50 hS rfl hk hZ (own_EW hw) hh hR (some (.int 1)) (fun h => by rw [hret] at h; cases h) hlk (by decide) (by decide) ?_ (fun fs hr => ?_)
        ·exact ⟨rfl, N50⟩
        ·exact own_retN X50 hx (t := .boolean) hret (by simp) rfl (hb hby at_215) hr
      intro J174_46
      refine gY X45 hx hby at_128 128 173 (feq (hd0.2 rfl)).2 ?_
      refine gC X45 hx hby at_173 ?_
      rw [show (own_allz [d0, d1, f0, f1]) = 0 from by simp [own_allz, (hd0.2 rfl)]] at J174_46
      exact J174_46
   ·show Goes _ _ _ _ _ (fT T3 m 107 #[vi x0, vi x1, vi 1, vi il, vi fl, vi d0, vi d1, vi f0, vi f1, vu, vu, vu] [])
    obtain rfl | rfl := hil
    ·show Goes _ _ _ _ _ (fT T3 m 107 #[vi x0, vi x1, vi 1, vi 1, vi fl, vi d0, vi d1, vi f0, vi f1, vu, vu, vu] [])
     obtain rfl | rfl | rfl := hfl
     ·show Goes _ _ _ _ _ (fT T3 m 107 #[vi x0, vi x1, vi 1, vi 1, vi 0, vi d0, vi d1, vi f0, vi f1, vu, vu, vu] [])
      refine gN X3 hx hby at_107 rfl rfl ?_
      refine gN X3 hx hby at_108 rfl rfl ?_
      refine gI X3 hx hby at_109 rfl rfl ?_
      refine gI X3 hx hby at_111 rfl rfl ?_
      refine gI X3 hx hby at_113 rfl rfl ?_
      refine gI X3 hx hby at_115 rfl rfl ?_
      show Goes _ _ _ _ _ (fT T3 m 117 #[vi x0, vi x1, vi 1, vi 1, vi 0, vi d0, vi d1, vi f0, vi f1, vu, vu, vu] [(.int f0), (.int d1), (.int d0), (.int 0), (.int 1), (.int 1)])
      refine gI X3 hx hby at_117 rfl rfl ?_
      refine cSg X3 hx hZ hw hown hby hml e3 mN18 4 5 6 2 0 (rm_text110 l Z a0 hw [] d0 d1 f0 f1 cz h0 n0 Z0 hd0.1 hDg_1 hDg_2 hDg_3 sgC hcz) at_119 (lenOf own_pd19 rfl) (fun _ T52 L52 X52 hQ52 => ?_)
      obtain ⟨u52, rfl, N52q, K52, T_u52_52', g_u52_52', sz_u52_52'⟩ := hQ52
      have N52 := Fr.app N3 N52q
      replace sgC := own_staK sgC K52 all0
      replace sgF := own_staK sgF K52 all0
      replace hR := hR.trans (CHr.keep K52 all0 hR.1)
      replace Z0 := Nat.le_trans Z0 K52.1
      replace hk := Nat.le_trans hk K52.1
      have T_u52 := T_u52_52'
      show Goes _ _ _ _ _ (fT T52 m 122 #[vi x0, vi x1, vi 1, vi 1, vi 0, vi d0, vi d1, vi f0, vi f1, vu, vu, vu] [(.ref u52)])
      refine Gz (XS.astore X52.here hx rfl (hb hby at_122) rfl rfl (l' := #[vi x0, vi x1, vi 1, vi 1, vi 0, vi d0, vi d1, vi f0, vi f1, vr u52, vu, vu]) rfl) ?_
      refine gI X52 hx hby at_124 rfl rfl ?_
      refine gB X52 hx hby at_126 ?_
      show Goes _ _ _ _ _ (fT T52 m 128 #[vi x0, vi x1, vi 1, vi 1, vi 0, vi d0, vi d1, vi f0, vi f1, vr u52, vu, vu] [(.int 48), (.int d0)])
      refine own_join (B := T52.setTop (mkF m 174 #[vi x0, vi x1, vi 1, vi 1, vi 0, vi d0, vi d1, vi f0, vi f1, vr u52, vu, vu] [(.int (own_allz [d0]))])) ?_ ?_
      ·show Goes _ _ _ _ _ (fT T52 m 174 #[vi x0, vi x1, vi 1, vi 1, vi 0, vi d0, vi d1, vi f0, vi f1, vr u52, vu, vu] [(.int (own_allz [d0]))])
       refine gS X52 hx hby at_174 #[vi x0, vi x1, vi 1, vi 1, vi 0, vi d0, vi d1, vi f0, vi f1, vr u52, vi (own_allz [d0]), vu] ?_
       refine gI X52 hx hby at_176 rfl rfl ?_
       by_cases hc178_54 : (own_allz [d0]) = 0
       ·refine gy X52 hx hby at_178 178 187 ((if0 _ _).trans (teq hc178_54).1) ?_
        refine gN X52 hx hby at_187 rfl rfl ?_
        refine gu X52 hx hby at_188 ((if0 _ _).trans (feq (by decide : ¬ ((1 : Int32) = (0 : Int32)))).1) ?_
        refine gC X52 hx hby at_191 ?_
        show Goes _ _ _ _ _ (fT T52 m 192 #[vi x0, vi x1, vi 1, vi 1, vi 0, vi d0, vi d1, vi f0, vi f1, vr u52, vi (own_allz [d0]), vu] [(.int (-1 : Int32))])
        refine gS X52 hx hby at_192 #[vi x0, vi x1, vi 1, vi 1, vi 0, vi d0, vi d1, vi f0, vi f1, vr u52, vi (own_allz [d0]), vi (-1 : Int32)] ?_
        refine gG X52 hx hby at_194 194 200 ?_
        refine Gz (XS.aload X52.here hx rfl (hb hby at_200) rfl rfl) ?_
        obtain ⟨_, _, ⟨T55, L55, k55, n55⟩, -, X55, hS55, gr55, ⟨Lc55, hQ55, l55, y55, z55, hC55⟩, st55⟩ := callSS X52 hx (y := mN23) hown (gz hZ hw 37 rfl) (gz hZ hw 38 rfl) (gz hZ hw 39 rfl) (gz hZ hw 40 rfl) (by decide) (backOfSH (W := 0) (rm_so110 l Z a0 hw [] u52 d0 cz fo T52.heap n0 Z0 T_u52 hd0.1 sgC hcz sgF r_fo) hZ (gw hw 40 rfl) (gw hw 39 rfl) (by decide) (by decide) (own_EW hw) hR.1) (g := (mkF m 202 #[vi x0, vi x1, vi 1, vi 1, vi 0, vi d0, vi d1, vi f0, vi f1, vr u52, vi (own_allz [d0]), vi (-1 : Int32)] [(.ref u52)])) rfl hml.symm (argsL := [(.ref u52)]) (rest := []) (lenOf own_pd20 rfl) rfl (wz rfl) (hb hby at_202) (fun _ _ => ⟨rfl, rfl, (by decide : 3 + 5 ≤ _), (by decide : 8 + 30 ≤ _)⟩)
        dsimp only [Pt.U, Pt.locs, Pt.cells, Pt.slots] at X55 l55 y55 z55 st55 hQ55 hS55 gr55 hC55
        subst l55 y55 z55
        obtain ⟨X55, hS, hZ, hown⟩ := rebS hS hk X55 hS55 gr55 hZ hown
        replace hk : T55.heap.size ≤ T55.heap.size := Nat.le_refl _
        obtain ⟨rfl, N55q, K55⟩ := hQ55
        have N55 := Fr.app N52 N55q
        replace hR := hR.trans hC55
        replace sgC := own_staK sgC K55 all0
        replace sgF := own_staK sgF K55 all0
        replace T_u52 := T_u52.keep K55 all0
        replace Z0 := Nat.le_trans Z0 K55.1
        refine Gs (fun _ tk => st55.trans tk) ?_
        show Goes _ _ _ _ _ (fT T55 m 205 #[vi x0, vi x1, vi 1, vi 1, vi 0, vi d0, vi d1, vi f0, vi f1, vr u52, vi (own_allz [d0]), vi (-1 : Int32)] [(.int (own_sg (own_allz [d0]) (-1 : Int32)))])
        refine gI X55 hx hby at_205 rfl rfl ?_
        have hc207_56 : (own_sg (own_allz [d0]) (-1 : Int32)) = (-1 : Int32) := by rw [own_sg, if_pos hc178_54]
        refine gU X55 hx hby at_207 (teq hc207_56).2 ?_
        refine gC X55 hx hby at_210 ?_
        refine gG X55 hx hby at_211 211 215 ?_
        refine Goes.retH X55 hS rfl hk hZ (own_EW hw) hh hR (some (.int 1)) (fun h => by rw [hret] at h; cases h) hlk (by decide) (by decide) ?_ (fun fs hr => ?_)
        ·exact ⟨rfl, N55⟩
        ·exact own_retN X55 hx (t := .boolean) hret (by simp) rfl (hb hby at_215) hr
       ·refine gu X52 hx hby at_178 ((if0 _ _).trans (feq hc178_54).1) ?_
        refine gC X52 hx hby at_181 ?_
        refine gS X52 hx hby at_182 #[vi x0, vi x1, vi 1, vi 1, vi 0, vi d0, vi d1, vi f0, vi f1, vr u52, vi (own_allz [d0]), vi 0] ?_
        refine gG X52 hx hby at_184 184 200 ?_
        show Goes _ _ _ _ _ (fT T52 m 200 #[vi x0, vi x1, vi 1, vi 1, vi 0, vi d0, vi d1, vi f0, vi f1, vr u52, vi (own_allz [d0]), vi 0] [])
        refine Gz (XS.aload X52.here hx rfl (hb hby at_200) rfl rfl) ?_
        obtain ⟨_, _, ⟨T57, L57, k57, n57⟩, -, X57, hS57, gr57, ⟨Lc57, hQ57, l57, y57, z57, hC57⟩, st57⟩ := callSS X52 hx (y := mN23) hown (gz hZ hw 37 rfl) (gz hZ hw 38 rfl) (gz hZ hw 39 rfl) (gz hZ hw 40 rfl) (by decide) (backOfSH (W := 0) (rm_so110 l Z a0 hw [] u52 d0 cz fo T52.heap n0 Z0 T_u52 hd0.1 sgC hcz sgF r_fo) hZ (gw hw 40 rfl) (gw hw 39 rfl) (by decide) (by decide) (own_EW hw) hR.1) (g := (mkF m 202 #[vi x0, vi x1, vi 1, vi 1, vi 0, vi d0, vi d1, vi f0, vi f1, vr u52, vi (own_allz [d0]), vi 0] [(.ref u52)])) rfl hml.symm (argsL := [(.ref u52)]) (rest := []) (lenOf own_pd20 rfl) rfl (wz rfl) (hb hby at_202) (fun _ _ => ⟨rfl, rfl, (by decide : 3 + 5 ≤ _), (by decide : 8 + 30 ≤ _)⟩)
        dsimp only [Pt.U, Pt.locs, Pt.cells, Pt.slots] at X57 l57 y57 z57 st57 hQ57 hS57 gr57 hC57
        subst l57 y57 z57
        obtain ⟨X57, hS, hZ, hown⟩ := rebS hS hk X57 hS57 gr57 hZ hown
        replace hk : T57.heap.size ≤ T57.heap.size := Nat.le_refl _
        obtain ⟨rfl, N57q, K57⟩ := hQ57
        have N57 := Fr.app N52 N57q
        replace hR := hR.trans hC57
        replace sgC := own_staK sgC K57 all0
        replace sgF := own_staK sgF K57 all0
        replace T_u52 := T_u52.keep K57 all0
        replace Z0 := Nat.le_trans Z0 K57.1
        refine Gs (fun _ tk => st57.trans tk) ?_
        show Goes _ _ _ _ _ (fT T57 m 205 #[vi x0, vi x1, vi 1, vi 1, vi 0, vi d0, vi d1, vi f0, vi f1, vr u52, vi (own_allz [d0]), vi 0] [(.int (own_sg (own_allz [d0]) (-1 : Int32)))])
        refine gI X57 hx hby at_205 rfl rfl ?_
        have hc207_58 : (own_sg (own_allz [d0]) (-1 : Int32)) = 0 := by rw [own_sg, if_neg hc178_54]
        refine gU X57 hx hby at_207 (teq hc207_58).2 ?_
        refine gC X57 hx hby at_210 ?_
        refine gG X57 hx hby at_211 211 215 ?_
        refine Goes.retH X57 hS rfl hk hZ (own_EW hw) hh hR (some (.int 1)) (fun h => by rw [hret] at h; cases h) hlk (by decide) (by decide) ?_ (fun fs hr => ?_)
        ·exact ⟨rfl, N57⟩
        ·exact own_retN X57 hx (t := .boolean) hret (by simp) rfl (hb hby at_215) hr
      intro J174_53
      by_cases hc128_59 : d0 = 48
      ·refine gU X52 hx hby at_128 (teq hc128_59).2 ?_
       refine gN X52 hx hby at_131 rfl rfl ?_
       refine gC X52 hx hby at_132 ?_
       refine gY X52 hx hby at_133 133 143 (tlt (by decide : ((1 : Int32) < (2 : Int32)))).1 ?_
       refine gI X52 hx hby at_143 rfl rfl ?_
       refine gC X52 hx hby at_145 ?_
       show Goes _ _ _ _ _ (fT T52 m 146 #[vi x0, vi x1, vi 1, vi 1, vi 0, vi d0, vi d1, vi f0, vi f1, vr u52, vu, vu] [(.int 1), (.int 0)])
       refine gY X52 hx hby at_146 146 156 (tlt (by decide : ((0 : Int32) < (1 : Int32)))).1 ?_
       refine gI X52 hx hby at_156 rfl rfl ?_
       refine gC X52 hx hby at_158 ?_
       refine gY X52 hx hby at_159 159 169 (tlt (by decide : ((0 : Int32) < (2 : Int32)))).1 ?_
       refine gC X52 hx hby at_169 ?_
       refine gG X52 hx hby at_170 170 174 ?_
       show Goes _ _ _ _ _ (fT T52 m 174 #[vi x0, vi x1, vi 1, vi 1, vi 0, vi d0, vi d1, vi f0, vi f1, vr u52, vu, vu] [(.int 1)])
       rw [show (own_allz [d0]) = 1 from by simp [own_allz, hc128_59]] at J174_53
       exact J174_53
      ·refine gY X52 hx hby at_128 128 173 (feq hc128_59).2 ?_
       refine gC X52 hx hby at_173 ?_
       rw [show (own_allz [d0]) = 0 from by simp [own_allz, hc128_59]] at J174_53
       exact J174_53
     ·show Goes _ _ _ _ _ (fT T3 m 107 #[vi x0, vi x1, vi 1, vi 1, vi 1, vi d0, vi d1, vi f0, vi f1, vu, vu, vu] [])
      refine gN X3 hx hby at_107 rfl rfl ?_
      refine gN X3 hx hby at_108 rfl rfl ?_
      refine gI X3 hx hby at_109 rfl rfl ?_
      refine gI X3 hx hby at_111 rfl rfl ?_
      refine gI X3 hx hby at_113 rfl rfl ?_
      refine gI X3 hx hby at_115 rfl rfl ?_
      show Goes _ _ _ _ _ (fT T3 m 117 #[vi x0, vi x1, vi 1, vi 1, vi 1, vi d0, vi d1, vi f0, vi f1, vu, vu, vu] [(.int f0), (.int d1), (.int d0), (.int 1), (.int 1), (.int 1)])
      refine gI X3 hx hby at_117 rfl rfl ?_
      refine cSg X3 hx hZ hw hown hby hml e3 mN18 4 5 6 2 0 (rm_text111 l Z a0 hw [] d0 d1 f0 f1 cz h0 n0 Z0 hd0.1 hDg_1 hDg_2 hDg_3 sgC hcz) at_119 (lenOf own_pd19 rfl) (fun _ T60 L60 X60 hQ60 => ?_)
      obtain ⟨u60, rfl, N60q, K60, T_u60_60', g_u60_60', sz_u60_60'⟩ := hQ60
      have N60 := Fr.app N3 N60q
      replace sgC := own_staK sgC K60 all0
      replace sgF := own_staK sgF K60 all0
      replace hR := hR.trans (CHr.keep K60 all0 hR.1)
      replace Z0 := Nat.le_trans Z0 K60.1
      replace hk := Nat.le_trans hk K60.1
      have T_u60 := T_u60_60'
      show Goes _ _ _ _ _ (fT T60 m 122 #[vi x0, vi x1, vi 1, vi 1, vi 1, vi d0, vi d1, vi f0, vi f1, vu, vu, vu] [(.ref u60)])
      refine Gz (XS.astore X60.here hx rfl (hb hby at_122) rfl rfl (l' := #[vi x0, vi x1, vi 1, vi 1, vi 1, vi d0, vi d1, vi f0, vi f1, vr u60, vu, vu]) rfl) ?_
      refine gI X60 hx hby at_124 rfl rfl ?_
      refine gB X60 hx hby at_126 ?_
      show Goes _ _ _ _ _ (fT T60 m 128 #[vi x0, vi x1, vi 1, vi 1, vi 1, vi d0, vi d1, vi f0, vi f1, vr u60, vu, vu] [(.int 48), (.int d0)])
      refine own_join (B := T60.setTop (mkF m 174 #[vi x0, vi x1, vi 1, vi 1, vi 1, vi d0, vi d1, vi f0, vi f1, vr u60, vu, vu] [(.int (own_allz [d0, f0]))])) ?_ ?_
      ·show Goes _ _ _ _ _ (fT T60 m 174 #[vi x0, vi x1, vi 1, vi 1, vi 1, vi d0, vi d1, vi f0, vi f1, vr u60, vu, vu] [(.int (own_allz [d0, f0]))])
       refine gS X60 hx hby at_174 #[vi x0, vi x1, vi 1, vi 1, vi 1, vi d0, vi d1, vi f0, vi f1, vr u60, vi (own_allz [d0, f0]), vu] ?_
       refine gI X60 hx hby at_176 rfl rfl ?_
       by_cases hc178_62 : (own_allz [d0, f0]) = 0
       ·refine gy X60 hx hby at_178 178 187 ((if0 _ _).trans (teq hc178_62).1) ?_
        refine gN X60 hx hby at_187 rfl rfl ?_
        refine gu X60 hx hby at_188 ((if0 _ _).trans (feq (by decide : ¬ ((1 : Int32) = (0 : Int32)))).1) ?_
        refine gC X60 hx hby at_191 ?_
        show Goes _ _ _ _ _ (fT T60 m 192 #[vi x0, vi x1, vi 1, vi 1, vi 1, vi d0, vi d1, vi f0, vi f1, vr u60, vi (own_allz [d0, f0]), vu] [(.int (-1 : Int32))])
        refine gS X60 hx hby at_192 #[vi x0, vi x1, vi 1, vi 1, vi 1, vi d0, vi d1, vi f0, vi f1, vr u60, vi (own_allz [d0, f0]), vi (-1 : Int32)] ?_
        refine gG X60 hx hby at_194 194 200 ?_
        refine Gz (XS.aload X60.here hx rfl (hb hby at_200) rfl rfl) ?_
        obtain ⟨_, _, ⟨T63, L63, k63, n63⟩, -, X63, hS63, gr63, ⟨Lc63, hQ63, l63, y63, z63, hC63⟩, st63⟩ := callSS X60 hx (y := mN23) hown (gz hZ hw 37 rfl) (gz hZ hw 38 rfl) (gz hZ hw 39 rfl) (gz hZ hw 40 rfl) (by decide) (backOfSH (W := 0) (rm_so111 l Z a0 hw [] u60 d0 f0 cz fo T60.heap n0 Z0 T_u60 hd0.1 hDg_2 sgC hcz sgF r_fo) hZ (gw hw 40 rfl) (gw hw 39 rfl) (by decide) (by decide) (own_EW hw) hR.1) (g := (mkF m 202 #[vi x0, vi x1, vi 1, vi 1, vi 1, vi d0, vi d1, vi f0, vi f1, vr u60, vi (own_allz [d0, f0]), vi (-1 : Int32)] [(.ref u60)])) rfl hml.symm (argsL := [(.ref u60)]) (rest := []) (lenOf own_pd20 rfl) rfl (wz rfl) (hb hby at_202) (fun _ _ => ⟨rfl, rfl, (by decide : 3 + 5 ≤ _), (by decide : 12 + 30 ≤ _)⟩)
        dsimp only [Pt.U, Pt.locs, Pt.cells, Pt.slots] at X63 l63 y63 z63 st63 hQ63 hS63 gr63 hC63
        subst l63 y63 z63
        obtain ⟨X63, hS, hZ, hown⟩ := rebS hS hk X63 hS63 gr63 hZ hown
        replace hk : T63.heap.size ≤ T63.heap.size := Nat.le_refl _
        obtain ⟨rfl, N63q, K63⟩ := hQ63
        have N63 := Fr.app N60 N63q
        replace hR := hR.trans hC63
        replace sgC := own_staK sgC K63 all0
        replace sgF := own_staK sgF K63 all0
        replace T_u60 := T_u60.keep K63 all0
        replace Z0 := Nat.le_trans Z0 K63.1
        refine Gs (fun _ tk => st63.trans tk) ?_
        show Goes _ _ _ _ _ (fT T63 m 205 #[vi x0, vi x1, vi 1, vi 1, vi 1, vi d0, vi d1, vi f0, vi f1, vr u60, vi (own_allz [d0, f0]), vi (-1 : Int32)] [(.int (own_sg (own_allz [d0, f0]) (-1 : Int32)))])
        refine gI X63 hx hby at_205 rfl rfl ?_
        have hc207_64 : (own_sg (own_allz [d0, f0]) (-1 : Int32)) = (-1 : Int32) := by rw [own_sg, if_pos hc178_62]
        refine gU X63 hx hby at_207 (teq hc207_64).2 ?_
        refine gC X63 hx hby at_210 ?_
        refine gG X63 hx hby at_211 211 215 ?_
        refine Goes.retH X63 hS rfl hk hZ (own_EW hw) hh hR (some (.int 1)) (fun h => by rw [hret] at h; cases h) hlk (by decide) (by decide) ?_ (fun fs hr => ?_)
        ·exact ⟨rfl, N63⟩
        ·exact own_retN X63 hx (t := .boolean) hret (by simp) rfl (hb hby at_215) hr
       ·refine gu X60 hx hby at_178 ((if0 _ _).trans (feq hc178_62).1) ?_
        refine gC X60 hx hby at_181 ?_
        refine gS X60 hx hby at_182 #[vi x0, vi x1, vi 1, vi 1, vi 1, vi d0, vi d1, vi f0, vi f1, vr u60, vi (own_allz [d0, f0]), vi 0] ?_
        refine gG X60 hx hby at_184 184 200 ?_
        show Goes _ _ _ _ _ (fT T60 m 200 #[vi x0, vi x1, vi 1, vi 1, vi 1, vi d0, vi d1, vi f0, vi f1, vr u60, vi (own_allz [d0, f0]), vi 0] [])
        refine Gz (XS.aload X60.here hx rfl (hb hby at_200) rfl rfl) ?_
        obtain ⟨_, _, ⟨T65, L65, k65, n65⟩, -, X65, hS65, gr65, ⟨Lc65, hQ65, l65, y65, z65, hC65⟩, st65⟩ := callSS X60 hx (y := mN23) hown (gz hZ hw 37 rfl) (gz hZ hw 38 rfl) (gz hZ hw 39 rfl) (gz hZ hw 40 rfl) (by decide) (backOfSH (W := 0) (rm_so111 l Z a0 hw [] u60 d0 f0 cz fo T60.heap n0 Z0 T_u60 hd0.1 hDg_2 sgC hcz sgF r_fo) hZ (gw hw 40 rfl) (gw hw 39 rfl) (by decide) (by decide) (own_EW hw) hR.1) (g := (mkF m 202 #[vi x0, vi x1, vi 1, vi 1, vi 1, vi d0, vi d1, vi f0, vi f1, vr u60, vi (own_allz [d0, f0]), vi 0] [(.ref u60)])) rfl hml.symm (argsL := [(.ref u60)]) (rest := []) (lenOf own_pd20 rfl) rfl (wz rfl) (hb hby at_202) (fun _ _ => ⟨rfl, rfl, (by decide : 3 + 5 ≤ _), (by decide : 12 + 30 ≤ _)⟩)
        dsimp only [Pt.U, Pt.locs, Pt.cells, Pt.slots] at X65 l65 y65 z65 st65 hQ65 hS65 gr65 hC65
        subst l65 y65 z65
        obtain ⟨X65, hS, hZ, hown⟩ := rebS hS hk X65 hS65 gr65 hZ hown
        replace hk : T65.heap.size ≤ T65.heap.size := Nat.le_refl _
        obtain ⟨rfl, N65q, K65⟩ := hQ65
        have N65 := Fr.app N60 N65q
        replace hR := hR.trans hC65
        replace sgC := own_staK sgC K65 all0
        replace sgF := own_staK sgF K65 all0
        replace T_u60 := T_u60.keep K65 all0
        replace Z0 := Nat.le_trans Z0 K65.1
        refine Gs (fun _ tk => st65.trans tk) ?_
        show Goes _ _ _ _ _ (fT T65 m 205 #[vi x0, vi x1, vi 1, vi 1, vi 1, vi d0, vi d1, vi f0, vi f1, vr u60, vi (own_allz [d0, f0]), vi 0] [(.int (own_sg (own_allz [d0, f0]) (-1 : Int32)))])
        refine gI X65 hx hby at_205 rfl rfl ?_
        have hc207_66 : (own_sg (own_allz [d0, f0]) (-1 : Int32)) = 0 := by rw [own_sg, if_neg hc178_62]
        refine gU X65 hx hby at_207 (teq hc207_66).2 ?_
        refine gC X65 hx hby at_210 ?_
        refine gG X65 hx hby at_211 211 215 ?_
        refine Goes.retH X65 hS rfl hk hZ (own_EW hw) hh hR (some (.int 1)) (fun h => by rw [hret] at h; cases h) hlk (by decide) (by decide) ?_ (fun fs hr => ?_)
        ·exact ⟨rfl, N65⟩
        ·exact own_retN X65 hx (t := .boolean) hret (by simp) rfl (hb hby at_215) hr
      intro J174_61
      by_cases hc128_67 : d0 = 48
      ·refine gU X60 hx hby at_128 (teq hc128_67).2 ?_
       refine gN X60 hx hby at_131 rfl rfl ?_
       refine gC X60 hx hby at_132 ?_
       refine gY X60 hx hby at_133 133 143 (tlt (by decide : ((1 : Int32) < (2 : Int32)))).1 ?_
       refine gI X60 hx hby at_143 rfl rfl ?_
       refine gC X60 hx hby at_145 ?_
       show Goes _ _ _ _ _ (fT T60 m 146 #[vi x0, vi x1, vi 1, vi 1, vi 1, vi d0, vi d1, vi f0, vi f1, vr u60, vu, vu] [(.int 1), (.int 1)])
       refine gU X60 hx hby at_146 (flt (by decide : ¬ ((1 : Int32) < (1 : Int32)))).1 ?_
       refine gI X60 hx hby at_149 rfl rfl ?_
       refine gB X60 hx hby at_151 ?_
       by_cases hc153_68 : f0 = 48
       ·refine gU X60 hx hby at_153 (teq hc153_68).2 ?_
        refine gI X60 hx hby at_156 rfl rfl ?_
        refine gC X60 hx hby at_158 ?_
        show Goes _ _ _ _ _ (fT T60 m 159 #[vi x0, vi x1, vi 1, vi 1, vi 1, vi d0, vi d1, vi f0, vi f1, vr u60, vu, vu] [(.int 2), (.int 1)])
        refine gY X60 hx hby at_159 159 169 (tlt (by decide : ((1 : Int32) < (2 : Int32)))).1 ?_
        refine gC X60 hx hby at_169 ?_
        refine gG X60 hx hby at_170 170 174 ?_
        rw [show (own_allz [d0, f0]) = 1 from by simp [own_allz, hc128_67, hc153_68]] at J174_61
        exact J174_61
       ·refine gY X60 hx hby at_153 153 173 (feq hc153_68).2 ?_
        refine gC X60 hx hby at_173 ?_
        rw [show (own_allz [d0, f0]) = 0 from by simp [own_allz, hc128_67, hc153_68]] at J174_61
        exact J174_61
      ·refine gY X60 hx hby at_128 128 173 (feq hc128_67).2 ?_
       refine gC X60 hx hby at_173 ?_
       rw [show (own_allz [d0, f0]) = 0 from by simp [own_allz, hc128_67]] at J174_61
       exact J174_61
     ·show Goes _ _ _ _ _ (fT T3 m 107 #[vi x0, vi x1, vi 1, vi 1, vi 2, vi d0, vi d1, vi f0, vi f1, vu, vu, vu] [])
      refine gN X3 hx hby at_107 rfl rfl ?_
      refine gN X3 hx hby at_108 rfl rfl ?_
      refine gI X3 hx hby at_109 rfl rfl ?_
      refine gI X3 hx hby at_111 rfl rfl ?_
      refine gI X3 hx hby at_113 rfl rfl ?_
      refine gI X3 hx hby at_115 rfl rfl ?_
      show Goes _ _ _ _ _ (fT T3 m 117 #[vi x0, vi x1, vi 1, vi 1, vi 2, vi d0, vi d1, vi f0, vi f1, vu, vu, vu] [(.int f0), (.int d1), (.int d0), (.int 2), (.int 1), (.int 1)])
      refine gI X3 hx hby at_117 rfl rfl ?_
      refine cSg X3 hx hZ hw hown hby hml e3 mN18 4 5 6 2 0 (rm_text112 l Z a0 hw [] d0 d1 f0 f1 cz h0 n0 Z0 hd0.1 hDg_1 hDg_2 hDg_3 sgC hcz) at_119 (lenOf own_pd19 rfl) (fun _ T69 L69 X69 hQ69 => ?_)
      obtain ⟨u69, rfl, N69q, K69, T_u69_69', g_u69_69', sz_u69_69'⟩ := hQ69
      have N69 := Fr.app N3 N69q
      replace sgC := own_staK sgC K69 all0
      replace sgF := own_staK sgF K69 all0
      replace hR := hR.trans (CHr.keep K69 all0 hR.1)
      replace Z0 := Nat.le_trans Z0 K69.1
      replace hk := Nat.le_trans hk K69.1
      have T_u69 := T_u69_69'
      show Goes _ _ _ _ _ (fT T69 m 122 #[vi x0, vi x1, vi 1, vi 1, vi 2, vi d0, vi d1, vi f0, vi f1, vu, vu, vu] [(.ref u69)])
      refine Gz (XS.astore X69.here hx rfl (hb hby at_122) rfl rfl (l' := #[vi x0, vi x1, vi 1, vi 1, vi 2, vi d0, vi d1, vi f0, vi f1, vr u69, vu, vu]) rfl) ?_
      refine gI X69 hx hby at_124 rfl rfl ?_
      refine gB X69 hx hby at_126 ?_
      show Goes _ _ _ _ _ (fT T69 m 128 #[vi x0, vi x1, vi 1, vi 1, vi 2, vi d0, vi d1, vi f0, vi f1, vr u69, vu, vu] [(.int 48), (.int d0)])
      refine own_join (B := T69.setTop (mkF m 174 #[vi x0, vi x1, vi 1, vi 1, vi 2, vi d0, vi d1, vi f0, vi f1, vr u69, vu, vu] [(.int (own_allz [d0, f0, f1]))])) ?_ ?_
      ·show Goes _ _ _ _ _ (fT T69 m 174 #[vi x0, vi x1, vi 1, vi 1, vi 2, vi d0, vi d1, vi f0, vi f1, vr u69, vu, vu] [(.int (own_allz [d0, f0, f1]))])
       refine gS X69 hx hby at_174 #[vi x0, vi x1, vi 1, vi 1, vi 2, vi d0, vi d1, vi f0, vi f1, vr u69, vi (own_allz [d0, f0, f1]), vu] ?_
       refine gI X69 hx hby at_176 rfl rfl ?_
       by_cases hc178_71 : (own_allz [d0, f0, f1]) = 0
       ·refine gy X69 hx hby at_178 178 187 ((if0 _ _).trans (teq hc178_71).1) ?_
        refine gN X69 hx hby at_187 rfl rfl ?_
        refine gu X69 hx hby at_188 ((if0 _ _).trans (feq (by decide : ¬ ((1 : Int32) = (0 : Int32)))).1) ?_
        refine gC X69 hx hby at_191 ?_
        show Goes _ _ _ _ _ (fT T69 m 192 #[vi x0, vi x1, vi 1, vi 1, vi 2, vi d0, vi d1, vi f0, vi f1, vr u69, vi (own_allz [d0, f0, f1]), vu] [(.int (-1 : Int32))])
        refine gS X69 hx hby at_192 #[vi x0, vi x1, vi 1, vi 1, vi 2, vi d0, vi d1, vi f0, vi f1, vr u69, vi (own_allz [d0, f0, f1]), vi (-1 : Int32)] ?_
        refine gG X69 hx hby at_194 194 200 ?_
        refine Gz (XS.aload X69.here hx rfl (hb hby at_200) rfl rfl) ?_
        obtain ⟨_, _, ⟨T72, L72, k72, n72⟩, -, X72, hS72, gr72, ⟨Lc72, hQ72, l72, y72, z72, hC72⟩, st72⟩ := callSS X69 hx (y := mN23) hown (gz hZ hw 37 rfl) (gz hZ hw 38 rfl) (gz hZ hw 39 rfl) (gz hZ hw 40 rfl) (by decide) (backOfSH (W := 0) (rm_so112 l Z a0 hw [] u69 d0 f0 f1 cz fo T69.heap n0 Z0 T_u69 hd0.1 hDg_2 hDg_3 sgC hcz sgF r_fo) hZ (gw hw 40 rfl) (gw hw 39 rfl) (by decide) (by decide) (own_EW hw) hR.1) (g := (mkF m 202 #[vi x0, vi x1, vi 1, vi 1, vi 2, vi d0, vi d1, vi f0, vi f1, vr u69, vi (own_allz [d0, f0, f1]), vi (-1 : Int32)] [(.ref u69)])) rfl hml.symm (argsL := [(.ref u69)]) (rest := []) (lenOf own_pd20 rfl) rfl (wz rfl) (hb hby at_202) (fun _ _ => ⟨rfl, rfl, (by decide : 3 + 5 ≤ _), (by decide : 14 + 30 ≤ _)⟩)
        dsimp only [Pt.U, Pt.locs, Pt.cells, Pt.slots] at X72 l72 y72 z72 st72 hQ72 hS72 gr72 hC72
        subst l72 y72 z72
        obtain ⟨X72, hS, hZ, hown⟩ := rebS hS hk X72 hS72 gr72 hZ hown
        replace hk : T72.heap.size ≤ T72.heap.size := Nat.le_refl _
        obtain ⟨rfl, N72q, K72⟩ := hQ72
        have N72 := Fr.app N69 N72q
        replace hR := hR.trans hC72
        replace sgC := own_staK sgC K72 all0
        replace sgF := own_staK sgF K72 all0
        replace T_u69 := T_u69.keep K72 all0
        replace Z0 := Nat.le_trans Z0 K72.1
        refine Gs (fun _ tk => st72.trans tk) ?_
        show Goes _ _ _ _ _ (fT T72 m 205 #[vi x0, vi x1, vi 1, vi 1, vi 2, vi d0, vi d1, vi f0, vi f1, vr u69, vi (own_allz [d0, f0, f1]), vi (-1 : Int32)] [(.int (own_sg (own_allz [d0, f0, f1]) (-1 : Int32)))])
        refine gI X72 hx hby at_205 rfl rfl ?_
        have hc207_73 : (own_sg (own_allz [d0, f0, f1]) (-1 : Int32)) = (-1 : Int32) := by rw [own_sg, if_pos hc178_71]
        refine gU X72 hx hby at_207 (teq hc207_73).2 ?_
        refine gC X72 hx hby at_210 ?_
        refine gG X72 hx hby at_211 211 215 ?_
        refine Goes.retH X72 hS rfl hk hZ (own_EW hw) hh hR (some (.int 1)) (fun h => by rw [hret] at h; cases h) hlk (by decide) (by decide) ?_ (fun fs hr => ?_)
        ·exact ⟨rfl, N72⟩
        ·exact own_retN X72 hx (t := .boolean) hret (by simp) rfl (hb hby at_215) hr
       ·refine gu X69 hx hby at_178 ((if0 _ _).trans (feq hc178_71).1) ?_
        refine gC X69 hx hby at_181 ?_
        refine gS X69 hx hby at_182 #[vi x0, vi x1, vi 1, vi 1, vi 2, vi d0, vi d1, vi f0, vi f1, vr u69, vi (own_allz [d0, f0, f1]), vi 0] ?_
        refine gG X69 hx hby at_184 184 200 ?_
        show Goes _ _ _ _ _ (fT T69 m 200 #[vi x0, vi x1, vi 1, vi 1, vi 2, vi d0, vi d1, vi f0, vi f1, vr u69, vi (own_allz [d0, f0, f1]), vi 0] [])
        refine Gz (XS.aload X69.here hx rfl (hb hby at_200) rfl rfl) ?_
        obtain ⟨_, _, ⟨T74, L74, k74, n74⟩, -, X74, hS74, gr74, ⟨Lc74, hQ74, l74, y74, z74, hC74⟩, st74⟩ := callSS X69 hx (y := mN23) hown (gz hZ hw 37 rfl) (gz hZ hw 38 rfl) (gz hZ hw 39 rfl) (gz hZ hw 40 rfl) (by decide) (backOfSH (W := 0) (rm_so112 l Z a0 hw [] u69 d0 f0 f1 cz fo T69.heap n0 Z0 T_u69 hd0.1 hDg_2 hDg_3 sgC hcz sgF r_fo) hZ (gw hw 40 rfl) (gw hw 39 rfl) (by decide) (by decide) (own_EW hw) hR.1) (g := (mkF m 202 #[vi x0, vi x1, vi 1, vi 1, vi 2, vi d0, vi d1, vi f0, vi f1, vr u69, vi (own_allz [d0, f0, f1]), vi 0] [(.ref u69)])) rfl hml.symm (argsL := [(.ref u69)]) (rest := []) (lenOf own_pd20 rfl) rfl (wz rfl) (hb hby at_202) (fun _ _ => ⟨rfl, rfl, (by decide : 3 + 5 ≤ _), (by decide : 14 + 30 ≤ _)⟩)
        dsimp only [Pt.U, Pt.locs, Pt.cells, Pt.slots] at X74 l74 y74 z74 st74 hQ74 hS74 gr74 hC74
        subst l74 y74 z74
        obtain ⟨X74, hS, hZ, hown⟩ := rebS hS hk X74 hS74 gr74 hZ hown
        replace hk : T74.heap.size ≤ T74.heap.size := Nat.le_refl _
        obtain ⟨rfl, N74q, K74⟩ := hQ74
        have N74 := Fr.app N69 N74q
        replace hR := hR.trans hC74
        replace sgC := own_staK sgC K74 all0
        replace sgF := own_staK sgF K74 all0
        replace T_u69 := T_u69.keep K74 all0
        replace Z0 := Nat.le_trans Z0 K74.1
        refine Gs (fun _ tk => st74.trans tk) ?_
        show Goes _ _ _ _ _ (fT T74 m 205 #[vi x0, vi x1, vi 1, vi 1, vi 2, vi d0, vi d1, vi f0, vi f1, vr u69, vi (own_allz [d0, f0, f1]), vi 0] [(.int (own_sg (own_allz [d0, f0, f1]) (-1 : Int32)))])
        refine gI X74 hx hby at_205 rfl rfl ?_
        have hc207_75 : (own_sg (own_allz [d0, f0, f1]) (-1 : Int32)) = 0 := by rw [own_sg, if_neg hc178_71]
        refine gU X74 hx hby at_207 (teq hc207_75).2 ?_
        refine gC X74 hx hby at_210 ?_
        refine gG X74 hx hby at_211 211 215 ?_
        refine Goes.retH X74 hS rfl hk hZ (own_EW hw) hh hR (some (.int 1)) (fun h => by rw [hret] at h; cases h) hlk (by decide) (by decide) ?_ (fun fs hr => ?_)
        ·exact ⟨rfl, N74⟩
        ·exact own_retN X74 hx (t := .boolean) hret (by simp) rfl (hb hby at_215) hr
      intro J174_70
      by_cases hc128_76 : d0 = 48
      ·refine gU X69 hx hby at_128 (teq hc128_76).2 ?_
       refine gN X69 hx hby at_131 rfl rfl ?_
       refine gC X69 hx hby at_132 ?_
       refine gY X69 hx hby at_133 133 143 (tlt (by decide : ((1 : Int32) < (2 : Int32)))).1 ?_
       refine gI X69 hx hby at_143 rfl rfl ?_
       refine gC X69 hx hby at_145 ?_
       show Goes _ _ _ _ _ (fT T69 m 146 #[vi x0, vi x1, vi 1, vi 1, vi 2, vi d0, vi d1, vi f0, vi f1, vr u69, vu, vu] [(.int 1), (.int 2)])
       refine gU X69 hx hby at_146 (flt (by decide : ¬ ((2 : Int32) < (1 : Int32)))).1 ?_
       refine gI X69 hx hby at_149 rfl rfl ?_
       refine gB X69 hx hby at_151 ?_
       by_cases hc153_77 : f0 = 48
       ·refine gU X69 hx hby at_153 (teq hc153_77).2 ?_
        refine gI X69 hx hby at_156 rfl rfl ?_
        refine gC X69 hx hby at_158 ?_
        show Goes _ _ _ _ _ (fT T69 m 159 #[vi x0, vi x1, vi 1, vi 1, vi 2, vi d0, vi d1, vi f0, vi f1, vr u69, vu, vu] [(.int 2), (.int 2)])
        refine gU X69 hx hby at_159 (flt (by decide : ¬ ((2 : Int32) < (2 : Int32)))).1 ?_
        refine gI X69 hx hby at_162 rfl rfl ?_
        refine gB X69 hx hby at_164 ?_
        by_cases hc166_78 : f1 = 48
        ·refine gU X69 hx hby at_166 (teq hc166_78).2 ?_
         refine gC X69 hx hby at_169 ?_
         refine gG X69 hx hby at_170 170 174 ?_
         show Goes _ _ _ _ _ (fT T69 m 174 #[vi x0, vi x1, vi 1, vi 1, vi 2, vi d0, vi d1, vi f0, vi f1, vr u69, vu, vu] [(.int 1)])
         rw [show (own_allz [d0, f0, f1]) = 1 from by simp [own_allz, hc128_76, hc153_77, hc166_78]] at J174_70
         exact J174_70
        ·refine gY X69 hx hby at_166 166 173 (feq hc166_78).2 ?_
         refine gC X69 hx hby at_173 ?_
         rw [show (own_allz [d0, f0, f1]) = 0 from by simp [own_allz, hc128_76, hc153_77, hc166_78]] at J174_70
         exact J174_70
       ·refine gY X69 hx hby at_153 153 173 (feq hc153_77).2 ?_
        refine gC X69 hx hby at_173 ?_
        rw [show (own_allz [d0, f0, f1]) = 0 from by simp [own_allz, hc128_76, hc153_77]] at J174_70
        exact J174_70
      ·refine gY X69 hx hby at_128 128 173 (feq hc128_76).2 ?_
       refine gC X69 hx hby at_173 ?_
       rw [show (own_allz [d0, f0, f1]) = 0 from by simp [own_allz, hc128_76]] at J174_70
       exact J174_70
    ·show Goes _ _ _ _ _ (fT T3 m 107 #[vi x0, vi x1, vi 1, vi 2, vi fl, vi d0, vi d1, vi f0, vi f1, vu, vu, vu] [])
     obtain rfl | rfl | rfl := hfl
     ·show Goes _ _ _ _ _ (fT T3 m 107 #[vi x0, vi x1, vi 1, vi 2, vi 0, vi d0, vi d1, vi f0, vi f1, vu, vu, vu] [])
      refine gN X3 hx hby at_107 rfl rfl ?_
      refine gN X3 hx hby at_108 rfl rfl ?_
      refine gI X3 hx hby at_109 rfl rfl ?_
      refine gI X3 hx hby at_111 rfl rfl ?_
      refine gI X3 hx hby at_113 rfl rfl ?_
      refine gI X3 hx hby at_115 rfl rfl ?_
      show Goes _ _ _ _ _ (fT T3 m 117 #[vi x0, vi x1, vi 1, vi 2, vi 0, vi d0, vi d1, vi f0, vi f1, vu, vu, vu] [(.int f0), (.int d1), (.int d0), (.int 0), (.int 2), (.int 1)])
      refine gI X3 hx hby at_117 rfl rfl ?_
      refine cSg X3 hx hZ hw hown hby hml e3 mN18 4 5 6 2 0 (rm_text120 l Z a0 hw [] d0 d1 f0 f1 cz h0 n0 Z0 hd0.1 hDg_1 hDg_2 hDg_3 sgC hcz) at_119 (lenOf own_pd19 rfl) (fun _ T79 L79 X79 hQ79 => ?_)
      obtain ⟨u79, rfl, N79q, K79, T_u79_79', g_u79_79', sz_u79_79'⟩ := hQ79
      have N79 := Fr.app N3 N79q
      replace sgC := own_staK sgC K79 all0
      replace sgF := own_staK sgF K79 all0
      replace hR := hR.trans (CHr.keep K79 all0 hR.1)
      replace Z0 := Nat.le_trans Z0 K79.1
      replace hk := Nat.le_trans hk K79.1
      have T_u79 := T_u79_79'
      show Goes _ _ _ _ _ (fT T79 m 122 #[vi x0, vi x1, vi 1, vi 2, vi 0, vi d0, vi d1, vi f0, vi f1, vu, vu, vu] [(.ref u79)])
      refine Gz (XS.astore X79.here hx rfl (hb hby at_122) rfl rfl (l' := #[vi x0, vi x1, vi 1, vi 2, vi 0, vi d0, vi d1, vi f0, vi f1, vr u79, vu, vu]) rfl) ?_
      refine gI X79 hx hby at_124 rfl rfl ?_
      refine gB X79 hx hby at_126 ?_
      show Goes _ _ _ _ _ (fT T79 m 128 #[vi x0, vi x1, vi 1, vi 2, vi 0, vi d0, vi d1, vi f0, vi f1, vr u79, vu, vu] [(.int 48), (.int d0)])
      refine own_join (B := T79.setTop (mkF m 174 #[vi x0, vi x1, vi 1, vi 2, vi 0, vi d0, vi d1, vi f0, vi f1, vr u79, vu, vu] [(.int (own_allz [d0, d1]))])) ?_ ?_
      ·show Goes _ _ _ _ _ (fT T79 m 174 #[vi x0, vi x1, vi 1, vi 2, vi 0, vi d0, vi d1, vi f0, vi f1, vr u79, vu, vu] [(.int (own_allz [d0, d1]))])
       refine gS X79 hx hby at_174 #[vi x0, vi x1, vi 1, vi 2, vi 0, vi d0, vi d1, vi f0, vi f1, vr u79, vi (own_allz [d0, d1]), vu] ?_
       refine gI X79 hx hby at_176 rfl rfl ?_
       by_cases hc178_81 : (own_allz [d0, d1]) = 0
       ·refine gy X79 hx hby at_178 178 187 ((if0 _ _).trans (teq hc178_81).1) ?_
        refine gN X79 hx hby at_187 rfl rfl ?_
        refine gu X79 hx hby at_188 ((if0 _ _).trans (feq (by decide : ¬ ((1 : Int32) = (0 : Int32)))).1) ?_
        refine gC X79 hx hby at_191 ?_
        show Goes _ _ _ _ _ (fT T79 m 192 #[vi x0, vi x1, vi 1, vi 2, vi 0, vi d0, vi d1, vi f0, vi f1, vr u79, vi (own_allz [d0, d1]), vu] [(.int (-1 : Int32))])
        refine gS X79 hx hby at_192 #[vi x0, vi x1, vi 1, vi 2, vi 0, vi d0, vi d1, vi f0, vi f1, vr u79, vi (own_allz [d0, d1]), vi (-1 : Int32)] ?_
        refine gG X79 hx hby at_194 194 200 ?_
        refine Gz (XS.aload X79.here hx rfl (hb hby at_200) rfl rfl) ?_
        obtain ⟨_, _, ⟨T82, L82, k82, n82⟩, -, X82, hS82, gr82, ⟨Lc82, hQ82, l82, y82, z82, hC82⟩, st82⟩ := callSS X79 hx (y := mN23) hown (gz hZ hw 37 rfl) (gz hZ hw 38 rfl) (gz hZ hw 39 rfl) (gz hZ hw 40 rfl) (by decide) (backOfSH (W := 0) (rm_so120 l Z a0 hw [] u79 d0 d1 cz fo T79.heap n0 Z0 T_u79 hd0.1 hDg_1 (hd0.2 rfl) sgC hcz sgF r_fo) hZ (gw hw 40 rfl) (gw hw 39 rfl) (by decide) (by decide) (own_EW hw) hR.1) (g := (mkF m 202 #[vi x0, vi x1, vi 1, vi 2, vi 0, vi d0, vi d1, vi f0, vi f1, vr u79, vi (own_allz [d0, d1]), vi (-1 : Int32)] [(.ref u79)])) rfl hml.symm (argsL := [(.ref u79)]) (rest := []) (lenOf own_pd20 rfl) rfl (wz rfl) (hb hby at_202) (fun _ _ => ⟨rfl, rfl, (by decide : 3 + 5 ≤ _), (by decide : 10 + 30 ≤ _)⟩)
        dsimp only [Pt.U, Pt.locs, Pt.cells, Pt.slots] at X82 l82 y82 z82 st82 hQ82 hS82 gr82 hC82
        subst l82 y82 z82
        obtain ⟨X82, hS, hZ, hown⟩ := rebS hS hk X82 hS82 gr82 hZ hown
        replace hk : T82.heap.size ≤ T82.heap.size := Nat.le_refl _
        obtain ⟨rfl, N82q, K82⟩ := hQ82
        have N82 := Fr.app N79 N82q
        replace hR := hR.trans hC82
        replace sgC := own_staK sgC K82 all0
        replace sgF := own_staK sgF K82 all0
        replace T_u79 := T_u79.keep K82 all0
        replace Z0 := Nat.le_trans Z0 K82.1
        refine Gs (fun _ tk => st82.trans tk) ?_
        show Goes _ _ _ _ _ (fT T82 m 205 #[vi x0, vi x1, vi 1, vi 2, vi 0, vi d0, vi d1, vi f0, vi f1, vr u79, vi (own_allz [d0, d1]), vi (-1 : Int32)] [(.int (own_sg (own_allz [d0, d1]) (-1 : Int32)))])
        refine gI X82 hx hby at_205 rfl rfl ?_
        have hc207_83 : (own_sg (own_allz [d0, d1]) (-1 : Int32)) = (-1 : Int32) := by rw [own_sg, if_pos hc178_81]
        refine gU X82 hx hby at_207 (teq hc207_83).2 ?_
        refine gC X82 hx hby at_210 ?_
        refine gG X82 hx hby at_211 211 215 ?_
        refine Goes.retH X82 hS rfl hk hZ (own_EW hw) hh hR (some (.int 1)) (fun h => by rw [hret] at h; cases h) hlk (by decide) (by decide) ?_ (fun fs hr => ?_)
        ·exact ⟨rfl, N82⟩
        ·exact own_retN X82 hx (t := .boolean) hret (by simp) rfl (hb hby at_215) hr
       ·refine gu X79 hx hby at_178 ((if0 _ _).trans (feq hc178_81).1) ?_
        refine gC X79 hx hby at_181 ?_
        refine gS X79 hx hby at_182 #[vi x0, vi x1, vi 1, vi 2, vi 0, vi d0, vi d1, vi f0, vi f1, vr u79, vi (own_allz [d0, d1]), vi 0] ?_
        refine gG X79 hx hby at_184 184 200 ?_
        show Goes _ _ _ _ _ (fT T79 m 200 #[vi x0, vi x1, vi 1, vi 2, vi 0, vi d0, vi d1, vi f0, vi f1, vr u79, vi (own_allz [d0, d1]), vi 0] [])
        refine Gz (XS.aload X79.here hx rfl (hb hby at_200) rfl rfl) ?_
        obtain ⟨_, _, ⟨T84, L84, k84, n84⟩, -, X84, hS84, gr84, ⟨Lc84, hQ84, l84, y84, z84, hC84⟩, st84⟩ := callSS X79 hx (y := mN23) hown (gz hZ hw 37 rfl) (gz hZ hw 38 rfl) (gz hZ hw 39 rfl) (gz hZ hw 40 rfl) (by decide) (backOfSH (W := 0) (rm_so120 l Z a0 hw [] u79 d0 d1 cz fo T79.heap n0 Z0 T_u79 hd0.1 hDg_1 (hd0.2 rfl) sgC hcz sgF r_fo) hZ (gw hw 40 rfl) (gw hw 39 rfl) (by decide) (by decide) (own_EW hw) hR.1) (g := (mkF m 202 #[vi x0, vi x1, vi 1, vi 2, vi 0, vi d0, vi d1, vi f0, vi f1, vr u79, vi (own_allz [d0, d1]), vi 0] [(.ref u79)])) rfl hml.symm (argsL := [(.ref u79)]) (rest := []) (lenOf own_pd20 rfl) rfl (wz rfl) (hb hby at_202) (fun _ _ => ⟨rfl, rfl, (by decide : 3 + 5 ≤ _), (by decide : 10 + 30 ≤ _)⟩)
        dsimp only [Pt.U, Pt.locs, Pt.cells, Pt.slots] at X84 l84 y84 z84 st84 hQ84 hS84 gr84 hC84
        subst l84 y84 z84
        obtain ⟨X84, hS, hZ, hown⟩ := rebS hS hk X84 hS84 gr84 hZ hown
        replace hk : T84.heap.size ≤ T84.heap.size := Nat.le_refl _
        obtain ⟨rfl, N84q, K84⟩ := hQ84
        have N84 := Fr.app N79 N84q
        replace hR := hR.trans hC84
        replace sgC := own_staK sgC K84 all0
        replace sgF := own_staK sgF K84 all0
        replace T_u79 := T_u79.keep K84 all0
        replace Z0 := Nat.le_trans Z0 K84.1
        refine Gs (fun _ tk => st84.trans tk) ?_
        show Goes _ _ _ _ _ (fT T84 m 205 #[vi x0, vi x1, vi 1, vi 2, vi 0, vi d0, vi d1, vi f0, vi f1, vr u79, vi (own_allz [d0, d1]), vi 0] [(.int (own_sg (own_allz [d0, d1]) (-1 : Int32)))])
        refine gI X84 hx hby at_205 rfl rfl ?_
        have hc207_85 : (own_sg (own_allz [d0, d1]) (-1 : Int32)) = 0 := by rw [own_sg, if_neg hc178_81]
        refine gU X84 hx hby at_207 (teq hc207_85).2 ?_
        refine gC X84 hx hby at_210 ?_
        refine gG X84 hx hby at_211 211 215 ?_
        refine Goes.retH X84 hS rfl hk hZ (own_EW hw) hh hR (some (.int 1)) (fun h => by rw [hret] at h; cases h) hlk (by decide) (by decide) ?_ (fun fs hr => ?_)
        ·exact ⟨rfl, N84⟩
        ·exact own_retN X84 hx (t := .boolean) hret (by simp) rfl (hb hby at_215) hr
      intro J174_80
      refine gY X79 hx hby at_128 128 173 (feq (hd0.2 rfl)).2 ?_
      refine gC X79 hx hby at_173 ?_
      rw [show (own_allz [d0, d1]) = 0 from by simp [own_allz, (hd0.2 rfl)]] at J174_80
      exact J174_80
     ·show Goes _ _ _ _ _ (fT T3 m 107 #[vi x0, vi x1, vi 1, vi 2, vi 1, vi d0, vi d1, vi f0, vi f1, vu, vu, vu] [])
      refine gN X3 hx hby at_107 rfl rfl ?_
      refine gN X3 hx hby at_108 rfl rfl ?_
      refine gI X3 hx hby at_109 rfl rfl ?_
      refine gI X3 hx hby at_111 rfl rfl ?_
      refine gI X3 hx hby at_113 rfl rfl ?_
      refine gI X3 hx hby at_115 rfl rfl ?_
      show Goes _ _ _ _ _ (fT T3 m 117 #[vi x0, vi x1, vi 1, vi 2, vi 1, vi d0, vi d1, vi f0, vi f1, vu, vu, vu] [(.int f0), (.int d1), (.int d0), (.int 1), (.int 2), (.int 1)])
      refine gI X3 hx hby at_117 rfl rfl ?_
      refine cSg X3 hx hZ hw hown hby hml e3 mN18 4 5 6 2 0 (rm_text121 l Z a0 hw [] d0 d1 f0 f1 cz h0 n0 Z0 hd0.1 hDg_1 hDg_2 hDg_3 sgC hcz) at_119 (lenOf own_pd19 rfl) (fun _ T86 L86 X86 hQ86 => ?_)
      obtain ⟨u86, rfl, N86q, K86, T_u86_86', g_u86_86', sz_u86_86'⟩ := hQ86
      have N86 := Fr.app N3 N86q
      replace sgC := own_staK sgC K86 all0
      replace sgF := own_staK sgF K86 all0
      replace hR := hR.trans (CHr.keep K86 all0 hR.1)
      replace Z0 := Nat.le_trans Z0 K86.1
      replace hk := Nat.le_trans hk K86.1
      have T_u86 := T_u86_86'
      show Goes _ _ _ _ _ (fT T86 m 122 #[vi x0, vi x1, vi 1, vi 2, vi 1, vi d0, vi d1, vi f0, vi f1, vu, vu, vu] [(.ref u86)])
      refine Gz (XS.astore X86.here hx rfl (hb hby at_122) rfl rfl (l' := #[vi x0, vi x1, vi 1, vi 2, vi 1, vi d0, vi d1, vi f0, vi f1, vr u86, vu, vu]) rfl) ?_
      refine gI X86 hx hby at_124 rfl rfl ?_
      refine gB X86 hx hby at_126 ?_
      show Goes _ _ _ _ _ (fT T86 m 128 #[vi x0, vi x1, vi 1, vi 2, vi 1, vi d0, vi d1, vi f0, vi f1, vr u86, vu, vu] [(.int 48), (.int d0)])
      refine own_join (B := T86.setTop (mkF m 174 #[vi x0, vi x1, vi 1, vi 2, vi 1, vi d0, vi d1, vi f0, vi f1, vr u86, vu, vu] [(.int (own_allz [d0, d1, f0]))])) ?_ ?_
      ·show Goes _ _ _ _ _ (fT T86 m 174 #[vi x0, vi x1, vi 1, vi 2, vi 1, vi d0, vi d1, vi f0, vi f1, vr u86, vu, vu] [(.int (own_allz [d0, d1, f0]))])
       refine gS X86 hx hby at_174 #[vi x0, vi x1, vi 1, vi 2, vi 1, vi d0, vi d1, vi f0, vi f1, vr u86, vi (own_allz [d0, d1, f0]), vu] ?_
       refine gI X86 hx hby at_176 rfl rfl ?_
       by_cases hc178_88 : (own_allz [d0, d1, f0]) = 0
       ·refine gy X86 hx hby at_178 178 187 ((if0 _ _).trans (teq hc178_88).1) ?_
        refine gN X86 hx hby at_187 rfl rfl ?_
        refine gu X86 hx hby at_188 ((if0 _ _).trans (feq (by decide : ¬ ((1 : Int32) = (0 : Int32)))).1) ?_
        refine gC X86 hx hby at_191 ?_
        show Goes _ _ _ _ _ (fT T86 m 192 #[vi x0, vi x1, vi 1, vi 2, vi 1, vi d0, vi d1, vi f0, vi f1, vr u86, vi (own_allz [d0, d1, f0]), vu] [(.int (-1 : Int32))])
        refine gS X86 hx hby at_192 #[vi x0, vi x1, vi 1, vi 2, vi 1, vi d0, vi d1, vi f0, vi f1, vr u86, vi (own_allz [d0, d1, f0]), vi (-1 : Int32)] ?_
        refine gG X86 hx hby at_194 194 200 ?_
        refine Gz (XS.aload X86.here hx rfl (hb hby at_200) rfl rfl) ?_
        obtain ⟨_, _, ⟨T89, L89, k89, n89⟩, -, X89, hS89, gr89, ⟨Lc89, hQ89, l89, y89, z89, hC89⟩, st89⟩ := callSS X86 hx (y := mN23) hown (gz hZ hw 37 rfl) (gz hZ hw 38 rfl) (gz hZ hw 39 rfl) (gz hZ hw 40 rfl) (by decide) (backOfSH (W := 0) (rm_so121 l Z a0 hw [] u86 d0 d1 f0 cz fo T86.heap n0 Z0 T_u86 hd0.1 hDg_1 hDg_2 (hd0.2 rfl) sgC hcz sgF r_fo) hZ (gw hw 40 rfl) (gw hw 39 rfl) (by decide) (by decide) (own_EW hw) hR.1) (g := (mkF m 202 #[vi x0, vi x1, vi 1, vi 2, vi 1, vi d0, vi d1, vi f0, vi f1, vr u86, vi (own_allz [d0, d1, f0]), vi (-1 : Int32)] [(.ref u86)])) rfl hml.symm (argsL := [(.ref u86)]) (rest := []) (lenOf own_pd20 rfl) rfl (wz rfl) (hb hby at_202) (fun _ _ => ⟨rfl, rfl, (by decide : 3 + 5 ≤ _), (by decide : 14 + 30 ≤ _)⟩)
        dsimp only [Pt.U, Pt.locs, Pt.cells, Pt.slots] at X89 l89 y89 z89 st89 hQ89 hS89 gr89 hC89
        subst l89 y89 z89
        obtain ⟨X89, hS, hZ, hown⟩ := rebS hS hk X89 hS89 gr89 hZ hown
        replace hk : T89.heap.size ≤ T89.heap.size := Nat.le_refl _
        obtain ⟨rfl, N89q, K89⟩ := hQ89
        have N89 := Fr.app N86 N89q
        replace hR := hR.trans hC89
        replace sgC := own_staK sgC K89 all0
        replace sgF := own_staK sgF K89 all0
        replace T_u86 := T_u86.keep K89 all0
        replace Z0 := Nat.le_trans Z0 K89.1
        refine Gs (fun _ tk => st89.trans tk) ?_
        show Goes _ _ _ _ _ (fT T89 m 205 #[vi x0, vi x1, vi 1, vi 2, vi 1, vi d0, vi d1, vi f0, vi f1, vr u86, vi (own_allz [d0, d1, f0]), vi (-1 : Int32)] [(.int (own_sg (own_allz [d0, d1, f0]) (-1 : Int32)))])
        refine gI X89 hx hby at_205 rfl rfl ?_
        have hc207_90 : (own_sg (own_allz [d0, d1, f0]) (-1 : Int32)) = (-1 : Int32) := by rw [own_sg, if_pos hc178_88]
        refine gU X89 hx hby at_207 (teq hc207_90).2 ?_
        refine gC X89 hx hby at_210 ?_
        refine gG X89 hx hby at_211 211 215 ?_
        refine Goes.retH X89 hS rfl hk hZ (own_EW hw) hh hR (some (.int 1)) (fun h => by rw [hret] at h; cases h) hlk (by decide) (by decide) ?_ (fun fs hr => ?_)
        ·exact ⟨rfl, N89⟩
        ·exact own_retN X89 hx (t := .boolean) hret (by simp) rfl (hb hby at_215) hr
       ·refine gu X86 hx hby at_178 ((if0 _ _).trans (feq hc178_88).1) ?_
        refine gC X86 hx hby at_181 ?_
        refine gS X86 hx hby at_182 #[vi x0, vi x1, vi 1, vi 2, vi 1, vi d0, vi d1, vi f0, vi f1, vr u86, vi (own_allz [d0, d1, f0]), vi 0] ?_
        refine gG X86 hx hby at_184 184 200 ?_
        show Goes _ _ _ _ _ (fT T86 m 200 #[vi x0, vi x1, vi 1, vi 2, vi 1, vi d0, vi d1, vi f0, vi f1, vr u86, vi (own_allz [d0, d1, f0]), vi 0] [])
        refine Gz (XS.aload X86.here hx rfl (hb hby at_200) rfl rfl) ?_
        obtain ⟨_, _, ⟨T91, L91, k91, n91⟩, -, X91, hS91, gr91, ⟨Lc91, hQ91, l91, y91, z91, hC91⟩, st91⟩ := callSS X86 hx (y := mN23) hown (gz hZ hw 37 rfl) (gz hZ hw 38 rfl) (gz hZ hw 39 rfl) (gz hZ hw 40 rfl) (by decide) (backOfSH (W := 0) (rm_so121 l Z a0 hw [] u86 d0 d1 f0 cz fo T86.heap n0 Z0 T_u86 hd0.1 hDg_1 hDg_2 (hd0.2 rfl) sgC hcz sgF r_fo) hZ (gw hw 40 rfl) (gw hw 39 rfl) (by decide) (by decide) (own_EW hw) hR.1) (g := (mkF m 202 #[vi x0, vi x1, vi 1, vi 2, vi 1, vi d0, vi d1, vi f0, vi f1, vr u86, vi (own_allz [d0, d1, f0]), vi 0] [(.ref u86)])) rfl hml.symm (argsL := [(.ref u86)]) (rest := []) (lenOf own_pd20 rfl) rfl (wz rfl) (hb hby at_202) (fun _ _ => ⟨rfl, rfl, (by decide : 3 + 5 ≤ _), (by decide : 14 + 30 ≤ _)⟩)
        dsimp only [Pt.U, Pt.locs, Pt.cells, Pt.slots] at X91 l91 y91 z91 st91 hQ91 hS91 gr91 hC91
        subst l91 y91 z91
        obtain ⟨X91, hS, hZ, hown⟩ := rebS hS hk X91 hS91 gr91 hZ hown
        replace hk : T91.heap.size ≤ T91.heap.size := Nat.le_refl _
        obtain ⟨rfl, N91q, K91⟩ := hQ91
        have N91 := Fr.app N86 N91q
        replace hR := hR.trans hC91
        replace sgC := own_staK sgC K91 all0
        replace sgF := own_staK sgF K91 all0
        replace T_u86 := T_u86.keep K91 all0
        replace Z0 := Nat.le_trans Z0 K91.1
        refine Gs (fun _ tk => st91.trans tk) ?_
        show Goes _ _ _ _ _ (fT T91 m 205 #[vi x0, vi x1, vi 1, vi 2, vi 1, vi d0, vi d1, vi f0, vi f1, vr u86, vi (own_allz [d0, d1, f0]), vi 0] [(.int (own_sg (own_allz [d0, d1, f0]) (-1 : Int32)))])
        refine gI X91 hx hby at_205 rfl rfl ?_
        have hc207_92 : (own_sg (own_allz [d0, d1, f0]) (-1 : Int32)) = 0 := by rw [own_sg, if_neg hc178_88]
        refine gU X91 hx hby at_207 (teq hc207_92).2 ?_
        refine gC X91 hx hby at_210 ?_
        refine gG X91 hx hby at_211 211 215 ?_
        refine Goes.retH X91 hS rfl hk hZ (own_EW hw) hh hR (some (.int 1)) (fun h => by rw [hret] at h; cases h) hlk (by decide) (by decide) ?_ (fun fs hr => ?_)
        ·exact ⟨rfl, N91⟩
        ·exact own_retN X91 hx (t := .boolean) hret (by simp) rfl (hb hby at_215) hr
      intro J174_87
      refine gY X86 hx hby at_128 128 173 (feq (hd0.2 rfl)).2 ?_
      refine gC X86 hx hby at_173 ?_
      rw [show (own_allz [d0, d1, f0]) = 0 from by simp [own_allz, (hd0.2 rfl)]] at J174_87
      exact J174_87
     ·show Goes _ _ _ _ _ (fT T3 m 107 #[vi x0, vi x1, vi 1, vi 2, vi 2, vi d0, vi d1, vi f0, vi f1, vu, vu, vu] [])
      refine gN X3 hx hby at_107 rfl rfl ?_
      refine gN X3 hx hby at_108 rfl rfl ?_
      refine gI X3 hx hby at_109 rfl rfl ?_
      refine gI X3 hx hby at_111 rfl rfl ?_
      refine gI X3 hx hby at_113 rfl rfl ?_
      refine gI X3 hx hby at_115 rfl rfl ?_
      show Goes _ _ _ _ _ (fT T3 m 117 #[vi x0, vi x1, vi 1, vi 2, vi 2, vi d0, vi d1, vi f0, vi f1, vu, vu, vu] [(.int f0), (.int d1), (.int d0), (.int 2), (.int 2), (.int 1)])
      refine gI X3 hx hby at_117 rfl rfl ?_
      refine cSg X3 hx hZ hw hown hby hml e3 mN18 4 5 6 2 0 (rm_text122 l Z a0 hw [] d0 d1 f0 f1 cz h0 n0 Z0 hd0.1 hDg_1 hDg_2 hDg_3 sgC hcz) at_119 (lenOf own_pd19 rfl) (fun _ T93 L93 X93 hQ93 => ?_)
      obtain ⟨u93, rfl, N93q, K93, T_u93_93', g_u93_93', sz_u93_93'⟩ := hQ93
      have N93 := Fr.app N3 N93q
      replace sgC := own_staK sgC K93 all0
      replace sgF := own_staK sgF K93 all0
      replace hR := hR.trans (CHr.keep K93 all0 hR.1)
      replace Z0 := Nat.le_trans Z0 K93.1
      replace hk := Nat.le_trans hk K93.1
      have T_u93 := T_u93_93'
      show Goes _ _ _ _ _ (fT T93 m 122 #[vi x0, vi x1, vi 1, vi 2, vi 2, vi d0, vi d1, vi f0, vi f1, vu, vu, vu] [(.ref u93)])
      refine Gz (XS.astore X93.here hx rfl (hb hby at_122) rfl rfl (l' := #[vi x0, vi x1, vi 1, vi 2, vi 2, vi d0, vi d1, vi f0, vi f1, vr u93, vu, vu]) rfl) ?_
      refine gI X93 hx hby at_124 rfl rfl ?_
      refine gB X93 hx hby at_126 ?_
      show Goes _ _ _ _ _ (fT T93 m 128 #[vi x0, vi x1, vi 1, vi 2, vi 2, vi d0, vi d1, vi f0, vi f1, vr u93, vu, vu] [(.int 48), (.int d0)])
      refine own_join (B := T93.setTop (mkF m 174 #[vi x0, vi x1, vi 1, vi 2, vi 2, vi d0, vi d1, vi f0, vi f1, vr u93, vu, vu] [(.int (own_allz [d0, d1, f0, f1]))])) ?_ ?_
      ·show Goes _ _ _ _ _ (fT T93 m 174 #[vi x0, vi x1, vi 1, vi 2, vi 2, vi d0, vi d1, vi f0, vi f1, vr u93, vu, vu] [(.int (own_allz [d0, d1, f0, f1]))])
       refine gS X93 hx hby at_174 #[vi x0, vi x1, vi 1, vi 2, vi 2, vi d0, vi d1, vi f0, vi f1, vr u93, vi (own_allz [d0, d1, f0, f1]), vu] ?_
       refine gI X93 hx hby at_176 rfl rfl ?_
       by_cases hc178_95 : (own_allz [d0, d1, f0, f1]) = 0
       ·refine gy X93 hx hby at_178 178 187 ((if0 _ _).trans (teq hc178_95).1) ?_
        refine gN X93 hx hby at_187 rfl rfl ?_
        refine gu X93 hx hby at_188 ((if0 _ _).trans (feq (by decide : ¬ ((1 : Int32) = (0 : Int32)))).1) ?_
        refine gC X93 hx hby at_191 ?_
        show Goes _ _ _ _ _ (fT T93 m 192 #[vi x0, vi x1, vi 1, vi 2, vi 2, vi d0, vi d1, vi f0, vi f1, vr u93, vi (own_allz [d0, d1, f0, f1]), vu] [(.int (-1 : Int32))])
        refine gS X93 hx hby at_192 #[vi x0, vi x1, vi 1, vi 2, vi 2, vi d0, vi d1, vi f0, vi f1, vr u93, vi (own_allz [d0, d1, f0, f1]), vi (-1 : Int32)] ?_
        refine gG X93 hx hby at_194 194 200 ?_
        refine Gz (XS.aload X93.here hx rfl (hb hby at_200) rfl rfl) ?_
        obtain ⟨_, _, ⟨T96, L96, k96, n96⟩, -, X96, hS96, gr96, ⟨Lc96, hQ96, l96, y96, z96, hC96⟩, st96⟩ := callSS X93 hx (y := mN23) hown (gz hZ hw 37 rfl) (gz hZ hw 38 rfl) (gz hZ hw 39 rfl) (gz hZ hw 40 rfl) (by decide) (backOfSH (W := 0) (rm_so122 l Z a0 hw [] u93 d0 d1 f0 f1 cz fo T93.heap n0 Z0 T_u93 hd0.1 hDg_1 hDg_2 hDg_3 (hd0.2 rfl) sgC hcz sgF r_fo) hZ (gw hw 40 rfl) (gw hw 39 rfl) (by decide) (by decide) (own_EW hw) hR.1) (g := (mkF m 202 #[vi x0, vi x1, vi 1, vi 2, vi 2, vi d0, vi d1, vi f0, vi f1, vr u93, vi (own_allz [d0, d1, f0, f1]), vi (-1 : Int32)] [(.ref u93)])) rfl hml.symm (argsL := [(.ref u93)]) (rest := []) (lenOf own_pd20 rfl) rfl (wz rfl) (hb hby at_202) (fun _ _ => ⟨rfl, rfl, (by decide : 3 + 5 ≤ _), (by decide : 16 + 30 ≤ _)⟩)
        dsimp only [Pt.U, Pt.locs, Pt.cells, Pt.slots] at X96 l96 y96 z96 st96 hQ96 hS96 gr96 hC96
        subst l96 y96 z96
        obtain ⟨X96, hS, hZ, hown⟩ := rebS hS hk X96 hS96 gr96 hZ hown
        replace hk : T96.heap.size ≤ T96.heap.size := Nat.le_refl _
        obtain ⟨rfl, N96q, K96⟩ := hQ96
        have N96 := Fr.app N93 N96q
        replace hR := hR.trans hC96
        replace sgC := own_staK sgC K96 all0
        replace sgF := own_staK sgF K96 all0
        replace T_u93 := T_u93.keep K96 all0
        replace Z0 := Nat.le_trans Z0 K96.1
        refine Gs (fun _ tk => st96.trans tk) ?_
        show Goes _ _ _ _ _ (fT T96 m 205 #[vi x0, vi x1, vi 1, vi 2, vi 2, vi d0, vi d1, vi f0, vi f1, vr u93, vi (own_allz [d0, d1, f0, f1]), vi (-1 : Int32)] [(.int (own_sg (own_allz [d0, d1, f0, f1]) (-1 : Int32)))])
        refine gI X96 hx hby at_205 rfl rfl ?_
        have hc207_97 : (own_sg (own_allz [d0, d1, f0, f1]) (-1 : Int32)) = (-1 : Int32) := by rw [own_sg, if_pos hc178_95]
        refine gU X96 hx hby at_207 (teq hc207_97).2 ?_
        refine gC X96 hx hby at_210 ?_
        refine gG X96 hx hby at_211 211 215 ?_
        refine Goes.retH X96 hS rfl hk hZ (own_EW hw) hh hR (some (.int 1)) (fun h => by rw [hret] at h; cases h) hlk (by decide) (by decide) ?_ (fun fs hr => ?_)
        ·exact ⟨rfl, N96⟩
        ·exact own_retN X96 hx (t := .boolean) hret (by simp) rfl (hb hby at_215) hr
       ·refine gu X93 hx hby at_178 ((if0 _ _).trans (feq hc178_95).1) ?_
        refine gC X93 hx hby at_181 ?_
        refine gS X93 hx hby at_182 #[vi x0, vi x1, vi 1, vi 2, vi 2, vi d0, vi d1, vi f0, vi f1, vr u93, vi (own_allz [d0, d1, f0, f1]), vi 0] ?_
        refine gG X93 hx hby at_184 184 200 ?_
        show Goes _ _ _ _ _ (fT T93 m 200 #[vi x0, vi x1, vi 1, vi 2, vi 2, vi d0, vi d1, vi f0, vi f1, vr u93, vi (own_allz [d0, d1, f0, f1]), vi 0] [])
        refine Gz (XS.aload X93.here hx rfl (hb hby at_200) rfl rfl) ?_
        obtain ⟨_, _, ⟨T98, L98, k98, n98⟩, -, X98, hS98, gr98, ⟨Lc98, hQ98, l98, y98, z98, hC98⟩, st98⟩ := callSS X93 hx (y := mN23) hown (gz hZ hw 37 rfl) (gz hZ hw 38 rfl) (gz hZ hw 39 rfl) (gz hZ hw 40 rfl) (by decide) (backOfSH (W := 0) (rm_so122 l Z a0 hw [] u93 d0 d1 f0 f1 cz fo T93.heap n0 Z0 T_u93 hd0.1 hDg_1 hDg_2 hDg_3 (hd0.2 rfl) sgC hcz sgF r_fo) hZ (gw hw 40 rfl) (gw hw 39 rfl) (by decide) (by decide) (own_EW hw) hR.1) (g := (mkF m 202 #[vi x0, vi x1, vi 1, vi 2, vi 2, vi d0, vi d1, vi f0, vi f1, vr u93, vi (own_allz [d0, d1, f0, f1]), vi 0] [(.ref u93)])) rfl hml.symm (argsL := [(.ref u93)]) (rest := []) (lenOf own_pd20 rfl) rfl (wz rfl) (hb hby at_202) (fun _ _ => ⟨rfl, rfl, (by decide : 3 + 5 ≤ _), (by decide : 16 + 30 ≤ _)⟩)
        dsimp only [Pt.U, Pt.locs, Pt.cells, Pt.slots] at X98 l98 y98 z98 st98 hQ98 hS98 gr98 hC98
        subst l98 y98 z98
        obtain ⟨X98, hS, hZ, hown⟩ := rebS hS hk X98 hS98 gr98 hZ hown
        replace hk : T98.heap.size ≤ T98.heap.size := Nat.le_refl _
        obtain ⟨rfl, N98q, K98⟩ := hQ98
        have N98 := Fr.app N93 N98q
        replace hR := hR.trans hC98
        replace T_u93 := T_u93.keep K98 all0
        replace Z0 := Nat.le_trans Z0 K98.1
        refine Gs (fun _ tk => st98.trans tk) ?_
        show Goes _ _ _ _ _ (fT T98 m 205 #[vi x0, vi x1, vi 1, vi 2, vi 2, vi d0, vi d1, vi f0, vi f1, vr u93, vi (own_allz [d0, d1, f0, f1]), vi 0] [(.int (own_sg (own_allz [d0, d1, f0, f1]) (-1 : Int32)))])
        refine gI X98 hx hby at_205 rfl rfl ?_
        have hc207_99 : (own_sg (own_allz [d0, d1, f0, f1]) (-1 : Int32)) = 0 := by rw [own_sg, if_neg hc178_95]
        refine gU X98 hx hby at_207 (teq hc207_99).2 ?_
        refine gC X98 hx hby at_210 ?_
        refine gG X98 hx hby at_211 211 215 ?_
        refine Goes.retH X98 hS rfl hk hZ (own_EW hw) hh hR (some (.int 1)) (fun h => by rw [hret] at h; cases h) hlk (by decide) (by decide) ?_ (fun fs hr => ?_)
        ·exact ⟨rfl, N98⟩
        ·exact own_retN X98 hx (t := .boolean) hret (by simp) rfl (hb hby at_215) hr
      intro J174_94
      refine gY X93 hx hby at_128 128 173 (feq (hd0.2 rfl)).2 ?_
      refine gC X93 hx hby at_173 ?_
      rw [show (own_allz [d0, d1, f0, f1]) = 0 from by simp [own_allz, (hd0.2 rfl)]] at J174_94
      exact J174_94
  intro J63
  by_cases hc31_100 : il = 2
  ·refine gU X0 hx hby at_31 (teq hc31_100).2 ?_
   refine gC X0 hx hby at_34 ?_
   refine gN X0 hx hby at_35 rfl rfl ?_
   refine gB X0 hx hby at_36 ?_
   show Goes _ _ _ _ _ (fT s₁ m 38 #[vi x0, vi x1, vi ng, vi il, vi fl, vu, vu, vu, vu, vu, vu, vu] [(.int 15), (.int x1), (.int 1)])
   refine Gz (XS.iand X0.here hx rfl (hb hby at_38) rfl) ?_
   show Goes _ _ _ _ _ (fT s₁ m 39 #[vi x0, vi x1, vi ng, vi il, vi fl, vu, vu, vu, vu, vu, vu, vu] [(.int (x1 &&& 15)), (.int 1)])
   refine gB X0 hx hby at_39 ?_
   show Goes _ _ _ _ _ (fT s₁ m 41 #[vi x0, vi x1, vi ng, vi il, vi fl, vu, vu, vu, vu, vu, vu, vu] [(.int 9), (.int (x1 &&& 15)), (.int 1)])
   refine Gz (XS.irem X0.here hx rfl (hb hby at_41) rfl (by decide)) ?_
   rw [Jvm.irem_eq_mod]
   show Goes _ _ _ _ _ (fT s₁ m 42 #[vi x0, vi x1, vi ng, vi il, vi fl, vu, vu, vu, vu, vu, vu, vu] [(.int ((x1 &&& 15) % 9)), (.int 1)])
   refine Gz (XS.iadd X0.here hx rfl (hb hby at_42) rfl) ?_
   show Goes _ _ _ _ _ (fT s₁ m 43 #[vi x0, vi x1, vi ng, vi il, vi fl, vu, vu, vu, vu, vu, vu, vu] [(.int ((1 : Int32) + ((x1 &&& 15) % 9)))])
   refine cSg X0 hx hZ hw hown hby hml e0 mN16 0 1 3 2 0 (rm_digit1 l Z a0 hw [] ((1 : Int32) + ((x1 &&& 15) % 9)) h0 n0 Z0 (own_d9 _).1 (own_d9 _).2) at_43 (lenOf own_pd15 rfl) (fun _ T101 L101 X101 hQ101 => ?_)
   obtain ⟨e0, rfl, N101q, e101, hDg_101, hN8_101⟩ := hQ101
   have N101 := Fr.app N0 N101q
   show Goes _ _ _ _ _ (fT T101 m 46 #[vi x0, vi x1, vi ng, vi il, vi fl, vu, vu, vu, vu, vu, vu, vu] [(.int e0)])
   refine gS X101 hx hby at_46 #[vi x0, vi x1, vi ng, vi il, vi fl, vi e0, vu, vu, vu, vu, vu, vu] ?_
   refine gG X101 hx hby at_48 48 63 ?_
   show Goes _ _ _ _ _ (fT T101 m 63 #[vi x0, vi x1, vi ng, vi il, vi fl, vi e0, vu, vu, vu, vu, vu, vu] [])
   exact J63 _ _ e0 X101 e101 N101 ⟨hDg_101, fun _ => hN8_101⟩
  ·refine gY X0 hx hby at_31 31 51 (feq hc31_100).2 ?_
   refine gN X0 hx hby at_51 rfl rfl ?_
   refine gB X0 hx hby at_52 ?_
   show Goes _ _ _ _ _ (fT s₁ m 54 #[vi x0, vi x1, vi ng, vi il, vi fl, vu, vu, vu, vu, vu, vu, vu] [(.int 15), (.int x1)])
   refine Gz (XS.iand X0.here hx rfl (hb hby at_54) rfl) ?_
   show Goes _ _ _ _ _ (fT s₁ m 55 #[vi x0, vi x1, vi ng, vi il, vi fl, vu, vu, vu, vu, vu, vu, vu] [(.int (x1 &&& 15))])
   refine gB X0 hx hby at_55 ?_
   show Goes _ _ _ _ _ (fT s₁ m 57 #[vi x0, vi x1, vi ng, vi il, vi fl, vu, vu, vu, vu, vu, vu, vu] [(.int 10), (.int (x1 &&& 15))])
   refine Gz (XS.irem X0.here hx rfl (hb hby at_57) rfl (by decide)) ?_
   rw [Jvm.irem_eq_mod]
   show Goes _ _ _ _ _ (fT s₁ m 58 #[vi x0, vi x1, vi ng, vi il, vi fl, vu, vu, vu, vu, vu, vu, vu] [(.int ((x1 &&& 15) % 10))])
   refine cSg X0 hx hZ hw hown hby hml e0 mN16 0 1 3 2 0 (rm_digit0 l Z a0 hw [] ((x1 &&& 15) % 10) h0 n0 Z0 (own_d10 _)) at_58 (lenOf own_pd15 rfl) (fun _ T102 L102 X102 hQ102 => ?_)
   obtain ⟨e0, rfl, N102q, e102, hDg_102⟩ := hQ102
   have N102 := Fr.app N0 N102q
   show Goes _ _ _ _ _ (fT T102 m 61 #[vi x0, vi x1, vi ng, vi il, vi fl, vu, vu, vu, vu, vu, vu, vu] [(.int e0)])
   refine gS X102 hx hby at_61 #[vi x0, vi x1, vi ng, vi il, vi fl, vi e0, vu, vu, vu, vu, vu, vu] ?_
   show Goes _ _ _ _ _ (fT T102 m 63 #[vi x0, vi x1, vi ng, vi il, vi fl, vi e0, vu, vu, vu, vu, vu, vu] [])
   exact J63 _ _ e0 X102 e102 N102 ⟨hDg_102, fun h => absurd h hc31_100⟩
 intro J11
 by_cases hc3_103 : (x0 &&& 1) = 0
 ·refine gy X0 hx hby at_3 3 10 ((if0 _ _).trans (teq hc3_103).1) ?_
  refine gC X0 hx hby at_10 ?_
  show Goes _ _ _ _ _ (fT s₁ m 11 #[vi x0, vi x1, vu, vu, vu, vu, vu, vu, vu, vu, vu, vu] [(.int 0)])
  exact J11 _ (Or.inl rfl)
 ·refine gu X0 hx hby at_3 ((if0 _ _).trans (feq hc3_103).1) ?_
  refine gC X0 hx hby at_6 ?_
  refine gG X0 hx hby at_7 7 11 ?_
  show Goes _ _ _ _ _ (fT s₁ m 11 #[vi x0, vi x1, vu, vu, vu, vu, vu, vu, vu, vu, vu, vu] [(.int 1)])
  exact J11 _ (Or.inr rfl)
theorem comes_1 {Post : Tables → Env → Array Value → State → Outcome → State → Prop} (hpost : ∀ tb e args s v u, (limb_1_1.after args s (.returned v) u = true ∧ limb_1_2.after args s (.returned v) u = true ∧ True) → ReturnedEndW s (.returned v) u (Jvm.fieldLocs frame_1_writes args s ++ Jvm.arrayLocs frame_1_arrays args s ++ Jvm.staticLocs frame_1_statics s) 24 2176 → Post tb e args s (.returned v) u) :
  ArmFor flags0 classFile x code maxLocals ret World_1 tables_1 room_1 Calls_1 rest_1 Pre_1 Post := by
 intro l hfl _ _ p e ha hc hk s m args below hf hA hF happ hP
 obtain ⟨hcalls, hrest, hpre⟩ := hP
 obtain ⟨-, -, -, hnamed, -, -, -, hat⟩ := (Spec.applies_iff hf).mp happ
 obtain ⟨hg, hn⟩ := and_e (Cond.before_iff.mp (show (Jvm.Cond.and given_1 narrow_1).before args s = true from hpre))
 obtain ⟨g0, hg0⟩ := and_e hg
 obtain ⟨ga0, hg0'⟩ := and_e hg0
 obtain ⟨w0, w1, rfl⟩ : ∃ w0 w1 : Value, args = #[w0, w1] := by
  have hs : args.size = 2 := by simpa [Cond.value, given_1] using g0
  obtain ⟨L⟩ := args
  match L, hs with
  | [w0, w1], _ => exact ⟨w0, w1, rfl⟩
 have hw := fun d (hd : d ∈ tables_1) => atoms_spec (ws := Jvm.Cond.code x code maxLocals ret :: tables_1) hat d (List.mem_cons_of_mem _ hd)
 have hfit : Fit s := fun {y c} hc i hi => by
  obtain ⟨ha, rfl⟩ := Array.getElem?_eq_some_iff.mp hc
  have q := List.all_eq_true.mp ((Array.all_eq_true_iff_forall_mem.mp hF) _ (Array.getElem_mem ha)) i (List.mem_range.mpr hi)
  simpa [Array.getElem?_eq_getElem hi] using q
 obtain ⟨hsets, hown0⟩ := atoms_of _ (rest_1_c_eq ▸ (show rest_1_c.before _ s = true from hrest))
 have hr0 := Cond.before_iff.mp hown0
 obtain ⟨i0, ei0⟩ := is_v ga0
 obtain rfl : w0 = (.int i0) := Option.some.inj ei0
 obtain ⟨i1, ei1⟩ := is_v hg0'
 obtain rfl : w1 = (.int i1) := Option.some.inj ei1
 obtain ⟨cz, evc⟩ := is_v (Cond.before_iff.mp (hsets _ (List.mem_of_getElem? (i := 1) rfl)))
 have S_c := Sta.start evc (Or.inl (hsets _ (List.mem_of_getElem? (i := 0) rfl)))
 have hcz : ¬ (cz = 0) := gotF (Cond.eq_ints evc rfl) (not_v (Cond.before_iff.mp (hsets _ (List.mem_of_getElem? (i := 2) rfl))))
 obtain ⟨fo, evf, r_fo⟩ := isR_v (Cond.before_iff.mp (hsets _ (List.mem_of_getElem? (i := 8) rfl)))
 have S_f := Sta.start evf (Or.inl (hsets _ (List.mem_of_getElem? (i := 7) rfl)))
 have hCH : CHv s consts_1 s.vm s.heap := CHv.start (own_EW hw) hcalls.1 (hsets _ (List.mem_of_getElem? (i := 2) rfl)) (gw hw 26 rfl) (gw hw 8 rfl)
 obtain ⟨n, o, h1, h2, h3, _, L, rfl, ⟨rfl, N⟩, hq⟩ := rm_law l s _ hw tables_1 i0 i1 cz fo s.heap s.heap.size (Nat.le_refl _) S_c hcz S_f r_fo p e ha hc hk s m _ below hf ((Spec.applies_iff_loose hf).mp happ).1 ⟨rfl, State.Warmed39.refl s, rfl, hCH⟩ trivial
 refine ⟨n, _, h1, h2, h3, hpost _ _ _ _ _ _ ⟨Cond.after_iff.mpr rfl, Cond.after_iff.mpr (eq_i res_at (Term.int_eval (1)) rfl), trivial⟩ ⟨hq.2.1, hq.2.2.1, hq.2.2.2.1, (hq.2.2.2.2.sift fun y hy => Or.inr (N y hy)).mono (by decide) (by decide)⟩⟩
theorem main_1_1 : Claimed_1_1 := comes_1 fun _ _ _ _ _ _ h hF => ⟨h.1, hF⟩
theorem main_1_2 : Claimed_1_2 := comes_1 fun _ _ _ _ _ _ h hF => ⟨h.2.1, hF⟩
end Jvm.Pilot.@@N@@
namespace Jvm.Pilot.@@N@@
open Jvm Jvm.ClassFile Sem Op Lib Jvm.Free Jvm.Stand Jvm.Pilot.@@N@@.Jvm.D
/-! MADE BY PROGRAM (witnessworld.py) out of the Statement's table words and the real class files: 23 classes; the members and pool entries that the words name. The judged class is class 1, her method 3. -/
namespace start1
open Jvm.ClassFile
def u (s : String) : CpInfo := .utf8 (stringToUtf16 s)
/-- a pool by its gaps: so many unusable entries, then the entry; so many at the end -/
def gap : Nat → List CpInfo → List CpInfo
  | 0, r => r
  | n + 1, r => .unusable :: gap n r
def poolList (es : List (Nat × CpInfo)) (last : Nat) : List CpInfo := es.foldr (fun e r => gap e.1 (e.2 :: r)) (gap last [])
def pool (es : List (Nat × CpInfo)) (last : Nat) : Array CpInfo := ⟨poolList es last⟩
def fileOf (pool : Array CpInfo) (this : Nat) (attrs : Array Attribute := #[]) (ms : Array MethodInfo := #[]) (fl : Nat := 33) (sup : Nat := 0) (ifs : Array Nat := #[]) (fds : Array FieldInfo := #[]) : ClassFile where
  minorVersion := 0
  majorVersion := 65
  constantPool := pool
  accessFlags := fl
  thisClass := this
  superClass := sup
  interfaces := ifs
  fields := fds
  methods := ms
  attributes := attrs
def plain (name : String) (sup : Option ClassId) : Class where
  name := name
  kind := .ordinary
  loader := none
  accessFlags := 33
  super := sup
  interfaces := #[]
  cf := none
  fields := #[]
  methods := #[]
  instanceTypes := #[]
  staticTypes := #[]
  resolved := #[]
  callSites := []
  init := .initialized
  statics := none
  mirror := none

def pool0 : Array CpInfo := pool [(5, u "<init>"), (0, u "()V"), (1, .class_ 10), (1, u "java/lang/Object")] 113

def k0c0 : Code := { maxStack := 0, maxLocals := 1, code := object_method_1_code, exceptionTable := #[], attributes := #[] }
def k0m0 : Method := { name := "<init>", desc := "()V", sig := { parameters := [], returnType := none }, accessFlags := 1, code := some k0c0 }
/-- java/lang/Object -/
def k0 : Class := { plain "java/lang/Object" none with
  accessFlags := 33
  interfaces := #[]
  cf := some (fileOf pool0 8 #[] #[{ accessFlags := 1, nameIndex := 5, descriptorIndex := 6, attributes := #[] }] 33 0 #[] #[])
  fields := #[]
  methods := #[k0m0]
  instanceTypes := #[]
  staticTypes := #[]
  resolved := Array.replicate 124 none
  statics := none }

def pool1 : Array CpInfo := pool [(2, .class_ 4), (1, u "java/lang/Object"), (0, u "<init>"), (0, u "()V"), (0, .class_ 8), (0, u "java/lang/String"), (0, .methodref 7 10), (0, .nameAndType 5 11), (0, u "([C)V"), (0, .methodref 13 14), (0, .class_ 15), (0, .nameAndType 16 17), (0, u "com/example/modest_billing/modestbilling/MoneySignOfPinLaw"), (0, u "digit"), (0, u "(I)C"), (0, .methodref 13 19), (0, .nameAndType 20 21), (0, u "text"), (0, u "(ZIICCCC)Ljava/lang/String;"), (0, .methodref 23 24), (0, .class_ 25), (0, .nameAndType 26 27), (0, u "com/example/modest_billing/modestbilling/Money"), (0, u "signOf"), (0, u "(Ljava/lang/String;)I"), (3, u "law"), (0, u "(II)Z")] 2

def k1m0 : Method := { name := "<init>", desc := "()V", sig := { parameters := [], returnType := none }, accessFlags := 1, code := none }
def k1c1 : Code := { maxStack := 2, maxLocals := 1, code := method_2_code, exceptionTable := #[], attributes := #[] }
def k1m1 : Method := { name := "digit", desc := "(I)C", sig := { parameters := [.int], returnType := some .char }, accessFlags := 10, code := some k1c1 }
def k1c2 : Code := { maxStack := 6, maxLocals := 7, code := method_3_code, exceptionTable := #[], attributes := #[] }
def k1m2 : Method := { name := "text", desc := "(ZIICCCC)Ljava/lang/String;", sig := { parameters := [.boolean, .int, .int, .char, .char, .char, .char], returnType := some (.object "java/lang/String") }, accessFlags := 10, code := some k1c2 }
def k1c3 : Code := { maxStack := 7, maxLocals := 12, code := code, exceptionTable := #[], attributes := #[] }
def k1m3 : Method := { name := "law", desc := "(II)Z", sig := { parameters := [.int, .int], returnType := some .boolean }, accessFlags := 9, code := some k1c3 }
/-- com/example/modest_billing/modestbilling/MoneySignOfPinLaw -/
def k1 : Class := { plain "com/example/modest_billing/modestbilling/MoneySignOfPinLaw" (some 0) with
  accessFlags := 49
  interfaces := #[]
  cf := some (fileOf pool1 13 #[] #[{ accessFlags := 1, nameIndex := 5, descriptorIndex := 6, attributes := #[] }, { accessFlags := 10, nameIndex := 16, descriptorIndex := 17, attributes := #[] }, { accessFlags := 10, nameIndex := 20, descriptorIndex := 21, attributes := #[] }, { accessFlags := 9, nameIndex := 31, descriptorIndex := 32, attributes := #[] }] 49 2 #[] #[])
  fields := #[]
  methods := #[k1m0, k1m1, k1m2, k1m3]
  instanceTypes := #[]
  staticTypes := #[]
  resolved := Array.replicate 35 none
  statics := none }

def pool2 : Array CpInfo := pool [(1, .class_ 2), (0, u "java/io/Serializable"), (0, .class_ 4), (0, u "java/lang/Object")] 2

/-- java/io/Serializable -/
def k2 : Class := { plain "java/io/Serializable" (some 0) with
  accessFlags := 1537
  interfaces := #[]
  cf := some (fileOf pool2 1 #[] #[] 1537 3 #[] #[])
  fields := #[]
  methods := #[]
  instanceTypes := #[]
  staticTypes := #[]
  resolved := Array.replicate 7 none
  statics := none }

def pool3 : Array CpInfo := pool [(1, .class_ 2), (0, u "java/lang/Comparable"), (0, .class_ 4), (0, u "java/lang/Object")] 7

/-- java/lang/Comparable -/
def k3 : Class := { plain "java/lang/Comparable" (some 0) with
  accessFlags := 1537
  interfaces := #[]
  cf := some (fileOf pool3 1 #[] #[] 1537 3 #[] #[])
  fields := #[]
  methods := #[]
  instanceTypes := #[]
  staticTypes := #[]
  resolved := Array.replicate 12 none
  statics := none }

def pool4 : Array CpInfo := pool [(2, .class_ 4), (1, u "java/lang/CharSequence"), (42, .class_ 48), (0, u "java/lang/CharSequence$1CodePointIterator"), (10, .class_ 60), (0, u "java/lang/CharSequence$1CharIterator"), (5, .class_ 67), (0, u "java/lang/Object")] 63

/-- java/lang/CharSequence -/
def k4 : Class := { plain "java/lang/CharSequence" (some 0) with
  accessFlags := 1537
  interfaces := #[]
  cf := some (fileOf pool4 2 #[.nestMembers #[47, 59]] #[] 1537 66 #[] #[])
  fields := #[]
  methods := #[]
  instanceTypes := #[]
  staticTypes := #[]
  resolved := Array.replicate 131 none
  statics := none }

def pool5 : Array CpInfo := pool [(1, .class_ 2), (0, u "java/lang/constant/Constable"), (0, .class_ 4), (0, u "java/lang/Object")] 6

/-- java/lang/constant/Constable -/
def k5 : Class := { plain "java/lang/constant/Constable" (some 0) with
  accessFlags := 1537
  interfaces := #[]
  cf := some (fileOf pool5 1 #[] #[] 1537 3 #[] #[])
  fields := #[]
  methods := #[]
  instanceTypes := #[]
  staticTypes := #[]
  resolved := Array.replicate 11 none
  statics := none }

def pool6 : Array CpInfo := pool [(1, .class_ 2), (0, u "java/lang/constant/ConstantDesc"), (0, .class_ 4), (0, u "java/lang/Object")] 32

/-- java/lang/constant/ConstantDesc -/
def k6 : Class := { plain "java/lang/constant/ConstantDesc" (some 0) with
  accessFlags := 1537
  interfaces := #[]
  cf := some (fileOf pool6 1 #[] #[] 1537 3 #[] #[])
  fields := #[]
  methods := #[]
  instanceTypes := #[]
  staticTypes := #[]
  resolved := Array.replicate 37 none
  statics := none }

def pool7 : Array CpInfo := pool [(1, .methodref 2 3), (0, .class_ 4), (0, .nameAndType 5 6), (0, u "java/lang/Object"), (0, u "<init>"), (0, u "()V"), (2, .fieldref 10 11), (0, .class_ 12), (0, .nameAndType 13 14), (0, u "java/lang/String"), (0, u "value"), (0, u "[B"), (0, .fieldref 10 16), (0, .nameAndType 17 18), (0, u "coder"), (0, u "B"), (2, u "hash"), (0, u "I"), (2, u "hashIsZero"), (0, u "Z"), (0, .methodref 10 28), (0, .nameAndType 5 29), (0, u "([CIILjava/lang/Void;)V"), (8, .fieldref 10 39), (0, .nameAndType 40 26), (0, u "COMPACT_STRINGS"), (1, .class_ 44), (1, u "java/lang/StringUTF16"), (0, u "compress"), (1, .methodref 42 48), (0, .nameAndType 49 50), (0, u "coderFromArrayLen"), (0, u "([BI)B"), (56, .class_ 109), (1, u "java/lang/StringLatin1"), (32, u "()Z"), (34, .methodref 42 178), (0, .nameAndType 45 179), (0, u "([CII)[B"), (154, u "()I"), (0, .methodref 10 336), (0, .nameAndType 17 337), (0, u "()B"), (25, u "([BI)C"), (12, u "([BI[BII)I"), (14, u "(II)V"), (35, u "(I)C"), (64, .methodref 10 493), (0, .nameAndType 494 142), (0, u "isLatin1"), (0, .methodref 107 496), (0, .nameAndType 497 363), (0, u "charAt"), (3, u "checkIndex"), (3, .methodref 10 506), (0, .nameAndType 507 334), (0, u "length"), (51, .class_ 561), (1, u "jdk/internal/util/ArraysSupport"), (0, u "mismatch"), (12, .class_ 576), (0, u "java/lang/CharSequence"), (22, u "CASE_INSENSITIVE_ORDER"), (0, u "Ljava/util/Comparator;"), (6, .methodref 559 608), (0, .nameAndType 562 376), (15, .methodref 10 625), (0, .nameAndType 626 627), (0, u "startsWith"), (0, u "(Ljava/lang/String;I)Z"), (382, u "([C)V"), (42, .fieldref 1054 1055), (0, .class_ 1056), (0, .nameAndType 1057 1058), (0, u "jdk/internal/util/Preconditions"), (0, u "SIOOBE_FORMATTER"), (0, u "Ljava/util/function/BiFunction;"), (0, .methodref 1054 1060), (0, .nameAndType 501 1061), (0, u "(IILjava/util/function/BiFunction;)I"), (39, u "serialPersistentFields"), (0, u "[Ljava/io/ObjectStreamField;"), (0, .class_ 1104), (0, u "java/lang/String$CaseInsensitiveComparator"), (1, .class_ 1107), (0, u "java/io/Serializable"), (0, .class_ 1109), (0, u "java/lang/Comparable"), (0, .class_ 1111), (0, u "java/lang/constant/Constable"), (0, .class_ 1113), (0, u "java/lang/constant/ConstantDesc"), (2, u "serialVersionUID"), (0, u "J"), (3, u "REPL"), (0, u "C"), (2, u "LATIN1"), (1, u "UTF16"), (129, u "(Ljava/lang/String;)Z")] 193

def k7m0 : Method := { name := "<init>", desc := "()V", sig := { parameters := [], returnType := none }, accessFlags := 1, code := none }
def k7c1 : Code := { maxStack := 5, maxLocals := 2, code := jdk_42_method_3_code, exceptionTable := #[], attributes := #[] }
def k7m1 : Method := { name := "<init>", desc := "([C)V", sig := { parameters := [(.array .char)], returnType := none }, accessFlags := 1, code := some k7c1 }
def k7c2 : Code := { maxStack := 2, maxLocals := 1, code := jdk_42_method_54_code, exceptionTable := #[], attributes := #[] }
def k7m2 : Method := { name := "length", desc := "()I", sig := { parameters := [], returnType := some .int }, accessFlags := 1, code := some k7c2 }
def k7c3 : Code := { maxStack := 2, maxLocals := 2, code := jdk_42_method_56_code, exceptionTable := #[], attributes := #[] }
def k7m3 : Method := { name := "charAt", desc := "(I)C", sig := { parameters := [.int], returnType := some .char }, accessFlags := 1, code := some k7c3 }
def k7c4 : Code := { maxStack := 5, maxLocals := 8, code := jdk_42_method_75_code, exceptionTable := #[], attributes := #[] }
def k7m4 : Method := { name := "startsWith", desc := "(Ljava/lang/String;I)Z", sig := { parameters := [(.object "java/lang/String"), .int], returnType := some .boolean }, accessFlags := 1, code := some k7c4 }
def k7c5 : Code := { maxStack := 3, maxLocals := 2, code := jdk_42_method_76_code, exceptionTable := #[], attributes := #[] }
def k7m5 : Method := { name := "startsWith", desc := "(Ljava/lang/String;)Z", sig := { parameters := [(.object "java/lang/String")], returnType := some .boolean }, accessFlags := 1, code := some k7c5 }
def k7c6 : Code := { maxStack := 4, maxLocals := 6, code := jdk_42_method_149_code, exceptionTable := #[], attributes := #[] }
def k7m6 : Method := { name := "<init>", desc := "([CIILjava/lang/Void;)V", sig := { parameters := [(.array .char), .int, .int, (.object "java/lang/Void")], returnType := none }, accessFlags := 2, code := some k7c6 }
def k7c7 : Code := { maxStack := 1, maxLocals := 1, code := jdk_42_method_152_code, exceptionTable := #[], attributes := #[] }
def k7m7 : Method := { name := "coder", desc := "()B", sig := { parameters := [], returnType := some .byte }, accessFlags := 0, code := some k7c7 }
def k7c8 : Code := { maxStack := 1, maxLocals := 1, code := jdk_42_method_154_code, exceptionTable := #[], attributes := #[] }
def k7m8 : Method := { name := "isLatin1", desc := "()Z", sig := { parameters := [], returnType := some .boolean }, accessFlags := 0, code := some k7c8 }
def k7c9 : Code := { maxStack := 3, maxLocals := 2, code := jdk_42_method_155_code, exceptionTable := #[], attributes := #[] }
def k7m9 : Method := { name := "checkIndex", desc := "(II)V", sig := { parameters := [.int, .int], returnType := none }, accessFlags := 8, code := some k7c9 }
/-- java/lang/String -/
def k7 : Class := { plain "java/lang/String" (some 0) with
  accessFlags := 49
  interfaces := #[2, 3, 4, 5, 6]
  cf := some (fileOf pool7 10 #[.nestMembers #[1103]] #[{ accessFlags := 1, nameIndex := 5, descriptorIndex := 6, attributes := #[] }, { accessFlags := 1, nameIndex := 5, descriptorIndex := 1010, attributes := #[] }, { accessFlags := 1, nameIndex := 507, descriptorIndex := 334, attributes := #[] }, { accessFlags := 1, nameIndex := 497, descriptorIndex := 427, attributes := #[] }, { accessFlags := 1, nameIndex := 626, descriptorIndex := 627, attributes := #[] }, { accessFlags := 1, nameIndex := 626, descriptorIndex := 1257, attributes := #[] }, { accessFlags := 2, nameIndex := 5, descriptorIndex := 29, attributes := #[] }, { accessFlags := 0, nameIndex := 17, descriptorIndex := 337, attributes := #[] }, { accessFlags := 0, nameIndex := 494, descriptorIndex := 142, attributes := #[] }, { accessFlags := 8, nameIndex := 501, descriptorIndex := 391, attributes := #[] }] 49 2 #[1106, 1108, 575, 1110, 1112] #[{ accessFlags := 18, nameIndex := 13, descriptorIndex := 14, attributes := #[] }, { accessFlags := 18, nameIndex := 17, descriptorIndex := 18, attributes := #[] }, { accessFlags := 2, nameIndex := 21, descriptorIndex := 22, attributes := #[] }, { accessFlags := 2, nameIndex := 25, descriptorIndex := 26, attributes := #[] }, { accessFlags := 26, nameIndex := 1116, descriptorIndex := 1117, attributes := #[] }, { accessFlags := 24, nameIndex := 40, descriptorIndex := 26, attributes := #[] }, { accessFlags := 26, nameIndex := 1101, descriptorIndex := 1102, attributes := #[] }, { accessFlags := 26, nameIndex := 1121, descriptorIndex := 1122, attributes := #[] }, { accessFlags := 25, nameIndex := 599, descriptorIndex := 600, attributes := #[] }, { accessFlags := 24, nameIndex := 1125, descriptorIndex := 18, attributes := #[] }, { accessFlags := 24, nameIndex := 1127, descriptorIndex := 18, attributes := #[] }])
  fields := #[{ name := "value", type := (.array .byte), accessFlags := 18, slot := 0, constantValue := 0 }, { name := "coder", type := .byte, accessFlags := 18, slot := 1, constantValue := 0 }, { name := "hash", type := .int, accessFlags := 2, slot := 2, constantValue := 0 }, { name := "hashIsZero", type := .boolean, accessFlags := 2, slot := 3, constantValue := 0 }, { name := "serialVersionUID", type := .long, accessFlags := 26, slot := 0, constantValue := 0 }, { name := "COMPACT_STRINGS", type := .boolean, accessFlags := 24, slot := 1, constantValue := 0 }, { name := "serialPersistentFields", type := (.array (.object "java/io/ObjectStreamField")), accessFlags := 26, slot := 2, constantValue := 0 }, { name := "REPL", type := .char, accessFlags := 26, slot := 3, constantValue := 0 }, { name := "CASE_INSENSITIVE_ORDER", type := (.object "java/util/Comparator"), accessFlags := 25, slot := 4, constantValue := 0 }, { name := "LATIN1", type := .byte, accessFlags := 24, slot := 5, constantValue := 0 }, { name := "UTF16", type := .byte, accessFlags := 24, slot := 6, constantValue := 0 }]
  methods := #[k7m0, k7m1, k7m2, k7m3, k7m4, k7m5, k7m6, k7m7, k7m8, k7m9]
  instanceTypes := #[(.array .byte), .byte, .int, .boolean]
  staticTypes := #[.long, .boolean, (.array (.object "java/io/ObjectStreamField")), .char, (.object "java/util/Comparator"), .byte, .byte]
  resolved := Array.replicate 1451 none
  statics := some 0 }

def pool8 : Array CpInfo := pool [(6, .class_ 8), (1, u "java/lang/Object"), (0, u "<init>"), (0, u "()V"), (1, .class_ 14), (1, u "java/lang/StringUTF16"), (31, u "$assertionsDisabled"), (0, u "Z"), (13, u "HI_BYTE_SHIFT"), (0, u "I"), (2, u "LO_BYTE_SHIFT"), (49, .methodref 12 116), (0, .nameAndType 117 118), (0, u "compress"), (0, u "([CI[BII)I"), (3, u "([CII)[B"), (138, u "coderFromArrayLen"), (0, u "([BI)B"), (106, .class_ 371), (1, u "java/lang/StringUTF16$LinesSpliterator"), (58, u "MAX_LENGTH"), (196, .class_ 628), (0, u "java/lang/StringUTF16$CodePointsSpliterator"), (0, .class_ 630), (0, u "java/lang/StringUTF16$CharsSpliterator")] 4

def k8m0 : Method := { name := "<init>", desc := "()V", sig := { parameters := [], returnType := none }, accessFlags := 0, code := none }
def k8c1 : Code := { maxStack := 2, maxLocals := 2, code := jdk_52_method_15_code, exceptionTable := #[], attributes := #[] }
def k8m1 : Method := { name := "coderFromArrayLen", desc := "([BI)B", sig := { parameters := [(.array .byte), .int], returnType := some .byte }, accessFlags := 8, code := some k8c1 }
def k8c2 : Code := { maxStack := 5, maxLocals := 6, code := jdk_52_method_16_code, exceptionTable := #[], attributes := #[] }
def k8m2 : Method := { name := "compress", desc := "([CII)[B", sig := { parameters := [(.array .char), .int, .int], returnType := some (.array .byte) }, accessFlags := 9, code := some k8c2 }
def k8c3 : Code := { maxStack := 3, maxLocals := 7, code := jdk_52_method_21_code, exceptionTable := #[], attributes := #[] }
def k8m3 : Method := { name := "compress", desc := "([CI[BII)I", sig := { parameters := [(.array .char), .int, (.array .byte), .int, .int], returnType := some .int }, accessFlags := 9, code := some k8c3 }
/-- java/lang/StringUTF16 -/
def k8 : Class := { plain "java/lang/StringUTF16" (some 0) with
  accessFlags := 48
  interfaces := #[]
  cf := some (fileOf pool8 12 #[.nestMembers #[627, 629, 369]] #[{ accessFlags := 0, nameIndex := 9, descriptorIndex := 10, attributes := #[] }, { accessFlags := 8, nameIndex := 261, descriptorIndex := 262, attributes := #[] }, { accessFlags := 9, nameIndex := 117, descriptorIndex := 122, attributes := #[] }, { accessFlags := 9, nameIndex := 117, descriptorIndex := 118, attributes := #[] }] 48 6 #[] #[{ accessFlags := 26, nameIndex := 61, descriptorIndex := 62, attributes := #[] }, { accessFlags := 26, nameIndex := 65, descriptorIndex := 62, attributes := #[] }, { accessFlags := 24, nameIndex := 430, descriptorIndex := 62, attributes := #[] }, { accessFlags := 4120, nameIndex := 46, descriptorIndex := 47, attributes := #[] }])
  fields := #[{ name := "HI_BYTE_SHIFT", type := .int, accessFlags := 26, slot := 0, constantValue := 0 }, { name := "LO_BYTE_SHIFT", type := .int, accessFlags := 26, slot := 1, constantValue := 0 }, { name := "MAX_LENGTH", type := .int, accessFlags := 24, slot := 2, constantValue := 0 }, { name := "$assertionsDisabled", type := .boolean, accessFlags := 4120, slot := 3, constantValue := 0 }]
  methods := #[k8m0, k8m1, k8m2, k8m3]
  instanceTypes := #[]
  staticTypes := #[.int, .int, .int, .boolean]
  resolved := Array.replicate 635 none
  statics := none }

def pool9 : Array CpInfo := pool [(2, .class_ 4), (1, u "java/lang/Object"), (0, u "<init>"), (2, .class_ 10), (1, u "com/example/modest_billing/modestbilling/Money"), (0, u "currency"), (0, u "Ljava/util/Currency;"), (2, u "value"), (0, u "Ljava/math/BigDecimal;"), (2, .methodref 20 21), (0, .class_ 22), (0, .nameAndType 23 24), (0, u "java/util/Objects"), (0, u "requireNonNull"), (0, u "(Ljava/lang/Object;Ljava/lang/String;)Ljava/lang/Object;"), (32, .class_ 59), (1, u "java/lang/String"), (18, .string 79), (0, u "text"), (0, .methodref 8 81), (0, .nameAndType 82 83), (0, u "checkSyntax"), (0, u "(Ljava/lang/String;)Lcom/example/modest_billing/modestbilling/Money$Shape;"), (0, .methodref 85 86), (0, .class_ 87), (0, .nameAndType 88 89), (0, u "com/example/modest_billing/modestbilling/Money$Shape"), (0, u "signum"), (0, u "()I"), (11, .string 102), (0, u "-"), (0, .methodref 57 104), (0, .nameAndType 105 106), (0, u "startsWith"), (0, u "(Ljava/lang/String;)Z"), (0, .methodref 57 108), (0, .nameAndType 109 89), (0, u "length"), (0, .methodref 57 111), (0, .nameAndType 112 113), (0, u "charAt"), (0, u "(I)C"), (0, .methodref 8 115), (0, .nameAndType 116 117), (0, u "isAsciiDigit"), (0, u "(C)Z"), (1, .methodref 85 120), (0, .nameAndType 5 121), (0, u "(II)V"), (47, .class_ 170), (0, u "java/lang/Comparable"), (10, u "signOf"), (0, u "(Ljava/lang/String;)I")] 40

def k9c0 : Code := { maxStack := 2, maxLocals := 1, code := prog_29_method_6_code, exceptionTable := #[], attributes := #[] }
def k9m0 : Method := { name := "signOf", desc := "(Ljava/lang/String;)I", sig := { parameters := [(.object "java/lang/String")], returnType := some .int }, accessFlags := 9, code := some k9c0 }
def k9c1 : Code := { maxStack := 4, maxLocals := 7, code := prog_29_method_8_code, exceptionTable := #[], attributes := #[] }
def k9m1 : Method := { name := "checkSyntax", desc := "(Ljava/lang/String;)Lcom/example/modest_billing/modestbilling/Money$Shape;", sig := { parameters := [(.object "java/lang/String")], returnType := some (.object "com/example/modest_billing/modestbilling/Money$Shape") }, accessFlags := 10, code := some k9c1 }
def k9c2 : Code := { maxStack := 2, maxLocals := 1, code := prog_29_method_9_code, exceptionTable := #[], attributes := #[] }
def k9m2 : Method := { name := "isAsciiDigit", desc := "(C)Z", sig := { parameters := [.char], returnType := some .boolean }, accessFlags := 10, code := some k9c2 }
/-- com/example/modest_billing/modestbilling/Money -/
def k9 : Class := { plain "com/example/modest_billing/modestbilling/Money" (some 0) with
  accessFlags := 49
  interfaces := #[3]
  cf := some (fileOf pool9 8 #[.nestMembers #[85]] #[{ accessFlags := 9, nameIndex := 181, descriptorIndex := 182, attributes := #[] }, { accessFlags := 10, nameIndex := 82, descriptorIndex := 83, attributes := #[] }, { accessFlags := 10, nameIndex := 116, descriptorIndex := 117, attributes := #[] }] 49 2 #[169] #[{ accessFlags := 18, nameIndex := 11, descriptorIndex := 12, attributes := #[] }, { accessFlags := 18, nameIndex := 15, descriptorIndex := 16, attributes := #[] }])
  fields := #[{ name := "currency", type := (.object "java/util/Currency"), accessFlags := 18, slot := 0, constantValue := 0 }, { name := "value", type := (.object "java/math/BigDecimal"), accessFlags := 18, slot := 1, constantValue := 0 }]
  methods := #[k9m0, k9m1, k9m2]
  instanceTypes := #[(.object "java/util/Currency"), (.object "java/math/BigDecimal")]
  staticTypes := #[]
  resolved := ((Array.replicate 223 none).setIfInBounds 85 (some (.cls 15))).setIfInBounds 119 (some (.method ⟨15, 0⟩))
  statics := none }

def pool10 : Array CpInfo := pool [(2, .class_ 4), (1, u "java/lang/Object"), (0, u "<init>"), (0, u "()V"), (35, .class_ 44), (1, u "java/util/Objects"), (0, u "requireNonNull"), (48, u "(Ljava/lang/Object;Ljava/lang/String;)Ljava/lang/Object;")] 89

def k10m0 : Method := { name := "<init>", desc := "()V", sig := { parameters := [], returnType := none }, accessFlags := 2, code := none }
def k10c1 : Code := { maxStack := 3, maxLocals := 2, code := jdk_31_method_11_code, exceptionTable := #[], attributes := #[] }
def k10m1 : Method := { name := "requireNonNull", desc := "(Ljava/lang/Object;Ljava/lang/String;)Ljava/lang/Object;", sig := { parameters := [(.object "java/lang/Object"), (.object "java/lang/String")], returnType := some (.object "java/lang/Object") }, accessFlags := 9, code := some k10c1 }
/-- java/util/Objects -/
def k10 : Class := { plain "java/util/Objects" (some 0) with
  accessFlags := 49
  interfaces := #[]
  cf := some (fileOf pool10 42 #[] #[{ accessFlags := 2, nameIndex := 5, descriptorIndex := 6, attributes := #[] }, { accessFlags := 9, nameIndex := 45, descriptorIndex := 94, attributes := #[] }] 49 2 #[] #[])
  fields := #[]
  methods := #[k10m0, k10m1]
  instanceTypes := #[]
  staticTypes := #[]
  resolved := Array.replicate 184 none
  statics := none }

def pool11 : Array CpInfo := pool [(9, u "<init>"), (6, .class_ 18), (1, u "java/lang/Object"), (0, u "()V"), (1, .class_ 23), (1, u "jdk/internal/util/ArraysSupport"), (0, u "LOG2_ARRAY_LONG_INDEX_SCALE"), (0, u "I"), (2, u "U"), (0, u "Ljdk/internal/misc/Unsafe;"), (8, u "BIG_ENDIAN"), (0, u "Z"), (8, u "LOG2_BYTE_BIT_SIZE"), (4, u "LOG2_ARRAY_INT_INDEX_SCALE"), (54, u "JLA"), (0, u "Ljdk/internal/access/JavaLangAccess;"), (11, u "LOG2_ARRAY_BOOLEAN_INDEX_SCALE"), (9, u "LOG2_ARRAY_BYTE_INDEX_SCALE"), (5, u "LOG2_ARRAY_CHAR_INDEX_SCALE"), (5, u "LOG2_ARRAY_SHORT_INDEX_SCALE"), (5, u "mismatch"), (12, u "LOG2_ARRAY_FLOAT_INDEX_SCALE"), (24, u "LOG2_ARRAY_DOUBLE_INDEX_SCALE"), (89, u "T_BOOLEAN"), (2, u "T_CHAR"), (1, u "T_FLOAT"), (1, u "T_DOUBLE"), (1, u "T_BYTE"), (1, u "T_SHORT"), (1, u "T_INT"), (1, u "T_LONG"), (1, u "SOFT_MAX_ARRAY_LENGTH"), (42, u "([BI[BII)I")] 40

def k11m0 : Method := { name := "<init>", desc := "()V", sig := { parameters := [], returnType := none }, accessFlags := 2, code := none }
def k11c1 : Code := { maxStack := 8, maxLocals := 8, code := jdk_48_method_14_code, exceptionTable := #[], attributes := #[] }
def k11m1 : Method := { name := "mismatch", desc := "([BI[BII)I", sig := { parameters := [(.array .byte), .int, (.array .byte), .int, .int], returnType := some .int }, accessFlags := 9, code := some k11c1 }
/-- jdk/internal/util/ArraysSupport -/
def k11 : Class := { plain "jdk/internal/util/ArraysSupport" (some 0) with
  accessFlags := 33
  interfaces := #[]
  cf := some (fileOf pool11 21 #[] #[{ accessFlags := 2, nameIndex := 9, descriptorIndex := 19, attributes := #[] }, { accessFlags := 9, nameIndex := 149, descriptorIndex := 337, attributes := #[] }] 33 16 #[] #[{ accessFlags := 24, nameIndex := 28, descriptorIndex := 29, attributes := #[] }, { accessFlags := 26, nameIndex := 38, descriptorIndex := 39, attributes := #[] }, { accessFlags := 25, nameIndex := 121, descriptorIndex := 25, attributes := #[] }, { accessFlags := 25, nameIndex := 131, descriptorIndex := 25, attributes := #[] }, { accessFlags := 25, nameIndex := 137, descriptorIndex := 25, attributes := #[] }, { accessFlags := 25, nameIndex := 143, descriptorIndex := 25, attributes := #[] }, { accessFlags := 25, nameIndex := 53, descriptorIndex := 25, attributes := #[] }, { accessFlags := 25, nameIndex := 24, descriptorIndex := 25, attributes := #[] }, { accessFlags := 25, nameIndex := 162, descriptorIndex := 25, attributes := #[] }, { accessFlags := 25, nameIndex := 187, descriptorIndex := 25, attributes := #[] }, { accessFlags := 26, nameIndex := 48, descriptorIndex := 25, attributes := #[] }, { accessFlags := 25, nameIndex := 277, descriptorIndex := 25, attributes := #[] }, { accessFlags := 25, nameIndex := 280, descriptorIndex := 25, attributes := #[] }, { accessFlags := 25, nameIndex := 282, descriptorIndex := 25, attributes := #[] }, { accessFlags := 25, nameIndex := 284, descriptorIndex := 25, attributes := #[] }, { accessFlags := 25, nameIndex := 286, descriptorIndex := 25, attributes := #[] }, { accessFlags := 25, nameIndex := 288, descriptorIndex := 25, attributes := #[] }, { accessFlags := 25, nameIndex := 290, descriptorIndex := 25, attributes := #[] }, { accessFlags := 25, nameIndex := 292, descriptorIndex := 25, attributes := #[] }, { accessFlags := 26, nameIndex := 108, descriptorIndex := 109, attributes := #[] }, { accessFlags := 25, nameIndex := 294, descriptorIndex := 25, attributes := #[] }])
  fields := #[{ name := "U", type := (.object "jdk/internal/misc/Unsafe"), accessFlags := 24, slot := 0, constantValue := 0 }, { name := "BIG_ENDIAN", type := .boolean, accessFlags := 26, slot := 1, constantValue := 0 }, { name := "LOG2_ARRAY_BOOLEAN_INDEX_SCALE", type := .int, accessFlags := 25, slot := 2, constantValue := 0 }, { name := "LOG2_ARRAY_BYTE_INDEX_SCALE", type := .int, accessFlags := 25, slot := 3, constantValue := 0 }, { name := "LOG2_ARRAY_CHAR_INDEX_SCALE", type := .int, accessFlags := 25, slot := 4, constantValue := 0 }, { name := "LOG2_ARRAY_SHORT_INDEX_SCALE", type := .int, accessFlags := 25, slot := 5, constantValue := 0 }, { name := "LOG2_ARRAY_INT_INDEX_SCALE", type := .int, accessFlags := 25, slot := 6, constantValue := 0 }, { name := "LOG2_ARRAY_LONG_INDEX_SCALE", type := .int, accessFlags := 25, slot := 7, constantValue := 0 }, { name := "LOG2_ARRAY_FLOAT_INDEX_SCALE", type := .int, accessFlags := 25, slot := 8, constantValue := 0 }, { name := "LOG2_ARRAY_DOUBLE_INDEX_SCALE", type := .int, accessFlags := 25, slot := 9, constantValue := 0 }, { name := "LOG2_BYTE_BIT_SIZE", type := .int, accessFlags := 26, slot := 10, constantValue := 0 }, { name := "T_BOOLEAN", type := .int, accessFlags := 25, slot := 11, constantValue := 0 }, { name := "T_CHAR", type := .int, accessFlags := 25, slot := 12, constantValue := 0 }, { name := "T_FLOAT", type := .int, accessFlags := 25, slot := 13, constantValue := 0 }, { name := "T_DOUBLE", type := .int, accessFlags := 25, slot := 14, constantValue := 0 }, { name := "T_BYTE", type := .int, accessFlags := 25, slot := 15, constantValue := 0 }, { name := "T_SHORT", type := .int, accessFlags := 25, slot := 16, constantValue := 0 }, { name := "T_INT", type := .int, accessFlags := 25, slot := 17, constantValue := 0 }, { name := "T_LONG", type := .int, accessFlags := 25, slot := 18, constantValue := 0 }, { name := "JLA", type := (.object "jdk/internal/access/JavaLangAccess"), accessFlags := 26, slot := 19, constantValue := 0 }, { name := "SOFT_MAX_ARRAY_LENGTH", type := .int, accessFlags := 25, slot := 20, constantValue := 0 }]
  methods := #[k11m0, k11m1]
  instanceTypes := #[]
  staticTypes := #[(.object "jdk/internal/misc/Unsafe"), .boolean, .int, .int, .int, .int, .int, .int, .int, .int, .int, .int, .int, .int, .int, .int, .int, .int, .int, (.object "jdk/internal/access/JavaLangAccess"), .int]
  resolved := Array.replicate 378 none
  statics := none }

def pool12 : Array CpInfo := pool [(1, .class_ 2), (0, u "java/lang/String"), (1, .class_ 6), (1, u "java/lang/Object"), (0, u "<init>"), (0, u "()V"), (0, .methodref 1 10), (0, .nameAndType 11 12), (0, u "checkIndex"), (0, u "(II)V"), (1, .class_ 16), (1, u "java/lang/StringLatin1"), (36, u "([BI)C"), (67, u "$assertionsDisabled"), (0, u "Z"), (98, .class_ 223), (1, u "java/lang/StringLatin1$LinesSpliterator"), (28, u "charAt"), (137, .class_ 391), (0, u "java/lang/StringLatin1$CharsSpliterator")] 3

def k12m0 : Method := { name := "<init>", desc := "()V", sig := { parameters := [], returnType := none }, accessFlags := 0, code := none }
def k12c1 : Code := { maxStack := 2, maxLocals := 2, code := jdk_43_method_2_code, exceptionTable := #[], attributes := #[] }
def k12m1 : Method := { name := "charAt", desc := "([BI)C", sig := { parameters := [(.array .byte), .int], returnType := some .char }, accessFlags := 9, code := some k12c1 }
/-- java/lang/StringLatin1 -/
def k12 : Class := { plain "java/lang/StringLatin1" (some 0) with
  accessFlags := 48
  interfaces := #[]
  cf := some (fileOf pool12 14 #[.nestMembers #[390, 221]] #[{ accessFlags := 0, nameIndex := 7, descriptorIndex := 8, attributes := #[] }, { accessFlags := 9, nameIndex := 252, descriptorIndex := 53, attributes := #[] }] 48 4 #[] #[{ accessFlags := 4120, nameIndex := 121, descriptorIndex := 122, attributes := #[] }])
  fields := #[{ name := "$assertionsDisabled", type := .boolean, accessFlags := 4120, slot := 0, constantValue := 0 }]
  methods := #[k12m0, k12m1]
  instanceTypes := #[]
  staticTypes := #[.boolean]
  resolved := Array.replicate 395 none
  statics := none }

def pool13 : Array CpInfo := pool [(2, .class_ 4), (1, u "java/lang/Object"), (0, u "<init>"), (0, u "()V"), (17, .class_ 26), (1, u "jdk/internal/util/Preconditions"), (6, u "checkIndex"), (21, .class_ 56), (0, u "jdk/internal/util/Preconditions$4"), (57, .class_ 115), (0, u "jdk/internal/util/Preconditions$1"), (7, u "SIOOBE_FORMATTER"), (0, u "Ljava/util/function/BiFunction;"), (0, .class_ 126), (0, u "jdk/internal/util/Preconditions$2"), (3, u "AIOOBE_FORMATTER"), (0, .class_ 132), (0, u "jdk/internal/util/Preconditions$3"), (3, u "IOOBE_FORMATTER"), (41, u "(IILjava/util/function/BiFunction;)I")] 15

def k13m0 : Method := { name := "<init>", desc := "()V", sig := { parameters := [], returnType := none }, accessFlags := 1, code := none }
def k13c1 : Code := { maxStack := 3, maxLocals := 3, code := jdk_41_method_11_code, exceptionTable := #[], attributes := #[] }
def k13m1 : Method := { name := "checkIndex", desc := "(IILjava/util/function/BiFunction;)I", sig := { parameters := [.int, .int, (.object "java/util/function/BiFunction")], returnType := some .int }, accessFlags := 9, code := some k13c1 }
/-- jdk/internal/util/Preconditions -/
def k13 : Class := { plain "jdk/internal/util/Preconditions" (some 0) with
  accessFlags := 33
  interfaces := #[]
  cf := some (fileOf pool13 24 #[.nestMembers #[55, 131, 125, 114]] #[{ accessFlags := 1, nameIndex := 5, descriptorIndex := 6, attributes := #[] }, { accessFlags := 9, nameIndex := 33, descriptorIndex := 178, attributes := #[] }] 33 2 #[] #[{ accessFlags := 25, nameIndex := 123, descriptorIndex := 124, attributes := #[] }, { accessFlags := 25, nameIndex := 130, descriptorIndex := 124, attributes := #[] }, { accessFlags := 25, nameIndex := 136, descriptorIndex := 124, attributes := #[] }])
  fields := #[{ name := "SIOOBE_FORMATTER", type := (.object "java/util/function/BiFunction"), accessFlags := 25, slot := 0, constantValue := 0 }, { name := "AIOOBE_FORMATTER", type := (.object "java/util/function/BiFunction"), accessFlags := 25, slot := 1, constantValue := 0 }, { name := "IOOBE_FORMATTER", type := (.object "java/util/function/BiFunction"), accessFlags := 25, slot := 2, constantValue := 0 }]
  methods := #[k13m0, k13m1]
  instanceTypes := #[]
  staticTypes := #[(.object "java/util/function/BiFunction"), (.object "java/util/function/BiFunction"), (.object "java/util/function/BiFunction")]
  resolved := Array.replicate 194 none
  statics := some 1 }

def pool14 : Array CpInfo := pool [(1, .methodref 2 3), (0, .class_ 4), (0, .nameAndType 5 6), (0, u "java/lang/Object"), (0, u "<init>"), (0, u "()V"), (0, .class_ 8), (0, u "java/lang/Record")] 13

def k14c0 : Code := { maxStack := 1, maxLocals := 1, code := jdk_30_method_1_code, exceptionTable := #[], attributes := #[] }
def k14m0 : Method := { name := "<init>", desc := "()V", sig := { parameters := [], returnType := none }, accessFlags := 4, code := some k14c0 }
/-- java/lang/Record -/
def k14 : Class := { plain "java/lang/Record" (some 0) with
  accessFlags := 1057
  interfaces := #[]
  cf := some (fileOf pool14 7 #[] #[{ accessFlags := 4, nameIndex := 5, descriptorIndex := 6, attributes := #[] }] 1057 2 #[] #[])
  fields := #[]
  methods := #[k14m0]
  instanceTypes := #[]
  staticTypes := #[]
  resolved := Array.replicate 22 none
  statics := none }

def pool15 : Array CpInfo := pool [(1, .methodref 2 3), (0, .class_ 4), (0, .nameAndType 5 6), (0, u "java/lang/Record"), (0, u "<init>"), (0, u "()V"), (0, .fieldref 8 9), (0, .class_ 10), (0, .nameAndType 11 12), (0, u "com/example/modest_billing/modestbilling/Money$Shape"), (0, u "signum"), (0, u "I"), (0, .fieldref 8 14), (0, .nameAndType 15 12), (0, u "fractionDigits"), (12, u "(II)V"), (4, u "()I"), (4, .class_ 39), (0, u "com/example/modest_billing/modestbilling/Money")] 20

def k15c0 : Code := { maxStack := 2, maxLocals := 3, code := prog_30_method_1_code, exceptionTable := #[], attributes := #[] }
def k15m0 : Method := { name := "<init>", desc := "(II)V", sig := { parameters := [.int, .int], returnType := none }, accessFlags := 2, code := some k15c0 }
def k15c1 : Code := { maxStack := 1, maxLocals := 1, code := prog_30_method_5_code, exceptionTable := #[], attributes := #[] }
def k15m1 : Method := { name := "signum", desc := "()I", sig := { parameters := [], returnType := some .int }, accessFlags := 1, code := some k15c1 }
/-- com/example/modest_billing/modestbilling/Money$Shape -/
def k15 : Class := { plain "com/example/modest_billing/modestbilling/Money$Shape" (some 14) with
  accessFlags := 48
  interfaces := #[]
  cf := some (fileOf pool15 8 #[.nestHost 38] #[{ accessFlags := 2, nameIndex := 5, descriptorIndex := 28, attributes := #[] }, { accessFlags := 1, nameIndex := 11, descriptorIndex := 33, attributes := #[] }] 48 2 #[] #[{ accessFlags := 18, nameIndex := 11, descriptorIndex := 12, attributes := #[] }, { accessFlags := 18, nameIndex := 15, descriptorIndex := 12, attributes := #[] }])
  fields := #[{ name := "signum", type := .int, accessFlags := 18, slot := 0, constantValue := 0 }, { name := "fractionDigits", type := .int, accessFlags := 18, slot := 1, constantValue := 0 }]
  methods := #[k15m0, k15m1]
  instanceTypes := #[.int, .int]
  staticTypes := #[]
  resolved := Array.replicate 60 none
  statics := none }

def pool16 : Array CpInfo := pool [(1, u "java/lang/Cloneable"), (0, .class_ 1), (0, u "java/lang/Object"), (0, .class_ 3)] 3

/-- java/lang/Cloneable -/
def k16 : Class := { plain "java/lang/Cloneable" (some 0) with
  accessFlags := 1537
  interfaces := #[]
  cf := some (fileOf pool16 2 #[] #[] 1537 4 #[] #[])
  fields := #[]
  methods := #[]
  instanceTypes := #[]
  staticTypes := #[]
  resolved := Array.replicate 8 none
  statics := none }

/-- the primitive byte -/
def k17 : Class := { plain "byte" none with kind := .primitive 'B', accessFlags := 0x411 }
/-- [B -/
def k18 : Class := { plain "[B" (some 0) with kind := .array 17 .byte, interfaces := #[16, 2], accessFlags := 1041 }

/-- the primitive char -/
def k19 : Class := { plain "char" none with kind := .primitive 'C', accessFlags := 0x411 }
/-- [C -/
def k20 : Class := { plain "[C" (some 0) with kind := .array 19 .char, interfaces := #[16, 2], accessFlags := 1041 }

/-- the primitive int -/
def k21 : Class := { plain "int" none with kind := .primitive 'I', accessFlags := 0x411 }
/-- [I -/
def k22 : Class := { plain "[I" (some 0) with kind := .array 21 .int, interfaces := #[16, 2], accessFlags := 1041 }

def heap : Heap := #[{ cls := 7, slots := #[.long 0, .int 1, .null, .int 0, .null, .int 0, .int 0], vm := .statics 7 },
  { cls := 13, slots := #[.null, .null, .null], vm := .statics 13 }]
def classes : Array Class := #[k0, k1, k2, k3, k4, k5, k6, k7, k8, k9, k10, k11, k12, k13, k14, k15, k16, k17, k18, k19, k20, k21, k22]
def interned : List (Array UInt16 × Addr) := []
def slotsUsed : Nat := 10
def theMethod : MethodId := ⟨1, 3⟩
def args0 : Array Value := #[.int 5, .int 7]
def aboutOver (below : List Frame) : State where
  vm := { classes := classes, interned := interned.toArray }
  heap := heap
  slotsUsed := slotsUsed
  threads := #[{ frames := .invoking theMethod args0 :: below }]
def below0 : List Frame := [.native { method := ⟨0, 0⟩, args := #[] }]
def about1 : State := aboutOver below0
def p0 : Program := .bare "" "" ""
def e0 : Env := launch0.env 0 0 0
theorem w_frames : about1.frames = Frame.invoking theMethod args0 :: below0 := rfl
set_option maxRecDepth 65536 in
theorem w_args : argsFit about1.vm theMethod args0 = true := by decide +kernel
set_option maxRecDepth 65536 in
theorem w_heap : heapFits about1 = true := by decide +kernel
set_option maxRecDepth 65536 in
theorem w_runnable : about1.curStatus? = some .runnable := by decide +kernel
set_option maxRecDepth 65536 in
theorem w_alone : about1.alone = true := by decide +kernel
set_option maxRecDepth 65536 in
theorem w_named : about1.methodNamed? x = some theMethod := by decide +kernel
set_option maxRecDepth 65536 in
theorem w_hears : about1.hears theMethod below0 = true := by decide +kernel
set_option maxRecDepth 65536 in
theorem w_ripe : about1.ripe theMethod args0 below0 = true := by decide +kernel
theorem w_running : about1.status = .running := rfl
set_option maxRecDepth 65536 in
theorem w_room : about1.hasRoom e0.platform room_1 = true :=
  launch0.hasRoom_least _ room_1 (by decide +kernel) (by decide +kernel) (by decide +kernel) (by decide +kernel) (by decide +kernel) (by decide +kernel)
theorem allAtoms_all (ts : List Jvm.Cond) (a : Array Jvm.Value) (st : Jvm.State) : (allAtoms ts).before a st = ts.all (fun c => c.before a st) := by
  induction ts with
  | nil => rfl
  | cons c t ih =>
    show (Jvm.Cond.and c (allAtoms t)).before a st = _
    rw [Jvm.Cond.before_and, ih, List.all_cons]
def words1 : List Jvm.Cond := Jvm.Cond.code x code maxLocals ret :: tables_1
/-- a 'code' word, met by the world's own term for the bytes: nothing is compared byte by byte -/
theorem code_word {y : MethodName} {bytes : ByteArray} {mx : Nat} {rt : Option FieldType} {a : Array Value} {s : State} {m : MethodId} {meth : Method} {c : Code} (h1 : s.methodNamed? y = some m) (h2 : s.vm.method? m = some meth) (h3 : meth.code = some c) (h4 : c.code = bytes)
    (h5 : (c.maxLocals == mx && c.exceptionTable.isEmpty && decide (c.maxStack ≤ mostOperands) && decide (meth.sig.returnType = rt) && !meth.locks && decide (parseMethodDescriptor y.desc = some meth.sig)) = true) : (Jvm.Cond.code y bytes mx rt).before a s = true := by
  simp only [Bool.and_eq_true, beq_iff_eq, Bool.not_eq_true', decide_eq_true_eq] at h5
  obtain ⟨⟨⟨⟨⟨g1, g2⟩, g3⟩, g4⟩, g5⟩, g6⟩ := h5
  simp [Cond.before, Cond.holds, Cond.value, h1, h2, h3, h4, g1, g2, g3, g4, g5, g6]
def isCode : Jvm.Cond → Bool
  | .code _ _ _ _ => true
  | _ => false
theorem all_split {L : List Jvm.Cond} {P : Jvm.Cond → Bool} (h1 : L.all (fun c => isCode c || P c) = true) (h2 : ∀ c ∈ L.filter isCode, P c = true) : L.all P = true := by
  refine List.all_eq_true.mpr fun c hc => ?_
  have h := List.all_eq_true.mp h1 c hc
  rcases Bool.eq_false_or_eq_true (isCode c) with hi | hi
  · exact h2 c (List.mem_filter.mpr ⟨hc, hi⟩)
  · simpa [hi] using h
set_option maxRecDepth 65536 in
theorem w_c0 : (Jvm.Cond.code x code maxLocals ret).before args0 about1 = true := code_word (m := ⟨1, 3⟩) (meth := k1m3) (c := k1c3) (by decide +kernel) rfl rfl rfl (by decide +kernel)
set_option maxRecDepth 65536 in
theorem w_c1 : (Jvm.Cond.code ({ cls := "com/example/modest_billing/modestbilling/MoneySignOfPinLaw", name := "digit", desc := "(I)C" } : Jvm.MethodName) method_2_code (1 : Nat) (Option.some Jvm.ClassFile.FieldType.char)).before args0 about1 = true := code_word (m := ⟨1, 1⟩) (meth := k1m1) (c := k1c1) (by decide +kernel) rfl rfl rfl (by decide +kernel)
set_option maxRecDepth 65536 in
theorem w_c2 : (Jvm.Cond.code ({ cls := "com/example/modest_billing/modestbilling/MoneySignOfPinLaw", name := "text", desc := "(ZIICCCC)Ljava/lang/String;" } : Jvm.MethodName) method_3_code (7 : Nat) (Option.some (Jvm.ClassFile.FieldType.object "java/lang/String"))).before args0 about1 = true := code_word (m := ⟨1, 2⟩) (meth := k1m2) (c := k1c2) (by decide +kernel) rfl rfl rfl (by decide +kernel)
set_option maxRecDepth 65536 in
theorem w_c3 : (Jvm.Cond.code ({ cls := "java/lang/String", name := "<init>", desc := "([C)V" } : Jvm.MethodName) jdk_42_method_3_code (2 : Nat) (Option.none : Option Jvm.ClassFile.FieldType)).before args0 about1 = true := code_word (m := ⟨7, 1⟩) (meth := k7m1) (c := k7c1) (by decide +kernel) rfl rfl rfl (by decide +kernel)
set_option maxRecDepth 65536 in
theorem w_c4 : (Jvm.Cond.code ({ cls := "java/lang/String", name := "<init>", desc := "([CIILjava/lang/Void;)V" } : Jvm.MethodName) jdk_42_method_149_code (6 : Nat) (Option.none : Option Jvm.ClassFile.FieldType)).before args0 about1 = true := code_word (m := ⟨7, 6⟩) (meth := k7m6) (c := k7c6) (by decide +kernel) rfl rfl rfl (by decide +kernel)
set_option maxRecDepth 65536 in
theorem w_c5 : (Jvm.Cond.code ({ cls := "java/lang/Object", name := "<init>", desc := "()V" } : Jvm.MethodName) object_method_1_code (1 : Nat) (Option.none : Option Jvm.ClassFile.FieldType)).before args0 about1 = true := code_word (m := ⟨0, 0⟩) (meth := k0m0) (c := k0c0) (by decide +kernel) rfl rfl rfl (by decide +kernel)
set_option maxRecDepth 65536 in
theorem w_c6 : (Jvm.Cond.code ({ cls := "java/lang/StringUTF16", name := "compress", desc := "([CII)[B" } : Jvm.MethodName) jdk_52_method_16_code (6 : Nat) (Option.some (Jvm.ClassFile.FieldType.array Jvm.ClassFile.FieldType.byte))).before args0 about1 = true := code_word (m := ⟨8, 2⟩) (meth := k8m2) (c := k8c2) (by decide +kernel) rfl rfl rfl (by decide +kernel)
set_option maxRecDepth 65536 in
theorem w_c7 : (Jvm.Cond.code ({ cls := "java/lang/StringUTF16", name := "compress", desc := "([CI[BII)I" } : Jvm.MethodName) jdk_52_method_21_code (7 : Nat) (Option.some Jvm.ClassFile.FieldType.int)).before args0 about1 = true := code_word (m := ⟨8, 3⟩) (meth := k8m3) (c := k8c3) (by decide +kernel) rfl rfl rfl (by decide +kernel)
set_option maxRecDepth 65536 in
theorem w_c8 : (Jvm.Cond.code ({ cls := "java/lang/StringUTF16", name := "coderFromArrayLen", desc := "([BI)B" } : Jvm.MethodName) jdk_52_method_15_code (2 : Nat) (Option.some Jvm.ClassFile.FieldType.byte)).before args0 about1 = true := code_word (m := ⟨8, 1⟩) (meth := k8m1) (c := k8c1) (by decide +kernel) rfl rfl rfl (by decide +kernel)
set_option maxRecDepth 65536 in
theorem w_c9 : (Jvm.Cond.code ({ cls := "com/example/modest_billing/modestbilling/Money", name := "signOf", desc := "(Ljava/lang/String;)I" } : Jvm.MethodName) prog_29_method_6_code (1 : Nat) (Option.some Jvm.ClassFile.FieldType.int)).before args0 about1 = true := code_word (m := ⟨9, 0⟩) (meth := k9m0) (c := k9c0) (by decide +kernel) rfl rfl rfl (by decide +kernel)
set_option maxRecDepth 65536 in
theorem w_c10 : (Jvm.Cond.code ({ cls := "java/util/Objects", name := "requireNonNull", desc := "(Ljava/lang/Object;Ljava/lang/String;)Ljava/lang/Object;" } : Jvm.MethodName) jdk_31_method_11_code (2 : Nat) (Option.some (Jvm.ClassFile.FieldType.object "java/lang/Object"))).before args0 about1 = true := code_word (m := ⟨10, 1⟩) (meth := k10m1) (c := k10c1) (by decide +kernel) rfl rfl rfl (by decide +kernel)
set_option maxRecDepth 65536 in
theorem w_c11 : (Jvm.Cond.code ({ cls := "com/example/modest_billing/modestbilling/Money", name := "checkSyntax", desc := "(Ljava/lang/String;)Lcom/example/modest_billing/modestbilling/Money$Shape;" } : Jvm.MethodName) prog_29_method_8_code (7 : Nat) (Option.some (Jvm.ClassFile.FieldType.object "com/example/modest_billing/modestbilling/Money$Shape"))).before args0 about1 = true := code_word (m := ⟨9, 1⟩) (meth := k9m1) (c := k9c1) (by decide +kernel) rfl rfl rfl (by decide +kernel)
set_option maxRecDepth 65536 in
theorem w_c12 : (Jvm.Cond.code ({ cls := "java/lang/String", name := "startsWith", desc := "(Ljava/lang/String;)Z" } : Jvm.MethodName) jdk_42_method_76_code (2 : Nat) (Option.some Jvm.ClassFile.FieldType.boolean)).before args0 about1 = true := code_word (m := ⟨7, 5⟩) (meth := k7m5) (c := k7c5) (by decide +kernel) rfl rfl rfl (by decide +kernel)
set_option maxRecDepth 65536 in
theorem w_c13 : (Jvm.Cond.code ({ cls := "java/lang/String", name := "startsWith", desc := "(Ljava/lang/String;I)Z" } : Jvm.MethodName) jdk_42_method_75_code (8 : Nat) (Option.some Jvm.ClassFile.FieldType.boolean)).before args0 about1 = true := code_word (m := ⟨7, 4⟩) (meth := k7m4) (c := k7c4) (by decide +kernel) rfl rfl rfl (by decide +kernel)
set_option maxRecDepth 65536 in
theorem w_c14 : (Jvm.Cond.code ({ cls := "java/lang/String", name := "length", desc := "()I" } : Jvm.MethodName) jdk_42_method_54_code (1 : Nat) (Option.some Jvm.ClassFile.FieldType.int)).before args0 about1 = true := code_word (m := ⟨7, 2⟩) (meth := k7m2) (c := k7c2) (by decide +kernel) rfl rfl rfl (by decide +kernel)
set_option maxRecDepth 65536 in
theorem w_c15 : (Jvm.Cond.code ({ cls := "java/lang/String", name := "coder", desc := "()B" } : Jvm.MethodName) jdk_42_method_152_code (1 : Nat) (Option.some Jvm.ClassFile.FieldType.byte)).before args0 about1 = true := code_word (m := ⟨7, 7⟩) (meth := k7m7) (c := k7c7) (by decide +kernel) rfl rfl rfl (by decide +kernel)
set_option maxRecDepth 65536 in
theorem w_c16 : (Jvm.Cond.code ({ cls := "jdk/internal/util/ArraysSupport", name := "mismatch", desc := "([BI[BII)I" } : Jvm.MethodName) jdk_48_method_14_code (8 : Nat) (Option.some Jvm.ClassFile.FieldType.int)).before args0 about1 = true := code_word (m := ⟨11, 1⟩) (meth := k11m1) (c := k11c1) (by decide +kernel) rfl rfl rfl (by decide +kernel)
set_option maxRecDepth 65536 in
theorem w_c17 : (Jvm.Cond.code ({ cls := "java/lang/String", name := "charAt", desc := "(I)C" } : Jvm.MethodName) jdk_42_method_56_code (2 : Nat) (Option.some Jvm.ClassFile.FieldType.char)).before args0 about1 = true := code_word (m := ⟨7, 3⟩) (meth := k7m3) (c := k7c3) (by decide +kernel) rfl rfl rfl (by decide +kernel)
set_option maxRecDepth 65536 in
theorem w_c18 : (Jvm.Cond.code ({ cls := "java/lang/String", name := "isLatin1", desc := "()Z" } : Jvm.MethodName) jdk_42_method_154_code (1 : Nat) (Option.some Jvm.ClassFile.FieldType.boolean)).before args0 about1 = true := code_word (m := ⟨7, 8⟩) (meth := k7m8) (c := k7c8) (by decide +kernel) rfl rfl rfl (by decide +kernel)
set_option maxRecDepth 65536 in
theorem w_c19 : (Jvm.Cond.code ({ cls := "java/lang/StringLatin1", name := "charAt", desc := "([BI)C" } : Jvm.MethodName) jdk_43_method_2_code (2 : Nat) (Option.some Jvm.ClassFile.FieldType.char)).before args0 about1 = true := code_word (m := ⟨12, 1⟩) (meth := k12m1) (c := k12c1) (by decide +kernel) rfl rfl rfl (by decide +kernel)
set_option maxRecDepth 65536 in
theorem w_c20 : (Jvm.Cond.code ({ cls := "java/lang/String", name := "checkIndex", desc := "(II)V" } : Jvm.MethodName) jdk_42_method_155_code (2 : Nat) (Option.none : Option Jvm.ClassFile.FieldType)).before args0 about1 = true := code_word (m := ⟨7, 9⟩) (meth := k7m9) (c := k7c9) (by decide +kernel) rfl rfl rfl (by decide +kernel)
set_option maxRecDepth 65536 in
theorem w_c21 : (Jvm.Cond.code ({ cls := "jdk/internal/util/Preconditions", name := "checkIndex", desc := "(IILjava/util/function/BiFunction;)I" } : Jvm.MethodName) jdk_41_method_11_code (3 : Nat) (Option.some Jvm.ClassFile.FieldType.int)).before args0 about1 = true := code_word (m := ⟨13, 1⟩) (meth := k13m1) (c := k13c1) (by decide +kernel) rfl rfl rfl (by decide +kernel)
set_option maxRecDepth 65536 in
theorem w_c22 : (Jvm.Cond.code ({ cls := "com/example/modest_billing/modestbilling/Money", name := "isAsciiDigit", desc := "(C)Z" } : Jvm.MethodName) prog_29_method_9_code (1 : Nat) (Option.some Jvm.ClassFile.FieldType.boolean)).before args0 about1 = true := code_word (m := ⟨9, 2⟩) (meth := k9m2) (c := k9c2) (by decide +kernel) rfl rfl rfl (by decide +kernel)
set_option maxRecDepth 65536 in
theorem w_c23 : (Jvm.Cond.code ({ cls := "com/example/modest_billing/modestbilling/Money$Shape", name := "<init>", desc := "(II)V" } : Jvm.MethodName) prog_30_method_1_code (3 : Nat) (Option.none : Option Jvm.ClassFile.FieldType)).before args0 about1 = true := code_word (m := ⟨15, 0⟩) (meth := k15m0) (c := k15c0) (by decide +kernel) rfl rfl rfl (by decide +kernel)
set_option maxRecDepth 65536 in
theorem w_c24 : (Jvm.Cond.code ({ cls := "java/lang/Record", name := "<init>", desc := "()V" } : Jvm.MethodName) jdk_30_method_1_code (1 : Nat) (Option.none : Option Jvm.ClassFile.FieldType)).before args0 about1 = true := code_word (m := ⟨14, 0⟩) (meth := k14m0) (c := k14c0) (by decide +kernel) rfl rfl rfl (by decide +kernel)
set_option maxRecDepth 65536 in
theorem w_c25 : (Jvm.Cond.code ({ cls := "com/example/modest_billing/modestbilling/Money$Shape", name := "signum", desc := "()I" } : Jvm.MethodName) prog_30_method_5_code (1 : Nat) (Option.some Jvm.ClassFile.FieldType.int)).before args0 about1 = true := code_word (m := ⟨15, 1⟩) (meth := k15m1) (c := k15c1) (by decide +kernel) rfl rfl rfl (by decide +kernel)
def codes1 : List Jvm.Cond := [Jvm.Cond.code x code maxLocals ret, Jvm.Cond.code ({ cls := "com/example/modest_billing/modestbilling/MoneySignOfPinLaw", name := "digit", desc := "(I)C" } : Jvm.MethodName) method_2_code (1 : Nat) (Option.some Jvm.ClassFile.FieldType.char), Jvm.Cond.code ({ cls := "com/example/modest_billing/modestbilling/MoneySignOfPinLaw", name := "text", desc := "(ZIICCCC)Ljava/lang/String;" } : Jvm.MethodName) method_3_code (7 : Nat) (Option.some (Jvm.ClassFile.FieldType.object "java/lang/String")), Jvm.Cond.code ({ cls := "java/lang/String", name := "<init>", desc := "([C)V" } : Jvm.MethodName) jdk_42_method_3_code (2 : Nat) (Option.none : Option Jvm.ClassFile.FieldType), Jvm.Cond.code ({ cls := "java/lang/String", name := "<init>", desc := "([CIILjava/lang/Void;)V" } : Jvm.MethodName) jdk_42_method_149_code (6 : Nat) (Option.none : Option Jvm.ClassFile.FieldType), Jvm.Cond.code ({ cls := "java/lang/Object", name := "<init>", desc := "()V" } : Jvm.MethodName) object_method_1_code (1 : Nat) (Option.none : Option Jvm.ClassFile.FieldType), Jvm.Cond.code ({ cls := "java/lang/StringUTF16", name := "compress", desc := "([CII)[B" } : Jvm.MethodName) jdk_52_method_16_code (6 : Nat) (Option.some (Jvm.ClassFile.FieldType.array Jvm.ClassFile.FieldType.byte)), Jvm.Cond.code ({ cls := "java/lang/StringUTF16", name := "compress", desc := "([CI[BII)I" } : Jvm.MethodName) jdk_52_method_21_code (7 : Nat) (Option.some Jvm.ClassFile.FieldType.int), Jvm.Cond.code ({ cls := "java/lang/StringUTF16", name := "coderFromArrayLen", desc := "([BI)B" } : Jvm.MethodName) jdk_52_method_15_code (2 : Nat) (Option.some Jvm.ClassFile.FieldType.byte), Jvm.Cond.code ({ cls := "com/example/modest_billing/modestbilling/Money", name := "signOf", desc := "(Ljava/lang/String;)I" } : Jvm.MethodName) prog_29_method_6_code (1 : Nat) (Option.some Jvm.ClassFile.FieldType.int), Jvm.Cond.code ({ cls := "java/util/Objects", name := "requireNonNull", desc := "(Ljava/lang/Object;Ljava/lang/String;)Ljava/lang/Object;" } : Jvm.MethodName) jdk_31_method_11_code (2 : Nat) (Option.some (Jvm.ClassFile.FieldType.object "java/lang/Object")), Jvm.Cond.code ({ cls := "com/example/modest_billing/modestbilling/Money", name := "checkSyntax", desc := "(Ljava/lang/String;)Lcom/example/modest_billing/modestbilling/Money$Shape;" } : Jvm.MethodName) prog_29_method_8_code (7 : Nat) (Option.some (Jvm.ClassFile.FieldType.object "com/example/modest_billing/modestbilling/Money$Shape")), Jvm.Cond.code ({ cls := "java/lang/String", name := "startsWith", desc := "(Ljava/lang/String;)Z" } : Jvm.MethodName) jdk_42_method_76_code (2 : Nat) (Option.some Jvm.ClassFile.FieldType.boolean), Jvm.Cond.code ({ cls := "java/lang/String", name := "startsWith", desc := "(Ljava/lang/String;I)Z" } : Jvm.MethodName) jdk_42_method_75_code (8 : Nat) (Option.some Jvm.ClassFile.FieldType.boolean), Jvm.Cond.code ({ cls := "java/lang/String", name := "length", desc := "()I" } : Jvm.MethodName) jdk_42_method_54_code (1 : Nat) (Option.some Jvm.ClassFile.FieldType.int), Jvm.Cond.code ({ cls := "java/lang/String", name := "coder", desc := "()B" } : Jvm.MethodName) jdk_42_method_152_code (1 : Nat) (Option.some Jvm.ClassFile.FieldType.byte), Jvm.Cond.code ({ cls := "jdk/internal/util/ArraysSupport", name := "mismatch", desc := "([BI[BII)I" } : Jvm.MethodName) jdk_48_method_14_code (8 : Nat) (Option.some Jvm.ClassFile.FieldType.int), Jvm.Cond.code ({ cls := "java/lang/String", name := "charAt", desc := "(I)C" } : Jvm.MethodName) jdk_42_method_56_code (2 : Nat) (Option.some Jvm.ClassFile.FieldType.char), Jvm.Cond.code ({ cls := "java/lang/String", name := "isLatin1", desc := "()Z" } : Jvm.MethodName) jdk_42_method_154_code (1 : Nat) (Option.some Jvm.ClassFile.FieldType.boolean), Jvm.Cond.code ({ cls := "java/lang/StringLatin1", name := "charAt", desc := "([BI)C" } : Jvm.MethodName) jdk_43_method_2_code (2 : Nat) (Option.some Jvm.ClassFile.FieldType.char), Jvm.Cond.code ({ cls := "java/lang/String", name := "checkIndex", desc := "(II)V" } : Jvm.MethodName) jdk_42_method_155_code (2 : Nat) (Option.none : Option Jvm.ClassFile.FieldType), Jvm.Cond.code ({ cls := "jdk/internal/util/Preconditions", name := "checkIndex", desc := "(IILjava/util/function/BiFunction;)I" } : Jvm.MethodName) jdk_41_method_11_code (3 : Nat) (Option.some Jvm.ClassFile.FieldType.int), Jvm.Cond.code ({ cls := "com/example/modest_billing/modestbilling/Money", name := "isAsciiDigit", desc := "(C)Z" } : Jvm.MethodName) prog_29_method_9_code (1 : Nat) (Option.some Jvm.ClassFile.FieldType.boolean), Jvm.Cond.code ({ cls := "com/example/modest_billing/modestbilling/Money$Shape", name := "<init>", desc := "(II)V" } : Jvm.MethodName) prog_30_method_1_code (3 : Nat) (Option.none : Option Jvm.ClassFile.FieldType), Jvm.Cond.code ({ cls := "java/lang/Record", name := "<init>", desc := "()V" } : Jvm.MethodName) jdk_30_method_1_code (1 : Nat) (Option.none : Option Jvm.ClassFile.FieldType), Jvm.Cond.code ({ cls := "com/example/modest_billing/modestbilling/Money$Shape", name := "signum", desc := "()I" } : Jvm.MethodName) prog_30_method_5_code (1 : Nat) (Option.some Jvm.ClassFile.FieldType.int)]
set_option maxRecDepth 65536 in
theorem codes_eq : words1.filter isCode = codes1 := rfl
theorem w_codes : ∀ c ∈ words1.filter isCode, c.before args0 about1 = true := by
  rw [codes_eq]
  intro c hc
  simp only [codes1, List.mem_cons, List.not_mem_nil, or_false] at hc
  rcases hc with rfl | rfl | rfl | rfl | rfl | rfl | rfl | rfl | rfl | rfl | rfl | rfl | rfl | rfl | rfl | rfl | rfl | rfl | rfl | rfl | rfl | rfl | rfl | rfl | rfl | rfl
  · exact w_c0
  · exact w_c1
  · exact w_c2
  · exact w_c3
  · exact w_c4
  · exact w_c5
  · exact w_c6
  · exact w_c7
  · exact w_c8
  · exact w_c9
  · exact w_c10
  · exact w_c11
  · exact w_c12
  · exact w_c13
  · exact w_c14
  · exact w_c15
  · exact w_c16
  · exact w_c17
  · exact w_c18
  · exact w_c19
  · exact w_c20
  · exact w_c21
  · exact w_c22
  · exact w_c23
  · exact w_c24
  · exact w_c25
set_option maxRecDepth 65536 in
theorem w_t1 : (words1.take 24).all (fun c => isCode c || c.before args0 about1) = true := by decide +kernel
set_option maxRecDepth 65536 in
theorem w_t2 : ((words1.drop 24).take 24).all (fun c => isCode c || c.before args0 about1) = true := by decide +kernel
set_option maxRecDepth 65536 in
theorem w_t3 : (((words1.drop 24).drop 24).take 24).all (fun c => isCode c || c.before args0 about1) = true := by decide +kernel
set_option maxRecDepth 65536 in
theorem w_t4 : ((((words1.drop 24).drop 24).drop 24).take 24).all (fun c => isCode c || c.before args0 about1) = true := by decide +kernel
set_option maxRecDepth 65536 in
theorem w_t5 : (((((words1.drop 24).drop 24).drop 24).drop 24).take 24).all (fun c => isCode c || c.before args0 about1) = true := by decide +kernel
set_option maxRecDepth 65536 in
theorem w_t6 : (((((words1.drop 24).drop 24).drop 24).drop 24).drop 24).all (fun c => isCode c || c.before args0 about1) = true := by decide +kernel
theorem w_tables : (allAtoms (Jvm.Cond.code x code maxLocals ret :: tables_1)).before args0 about1 = true := by
  rw [allAtoms_all]
  show words1.all (fun c => c.before args0 about1) = true
  refine all_split ?_ w_codes
  rw [← List.take_append_drop 24 words1, List.all_append, w_t1, ← List.take_append_drop 24 (words1.drop 24), List.all_append, w_t2, ← List.take_append_drop 24 ((words1.drop 24).drop 24), List.all_append, w_t3, ← List.take_append_drop 24 (((words1.drop 24).drop 24).drop 24), List.all_append, w_t4, ← List.take_append_drop 24 ((((words1.drop 24).drop 24).drop 24).drop 24), List.all_append, w_t5, w_t6]
  rfl
set_option maxRecDepth 65536 in
theorem w_rest : rest_1_c.before args0 about1 = true := by decide +kernel
set_option maxRecDepth 65536 in
theorem w_case : (Jvm.Cond.and given_1 narrow_1).before args0 about1 = true := by decide +kernel
set_option maxRecDepth 65536 in
theorem w_consts : constsHeld consts_1 about1 := Jvm.Lit.constsHeldB_iff.mp (by decide +kernel)
theorem w_applies : (headSpec (Jvm.Cond.code x code maxLocals ret :: tables_1) room_1).applies x e0.platform about1 = true :=
  (Spec.applies_iff w_frames).mpr ⟨w_running, w_runnable, w_alone, w_named, w_hears, w_ripe, w_room, w_tables⟩
theorem atStart : AtStart classFile x code maxLocals ret World_1 tables_1 room_1 Calls_1 rest_1 Pre_1 launch0 p0 e0 about1 theMethod args0 below0 :=
  ⟨lists_1, trivial, launch0.admits_env _ _ _, launch0.least_env, fairChoices_fair.cas, fairChoices_fair.clock, w_frames, w_args, w_heap, w_applies, ⟨w_consts, trivial⟩, w_rest, w_case⟩
end start1
theorem witness_1 : WitnessClaimed_1 := ⟨start1.p0, start1.e0, start1.about1, start1.theMethod, start1.args0, start1.below0, start1.atStart⟩
end Jvm.Pilot.@@N@@
