import JvmDerived
import JvmDerived.Pilot.@@N@@Statement
import JvmDerived.Pilot.@@N@@Code
set_option linter.unusedVariables false
set_option linter.unusedSimpArgs false
namespace Jvm.RoadKit
open Sem ClassFile Op Lib Jvm.Stand Jvm.Free Jvm.LawKit
section New
variable {p : Program} {l : Launch} {e : Env} {R : Room} {s : State} {m : MethodId} {args : Array Value} {below : List Frame} {meth : Method} {c : Code} {T : State} {locs : List Loc} {cells slots : Nat}
theorem retI (X : Stand p l e R s m args below meth c T locs cells slots) (hx : p.tables.exec = Jvm.exec) {pc : Nat} {Ls : Array Slot} {z : Int32} {rest : List Value} (hret : meth.sig.returnType = some .int) (hd : decode c.code pc = .ok (.ireturn, 1)) {fs : List Frame}
    (hl : ∀ (f : JFrame) (acts : List Action), f.method = m → f.locked = none → f.entered = [] → (doReturn e (T.setTop f) acts (some (.int z))).1 = T.setFrames fs) : Steps p.tables e below (T.setTop (mkF m pc Ls (.int z :: rest))) (T.setFrames fs) := by
  have hm' : T.vm.method? m = some meth := X.method'
  have hn : narrow .int (.int z) = .int z := rfl
  show Steps p.tables e below (T.setTop { method := m, pc := pc, locals := Ls, stack := _ :: rest, locked := none }) _
  jvm_step X.here [X.here.top, hx, hd, hm', hret, hn]
  first | (intro acts; rw [hl _ acts rfl rfl rfl]) | rw [hl _ _ rfl rfl rfl]
  exact Steps.refl _
end New
end Jvm.RoadKit
namespace Jvm.Pilot.@@N@@
open Jvm Jvm.ClassFile Sem Op Lib Jvm.Free Jvm.Stand Jvm.LawKit Jvm.RoadKit Bundle Jvm.Pilot.@@N@@.Jvm.D
/-- from A the run comes to its end, as the contract wants it -/
def Goes (p : Program) (e : Env) (below : List Frame) (En : Outcome → State → List Loc → Prop) (Q : Option Value → Heap → List Loc → Prop) (A : State) : Prop :=
  ∃ s₂ o, Steps p.tables e below A s₂ ∧ s₂.status = .running ∧ Ended s₂ below o ∧ ∃ v L, o = .returned v ∧ Q v s₂.heap L ∧ En o s₂ L
abbrev Met (l : Launch) (Z : State) (y : MethodName) (bytes : ByteArray) (maxL : Nat) (ret : Option FieldType) (rm : Room) (ws : List Jvm.Cond) (as : Array Value) (h0 : Heap) (Q : Option Value → Heap → List Loc → Prop) : Prop :=
  MetFree l y (head1 (Jvm.Cond.code y bytes maxL ret :: ws) rm) (fun aa U => aa = as ∧ Z.Warmed39 U.vm ∧ U.heap = h0) (fun _ _ _ _ _ => True) (fun _ U o U' => ∃ v L, o = .returned v ∧ Q v U'.heap L ∧ FrameEnd U o U' L rm.cells rm.slots)
abbrev MetW (l : Launch) (Z : State) (y : MethodName) (bytes : ByteArray) (maxL : Nat) (ret : Option FieldType) (rm : Room) (ws : List Jvm.Cond) (as : Array Value) (h0 : Heap) (Q : Option Value → Heap → List Loc → Prop) : Prop :=
  MetFree l y (head1 (Jvm.Cond.code y bytes maxL ret :: ws) rm) (fun aa U => aa = as ∧ Z.Warmed39 U.vm ∧ U.heap = h0) (fun _ _ _ _ _ => True) (fun _ U o U' => ∃ v L, o = .returned v ∧ Q v U'.heap L ∧ ReturnedEndW U o U' L rm.cells rm.slots)
theorem gw {a0 : Array Value} {Z : State} (hw : ∀ d ∈ tables_1, d.before a0 Z = true) (i : Nat) {d : Jvm.Cond} (h : tables_1[i]? = some d) : d.before a0 Z = true := hw _ (List.mem_of_getElem? h)
theorem w0 {n W : Nat} (h : n ≤ W) : 2 * 0 + n ≤ W := by omega
def Ob (h : Heap) (x : Addr) : Prop := ∀ c : Cell, h[x]? = some c → c.vm.isStatics = false
def NFc (Z : State) (K : String) : Prop := ∃ t kt, Z.vm.findClass K = some t ∧ Z.vm.classes[t]? = some kt ∧ kt.isInterface = false
set_option maxRecDepth 65536 in
theorem own_nsNo {Z : State} {a0 : Array Value} {C S K : String} (w : (Cond.superclass C S).before a0 Z = true) (wk : NFc Z K) (n : NS Z C K) (hn : C ≠ K) : ∃ c t, Z.vm.findClass C = some c ∧ Z.vm.findClass K = some t ∧ Z.vm.assignable c t = false := by
  obtain ⟨c, t, h0, g0, n3⟩ := n
  obtain ⟨p, k, kp, h1, h2, h3, h4, h5, -⟩ := Cond.superclass_spec h0 w
  obtain ⟨t', kt, g1, g2, g3⟩ := wk
  cases g0.symm.trans g1
  have ne := ids_ne h0 g0 hn
  refine ⟨c, t, h0, g0, ?_⟩
  show Z.vm.assignableAux (255 + 1) c t = false
  cases hq : kt.kind <;> simp [Vm.assignableAux, ne, h2, g2, h5, hq, g3, Vm.isSubclass, n3]
section OwnSteps
variable {p : Program} {l : Launch} {e : Env} {R : Room} {s : State} {m : MethodId} {args : Array Value} {below : List Frame} {meth : Method} {c : Code} {T : State} {locs : List Loc} {cells slots : Nat}
theorem Goes.step {En : Outcome → State → List Loc → Prop} {Q : Option Value → Heap → List Loc → Prop} {A B : State} (st : ∀ t, Steps p.tables e below A t → Steps p.tables e below B t) (h : Goes p e below En Q A) : Goes p e below En Q B :=
  let ⟨s₂, o, h1, r⟩ := h; ⟨s₂, o, st _ h1, r⟩
theorem Gs {En : Outcome → State → List Loc → Prop} {Q : Option Value → Heap → List Loc → Prop} {A B : State} (st : ∀ t, Steps p.tables e below A t → Steps p.tables e below B t) (h : Goes p e below En Q A) : Goes p e below En Q B := Goes.step st h
theorem own_met {Z : State} {y : MethodName} {bytes : ByteArray} {maxL : Nat} {ret : Option FieldType} {rm : Room} {ws : List Jvm.Cond} {as : Array Value} {h0 : Heap} {Q : Option Value → Heap → List Loc → Prop} (hp : plainFor y = true)
    (body : ∀ p e s m below meth c s₁, meth.sig.returnType = ret → p.tables.exec = Jvm.exec → c.code = bytes → meth.locks = false → c.maxLocals = maxL → s.vm.findClass y.cls = some m.cls → meth.name = y.name → Stand p l e rm s m as below meth c s₁ [] 0 0 → s₁.heap = h0 → Z.Warmed39 s.vm → s.heap = h0 →
      Goes p e below (fun o u L => FrameEnd s o u L rm.cells rm.slots) Q (s₁.setTop (entryFrame m as maxL))) : Met l Z y bytes maxL ret rm ws as h0 Q := by
  refine MetFree.of_bodySF hp hisR ?_
  intro p e s m args below meth c s₁ Bd hml0 hP hK
  obtain ⟨rfl, hZ, hh⟩ := hP
  exact body p e s m below meth c s₁ Bd.returns Bd.exec Bd.bytes (BodyLoose.notSynchronized Bd) hml0 (findClass_of_methodNamed Bd.named) (name_of_methodNamed Bd.named Bd.method).1 (Stand.of_body Bd) (by rw [← hh, Bd.state]; rfl) hZ hh
theorem Goes.ret (X : Stand p l e R s m args below meth c T locs cells slots) {rc rs : Nat} {Q : Option Value → Heap → List Loc → Prop} {B : State} (v : Option Value) (hv : meth.sig.returnType = none → v = none) (hlk : meth.locks = false) (hc : cells ≤ rc) (hs : slots ≤ rs) (q : Q v T.heap locs)
    (k : ∀ fs, (∀ (f : JFrame) (acts : List Action), f.method = m → f.locked = none → f.entered = [] → (doReturn e (T.setTop f) acts v).1 = T.setFrames fs) → Steps p.tables e below B (T.setFrames fs)) : Goes p e below (fun o u L => FrameEnd s o u L rc rs) Q B := by
  obtain ⟨fs, hr, hrun, hended, hW, hsame⟩ := X.leave (v := v) hv hlk
  exact ⟨_, _, k fs hr, hrun, hended, _, _, rfl, q, ⟨_, rfl⟩, hW, hsame.mono hc hs⟩
theorem own_retN (X : Stand p l e R s m args below meth c T locs cells slots) (hx : p.tables.exec = Jvm.exec) {pc : Nat} {Ls : Array Slot} {z : Int32} {t : FieldType} {rest : List Value} (hret : meth.sig.returnType = some t) (ht : t = .boolean ∨ t = .byte ∨ t = .char ∨ t = .short) (hn : nar t z = z) (hd : decode c.code pc = .ok (.ireturn, 1)) {fs : List Frame}
    (hl : ∀ (f : JFrame) (acts : List Action), f.method = m → f.locked = none → f.entered = [] → (doReturn e (T.setTop f) acts (some (.int z))).1 = T.setFrames fs) : Steps p.tables e below (T.setTop (mkF m pc Ls (.int z :: rest))) (T.setFrames fs) :=
  retN X hx hret ht hd (by rw [hn]; exact hl)
end OwnSteps
abbrev mN0 : MethodName := ⟨"com/example/tandemtrie/tandemtrie/array/AlphabetLabelPinLaw", "cp", "(I)I"⟩
abbrev mN1 : MethodName := ⟨"java/lang/Math", "max", "(II)I"⟩
abbrev mN2 : MethodName := ⟨"com/example/tandemtrie/tandemtrie/array/Alphabet", "blockOf", "(I)I"⟩
abbrev mN3 : MethodName := ⟨"java/util/Arrays", "fill", "([II)V"⟩
abbrev mN4 : MethodName := ⟨"com/example/tandemtrie/tandemtrie/array/Alphabet", "label", "(I)I"⟩
abbrev mN5 : MethodName := ⟨"com/example/tandemtrie/tandemtrie/array/Alphabet", "add", "(I)I"⟩
abbrev mN6 : MethodName := ⟨"com/example/tandemtrie/tandemtrie/array/Alphabet", "<init>", "([I)V"⟩
abbrev vi (x : Int32) : Slot := .val (.int x)
abbrev vr (x : Addr) : Slot := .val (.ref x)
abbrev vu : Slot := .unset
abbrev fT (T : State) (m : MethodId) (pc : Nat) (ls : Array Slot) (st : List Value) : State := T.setTop (mkF m pc ls st)
theorem Gz {p : Program} {e : Env} {below : List Frame} {En : Outcome → State → List Loc → Prop} {Q : Option Value → Heap → List Loc → Prop} {A B : State} (st : ∀ {t}, Steps p.tables e below A t → Steps p.tables e below B t) (h : Goes p e below En Q A) : Goes p e below En Q B := Goes.step (fun _ => st) h
abbrev HW (a0 : Array Value) (Z : State) : Prop := ∀ d ∈ tables_1, d.before a0 Z = true
theorem gz {Z s : State} {a0 args : Array Value} {d : Jvm.Cond} (hZ : Z.Warmed39 s.vm) (hw : HW a0 Z) (i : Nat) (h : tables_1[i]? = some d) (hd : (d.onTables && d.keepsFace) = true := by first | rfl | simp [Cond.onTables, Cond.keepsFace, Cond.keeps, Cond.steady]) : d.before args s = true := mvT hZ (gw hw i h) hd
theorem wz {n W : Nat} (h : n = W) : 2 * 0 + n ≤ W := w0 (Nat.le_of_eq h)
theorem gN {p : Program} {l : Launch} {e : Env} {R : Room} {s : State} {m : MethodId} {as : Array Value} {below : List Frame} {meth : Method} {c : Code} {T : State} {L : List Loc} {C S : Nat} {En : Outcome → State → List Loc → Prop} {Q : Option Value → Heap → List Loc → Prop} {code : ByteArray} {g : JFrame} {k : Fin 4} {v : Int32} (X : Stand p l e R s m as below meth c T L C S) (hx : p.tables.exec = Jvm.exec) (hby : c.code = code) (hd : decode code g.pc = .ok (.iload_n k, 1)) (hg : g.method = m) (hl : g.locals[k.val]? = some (.val (.int v))) (h : Goes p e below En Q (T.setTop { g with pc := g.pc + 1, stack := .int v :: g.stack })) : Goes p e below En Q (T.setTop g) := Gz (XS.iloadN X.here hx hg (hb hby hd) hl) h
theorem gI {p : Program} {l : Launch} {e : Env} {R : Room} {s : State} {m : MethodId} {as : Array Value} {below : List Frame} {meth : Method} {c : Code} {T : State} {L : List Loc} {C S : Nat} {En : Outcome → State → List Loc → Prop} {Q : Option Value → Heap → List Loc → Prop} {code : ByteArray} {g : JFrame} {k : Nat} {v : Int32} (X : Stand p l e R s m as below meth c T L C S) (hx : p.tables.exec = Jvm.exec) (hby : c.code = code) (hd : decode code g.pc = .ok (.iload k, 2)) (hg : g.method = m) (hl : g.locals[k]? = some (.val (.int v))) (h : Goes p e below En Q (T.setTop { g with pc := g.pc + 2, stack := .int v :: g.stack })) : Goes p e below En Q (T.setTop g) := Gz (XS.iload X.here hx hg (hb hby hd) hl) h
theorem gA {p : Program} {l : Launch} {e : Env} {R : Room} {s : State} {m : MethodId} {as : Array Value} {below : List Frame} {meth : Method} {c : Code} {T : State} {L : List Loc} {C S : Nat} {En : Outcome → State → List Loc → Prop} {Q : Option Value → Heap → List Loc → Prop} {code : ByteArray} {g : JFrame} {k : Fin 4} {v : Value} (X : Stand p l e R s m as below meth c T L C S) (hx : p.tables.exec = Jvm.exec) (hby : c.code = code) (hd : decode code g.pc = .ok (.aload_n k, 1)) (hg : g.method = m) (hl : g.locals[k.val]? = some (.val v)) (hv : v.isRef = true) (h : Goes p e below En Q (T.setTop { g with pc := g.pc + 1, stack := v :: g.stack })) : Goes p e below En Q (T.setTop g) := Gz (XS.aloadN X.here hx hg (hb hby hd) hl hv) h
theorem own_joinT {p : Program} {l : Launch} {e : Env} {R : Room} {s : State} {m : MethodId} {as : Array Value} {below : List Frame} {meth : Method} {c : Code} {T0 : State} {L0 : List Loc} {C S : Nat} {H : Heap} {n0 : Nat} {En : Outcome → State → List Loc → Prop} {Q : Option Value → Heap → List Loc → Prop} {A : State}
    (_ : Stand p l e R s m as below meth c T0 L0 C S) (_ : T0.heap = H) (_ : Fr n0 L0) {B : State → State}
    (hB : ∀ (T : State) (L : List Loc), Stand p l e R s m as below meth c T L C S → T.heap = H → Fr n0 L → Goes p e below En Q (B T))
    (k : (∀ (T : State) (L : List Loc), Stand p l e R s m as below meth c T L C S → T.heap = H → Fr n0 L → Goes p e below En Q (B T)) → Goes p e below En Q A) : Goes p e below En Q A := k hB
abbrev DK (c : ByteArray) (pc : Nat) (i : Instr) (n : Nat) : Prop := decode c pc = .ok (i, n)
theorem gS {p : Program} {l : Launch} {e : Env} {R : Room} {s : State} {m : MethodId} {as : Array Value} {below : List Frame} {meth : Method} {c : Code} {T : State} {L : List Loc} {C S : Nat} {En : Outcome → State → List Loc → Prop} {Q : Option Value → Heap → List Loc → Prop} {code : ByteArray} {g : JFrame} {k : Nat} {x : Int32} {rest : List Value} (X : Stand p l e R s m as below meth c T L C S) (hx : p.tables.exec = Jvm.exec) (hby : c.code = code) (hd : decode code g.pc = .ok (.istore k, 2)) (l' : Array Slot) (h : Goes p e below En Q (T.setTop { g with pc := g.pc + 2, stack := rest, locals := l' })) (hg : g.method = m := by rfl) (hs : g.stack = .int x :: rest := by rfl) (hl : storeLocals g.locals k (.int x) = some l' := by rfl) : Goes p e below En Q (T.setTop g) := Gz (XS.istore X.here hx hg (hb hby hd) hs hl) h
theorem gs {p : Program} {l : Launch} {e : Env} {R : Room} {s : State} {m : MethodId} {as : Array Value} {below : List Frame} {meth : Method} {c : Code} {T : State} {L : List Loc} {C S : Nat} {En : Outcome → State → List Loc → Prop} {Q : Option Value → Heap → List Loc → Prop} {code : ByteArray} {g : JFrame} {k : Fin 4} {x : Int32} {rest : List Value} (X : Stand p l e R s m as below meth c T L C S) (hx : p.tables.exec = Jvm.exec) (hby : c.code = code) (hd : decode code g.pc = .ok (.istore_n k, 1)) (l' : Array Slot) (h : Goes p e below En Q (T.setTop { g with pc := g.pc + 1, stack := rest, locals := l' })) (hg : g.method = m := by rfl) (hs : g.stack = .int x :: rest := by rfl) (hl : storeLocals g.locals k.val (.int x) = some l' := by rfl) : Goes p e below En Q (T.setTop g) := Gz (XS.istoreN X.here hx hg (hb hby hd) hs hl) h
theorem gC {p : Program} {l : Launch} {e : Env} {R : Room} {s : State} {m : MethodId} {as : Array Value} {below : List Frame} {meth : Method} {c : Code} {T : State} {L : List Loc} {C S : Nat} {En : Outcome → State → List Loc → Prop} {Q : Option Value → Heap → List Loc → Prop} {code : ByteArray} {g : JFrame} {i : Int} (X : Stand p l e R s m as below meth c T L C S) (hx : p.tables.exec = Jvm.exec) (hby : c.code = code) (hd : decode code g.pc = .ok (.iconst i, 1)) (h : Goes p e below En Q (T.setTop { g with pc := g.pc + 1, stack := .int (Int32.ofInt i) :: g.stack })) (hg : g.method = m := by rfl) : Goes p e below En Q (T.setTop g) := Gz (XS.iconst X.here hx hg (hb hby hd)) h
theorem gB {p : Program} {l : Launch} {e : Env} {R : Room} {s : State} {m : MethodId} {as : Array Value} {below : List Frame} {meth : Method} {c : Code} {T : State} {L : List Loc} {C S : Nat} {En : Outcome → State → List Loc → Prop} {Q : Option Value → Heap → List Loc → Prop} {code : ByteArray} {g : JFrame} {i : Int} (X : Stand p l e R s m as below meth c T L C S) (hx : p.tables.exec = Jvm.exec) (hby : c.code = code) (hd : decode code g.pc = .ok (.bipush i, 2)) (h : Goes p e below En Q (T.setTop { g with pc := g.pc + 2, stack := .int (Int8.ofInt i).toInt32 :: g.stack })) (hg : g.method = m := by rfl) : Goes p e below En Q (T.setTop g) := Gz (XS.bipush X.here hx hg (hb hby hd)) h
theorem gG {p : Program} {l : Launch} {e : Env} {R : Room} {s : State} {m : MethodId} {as : Array Value} {below : List Frame} {meth : Method} {c : Code} {T : State} {L : List Loc} {C S : Nat} {En : Outcome → State → List Loc → Prop} {Q : Option Value → Heap → List Loc → Prop} {code : ByteArray} {g : JFrame} {o : Int} (X : Stand p l e R s m as below meth c T L C S) (hx : p.tables.exec = Jvm.exec) (hby : c.code = code) (hd : decode code g.pc = .ok (.goto o, 3)) (pc0 pc' : Nat) (h : Goes p e below En Q (T.setTop { g with pc := pc' })) (hg : g.method = m := by rfl) (hpc : g.pc = pc0 := by rfl) (ho : 0 ≤ (pc0 : Int) + o := by decide) (hp : ((pc0 : Int) + o).toNat = pc' := by decide) : Goes p e below En Q (T.setTop g) := Gz (XS.goto X.here hx hg hpc (hb hby hd) ho hp) h
theorem gY {p : Program} {l : Launch} {e : Env} {R : Room} {s : State} {m : MethodId} {as : Array Value} {below : List Frame} {meth : Method} {c : Code} {T : State} {L : List Loc} {C S : Nat} {En : Outcome → State → List Loc → Prop} {Q : Option Value → Heap → List Loc → Prop} {code : ByteArray} {g : JFrame} {cd : ClassFile.Cond} {o : Int} {x y : Int32} {rest : List Value} (X : Stand p l e R s m as below meth c T L C S) (hx : p.tables.exec = Jvm.exec) (hby : c.code = code) (hd : decode code g.pc = .ok (.if_icmp cd o, 3)) (pc0 pc' : Nat) (hc : if_icmp.holds cd x y = true) (h : Goes p e below En Q (T.setTop { g with pc := pc', stack := rest })) (hg : g.method = m := by rfl) (hpc : g.pc = pc0 := by rfl) (hs : g.stack = .int y :: .int x :: rest := by rfl) (ho : 0 ≤ (pc0 : Int) + o := by decide) (hp : ((pc0 : Int) + o).toNat = pc' := by decide) : Goes p e below En Q (T.setTop g) := Gz (XS.icmpYes X.here hx hg hpc (hb hby hd) hs hc ho hp) h
theorem gU {p : Program} {l : Launch} {e : Env} {R : Room} {s : State} {m : MethodId} {as : Array Value} {below : List Frame} {meth : Method} {c : Code} {T : State} {L : List Loc} {C S : Nat} {En : Outcome → State → List Loc → Prop} {Q : Option Value → Heap → List Loc → Prop} {code : ByteArray} {g : JFrame} {cd : ClassFile.Cond} {o : Int} {x y : Int32} {rest : List Value} (X : Stand p l e R s m as below meth c T L C S) (hx : p.tables.exec = Jvm.exec) (hby : c.code = code) (hd : decode code g.pc = .ok (.if_icmp cd o, 3)) (hc : if_icmp.holds cd x y = false) (h : Goes p e below En Q (T.setTop { g with pc := g.pc + 3, stack := rest })) (hg : g.method = m := by rfl) (hs : g.stack = .int y :: .int x :: rest := by rfl) : Goes p e below En Q (T.setTop g) := Gz (XS.icmpNo X.here hx hg (hb hby hd) hs hc) h
theorem gy {p : Program} {l : Launch} {e : Env} {R : Room} {s : State} {m : MethodId} {as : Array Value} {below : List Frame} {meth : Method} {c : Code} {T : State} {L : List Loc} {C S : Nat} {En : Outcome → State → List Loc → Prop} {Q : Option Value → Heap → List Loc → Prop} {code : ByteArray} {g : JFrame} {cd : ClassFile.Cond} {o : Int} {x : Int32} {rest : List Value} (X : Stand p l e R s m as below meth c T L C S) (hx : p.tables.exec = Jvm.exec) (hby : c.code = code) (hd : decode code g.pc = .ok (.ifCond cd o, 3)) (pc0 pc' : Nat) (hc : ifCond.holds cd x = true) (h : Goes p e below En Q (T.setTop { g with pc := pc', stack := rest })) (hg : g.method = m := by rfl) (hpc : g.pc = pc0 := by rfl) (hs : g.stack = .int x :: rest := by rfl) (ho : 0 ≤ (pc0 : Int) + o := by decide) (hp : ((pc0 : Int) + o).toNat = pc' := by decide) : Goes p e below En Q (T.setTop g) := Gz (XS.ifYes X.here hx hg hpc (hb hby hd) hs hc ho hp) h
theorem gu {p : Program} {l : Launch} {e : Env} {R : Room} {s : State} {m : MethodId} {as : Array Value} {below : List Frame} {meth : Method} {c : Code} {T : State} {L : List Loc} {C S : Nat} {En : Outcome → State → List Loc → Prop} {Q : Option Value → Heap → List Loc → Prop} {code : ByteArray} {g : JFrame} {cd : ClassFile.Cond} {o : Int} {x : Int32} {rest : List Value} (X : Stand p l e R s m as below meth c T L C S) (hx : p.tables.exec = Jvm.exec) (hby : c.code = code) (hd : decode code g.pc = .ok (.ifCond cd o, 3)) (hc : ifCond.holds cd x = false) (h : Goes p e below En Q (T.setTop { g with pc := g.pc + 3, stack := rest })) (hg : g.method = m := by rfl) (hs : g.stack = .int x :: rest := by rfl) : Goes p e below En Q (T.setTop g) := Gz (XS.ifNo X.here hx hg (hb hby hd) hs hc) h
theorem cVg {Z : State} {a0 : Array Value} {p : Program} {l : Launch} {e : Env} {R : Room} {s : State} {m : MethodId} {args : Array Value} {below : List Frame} {meth : Method} {c : Code} {T : State} {locs : List Loc} {cells slots : Nat} {En : Outcome → State → List Loc → Prop} {Q : Option Value → Heap → List Loc → Prop} {h : Heap} {ml : Nat} {code bytes : ByteArray} {maxL idx : Nat} {ret : Option FieldType} {rm : Room} {vs : Array Value} {Qc : Option Value → Heap → List Loc → Prop} {own C : String} {argsL rest st : List Value} {pc : Nat} {ls : Array Slot} {A : State} (X : Stand p l e R s m args below meth c T locs cells slots) (hx : p.tables.exec = Jvm.exec) (hZ : Z.Warmed39 s.vm) (hw : HW a0 Z) (hown : s.vm.findClass own = some m.cls) (hby : c.code = code) (hml : c.maxLocals = ml) (eT : T.heap = h) (y : MethodName) (i1 i2 i3 i4 i5 i6 W : Nat) (hM : Met l Z y bytes maxL ret rm [] vs h Qc) {b : Addr} (E : Exa Z h b C) (hd : decode code pc = .ok (.invokevirtual idx, 3)) (len : ∀ sig, parseMethodDescriptor y.desc = some sig → argsL.length = sig.parameters.length) (k : ∀ (v : Option Value) (T' : State) (L : List Loc), Stand p l e R s m args below meth c T' (locs ++ L) (cells + rm.cells) (slots + rm.slots) → Qc v T'.heap L → Goes p e below En Q (T'.setTop (mkF m (pc + 3) ls (v.toList ++ rest))))(hA : A = T.setTop (mkF m pc ls st) := by rfl) (w1 : tables_1[i1]? = some (.methodLink own idx y) := by rfl) (w2 : tables_1[i2]? = some (.declares y) := by rfl) (w3 : tables_1[i3]? = some (.selects C y y) := by rfl) (w4 : tables_1[i4]? = some (.instanceMethod y) := by rfl) (w5 : tables_1[i5]? = some (.code y bytes maxL ret) := by rfl) (w6 : tables_1[i6]? = some (.initialized y.cls) := by rfl) (hy : y.cls ≠ "java/lang/invoke/MethodHandle" ∧ y.cls ≠ "java/lang/invoke/VarHandle" := by decide) (hf : rm.frames + 1 ≤ R.frames := by decide) (hl : W + (maxL + 11) + rm.locals ≤ R.locals := by decide) (hc : cells + rm.cells ≤ R.cells := by decide) (hs : slots + rm.slots ≤ R.slots := by decide) (hls : ls.size = ml := by rfl) (hvs : vs = (.ref b :: argsL).toArray := by rfl) (hst : st = argsL.reverse ++ .ref b :: rest := by rfl) (hW : (rest.map fun v => v.category).sum = W := by rfl) : Goes p e below En Q A := by
  subst hA
  obtain ⟨cq, kq, qa, qb, qc⟩ := isOf hZ eT E
  subst hvs
  obtain ⟨v, _, ⟨T', L', k', n'⟩, -, X', ⟨Lc, hQ, l', y', z'⟩, st'⟩ := X.virtualBack hx (y := y) (z := y) hown (gz hZ hw i1 w1) (gz hZ hw i2 w2) (notFace_of_selects (args := #[]) (gz hZ hw i3 w3)) (gz hZ hw i3 w3) (gz hZ hw i4 w4) hy (backOf (W := W) hM hZ (gw hw i5 w5) (gw hw i6 w6) hf hl) qa qc (g := mkF m pc ls st) rfl (hls.trans hml.symm) (Steps.refl _) (argsL := argsL) (rest := rest) len hst (w0 (Nat.le_of_eq hW)) (hb hby hd) (fun _ _ => ⟨rfl, eT, hc, hs⟩)
  dsimp only [Pt.U, Pt.locs, Pt.cells, Pt.slots] at X' l' y' z' st' hQ
  subst l' y' z'
  exact Gs (fun _ tk => st'.trans tk) (k v T' Lc X' hQ)
theorem cV {n0 : Nat} {r : Option Value} {Z : State} {a0 : Array Value} {p : Program} {l : Launch} {e : Env} {R : Room} {s : State} {m : MethodId} {args : Array Value} {below : List Frame} {meth : Method} {c : Code} {T : State} {locs : List Loc} {cells slots : Nat} {En : Outcome → State → List Loc → Prop} {Q : Option Value → Heap → List Loc → Prop} {h : Heap} {ml : Nat} {code bytes : ByteArray} {maxL idx : Nat} {ret : Option FieldType} {rm : Room} {vs : Array Value} {Qc : Option Value → Heap → List Loc → Prop} {own C : String} {argsL rest st : List Value} {pc : Nat} {ls : Array Slot} {A : State} (X : Stand p l e R s m args below meth c T locs cells slots) (hx : p.tables.exec = Jvm.exec) (hZ : Z.Warmed39 s.vm) (hw : HW a0 Z) (hown : s.vm.findClass own = some m.cls) (hby : c.code = code) (hml : c.maxLocals = ml) (eT : T.heap = h) (y : MethodName) (i1 i2 i3 i4 i5 i6 W : Nat) (hM : Met l Z y bytes maxL ret rm [] vs h Qc) {b : Addr} (E : Exa Z h b C) (hd : decode code pc = .ok (.invokevirtual idx, 3)) (len : ∀ sig, parseMethodDescriptor y.desc = some sig → argsL.length = sig.parameters.length) (N : Fr n0 locs) (k : ∀ (T' : State) (L : List Loc), Stand p l e R s m args below meth c T' L cells slots → T'.heap = h → Fr n0 L → Goes p e below En Q (T'.setTop (mkF m (pc + 3) ls (r.toList ++ rest))))(hA : A = T.setTop (mkF m pc ls st) := by rfl) (w1 : tables_1[i1]? = some (.methodLink own idx y) := by rfl) (w2 : tables_1[i2]? = some (.declares y) := by rfl) (w3 : tables_1[i3]? = some (.selects C y y) := by rfl) (w4 : tables_1[i4]? = some (.instanceMethod y) := by rfl) (w5 : tables_1[i5]? = some (.code y bytes maxL ret) := by rfl) (w6 : tables_1[i6]? = some (.initialized y.cls) := by rfl) (hy : y.cls ≠ "java/lang/invoke/MethodHandle" ∧ y.cls ≠ "java/lang/invoke/VarHandle" := by decide) (hf : rm.frames + 1 ≤ R.frames := by decide) (hl : W + (maxL + 11) + rm.locals ≤ R.locals := by decide) (hc : cells + rm.cells ≤ R.cells := by decide) (hs : slots + rm.slots ≤ R.slots := by decide) (hls : ls.size = ml := by rfl) (hvs : vs = (.ref b :: argsL).toArray := by rfl) (hst : st = argsL.reverse ++ .ref b :: rest := by rfl) (hW : (rest.map fun v => v.category).sum = W := by rfl)(hQ : ∀ v h' L, Qc v h' L → v = r ∧ Fr n0 L ∧ h' = h := by exact fun _ _ _ q => q) (c0 : rm.cells = 0 := by rfl) (s0 : rm.slots = 0 := by rfl)  : Goes p e below En Q A := by
  subst hA
  refine cVg X hx hZ hw hown hby hml eT y i1 i2 i3 i4 i5 i6 W hM E hd len (fun v T' L X' q => ?_) rfl w1 w2 w3 w4 w5 w6 hy hf hl hc hs hls hvs hst hW
  obtain ⟨rfl, N', e'⟩ := hQ _ _ _ q
  rw [c0, s0] at X'
  exact k T' _ X' e' (N.app N')
theorem cSg {Z : State} {a0 : Array Value} {p : Program} {l : Launch} {e : Env} {R : Room} {s : State} {m : MethodId} {args : Array Value} {below : List Frame} {meth : Method} {c : Code} {T : State} {locs : List Loc} {cells slots : Nat} {En : Outcome → State → List Loc → Prop} {Q : Option Value → Heap → List Loc → Prop} {h : Heap} {ml : Nat} {code bytes : ByteArray} {maxL idx : Nat} {ret : Option FieldType} {rm : Room} {vs : Array Value} {Qc : Option Value → Heap → List Loc → Prop} {own : String} {argsL rest st : List Value} {pc : Nat} {ls : Array Slot} {A : State} (X : Stand p l e R s m args below meth c T locs cells slots) (hx : p.tables.exec = Jvm.exec) (hZ : Z.Warmed39 s.vm) (hw : HW a0 Z) (hown : s.vm.findClass own = some m.cls) (hby : c.code = code) (hml : c.maxLocals = ml) (eT : T.heap = h) (y : MethodName) (i1 i2 i5 i6 W : Nat) (hM : Met l Z y bytes maxL ret rm [] vs h Qc) (hd : decode code pc = .ok (.invokestatic idx, 3)) (len : ∀ sig, parseMethodDescriptor y.desc = some sig → argsL.length = sig.parameters.length) (k : ∀ (v : Option Value) (T' : State) (L : List Loc), Stand p l e R s m args below meth c T' (locs ++ L) (cells + rm.cells) (slots + rm.slots) → Qc v T'.heap L → Goes p e below En Q (T'.setTop (mkF m (pc + 3) ls (v.toList ++ rest))))(hA : A = T.setTop (mkF m pc ls st) := by rfl) (w1 : tables_1[i1]? = some (.methodLink own idx y) := by rfl) (w2 : tables_1[i2]? = some (.static y) := by rfl) (w5 : tables_1[i5]? = some (.code y bytes maxL ret) := by rfl) (w6 : tables_1[i6]? = some (.initialized y.cls) := by rfl) (hy : y.cls ≠ "java/lang/invoke/MethodHandle" ∧ y.cls ≠ "java/lang/invoke/VarHandle" := by decide) (hf : rm.frames + 1 ≤ R.frames := by decide) (hl : W + (maxL + 11) + rm.locals ≤ R.locals := by decide) (hc : cells + rm.cells ≤ R.cells := by decide) (hs : slots + rm.slots ≤ R.slots := by decide) (hls : ls.size = ml := by rfl) (hvs : vs = (argsL).toArray := by rfl) (hst : st = argsL.reverse ++ rest := by rfl) (hW : (rest.map fun v => v.category).sum = W := by rfl) : Goes p e below En Q A := by
  subst hA
  subst hvs
  obtain ⟨v, _, ⟨T', L', k', n'⟩, -, X', ⟨Lc, hQ, l', y', z'⟩, st'⟩ := Jvm.LawKit.callS X hx (y := y) hown (gz hZ hw i1 w1) (gz hZ hw i2 w2) (gz hZ hw i6 w6) (gz hZ hw i5 w5) hy (backOf (W := W) hM hZ (gw hw i5 w5) (gw hw i6 w6) hf hl) (g := mkF m pc ls st) rfl (hls.trans hml.symm) (argsL := argsL) (rest := rest) len hst (w0 (Nat.le_of_eq hW)) (hb hby hd) (fun _ _ => ⟨rfl, eT, hc, hs⟩)
  dsimp only [Pt.U, Pt.locs, Pt.cells, Pt.slots] at X' l' y' z' st' hQ
  subst l' y' z'
  exact Gs st' (k v T' Lc X' hQ)
theorem cS {n0 : Nat} {r : Option Value} {Z : State} {a0 : Array Value} {p : Program} {l : Launch} {e : Env} {R : Room} {s : State} {m : MethodId} {args : Array Value} {below : List Frame} {meth : Method} {c : Code} {T : State} {locs : List Loc} {cells slots : Nat} {En : Outcome → State → List Loc → Prop} {Q : Option Value → Heap → List Loc → Prop} {h : Heap} {ml : Nat} {code bytes : ByteArray} {maxL idx : Nat} {ret : Option FieldType} {rm : Room} {vs : Array Value} {Qc : Option Value → Heap → List Loc → Prop} {own : String} {argsL rest st : List Value} {pc : Nat} {ls : Array Slot} {A : State} (X : Stand p l e R s m args below meth c T locs cells slots) (hx : p.tables.exec = Jvm.exec) (hZ : Z.Warmed39 s.vm) (hw : HW a0 Z) (hown : s.vm.findClass own = some m.cls) (hby : c.code = code) (hml : c.maxLocals = ml) (eT : T.heap = h) (y : MethodName) (i1 i2 i5 i6 W : Nat) (hM : Met l Z y bytes maxL ret rm [] vs h Qc) (hd : decode code pc = .ok (.invokestatic idx, 3)) (len : ∀ sig, parseMethodDescriptor y.desc = some sig → argsL.length = sig.parameters.length) (N : Fr n0 locs) (k : ∀ (T' : State) (L : List Loc), Stand p l e R s m args below meth c T' L cells slots → T'.heap = h → Fr n0 L → Goes p e below En Q (T'.setTop (mkF m (pc + 3) ls (r.toList ++ rest))))(hA : A = T.setTop (mkF m pc ls st) := by rfl) (w1 : tables_1[i1]? = some (.methodLink own idx y) := by rfl) (w2 : tables_1[i2]? = some (.static y) := by rfl) (w5 : tables_1[i5]? = some (.code y bytes maxL ret) := by rfl) (w6 : tables_1[i6]? = some (.initialized y.cls) := by rfl) (hy : y.cls ≠ "java/lang/invoke/MethodHandle" ∧ y.cls ≠ "java/lang/invoke/VarHandle" := by decide) (hf : rm.frames + 1 ≤ R.frames := by decide) (hl : W + (maxL + 11) + rm.locals ≤ R.locals := by decide) (hc : cells + rm.cells ≤ R.cells := by decide) (hs : slots + rm.slots ≤ R.slots := by decide) (hls : ls.size = ml := by rfl) (hvs : vs = (argsL).toArray := by rfl) (hst : st = argsL.reverse ++ rest := by rfl) (hW : (rest.map fun v => v.category).sum = W := by rfl)(hQ : ∀ v h' L, Qc v h' L → v = r ∧ Fr n0 L ∧ h' = h := by exact fun _ _ _ q => q) (c0 : rm.cells = 0 := by rfl) (s0 : rm.slots = 0 := by rfl)  : Goes p e below En Q A := by
  subst hA
  refine cSg X hx hZ hw hown hby hml eT y i1 i2 i5 i6 W hM  hd len (fun v T' L X' q => ?_) rfl w1 w2 w5 w6 hy hf hl hc hs hls hvs hst hW
  obtain ⟨rfl, N', e'⟩ := hQ _ _ _ q
  rw [c0, s0] at X'
  exact k T' _ X' e' (N.app N')
theorem cIg {Z : State} {a0 : Array Value} {p : Program} {l : Launch} {e : Env} {R : Room} {s : State} {m : MethodId} {args : Array Value} {below : List Frame} {meth : Method} {c : Code} {T : State} {locs : List Loc} {cells slots : Nat} {En : Outcome → State → List Loc → Prop} {Q : Option Value → Heap → List Loc → Prop} {h : Heap} {ml : Nat} {code bytes : ByteArray} {maxL idx : Nat} {rm : Room} {vs : Array Value} {Qc : Option Value → Heap → List Loc → Prop} {own : String} {argsL rest st : List Value} {pc : Nat} {ls : Array Slot} {A : State} (X : Stand p l e R s m args below meth c T locs cells slots) (hx : p.tables.exec = Jvm.exec) (hZ : Z.Warmed39 s.vm) (hw : HW a0 Z) (hown : s.vm.findClass own = some m.cls) (hby : c.code = code) (hml : c.maxLocals = ml) (eT : T.heap = h) (y : MethodName) (i1 i4 i5 i6 W : Nat) (hM : Met l Z y bytes maxL none rm [] vs h Qc) {b : Addr} (hd : decode code pc = .ok (.invokespecial idx, 3)) (len : ∀ sig, parseMethodDescriptor y.desc = some sig → argsL.length = sig.parameters.length) (k : ∀ (v : Option Value) (T' : State) (L : List Loc), Stand p l e R s m args below meth c T' (locs ++ L) (cells + rm.cells) (slots + rm.slots) → Qc v T'.heap L → Goes p e below En Q (T'.setTop (mkF m (pc + 3) ls (v.toList ++ rest))))(hA : A = T.setTop (mkF m pc ls st) := by rfl) (w1 : tables_1[i1]? = some (.methodLink own idx y) := by rfl) (w4 : tables_1[i4]? = some (.instanceMethod y) := by rfl) (w5 : tables_1[i5]? = some (.code y bytes maxL none) := by rfl) (w6 : tables_1[i6]? = some (.initialized y.cls) := by rfl) (hi : y.name = "<init>" := by rfl) (hy : y.cls ≠ "java/lang/invoke/MethodHandle" ∧ y.cls ≠ "java/lang/invoke/VarHandle" := by decide) (hf : rm.frames + 1 ≤ R.frames := by decide) (hl : W + (maxL + 11) + rm.locals ≤ R.locals := by decide) (hc : cells + rm.cells ≤ R.cells := by decide) (hs : slots + rm.slots ≤ R.slots := by decide) (hls : ls.size = ml := by rfl) (hvs : vs = (.ref b :: argsL).toArray := by rfl) (hst : st = argsL.reverse ++ .ref b :: rest := by rfl) (hW : (rest.map fun v => v.category).sum = W := by rfl) : Goes p e below En Q A := by
  subst hA
  subst hvs
  obtain ⟨v, _, ⟨T', L', k', n'⟩, -, X', ⟨Lc, hQ, l', y', z'⟩, st'⟩ := X.specialBack hx (y := y) hi hown (gz hZ hw i1 w1) (gz hZ hw i4 w4) (gz hZ hw i5 w5) hy (backOf (W := W) hM hZ (gw hw i5 w5) (gw hw i6 w6) hf hl) (g := mkF m pc ls st) rfl (hls.trans hml.symm) (Steps.refl _) (a := b) (argsL := argsL) (rest := rest) len hst (w0 (Nat.le_of_eq hW)) (hb hby hd) (fun _ _ => ⟨rfl, eT, hc, hs⟩)
  dsimp only [Pt.U, Pt.locs, Pt.cells, Pt.slots] at X' l' y' z' st' hQ
  subst l' y' z'
  exact Gs (fun _ tk => st'.trans tk) (k v T' Lc X' hQ)
abbrev ALN : String := "com/example/tandemtrie/tandemtrie/array/Alphabet"
def own_bl (F : Nat → Int32) (off n : Nat) : List Value := (List.range n).map fun i => .int (F (off + i))
def own_up (F : Nat → Int32) (c : Nat) (v : Int32) : Nat → Int32 := fun x => if x = c then v else F x
theorem own_upS (F : Nat → Int32) (c : Nat) (v : Int32) : own_up F c v c = v := if_pos rfl
theorem own_upN {F : Nat → Int32} {c x : Nat} {v : Int32} (h : x ≠ c) : own_up F c v x = F x := if_neg h
theorem own_blL (F : Nat → Int32) (off n : Nat) : (own_bl F off n).length = n := by simp [own_bl]
theorem own_blG {F : Nat → Int32} {off n i : Nat} (d : Value) (h : i < n) : (own_bl F off n).getD i d = .int (F (off + i)) := by simp [own_bl, List.getD, h]
theorem own_blC {F F' : Nat → Int32} {off n : Nat} (h : ∀ i, i < n → F' (off + i) = F (off + i)) : own_bl F' off n = own_bl F off n := by
  unfold own_bl; exact List.map_congr_left fun i hi => by rw [h i (List.mem_range.mp hi)]
theorem own_blS {F : Nat → Int32} {off n i : Nat} {v : Int32} (h : i < n) : (own_bl F off n).set i (.int v) = own_bl (own_up F (off + i) v) off n := by
  apply List.ext_getElem?
  intro j
  rw [List.getElem?_set]
  by_cases e : i = j
  · subst e; simp [own_bl, own_up, h]
  · rw [if_neg e]
    by_cases hj : j < n
    · simp [own_bl, own_up, hj]; intro q; omega
    · simp [own_bl, hj]
theorem own_blR (v : Int32) (off n : Nat) : List.replicate n (.int v) = own_bl (fun _ => v) off n := by
  apply List.ext_getElem?
  intro j
  by_cases hj : j < n <;> simp [own_bl, hj, List.getElem?_replicate]
theorem own_repS (v w : Value) (i : Nat) : (List.replicate i v ++ List.replicate 1 w).set i v = List.replicate (i + 1) v := by
  apply List.ext_getElem?
  intro j
  rw [List.getElem?_set]
  by_cases e : i = j
  · subst e; simp
  · rw [if_neg e, List.getElem?_append]
    by_cases hj : j < i
    · simp [hj, List.getElem?_replicate, Nat.lt_succ_of_lt hj]
    · have : ¬ j < i + 1 := by omega
      have h2 : ¬ j - i < 1 := by omega
      simp [hj, List.getElem?_replicate, this]; omega
theorem own_tn {x : Int32} (h : 0 ≤ x.toInt) : (x.toNatClampNeg : Int) = x.toInt := by
  show ((x.toInt.toNat : Nat) : Int) = x.toInt
  omega
theorem own_nn {x : Int32} (h : 0 ≤ x.toInt) : ¬ x < 0 := by
  have e0 : (0 : Int32).toInt = 0 := by decide
  rw [Int32.lt_iff_toInt_lt, e0]; omega
theorem own_nn' {x : Int32} (h : ¬ x < 0) : 0 ≤ x.toInt := by
  have e0 : (0 : Int32).toInt = 0 := by decide
  rw [Int32.lt_iff_toInt_lt, e0] at h; omega
theorem own_lt {x y : Int32} (hx : 0 ≤ x.toInt) (h : x < y) : x.toNatClampNeg < y.toNatClampNeg := by
  rw [Int32.lt_iff_toInt_lt] at h
  have a := own_tn hx
  have b := own_tn (x := y) (by omega)
  omega
theorem own_le {x y : Int32} (hx : 0 ≤ x.toInt) (hy : 0 ≤ y.toInt) (h : ¬ x < y) : y.toNatClampNeg ≤ x.toNatClampNeg := by
  rw [Int32.lt_iff_toInt_lt] at h
  have a := own_tn hx
  have b := own_tn hy
  omega
theorem own_nq {x y : Int32} (h : x < y) : ¬ (x = y) := fun e => by rw [e] at h; exact Int32.lt_irrefl h
theorem own_tnE {x y : Int32} (hx : 0 ≤ x.toInt) (hy : 0 ≤ y.toInt) (h : x.toNatClampNeg = y.toNatClampNeg) : x = y := by
  have a := own_tn hx
  have b := own_tn hy
  rw [← Int32.toInt_inj]; omega
theorem own_ltI {x y : Int32} (hx : 0 ≤ x.toInt) (hy : ¬ y < 0) (h : x.toNatClampNeg < y.toNatClampNeg) : x < y := by
  have a := own_tn hx
  have b := own_tn (own_nn' hy)
  rw [Int32.lt_iff_toInt_lt]; omega
theorem own_65 : (65536 : Int32).toInt = 65536 := by decide
theorem own_lo {q : Int32} (hq : 0 ≤ q.toInt) (h : q < 65536) : q.toNatClampNeg < 65536 := by
  rw [Int32.lt_iff_toInt_lt, own_65] at h
  have a := own_tn hq
  omega
theorem own_hi {q : Int32} (hq : 0 ≤ q.toInt) (h : ¬ q < 65536) : 65536 ≤ q.toNatClampNeg := by
  rw [Int32.lt_iff_toInt_lt, own_65] at h
  have a := own_tn hq
  omega
def own_bi (c : Int32) : Int32 := (((c - (65536 : Int32)).toUInt32 >>> ((8 : Int32) &&& 31).toUInt32).toInt32)
theorem own_bis {q : Int32} (h1 : q.toInt < 1114112) (hq : 0 ≤ q.toInt) (h : ¬ q < 65536) :
    (own_bi q).toNatClampNeg < 4096 ∧ ¬ own_bi q < 0 ∧ own_bi q < 4096 ∧ q.toNatClampNeg = 65536 + 256 * (own_bi q).toNatClampNeg + (q &&& 255).toNatClampNeg ∧ (q &&& 255).toNatClampNeg < 256 ∧ ¬ (q &&& 255) < 0 ∧ (q &&& 255) < 256 := by
  rw [Int32.lt_iff_toInt_lt, own_65] at h
  have a := c_isub q 65536
  have r := rng32 (q - 65536)
  rw [own_65] at a
  have s : (own_bi q).toInt = ((q - 65536).toInt % 4294967296) / (2 ^ 8 : Nat) := c_iushr (q - 65536) 8 8 (by decide) (by decide)
  have k : (q &&& 255).toInt = q.toInt % (2 ^ 8 : Nat) := c_mask q 255 8 (by decide) (by decide)
  have e0 : (0 : Int32).toInt = 0 := by decide
  have e1 : (4096 : Int32).toInt = 4096 := by decide
  have e2 : (256 : Int32).toInt = 256 := by decide
  have p : ((2 ^ 8 : Nat) : Int) = 256 := by decide
  rw [p] at s k
  have t1 := own_tn hq
  have t2 := own_tn (x := own_bi q) (by omega)
  have t3 := own_tn (x := q &&& 255) (by omega)
  simp only [Int32.lt_iff_toInt_lt, e0, e1, e2]
  refine ⟨by omega, by omega, by omega, by omega, by omega, by omega, by omega⟩
section Al
variable {Z : State} {h h' h0 : Heap} {a b B P S : Addr} {kB kP kS kb : ClassId} {F F' : Nat → Int32} {nb sz mm v : Int32} {sl sl' pl : List Value} {ex ws : List Addr} {sv : Value}
def Blk (Z : State) (h : Heap) (a : Addr) (ex : List Addr) (sl : List Value) (F : Nat → Int32) : Prop := sl.length = 4096 ∧
  (∀ i, i < 4096 → (sl.getD i .null = .null ∧ ∀ j, j < 256 → F (65536 + 256 * i + j) = -1) ∨
    ∃ (b : Addr) (kb : ClassId), sl.getD i .null = .ref b ∧ a < b ∧ b ∉ ex ∧ Arv Z h b kb .int (256 : Int32) (own_bl F (65536 + 256 * i) 256) (.int (0 : Int32))) ∧
  ∀ i j b, i < 4096 → j < 4096 → sl.getD i .null = .ref b → sl.getD j .null = .ref b → i = j
def AlS (Z : State) (h : Heap) (a : Addr) (F : Nat → Int32) (ex : List Addr) (sv : Value) : Prop := (sv = .null ∧ ∀ q, 65536 ≤ q → F q = -1) ∨
  ∃ (S : Addr) (kS : ClassId) (sl : List Value), sv = .ref S ∧ a < S ∧ S ∉ ex ∧ OvrA Z kS .int "[I" ∧ Arv Z h S kS (.array .int) (4096 : Int32) sl .null ∧ Blk Z h a (S :: ex) sl F
def AlOf (Z : State) (h : Heap) (a : Addr) (F : Nat → Int32) (nb sz mm : Int32) : Prop := ∃ (B : Addr) (kB : ClassId) (P : Addr) (kP : ClassId) (pl : List Value) (sv : Value), Exa Z h a ALN ∧ Fld Z h a ALN "basic" "[I" (.ref B) ∧ Fld Z h a ALN "codePoints" "[I" (.ref P) ∧ Fld Z h a ALN "size" "I" (.int sz) ∧ Fld Z h a ALN "supplementary" "[[I" sv ∧
  Arv Z h B kB .int nb (own_bl F 0 nb.toNatClampNeg) (.int (0 : Int32)) ∧ Arv Z h P kP .int mm pl (.int (0 : Int32)) ∧ pl.length = mm.toNatClampNeg ∧ a < B ∧ a < P ∧ B ≠ P ∧ (∀ q, nb.toNatClampNeg ≤ q → q < 65536 → F q = -1) ∧ nb.toNatClampNeg ≤ 65536 ∧ ¬ nb < 0 ∧ AlS Z h a F [B, P] sv
def KB (a : Addr) (h h' : Heap) : Prop := h.size ≤ h'.size ∧ ∀ (x : Addr) (c : Cell), x < a → h[x]? = some c → h'[x]? = some c
theorem own_KB (K : Keep h h' ws) (q : ∀ x ∈ ws, a ≤ x) : KB a h h' := ⟨K.1, fun x c hx hc => K.2.1 x c hc fun m => absurd (q x m) (Nat.not_le.mpr hx)⟩
theorem KB.arv {k : ClassId} {ty : FieldType} {z : Int32} {vs : List Value} {d : Value} {x : Addr} (K : KB a h h') (F : Arv Z h x k ty z vs d) (hx : x < a) : Arv Z h' x k ty z vs d := by
  obtain ⟨c, A, r⟩ := F
  exact ⟨c, ⟨K.2 x c hx A.1, A.2⟩, r⟩
theorem Blk.keep (H : Blk Z h a ex sl F) (K : Keep h h' ws) (q : ∀ x ∈ ws, x ≤ a ∨ x ∈ ex) (hF : ∀ x, 65536 ≤ x → F' x = F x) : Blk Z h' a ex sl F' := by
  obtain ⟨h1, h2, h3⟩ := H
  refine ⟨h1, fun i hi => ?_, h3⟩
  rcases h2 i hi with ⟨e, f⟩ | ⟨b, kb, e, ab, nb, V⟩
  · exact Or.inl ⟨e, fun j hj => by rw [hF _ (by omega)]; exact f j hj⟩
  · refine Or.inr ⟨b, kb, e, ab, nb, ?_⟩
    rw [own_blC (F := F) fun j hj => hF _ (by omega)]
    exact V.keep K fun m => (q b m).elim (fun z => absurd ab (Nat.not_lt.mpr z)) nb
theorem AlS.keep (H : AlS Z h a F ex sv) (K : Keep h h' ws) (q : ∀ x ∈ ws, x ≤ a ∨ x ∈ ex) (hF : ∀ x, 65536 ≤ x → F' x = F x) : AlS Z h' a F' ex sv := by
  rcases H with ⟨e, f⟩ | ⟨S, kS, sl, e, aS, nS, O, V, G⟩
  · exact Or.inl ⟨e, fun x hx => by rw [hF x hx]; exact f x hx⟩
  · exact Or.inr ⟨S, kS, sl, e, aS, nS, O, V.keep K fun m => (q S m).elim (fun z => absurd aS (Nat.not_lt.mpr z)) nS, G.keep K (fun x hx => (q x hx).imp id (List.mem_cons_of_mem _)) hF⟩
theorem own_rpG (n j : Nat) : (List.replicate n (Value.null)).getD j .null = .null := by
  rw [List.getD, List.getElem?_replicate]; split <;> rfl
theorem own_blk0 (f : ∀ x, 65536 ≤ x → F x = -1) : Blk Z h a ex (List.replicate 4096 .null) F := by
  refine ⟨List.length_replicate, fun i hi => Or.inl ⟨own_rpG _ _, fun j _ => f _ (by omega)⟩, fun i j b hi _ e _ => ?_⟩
  rw [own_rpG] at e; cases e
theorem own_blkUp {i : Nat} (hi : i < 4096) (H : Blk Z h0 a ex sl F) (K : Keep h0 h ws) (ab : a < b) (nb : b ∉ ex) (hn : ∀ j, j < 4096 → j ≠ i → sl.getD j .null ≠ .ref b) (hw : ∀ x ∈ ws, x ≤ a ∨ x ∈ ex ∨ x = b)
    (hl : sl'.length = 4096) (hs : ∀ j, j ≠ i → sl'.getD j .null = sl.getD j .null) (hsi : sl'.getD i .null = .ref b) (V : Arv Z h b kb .int (256 : Int32) (own_bl F' (65536 + 256 * i) 256) (.int (0 : Int32)))
    (hF : ∀ j k, j ≠ i → k < 256 → F' (65536 + 256 * j + k) = F (65536 + 256 * j + k)) : Blk Z h a ex sl' F' := by
  obtain ⟨h1, h2, h3⟩ := H
  refine ⟨hl, fun j hj => ?_, fun x y c hx hy e1 e2 => ?_⟩
  · by_cases e : j = i
    · subst e; exact Or.inr ⟨b, kb, hsi, ab, nb, V⟩
    · rw [hs j e]
      rcases h2 j hj with ⟨e1, f⟩ | ⟨c, kc, e1, ac, nc, W⟩
      · exact Or.inl ⟨e1, fun k hk => by rw [hF j k e hk]; exact f k hk⟩
      · refine Or.inr ⟨c, kc, e1, ac, nc, ?_⟩
        rw [own_blC (F := F) fun k hk => hF j k e hk]
        refine W.keep K fun m => ?_
        rcases hw c m with z | z | z
        · exact absurd ac (Nat.not_lt.mpr z)
        · exact nc z
        · exact hn j hj e (by rw [e1, z])
  · by_cases e : x = i
    · by_cases e' : y = i
      · omega
      · subst e; rw [hsi] at e1; cases e1; rw [hs y e'] at e2; exact absurd e2 (hn y hy e')
    · by_cases e' : y = i
      · subst e'; rw [hsi] at e2; cases e2; rw [hs x e] at e1; exact absurd e1 (hn x hx e)
      · rw [hs x e] at e1; rw [hs y e'] at e2; exact h3 x y c hx hy e1 e2
theorem own_setD {sl : List Value} {i : Nat} {v : Value} (hi : i < sl.length) : (sl.set i v).getD i .null = v := by simp [List.getD, hi]
theorem own_setO {sl : List Value} {i j : Nat} {v : Value} (hj : j ≠ i) : (sl.set i v).getD j .null = sl.getD j .null := by simp [List.getD, List.getElem?_set, Ne.symm hj]
/-- a new block: no slot of the table names an address that the heap hasn't -/
theorem own_blkNew (H : Blk Z h0 a ex sl F) (q : h0.size ≤ b) : ∀ j, j < 4096 → sl.getD j .null ≠ .ref b := fun j hj e => by
  rcases H.2.1 j hj with ⟨e1, -⟩ | ⟨c, kc, e1, -, -, W⟩
  · rw [e] at e1; cases e1
  · rw [e] at e1; cases e1; exact absurd W.lt (Nat.not_lt.mpr q)
theorem own_off {c : Nat} {i r : Nat} (hc : c = 65536 + 256 * i + r) (hr : r < 256) (v : Int32) (F : Nat → Int32) : ∀ j k, j ≠ i → k < 256 → own_up F c v (65536 + 256 * j + k) = F (65536 + 256 * j + k) := fun j k hj hk => own_upN (by omega)
/-- behind add of a code point below 65536 -/
theorem own_addB {c : Nat} (A : Exa Z h a ALN) (f1 : Fld Z h a ALN "basic" "[I" (.ref B)) (f2 : Fld Z h a ALN "codePoints" "[I" (.ref P)) (f3 : Fld Z h a ALN "size" "I" (.int v)) (f4 : Fld Z h a ALN "supplementary" "[[I" sv)
    (vB : Arv Z h B kB .int nb ((own_bl F 0 nb.toNatClampNeg).set c (.int v)) (.int (0 : Int32))) (vP : Arv Z h P kP .int mm pl (.int (0 : Int32))) (hpl : pl.length = mm.toNatClampNeg) (aB : a < B) (aP : a < P) (n : B ≠ P)
    (hF : ∀ q, nb.toNatClampNeg ≤ q → q < 65536 → F q = -1) (hnb : nb.toNatClampNeg ≤ 65536) (hn0 : ¬ nb < 0) (hS : AlS Z h0 a F [B, P] sv) (K : Keep h0 h [a, P, B]) (hc : c < nb.toNatClampNeg) : AlOf Z h a (own_up F c v) nb v mm := by
  refine ⟨B, kB, P, kP, pl, sv, A, f1, f2, f3, f4, ?_, vP, hpl, aB, aP, n, fun q h1 h2 => by rw [own_upN (by omega)]; exact hF q h1 h2, hnb, hn0, hS.keep K ?_ fun x hx => own_upN (by omega)⟩
  · rw [own_blS hc, Nat.zero_add] at vB; exact vB
  · intro x hx
    simp only [List.mem_cons, List.not_mem_nil, or_false] at hx ⊢
    rcases hx with rfl | rfl | rfl
    · exact Or.inl (Nat.le_refl _)
    · exact Or.inr (Or.inr rfl)
    · exact Or.inr (Or.inl rfl)
/-- behind add of a code point from 65536 on -/
theorem own_addS {c : Nat} (A : Exa Z h a ALN) (f1 : Fld Z h a ALN "basic" "[I" (.ref B)) (f2 : Fld Z h a ALN "codePoints" "[I" (.ref P)) (f3 : Fld Z h a ALN "size" "I" (.int v)) (f4 : Fld Z h a ALN "supplementary" "[[I" (.ref S))
    (vB : Arv Z h B kB .int nb (own_bl F 0 nb.toNatClampNeg) (.int (0 : Int32))) (vP : Arv Z h P kP .int mm pl (.int (0 : Int32))) (hpl : pl.length = mm.toNatClampNeg) (aB : a < B) (aP : a < P) (n : B ≠ P)
    (hF : ∀ q, nb.toNatClampNeg ≤ q → q < 65536 → F q = -1) (hnb : nb.toNatClampNeg ≤ 65536) (hn0 : ¬ nb < 0) (hc : 65536 ≤ c) (aS : a < S) (nS : S ∉ [B, P]) (O : OvrA Z kS .int "[I") (vS : Arv Z h S kS (.array .int) (4096 : Int32) sl .null)
    (G : Blk Z h a [S, B, P] sl (own_up F c v)) : AlOf Z h a (own_up F c v) nb v mm := by
  refine ⟨B, kB, P, kP, pl, .ref S, A, f1, f2, f3, f4, ?_, vP, hpl, aB, aP, n, fun q h1 h2 => by rw [own_upN (by omega)]; exact hF q h1 h2, hnb, hn0, Or.inr ⟨S, kS, sl, rfl, aS, nS, O, vS, G⟩⟩
  rw [own_blC (F := F) fun i hi => own_upN (by omega)]; exact vB
theorem own_al0 (A : Exa Z h a ALN) (f1 : Fld Z h a ALN "basic" "[I" (.ref B)) (f2 : Fld Z h a ALN "codePoints" "[I" (.ref P)) (f3 : Fld Z h a ALN "size" "I" (.int sz)) (f4 : Fld Z h a ALN "supplementary" "[[I" .null)
    (vB : Arv Z h B kB .int nb (List.replicate nb.toNatClampNeg (.int (-1 : Int32))) (.int (0 : Int32))) (vP : Arv Z h P kP .int mm pl (.int (0 : Int32))) (hpl : pl.length = mm.toNatClampNeg) (aB : a < B) (aP : a < P) (n : B ≠ P) (hnb : nb.toNatClampNeg ≤ 65536) (hn0 : ¬ nb < 0) :
    AlOf Z h a (fun _ => -1) nb sz mm :=
  ⟨B, kB, P, kP, pl, .null, A, f1, f2, f3, f4, by rw [own_blR (-1) 0] at vB; exact vB, vP, hpl, aB, aP, n, fun _ _ _ => rfl, hnb, hn0, Or.inl ⟨rfl, fun _ _ => rfl⟩⟩
end Al
def own_mx (x y : Int32) : Int32 := if x < y then y else x
def own_hb (x c : Int32) : Int32 := if c < 65536 then own_mx x c else x
theorem own_hbOk {x c : Int32} (hx : -1 ≤ x.toInt ∧ x.toInt ≤ 65535) (hc : 0 ≤ c.toInt) : (-1 ≤ (own_hb x c).toInt ∧ (own_hb x c).toInt ≤ 65535) ∧ x.toInt ≤ (own_hb x c).toInt ∧ (c.toInt < 65536 → c.toInt ≤ (own_hb x c).toInt) := by
  unfold own_hb own_mx
  by_cases h1 : c < 65536
  · rw [if_pos h1]
    rw [Int32.lt_iff_toInt_lt, own_65] at h1
    by_cases h2 : x < c
    · rw [if_pos h2]; rw [Int32.lt_iff_toInt_lt] at h2; omega
    · rw [if_neg h2]; rw [Int32.lt_iff_toInt_lt] at h2; omega
  · rw [if_neg h1]
    rw [Int32.lt_iff_toInt_lt, own_65] at h1
    omega
theorem own_m1 : -1 ≤ (-1 : Int32).toInt ∧ (-1 : Int32).toInt ≤ 65535 := by decide
theorem own_nb {x : Int32} (h : -1 ≤ x.toInt ∧ x.toInt ≤ 65535) : ¬ (x + 1) < 0 ∧ (x + 1).toNatClampNeg ≤ 65536 := by
  have a := c_iadd x 1
  have r := rng32 (x + 1)
  have e1 : (1 : Int32).toInt = 1 := by decide
  have e0 : (0 : Int32).toInt = 0 := by decide
  rw [e1] at a
  have t := own_tn (x := x + 1) (by omega)
  rw [Int32.lt_iff_toInt_lt, e0]
  omega
theorem own_cb {x c : Int32} (h : -1 ≤ x.toInt ∧ x.toInt ≤ 65535) (hc : 0 ≤ c.toInt) (q : c.toInt < 65536 → c.toInt ≤ x.toInt) : c.toInt < 65536 → c.toNatClampNeg < (x + 1).toNatClampNeg := fun hl => by
  have a := c_iadd x 1
  have r := rng32 (x + 1)
  have e1 : (1 : Int32).toInt = 1 := by decide
  rw [e1] at a
  have := q hl
  have t := own_tn (x := x + 1) (by omega)
  have t' := own_tn hc
  omega
theorem own_cp (x : Int32) : 0 ≤ ((x &&& (2147483647 : Int32)) % (1114112 : Int32)).toInt ∧ ((x &&& (2147483647 : Int32)) % (1114112 : Int32)).toInt < 1114112 := by
  have h := c_and x 2147483647 (by decide)
  have h2 := (c_irem (x &&& (2147483647 : Int32)) 1114112 1114112 (by decide)).1 h.1
  omega
theorem own_cpN {x : Int32} (h : x.toInt < 1114112) : ¬ ((1114111 : Int32) < x) := by
  have e : (1114111 : Int32).toInt = 1114111 := by decide
  rw [Int32.lt_iff_toInt_lt, e]; omega
theorem own_xor {c d : Int32} (h : 0 ≤ c.toInt ∧ c.toInt < 1114112) : 0 ≤ (c ^^^ (d &&& (255 : Int32))).toInt ∧ (c ^^^ (d &&& (255 : Int32))).toInt < 1114112 := by
  have hm := c_and d 255 (by decide)
  have e : (255 : Int32).toInt = 255 := by decide
  rw [e] at hm
  generalize d &&& 255 = y at hm ⊢
  have key : ∀ z : Int32, z.toInt = if 2 * z.toBitVec.toNat < 2 ^ 32 then (z.toBitVec.toNat : Int) else (z.toBitVec.toNat : Int) - (2 ^ 32 : Nat) := fun z => BitVec.toInt_eq_toNat_cond z.toBitVec
  have kc := key c
  have ky := key y
  have kx := key (c ^^^ y)
  have lc := c.toBitVec.isLt
  have ly := y.toBitVec.isLt
  have hx : (c ^^^ y).toBitVec.toNat / 2 ^ 8 = c.toBitVec.toNat / 2 ^ 8 := by
    rw [Int32.toBitVec_xor, BitVec.toNat_xor, ← Nat.shiftRight_eq_div_pow, Nat.shiftRight_xor_distrib, Nat.shiftRight_eq_div_pow, Nat.shiftRight_eq_div_pow, show y.toBitVec.toNat / 2 ^ 8 = 0 from ?_, Nat.xor_zero]
    split at ky <;> omega
  split at kc <;> split at kx <;> omega
theorem own_n4 (k : Int32) : (k &&& (3 : Int32)) = 0 ∨ (k &&& (3 : Int32)) = 1 ∨ (k &&& (3 : Int32)) = 2 ∨ (k &&& (3 : Int32)) = 3 := by
  have h := c_and k 3 (by decide)
  have e0 : (0 : Int32).toInt = 0 := by decide
  have e1 : (1 : Int32).toInt = 1 := by decide
  have e2 : (2 : Int32).toInt = 2 := by decide
  have e3 : (3 : Int32).toInt = 3 := by decide
  rw [e3] at h
  simp only [← Int32.toInt_inj, e0, e1, e2, e3]
  omega
theorem own_ofS (i : Nat) : Int32.ofNat i + 1 = Int32.ofNat (i + 1) := by rw [Int32.ofNat_add]; rfl
theorem own_ofT {i : Nat} {z : Int32} (hz : ¬ z < 0) (hi : i ≤ z.toNatClampNeg) : (Int32.ofNat i).toInt = i ∧ (Int32.ofNat i).toNatClampNeg = i ∧ ¬ (Int32.ofNat i) < 0 ∧ (Int32.ofNat i < z ↔ i < z.toNatClampNeg) := by
  have t := own_tn (own_nn' hz)
  have r := rng32 z
  have l : (Int32.ofNat i).toInt = i := Int32.toInt_ofNat_of_lt (by omega)
  have t2 := own_tn (x := Int32.ofNat i) (by omega)
  have e0 : (0 : Int32).toInt = 0 := by decide
  rw [Int32.lt_iff_toInt_lt, Int32.lt_iff_toInt_lt, e0]
  omega
theorem own_loopG {p : Program} {l : Launch} {e : Env} {R : Room} {s : State} {m : MethodId} {as : Array Value} {below : List Frame} {meth : Method} {c : Code} {C S : Nat} {En : Outcome → State → List Loc → Prop} {Q : Option Value → Heap → List Loc → Prop} {T0 : State} {L0 : List Loc}
    {ι : Type} {μ : ι → Nat} {I : ι → State → List Loc → Prop} {B : ι → State → State}
    (step : ∀ (i : ι) (T : State) (L : List Loc), Stand p l e R s m as below meth c T L C S → I i T L → (∀ (j : ι) (T' : State) (L' : List Loc), μ j < μ i → Stand p l e R s m as below meth c T' L' C S → I j T' L' → Goes p e below En Q (B j T')) → Goes p e below En Q (B i T))
    (i0 : ι) (X : Stand p l e R s m as below meth c T0 L0 C S) (hi : I i0 T0 L0) : Goes p e below En Q (B i0 T0) := by
  have key : ∀ (k : Nat) (i : ι), μ i ≤ k → ∀ (T : State) (L : List Loc), Stand p l e R s m as below meth c T L C S → I i T L → Goes p e below En Q (B i T) := by
    intro k
    induction k with
    | zero => intro i hk T L X h; exact step i T L X h (fun j T L hj => absurd hj (by omega))
    | succ k ih => intro i hk T L X h; exact step i T L X h (fun j T L hj X hI => ih j (by omega) T L X hI)
  exact key _ i0 (Nat.le_refl _) T0 L0 X hi
theorem own_joinTP {p : Program} {l : Launch} {e : Env} {R : Room} {s : State} {m : MethodId} {as : Array Value} {below : List Frame} {meth : Method} {c : Code} {T0 : State} {L0 : List Loc} {C S : Nat} {H : Heap} {n0 : Nat} {En : Outcome → State → List Loc → Prop} {Q : Option Value → Heap → List Loc → Prop} {A : State}
    (_ : Stand p l e R s m as below meth c T0 L0 C S) (_ : T0.heap = H) (_ : Fr n0 L0) {P : Int32 → Prop} {B : Int32 → State → State}
    (hB : ∀ (T : State) (L : List Loc) (z : Int32), Stand p l e R s m as below meth c T L C S → T.heap = H → Fr n0 L → P z → Goes p e below En Q (B z T))
    (k : (∀ (T : State) (L : List Loc) (z : Int32), Stand p l e R s m as below meth c T L C S → T.heap = H → Fr n0 L → P z → Goes p e below En Q (B z T)) → Goes p e below En Q A) : Goes p e below En Q A := k hB
theorem AlOf.exa {Z : State} {h : Heap} {a : Addr} {F : Nat → Int32} {nb sz mm : Int32} (H : AlOf Z h a F nb sz mm) : Exa Z h a ALN := by
  obtain ⟨B, kB, P, kP, pl, sv, A, -⟩ := H; exact A
theorem own_padN {Z : State} {h : Heap} {a : Addr} {k : ClassId} {ty : FieldType} {z : Int32} {dv : Value} (F : Arv Z h a k ty z [] dv) (n : Nat) : Arv Z h a k ty z (List.replicate n dv) dv := by
  have q := F.pad (pad_rep [] dv n); rwa [List.nil_append] at q
theorem own_toBl {Z : State} {h : Heap} {a : Addr} {k : ClassId} {d : Value} {F : Nat → Int32} {off : Nat} (V : Arv Z h a k .int (256 : Int32) (List.replicate (256 : Int32).toNatClampNeg (.int (-1 : Int32))) d) (hf : ∀ j, j < 256 → F (off + j) = -1) : Arv Z h a k .int (256 : Int32) (own_bl F off 256) d := by
  rw [show (256 : Int32).toNatClampNeg = 256 from by decide, own_blR (-1) off, ← own_blC (F' := F) (F := fun _ => -1) (fun i hi => hf i hi)] at V; exact V
theorem own_rp0 (j : Nat) : (List.replicate 4096 (Value.null)).getD j .null = .null := own_rpG _ _
set_option maxRecDepth 65536
set_option maxHeartbeats 40000000
abbrev kc0 := jdk_29_method_65_code
abbrev kc1 := jdk_65_method_103_code
abbrev kc2 := prog_6_method_1_code
abbrev kc3 := prog_6_method_2_code
abbrev kc4 := prog_6_method_5_code
abbrev kc5 := prog_6_method_7_code
theorem d0_0 : decode method_2_code 0 = .ok (.iload_n 0, 1) := by decide +kernel
theorem d0_1 : decode method_2_code 1 = .ok (.ldc 7, 2) := by decide +kernel
theorem d0_3 : decode method_2_code 3 = .ok (.iand, 1) := by decide +kernel
theorem d0_4 : decode method_2_code 4 = .ok (.ldc 8, 2) := by decide +kernel
theorem d0_6 : decode method_2_code 6 = .ok (.irem, 1) := by decide +kernel
theorem d0_7 : decode method_2_code 7 = .ok (.ireturn, 1) := by decide +kernel
theorem own_pn0 : plainName "com/example/tandemtrie/tandemtrie/array/AlphabetLabelPinLaw" = true := by first | (simp [plainName, overriddenIn]; done) | decide +kernel
theorem own_ef_rm_cp (m : MethodId) (x0 : Int32) : entryFrame m #[(.int x0)] 1 = mkF m 0 #[vi x0] [] := by first | (simp [entryFrame, mkF, argsToLocals, Value.category]; done) | rfl
def Q_rm_cp (Z : State) (y : Int32) (h0 : Heap) (n0 : Nat) (v : Option Value) (h : Heap) (L : List Loc) : Prop := v = some (.int ((y &&& 2147483647) % 1114112)) ∧ Fr n0 L ∧ h = h0
theorem rm_cp (l : Launch) (Z : State) (a0 : Array Value) (hw : HW a0 Z) (ws : List Jvm.Cond) (y : Int32) (h0 : Heap) (n0 : Nat) (Z0 : n0 ≤ h0.size) :
  Met l Z mN0 method_2_code 1 (some .int) ({ frames := 0, cells := 0, slots := 0, locals := 0 } : Room) ws #[(.int y)] h0 (Q_rm_cp Z y h0 n0) := by
 refine own_met (plainFor_of_name own_pn0) ?_
 intro p e s m below meth c s₁ hret hx hby hlk hml hown hnm X0 e0 hZ hh
 have N0 := Fr.nil n0
 refine Gz (castTop (own_ef_rm_cp m y)) ?_
 show Goes _ _ _ _ _ (fT s₁ m 0 #[vi y] [])
 refine gN X0 hx hby d0_0 rfl rfl ?_
 refine Gz (Jvm.Stand.ldcI X0 hx hown (gz hZ hw 4 rfl) rfl (hb hby d0_1)) ?_
 show Goes _ _ _ _ _ (fT s₁ m 3 #[vi y] [(.int 2147483647), (.int y)])
 refine Gz (XS.iand X0.here hx rfl (hb hby d0_3) rfl) ?_
 show Goes _ _ _ _ _ (fT s₁ m 4 #[vi y] [(.int (y &&& 2147483647))])
 refine Gz (Jvm.Stand.ldcI X0 hx hown (gz hZ hw 5 rfl) rfl (hb hby d0_4)) ?_
 show Goes _ _ _ _ _ (fT s₁ m 6 #[vi y] [(.int 1114112), (.int (y &&& 2147483647))])
 refine Gz (XS.irem X0.here hx rfl (hb hby d0_6) rfl (by decide)) ?_
 rw [Jvm.irem_eq_mod]
 show Goes _ _ _ _ _ (fT s₁ m 7 #[vi y] [(.int ((y &&& 2147483647) % 1114112))])
 refine Goes.ret X0 (some (.int ((y &&& 2147483647) % 1114112))) (fun h => by rw [hret] at h; cases h) hlk (by decide) (by decide) ?_ (fun fs hr => ?_)
 ·exact ⟨rfl, N0, e0⟩
 ·exact retI X0 hx hret (hb hby d0_7) hr
theorem d1_0 : DK kc0 0 (.iload_n 0) 1 := by decide +kernel
theorem d1_1 : DK kc0 1 (.iload_n 1) 1 := by decide +kernel
theorem d1_2 : DK kc0 2 (.if_icmp .lt 7) 3 := by decide +kernel
theorem d1_9 : DK kc0 9 (.iload_n 1) 1 := by decide +kernel
theorem d1_10 : DK kc0 10 .ireturn 1 := by decide +kernel
theorem d1_5 : DK kc0 5 (.iload_n 0) 1 := by decide +kernel
theorem d1_6 : DK kc0 6 (.goto 4) 3 := by decide +kernel
theorem own_ef_rm_max (m : MethodId) (x0 : Int32) (x1 : Int32) : entryFrame m #[(.int x0), (.int x1)] 2 = mkF m 0 #[vi x0, vi x1] [] := by first | (simp [entryFrame, mkF, argsToLocals, Value.category]; done) | rfl
def Q_rm_max (Z : State) (y : Int32) (z : Int32) (h0 : Heap) (n0 : Nat) (v : Option Value) (h : Heap) (L : List Loc) : Prop := v = some (.int (own_mx y z)) ∧ Fr n0 L ∧ h = h0
theorem rm_max (l : Launch) (Z : State) (a0 : Array Value) (hw : HW a0 Z) (ws : List Jvm.Cond) (y : Int32) (z : Int32) (h0 : Heap) (n0 : Nat) (Z0 : n0 ≤ h0.size) :
  Met l Z mN1 jdk_29_method_65_code 2 (some .int) ({ frames := 0, cells := 0, slots := 0, locals := 0 } : Room) ws #[(.int y), (.int z)] h0 (Q_rm_max Z y z h0 n0) := by
 refine own_met (Jvm.Free.JP.mathPlain rfl (by decide +kernel)) ?_
 intro p e s m below meth c s₁ hret hx hby hlk hml hown hnm X0 e0 hZ hh
 have N0 := Fr.nil n0
 refine Gz (castTop (own_ef_rm_max m y z)) ?_
 show Goes _ _ _ _ _ (fT s₁ m 0 #[vi y, vi z] [])
 refine gN X0 hx hby d1_0 rfl rfl ?_
 refine gN X0 hx hby d1_1 rfl rfl ?_
 by_cases hc2_1 : y < z
 ·refine gY X0 hx hby d1_2 2 9 (tlt hc2_1).1 ?_
  refine gN X0 hx hby d1_9 rfl rfl ?_
  refine Goes.ret X0 (some (.int z)) (fun h => by rw [hret] at h; cases h) hlk (by decide) (by decide) ?_ (fun fs hr => ?_)
  ·exact ⟨(congrArg (fun q => some (Value.int q)) (by rw [own_mx, if_pos hc2_1])), N0, e0⟩
  ·exact retI X0 hx hret (hb hby d1_10) hr
 ·refine gU X0 hx hby d1_2 (flt hc2_1).1 ?_
  refine gN X0 hx hby d1_5 rfl rfl ?_
  refine gG X0 hx hby d1_6 6 10 ?_
  refine Goes.ret X0 (some (.int y)) (fun h => by rw [hret] at h; cases h) hlk (by decide) (by decide) ?_ (fun fs hr => ?_)
  ·exact ⟨(congrArg (fun q => some (Value.int q)) (by rw [own_mx, if_neg hc2_1])), N0, e0⟩
  ·exact retI X0 hx hret (hb hby d1_10) hr
theorem d2_0 : DK kc5 0 (.iload_n 0) 1 := by decide +kernel
theorem d2_1 : DK kc5 1 (.ldc 28) 2 := by decide +kernel
theorem d2_3 : DK kc5 3 .isub 1 := by decide +kernel
theorem d2_4 : DK kc5 4 (.bipush 8) 2 := by decide +kernel
theorem d2_6 : DK kc5 6 .iushr 1 := by decide +kernel
theorem d2_7 : DK kc5 7 .ireturn 1 := by decide +kernel
theorem own_pn1 : plainName "com/example/tandemtrie/tandemtrie/array/Alphabet" = true := by first | (simp [plainName, overriddenIn]; done) | decide +kernel
theorem own_ef_rm_bo (m : MethodId) (x0 : Int32) : entryFrame m #[(.int x0)] 1 = mkF m 0 #[vi x0] [] := by first | (simp [entryFrame, mkF, argsToLocals, Value.category]; done) | rfl
def Q_rm_bo (Z : State) (y : Int32) (h0 : Heap) (n0 : Nat) (v : Option Value) (h : Heap) (L : List Loc) : Prop := v = some (.int (own_bi y)) ∧ Fr n0 L ∧ h = h0
theorem rm_bo (l : Launch) (Z : State) (a0 : Array Value) (hw : HW a0 Z) (ws : List Jvm.Cond) (y : Int32) (h0 : Heap) (n0 : Nat) (Z0 : n0 ≤ h0.size) :
  Met l Z mN2 prog_6_method_7_code 1 (some .int) ({ frames := 0, cells := 0, slots := 0, locals := 0 } : Room) ws #[(.int y)] h0 (Q_rm_bo Z y h0 n0) := by
 refine own_met (plainFor_of_name own_pn1) ?_
 intro p e s m below meth c s₁ hret hx hby hlk hml hown hnm X0 e0 hZ hh
 have N0 := Fr.nil n0
 refine Gz (castTop (own_ef_rm_bo m y)) ?_
 show Goes _ _ _ _ _ (fT s₁ m 0 #[vi y] [])
 refine gN X0 hx hby d2_0 rfl rfl ?_
 refine Gz (Jvm.Stand.ldcI X0 hx hown (gz hZ hw 21 rfl) rfl (hb hby d2_1)) ?_
 show Goes _ _ _ _ _ (fT s₁ m 3 #[vi y] [(.int 65536), (.int y)])
 refine Gz (XS.isub X0.here hx rfl (hb hby d2_3) rfl) ?_
 show Goes _ _ _ _ _ (fT s₁ m 4 #[vi y] [(.int (y - 65536))])
 refine gB X0 hx hby d2_4 ?_
 show Goes _ _ _ _ _ (fT s₁ m 6 #[vi y] [(.int 8), (.int (y - 65536))])
 refine Gz (XS.iushr X0.here hx rfl (hb hby d2_6) rfl) ?_
 show Goes _ _ _ _ _ (fT s₁ m 7 #[vi y] [(.int (((y - 65536).toUInt32 >>> ((8 : Int32) &&& 31).toUInt32).toInt32))])
 refine Goes.ret X0 (some (.int (((y - 65536).toUInt32 >>> ((8 : Int32) &&& 31).toUInt32).toInt32))) (fun h => by rw [hret] at h; cases h) hlk (by decide) (by decide) ?_ (fun fs hr => ?_)
 ·exact ⟨rfl, N0, e0⟩
 ·exact retI X0 hx hret (hb hby d2_7) hr
theorem d3_0 : DK kc1 0 (.iconst 0) 1 := by decide +kernel
theorem d3_1 : DK kc1 1 (.istore_n 2) 1 := by decide +kernel
theorem d3_2 : DK kc1 2 (.aload_n 0) 1 := by decide +kernel
theorem d3_3 : DK kc1 3 .arraylength 1 := by decide +kernel
theorem d3_4 : DK kc1 4 (.istore_n 3) 1 := by decide +kernel
theorem d3_5 : DK kc1 5 (.iload_n 2) 1 := by decide +kernel
theorem d3_6 : DK kc1 6 (.iload_n 3) 1 := by decide +kernel
theorem d3_7 : DK kc1 7 (.if_icmp .ge 13) 3 := by decide +kernel
theorem d3_10 : DK kc1 10 (.aload_n 0) 1 := by decide +kernel
theorem d3_11 : DK kc1 11 (.iload_n 2) 1 := by decide +kernel
theorem d3_12 : DK kc1 12 (.iload_n 1) 1 := by decide +kernel
theorem d3_13 : DK kc1 13 .iastore 1 := by decide +kernel
theorem d3_14 : DK kc1 14 (.iinc 2 1) 3 := by decide +kernel
theorem d3_17 : DK kc1 17 (.goto (-12)) 3 := by decide +kernel
theorem d3_20 : DK kc1 20 .return_ 1 := by decide +kernel
theorem own_pn2 : plainName "java/util/Arrays" = true := by first | (simp [plainName, overriddenIn]; done) | decide +kernel
theorem own_ef_rm_fill (m : MethodId) (x0 : Addr) (x1 : Int32) : entryFrame m #[(.ref x0), (.int x1)] 4 = mkF m 0 #[vr x0, vi x1, vu, vu] [] := by first | (simp [entryFrame, mkF, argsToLocals, Value.category]; done) | rfl
def Q_rm_fill (Z : State) (a : Addr) (k : ClassId) (z : Int32) (fv : Int32) (h0 : Heap) (n0 : Nat) (v : Option Value) (h : Heap) (L : List Loc) : Prop := v = none ∧ Fr n0 L ∧ Keep h0 h [a] ∧ Arv Z h a k .int z (List.replicate z.toNatClampNeg (.int fv)) (.int 0)
theorem rm_fill (l : Launch) (Z : State) (a0 : Array Value) (hw : HW a0 Z) (ws : List Jvm.Cond) (a : Addr) (k : ClassId) (z : Int32) (fv : Int32) (h0 : Heap) (n0 : Nat) (Z0 : n0 ≤ h0.size) (V_a : Arv Z h0 a k .int z [] (.int 0)) (g_a : n0 ≤ a) :
  Met l Z mN3 jdk_65_method_103_code 4 none ({ frames := 0, cells := 0, slots := 0, locals := 0 } : Room) ws #[(.ref a), (.int fv)] h0 (Q_rm_fill Z a k z fv h0 n0) := by
 refine own_met (plainFor_of_name own_pn2) ?_
 intro p e s m below meth c s₁ hret hx hby hlk hml hown hnm X0 e0 hZ hh
 have N0 := Fr.nil n0
 refine Gz (castTop (own_ef_rm_fill m a fv)) ?_
 have KP : Keep h0 h0 [a] := Keep.refl _ _
 show Goes _ _ _ _ _ (fT s₁ m 0 #[vr a, vi fv, vu, vu] [])
 refine gC X0 hx hby d3_0 ?_
 refine gs X0 hx hby d3_1 #[vr a, vi fv, vi 0, vu] ?_
 refine gA X0 hx hby d3_2 rfl rfl rfl ?_
 obtain ⟨cl1, Ar1, -, S1, N1z, -, -⟩ := id V_a
 refine Gs (fun _ tk => X0.arraylength hx (by rw [e0]; exact Ar1.1) (State.isArrayOf_alike hZ.alike Ar1.2.1) (g := (mkF m 3 #[vr a, vi fv, vi 0, vu] [(.ref a)])) rfl rfl (hb hby d3_3) _ tk) ?_
 rw [len_of S1 N1z]
 show Goes _ _ _ _ _ (fT s₁ m 4 #[vr a, vi fv, vi 0, vu] [(.int z)])
 refine gs X0 hx hby d3_4 #[vr a, vi fv, vi 0, vi z] ?_
 show Goes _ _ _ _ _ (fT s₁ m 5 #[vr a, vi fv, vi 0, vi z] [])
 have hz : ¬ z < 0 := V_a.choose_spec.2.2.2.1
 refine own_loopG (ι := Nat) (μ := fun i => z.toNatClampNeg - i) (I := (fun i T L => i ≤ z.toNatClampNeg ∧ Fr n0 L ∧ n0 ≤ T.heap.size ∧ Keep h0 T.heap [a] ∧ Arv Z T.heap a k .int z (List.replicate i (Value.int fv)) (.int 0))) (B := fun i T => T.setTop (mkF m 5 #[vr a, vi fv, vi (Int32.ofNat i), vi z] [])) ?_ 0 X0 ⟨Nat.zero_le _, N0, (by rw [e0]; exact Z0), (by rw [e0]; exact KP), (by rw [e0]; exact V_a)⟩
 intro i T5 L5 X5 hI J5
 obtain ⟨hi, N5, Z0, KP, V_a⟩ := hI
 have ho := own_ofT hz hi
 show Goes _ _ _ _ _ (fT T5 m 5 #[vr a, vi fv, vi (Int32.ofNat i), vi z] [])
 refine gN X5 hx hby d3_5 rfl rfl ?_
 refine gN X5 hx hby d3_6 rfl rfl ?_
 by_cases hc7_2 : (Int32.ofNat i) < z
 ·refine gU X5 hx hby d3_7 (tlt hc7_2).2.1 ?_
  refine gA X5 hx hby d3_10 rfl rfl rfl ?_
  refine gN X5 hx hby d3_11 rfl rfl ?_
  refine gN X5 hx hby d3_12 rfl rfl ?_
  show Goes _ _ _ _ _ (fT T5 m 13 #[vr a, vi fv, vi (Int32.ofNat i), vi z] [(.int fv), (.int (Int32.ofNat i)), (.ref a)])
  replace V_a := V_a.pad (pad_rep (List.replicate i (Value.int fv)) (Value.int 0) 1)
  obtain ⟨cl3, Ar3, q3, S3, N3z, H3, G3⟩ := V_a
  have hin3 : ¬ ((Int32.ofNat i) < 0 ∨ cl3.slots.size ≤ ((Int32.ofNat i)).toNatClampNeg) := inb_of S3 ⟨ho.2.2.1, hc7_2⟩
  obtain ⟨T3, h3, X3, e3, W3, st3⟩ := stI X5 hx hZ rfl Ar3 (j := (Int32.ofNat i)) hin3 (g := (mkF m 13 #[vr a, vi fv, vi (Int32.ofNat i), vi z] [(.int fv), (.int (Int32.ofNat i)), (.ref a)])) rfl rfl (hb hby d3_13)
  have Vn3 := Arv.set Ar3 q3 S3 N3z H3 G3 rfl W3 i ho.2.1 (by simp)
  have N3 := Fr.snoc X3 N5 g_a
  replace KP := KP.wr W3 (Or.inl (List.mem_of_getElem? (i := 0) rfl))
  have V_a : Arv Z h3 a _ .int z ((List.replicate i (Value.int fv) ++ List.replicate 1 (Value.int 0)).set i (Value.int fv)) (.int 0) := Vn3
  replace Z0 : n0 ≤ h3.size := by rw [W3.size]; exact Z0
  refine Gs st3 ?_
  show Goes _ _ _ _ _ (fT T3 m 14 #[vr a, vi fv, vi (Int32.ofNat i), vi z] [])
  rw [own_repS] at V_a
  refine Gz (XS.iinc X3.here hx rfl (hb hby d3_14) rfl (l' := #[vr a, vi fv, vi ((Int32.ofNat i) + 1), vi z]) rfl) ?_
  show Goes _ _ _ _ _ (fT T3 m 17 #[vr a, vi fv, vi ((Int32.ofNat i) + 1), vi z] [])
  refine gG X3 hx hby d3_17 17 5 ?_
  show Goes _ _ _ _ _ (fT T3 m 5 #[vr a, vi fv, vi ((Int32.ofNat i) + 1), vi z] [])
  rw [own_ofS]
  exact J5 (i + 1) _ _ (by have := ho.2.2.2.mp hc7_2; omega) X3 ⟨ho.2.2.2.mp hc7_2, N3, (by rw [e3]; exact Z0), (by rw [e3]; exact KP), (by rw [e3]; exact V_a)⟩
 ·refine gY X5 hx hby d3_7 7 20 (flt hc7_2).2.1 ?_
  obtain rfl : i = z.toNatClampNeg := Nat.le_antisymm hi (Nat.not_lt.mp fun q => hc7_2 (ho.2.2.2.mpr q))
  refine Goes.ret X5 none (fun _ => rfl) hlk (by decide) (by decide) ?_ (fun fs hr => ?_)
  ·exact ⟨rfl, N5, KP, V_a⟩
  ·exact X5.returnOut hx hret (hb hby d3_20) hr
theorem d4_0 : DK kc3 0 (.iload_n 1) 1 := by decide +kernel
theorem d4_1 : DK kc3 1 (.aload_n 0) 1 := by decide +kernel
theorem d4_2 : DK kc3 2 (.getfield 11) 3 := by decide +kernel
theorem d4_5 : DK kc3 5 .arraylength 1 := by decide +kernel
theorem d4_6 : DK kc3 6 (.if_icmp .ge 10) 3 := by decide +kernel
theorem d4_9 : DK kc3 9 (.aload_n 0) 1 := by decide +kernel
theorem d4_10 : DK kc3 10 (.getfield 11) 3 := by decide +kernel
theorem d4_13 : DK kc3 13 (.iload_n 1) 1 := by decide +kernel
theorem d4_14 : DK kc3 14 .iaload 1 := by decide +kernel
theorem d4_15 : DK kc3 15 .ireturn 1 := by decide +kernel
theorem d4_16 : DK kc3 16 (.iload_n 1) 1 := by decide +kernel
theorem d4_17 : DK kc3 17 (.ldc 28) 2 := by decide +kernel
theorem d4_19 : DK kc3 19 (.if_icmp .lt 10) 3 := by decide +kernel
theorem d4_29 : DK kc3 29 (.iconst (-1)) 1 := by decide +kernel
theorem d4_30 : DK kc3 30 .ireturn 1 := by decide +kernel
theorem d4_22 : DK kc3 22 (.aload_n 0) 1 := by decide +kernel
theorem d4_23 : DK kc3 23 (.getfield 49) 3 := by decide +kernel
theorem d4_26 : DK kc3 26 (.ifnonnull 5) 3 := by decide +kernel
theorem d4_31 : DK kc3 31 (.aload_n 0) 1 := by decide +kernel
theorem d4_32 : DK kc3 32 (.getfield 49) 3 := by decide +kernel
theorem d4_35 : DK kc3 35 (.iload_n 1) 1 := by decide +kernel
theorem d4_36 : DK kc3 36 (.invokestatic 53) 3 := by decide +kernel
theorem own_pd0 : parseMethodDescriptor "(I)I" = some ⟨[.int], some .int⟩ := by decide +kernel
theorem d4_39 : DK kc3 39 .aaload 1 := by decide +kernel
theorem d4_40 : DK kc3 40 (.astore_n 2) 1 := by decide +kernel
theorem d4_41 : DK kc3 41 (.aload_n 2) 1 := by decide +kernel
theorem d4_42 : DK kc3 42 (.ifnonnull 7) 3 := by decide +kernel
theorem d4_45 : DK kc3 45 (.iconst (-1)) 1 := by decide +kernel
theorem d4_46 : DK kc3 46 (.goto 10) 3 := by decide +kernel
theorem d4_56 : DK kc3 56 .ireturn 1 := by decide +kernel
theorem d4_49 : DK kc3 49 (.aload_n 2) 1 := by decide +kernel
theorem d4_50 : DK kc3 50 (.iload_n 1) 1 := by decide +kernel
theorem d4_51 : DK kc3 51 (.sipush 255) 3 := by decide +kernel
theorem d4_54 : DK kc3 54 .iand 1 := by decide +kernel
theorem d4_55 : DK kc3 55 .iaload 1 := by decide +kernel
theorem own_ef_rm_label (m : MethodId) (x0 : Addr) (x1 : Int32) : entryFrame m #[(.ref x0), (.int x1)] 3 = mkF m 0 #[vr x0, vi x1, vu] [] := by first | (simp [entryFrame, mkF, argsToLocals, Value.category]; done) | rfl
def Q_rm_label (Z : State) (a : Addr) (F : Nat → Int32) (nb : Int32) (sz : Int32) (mm : Int32) (q : Int32) (h0 : Heap) (n0 : Nat) (v : Option Value) (h : Heap) (L : List Loc) : Prop := v = some (.int (F q.toNatClampNeg)) ∧ Fr n0 L ∧ h = h0
theorem rm_label (l : Launch) (Z : State) (a0 : Array Value) (hw : HW a0 Z) (ws : List Jvm.Cond) (a : Addr) (F : Nat → Int32) (nb : Int32) (sz : Int32) (mm : Int32) (q : Int32) (h0 : Heap) (n0 : Nat) (Z0 : n0 ≤ h0.size) (AL_a : AlOf Z h0 a F nb sz mm) (hq0 : 0 ≤ q.toInt) (hq1 : q.toInt < 1114112) :
  Met l Z mN4 prog_6_method_2_code 3 (some .int) ({ frames := 1, cells := 0, slots := 0, locals := 13 } : Room) ws #[(.ref a), (.int q)] h0 (Q_rm_label Z a F nb sz mm q h0 n0) := by
 refine own_met (plainFor_of_name own_pn1) ?_
 intro p e s m below meth c s₁ hret hx hby hlk hml hown hnm X0 e0 hZ hh
 have N0 := Fr.nil n0
 refine Gz (castTop (own_ef_rm_label m a q)) ?_
 show Goes _ _ _ _ _ (fT s₁ m 0 #[vr a, vi q, vu] [])
 obtain ⟨B, kB, P, kP, pl, sv, A_a, F_basic_a, F_codePoints_a, F_size_a, F_supplementary_a, V_B, V_P, hpl, aB, aP, ne_B_P, hF, hnb, hn0, hS⟩ := AL_a
 refine gN X0 hx hby d4_0 rfl rfl ?_
 refine gA X0 hx hby d4_1 rfl rfl rfl ?_
 obtain ⟨T1, X1, e1, st1⟩ := getF X0 hx hZ hown (host := "") (Or.inl (gw hw 16 rfl)) Via.refl e0 F_basic_a (g := (mkF m 2 #[vr a, vi q, vu] [(.ref a), (.int q)])) rfl rfl (hb hby d4_2)
 refine Gs st1 ?_
 show Goes _ _ _ _ _ (fT T1 m 5 #[vr a, vi q, vu] [(.ref B), (.int q)])
 obtain ⟨cl2, Ar2, -, S2, N2z, -, -⟩ := id V_B
 refine Gs (fun _ tk => X1.arraylength hx (by rw [e1]; exact Ar2.1) (State.isArrayOf_alike hZ.alike Ar2.2.1) (g := (mkF m 5 #[vr a, vi q, vu] [(.ref B), (.int q)])) rfl rfl (hb hby d4_5) _ tk) ?_
 rw [len_of S2 N2z]
 show Goes _ _ _ _ _ (fT T1 m 6 #[vr a, vi q, vu] [(.int nb), (.int q)])
 by_cases hc6_3 : q < nb
 ·refine gU X1 hx hby d4_6 (tlt hc6_3).2.1 ?_
  refine gA X1 hx hby d4_9 rfl rfl rfl ?_
  obtain ⟨T4, X4, e4, st4⟩ := getF X1 hx hZ hown (host := "") (Or.inl (gw hw 16 rfl)) Via.refl e1 F_basic_a (g := (mkF m 10 #[vr a, vi q, vu] [(.ref a)])) rfl rfl (hb hby d4_10)
  refine Gs st4 ?_
  show Goes _ _ _ _ _ (fT T4 m 13 #[vr a, vi q, vu] [(.ref B)])
  refine gN X4 hx hby d4_13 rfl rfl ?_
  obtain ⟨cl5, Ar5, -, S5, N5z, H5, -⟩ := id V_B
  have hin5 : ¬ (q < 0 ∨ cl5.slots.size ≤ (q).toNatClampNeg) := inb_of S5 ⟨own_nn hq0, hc6_3⟩
  have hat5 : cl5.slots[(q).toNatClampNeg]? = some (.int (F q.toNatClampNeg)) := Has.at H5 hin5 (by rw [own_blG _ (own_lt hq0 hc6_3), Nat.zero_add])
  refine Gs (fun _ tk => X4.iaload hx (j := q) (v := (.int (F q.toNatClampNeg))) (by rw [e4]; exact Ar5.1) (State.isArrayOf_alike hZ.alike Ar5.2.1) Ar5.2.2 hin5 hat5 (g := (mkF m 14 #[vr a, vi q, vu] [(.int q), (.ref B)])) rfl rfl (hb hby d4_14) _ tk) ?_
  show Goes _ _ _ _ _ (fT T4 m 15 #[vr a, vi q, vu] [(.int (F q.toNatClampNeg))])
  refine Goes.ret X4 (some (.int (F q.toNatClampNeg))) (fun h => by rw [hret] at h; cases h) hlk (by decide) (by decide) ?_ (fun fs hr => ?_)
  ·exact ⟨rfl, N0, e4⟩
  ·exact retI X4 hx hret (hb hby d4_15) hr
 ·refine gY X1 hx hby d4_6 6 16 (flt hc6_3).2.1 ?_
  refine gN X1 hx hby d4_16 rfl rfl ?_
  refine Gz (Jvm.Stand.ldcI X1 hx hown (gz hZ hw 21 rfl) rfl (hb hby d4_17)) ?_
  show Goes _ _ _ _ _ (fT T1 m 19 #[vr a, vi q, vu] [(.int 65536), (.int q)])
  by_cases hc19_6 : q < 65536
  ·refine gY X1 hx hby d4_19 19 29 (tlt hc19_6).1 ?_
   refine gC X1 hx hby d4_29 ?_
   refine Goes.ret X1 (some (.int (-1 : Int32))) (fun h => by rw [hret] at h; cases h) hlk (by decide) (by decide) ?_ (fun fs hr => ?_)
   ·exact ⟨(congrArg (fun z => some (Value.int z)) (hF _ (own_le hq0 (own_nn' hn0) hc6_3) (own_lo hq0 hc19_6)).symm), N0, e1⟩
   ·exact retI X1 hx hret (hb hby d4_30) hr
  ·refine gU X1 hx hby d4_19 (flt hc19_6).1 ?_
   obtain ⟨rfl, hsF⟩ | ⟨S, kS, sl, rfl, aS, nS, O, V_S, BK⟩ := hS
   ·show Goes _ _ _ _ _ (fT T1 m 22 #[vr a, vi q, vu] [])
    refine gA X1 hx hby d4_22 rfl rfl rfl ?_
    obtain ⟨T7, X7, e7, st7⟩ := getF X1 hx hZ hown (host := "") (Or.inl (gw hw 43 rfl)) Via.refl e1 F_supplementary_a (g := (mkF m 23 #[vr a, vi q, vu] [(.ref a)])) rfl rfl (hb hby d4_23)
    refine Gs st7 ?_
    show Goes _ _ _ _ _ (fT T7 m 26 #[vr a, vi q, vu] [.null])
    refine Gz (XS.ifnonnullNo X7.here hx rfl (hb hby d4_26) rfl) ?_
    refine gC X7 hx hby d4_29 ?_
    refine Goes.ret X7 (some (.int (-1 : Int32))) (fun h => by rw [hret] at h; cases h) hlk (by decide) (by decide) ?_ (fun fs hr => ?_)
    ·exact ⟨(congrArg (fun z => some (Value.int z)) (hsF _ (own_hi hq0 hc19_6)).symm), N0, e7⟩
    ·exact retI X7 hx hret (hb hby d4_30) hr
   ·show Goes _ _ _ _ _ (fT T1 m 22 #[vr a, vi q, vu] [])
    refine gA X1 hx hby d4_22 rfl rfl rfl ?_
    obtain ⟨T8, X8, e8, st8⟩ := getF X1 hx hZ hown (host := "") (Or.inl (gw hw 43 rfl)) Via.refl e1 F_supplementary_a (g := (mkF m 23 #[vr a, vi q, vu] [(.ref a)])) rfl rfl (hb hby d4_23)
    refine Gs st8 ?_
    show Goes _ _ _ _ _ (fT T8 m 26 #[vr a, vi q, vu] [(.ref S)])
    refine Gz (XS.ifnonnullYes X8.here hx rfl (pc0 := 26) (pc' := 31) rfl (hb hby d4_26) rfl (by decide) (by decide)) ?_
    refine gA X8 hx hby d4_31 rfl rfl rfl ?_
    obtain ⟨T9, X9, e9, st9⟩ := getF X8 hx hZ hown (host := "") (Or.inl (gw hw 43 rfl)) Via.refl e8 F_supplementary_a (g := (mkF m 32 #[vr a, vi q, vu] [(.ref a)])) rfl rfl (hb hby d4_32)
    refine Gs st9 ?_
    show Goes _ _ _ _ _ (fT T9 m 35 #[vr a, vi q, vu] [(.ref S)])
    refine gN X9 hx hby d4_35 rfl rfl ?_
    refine cS X9 hx hZ hw hown hby hml e9 mN2 47 48 49 9 1 (rm_bo l Z a0 hw [] q h0 n0 Z0) d4_36 (lenOf own_pd0 rfl) N0 (fun T10 L10 X10 e10 N10 => ?_)
    show Goes _ _ _ _ _ (fT T10 m 39 #[vr a, vi q, vu] [(.int (own_bi q)), (.ref S)])
    obtain ⟨hb1, hb2, hb3, hb4, hb5, hb6, hb7⟩ := own_bis hq1 hq0 hc19_6
    obtain ⟨hv, hbF⟩ | ⟨b, kb, hv, ab, nb', V_b⟩ := BK.2.1 _ hb1
    ·obtain ⟨cl11, Ar11, -, S11, N11z, H11, -⟩ := id V_S
     have hin11 : ¬ ((own_bi q) < 0 ∨ cl11.slots.size ≤ ((own_bi q)).toNatClampNeg) := inb_of S11 ⟨hb2, hb3⟩
     have hat11 : cl11.slots[((own_bi q)).toNatClampNeg]? = some .null := Has.at H11 hin11 hv
     refine Gs (fun _ tk => X10.aaload hx (j := (own_bi q)) (v := .null) (by rw [e10]; exact Ar11.1) (State.isArrayOf_alike hZ.alike Ar11.2.1) rfl Ar11.2.2 hin11 hat11 (g := (mkF m 39 #[vr a, vi q, vu] [(.int (own_bi q)), (.ref S)])) rfl rfl (hb hby d4_39) _ tk) ?_
     show Goes _ _ _ _ _ (fT T10 m 40 #[vr a, vi q, vu] [.null])
     refine Gz (XS.astoreN X10.here hx rfl (hb hby d4_40) rfl rfl (l' := #[vr a, vi q, .val .null]) rfl) ?_
     refine gA X10 hx hby d4_41 rfl rfl rfl ?_
     refine Gz (XS.ifnonnullNo X10.here hx rfl (hb hby d4_42) rfl) ?_
     refine gC X10 hx hby d4_45 ?_
     refine gG X10 hx hby d4_46 46 56 ?_
     refine Goes.ret X10 (some (.int (-1 : Int32))) (fun h => by rw [hret] at h; cases h) hlk (by decide) (by decide) ?_ (fun fs hr => ?_)
     ·exact ⟨(congrArg (fun z => some (Value.int z)) (show F q.toNatClampNeg = -1 from by have z := hbF _ hb5; rw [← hb4] at z; exact z).symm), N10, e10⟩
     ·exact retI X10 hx hret (hb hby d4_56) hr
    ·show Goes _ _ _ _ _ (fT T10 m 39 #[vr a, vi q, vu] [(.int (own_bi q)), (.ref S)])
     obtain ⟨cl12, Ar12, -, S12, N12z, H12, -⟩ := id V_S
     have hin12 : ¬ ((own_bi q) < 0 ∨ cl12.slots.size ≤ ((own_bi q)).toNatClampNeg) := inb_of S12 ⟨hb2, hb3⟩
     have hat12 : cl12.slots[((own_bi q)).toNatClampNeg]? = some (.ref b) := Has.at H12 hin12 hv
     refine Gs (fun _ tk => X10.aaload hx (j := (own_bi q)) (v := (.ref b)) (by rw [e10]; exact Ar12.1) (State.isArrayOf_alike hZ.alike Ar12.2.1) rfl Ar12.2.2 hin12 hat12 (g := (mkF m 39 #[vr a, vi q, vu] [(.int (own_bi q)), (.ref S)])) rfl rfl (hb hby d4_39) _ tk) ?_
     show Goes _ _ _ _ _ (fT T10 m 40 #[vr a, vi q, vu] [(.ref b)])
     refine Gz (XS.astoreN X10.here hx rfl (hb hby d4_40) rfl rfl (l' := #[vr a, vi q, vr b]) rfl) ?_
     refine gA X10 hx hby d4_41 rfl rfl rfl ?_
     refine Gz (XS.ifnonnullYes X10.here hx rfl (pc0 := 42) (pc' := 49) rfl (hb hby d4_42) rfl (by decide) (by decide)) ?_
     refine gA X10 hx hby d4_49 rfl rfl rfl ?_
     refine gN X10 hx hby d4_50 rfl rfl ?_
     refine Gz (XS.sipush X10.here hx rfl (hb hby d4_51)) ?_
     show Goes _ _ _ _ _ (fT T10 m 54 #[vr a, vi q, vr b] [(.int 255), (.int q), (.ref b)])
     refine Gz (XS.iand X10.here hx rfl (hb hby d4_54) rfl) ?_
     show Goes _ _ _ _ _ (fT T10 m 55 #[vr a, vi q, vr b] [(.int (q &&& 255)), (.ref b)])
     obtain ⟨cl13, Ar13, -, S13, N13z, H13, -⟩ := id V_b
     have hin13 : ¬ ((q &&& 255) < 0 ∨ cl13.slots.size ≤ ((q &&& 255)).toNatClampNeg) := inb_of S13 ⟨hb6, hb7⟩
     have hat13 : cl13.slots[((q &&& 255)).toNatClampNeg]? = some (.int (F q.toNatClampNeg)) := Has.at H13 hin13 (by rw [own_blG _ hb5, ← hb4])
     refine Gs (fun _ tk => X10.iaload hx (j := (q &&& 255)) (v := (.int (F q.toNatClampNeg))) (by rw [e10]; exact Ar13.1) (State.isArrayOf_alike hZ.alike Ar13.2.1) Ar13.2.2 hin13 hat13 (g := (mkF m 55 #[vr a, vi q, vr b] [(.int (q &&& 255)), (.ref b)])) rfl rfl (hb hby d4_55) _ tk) ?_
     show Goes _ _ _ _ _ (fT T10 m 56 #[vr a, vi q, vr b] [(.int (F q.toNatClampNeg))])
     refine Goes.ret X10 (some (.int (F q.toNatClampNeg))) (fun h => by rw [hret] at h; cases h) hlk (by decide) (by decide) ?_ (fun fs hr => ?_)
     ·exact ⟨rfl, N10, e10⟩
     ·exact retI X10 hx hret (hb hby d4_56) hr
theorem d5_0 : DK kc4 0 (.aload_n 0) 1 := by decide +kernel
theorem d5_1 : DK kc4 1 .dup 1 := by decide +kernel
theorem d5_2 : DK kc4 2 (.getfield 56) 3 := by decide +kernel
theorem d5_5 : DK kc4 5 (.iconst 1) 1 := by decide +kernel
theorem d5_6 : DK kc4 6 .iadd 1 := by decide +kernel
theorem d5_7 : DK kc4 7 (.putfield 56) 3 := by decide +kernel
theorem d5_10 : DK kc4 10 (.aload_n 0) 1 := by decide +kernel
theorem d5_11 : DK kc4 11 (.getfield 56) 3 := by decide +kernel
theorem d5_14 : DK kc4 14 (.aload_n 0) 1 := by decide +kernel
theorem d5_15 : DK kc4 15 (.getfield 15) 3 := by decide +kernel
theorem d5_18 : DK kc4 18 .arraylength 1 := by decide +kernel
theorem d5_19 : DK kc4 19 (.if_icmp .ne 21) 3 := by decide +kernel
theorem d5_40 : DK kc4 40 (.aload_n 0) 1 := by decide +kernel
theorem d5_41 : DK kc4 41 (.getfield 15) 3 := by decide +kernel
theorem d5_44 : DK kc4 44 (.aload_n 0) 1 := by decide +kernel
theorem d5_45 : DK kc4 45 (.getfield 56) 3 := by decide +kernel
theorem d5_48 : DK kc4 48 (.iload_n 1) 1 := by decide +kernel
theorem d5_49 : DK kc4 49 .iastore 1 := by decide +kernel
theorem d5_50 : DK kc4 50 (.iload_n 1) 1 := by decide +kernel
theorem d5_51 : DK kc4 51 (.ldc 28) 2 := by decide +kernel
theorem d5_53 : DK kc4 53 (.if_icmp .ge 70) 3 := by decide +kernel
theorem d5_56 : DK kc4 56 (.iload_n 1) 1 := by decide +kernel
theorem d5_57 : DK kc4 57 (.aload_n 0) 1 := by decide +kernel
theorem d5_58 : DK kc4 58 (.getfield 11) 3 := by decide +kernel
theorem d5_61 : DK kc4 61 .arraylength 1 := by decide +kernel
theorem d5_62 : DK kc4 62 (.if_icmp .lt 46) 3 := by decide +kernel
theorem d5_108 : DK kc4 108 (.aload_n 0) 1 := by decide +kernel
theorem d5_109 : DK kc4 109 (.getfield 11) 3 := by decide +kernel
theorem d5_112 : DK kc4 112 (.iload_n 1) 1 := by decide +kernel
theorem d5_113 : DK kc4 113 (.aload_n 0) 1 := by decide +kernel
theorem d5_114 : DK kc4 114 (.getfield 56) 3 := by decide +kernel
theorem d5_117 : DK kc4 117 .iastore 1 := by decide +kernel
theorem d5_118 : DK kc4 118 (.aload_n 0) 1 := by decide +kernel
theorem d5_119 : DK kc4 119 (.getfield 56) 3 := by decide +kernel
theorem d5_122 : DK kc4 122 .ireturn 1 := by decide +kernel
theorem d5_123 : DK kc4 123 (.aload_n 0) 1 := by decide +kernel
theorem d5_124 : DK kc4 124 (.getfield 49) 3 := by decide +kernel
theorem d5_127 : DK kc4 127 (.ifnonnull 13) 3 := by decide +kernel
theorem d5_130 : DK kc4 130 (.aload_n 0) 1 := by decide +kernel
theorem d5_131 : DK kc4 131 (.sipush 4096) 3 := by decide +kernel
theorem d5_134 : DK kc4 134 (.anewarray 70) 3 := by decide +kernel
theorem d5_137 : DK kc4 137 (.putfield 49) 3 := by decide +kernel
theorem d5_140 : DK kc4 140 (.aload_n 0) 1 := by decide +kernel
theorem d5_141 : DK kc4 141 (.getfield 49) 3 := by decide +kernel
theorem d5_144 : DK kc4 144 (.iload_n 1) 1 := by decide +kernel
theorem d5_145 : DK kc4 145 (.invokestatic 53) 3 := by decide +kernel
theorem d5_148 : DK kc4 148 .aaload 1 := by decide +kernel
theorem d5_149 : DK kc4 149 (.astore_n 2) 1 := by decide +kernel
theorem d5_150 : DK kc4 150 (.aload_n 2) 1 := by decide +kernel
theorem d5_151 : DK kc4 151 (.ifnonnull 24) 3 := by decide +kernel
theorem d5_154 : DK kc4 154 (.sipush 256) 3 := by decide +kernel
theorem d5_157 : DK kc4 157 (.newarray .int) 2 := by decide +kernel
theorem d5_159 : DK kc4 159 (.astore_n 2) 1 := by decide +kernel
theorem d5_160 : DK kc4 160 (.aload_n 2) 1 := by decide +kernel
theorem d5_161 : DK kc4 161 (.iconst (-1)) 1 := by decide +kernel
theorem d5_162 : DK kc4 162 (.invokestatic 35) 3 := by decide +kernel
theorem own_pd1 : parseMethodDescriptor "([II)V" = some ⟨[(.array .int), .int], none⟩ := by decide +kernel
theorem d5_165 : DK kc4 165 (.aload_n 0) 1 := by decide +kernel
theorem d5_166 : DK kc4 166 (.getfield 49) 3 := by decide +kernel
theorem d5_169 : DK kc4 169 (.iload_n 1) 1 := by decide +kernel
theorem d5_170 : DK kc4 170 (.invokestatic 53) 3 := by decide +kernel
theorem d5_173 : DK kc4 173 (.aload_n 2) 1 := by decide +kernel
theorem d5_174 : DK kc4 174 .aastore 1 := by decide +kernel
theorem d5_175 : DK kc4 175 (.aload_n 2) 1 := by decide +kernel
theorem d5_176 : DK kc4 176 (.iload_n 1) 1 := by decide +kernel
theorem d5_177 : DK kc4 177 (.sipush 255) 3 := by decide +kernel
theorem d5_180 : DK kc4 180 .iand 1 := by decide +kernel
theorem d5_181 : DK kc4 181 (.aload_n 0) 1 := by decide +kernel
theorem d5_182 : DK kc4 182 (.getfield 56) 3 := by decide +kernel
theorem d5_185 : DK kc4 185 .iastore 1 := by decide +kernel
theorem d5_186 : DK kc4 186 (.aload_n 0) 1 := by decide +kernel
theorem d5_187 : DK kc4 187 (.getfield 56) 3 := by decide +kernel
theorem d5_190 : DK kc4 190 .ireturn 1 := by decide +kernel
theorem own_ef_rm_add (m : MethodId) (x0 : Addr) (x1 : Int32) : entryFrame m #[(.ref x0), (.int x1)] 4 = mkF m 0 #[vr x0, vi x1, vu, vu] [] := by first | (simp [entryFrame, mkF, argsToLocals, Value.category]; done) | rfl
def Q_rm_add (Z : State) (a : Addr) (F : Nat → Int32) (nb : Int32) (sz : Int32) (mm : Int32) (q : Int32) (h0 : Heap) (n0 : Nat) (v : Option Value) (h : Heap) (L : List Loc) : Prop := v = some (.int (sz + 1)) ∧ Fr n0 L ∧ KB a h0 h ∧ AlOf Z h a (own_up F q.toNatClampNeg (sz + 1)) nb (sz + 1) mm
theorem rm_add (l : Launch) (Z : State) (a0 : Array Value) (hw : HW a0 Z) (ws : List Jvm.Cond) (a : Addr) (F : Nat → Int32) (nb : Int32) (sz : Int32) (mm : Int32) (q : Int32) (h0 : Heap) (n0 : Nat) (Z0 : n0 ≤ h0.size) (AL_a : AlOf Z h0 a F nb sz mm) (hq0 : 0 ≤ q.toInt) (hq1 : q.toInt < 1114112) (hcb : q.toInt < 65536 → q.toNatClampNeg < nb.toNatClampNeg) (hs0 : ¬ (sz + 1) < 0) (hs1 : (sz + 1) < mm) (g_a : n0 ≤ a) :
  Met l Z mN5 prog_6_method_5_code 4 (some .int) ({ frames := 1, cells := 2, slots := 4352, locals := 15 } : Room) ws #[(.ref a), (.int q)] h0 (Q_rm_add Z a F nb sz mm q h0 n0) := by
 refine own_met (plainFor_of_name own_pn1) ?_
 intro p e s m below meth c s₁ hret hx hby hlk hml hown hnm X0 e0 hZ hh
 have N0 := Fr.nil n0
 refine Gz (castTop (own_ef_rm_add m a q)) ?_
 show Goes _ _ _ _ _ (fT s₁ m 0 #[vr a, vi q, vu, vu] [])
 obtain ⟨B, kB, P, kP, pl, sv, A_a, F_basic_a, F_codePoints_a, F_size_a, F_supplementary_a, V_B, V_P, hpl, aB, aP, ne_B_P, hF, hnb, hn0, hS⟩ := AL_a
 have g_B : n0 ≤ B := Nat.le_trans g_a (Nat.le_of_lt aB)
 have ne_a_B : a ≠ B := Nat.ne_of_lt aB
 have g_P : n0 ≤ P := Nat.le_trans g_a (Nat.le_of_lt aP)
 have ne_a_P : a ≠ P := Nat.ne_of_lt aP
 by_cases hc : q < 65536
 ·have KP : Keep h0 h0 [a, P, B] := Keep.refl _ _
  replace hcb := hcb (by rw [Int32.lt_iff_toInt_lt, own_65] at hc; exact hc)
  show Goes _ _ _ _ _ (fT s₁ m 0 #[vr a, vi q, vu, vu] [])
  refine gA X0 hx hby d5_0 rfl rfl rfl ?_
  refine Gz (XS.dup X0.here hx rfl (hb hby d5_1) rfl rfl) ?_
  obtain ⟨T1, X1, e1, st1⟩ := getF X0 hx hZ hown (host := "") (Or.inl (gw hw 40 rfl)) Via.refl e0 F_size_a (g := (mkF m 2 #[vr a, vi q, vu, vu] [(.ref a), (.ref a)])) rfl rfl (hb hby d5_2)
  refine Gs st1 ?_
  show Goes _ _ _ _ _ (fT T1 m 5 #[vr a, vi q, vu, vu] [(.int sz), (.ref a)])
  refine gC X1 hx hby d5_5 ?_
  show Goes _ _ _ _ _ (fT T1 m 6 #[vr a, vi q, vu, vu] [(.int 1), (.int sz), (.ref a)])
  refine Gz (XS.iadd X1.here hx rfl (hb hby d5_6) rfl) ?_
  show Goes _ _ _ _ _ (fT T1 m 7 #[vr a, vi q, vu, vu] [(.int (sz + 1)), (.ref a)])
  obtain ⟨T2, h2, X2, e2, W2, st2⟩ := putF X1 hx hZ hown (host := "") (Or.inl (gw hw 40 rfl)) Via.refl e1 F_size_a A_a (Or.inl (gw hw 41 rfl)) (gw hw 8 rfl) (ty := .int) (by decide) rfl rfl (g := (mkF m 7 #[vr a, vi q, vu, vu] [(.int (sz + 1)), (.ref a)])) rfl rfl (hb hby d5_7)
  have N2 := Fr.snoc X2 N0 g_a
  replace A_a := A_a.wr W2
  replace F_basic_a := F_basic_a.other W2 (Or.inr (slot_ne (Or.inl (gw hw 17 rfl)) (Or.inl (gw hw 41 rfl)) (by decide) (t := (.array .int)) (t' := .int) (by decide) (by decide)))
  replace F_codePoints_a := F_codePoints_a.other W2 (Or.inr (slot_ne (Or.inl (gw hw 19 rfl)) (Or.inl (gw hw 41 rfl)) (by decide) (t := (.array .int)) (t' := .int) (by decide) (by decide)))
  replace F_supplementary_a := F_supplementary_a.other W2 (Or.inr (slot_ne (Or.inl (gw hw 44 rfl)) (Or.inl (gw hw 41 rfl)) (by decide) (t := (.array (.array .int))) (t' := .int) (by decide) (by decide)))
  replace V_B := V_B.other W2 (Ne.symm ne_a_B)
  replace V_P := V_P.other W2 (Ne.symm ne_a_P)
  replace KP := KP.wr W2 (Or.inl (List.mem_of_getElem? (i := 0) rfl))
  replace F_size_a := F_size_a.same W2
  replace Z0 : n0 ≤ h2.size := by rw [W2.size]; exact Z0
  refine Gs st2 ?_
  show Goes _ _ _ _ _ (fT T2 m 10 #[vr a, vi q, vu, vu] [])
  refine gA X2 hx hby d5_10 rfl rfl rfl ?_
  obtain ⟨T3, X3, e3, st3⟩ := getF X2 hx hZ hown (host := "") (Or.inl (gw hw 40 rfl)) Via.refl e2 F_size_a (g := (mkF m 11 #[vr a, vi q, vu, vu] [(.ref a)])) rfl rfl (hb hby d5_11)
  refine Gs st3 ?_
  show Goes _ _ _ _ _ (fT T3 m 14 #[vr a, vi q, vu, vu] [(.int (sz + 1))])
  refine gA X3 hx hby d5_14 rfl rfl rfl ?_
  obtain ⟨T4, X4, e4, st4⟩ := getF X3 hx hZ hown (host := "") (Or.inl (gw hw 18 rfl)) Via.refl e3 F_codePoints_a (g := (mkF m 15 #[vr a, vi q, vu, vu] [(.ref a), (.int (sz + 1))])) rfl rfl (hb hby d5_15)
  refine Gs st4 ?_
  show Goes _ _ _ _ _ (fT T4 m 18 #[vr a, vi q, vu, vu] [(.ref P), (.int (sz + 1))])
  obtain ⟨cl5, Ar5, -, S5, N5z, -, -⟩ := id V_P
  refine Gs (fun _ tk => X4.arraylength hx (by rw [e4]; exact Ar5.1) (State.isArrayOf_alike hZ.alike Ar5.2.1) (g := (mkF m 18 #[vr a, vi q, vu, vu] [(.ref P), (.int (sz + 1))])) rfl rfl (hb hby d5_18) _ tk) ?_
  rw [len_of S5 N5z]
  show Goes _ _ _ _ _ (fT T4 m 19 #[vr a, vi q, vu, vu] [(.int mm), (.int (sz + 1))])
  refine gY X4 hx hby d5_19 19 40 (feq (own_nq hs1)).2 ?_
  refine gA X4 hx hby d5_40 rfl rfl rfl ?_
  obtain ⟨T6, X6, e6, st6⟩ := getF X4 hx hZ hown (host := "") (Or.inl (gw hw 18 rfl)) Via.refl e4 F_codePoints_a (g := (mkF m 41 #[vr a, vi q, vu, vu] [(.ref a)])) rfl rfl (hb hby d5_41)
  refine Gs st6 ?_
  show Goes _ _ _ _ _ (fT T6 m 44 #[vr a, vi q, vu, vu] [(.ref P)])
  refine gA X6 hx hby d5_44 rfl rfl rfl ?_
  obtain ⟨T7, X7, e7, st7⟩ := getF X6 hx hZ hown (host := "") (Or.inl (gw hw 40 rfl)) Via.refl e6 F_size_a (g := (mkF m 45 #[vr a, vi q, vu, vu] [(.ref a), (.ref P)])) rfl rfl (hb hby d5_45)
  refine Gs st7 ?_
  show Goes _ _ _ _ _ (fT T7 m 48 #[vr a, vi q, vu, vu] [(.int (sz + 1)), (.ref P)])
  refine gN X7 hx hby d5_48 rfl rfl ?_
  show Goes _ _ _ _ _ (fT T7 m 49 #[vr a, vi q, vu, vu] [(.int q), (.int (sz + 1)), (.ref P)])
  obtain ⟨cl8, Ar8, q8, S8, N8z, H8, G8⟩ := V_P
  have hin8 : ¬ ((sz + 1) < 0 ∨ cl8.slots.size ≤ ((sz + 1)).toNatClampNeg) := inb_of S8 ⟨hs0, hs1⟩
  obtain ⟨T8, h8, X8, e8, W8, st8⟩ := stI X7 hx hZ e7 Ar8 (j := (sz + 1)) hin8 (g := (mkF m 49 #[vr a, vi q, vu, vu] [(.int q), (.int (sz + 1)), (.ref P)])) rfl rfl (hb hby d5_49)
  have Vn8 := Arv.set Ar8 q8 S8 N8z H8 G8 rfl W8 (sz + 1).toNatClampNeg rfl (by rw [hpl]; exact own_lt (own_nn' hs0) hs1)
  have N8 := Fr.snoc X8 N2 g_P
  replace A_a := A_a.wr W8
  replace F_basic_a := F_basic_a.other W8 (Or.inl ne_a_P)
  replace F_codePoints_a := F_codePoints_a.other W8 (Or.inl ne_a_P)
  replace F_size_a := F_size_a.other W8 (Or.inl ne_a_P)
  replace F_supplementary_a := F_supplementary_a.other W8 (Or.inl ne_a_P)
  replace V_B := V_B.other W8 ne_B_P
  replace KP := KP.wr W8 (Or.inl (List.mem_of_getElem? (i := 1) rfl))
  have V_P : Arv Z h8 P _ .int mm (pl.set (sz + 1).toNatClampNeg (.int q)) (.int 0) := Vn8
  replace Z0 : n0 ≤ h8.size := by rw [W8.size]; exact Z0
  refine Gs st8 ?_
  show Goes _ _ _ _ _ (fT T8 m 50 #[vr a, vi q, vu, vu] [])
  refine gN X8 hx hby d5_50 rfl rfl ?_
  refine Gz (Jvm.Stand.ldcI X8 hx hown (gz hZ hw 21 rfl) rfl (hb hby d5_51)) ?_
  show Goes _ _ _ _ _ (fT T8 m 53 #[vr a, vi q, vu, vu] [(.int 65536), (.int q)])
  refine gU X8 hx hby d5_53 (tlt hc).2.1 ?_
  refine gN X8 hx hby d5_56 rfl rfl ?_
  refine gA X8 hx hby d5_57 rfl rfl rfl ?_
  obtain ⟨T9, X9, e9, st9⟩ := getF X8 hx hZ hown (host := "") (Or.inl (gw hw 16 rfl)) Via.refl e8 F_basic_a (g := (mkF m 58 #[vr a, vi q, vu, vu] [(.ref a), (.int q)])) rfl rfl (hb hby d5_58)
  refine Gs st9 ?_
  show Goes _ _ _ _ _ (fT T9 m 61 #[vr a, vi q, vu, vu] [(.ref B), (.int q)])
  obtain ⟨cl10, Ar10, -, S10, N10z, -, -⟩ := id V_B
  refine Gs (fun _ tk => X9.arraylength hx (by rw [e9]; exact Ar10.1) (State.isArrayOf_alike hZ.alike Ar10.2.1) (g := (mkF m 61 #[vr a, vi q, vu, vu] [(.ref B), (.int q)])) rfl rfl (hb hby d5_61) _ tk) ?_
  rw [len_of S10 N10z]
  show Goes _ _ _ _ _ (fT T9 m 62 #[vr a, vi q, vu, vu] [(.int nb), (.int q)])
  refine gY X9 hx hby d5_62 62 108 (tlt (own_ltI hq0 hn0 hcb)).1 ?_
  refine gA X9 hx hby d5_108 rfl rfl rfl ?_
  obtain ⟨T11, X11, e11, st11⟩ := getF X9 hx hZ hown (host := "") (Or.inl (gw hw 16 rfl)) Via.refl e9 F_basic_a (g := (mkF m 109 #[vr a, vi q, vu, vu] [(.ref a)])) rfl rfl (hb hby d5_109)
  refine Gs st11 ?_
  show Goes _ _ _ _ _ (fT T11 m 112 #[vr a, vi q, vu, vu] [(.ref B)])
  refine gN X11 hx hby d5_112 rfl rfl ?_
  refine gA X11 hx hby d5_113 rfl rfl rfl ?_
  obtain ⟨T12, X12, e12, st12⟩ := getF X11 hx hZ hown (host := "") (Or.inl (gw hw 40 rfl)) Via.refl e11 F_size_a (g := (mkF m 114 #[vr a, vi q, vu, vu] [(.ref a), (.int q), (.ref B)])) rfl rfl (hb hby d5_114)
  refine Gs st12 ?_
  show Goes _ _ _ _ _ (fT T12 m 117 #[vr a, vi q, vu, vu] [(.int (sz + 1)), (.int q), (.ref B)])
  obtain ⟨cl13, Ar13, q13, S13, N13z, H13, G13⟩ := V_B
  have hin13 : ¬ (q < 0 ∨ cl13.slots.size ≤ (q).toNatClampNeg) := inb_of S13 ⟨own_nn hq0, own_ltI hq0 hn0 hcb⟩
  obtain ⟨T13, h13, X13, e13, W13, st13⟩ := stI X12 hx hZ e12 Ar13 (j := q) hin13 (g := (mkF m 117 #[vr a, vi q, vu, vu] [(.int (sz + 1)), (.int q), (.ref B)])) rfl rfl (hb hby d5_117)
  have Vn13 := Arv.set Ar13 q13 S13 N13z H13 G13 rfl W13 q.toNatClampNeg rfl (by rw [own_blL]; exact hcb)
  have N13 := Fr.snoc X13 N8 g_B
  replace A_a := A_a.wr W13
  replace F_basic_a := F_basic_a.other W13 (Or.inl ne_a_B)
  replace F_codePoints_a := F_codePoints_a.other W13 (Or.inl ne_a_B)
  replace F_size_a := F_size_a.other W13 (Or.inl ne_a_B)
  replace F_supplementary_a := F_supplementary_a.other W13 (Or.inl ne_a_B)
  replace V_P := V_P.other W13 (Ne.symm ne_B_P)
  replace KP := KP.wr W13 (Or.inl (List.mem_of_getElem? (i := 2) rfl))
  have V_B : Arv Z h13 B _ .int nb ((own_bl F 0 nb.toNatClampNeg).set q.toNatClampNeg (.int (sz + 1))) (.int 0) := Vn13
  replace Z0 : n0 ≤ h13.size := by rw [W13.size]; exact Z0
  refine Gs st13 ?_
  show Goes _ _ _ _ _ (fT T13 m 118 #[vr a, vi q, vu, vu] [])
  refine gA X13 hx hby d5_118 rfl rfl rfl ?_
  obtain ⟨T14, X14, e14, st14⟩ := getF X13 hx hZ hown (host := "") (Or.inl (gw hw 40 rfl)) Via.refl e13 F_size_a (g := (mkF m 119 #[vr a, vi q, vu, vu] [(.ref a)])) rfl rfl (hb hby d5_119)
  refine Gs st14 ?_
  show Goes _ _ _ _ _ (fT T14 m 122 #[vr a, vi q, vu, vu] [(.int (sz + 1))])
  refine Goes.ret X14 (some (.int (sz + 1))) (fun h => by rw [hret] at h; cases h) hlk (by decide) (by decide) ?_ (fun fs hr => ?_)
  ·rw [e14]; exact ⟨rfl, N13, (own_KB KP (by intro x hx; simp only [List.mem_cons, List.not_mem_nil, or_false] at hx; rcases hx with rfl | rfl | rfl <;> first | exact Nat.le_refl _ | exact Nat.le_of_lt (by assumption))), own_addB A_a F_basic_a F_codePoints_a F_size_a F_supplementary_a V_B V_P (by rw [List.length_set]; exact hpl) aB aP ne_B_P hF hnb hn0 hS KP hcb⟩
  ·exact retI X14 hx hret (hb hby d5_122) hr
 ·obtain ⟨hb1, hb2, hb3, hb4, hb5, hb6, hb7⟩ := own_bis hq1 hq0 hc
  obtain ⟨rfl, hsF⟩ | ⟨S, kS, sl, rfl, aS, nS, O, V_S, BK⟩ := hS
  ·have KP : Keep h0 h0 [a, P] := Keep.refl _ _
   show Goes _ _ _ _ _ (fT s₁ m 0 #[vr a, vi q, vu, vu] [])
   refine gA X0 hx hby d5_0 rfl rfl rfl ?_
   refine Gz (XS.dup X0.here hx rfl (hb hby d5_1) rfl rfl) ?_
   obtain ⟨T15, X15, e15, st15⟩ := getF X0 hx hZ hown (host := "") (Or.inl (gw hw 40 rfl)) Via.refl e0 F_size_a (g := (mkF m 2 #[vr a, vi q, vu, vu] [(.ref a), (.ref a)])) rfl rfl (hb hby d5_2)
   refine Gs st15 ?_
   show Goes _ _ _ _ _ (fT T15 m 5 #[vr a, vi q, vu, vu] [(.int sz), (.ref a)])
   refine gC X15 hx hby d5_5 ?_
   show Goes _ _ _ _ _ (fT T15 m 6 #[vr a, vi q, vu, vu] [(.int 1), (.int sz), (.ref a)])
   refine Gz (XS.iadd X15.here hx rfl (hb hby d5_6) rfl) ?_
   show Goes _ _ _ _ _ (fT T15 m 7 #[vr a, vi q, vu, vu] [(.int (sz + 1)), (.ref a)])
   obtain ⟨T16, h16, X16, e16, W16, st16⟩ := putF X15 hx hZ hown (host := "") (Or.inl (gw hw 40 rfl)) Via.refl e15 F_size_a A_a (Or.inl (gw hw 41 rfl)) (gw hw 8 rfl) (ty := .int) (by decide) rfl rfl (g := (mkF m 7 #[vr a, vi q, vu, vu] [(.int (sz + 1)), (.ref a)])) rfl rfl (hb hby d5_7)
   have N16 := Fr.snoc X16 N0 g_a
   replace A_a := A_a.wr W16
   replace F_basic_a := F_basic_a.other W16 (Or.inr (slot_ne (Or.inl (gw hw 17 rfl)) (Or.inl (gw hw 41 rfl)) (by decide) (t := (.array .int)) (t' := .int) (by decide) (by decide)))
   replace F_codePoints_a := F_codePoints_a.other W16 (Or.inr (slot_ne (Or.inl (gw hw 19 rfl)) (Or.inl (gw hw 41 rfl)) (by decide) (t := (.array .int)) (t' := .int) (by decide) (by decide)))
   replace F_supplementary_a := F_supplementary_a.other W16 (Or.inr (slot_ne (Or.inl (gw hw 44 rfl)) (Or.inl (gw hw 41 rfl)) (by decide) (t := (.array (.array .int))) (t' := .int) (by decide) (by decide)))
   replace V_B := V_B.other W16 (Ne.symm ne_a_B)
   replace V_P := V_P.other W16 (Ne.symm ne_a_P)
   replace KP := KP.wr W16 (Or.inl (List.mem_of_getElem? (i := 0) rfl))
   replace F_size_a := F_size_a.same W16
   replace Z0 : n0 ≤ h16.size := by rw [W16.size]; exact Z0
   refine Gs st16 ?_
   show Goes _ _ _ _ _ (fT T16 m 10 #[vr a, vi q, vu, vu] [])
   refine gA X16 hx hby d5_10 rfl rfl rfl ?_
   obtain ⟨T17, X17, e17, st17⟩ := getF X16 hx hZ hown (host := "") (Or.inl (gw hw 40 rfl)) Via.refl e16 F_size_a (g := (mkF m 11 #[vr a, vi q, vu, vu] [(.ref a)])) rfl rfl (hb hby d5_11)
   refine Gs st17 ?_
   show Goes _ _ _ _ _ (fT T17 m 14 #[vr a, vi q, vu, vu] [(.int (sz + 1))])
   refine gA X17 hx hby d5_14 rfl rfl rfl ?_
   obtain ⟨T18, X18, e18, st18⟩ := getF X17 hx hZ hown (host := "") (Or.inl (gw hw 18 rfl)) Via.refl e17 F_codePoints_a (g := (mkF m 15 #[vr a, vi q, vu, vu] [(.ref a), (.int (sz + 1))])) rfl rfl (hb hby d5_15)
   refine Gs st18 ?_
   show Goes _ _ _ _ _ (fT T18 m 18 #[vr a, vi q, vu, vu] [(.ref P), (.int (sz + 1))])
   obtain ⟨cl19, Ar19, -, S19, N19z, -, -⟩ := id V_P
   refine Gs (fun _ tk => X18.arraylength hx (by rw [e18]; exact Ar19.1) (State.isArrayOf_alike hZ.alike Ar19.2.1) (g := (mkF m 18 #[vr a, vi q, vu, vu] [(.ref P), (.int (sz + 1))])) rfl rfl (hb hby d5_18) _ tk) ?_
   rw [len_of S19 N19z]
   show Goes _ _ _ _ _ (fT T18 m 19 #[vr a, vi q, vu, vu] [(.int mm), (.int (sz + 1))])
   refine gY X18 hx hby d5_19 19 40 (feq (own_nq hs1)).2 ?_
   refine gA X18 hx hby d5_40 rfl rfl rfl ?_
   obtain ⟨T20, X20, e20, st20⟩ := getF X18 hx hZ hown (host := "") (Or.inl (gw hw 18 rfl)) Via.refl e18 F_codePoints_a (g := (mkF m 41 #[vr a, vi q, vu, vu] [(.ref a)])) rfl rfl (hb hby d5_41)
   refine Gs st20 ?_
   show Goes _ _ _ _ _ (fT T20 m 44 #[vr a, vi q, vu, vu] [(.ref P)])
   refine gA X20 hx hby d5_44 rfl rfl rfl ?_
   obtain ⟨T21, X21, e21, st21⟩ := getF X20 hx hZ hown (host := "") (Or.inl (gw hw 40 rfl)) Via.refl e20 F_size_a (g := (mkF m 45 #[vr a, vi q, vu, vu] [(.ref a), (.ref P)])) rfl rfl (hb hby d5_45)
   refine Gs st21 ?_
   show Goes _ _ _ _ _ (fT T21 m 48 #[vr a, vi q, vu, vu] [(.int (sz + 1)), (.ref P)])
   refine gN X21 hx hby d5_48 rfl rfl ?_
   show Goes _ _ _ _ _ (fT T21 m 49 #[vr a, vi q, vu, vu] [(.int q), (.int (sz + 1)), (.ref P)])
   obtain ⟨cl22, Ar22, q22, S22, N22z, H22, G22⟩ := V_P
   have hin22 : ¬ ((sz + 1) < 0 ∨ cl22.slots.size ≤ ((sz + 1)).toNatClampNeg) := inb_of S22 ⟨hs0, hs1⟩
   obtain ⟨T22, h22, X22, e22, W22, st22⟩ := stI X21 hx hZ e21 Ar22 (j := (sz + 1)) hin22 (g := (mkF m 49 #[vr a, vi q, vu, vu] [(.int q), (.int (sz + 1)), (.ref P)])) rfl rfl (hb hby d5_49)
   have Vn22 := Arv.set Ar22 q22 S22 N22z H22 G22 rfl W22 (sz + 1).toNatClampNeg rfl (by rw [hpl]; exact own_lt (own_nn' hs0) hs1)
   have N22 := Fr.snoc X22 N16 g_P
   replace A_a := A_a.wr W22
   replace F_basic_a := F_basic_a.other W22 (Or.inl ne_a_P)
   replace F_codePoints_a := F_codePoints_a.other W22 (Or.inl ne_a_P)
   replace F_size_a := F_size_a.other W22 (Or.inl ne_a_P)
   replace F_supplementary_a := F_supplementary_a.other W22 (Or.inl ne_a_P)
   replace V_B := V_B.other W22 ne_B_P
   replace KP := KP.wr W22 (Or.inl (List.mem_of_getElem? (i := 1) rfl))
   have V_P : Arv Z h22 P _ .int mm (pl.set (sz + 1).toNatClampNeg (.int q)) (.int 0) := Vn22
   replace Z0 : n0 ≤ h22.size := by rw [W22.size]; exact Z0
   refine Gs st22 ?_
   show Goes _ _ _ _ _ (fT T22 m 50 #[vr a, vi q, vu, vu] [])
   refine gN X22 hx hby d5_50 rfl rfl ?_
   refine Gz (Jvm.Stand.ldcI X22 hx hown (gz hZ hw 21 rfl) rfl (hb hby d5_51)) ?_
   show Goes _ _ _ _ _ (fT T22 m 53 #[vr a, vi q, vu, vu] [(.int 65536), (.int q)])
   refine gY X22 hx hby d5_53 53 123 (flt hc).2.1 ?_
   refine gA X22 hx hby d5_123 rfl rfl rfl ?_
   obtain ⟨T23, X23, e23, st23⟩ := getF X22 hx hZ hown (host := "") (Or.inl (gw hw 43 rfl)) Via.refl e22 F_supplementary_a (g := (mkF m 124 #[vr a, vi q, vu, vu] [(.ref a)])) rfl rfl (hb hby d5_124)
   refine Gs st23 ?_
   show Goes _ _ _ _ _ (fT T23 m 127 #[vr a, vi q, vu, vu] [.null])
   refine Gz (XS.ifnonnullNo X23.here hx rfl (hb hby d5_127) rfl) ?_
   refine gA X23 hx hby d5_130 rfl rfl rfl ?_
   refine Gz (XS.sipush X23.here hx rfl (hb hby d5_131)) ?_
   show Goes _ _ _ _ _ (fT T23 m 134 #[vr a, vi q, vu, vu] [(.int 4096), (.ref a)])
   obtain ⟨T24, h24, k24, X24, e24, E24, A24, AE24, O24, st24⟩ := newRA X23 hx hZ hown (C := "[I") (ty := .int) (by first | rfl | decide +kernel) (gw hw 45 rfl) (gw hw 46 rfl) e23 (g := (mkF m 134 #[vr a, vi q, vu, vu] [(.int 4096), (.ref a)])) rfl (hb hby d5_134) rfl (by decide) (cap := 4096) (by decide) (by decide) (by decide) (by decide) (ad := "[[I") rfl
   obtain ⟨b24, gq24⟩ : ∃ z, z = h22.size := ⟨_, rfl⟩
   rw [← gq24] at A24 st24 AE24
   have g_b24 : n0 ≤ b24 := by rw [gq24]; exact Z0
   have sz_b24 : h0.size ≤ b24 := by rw [gq24]; exact KP.1
   have ne_a_b24 : a ≠ b24 := by rw [gq24]; exact Nat.ne_of_lt A_a.lt
   have lt_a_b24 : a < b24 := by rw [gq24]; exact A_a.lt
   have ne_B_b24 : B ≠ b24 := by rw [gq24]; exact Nat.ne_of_lt V_B.lt
   have ne_P_b24 : P ≠ b24 := by rw [gq24]; exact Nat.ne_of_lt V_P.lt
   replace A_a := A_a.ext E24
   replace F_basic_a := F_basic_a.ext E24
   replace F_codePoints_a := F_codePoints_a.ext E24
   replace F_size_a := F_size_a.ext E24
   replace F_supplementary_a := F_supplementary_a.ext E24
   replace V_B := V_B.ext E24
   replace V_P := V_P.ext E24
   replace KP := KP.ext E24
   replace Z0 : n0 ≤ h24.size := Nat.le_trans Z0 E24.1
   have V_b24 : Arv Z h24 b24 k24 (.array .int) (4096 : Int32) (List.replicate 4096 .null) .null := own_padN (Arv.new A24 (by decide)) 4096
   refine Gs st24 ?_
   show Goes _ _ _ _ _ (fT T24 m 137 #[vr a, vi q, vu, vu] [(.ref b24), (.ref a)])
   obtain ⟨T25, h25, X25, e25, W25, st25⟩ := putF X24 hx hZ hown (host := "") (Or.inl (gw hw 43 rfl)) Via.refl e24 F_supplementary_a A_a (Or.inl (gw hw 44 rfl)) (gw hw 8 rfl) (ty := (.array (.array .int))) (by decide) rfl rfl (g := (mkF m 137 #[vr a, vi q, vu, vu] [(.ref b24), (.ref a)])) rfl rfl (hb hby d5_137)
   have N25 := Fr.snoc X25 N22 g_a
   replace A_a := A_a.wr W25
   replace F_basic_a := F_basic_a.other W25 (Or.inr (slot_ne (Or.inl (gw hw 17 rfl)) (Or.inl (gw hw 44 rfl)) (by decide) (t := (.array .int)) (t' := (.array (.array .int))) (by decide) (by decide)))
   replace F_codePoints_a := F_codePoints_a.other W25 (Or.inr (slot_ne (Or.inl (gw hw 19 rfl)) (Or.inl (gw hw 44 rfl)) (by decide) (t := (.array .int)) (t' := (.array (.array .int))) (by decide) (by decide)))
   replace F_size_a := F_size_a.other W25 (Or.inr (slot_ne (Or.inl (gw hw 41 rfl)) (Or.inl (gw hw 44 rfl)) (by decide) (t := .int) (t' := (.array (.array .int))) (by decide) (by decide)))
   replace V_B := V_B.other W25 (Ne.symm ne_a_B)
   replace V_P := V_P.other W25 (Ne.symm ne_a_P)
   replace V_b24 := V_b24.other W25 (Ne.symm ne_a_b24)
   replace KP := KP.wr W25 (Or.inl (List.mem_of_getElem? (i := 0) rfl))
   replace F_supplementary_a := F_supplementary_a.same W25
   replace Z0 : n0 ≤ h25.size := by rw [W25.size]; exact Z0
   refine Gs st25 ?_
   show Goes _ _ _ _ _ (fT T25 m 140 #[vr a, vi q, vu, vu] [])
   refine gA X25 hx hby d5_140 rfl rfl rfl ?_
   obtain ⟨T26, X26, e26, st26⟩ := getF X25 hx hZ hown (host := "") (Or.inl (gw hw 43 rfl)) Via.refl e25 F_supplementary_a (g := (mkF m 141 #[vr a, vi q, vu, vu] [(.ref a)])) rfl rfl (hb hby d5_141)
   refine Gs st26 ?_
   show Goes _ _ _ _ _ (fT T26 m 144 #[vr a, vi q, vu, vu] [(.ref b24)])
   refine gN X26 hx hby d5_144 rfl rfl ?_
   refine cS X26 hx hZ hw hown hby hml e26 mN2 47 48 49 9 1 (rm_bo l Z a0 hw [] q h25 n0 Z0) d5_145 (lenOf own_pd0 rfl) N25 (fun T27 L27 X27 e27 N27 => ?_)
   show Goes _ _ _ _ _ (fT T27 m 148 #[vr a, vi q, vu, vu] [(.int (own_bi q)), (.ref b24)])
   obtain ⟨cl28, Ar28, -, S28, N28z, H28, -⟩ := id V_b24
   have hin28 : ¬ ((own_bi q) < 0 ∨ cl28.slots.size ≤ ((own_bi q)).toNatClampNeg) := inb_of S28 ⟨hb2, hb3⟩
   have hat28 : cl28.slots[((own_bi q)).toNatClampNeg]? = some .null := Has.at H28 hin28 (own_rp0 _)
   refine Gs (fun _ tk => X27.aaload hx (j := (own_bi q)) (v := .null) (by rw [e27]; exact Ar28.1) (State.isArrayOf_alike hZ.alike Ar28.2.1) rfl Ar28.2.2 hin28 hat28 (g := (mkF m 148 #[vr a, vi q, vu, vu] [(.int (own_bi q)), (.ref b24)])) rfl rfl (hb hby d5_148) _ tk) ?_
   show Goes _ _ _ _ _ (fT T27 m 149 #[vr a, vi q, vu, vu] [.null])
   refine Gz (XS.astoreN X27.here hx rfl (hb hby d5_149) rfl rfl (l' := #[vr a, vi q, .val .null, vu]) rfl) ?_
   refine gA X27 hx hby d5_150 rfl rfl rfl ?_
   refine Gz (XS.ifnonnullNo X27.here hx rfl (hb hby d5_151) rfl) ?_
   refine Gz (XS.sipush X27.here hx rfl (hb hby d5_154)) ?_
   show Goes _ _ _ _ _ (fT T27 m 157 #[vr a, vi q, .val .null, vu] [(.int 256)])
   obtain ⟨T29, h29, k29, X29, e29, E29, A29, AE29, st29⟩ := newPE X27 hx hZ (gw hw 6 rfl) e27 (g := (mkF m 157 #[vr a, vi q, .val .null, vu] [(.int 256)])) rfl (hb hby d5_157) rfl (by decide) (cap := 256) (by decide) (by decide) (by decide) (by decide) (ad := "[I") rfl
   obtain ⟨b29, gq29⟩ : ∃ z, z = h25.size := ⟨_, rfl⟩
   rw [← gq29] at A29 st29 AE29
   have g_b29 : n0 ≤ b29 := by rw [gq29]; exact Z0
   have sz_b29 : h0.size ≤ b29 := by rw [gq29]; exact KP.1
   have ne_a_b29 : a ≠ b29 := by rw [gq29]; exact Nat.ne_of_lt A_a.lt
   have lt_a_b29 : a < b29 := by rw [gq29]; exact A_a.lt
   have ne_B_b29 : B ≠ b29 := by rw [gq29]; exact Nat.ne_of_lt V_B.lt
   have ne_P_b29 : P ≠ b29 := by rw [gq29]; exact Nat.ne_of_lt V_P.lt
   have ne_b24_b29 : b24 ≠ b29 := by rw [gq29]; exact Nat.ne_of_lt V_b24.lt
   replace A_a := A_a.ext E29
   replace F_basic_a := F_basic_a.ext E29
   replace F_codePoints_a := F_codePoints_a.ext E29
   replace F_size_a := F_size_a.ext E29
   replace F_supplementary_a := F_supplementary_a.ext E29
   replace V_B := V_B.ext E29
   replace V_P := V_P.ext E29
   replace V_b24 := V_b24.ext E29
   replace KP := KP.ext E29
   replace Z0 : n0 ≤ h29.size := Nat.le_trans Z0 E29.1
   have A_b29 : Exa Z h29 b29 "[I" := AE29
   have V_b29 : Arv Z h29 b29 k29 .int 256 [] (.int 0) := Arv.new A29 (by decide)
   refine Gs st29 ?_
   show Goes _ _ _ _ _ (fT T29 m 159 #[vr a, vi q, .val .null, vu] [(.ref b29)])
   refine Gz (XS.astoreN X29.here hx rfl (hb hby d5_159) rfl rfl (l' := #[vr a, vi q, vr b29, vu]) rfl) ?_
   refine gA X29 hx hby d5_160 rfl rfl rfl ?_
   refine gC X29 hx hby d5_161 ?_
   refine cSg X29 hx hZ hw hown hby hml e29 mN3 26 27 29 28 0 (rm_fill l Z a0 hw [] b29 k29 (256 : Int32) (-1 : Int32) h29 n0 Z0 V_b29 g_b29) d5_162 (lenOf own_pd1 rfl) (fun _ T30 L30 X30 hQ30 => ?_)
   obtain ⟨rfl, N30q, K30, V_b29_30'⟩ := hQ30
   have N30 := Fr.app N27 N30q
   replace A_a := A_a.keep K30
   replace F_basic_a := F_basic_a.keep K30 (ninS ne_a_b29 nin0)
   replace F_codePoints_a := F_codePoints_a.keep K30 (ninS ne_a_b29 nin0)
   replace F_size_a := F_size_a.keep K30 (ninS ne_a_b29 nin0)
   replace F_supplementary_a := F_supplementary_a.keep K30 (ninS ne_a_b29 nin0)
   replace V_B := V_B.keep K30 (ninS ne_B_b29 nin0)
   replace V_P := V_P.keep K30 (ninS ne_P_b29 nin0)
   replace V_b24 := V_b24.keep K30 (ninS ne_b24_b29 nin0)
   replace A_b29 := A_b29.keep K30
   replace KP := KP.trans K30 (allS (Or.inr sz_b29) all0)
   replace Z0 := Nat.le_trans Z0 K30.1
   have V_b29 := V_b29_30'
   show Goes _ _ _ _ _ (fT T30 m 165 #[vr a, vi q, vr b29, vu] [])
   refine gA X30 hx hby d5_165 rfl rfl rfl ?_
   obtain ⟨T31, X31, e31, st31⟩ := getF X30 hx hZ hown (host := "") (Or.inl (gw hw 43 rfl)) Via.refl rfl F_supplementary_a (g := (mkF m 166 #[vr a, vi q, vr b29, vu] [(.ref a)])) rfl rfl (hb hby d5_166)
   refine Gs st31 ?_
   show Goes _ _ _ _ _ (fT T31 m 169 #[vr a, vi q, vr b29, vu] [(.ref b24)])
   refine gN X31 hx hby d5_169 rfl rfl ?_
   refine cS X31 hx hZ hw hown hby hml e31 mN2 47 48 49 9 1 (rm_bo l Z a0 hw [] q T30.heap n0 Z0) d5_170 (lenOf own_pd0 rfl) N30 (fun T32 L32 X32 e32 N32 => ?_)
   show Goes _ _ _ _ _ (fT T32 m 173 #[vr a, vi q, vr b29, vu] [(.int (own_bi q)), (.ref b24)])
   refine gA X32 hx hby d5_173 rfl rfl rfl ?_
   show Goes _ _ _ _ _ (fT T32 m 174 #[vr a, vi q, vr b29, vu] [(.ref b29), (.int (own_bi q)), (.ref b24)])
   obtain ⟨cl33, Ar33, q33, S33, N33z, H33, G33⟩ := V_b24
   have hin33 : ¬ ((own_bi q) < 0 ∨ cl33.slots.size ≤ ((own_bi q)).toNatClampNeg) := inb_of S33 ⟨hb2, hb3⟩
   obtain ⟨T33, h33, X33, e33, W33, st33⟩ := stR X32 hx hZ e32 Ar33 (j := (own_bi q)) hin33 rfl (Sto.ofVA Ar33 q33 O24 (Ins.self A_b29)) (g := (mkF m 174 #[vr a, vi q, vr b29, vu] [(.ref b29), (.int (own_bi q)), (.ref b24)])) rfl rfl (hb hby d5_174)
   have Vn33 := Arv.set Ar33 q33 S33 N33z H33 G33 rfl W33 (own_bi q).toNatClampNeg rfl (by rw [List.length_replicate]; exact hb1)
   have N33 := Fr.snoc X33 N32 g_b24
   replace A_a := A_a.wr W33
   replace F_basic_a := F_basic_a.other W33 (Or.inl ne_a_b24)
   replace F_codePoints_a := F_codePoints_a.other W33 (Or.inl ne_a_b24)
   replace F_size_a := F_size_a.other W33 (Or.inl ne_a_b24)
   replace F_supplementary_a := F_supplementary_a.other W33 (Or.inl ne_a_b24)
   replace V_B := V_B.other W33 ne_B_b24
   replace V_P := V_P.other W33 ne_P_b24
   replace V_b29 := V_b29.other W33 (Ne.symm ne_b24_b29)
   replace KP := KP.wr W33 (Or.inr sz_b24)
   have V_b24 : Arv Z h33 b24 _ (.array .int) (4096 : Int32) ((List.replicate 4096 .null).set (own_bi q).toNatClampNeg (.ref b29)) .null := Vn33
   replace Z0 : n0 ≤ h33.size := by rw [W33.size]; exact Z0
   refine Gs st33 ?_
   show Goes _ _ _ _ _ (fT T33 m 175 #[vr a, vi q, vr b29, vu] [])
   refine gA X33 hx hby d5_175 rfl rfl rfl ?_
   refine gN X33 hx hby d5_176 rfl rfl ?_
   refine Gz (XS.sipush X33.here hx rfl (hb hby d5_177)) ?_
   show Goes _ _ _ _ _ (fT T33 m 180 #[vr a, vi q, vr b29, vu] [(.int 255), (.int q), (.ref b29)])
   refine Gz (XS.iand X33.here hx rfl (hb hby d5_180) rfl) ?_
   show Goes _ _ _ _ _ (fT T33 m 181 #[vr a, vi q, vr b29, vu] [(.int (q &&& 255)), (.ref b29)])
   refine gA X33 hx hby d5_181 rfl rfl rfl ?_
   obtain ⟨T34, X34, e34, st34⟩ := getF X33 hx hZ hown (host := "") (Or.inl (gw hw 40 rfl)) Via.refl e33 F_size_a (g := (mkF m 182 #[vr a, vi q, vr b29, vu] [(.ref a), (.int (q &&& 255)), (.ref b29)])) rfl rfl (hb hby d5_182)
   refine Gs st34 ?_
   show Goes _ _ _ _ _ (fT T34 m 185 #[vr a, vi q, vr b29, vu] [(.int (sz + 1)), (.int (q &&& 255)), (.ref b29)])
   replace V_b29 : Arv Z h33 b29 k29 .int 256 (own_bl F (65536 + 256 * (own_bi q).toNatClampNeg) 256) (.int 0) := own_toBl V_b29 (fun j hj => hsF _ (by omega))
   obtain ⟨cl35, Ar35, q35, S35, N35z, H35, G35⟩ := V_b29
   have hin35 : ¬ ((q &&& 255) < 0 ∨ cl35.slots.size ≤ ((q &&& 255)).toNatClampNeg) := inb_of S35 ⟨hb6, hb7⟩
   obtain ⟨T35, h35, X35, e35, W35, st35⟩ := stI X34 hx hZ e34 Ar35 (j := (q &&& 255)) hin35 (g := (mkF m 185 #[vr a, vi q, vr b29, vu] [(.int (sz + 1)), (.int (q &&& 255)), (.ref b29)])) rfl rfl (hb hby d5_185)
   have Vn35 := Arv.set Ar35 q35 S35 N35z H35 G35 rfl W35 (q &&& 255).toNatClampNeg rfl (by rw [own_blL]; exact hb5)
   have N35 := Fr.snoc X35 N33 g_b29
   replace A_a := A_a.wr W35
   replace F_basic_a := F_basic_a.other W35 (Or.inl ne_a_b29)
   replace F_codePoints_a := F_codePoints_a.other W35 (Or.inl ne_a_b29)
   replace F_size_a := F_size_a.other W35 (Or.inl ne_a_b29)
   replace F_supplementary_a := F_supplementary_a.other W35 (Or.inl ne_a_b29)
   replace V_B := V_B.other W35 ne_B_b29
   replace V_P := V_P.other W35 ne_P_b29
   replace V_b24 := V_b24.other W35 ne_b24_b29
   replace KP := KP.wr W35 (Or.inr sz_b29)
   have V_b29 : Arv Z h35 b29 _ .int 256 ((own_bl F (65536 + 256 * (own_bi q).toNatClampNeg) 256).set (q &&& 255).toNatClampNeg (.int (sz + 1))) (.int 0) := Vn35
   replace Z0 : n0 ≤ h35.size := by rw [W35.size]; exact Z0
   refine Gs st35 ?_
   show Goes _ _ _ _ _ (fT T35 m 186 #[vr a, vi q, vr b29, vu] [])
   rw [own_blS hb5, ← hb4] at V_b29
   refine gA X35 hx hby d5_186 rfl rfl rfl ?_
   obtain ⟨T36, X36, e36, st36⟩ := getF X35 hx hZ hown (host := "") (Or.inl (gw hw 40 rfl)) Via.refl e35 F_size_a (g := (mkF m 187 #[vr a, vi q, vr b29, vu] [(.ref a)])) rfl rfl (hb hby d5_187)
   refine Gs st36 ?_
   show Goes _ _ _ _ _ (fT T36 m 190 #[vr a, vi q, vr b29, vu] [(.int (sz + 1))])
   refine Goes.ret X36 (some (.int (sz + 1))) (fun h => by rw [hret] at h; cases h) hlk (by decide) (by decide) ?_ (fun fs hr => ?_)
   ·rw [e36]; exact ⟨rfl, N35, (own_KB KP (by intro x hx; simp only [List.mem_cons, List.not_mem_nil, or_false] at hx; rcases hx with rfl | rfl <;> first | exact Nat.le_refl _ | exact Nat.le_of_lt (by assumption))), own_addS A_a F_basic_a F_codePoints_a F_size_a F_supplementary_a V_B V_P (by rw [List.length_set]; exact hpl) aB aP ne_B_P hF hnb hn0 (own_hi hq0 hc) lt_a_b24 (by simp [Ne.symm ne_B_b24, Ne.symm ne_P_b24]) O24 V_b24 (own_blkUp hb1 (own_blk0 hsF) KP lt_a_b29 (by simp [Ne.symm ne_b24_b29, Ne.symm ne_B_b29, Ne.symm ne_P_b29]) (fun j hj _ => own_blkNew (Z := Z) (a := a) (ex := []) (own_blk0 hsF) sz_b29 j hj) (by intro x hx; simp only [List.mem_cons, List.not_mem_nil, or_false] at hx ⊢; rcases hx with rfl | rfl <;> simp) (by rw [List.length_set]; exact List.length_replicate) (fun j hj => own_setO hj) (own_setD (by rw [List.length_replicate]; exact hb1)) V_b29 (own_off hb4 hb5 (sz + 1) F))⟩
   ·exact retI X36 hx hret (hb hby d5_190) hr
  ·have g_S : n0 ≤ S := Nat.le_trans g_a (Nat.le_of_lt aS)
   have ne_a_S : a ≠ S := Nat.ne_of_lt aS
   have ne_B_S : B ≠ S := fun q => nS (by rw [q]; simp)
   have ne_P_S : P ≠ S := fun q => nS (by rw [q]; simp)
   obtain ⟨hv, hbF⟩ | ⟨b, kb, hv, ab, nB, V_b⟩ := BK.2.1 _ hb1
   ·have KP : Keep h0 h0 [a, P, S] := Keep.refl _ _
    show Goes _ _ _ _ _ (fT s₁ m 0 #[vr a, vi q, vu, vu] [])
    refine gA X0 hx hby d5_0 rfl rfl rfl ?_
    refine Gz (XS.dup X0.here hx rfl (hb hby d5_1) rfl rfl) ?_
    obtain ⟨T37, X37, e37, st37⟩ := getF X0 hx hZ hown (host := "") (Or.inl (gw hw 40 rfl)) Via.refl e0 F_size_a (g := (mkF m 2 #[vr a, vi q, vu, vu] [(.ref a), (.ref a)])) rfl rfl (hb hby d5_2)
    refine Gs st37 ?_
    show Goes _ _ _ _ _ (fT T37 m 5 #[vr a, vi q, vu, vu] [(.int sz), (.ref a)])
    refine gC X37 hx hby d5_5 ?_
    show Goes _ _ _ _ _ (fT T37 m 6 #[vr a, vi q, vu, vu] [(.int 1), (.int sz), (.ref a)])
    refine Gz (XS.iadd X37.here hx rfl (hb hby d5_6) rfl) ?_
    show Goes _ _ _ _ _ (fT T37 m 7 #[vr a, vi q, vu, vu] [(.int (sz + 1)), (.ref a)])
    obtain ⟨T38, h38, X38, e38, W38, st38⟩ := putF X37 hx hZ hown (host := "") (Or.inl (gw hw 40 rfl)) Via.refl e37 F_size_a A_a (Or.inl (gw hw 41 rfl)) (gw hw 8 rfl) (ty := .int) (by decide) rfl rfl (g := (mkF m 7 #[vr a, vi q, vu, vu] [(.int (sz + 1)), (.ref a)])) rfl rfl (hb hby d5_7)
    have N38 := Fr.snoc X38 N0 g_a
    replace A_a := A_a.wr W38
    replace F_basic_a := F_basic_a.other W38 (Or.inr (slot_ne (Or.inl (gw hw 17 rfl)) (Or.inl (gw hw 41 rfl)) (by decide) (t := (.array .int)) (t' := .int) (by decide) (by decide)))
    replace F_codePoints_a := F_codePoints_a.other W38 (Or.inr (slot_ne (Or.inl (gw hw 19 rfl)) (Or.inl (gw hw 41 rfl)) (by decide) (t := (.array .int)) (t' := .int) (by decide) (by decide)))
    replace F_supplementary_a := F_supplementary_a.other W38 (Or.inr (slot_ne (Or.inl (gw hw 44 rfl)) (Or.inl (gw hw 41 rfl)) (by decide) (t := (.array (.array .int))) (t' := .int) (by decide) (by decide)))
    replace V_B := V_B.other W38 (Ne.symm ne_a_B)
    replace V_P := V_P.other W38 (Ne.symm ne_a_P)
    replace V_S := V_S.other W38 (Ne.symm ne_a_S)
    replace KP := KP.wr W38 (Or.inl (List.mem_of_getElem? (i := 0) rfl))
    replace F_size_a := F_size_a.same W38
    replace Z0 : n0 ≤ h38.size := by rw [W38.size]; exact Z0
    refine Gs st38 ?_
    show Goes _ _ _ _ _ (fT T38 m 10 #[vr a, vi q, vu, vu] [])
    refine gA X38 hx hby d5_10 rfl rfl rfl ?_
    obtain ⟨T39, X39, e39, st39⟩ := getF X38 hx hZ hown (host := "") (Or.inl (gw hw 40 rfl)) Via.refl e38 F_size_a (g := (mkF m 11 #[vr a, vi q, vu, vu] [(.ref a)])) rfl rfl (hb hby d5_11)
    refine Gs st39 ?_
    show Goes _ _ _ _ _ (fT T39 m 14 #[vr a, vi q, vu, vu] [(.int (sz + 1))])
    refine gA X39 hx hby d5_14 rfl rfl rfl ?_
    obtain ⟨T40, X40, e40, st40⟩ := getF X39 hx hZ hown (host := "") (Or.inl (gw hw 18 rfl)) Via.refl e39 F_codePoints_a (g := (mkF m 15 #[vr a, vi q, vu, vu] [(.ref a), (.int (sz + 1))])) rfl rfl (hb hby d5_15)
    refine Gs st40 ?_
    show Goes _ _ _ _ _ (fT T40 m 18 #[vr a, vi q, vu, vu] [(.ref P), (.int (sz + 1))])
    obtain ⟨cl41, Ar41, -, S41, N41z, -, -⟩ := id V_P
    refine Gs (fun _ tk => X40.arraylength hx (by rw [e40]; exact Ar41.1) (State.isArrayOf_alike hZ.alike Ar41.2.1) (g := (mkF m 18 #[vr a, vi q, vu, vu] [(.ref P), (.int (sz + 1))])) rfl rfl (hb hby d5_18) _ tk) ?_
    rw [len_of S41 N41z]
    show Goes _ _ _ _ _ (fT T40 m 19 #[vr a, vi q, vu, vu] [(.int mm), (.int (sz + 1))])
    refine gY X40 hx hby d5_19 19 40 (feq (own_nq hs1)).2 ?_
    refine gA X40 hx hby d5_40 rfl rfl rfl ?_
    obtain ⟨T42, X42, e42, st42⟩ := getF X40 hx hZ hown (host := "") (Or.inl (gw hw 18 rfl)) Via.refl e40 F_codePoints_a (g := (mkF m 41 #[vr a, vi q, vu, vu] [(.ref a)])) rfl rfl (hb hby d5_41)
    refine Gs st42 ?_
    show Goes _ _ _ _ _ (fT T42 m 44 #[vr a, vi q, vu, vu] [(.ref P)])
    refine gA X42 hx hby d5_44 rfl rfl rfl ?_
    obtain ⟨T43, X43, e43, st43⟩ := getF X42 hx hZ hown (host := "") (Or.inl (gw hw 40 rfl)) Via.refl e42 F_size_a (g := (mkF m 45 #[vr a, vi q, vu, vu] [(.ref a), (.ref P)])) rfl rfl (hb hby d5_45)
    refine Gs st43 ?_
    show Goes _ _ _ _ _ (fT T43 m 48 #[vr a, vi q, vu, vu] [(.int (sz + 1)), (.ref P)])
    refine gN X43 hx hby d5_48 rfl rfl ?_
    show Goes _ _ _ _ _ (fT T43 m 49 #[vr a, vi q, vu, vu] [(.int q), (.int (sz + 1)), (.ref P)])
    obtain ⟨cl44, Ar44, q44, S44, N44z, H44, G44⟩ := V_P
    have hin44 : ¬ ((sz + 1) < 0 ∨ cl44.slots.size ≤ ((sz + 1)).toNatClampNeg) := inb_of S44 ⟨hs0, hs1⟩
    obtain ⟨T44, h44, X44, e44, W44, st44⟩ := stI X43 hx hZ e43 Ar44 (j := (sz + 1)) hin44 (g := (mkF m 49 #[vr a, vi q, vu, vu] [(.int q), (.int (sz + 1)), (.ref P)])) rfl rfl (hb hby d5_49)
    have Vn44 := Arv.set Ar44 q44 S44 N44z H44 G44 rfl W44 (sz + 1).toNatClampNeg rfl (by rw [hpl]; exact own_lt (own_nn' hs0) hs1)
    have N44 := Fr.snoc X44 N38 g_P
    replace A_a := A_a.wr W44
    replace F_basic_a := F_basic_a.other W44 (Or.inl ne_a_P)
    replace F_codePoints_a := F_codePoints_a.other W44 (Or.inl ne_a_P)
    replace F_size_a := F_size_a.other W44 (Or.inl ne_a_P)
    replace F_supplementary_a := F_supplementary_a.other W44 (Or.inl ne_a_P)
    replace V_B := V_B.other W44 ne_B_P
    replace V_S := V_S.other W44 (Ne.symm ne_P_S)
    replace KP := KP.wr W44 (Or.inl (List.mem_of_getElem? (i := 1) rfl))
    have V_P : Arv Z h44 P _ .int mm (pl.set (sz + 1).toNatClampNeg (.int q)) (.int 0) := Vn44
    replace Z0 : n0 ≤ h44.size := by rw [W44.size]; exact Z0
    refine Gs st44 ?_
    show Goes _ _ _ _ _ (fT T44 m 50 #[vr a, vi q, vu, vu] [])
    refine gN X44 hx hby d5_50 rfl rfl ?_
    refine Gz (Jvm.Stand.ldcI X44 hx hown (gz hZ hw 21 rfl) rfl (hb hby d5_51)) ?_
    show Goes _ _ _ _ _ (fT T44 m 53 #[vr a, vi q, vu, vu] [(.int 65536), (.int q)])
    refine gY X44 hx hby d5_53 53 123 (flt hc).2.1 ?_
    refine gA X44 hx hby d5_123 rfl rfl rfl ?_
    obtain ⟨T45, X45, e45, st45⟩ := getF X44 hx hZ hown (host := "") (Or.inl (gw hw 43 rfl)) Via.refl e44 F_supplementary_a (g := (mkF m 124 #[vr a, vi q, vu, vu] [(.ref a)])) rfl rfl (hb hby d5_124)
    refine Gs st45 ?_
    show Goes _ _ _ _ _ (fT T45 m 127 #[vr a, vi q, vu, vu] [(.ref S)])
    refine Gz (XS.ifnonnullYes X45.here hx rfl (pc0 := 127) (pc' := 140) rfl (hb hby d5_127) rfl (by decide) (by decide)) ?_
    refine gA X45 hx hby d5_140 rfl rfl rfl ?_
    obtain ⟨T46, X46, e46, st46⟩ := getF X45 hx hZ hown (host := "") (Or.inl (gw hw 43 rfl)) Via.refl e45 F_supplementary_a (g := (mkF m 141 #[vr a, vi q, vu, vu] [(.ref a)])) rfl rfl (hb hby d5_141)
    refine Gs st46 ?_
    show Goes _ _ _ _ _ (fT T46 m 144 #[vr a, vi q, vu, vu] [(.ref S)])
    refine gN X46 hx hby d5_144 rfl rfl ?_
    refine cS X46 hx hZ hw hown hby hml e46 mN2 47 48 49 9 1 (rm_bo l Z a0 hw [] q h44 n0 Z0) d5_145 (lenOf own_pd0 rfl) N44 (fun T47 L47 X47 e47 N47 => ?_)
    show Goes _ _ _ _ _ (fT T47 m 148 #[vr a, vi q, vu, vu] [(.int (own_bi q)), (.ref S)])
    obtain ⟨cl48, Ar48, -, S48, N48z, H48, -⟩ := id V_S
    have hin48 : ¬ ((own_bi q) < 0 ∨ cl48.slots.size ≤ ((own_bi q)).toNatClampNeg) := inb_of S48 ⟨hb2, hb3⟩
    have hat48 : cl48.slots[((own_bi q)).toNatClampNeg]? = some .null := Has.at H48 hin48 hv
    refine Gs (fun _ tk => X47.aaload hx (j := (own_bi q)) (v := .null) (by rw [e47]; exact Ar48.1) (State.isArrayOf_alike hZ.alike Ar48.2.1) rfl Ar48.2.2 hin48 hat48 (g := (mkF m 148 #[vr a, vi q, vu, vu] [(.int (own_bi q)), (.ref S)])) rfl rfl (hb hby d5_148) _ tk) ?_
    show Goes _ _ _ _ _ (fT T47 m 149 #[vr a, vi q, vu, vu] [.null])
    refine Gz (XS.astoreN X47.here hx rfl (hb hby d5_149) rfl rfl (l' := #[vr a, vi q, .val .null, vu]) rfl) ?_
    refine gA X47 hx hby d5_150 rfl rfl rfl ?_
    refine Gz (XS.ifnonnullNo X47.here hx rfl (hb hby d5_151) rfl) ?_
    refine Gz (XS.sipush X47.here hx rfl (hb hby d5_154)) ?_
    show Goes _ _ _ _ _ (fT T47 m 157 #[vr a, vi q, .val .null, vu] [(.int 256)])
    obtain ⟨T49, h49, k49, X49, e49, E49, A49, AE49, st49⟩ := newPE X47 hx hZ (gw hw 6 rfl) e47 (g := (mkF m 157 #[vr a, vi q, .val .null, vu] [(.int 256)])) rfl (hb hby d5_157) rfl (by decide) (cap := 256) (by decide) (by decide) (by decide) (by decide) (ad := "[I") rfl
    obtain ⟨b49, gq49⟩ : ∃ z, z = h44.size := ⟨_, rfl⟩
    rw [← gq49] at A49 st49 AE49
    have g_b49 : n0 ≤ b49 := by rw [gq49]; exact Z0
    have sz_b49 : h0.size ≤ b49 := by rw [gq49]; exact KP.1
    have ne_a_b49 : a ≠ b49 := by rw [gq49]; exact Nat.ne_of_lt A_a.lt
    have lt_a_b49 : a < b49 := by rw [gq49]; exact A_a.lt
    have ne_B_b49 : B ≠ b49 := by rw [gq49]; exact Nat.ne_of_lt V_B.lt
    have ne_P_b49 : P ≠ b49 := by rw [gq49]; exact Nat.ne_of_lt V_P.lt
    have ne_S_b49 : S ≠ b49 := by rw [gq49]; exact Nat.ne_of_lt V_S.lt
    replace A_a := A_a.ext E49
    replace F_basic_a := F_basic_a.ext E49
    replace F_codePoints_a := F_codePoints_a.ext E49
    replace F_size_a := F_size_a.ext E49
    replace F_supplementary_a := F_supplementary_a.ext E49
    replace V_B := V_B.ext E49
    replace V_P := V_P.ext E49
    replace V_S := V_S.ext E49
    replace KP := KP.ext E49
    replace Z0 : n0 ≤ h49.size := Nat.le_trans Z0 E49.1
    have A_b49 : Exa Z h49 b49 "[I" := AE49
    have V_b49 : Arv Z h49 b49 k49 .int 256 [] (.int 0) := Arv.new A49 (by decide)
    refine Gs st49 ?_
    show Goes _ _ _ _ _ (fT T49 m 159 #[vr a, vi q, .val .null, vu] [(.ref b49)])
    refine Gz (XS.astoreN X49.here hx rfl (hb hby d5_159) rfl rfl (l' := #[vr a, vi q, vr b49, vu]) rfl) ?_
    refine gA X49 hx hby d5_160 rfl rfl rfl ?_
    refine gC X49 hx hby d5_161 ?_
    refine cSg X49 hx hZ hw hown hby hml e49 mN3 26 27 29 28 0 (rm_fill l Z a0 hw [] b49 k49 (256 : Int32) (-1 : Int32) h49 n0 Z0 V_b49 g_b49) d5_162 (lenOf own_pd1 rfl) (fun _ T50 L50 X50 hQ50 => ?_)
    obtain ⟨rfl, N50q, K50, V_b49_50'⟩ := hQ50
    have N50 := Fr.app N47 N50q
    replace A_a := A_a.keep K50
    replace F_basic_a := F_basic_a.keep K50 (ninS ne_a_b49 nin0)
    replace F_codePoints_a := F_codePoints_a.keep K50 (ninS ne_a_b49 nin0)
    replace F_size_a := F_size_a.keep K50 (ninS ne_a_b49 nin0)
    replace F_supplementary_a := F_supplementary_a.keep K50 (ninS ne_a_b49 nin0)
    replace V_B := V_B.keep K50 (ninS ne_B_b49 nin0)
    replace V_P := V_P.keep K50 (ninS ne_P_b49 nin0)
    replace V_S := V_S.keep K50 (ninS ne_S_b49 nin0)
    replace A_b49 := A_b49.keep K50
    replace KP := KP.trans K50 (allS (Or.inr sz_b49) all0)
    replace Z0 := Nat.le_trans Z0 K50.1
    have V_b49 := V_b49_50'
    show Goes _ _ _ _ _ (fT T50 m 165 #[vr a, vi q, vr b49, vu] [])
    refine gA X50 hx hby d5_165 rfl rfl rfl ?_
    obtain ⟨T51, X51, e51, st51⟩ := getF X50 hx hZ hown (host := "") (Or.inl (gw hw 43 rfl)) Via.refl rfl F_supplementary_a (g := (mkF m 166 #[vr a, vi q, vr b49, vu] [(.ref a)])) rfl rfl (hb hby d5_166)
    refine Gs st51 ?_
    show Goes _ _ _ _ _ (fT T51 m 169 #[vr a, vi q, vr b49, vu] [(.ref S)])
    refine gN X51 hx hby d5_169 rfl rfl ?_
    refine cS X51 hx hZ hw hown hby hml e51 mN2 47 48 49 9 1 (rm_bo l Z a0 hw [] q T50.heap n0 Z0) d5_170 (lenOf own_pd0 rfl) N50 (fun T52 L52 X52 e52 N52 => ?_)
    show Goes _ _ _ _ _ (fT T52 m 173 #[vr a, vi q, vr b49, vu] [(.int (own_bi q)), (.ref S)])
    refine gA X52 hx hby d5_173 rfl rfl rfl ?_
    show Goes _ _ _ _ _ (fT T52 m 174 #[vr a, vi q, vr b49, vu] [(.ref b49), (.int (own_bi q)), (.ref S)])
    obtain ⟨cl53, Ar53, q53, S53, N53z, H53, G53⟩ := V_S
    have hin53 : ¬ ((own_bi q) < 0 ∨ cl53.slots.size ≤ ((own_bi q)).toNatClampNeg) := inb_of S53 ⟨hb2, hb3⟩
    obtain ⟨T53, h53, X53, e53, W53, st53⟩ := stR X52 hx hZ e52 Ar53 (j := (own_bi q)) hin53 rfl (Sto.ofVA Ar53 q53 O (Ins.self A_b49)) (g := (mkF m 174 #[vr a, vi q, vr b49, vu] [(.ref b49), (.int (own_bi q)), (.ref S)])) rfl rfl (hb hby d5_174)
    have Vn53 := Arv.set Ar53 q53 S53 N53z H53 G53 rfl W53 (own_bi q).toNatClampNeg rfl (by rw [BK.1]; exact hb1)
    have N53 := Fr.snoc X53 N52 g_S
    replace A_a := A_a.wr W53
    replace F_basic_a := F_basic_a.other W53 (Or.inl ne_a_S)
    replace F_codePoints_a := F_codePoints_a.other W53 (Or.inl ne_a_S)
    replace F_size_a := F_size_a.other W53 (Or.inl ne_a_S)
    replace F_supplementary_a := F_supplementary_a.other W53 (Or.inl ne_a_S)
    replace V_B := V_B.other W53 ne_B_S
    replace V_P := V_P.other W53 ne_P_S
    replace V_b49 := V_b49.other W53 (Ne.symm ne_S_b49)
    replace KP := KP.wr W53 (Or.inl (List.mem_of_getElem? (i := 2) rfl))
    have V_S : Arv Z h53 S _ (.array .int) (4096 : Int32) (sl.set (own_bi q).toNatClampNeg (.ref b49)) .null := Vn53
    replace Z0 : n0 ≤ h53.size := by rw [W53.size]; exact Z0
    refine Gs st53 ?_
    show Goes _ _ _ _ _ (fT T53 m 175 #[vr a, vi q, vr b49, vu] [])
    refine gA X53 hx hby d5_175 rfl rfl rfl ?_
    refine gN X53 hx hby d5_176 rfl rfl ?_
    refine Gz (XS.sipush X53.here hx rfl (hb hby d5_177)) ?_
    show Goes _ _ _ _ _ (fT T53 m 180 #[vr a, vi q, vr b49, vu] [(.int 255), (.int q), (.ref b49)])
    refine Gz (XS.iand X53.here hx rfl (hb hby d5_180) rfl) ?_
    show Goes _ _ _ _ _ (fT T53 m 181 #[vr a, vi q, vr b49, vu] [(.int (q &&& 255)), (.ref b49)])
    refine gA X53 hx hby d5_181 rfl rfl rfl ?_
    obtain ⟨T54, X54, e54, st54⟩ := getF X53 hx hZ hown (host := "") (Or.inl (gw hw 40 rfl)) Via.refl e53 F_size_a (g := (mkF m 182 #[vr a, vi q, vr b49, vu] [(.ref a), (.int (q &&& 255)), (.ref b49)])) rfl rfl (hb hby d5_182)
    refine Gs st54 ?_
    show Goes _ _ _ _ _ (fT T54 m 185 #[vr a, vi q, vr b49, vu] [(.int (sz + 1)), (.int (q &&& 255)), (.ref b49)])
    replace V_b49 : Arv Z h53 b49 k49 .int 256 (own_bl F (65536 + 256 * (own_bi q).toNatClampNeg) 256) (.int 0) := own_toBl V_b49 (fun j hj => hbF j hj)
    obtain ⟨cl55, Ar55, q55, S55, N55z, H55, G55⟩ := V_b49
    have hin55 : ¬ ((q &&& 255) < 0 ∨ cl55.slots.size ≤ ((q &&& 255)).toNatClampNeg) := inb_of S55 ⟨hb6, hb7⟩
    obtain ⟨T55, h55, X55, e55, W55, st55⟩ := stI X54 hx hZ e54 Ar55 (j := (q &&& 255)) hin55 (g := (mkF m 185 #[vr a, vi q, vr b49, vu] [(.int (sz + 1)), (.int (q &&& 255)), (.ref b49)])) rfl rfl (hb hby d5_185)
    have Vn55 := Arv.set Ar55 q55 S55 N55z H55 G55 rfl W55 (q &&& 255).toNatClampNeg rfl (by rw [own_blL]; exact hb5)
    have N55 := Fr.snoc X55 N53 g_b49
    replace A_a := A_a.wr W55
    replace F_basic_a := F_basic_a.other W55 (Or.inl ne_a_b49)
    replace F_codePoints_a := F_codePoints_a.other W55 (Or.inl ne_a_b49)
    replace F_size_a := F_size_a.other W55 (Or.inl ne_a_b49)
    replace F_supplementary_a := F_supplementary_a.other W55 (Or.inl ne_a_b49)
    replace V_B := V_B.other W55 ne_B_b49
    replace V_P := V_P.other W55 ne_P_b49
    replace V_S := V_S.other W55 ne_S_b49
    replace KP := KP.wr W55 (Or.inr sz_b49)
    have V_b49 : Arv Z h55 b49 _ .int 256 ((own_bl F (65536 + 256 * (own_bi q).toNatClampNeg) 256).set (q &&& 255).toNatClampNeg (.int (sz + 1))) (.int 0) := Vn55
    replace Z0 : n0 ≤ h55.size := by rw [W55.size]; exact Z0
    refine Gs st55 ?_
    show Goes _ _ _ _ _ (fT T55 m 186 #[vr a, vi q, vr b49, vu] [])
    rw [own_blS hb5, ← hb4] at V_b49
    refine gA X55 hx hby d5_186 rfl rfl rfl ?_
    obtain ⟨T56, X56, e56, st56⟩ := getF X55 hx hZ hown (host := "") (Or.inl (gw hw 40 rfl)) Via.refl e55 F_size_a (g := (mkF m 187 #[vr a, vi q, vr b49, vu] [(.ref a)])) rfl rfl (hb hby d5_187)
    refine Gs st56 ?_
    show Goes _ _ _ _ _ (fT T56 m 190 #[vr a, vi q, vr b49, vu] [(.int (sz + 1))])
    refine Goes.ret X56 (some (.int (sz + 1))) (fun h => by rw [hret] at h; cases h) hlk (by decide) (by decide) ?_ (fun fs hr => ?_)
    ·rw [e56]; exact ⟨rfl, N55, (own_KB KP (by intro x hx; simp only [List.mem_cons, List.not_mem_nil, or_false] at hx; rcases hx with rfl | rfl | rfl <;> first | exact Nat.le_refl _ | exact Nat.le_of_lt (by assumption))), own_addS A_a F_basic_a F_codePoints_a F_size_a F_supplementary_a V_B V_P (by rw [List.length_set]; exact hpl) aB aP ne_B_P hF hnb hn0 (own_hi hq0 hc) aS nS O V_S (own_blkUp hb1 BK KP lt_a_b49 (by simp [Ne.symm ne_S_b49, Ne.symm ne_B_b49, Ne.symm ne_P_b49]) (fun j hj _ => own_blkNew BK sz_b49 j hj) (by intro x hx; simp only [List.mem_cons, List.not_mem_nil, or_false] at hx ⊢; rcases hx with rfl | rfl | rfl <;> simp) (by rw [List.length_set]; exact BK.1) (fun j hj => own_setO hj) (own_setD (by rw [BK.1]; exact hb1)) V_b49 (own_off hb4 hb5 (sz + 1) F))⟩
    ·exact retI X56 hx hret (hb hby d5_190) hr
   ·have KP : Keep h0 h0 [a, P, b] := Keep.refl _ _
    have g_b : n0 ≤ b := Nat.le_trans g_a (Nat.le_of_lt ab)
    have ne_a_b : a ≠ b := Nat.ne_of_lt ab
    have ne_S_b : S ≠ b := fun q => nB (by rw [← q]; simp)
    have ne_B_b : B ≠ b := fun q => nB (by rw [← q]; simp)
    have ne_P_b : P ≠ b := fun q => nB (by rw [← q]; simp)
    show Goes _ _ _ _ _ (fT s₁ m 0 #[vr a, vi q, vu, vu] [])
    refine gA X0 hx hby d5_0 rfl rfl rfl ?_
    refine Gz (XS.dup X0.here hx rfl (hb hby d5_1) rfl rfl) ?_
    obtain ⟨T57, X57, e57, st57⟩ := getF X0 hx hZ hown (host := "") (Or.inl (gw hw 40 rfl)) Via.refl e0 F_size_a (g := (mkF m 2 #[vr a, vi q, vu, vu] [(.ref a), (.ref a)])) rfl rfl (hb hby d5_2)
    refine Gs st57 ?_
    show Goes _ _ _ _ _ (fT T57 m 5 #[vr a, vi q, vu, vu] [(.int sz), (.ref a)])
    refine gC X57 hx hby d5_5 ?_
    show Goes _ _ _ _ _ (fT T57 m 6 #[vr a, vi q, vu, vu] [(.int 1), (.int sz), (.ref a)])
    refine Gz (XS.iadd X57.here hx rfl (hb hby d5_6) rfl) ?_
    show Goes _ _ _ _ _ (fT T57 m 7 #[vr a, vi q, vu, vu] [(.int (sz + 1)), (.ref a)])
    obtain ⟨T58, h58, X58, e58, W58, st58⟩ := putF X57 hx hZ hown (host := "") (Or.inl (gw hw 40 rfl)) Via.refl e57 F_size_a A_a (Or.inl (gw hw 41 rfl)) (gw hw 8 rfl) (ty := .int) (by decide) rfl rfl (g := (mkF m 7 #[vr a, vi q, vu, vu] [(.int (sz + 1)), (.ref a)])) rfl rfl (hb hby d5_7)
    have N58 := Fr.snoc X58 N0 g_a
    replace A_a := A_a.wr W58
    replace F_basic_a := F_basic_a.other W58 (Or.inr (slot_ne (Or.inl (gw hw 17 rfl)) (Or.inl (gw hw 41 rfl)) (by decide) (t := (.array .int)) (t' := .int) (by decide) (by decide)))
    replace F_codePoints_a := F_codePoints_a.other W58 (Or.inr (slot_ne (Or.inl (gw hw 19 rfl)) (Or.inl (gw hw 41 rfl)) (by decide) (t := (.array .int)) (t' := .int) (by decide) (by decide)))
    replace F_supplementary_a := F_supplementary_a.other W58 (Or.inr (slot_ne (Or.inl (gw hw 44 rfl)) (Or.inl (gw hw 41 rfl)) (by decide) (t := (.array (.array .int))) (t' := .int) (by decide) (by decide)))
    replace V_B := V_B.other W58 (Ne.symm ne_a_B)
    replace V_P := V_P.other W58 (Ne.symm ne_a_P)
    replace V_S := V_S.other W58 (Ne.symm ne_a_S)
    replace V_b := V_b.other W58 (Ne.symm ne_a_b)
    replace KP := KP.wr W58 (Or.inl (List.mem_of_getElem? (i := 0) rfl))
    replace F_size_a := F_size_a.same W58
    replace Z0 : n0 ≤ h58.size := by rw [W58.size]; exact Z0
    refine Gs st58 ?_
    show Goes _ _ _ _ _ (fT T58 m 10 #[vr a, vi q, vu, vu] [])
    refine gA X58 hx hby d5_10 rfl rfl rfl ?_
    obtain ⟨T59, X59, e59, st59⟩ := getF X58 hx hZ hown (host := "") (Or.inl (gw hw 40 rfl)) Via.refl e58 F_size_a (g := (mkF m 11 #[vr a, vi q, vu, vu] [(.ref a)])) rfl rfl (hb hby d5_11)
    refine Gs st59 ?_
    show Goes _ _ _ _ _ (fT T59 m 14 #[vr a, vi q, vu, vu] [(.int (sz + 1))])
    refine gA X59 hx hby d5_14 rfl rfl rfl ?_
    obtain ⟨T60, X60, e60, st60⟩ := getF X59 hx hZ hown (host := "") (Or.inl (gw hw 18 rfl)) Via.refl e59 F_codePoints_a (g := (mkF m 15 #[vr a, vi q, vu, vu] [(.ref a), (.int (sz + 1))])) rfl rfl (hb hby d5_15)
    refine Gs st60 ?_
    show Goes _ _ _ _ _ (fT T60 m 18 #[vr a, vi q, vu, vu] [(.ref P), (.int (sz + 1))])
    obtain ⟨cl61, Ar61, -, S61, N61z, -, -⟩ := id V_P
    refine Gs (fun _ tk => X60.arraylength hx (by rw [e60]; exact Ar61.1) (State.isArrayOf_alike hZ.alike Ar61.2.1) (g := (mkF m 18 #[vr a, vi q, vu, vu] [(.ref P), (.int (sz + 1))])) rfl rfl (hb hby d5_18) _ tk) ?_
    rw [len_of S61 N61z]
    show Goes _ _ _ _ _ (fT T60 m 19 #[vr a, vi q, vu, vu] [(.int mm), (.int (sz + 1))])
    refine gY X60 hx hby d5_19 19 40 (feq (own_nq hs1)).2 ?_
    refine gA X60 hx hby d5_40 rfl rfl rfl ?_
    obtain ⟨T62, X62, e62, st62⟩ := getF X60 hx hZ hown (host := "") (Or.inl (gw hw 18 rfl)) Via.refl e60 F_codePoints_a (g := (mkF m 41 #[vr a, vi q, vu, vu] [(.ref a)])) rfl rfl (hb hby d5_41)
    refine Gs st62 ?_
    show Goes _ _ _ _ _ (fT T62 m 44 #[vr a, vi q, vu, vu] [(.ref P)])
    refine gA X62 hx hby d5_44 rfl rfl rfl ?_
    obtain ⟨T63, X63, e63, st63⟩ := getF X62 hx hZ hown (host := "") (Or.inl (gw hw 40 rfl)) Via.refl e62 F_size_a (g := (mkF m 45 #[vr a, vi q, vu, vu] [(.ref a), (.ref P)])) rfl rfl (hb hby d5_45)
    refine Gs st63 ?_
    show Goes _ _ _ _ _ (fT T63 m 48 #[vr a, vi q, vu, vu] [(.int (sz + 1)), (.ref P)])
    refine gN X63 hx hby d5_48 rfl rfl ?_
    show Goes _ _ _ _ _ (fT T63 m 49 #[vr a, vi q, vu, vu] [(.int q), (.int (sz + 1)), (.ref P)])
    obtain ⟨cl64, Ar64, q64, S64, N64z, H64, G64⟩ := V_P
    have hin64 : ¬ ((sz + 1) < 0 ∨ cl64.slots.size ≤ ((sz + 1)).toNatClampNeg) := inb_of S64 ⟨hs0, hs1⟩
    obtain ⟨T64, h64, X64, e64, W64, st64⟩ := stI X63 hx hZ e63 Ar64 (j := (sz + 1)) hin64 (g := (mkF m 49 #[vr a, vi q, vu, vu] [(.int q), (.int (sz + 1)), (.ref P)])) rfl rfl (hb hby d5_49)
    have Vn64 := Arv.set Ar64 q64 S64 N64z H64 G64 rfl W64 (sz + 1).toNatClampNeg rfl (by rw [hpl]; exact own_lt (own_nn' hs0) hs1)
    have N64 := Fr.snoc X64 N58 g_P
    replace A_a := A_a.wr W64
    replace F_basic_a := F_basic_a.other W64 (Or.inl ne_a_P)
    replace F_codePoints_a := F_codePoints_a.other W64 (Or.inl ne_a_P)
    replace F_size_a := F_size_a.other W64 (Or.inl ne_a_P)
    replace F_supplementary_a := F_supplementary_a.other W64 (Or.inl ne_a_P)
    replace V_B := V_B.other W64 ne_B_P
    replace V_S := V_S.other W64 (Ne.symm ne_P_S)
    replace V_b := V_b.other W64 (Ne.symm ne_P_b)
    replace KP := KP.wr W64 (Or.inl (List.mem_of_getElem? (i := 1) rfl))
    have V_P : Arv Z h64 P _ .int mm (pl.set (sz + 1).toNatClampNeg (.int q)) (.int 0) := Vn64
    replace Z0 : n0 ≤ h64.size := by rw [W64.size]; exact Z0
    refine Gs st64 ?_
    show Goes _ _ _ _ _ (fT T64 m 50 #[vr a, vi q, vu, vu] [])
    refine gN X64 hx hby d5_50 rfl rfl ?_
    refine Gz (Jvm.Stand.ldcI X64 hx hown (gz hZ hw 21 rfl) rfl (hb hby d5_51)) ?_
    show Goes _ _ _ _ _ (fT T64 m 53 #[vr a, vi q, vu, vu] [(.int 65536), (.int q)])
    refine gY X64 hx hby d5_53 53 123 (flt hc).2.1 ?_
    refine gA X64 hx hby d5_123 rfl rfl rfl ?_
    obtain ⟨T65, X65, e65, st65⟩ := getF X64 hx hZ hown (host := "") (Or.inl (gw hw 43 rfl)) Via.refl e64 F_supplementary_a (g := (mkF m 124 #[vr a, vi q, vu, vu] [(.ref a)])) rfl rfl (hb hby d5_124)
    refine Gs st65 ?_
    show Goes _ _ _ _ _ (fT T65 m 127 #[vr a, vi q, vu, vu] [(.ref S)])
    refine Gz (XS.ifnonnullYes X65.here hx rfl (pc0 := 127) (pc' := 140) rfl (hb hby d5_127) rfl (by decide) (by decide)) ?_
    refine gA X65 hx hby d5_140 rfl rfl rfl ?_
    obtain ⟨T66, X66, e66, st66⟩ := getF X65 hx hZ hown (host := "") (Or.inl (gw hw 43 rfl)) Via.refl e65 F_supplementary_a (g := (mkF m 141 #[vr a, vi q, vu, vu] [(.ref a)])) rfl rfl (hb hby d5_141)
    refine Gs st66 ?_
    show Goes _ _ _ _ _ (fT T66 m 144 #[vr a, vi q, vu, vu] [(.ref S)])
    refine gN X66 hx hby d5_144 rfl rfl ?_
    refine cS X66 hx hZ hw hown hby hml e66 mN2 47 48 49 9 1 (rm_bo l Z a0 hw [] q h64 n0 Z0) d5_145 (lenOf own_pd0 rfl) N64 (fun T67 L67 X67 e67 N67 => ?_)
    show Goes _ _ _ _ _ (fT T67 m 148 #[vr a, vi q, vu, vu] [(.int (own_bi q)), (.ref S)])
    obtain ⟨cl68, Ar68, -, S68, N68z, H68, -⟩ := id V_S
    have hin68 : ¬ ((own_bi q) < 0 ∨ cl68.slots.size ≤ ((own_bi q)).toNatClampNeg) := inb_of S68 ⟨hb2, hb3⟩
    have hat68 : cl68.slots[((own_bi q)).toNatClampNeg]? = some (.ref b) := Has.at H68 hin68 hv
    refine Gs (fun _ tk => X67.aaload hx (j := (own_bi q)) (v := (.ref b)) (by rw [e67]; exact Ar68.1) (State.isArrayOf_alike hZ.alike Ar68.2.1) rfl Ar68.2.2 hin68 hat68 (g := (mkF m 148 #[vr a, vi q, vu, vu] [(.int (own_bi q)), (.ref S)])) rfl rfl (hb hby d5_148) _ tk) ?_
    show Goes _ _ _ _ _ (fT T67 m 149 #[vr a, vi q, vu, vu] [(.ref b)])
    refine Gz (XS.astoreN X67.here hx rfl (hb hby d5_149) rfl rfl (l' := #[vr a, vi q, vr b, vu]) rfl) ?_
    refine gA X67 hx hby d5_150 rfl rfl rfl ?_
    refine Gz (XS.ifnonnullYes X67.here hx rfl (pc0 := 151) (pc' := 175) rfl (hb hby d5_151) rfl (by decide) (by decide)) ?_
    refine gA X67 hx hby d5_175 rfl rfl rfl ?_
    refine gN X67 hx hby d5_176 rfl rfl ?_
    refine Gz (XS.sipush X67.here hx rfl (hb hby d5_177)) ?_
    show Goes _ _ _ _ _ (fT T67 m 180 #[vr a, vi q, vr b, vu] [(.int 255), (.int q), (.ref b)])
    refine Gz (XS.iand X67.here hx rfl (hb hby d5_180) rfl) ?_
    show Goes _ _ _ _ _ (fT T67 m 181 #[vr a, vi q, vr b, vu] [(.int (q &&& 255)), (.ref b)])
    refine gA X67 hx hby d5_181 rfl rfl rfl ?_
    obtain ⟨T69, X69, e69, st69⟩ := getF X67 hx hZ hown (host := "") (Or.inl (gw hw 40 rfl)) Via.refl e67 F_size_a (g := (mkF m 182 #[vr a, vi q, vr b, vu] [(.ref a), (.int (q &&& 255)), (.ref b)])) rfl rfl (hb hby d5_182)
    refine Gs st69 ?_
    show Goes _ _ _ _ _ (fT T69 m 185 #[vr a, vi q, vr b, vu] [(.int (sz + 1)), (.int (q &&& 255)), (.ref b)])
    obtain ⟨cl70, Ar70, q70, S70, N70z, H70, G70⟩ := V_b
    have hin70 : ¬ ((q &&& 255) < 0 ∨ cl70.slots.size ≤ ((q &&& 255)).toNatClampNeg) := inb_of S70 ⟨hb6, hb7⟩
    obtain ⟨T70, h70, X70, e70, W70, st70⟩ := stI X69 hx hZ e69 Ar70 (j := (q &&& 255)) hin70 (g := (mkF m 185 #[vr a, vi q, vr b, vu] [(.int (sz + 1)), (.int (q &&& 255)), (.ref b)])) rfl rfl (hb hby d5_185)
    have Vn70 := Arv.set Ar70 q70 S70 N70z H70 G70 rfl W70 (q &&& 255).toNatClampNeg rfl (by rw [own_blL]; exact hb5)
    have N70 := Fr.snoc X70 N67 g_b
    replace A_a := A_a.wr W70
    replace F_basic_a := F_basic_a.other W70 (Or.inl ne_a_b)
    replace F_codePoints_a := F_codePoints_a.other W70 (Or.inl ne_a_b)
    replace F_size_a := F_size_a.other W70 (Or.inl ne_a_b)
    replace F_supplementary_a := F_supplementary_a.other W70 (Or.inl ne_a_b)
    replace V_B := V_B.other W70 ne_B_b
    replace V_P := V_P.other W70 ne_P_b
    replace V_S := V_S.other W70 ne_S_b
    replace KP := KP.wr W70 (Or.inl (List.mem_of_getElem? (i := 2) rfl))
    have V_b : Arv Z h70 b _ .int 256 ((own_bl F (65536 + 256 * (own_bi q).toNatClampNeg) 256).set (q &&& 255).toNatClampNeg (.int (sz + 1))) (.int 0) := Vn70
    replace Z0 : n0 ≤ h70.size := by rw [W70.size]; exact Z0
    refine Gs st70 ?_
    show Goes _ _ _ _ _ (fT T70 m 186 #[vr a, vi q, vr b, vu] [])
    rw [own_blS hb5, ← hb4] at V_b
    refine gA X70 hx hby d5_186 rfl rfl rfl ?_
    obtain ⟨T71, X71, e71, st71⟩ := getF X70 hx hZ hown (host := "") (Or.inl (gw hw 40 rfl)) Via.refl e70 F_size_a (g := (mkF m 187 #[vr a, vi q, vr b, vu] [(.ref a)])) rfl rfl (hb hby d5_187)
    refine Gs st71 ?_
    show Goes _ _ _ _ _ (fT T71 m 190 #[vr a, vi q, vr b, vu] [(.int (sz + 1))])
    refine Goes.ret X71 (some (.int (sz + 1))) (fun h => by rw [hret] at h; cases h) hlk (by decide) (by decide) ?_ (fun fs hr => ?_)
    ·rw [e71]; exact ⟨rfl, N70, (own_KB KP (by intro x hx; simp only [List.mem_cons, List.not_mem_nil, or_false] at hx; rcases hx with rfl | rfl | rfl <;> first | exact Nat.le_refl _ | exact Nat.le_of_lt (by assumption))), own_addS A_a F_basic_a F_codePoints_a F_size_a F_supplementary_a V_B V_P (by rw [List.length_set]; exact hpl) aB aP ne_B_P hF hnb hn0 (own_hi hq0 hc) aS nS O V_S (own_blkUp hb1 BK KP ab nB (fun j hj hne e => hne (BK.2.2 j _ b hj hb1 e hv)) (by intro x hx; simp only [List.mem_cons, List.not_mem_nil, or_false] at hx ⊢; rcases hx with rfl | rfl | rfl <;> simp) BK.1 (fun _ _ => rfl) hv V_b (own_off hb4 hb5 (sz + 1) F))⟩
    ·exact retI X71 hx hret (hb hby d5_190) hr
theorem d6_0 : DK kc2 0 (.aload_n 0) 1 := by decide +kernel
theorem d6_1 : DK kc2 1 (.invokespecial 5) 3 := by decide +kernel
theorem d6_4 : DK kc2 4 (.aload_n 0) 1 := by decide +kernel
theorem d6_5 : DK kc2 5 (.iconst 0) 1 := by decide +kernel
theorem d6_6 : DK kc2 6 (.newarray .int) 2 := by decide +kernel
theorem d6_8 : DK kc2 8 (.putfield 11) 3 := by decide +kernel
theorem d6_11 : DK kc2 11 (.aload_n 0) 1 := by decide +kernel
theorem d6_12 : DK kc2 12 (.iconst 1) 1 := by decide +kernel
theorem d6_13 : DK kc2 13 (.newarray .int) 2 := by decide +kernel
theorem d6_15 : DK kc2 15 .dup 1 := by decide +kernel
theorem d6_16 : DK kc2 16 (.iconst 0) 1 := by decide +kernel
theorem d6_17 : DK kc2 17 (.iconst (-1)) 1 := by decide +kernel
theorem d6_18 : DK kc2 18 .iastore 1 := by decide +kernel
theorem d6_19 : DK kc2 19 (.putfield 15) 3 := by decide +kernel
theorem d6_22 : DK kc2 22 (.iconst (-1)) 1 := by decide +kernel
theorem d6_23 : DK kc2 23 (.istore_n 2) 1 := by decide +kernel
theorem d6_24 : DK kc2 24 (.aload_n 1) 1 := by decide +kernel
theorem d6_25 : DK kc2 25 (.astore_n 3) 1 := by decide +kernel
theorem d6_26 : DK kc2 26 (.aload_n 3) 1 := by decide +kernel
theorem d6_27 : DK kc2 27 .arraylength 1 := by decide +kernel
theorem d6_28 : DK kc2 28 (.istore 4) 2 := by decide +kernel
theorem d6_30 : DK kc2 30 (.iconst 0) 1 := by decide +kernel
theorem d6_31 : DK kc2 31 (.istore 5) 2 := by decide +kernel
theorem d6_33 : DK kc2 33 (.iload 5) 2 := by decide +kernel
theorem d6_35 : DK kc2 35 (.iload 4) 2 := by decide +kernel
theorem d6_37 : DK kc2 37 (.if_icmp .ge 56) 3 := by decide +kernel
theorem d6_93 : DK kc2 93 (.aload_n 0) 1 := by decide +kernel
theorem d6_94 : DK kc2 94 (.iload_n 2) 1 := by decide +kernel
theorem d6_95 : DK kc2 95 (.iconst 1) 1 := by decide +kernel
theorem d6_96 : DK kc2 96 .iadd 1 := by decide +kernel
theorem d6_97 : DK kc2 97 (.newarray .int) 2 := by decide +kernel
theorem d6_99 : DK kc2 99 (.putfield 11) 3 := by decide +kernel
theorem d6_102 : DK kc2 102 (.aload_n 0) 1 := by decide +kernel
theorem d6_103 : DK kc2 103 (.getfield 11) 3 := by decide +kernel
theorem d6_106 : DK kc2 106 (.iconst (-1)) 1 := by decide +kernel
theorem d6_107 : DK kc2 107 (.invokestatic 35) 3 := by decide +kernel
theorem d6_110 : DK kc2 110 (.aload_n 0) 1 := by decide +kernel
theorem d6_111 : DK kc2 111 (.aload_n 1) 1 := by decide +kernel
theorem d6_112 : DK kc2 112 .arraylength 1 := by decide +kernel
theorem d6_113 : DK kc2 113 (.iconst 1) 1 := by decide +kernel
theorem d6_114 : DK kc2 114 .iadd 1 := by decide +kernel
theorem d6_115 : DK kc2 115 (.newarray .int) 2 := by decide +kernel
theorem d6_117 : DK kc2 117 (.putfield 15) 3 := by decide +kernel
theorem d6_120 : DK kc2 120 (.aload_n 0) 1 := by decide +kernel
theorem d6_121 : DK kc2 121 (.getfield 15) 3 := by decide +kernel
theorem d6_124 : DK kc2 124 (.iconst 0) 1 := by decide +kernel
theorem d6_125 : DK kc2 125 (.iconst (-1)) 1 := by decide +kernel
theorem d6_126 : DK kc2 126 .iastore 1 := by decide +kernel
theorem d6_127 : DK kc2 127 (.aload_n 1) 1 := by decide +kernel
theorem d6_128 : DK kc2 128 (.astore_n 3) 1 := by decide +kernel
theorem d6_129 : DK kc2 129 (.aload_n 3) 1 := by decide +kernel
theorem d6_130 : DK kc2 130 .arraylength 1 := by decide +kernel
theorem d6_131 : DK kc2 131 (.istore 4) 2 := by decide +kernel
theorem d6_133 : DK kc2 133 (.iconst 0) 1 := by decide +kernel
theorem d6_134 : DK kc2 134 (.istore 5) 2 := by decide +kernel
theorem d6_136 : DK kc2 136 (.iload 5) 2 := by decide +kernel
theorem d6_138 : DK kc2 138 (.iload 4) 2 := by decide +kernel
theorem d6_140 : DK kc2 140 (.if_icmp .ge 47) 3 := by decide +kernel
theorem d6_187 : DK kc2 187 .return_ 1 := by decide +kernel
theorem own_ef_rm_init0 (m : MethodId) (x0 : Addr) (x1 : Addr) : entryFrame m #[(.ref x0), (.ref x1)] 7 = mkF m 0 #[vr x0, vr x1, vu, vu, vu, vu, vu] [] := by first | (simp [entryFrame, mkF, argsToLocals, Value.category]; done) | rfl
def Q_rm_init0 (Z : State) (a : Addr) (y : Addr) (ky : ClassId) (h0 : Heap) (n0 : Nat) (v : Option Value) (h : Heap) (L : List Loc) : Prop := v = none ∧ Fr n0 L ∧ AlOf Z h a (fun _ => (-1 : Int32)) ((-1 : Int32) + (1 : Int32)) (0 : Int32) (1 : Int32) ∧ n0 ≤ h.size
theorem rm_init0 (l : Launch) (Z : State) (a0 : Array Value) (hw : HW a0 Z) (ws : List Jvm.Cond) (a : Addr) (y : Addr) (ky : ClassId) (h0 : Heap) (n0 : Nat) (Z0 : n0 ≤ h0.size) (A_a : Exa Z h0 a "com/example/tandemtrie/tandemtrie/array/Alphabet") (F_basic_a : Fld Z h0 a "com/example/tandemtrie/tandemtrie/array/Alphabet" "basic" "[I" .null) (F_codePoints_a : Fld Z h0 a "com/example/tandemtrie/tandemtrie/array/Alphabet" "codePoints" "[I" .null) (F_size_a : Fld Z h0 a "com/example/tandemtrie/tandemtrie/array/Alphabet" "size" "I" (.int 0)) (F_supplementary_a : Fld Z h0 a "com/example/tandemtrie/tandemtrie/array/Alphabet" "supplementary" "[[I" .null) (V_y : Arv Z h0 y ky .int 0 [] (.int 0)) (ly : y < a) (g_a : n0 ≤ a) :
  Met l Z mN6 prog_6_method_1_code 7 none ({ frames := 1, cells := 4, slots := 2, locals := 15 } : Room) ws #[(.ref a), (.ref y)] h0 (Q_rm_init0 Z a y ky h0 n0) := by
 refine own_met (plainFor_of_name own_pn1) ?_
 intro p e s m below meth c s₁ hret hx hby hlk hml hown hnm X0 e0 hZ hh
 have N0 := Fr.nil n0
 refine Gz (castTop (own_ef_rm_init0 m a y)) ?_
 show Goes _ _ _ _ _ (fT s₁ m 0 #[vr a, vr y, vu, vu, vu, vu, vu] [])
 have ne_y_a : y ≠ a := Nat.ne_of_lt ly
 have hb0 := own_m1
 refine gA X0 hx hby d6_0 rfl rfl rfl ?_
 obtain ⟨T1, X1, e1, st1⟩ := initO X0 hx hZ hown (gw hw 13 rfl) (gw hw 14 rfl) (gw hw 15 rfl) e0 (g := (mkF m 1 #[vr a, vr y, vu, vu, vu, vu, vu] [(.ref a)])) rfl hml.symm rfl (hb hby d6_1) (by decide) (W := 0) (wz rfl) (by decide)
 refine Gs st1 ?_
 show Goes _ _ _ _ _ (fT T1 m 4 #[vr a, vr y, vu, vu, vu, vu, vu] [])
 refine gA X1 hx hby d6_4 rfl rfl rfl ?_
 refine gC X1 hx hby d6_5 ?_
 obtain ⟨T2, h2, k2, X2, e2, E2, A2, st2⟩ := newP X1 hx hZ (gw hw 6 rfl) e1 (g := (mkF m 6 #[vr a, vr y, vu, vu, vu, vu, vu] [(.int 0), (.ref a)])) rfl (hb hby d6_6) rfl (by decide) (cap := 0) (by decide) (by decide) (by decide) (by decide)
 obtain ⟨b2, gq2⟩ : ∃ z, z = h0.size := ⟨_, rfl⟩
 rw [← gq2] at A2 st2
 replace A_a := A_a.ext E2
 replace F_basic_a := F_basic_a.ext E2
 replace F_codePoints_a := F_codePoints_a.ext E2
 replace F_size_a := F_size_a.ext E2
 replace F_supplementary_a := F_supplementary_a.ext E2
 replace V_y := V_y.ext E2
 replace Z0 : n0 ≤ h2.size := Nat.le_trans Z0 E2.1
 refine Gs st2 ?_
 show Goes _ _ _ _ _ (fT T2 m 8 #[vr a, vr y, vu, vu, vu, vu, vu] [(.ref b2), (.ref a)])
 obtain ⟨T3, h3, X3, e3, W3, st3⟩ := putF X2 hx hZ hown (host := "") (Or.inl (gw hw 16 rfl)) Via.refl e2 F_basic_a A_a (Or.inl (gw hw 17 rfl)) (gw hw 8 rfl) (ty := (.array .int)) (by decide) rfl rfl (g := (mkF m 8 #[vr a, vr y, vu, vu, vu, vu, vu] [(.ref b2), (.ref a)])) rfl rfl (hb hby d6_8)
 have N3 := Fr.snoc X3 N0 g_a
 replace A_a := A_a.wr W3
 replace F_codePoints_a := F_codePoints_a.other W3 (Or.inr (slot_ne (Or.inl (gw hw 19 rfl)) (Or.inl (gw hw 17 rfl)) (by decide) (t := (.array .int)) (t' := (.array .int)) (by decide) (by decide)))
 replace F_size_a := F_size_a.other W3 (Or.inr (slot_ne (Or.inl (gw hw 41 rfl)) (Or.inl (gw hw 17 rfl)) (by decide) (t := .int) (t' := (.array .int)) (by decide) (by decide)))
 replace F_supplementary_a := F_supplementary_a.other W3 (Or.inr (slot_ne (Or.inl (gw hw 44 rfl)) (Or.inl (gw hw 17 rfl)) (by decide) (t := (.array (.array .int))) (t' := (.array .int)) (by decide) (by decide)))
 replace V_y := V_y.other W3 ne_y_a
 replace F_basic_a := F_basic_a.same W3
 replace Z0 : n0 ≤ h3.size := by rw [W3.size]; exact Z0
 refine Gs st3 ?_
 show Goes _ _ _ _ _ (fT T3 m 11 #[vr a, vr y, vu, vu, vu, vu, vu] [])
 refine gA X3 hx hby d6_11 rfl rfl rfl ?_
 refine gC X3 hx hby d6_12 ?_
 obtain ⟨T4, h4, k4, X4, e4, E4, A4, st4⟩ := newP X3 hx hZ (gw hw 6 rfl) e3 (g := (mkF m 13 #[vr a, vr y, vu, vu, vu, vu, vu] [(.int 1), (.ref a)])) rfl (hb hby d6_13) rfl (by decide) (cap := 1) (by decide) (by decide) (by decide) (by decide)
 obtain ⟨b4, gq4⟩ : ∃ z, z = h3.size := ⟨_, rfl⟩
 rw [← gq4] at A4 st4
 have g_b4 : n0 ≤ b4 := by rw [gq4]; exact Z0
 have ne_a_b4 : a ≠ b4 := by rw [gq4]; exact Nat.ne_of_lt A_a.lt
 have ne_y_b4 : y ≠ b4 := by rw [gq4]; exact Nat.ne_of_lt V_y.lt
 replace A_a := A_a.ext E4
 replace F_basic_a := F_basic_a.ext E4
 replace F_codePoints_a := F_codePoints_a.ext E4
 replace F_size_a := F_size_a.ext E4
 replace F_supplementary_a := F_supplementary_a.ext E4
 replace V_y := V_y.ext E4
 replace Z0 : n0 ≤ h4.size := Nat.le_trans Z0 E4.1
 have V_b4 : Arv Z h4 b4 k4 .int 1 [(.int 0)] (.int 0) := (Arv.new A4 (by decide)).pad (pad_rep [] (.int 0) 1)
 refine Gs st4 ?_
 show Goes _ _ _ _ _ (fT T4 m 15 #[vr a, vr y, vu, vu, vu, vu, vu] [(.ref b4), (.ref a)])
 refine Gz (XS.dup X4.here hx rfl (hb hby d6_15) rfl rfl) ?_
 refine gC X4 hx hby d6_16 ?_
 refine gC X4 hx hby d6_17 ?_
 obtain ⟨cl5, Ar5, q5, S5, N5z, H5, G5⟩ := V_b4
 have hin5 : ¬ ((0 : Int32) < 0 ∨ cl5.slots.size ≤ ((0 : Int32)).toNatClampNeg) := inb_of S5 ⟨by decide, by decide⟩
 obtain ⟨T5, h5, X5, e5, W5, st5⟩ := stI X4 hx hZ e4 Ar5 (j := (0 : Int32)) hin5 (g := (mkF m 18 #[vr a, vr y, vu, vu, vu, vu, vu] [(.int (-1 : Int32)), (.int 0), (.ref b4), (.ref b4), (.ref a)])) rfl rfl (hb hby d6_18)
 have Vn5 := Arv.set Ar5 q5 S5 N5z H5 G5 rfl W5 0 rfl (Nat.le_of_ble_eq_true rfl)
 have N5 := Fr.snoc X5 N3 g_b4
 replace A_a := A_a.wr W5
 replace F_basic_a := F_basic_a.other W5 (Or.inl ne_a_b4)
 replace F_codePoints_a := F_codePoints_a.other W5 (Or.inl ne_a_b4)
 replace F_size_a := F_size_a.other W5 (Or.inl ne_a_b4)
 replace F_supplementary_a := F_supplementary_a.other W5 (Or.inl ne_a_b4)
 replace V_y := V_y.other W5 ne_y_b4
 replace Z0 : n0 ≤ h5.size := by rw [W5.size]; exact Z0
 refine Gs st5 ?_
 show Goes _ _ _ _ _ (fT T5 m 19 #[vr a, vr y, vu, vu, vu, vu, vu] [(.ref b4), (.ref a)])
 obtain ⟨T6, h6, X6, e6, W6, st6⟩ := putF X5 hx hZ hown (host := "") (Or.inl (gw hw 18 rfl)) Via.refl e5 F_codePoints_a A_a (Or.inl (gw hw 19 rfl)) (gw hw 8 rfl) (ty := (.array .int)) (by decide) rfl rfl (g := (mkF m 19 #[vr a, vr y, vu, vu, vu, vu, vu] [(.ref b4), (.ref a)])) rfl rfl (hb hby d6_19)
 have N6 := Fr.snoc X6 N5 g_a
 replace A_a := A_a.wr W6
 replace F_basic_a := F_basic_a.other W6 (Or.inr (slot_ne (Or.inl (gw hw 17 rfl)) (Or.inl (gw hw 19 rfl)) (by decide) (t := (.array .int)) (t' := (.array .int)) (by decide) (by decide)))
 replace F_size_a := F_size_a.other W6 (Or.inr (slot_ne (Or.inl (gw hw 41 rfl)) (Or.inl (gw hw 19 rfl)) (by decide) (t := .int) (t' := (.array .int)) (by decide) (by decide)))
 replace F_supplementary_a := F_supplementary_a.other W6 (Or.inr (slot_ne (Or.inl (gw hw 44 rfl)) (Or.inl (gw hw 19 rfl)) (by decide) (t := (.array (.array .int))) (t' := (.array .int)) (by decide) (by decide)))
 replace V_y := V_y.other W6 ne_y_a
 replace F_codePoints_a := F_codePoints_a.same W6
 replace Z0 : n0 ≤ h6.size := by rw [W6.size]; exact Z0
 refine Gs st6 ?_
 show Goes _ _ _ _ _ (fT T6 m 22 #[vr a, vr y, vu, vu, vu, vu, vu] [])
 refine gC X6 hx hby d6_22 ?_
 refine gs X6 hx hby d6_23 #[vr a, vr y, vi (-1 : Int32), vu, vu, vu, vu] ?_
 refine gA X6 hx hby d6_24 rfl rfl rfl ?_
 refine Gz (XS.astoreN X6.here hx rfl (hb hby d6_25) rfl rfl (l' := #[vr a, vr y, vi (-1 : Int32), vr y, vu, vu, vu]) rfl) ?_
 refine gA X6 hx hby d6_26 rfl rfl rfl ?_
 obtain ⟨cl7, Ar7, -, S7, N7z, -, -⟩ := id V_y
 refine Gs (fun _ tk => X6.arraylength hx (by rw [e6]; exact Ar7.1) (State.isArrayOf_alike hZ.alike Ar7.2.1) (g := (mkF m 27 #[vr a, vr y, vi (-1 : Int32), vr y, vu, vu, vu] [(.ref y)])) rfl rfl (hb hby d6_27) _ tk) ?_
 rw [len_of S7 N7z]
 show Goes _ _ _ _ _ (fT T6 m 28 #[vr a, vr y, vi (-1 : Int32), vr y, vu, vu, vu] [(.int 0)])
 refine gS X6 hx hby d6_28 #[vr a, vr y, vi (-1 : Int32), vr y, vi 0, vu, vu] ?_
 refine gC X6 hx hby d6_30 ?_
 refine gS X6 hx hby d6_31 #[vr a, vr y, vi (-1 : Int32), vr y, vi 0, vi 0, vu] ?_
 show Goes _ _ _ _ _ (fT T6 m 33 #[vr a, vr y, vi (-1 : Int32), vr y, vi 0, vi 0, vu] [])
 refine gI X6 hx hby d6_33 rfl rfl ?_
 refine gI X6 hx hby d6_35 rfl rfl ?_
 refine gY X6 hx hby d6_37 37 93 (flt (by decide : ¬ ((0 : Int32) < (0 : Int32)))).2.1 ?_
 refine gA X6 hx hby d6_93 rfl rfl rfl ?_
 refine gN X6 hx hby d6_94 rfl rfl ?_
 refine gC X6 hx hby d6_95 ?_
 show Goes _ _ _ _ _ (fT T6 m 96 #[vr a, vr y, vi (-1 : Int32), vr y, vi 0, vi 0, vu] [(.int 1), (.int (-1 : Int32)), (.ref a)])
 refine Gz (XS.iadd X6.here hx rfl (hb hby d6_96) rfl) ?_
 show Goes _ _ _ _ _ (fT T6 m 97 #[vr a, vr y, vi (-1 : Int32), vr y, vi 0, vi 0, vu] [(.int 0), (.ref a)])
 obtain ⟨T8, h8, k8, X8, e8, E8, A8, st8⟩ := newP X6 hx hZ (gw hw 6 rfl) e6 (g := (mkF m 97 #[vr a, vr y, vi (-1 : Int32), vr y, vi 0, vi 0, vu] [(.int 0), (.ref a)])) rfl (hb hby d6_97) rfl (by decide) (cap := 0) (by decide) (by decide) (by decide) (by decide)
 obtain ⟨b8, gq8⟩ : ∃ z, z = h6.size := ⟨_, rfl⟩
 rw [← gq8] at A8 st8
 have g_b8 : n0 ≤ b8 := by rw [gq8]; exact Z0
 have ne_a_b8 : a ≠ b8 := by rw [gq8]; exact Nat.ne_of_lt A_a.lt
 have lt_a_b8 : a < b8 := by rw [gq8]; exact A_a.lt
 have ne_y_b8 : y ≠ b8 := by rw [gq8]; exact Nat.ne_of_lt V_y.lt
 replace A_a := A_a.ext E8
 replace F_basic_a := F_basic_a.ext E8
 replace F_codePoints_a := F_codePoints_a.ext E8
 replace F_size_a := F_size_a.ext E8
 replace F_supplementary_a := F_supplementary_a.ext E8
 replace V_y := V_y.ext E8
 replace Z0 : n0 ≤ h8.size := Nat.le_trans Z0 E8.1
 have V_b8 : Arv Z h8 b8 k8 .int 0 [] (.int 0) := Arv.new A8 (by decide)
 refine Gs st8 ?_
 show Goes _ _ _ _ _ (fT T8 m 99 #[vr a, vr y, vi (-1 : Int32), vr y, vi 0, vi 0, vu] [(.ref b8), (.ref a)])
 obtain ⟨T9, h9, X9, e9, W9, st9⟩ := putF X8 hx hZ hown (host := "") (Or.inl (gw hw 16 rfl)) Via.refl e8 F_basic_a A_a (Or.inl (gw hw 17 rfl)) (gw hw 8 rfl) (ty := (.array .int)) (by decide) rfl rfl (g := (mkF m 99 #[vr a, vr y, vi (-1 : Int32), vr y, vi 0, vi 0, vu] [(.ref b8), (.ref a)])) rfl rfl (hb hby d6_99)
 have N9 := Fr.snoc X9 N6 g_a
 replace A_a := A_a.wr W9
 replace F_codePoints_a := F_codePoints_a.other W9 (Or.inr (slot_ne (Or.inl (gw hw 19 rfl)) (Or.inl (gw hw 17 rfl)) (by decide) (t := (.array .int)) (t' := (.array .int)) (by decide) (by decide)))
 replace F_size_a := F_size_a.other W9 (Or.inr (slot_ne (Or.inl (gw hw 41 rfl)) (Or.inl (gw hw 17 rfl)) (by decide) (t := .int) (t' := (.array .int)) (by decide) (by decide)))
 replace F_supplementary_a := F_supplementary_a.other W9 (Or.inr (slot_ne (Or.inl (gw hw 44 rfl)) (Or.inl (gw hw 17 rfl)) (by decide) (t := (.array (.array .int))) (t' := (.array .int)) (by decide) (by decide)))
 replace V_y := V_y.other W9 ne_y_a
 replace V_b8 := V_b8.other W9 (Ne.symm ne_a_b8)
 replace F_basic_a := F_basic_a.same W9
 replace Z0 : n0 ≤ h9.size := by rw [W9.size]; exact Z0
 refine Gs st9 ?_
 show Goes _ _ _ _ _ (fT T9 m 102 #[vr a, vr y, vi (-1 : Int32), vr y, vi 0, vi 0, vu] [])
 refine gA X9 hx hby d6_102 rfl rfl rfl ?_
 obtain ⟨T10, X10, e10, st10⟩ := getF X9 hx hZ hown (host := "") (Or.inl (gw hw 16 rfl)) Via.refl e9 F_basic_a (g := (mkF m 103 #[vr a, vr y, vi (-1 : Int32), vr y, vi 0, vi 0, vu] [(.ref a)])) rfl rfl (hb hby d6_103)
 refine Gs st10 ?_
 show Goes _ _ _ _ _ (fT T10 m 106 #[vr a, vr y, vi (-1 : Int32), vr y, vi 0, vi 0, vu] [(.ref b8)])
 refine gC X10 hx hby d6_106 ?_
 refine cSg X10 hx hZ hw hown hby hml e10 mN3 26 27 29 28 0 (rm_fill l Z a0 hw [] b8 k8 ((-1 : Int32) + (1 : Int32)) (-1 : Int32) h9 n0 Z0 V_b8 g_b8) d6_107 (lenOf own_pd1 rfl) (fun _ T11 L11 X11 hQ11 => ?_)
 obtain ⟨rfl, N11q, K11, V_b8_11'⟩ := hQ11
 have N11 := Fr.app N9 N11q
 replace A_a := A_a.keep K11
 replace F_basic_a := F_basic_a.keep K11 (ninS ne_a_b8 nin0)
 replace F_codePoints_a := F_codePoints_a.keep K11 (ninS ne_a_b8 nin0)
 replace F_size_a := F_size_a.keep K11 (ninS ne_a_b8 nin0)
 replace F_supplementary_a := F_supplementary_a.keep K11 (ninS ne_a_b8 nin0)
 replace V_y := V_y.keep K11 (ninS ne_y_b8 nin0)
 replace Z0 := Nat.le_trans Z0 K11.1
 have V_b8 := V_b8_11'
 show Goes _ _ _ _ _ (fT T11 m 110 #[vr a, vr y, vi (-1 : Int32), vr y, vi 0, vi 0, vu] [])
 refine gA X11 hx hby d6_110 rfl rfl rfl ?_
 refine gA X11 hx hby d6_111 rfl rfl rfl ?_
 obtain ⟨cl12, Ar12, -, S12, N12z, -, -⟩ := id V_y
 refine Gs (fun _ tk => X11.arraylength hx Ar12.1 (State.isArrayOf_alike hZ.alike Ar12.2.1) (g := (mkF m 112 #[vr a, vr y, vi (-1 : Int32), vr y, vi 0, vi 0, vu] [(.ref y), (.ref a)])) rfl rfl (hb hby d6_112) _ tk) ?_
 rw [len_of S12 N12z]
 show Goes _ _ _ _ _ (fT T11 m 113 #[vr a, vr y, vi (-1 : Int32), vr y, vi 0, vi 0, vu] [(.int 0), (.ref a)])
 refine gC X11 hx hby d6_113 ?_
 show Goes _ _ _ _ _ (fT T11 m 114 #[vr a, vr y, vi (-1 : Int32), vr y, vi 0, vi 0, vu] [(.int 1), (.int 0), (.ref a)])
 refine Gz (XS.iadd X11.here hx rfl (hb hby d6_114) rfl) ?_
 show Goes _ _ _ _ _ (fT T11 m 115 #[vr a, vr y, vi (-1 : Int32), vr y, vi 0, vi 0, vu] [(.int 1), (.ref a)])
 obtain ⟨T13, h13, k13, X13, e13, E13, A13, st13⟩ := newP X11 hx hZ (gw hw 6 rfl) rfl (g := (mkF m 115 #[vr a, vr y, vi (-1 : Int32), vr y, vi 0, vi 0, vu] [(.int 1), (.ref a)])) rfl (hb hby d6_115) rfl (by decide) (cap := 1) (by decide) (by decide) (by decide) (by decide)
 obtain ⟨b13, gq13⟩ : ∃ z, z = T11.heap.size := ⟨_, rfl⟩
 rw [← gq13] at A13 st13
 have g_b13 : n0 ≤ b13 := by rw [gq13]; exact Z0
 have ne_a_b13 : a ≠ b13 := by rw [gq13]; exact Nat.ne_of_lt A_a.lt
 have lt_a_b13 : a < b13 := by rw [gq13]; exact A_a.lt
 have ne_y_b13 : y ≠ b13 := by rw [gq13]; exact Nat.ne_of_lt V_y.lt
 have ne_b8_b13 : b8 ≠ b13 := by rw [gq13]; exact Nat.ne_of_lt V_b8.lt
 replace A_a := A_a.ext E13
 replace F_basic_a := F_basic_a.ext E13
 replace F_codePoints_a := F_codePoints_a.ext E13
 replace F_size_a := F_size_a.ext E13
 replace F_supplementary_a := F_supplementary_a.ext E13
 replace V_y := V_y.ext E13
 replace V_b8 := V_b8.ext E13
 replace Z0 : n0 ≤ h13.size := Nat.le_trans Z0 E13.1
 have V_b13 : Arv Z h13 b13 k13 .int 1 [(.int 0)] (.int 0) := (Arv.new A13 (by decide)).pad (pad_rep [] (.int 0) 1)
 refine Gs st13 ?_
 show Goes _ _ _ _ _ (fT T13 m 117 #[vr a, vr y, vi (-1 : Int32), vr y, vi 0, vi 0, vu] [(.ref b13), (.ref a)])
 obtain ⟨T14, h14, X14, e14, W14, st14⟩ := putF X13 hx hZ hown (host := "") (Or.inl (gw hw 18 rfl)) Via.refl e13 F_codePoints_a A_a (Or.inl (gw hw 19 rfl)) (gw hw 8 rfl) (ty := (.array .int)) (by decide) rfl rfl (g := (mkF m 117 #[vr a, vr y, vi (-1 : Int32), vr y, vi 0, vi 0, vu] [(.ref b13), (.ref a)])) rfl rfl (hb hby d6_117)
 have N14 := Fr.snoc X14 N11 g_a
 replace A_a := A_a.wr W14
 replace F_basic_a := F_basic_a.other W14 (Or.inr (slot_ne (Or.inl (gw hw 17 rfl)) (Or.inl (gw hw 19 rfl)) (by decide) (t := (.array .int)) (t' := (.array .int)) (by decide) (by decide)))
 replace F_size_a := F_size_a.other W14 (Or.inr (slot_ne (Or.inl (gw hw 41 rfl)) (Or.inl (gw hw 19 rfl)) (by decide) (t := .int) (t' := (.array .int)) (by decide) (by decide)))
 replace F_supplementary_a := F_supplementary_a.other W14 (Or.inr (slot_ne (Or.inl (gw hw 44 rfl)) (Or.inl (gw hw 19 rfl)) (by decide) (t := (.array (.array .int))) (t' := (.array .int)) (by decide) (by decide)))
 replace V_y := V_y.other W14 ne_y_a
 replace V_b8 := V_b8.other W14 (Ne.symm ne_a_b8)
 replace V_b13 := V_b13.other W14 (Ne.symm ne_a_b13)
 replace F_codePoints_a := F_codePoints_a.same W14
 replace Z0 : n0 ≤ h14.size := by rw [W14.size]; exact Z0
 refine Gs st14 ?_
 show Goes _ _ _ _ _ (fT T14 m 120 #[vr a, vr y, vi (-1 : Int32), vr y, vi 0, vi 0, vu] [])
 refine gA X14 hx hby d6_120 rfl rfl rfl ?_
 obtain ⟨T15, X15, e15, st15⟩ := getF X14 hx hZ hown (host := "") (Or.inl (gw hw 18 rfl)) Via.refl e14 F_codePoints_a (g := (mkF m 121 #[vr a, vr y, vi (-1 : Int32), vr y, vi 0, vi 0, vu] [(.ref a)])) rfl rfl (hb hby d6_121)
 refine Gs st15 ?_
 show Goes _ _ _ _ _ (fT T15 m 124 #[vr a, vr y, vi (-1 : Int32), vr y, vi 0, vi 0, vu] [(.ref b13)])
 refine gC X15 hx hby d6_124 ?_
 refine gC X15 hx hby d6_125 ?_
 obtain ⟨cl16, Ar16, q16, S16, N16z, H16, G16⟩ := V_b13
 have hin16 : ¬ ((0 : Int32) < 0 ∨ cl16.slots.size ≤ ((0 : Int32)).toNatClampNeg) := inb_of S16 ⟨by decide, by decide⟩
 obtain ⟨T16, h16, X16, e16, W16, st16⟩ := stI X15 hx hZ e15 Ar16 (j := (0 : Int32)) hin16 (g := (mkF m 126 #[vr a, vr y, vi (-1 : Int32), vr y, vi 0, vi 0, vu] [(.int (-1 : Int32)), (.int 0), (.ref b13)])) rfl rfl (hb hby d6_126)
 have Vn16 := Arv.set Ar16 q16 S16 N16z H16 G16 rfl W16 0 rfl (Nat.le_of_ble_eq_true rfl)
 have N16 := Fr.snoc X16 N14 g_b13
 replace A_a := A_a.wr W16
 replace F_basic_a := F_basic_a.other W16 (Or.inl ne_a_b13)
 replace F_codePoints_a := F_codePoints_a.other W16 (Or.inl ne_a_b13)
 replace F_size_a := F_size_a.other W16 (Or.inl ne_a_b13)
 replace F_supplementary_a := F_supplementary_a.other W16 (Or.inl ne_a_b13)
 replace V_y := V_y.other W16 ne_y_b13
 replace V_b8 := V_b8.other W16 ne_b8_b13
 have V_b13 : Arv Z h16 b13 _ .int 1 [(.int (-1 : Int32))] (.int 0) := Vn16
 replace Z0 : n0 ≤ h16.size := by rw [W16.size]; exact Z0
 refine Gs st16 ?_
 show Goes _ _ _ _ _ (fT T16 m 127 #[vr a, vr y, vi (-1 : Int32), vr y, vi 0, vi 0, vu] [])
 refine gA X16 hx hby d6_127 rfl rfl rfl ?_
 refine Gz (XS.astoreN X16.here hx rfl (hb hby d6_128) rfl rfl (l' := #[vr a, vr y, vi (-1 : Int32), vr y, vi 0, vi 0, vu]) rfl) ?_
 refine gA X16 hx hby d6_129 rfl rfl rfl ?_
 obtain ⟨cl17, Ar17, -, S17, N17z, -, -⟩ := id V_y
 refine Gs (fun _ tk => X16.arraylength hx (by rw [e16]; exact Ar17.1) (State.isArrayOf_alike hZ.alike Ar17.2.1) (g := (mkF m 130 #[vr a, vr y, vi (-1 : Int32), vr y, vi 0, vi 0, vu] [(.ref y)])) rfl rfl (hb hby d6_130) _ tk) ?_
 rw [len_of S17 N17z]
 show Goes _ _ _ _ _ (fT T16 m 131 #[vr a, vr y, vi (-1 : Int32), vr y, vi 0, vi 0, vu] [(.int 0)])
 refine gS X16 hx hby d6_131 #[vr a, vr y, vi (-1 : Int32), vr y, vi 0, vi 0, vu] ?_
 refine gC X16 hx hby d6_133 ?_
 refine gS X16 hx hby d6_134 #[vr a, vr y, vi (-1 : Int32), vr y, vi 0, vi 0, vu] ?_
 show Goes _ _ _ _ _ (fT T16 m 136 #[vr a, vr y, vi (-1 : Int32), vr y, vi 0, vi 0, vu] [])
 have AL_a : AlOf Z h16 a (fun _ => (-1 : Int32)) ((-1 : Int32) + (1 : Int32)) (0 : Int32) (1 : Int32) := own_al0 A_a F_basic_a F_codePoints_a F_size_a F_supplementary_a V_b8 V_b13 rfl lt_a_b8 lt_a_b13 ne_b8_b13 (own_nb hb0).2 (own_nb hb0).1
 refine gI X16 hx hby d6_136 rfl rfl ?_
 refine gI X16 hx hby d6_138 rfl rfl ?_
 refine gY X16 hx hby d6_140 140 187 (flt (by decide : ¬ ((0 : Int32) < (0 : Int32)))).2.1 ?_
 refine Goes.ret X16 none (fun _ => rfl) hlk (by decide) (by decide) ?_ (fun fs hr => ?_)
 ·rw [e16]; exact ⟨rfl, N16, AL_a, Z0⟩
 ·exact X16.returnOut hx hret (hb hby d6_187) hr
theorem d6_40 : DK kc2 40 (.aload_n 3) 1 := by decide +kernel
theorem d6_41 : DK kc2 41 (.iload 5) 2 := by decide +kernel
theorem d6_43 : DK kc2 43 .iaload 1 := by decide +kernel
theorem d6_44 : DK kc2 44 (.istore 6) 2 := by decide +kernel
theorem d6_46 : DK kc2 46 (.iload 6) 2 := by decide +kernel
theorem d6_48 : DK kc2 48 (.ifCond .lt 10) 3 := by decide +kernel
theorem d6_51 : DK kc2 51 (.iload 6) 2 := by decide +kernel
theorem d6_53 : DK kc2 53 (.ldc 18) 2 := by decide +kernel
theorem d6_55 : DK kc2 55 (.if_icmp .le 18) 3 := by decide +kernel
theorem d6_73 : DK kc2 73 (.iload 6) 2 := by decide +kernel
theorem d6_75 : DK kc2 75 (.ldc 28) 2 := by decide +kernel
theorem d6_87 : DK kc2 87 (.iinc 5 1) 3 := by decide +kernel
theorem d6_90 : DK kc2 90 (.goto (-57)) 3 := by decide +kernel
theorem d6_143 : DK kc2 143 (.aload_n 3) 1 := by decide +kernel
theorem d6_144 : DK kc2 144 (.iload 5) 2 := by decide +kernel
theorem d6_146 : DK kc2 146 .iaload 1 := by decide +kernel
theorem d6_147 : DK kc2 147 (.istore 6) 2 := by decide +kernel
theorem d6_149 : DK kc2 149 (.aload_n 0) 1 := by decide +kernel
theorem d6_150 : DK kc2 150 (.iload 6) 2 := by decide +kernel
theorem d6_152 : DK kc2 152 (.invokevirtual 41) 3 := by decide +kernel
theorem d6_155 : DK kc2 155 (.iconst (-1)) 1 := by decide +kernel
theorem d6_156 : DK kc2 156 (.if_icmp .eq 18) 3 := by decide +kernel
theorem d6_174 : DK kc2 174 (.aload_n 0) 1 := by decide +kernel
theorem d6_175 : DK kc2 175 (.iload 6) 2 := by decide +kernel
theorem d6_177 : DK kc2 177 (.invokevirtual 46) 3 := by decide +kernel
theorem d6_180 : DK kc2 180 .pop 1 := by decide +kernel
theorem d6_181 : DK kc2 181 (.iinc 5 1) 3 := by decide +kernel
theorem d6_184 : DK kc2 184 (.goto (-48)) 3 := by decide +kernel
theorem d6_77 : DK kc2 77 (.if_icmp .ge 10) 3 := by decide +kernel
theorem d6_80 : DK kc2 80 (.iload_n 2) 1 := by decide +kernel
theorem d6_81 : DK kc2 81 (.iload 6) 2 := by decide +kernel
theorem d6_83 : DK kc2 83 (.invokestatic 29) 3 := by decide +kernel
theorem own_pd2 : parseMethodDescriptor "(II)I" = some ⟨[.int, .int], some .int⟩ := by decide +kernel
theorem d6_86 : DK kc2 86 (.istore_n 2) 1 := by decide +kernel
theorem own_ef_rm_init1 (m : MethodId) (x0 : Addr) (x1 : Addr) : entryFrame m #[(.ref x0), (.ref x1)] 7 = mkF m 0 #[vr x0, vr x1, vu, vu, vu, vu, vu] [] := by first | (simp [entryFrame, mkF, argsToLocals, Value.category]; done) | rfl
def Q_rm_init1 (Z : State) (a : Addr) (y : Addr) (ky : ClassId) (c0 : Int32) (h0 : Heap) (n0 : Nat) (v : Option Value) (h : Heap) (L : List Loc) : Prop := v = none ∧ Fr n0 L ∧ AlOf Z h a (own_up (fun _ => (-1 : Int32)) c0.toNatClampNeg (1 : Int32)) ((own_hb (-1 : Int32) c0) + 1) (1 : Int32) (2 : Int32) ∧ n0 ≤ h.size
theorem rm_init1 (l : Launch) (Z : State) (a0 : Array Value) (hw : HW a0 Z) (ws : List Jvm.Cond) (a : Addr) (y : Addr) (ky : ClassId) (c0 : Int32) (h0 : Heap) (n0 : Nat) (Z0 : n0 ≤ h0.size) (A_a : Exa Z h0 a "com/example/tandemtrie/tandemtrie/array/Alphabet") (F_basic_a : Fld Z h0 a "com/example/tandemtrie/tandemtrie/array/Alphabet" "basic" "[I" .null) (F_codePoints_a : Fld Z h0 a "com/example/tandemtrie/tandemtrie/array/Alphabet" "codePoints" "[I" .null) (F_size_a : Fld Z h0 a "com/example/tandemtrie/tandemtrie/array/Alphabet" "size" "I" (.int 0)) (F_supplementary_a : Fld Z h0 a "com/example/tandemtrie/tandemtrie/array/Alphabet" "supplementary" "[[I" .null) (V_y : Arv Z h0 y ky .int 1 [(.int c0)] (.int 0)) (ly : y < a) (g_a : n0 ≤ a) (r_c0 : 0 ≤ c0.toInt ∧ c0.toInt < 1114112) :
  Met l Z mN6 prog_6_method_1_code 7 none ({ frames := 2, cells := 6, slots := 69891, locals := 30 } : Room) ws #[(.ref a), (.ref y)] h0 (Q_rm_init1 Z a y ky c0 h0 n0) := by
 refine own_met (plainFor_of_name own_pn1) ?_
 intro p e s m below meth c s₁ hret hx hby hlk hml hown hnm X0 e0 hZ hh
 have N0 := Fr.nil n0
 refine Gz (castTop (own_ef_rm_init1 m a y)) ?_
 show Goes _ _ _ _ _ (fT s₁ m 0 #[vr a, vr y, vu, vu, vu, vu, vu] [])
 have ne_y_a : y ≠ a := Nat.ne_of_lt ly
 have hb0 := own_m1
 have hk0 := own_hbOk hb0 r_c0.1
 have hb1 := hk0.1
 refine gA X0 hx hby d6_0 rfl rfl rfl ?_
 obtain ⟨T1, X1, e1, st1⟩ := initO X0 hx hZ hown (gw hw 13 rfl) (gw hw 14 rfl) (gw hw 15 rfl) e0 (g := (mkF m 1 #[vr a, vr y, vu, vu, vu, vu, vu] [(.ref a)])) rfl hml.symm rfl (hb hby d6_1) (by decide) (W := 0) (wz rfl) (by decide)
 refine Gs st1 ?_
 show Goes _ _ _ _ _ (fT T1 m 4 #[vr a, vr y, vu, vu, vu, vu, vu] [])
 refine gA X1 hx hby d6_4 rfl rfl rfl ?_
 refine gC X1 hx hby d6_5 ?_
 obtain ⟨T2, h2, k2, X2, e2, E2, A2, st2⟩ := newP X1 hx hZ (gw hw 6 rfl) e1 (g := (mkF m 6 #[vr a, vr y, vu, vu, vu, vu, vu] [(.int 0), (.ref a)])) rfl (hb hby d6_6) rfl (by decide) (cap := 0) (by decide) (by decide) (by decide) (by decide)
 obtain ⟨b2, gq2⟩ : ∃ z, z = h0.size := ⟨_, rfl⟩
 rw [← gq2] at A2 st2
 replace A_a := A_a.ext E2
 replace F_basic_a := F_basic_a.ext E2
 replace F_codePoints_a := F_codePoints_a.ext E2
 replace F_size_a := F_size_a.ext E2
 replace F_supplementary_a := F_supplementary_a.ext E2
 replace V_y := V_y.ext E2
 replace Z0 : n0 ≤ h2.size := Nat.le_trans Z0 E2.1
 refine Gs st2 ?_
 show Goes _ _ _ _ _ (fT T2 m 8 #[vr a, vr y, vu, vu, vu, vu, vu] [(.ref b2), (.ref a)])
 obtain ⟨T3, h3, X3, e3, W3, st3⟩ := putF X2 hx hZ hown (host := "") (Or.inl (gw hw 16 rfl)) Via.refl e2 F_basic_a A_a (Or.inl (gw hw 17 rfl)) (gw hw 8 rfl) (ty := (.array .int)) (by decide) rfl rfl (g := (mkF m 8 #[vr a, vr y, vu, vu, vu, vu, vu] [(.ref b2), (.ref a)])) rfl rfl (hb hby d6_8)
 have N3 := Fr.snoc X3 N0 g_a
 replace A_a := A_a.wr W3
 replace F_codePoints_a := F_codePoints_a.other W3 (Or.inr (slot_ne (Or.inl (gw hw 19 rfl)) (Or.inl (gw hw 17 rfl)) (by decide) (t := (.array .int)) (t' := (.array .int)) (by decide) (by decide)))
 replace F_size_a := F_size_a.other W3 (Or.inr (slot_ne (Or.inl (gw hw 41 rfl)) (Or.inl (gw hw 17 rfl)) (by decide) (t := .int) (t' := (.array .int)) (by decide) (by decide)))
 replace F_supplementary_a := F_supplementary_a.other W3 (Or.inr (slot_ne (Or.inl (gw hw 44 rfl)) (Or.inl (gw hw 17 rfl)) (by decide) (t := (.array (.array .int))) (t' := (.array .int)) (by decide) (by decide)))
 replace V_y := V_y.other W3 ne_y_a
 replace F_basic_a := F_basic_a.same W3
 replace Z0 : n0 ≤ h3.size := by rw [W3.size]; exact Z0
 refine Gs st3 ?_
 show Goes _ _ _ _ _ (fT T3 m 11 #[vr a, vr y, vu, vu, vu, vu, vu] [])
 refine gA X3 hx hby d6_11 rfl rfl rfl ?_
 refine gC X3 hx hby d6_12 ?_
 obtain ⟨T4, h4, k4, X4, e4, E4, A4, st4⟩ := newP X3 hx hZ (gw hw 6 rfl) e3 (g := (mkF m 13 #[vr a, vr y, vu, vu, vu, vu, vu] [(.int 1), (.ref a)])) rfl (hb hby d6_13) rfl (by decide) (cap := 1) (by decide) (by decide) (by decide) (by decide)
 obtain ⟨b4, gq4⟩ : ∃ z, z = h3.size := ⟨_, rfl⟩
 rw [← gq4] at A4 st4
 have g_b4 : n0 ≤ b4 := by rw [gq4]; exact Z0
 have ne_a_b4 : a ≠ b4 := by rw [gq4]; exact Nat.ne_of_lt A_a.lt
 have ne_y_b4 : y ≠ b4 := by rw [gq4]; exact Nat.ne_of_lt V_y.lt
 replace A_a := A_a.ext E4
 replace F_basic_a := F_basic_a.ext E4
 replace F_codePoints_a := F_codePoints_a.ext E4
 replace F_size_a := F_size_a.ext E4
 replace F_supplementary_a := F_supplementary_a.ext E4
 replace V_y := V_y.ext E4
 replace Z0 : n0 ≤ h4.size := Nat.le_trans Z0 E4.1
 have V_b4 : Arv Z h4 b4 k4 .int 1 [(.int 0)] (.int 0) := (Arv.new A4 (by decide)).pad (pad_rep [] (.int 0) 1)
 refine Gs st4 ?_
 show Goes _ _ _ _ _ (fT T4 m 15 #[vr a, vr y, vu, vu, vu, vu, vu] [(.ref b4), (.ref a)])
 refine Gz (XS.dup X4.here hx rfl (hb hby d6_15) rfl rfl) ?_
 refine gC X4 hx hby d6_16 ?_
 refine gC X4 hx hby d6_17 ?_
 obtain ⟨cl5, Ar5, q5, S5, N5z, H5, G5⟩ := V_b4
 have hin5 : ¬ ((0 : Int32) < 0 ∨ cl5.slots.size ≤ ((0 : Int32)).toNatClampNeg) := inb_of S5 ⟨by decide, by decide⟩
 obtain ⟨T5, h5, X5, e5, W5, st5⟩ := stI X4 hx hZ e4 Ar5 (j := (0 : Int32)) hin5 (g := (mkF m 18 #[vr a, vr y, vu, vu, vu, vu, vu] [(.int (-1 : Int32)), (.int 0), (.ref b4), (.ref b4), (.ref a)])) rfl rfl (hb hby d6_18)
 have Vn5 := Arv.set Ar5 q5 S5 N5z H5 G5 rfl W5 0 rfl (Nat.le_of_ble_eq_true rfl)
 have N5 := Fr.snoc X5 N3 g_b4
 replace A_a := A_a.wr W5
 replace F_basic_a := F_basic_a.other W5 (Or.inl ne_a_b4)
 replace F_codePoints_a := F_codePoints_a.other W5 (Or.inl ne_a_b4)
 replace F_size_a := F_size_a.other W5 (Or.inl ne_a_b4)
 replace F_supplementary_a := F_supplementary_a.other W5 (Or.inl ne_a_b4)
 replace V_y := V_y.other W5 ne_y_b4
 replace Z0 : n0 ≤ h5.size := by rw [W5.size]; exact Z0
 refine Gs st5 ?_
 show Goes _ _ _ _ _ (fT T5 m 19 #[vr a, vr y, vu, vu, vu, vu, vu] [(.ref b4), (.ref a)])
 obtain ⟨T6, h6, X6, e6, W6, st6⟩ := putF X5 hx hZ hown (host := "") (Or.inl (gw hw 18 rfl)) Via.refl e5 F_codePoints_a A_a (Or.inl (gw hw 19 rfl)) (gw hw 8 rfl) (ty := (.array .int)) (by decide) rfl rfl (g := (mkF m 19 #[vr a, vr y, vu, vu, vu, vu, vu] [(.ref b4), (.ref a)])) rfl rfl (hb hby d6_19)
 have N6 := Fr.snoc X6 N5 g_a
 replace A_a := A_a.wr W6
 replace F_basic_a := F_basic_a.other W6 (Or.inr (slot_ne (Or.inl (gw hw 17 rfl)) (Or.inl (gw hw 19 rfl)) (by decide) (t := (.array .int)) (t' := (.array .int)) (by decide) (by decide)))
 replace F_size_a := F_size_a.other W6 (Or.inr (slot_ne (Or.inl (gw hw 41 rfl)) (Or.inl (gw hw 19 rfl)) (by decide) (t := .int) (t' := (.array .int)) (by decide) (by decide)))
 replace F_supplementary_a := F_supplementary_a.other W6 (Or.inr (slot_ne (Or.inl (gw hw 44 rfl)) (Or.inl (gw hw 19 rfl)) (by decide) (t := (.array (.array .int))) (t' := (.array .int)) (by decide) (by decide)))
 replace V_y := V_y.other W6 ne_y_a
 replace F_codePoints_a := F_codePoints_a.same W6
 replace Z0 : n0 ≤ h6.size := by rw [W6.size]; exact Z0
 refine Gs st6 ?_
 show Goes _ _ _ _ _ (fT T6 m 22 #[vr a, vr y, vu, vu, vu, vu, vu] [])
 refine gC X6 hx hby d6_22 ?_
 refine gs X6 hx hby d6_23 #[vr a, vr y, vi (-1 : Int32), vu, vu, vu, vu] ?_
 refine gA X6 hx hby d6_24 rfl rfl rfl ?_
 refine Gz (XS.astoreN X6.here hx rfl (hb hby d6_25) rfl rfl (l' := #[vr a, vr y, vi (-1 : Int32), vr y, vu, vu, vu]) rfl) ?_
 refine gA X6 hx hby d6_26 rfl rfl rfl ?_
 obtain ⟨cl7, Ar7, -, S7, N7z, -, -⟩ := id V_y
 refine Gs (fun _ tk => X6.arraylength hx (by rw [e6]; exact Ar7.1) (State.isArrayOf_alike hZ.alike Ar7.2.1) (g := (mkF m 27 #[vr a, vr y, vi (-1 : Int32), vr y, vu, vu, vu] [(.ref y)])) rfl rfl (hb hby d6_27) _ tk) ?_
 rw [len_of S7 N7z]
 show Goes _ _ _ _ _ (fT T6 m 28 #[vr a, vr y, vi (-1 : Int32), vr y, vu, vu, vu] [(.int 1)])
 refine gS X6 hx hby d6_28 #[vr a, vr y, vi (-1 : Int32), vr y, vi 1, vu, vu] ?_
 refine gC X6 hx hby d6_30 ?_
 refine gS X6 hx hby d6_31 #[vr a, vr y, vi (-1 : Int32), vr y, vi 1, vi 0, vu] ?_
 show Goes _ _ _ _ _ (fT T6 m 33 #[vr a, vr y, vi (-1 : Int32), vr y, vi 1, vi 0, vu] [])
 refine gI X6 hx hby d6_33 rfl rfl ?_
 refine gI X6 hx hby d6_35 rfl rfl ?_
 refine gU X6 hx hby d6_37 (tlt (by decide : ((0 : Int32) < (1 : Int32)))).2.1 ?_
 refine gA X6 hx hby d6_40 rfl rfl rfl ?_
 refine gI X6 hx hby d6_41 rfl rfl ?_
 obtain ⟨cl8, Ar8, -, S8, N8z, H8, -⟩ := id V_y
 have hin8 : ¬ ((0 : Int32) < 0 ∨ cl8.slots.size ≤ ((0 : Int32)).toNatClampNeg) := inb_of S8 ⟨by decide, by decide⟩
 have hat8 : cl8.slots[((0 : Int32)).toNatClampNeg]? = some (.int c0) := Has.at H8 hin8 rfl
 refine Gs (fun _ tk => X6.iaload hx (j := (0 : Int32)) (v := (.int c0)) (by rw [e6]; exact Ar8.1) (State.isArrayOf_alike hZ.alike Ar8.2.1) Ar8.2.2 hin8 hat8 (g := (mkF m 43 #[vr a, vr y, vi (-1 : Int32), vr y, vi 1, vi 0, vu] [(.int 0), (.ref y)])) rfl rfl (hb hby d6_43) _ tk) ?_
 show Goes _ _ _ _ _ (fT T6 m 44 #[vr a, vr y, vi (-1 : Int32), vr y, vi 1, vi 0, vu] [(.int c0)])
 refine gS X6 hx hby d6_44 #[vr a, vr y, vi (-1 : Int32), vr y, vi 1, vi 0, vi c0] ?_
 refine gI X6 hx hby d6_46 rfl rfl ?_
 refine gu X6 hx hby d6_48 ((if0 _ _).trans (flt (own_nn r_c0.1)).1) ?_
 refine gI X6 hx hby d6_51 rfl rfl ?_
 refine Gz (Jvm.Stand.ldcI X6 hx hown (gz hZ hw 20 rfl) rfl (hb hby d6_53)) ?_
 show Goes _ _ _ _ _ (fT T6 m 55 #[vr a, vr y, vi (-1 : Int32), vr y, vi 1, vi 0, vi c0] [(.int 1114111), (.int c0)])
 refine gY X6 hx hby d6_55 55 73 (flt (own_cpN r_c0.2)).2.2.2 ?_
 refine gI X6 hx hby d6_73 rfl rfl ?_
 refine Gz (Jvm.Stand.ldcI X6 hx hown (gz hZ hw 21 rfl) rfl (hb hby d6_75)) ?_
 show Goes _ _ _ _ _ (fT T6 m 77 #[vr a, vr y, vi (-1 : Int32), vr y, vi 1, vi 0, vi c0] [(.int 65536), (.int c0)])
 refine own_joinT X6 e6 N6 (B := fun T => T.setTop (mkF m 87 #[vr a, vr y, vi (own_hb (-1 : Int32) c0), vr y, vi 1, vi 0, vi c0] [])) ?_ ?_
 ·intro T9 L9 X9 e9 N9
  show Goes _ _ _ _ _ (fT T9 m 87 #[vr a, vr y, vi (own_hb (-1 : Int32) c0), vr y, vi 1, vi 0, vi c0] [])
  refine Gz (XS.iinc X9.here hx rfl (hb hby d6_87) rfl (l' := #[vr a, vr y, vi (own_hb (-1 : Int32) c0), vr y, vi 1, vi ((0 : Int32) + (1 : Int32)), vi c0]) rfl) ?_
  show Goes _ _ _ _ _ (fT T9 m 90 #[vr a, vr y, vi (own_hb (-1 : Int32) c0), vr y, vi 1, vi 1, vi c0] [])
  refine gG X9 hx hby d6_90 90 33 ?_
  refine gI X9 hx hby d6_33 rfl rfl ?_
  refine gI X9 hx hby d6_35 rfl rfl ?_
  refine gY X9 hx hby d6_37 37 93 (flt (by decide : ¬ ((1 : Int32) < (1 : Int32)))).2.1 ?_
  refine gA X9 hx hby d6_93 rfl rfl rfl ?_
  refine gN X9 hx hby d6_94 rfl rfl ?_
  show Goes _ _ _ _ _ (fT T9 m 95 #[vr a, vr y, vi (own_hb (-1 : Int32) c0), vr y, vi 1, vi 1, vi c0] [(.int (own_hb (-1 : Int32) c0)), (.ref a)])
  refine gC X9 hx hby d6_95 ?_
  show Goes _ _ _ _ _ (fT T9 m 96 #[vr a, vr y, vi (own_hb (-1 : Int32) c0), vr y, vi 1, vi 1, vi c0] [(.int 1), (.int (own_hb (-1 : Int32) c0)), (.ref a)])
  refine Gz (XS.iadd X9.here hx rfl (hb hby d6_96) rfl) ?_
  show Goes _ _ _ _ _ (fT T9 m 97 #[vr a, vr y, vi (own_hb (-1 : Int32) c0), vr y, vi 1, vi 1, vi c0] [(.int ((own_hb (-1 : Int32) c0) + 1)), (.ref a)])
  obtain ⟨T10, h10, k10, X10, e10, E10, A10, st10⟩ := newP X9 hx hZ (gw hw 6 rfl) e9 (g := (mkF m 97 #[vr a, vr y, vi (own_hb (-1 : Int32) c0), vr y, vi 1, vi 1, vi c0] [(.int ((own_hb (-1 : Int32) c0) + 1)), (.ref a)])) rfl (hb hby d6_97) rfl (own_nb hb1).1 (cap := 65536) (own_nb hb1).2 (by decide) (by decide) (by decide)
  obtain ⟨b10, gq10⟩ : ∃ z, z = h6.size := ⟨_, rfl⟩
  rw [← gq10] at A10 st10
  have g_b10 : n0 ≤ b10 := by rw [gq10]; exact Z0
  have ne_a_b10 : a ≠ b10 := by rw [gq10]; exact Nat.ne_of_lt A_a.lt
  have lt_a_b10 : a < b10 := by rw [gq10]; exact A_a.lt
  have ne_y_b10 : y ≠ b10 := by rw [gq10]; exact Nat.ne_of_lt V_y.lt
  replace A_a := A_a.ext E10
  replace F_basic_a := F_basic_a.ext E10
  replace F_codePoints_a := F_codePoints_a.ext E10
  replace F_size_a := F_size_a.ext E10
  replace F_supplementary_a := F_supplementary_a.ext E10
  replace V_y := V_y.ext E10
  replace Z0 : n0 ≤ h10.size := Nat.le_trans Z0 E10.1
  have V_b10 : Arv Z h10 b10 k10 .int ((own_hb (-1 : Int32) c0) + 1) [] (.int 0) := Arv.new A10 (own_nb hb1).1
  refine Gs st10 ?_
  show Goes _ _ _ _ _ (fT T10 m 99 #[vr a, vr y, vi (own_hb (-1 : Int32) c0), vr y, vi 1, vi 1, vi c0] [(.ref b10), (.ref a)])
  obtain ⟨T11, h11, X11, e11, W11, st11⟩ := putF X10 hx hZ hown (host := "") (Or.inl (gw hw 16 rfl)) Via.refl e10 F_basic_a A_a (Or.inl (gw hw 17 rfl)) (gw hw 8 rfl) (ty := (.array .int)) (by decide) rfl rfl (g := (mkF m 99 #[vr a, vr y, vi (own_hb (-1 : Int32) c0), vr y, vi 1, vi 1, vi c0] [(.ref b10), (.ref a)])) rfl rfl (hb hby d6_99)
  have N11 := Fr.snoc X11 N9 g_a
  replace A_a := A_a.wr W11
  replace F_codePoints_a := F_codePoints_a.other W11 (Or.inr (slot_ne (Or.inl (gw hw 19 rfl)) (Or.inl (gw hw 17 rfl)) (by decide) (t := (.array .int)) (t' := (.array .int)) (by decide) (by decide)))
  replace F_size_a := F_size_a.other W11 (Or.inr (slot_ne (Or.inl (gw hw 41 rfl)) (Or.inl (gw hw 17 rfl)) (by decide) (t := .int) (t' := (.array .int)) (by decide) (by decide)))
  replace F_supplementary_a := F_supplementary_a.other W11 (Or.inr (slot_ne (Or.inl (gw hw 44 rfl)) (Or.inl (gw hw 17 rfl)) (by decide) (t := (.array (.array .int))) (t' := (.array .int)) (by decide) (by decide)))
  replace V_y := V_y.other W11 ne_y_a
  replace V_b10 := V_b10.other W11 (Ne.symm ne_a_b10)
  replace F_basic_a := F_basic_a.same W11
  replace Z0 : n0 ≤ h11.size := by rw [W11.size]; exact Z0
  refine Gs st11 ?_
  show Goes _ _ _ _ _ (fT T11 m 102 #[vr a, vr y, vi (own_hb (-1 : Int32) c0), vr y, vi 1, vi 1, vi c0] [])
  refine gA X11 hx hby d6_102 rfl rfl rfl ?_
  obtain ⟨T12, X12, e12, st12⟩ := getF X11 hx hZ hown (host := "") (Or.inl (gw hw 16 rfl)) Via.refl e11 F_basic_a (g := (mkF m 103 #[vr a, vr y, vi (own_hb (-1 : Int32) c0), vr y, vi 1, vi 1, vi c0] [(.ref a)])) rfl rfl (hb hby d6_103)
  refine Gs st12 ?_
  show Goes _ _ _ _ _ (fT T12 m 106 #[vr a, vr y, vi (own_hb (-1 : Int32) c0), vr y, vi 1, vi 1, vi c0] [(.ref b10)])
  refine gC X12 hx hby d6_106 ?_
  refine cSg X12 hx hZ hw hown hby hml e12 mN3 26 27 29 28 0 (rm_fill l Z a0 hw [] b10 k10 ((own_hb (-1 : Int32) c0) + 1) (-1 : Int32) h11 n0 Z0 V_b10 g_b10) d6_107 (lenOf own_pd1 rfl) (fun _ T13 L13 X13 hQ13 => ?_)
  obtain ⟨rfl, N13q, K13, V_b10_13'⟩ := hQ13
  have N13 := Fr.app N11 N13q
  replace A_a := A_a.keep K13
  replace F_basic_a := F_basic_a.keep K13 (ninS ne_a_b10 nin0)
  replace F_codePoints_a := F_codePoints_a.keep K13 (ninS ne_a_b10 nin0)
  replace F_size_a := F_size_a.keep K13 (ninS ne_a_b10 nin0)
  replace F_supplementary_a := F_supplementary_a.keep K13 (ninS ne_a_b10 nin0)
  replace V_y := V_y.keep K13 (ninS ne_y_b10 nin0)
  replace Z0 := Nat.le_trans Z0 K13.1
  have V_b10 := V_b10_13'
  show Goes _ _ _ _ _ (fT T13 m 110 #[vr a, vr y, vi (own_hb (-1 : Int32) c0), vr y, vi 1, vi 1, vi c0] [])
  refine gA X13 hx hby d6_110 rfl rfl rfl ?_
  refine gA X13 hx hby d6_111 rfl rfl rfl ?_
  obtain ⟨cl14, Ar14, -, S14, N14z, -, -⟩ := id V_y
  refine Gs (fun _ tk => X13.arraylength hx Ar14.1 (State.isArrayOf_alike hZ.alike Ar14.2.1) (g := (mkF m 112 #[vr a, vr y, vi (own_hb (-1 : Int32) c0), vr y, vi 1, vi 1, vi c0] [(.ref y), (.ref a)])) rfl rfl (hb hby d6_112) _ tk) ?_
  rw [len_of S14 N14z]
  show Goes _ _ _ _ _ (fT T13 m 113 #[vr a, vr y, vi (own_hb (-1 : Int32) c0), vr y, vi 1, vi 1, vi c0] [(.int 1), (.ref a)])
  refine gC X13 hx hby d6_113 ?_
  show Goes _ _ _ _ _ (fT T13 m 114 #[vr a, vr y, vi (own_hb (-1 : Int32) c0), vr y, vi 1, vi 1, vi c0] [(.int 1), (.int 1), (.ref a)])
  refine Gz (XS.iadd X13.here hx rfl (hb hby d6_114) rfl) ?_
  show Goes _ _ _ _ _ (fT T13 m 115 #[vr a, vr y, vi (own_hb (-1 : Int32) c0), vr y, vi 1, vi 1, vi c0] [(.int 2), (.ref a)])
  obtain ⟨T15, h15, k15, X15, e15, E15, A15, st15⟩ := newP X13 hx hZ (gw hw 6 rfl) rfl (g := (mkF m 115 #[vr a, vr y, vi (own_hb (-1 : Int32) c0), vr y, vi 1, vi 1, vi c0] [(.int 2), (.ref a)])) rfl (hb hby d6_115) rfl (by decide) (cap := 2) (by decide) (by decide) (by decide) (by decide)
  obtain ⟨b15, gq15⟩ : ∃ z, z = T13.heap.size := ⟨_, rfl⟩
  rw [← gq15] at A15 st15
  have g_b15 : n0 ≤ b15 := by rw [gq15]; exact Z0
  have ne_a_b15 : a ≠ b15 := by rw [gq15]; exact Nat.ne_of_lt A_a.lt
  have lt_a_b15 : a < b15 := by rw [gq15]; exact A_a.lt
  have ne_y_b15 : y ≠ b15 := by rw [gq15]; exact Nat.ne_of_lt V_y.lt
  have ne_b10_b15 : b10 ≠ b15 := by rw [gq15]; exact Nat.ne_of_lt V_b10.lt
  replace A_a := A_a.ext E15
  replace F_basic_a := F_basic_a.ext E15
  replace F_codePoints_a := F_codePoints_a.ext E15
  replace F_size_a := F_size_a.ext E15
  replace F_supplementary_a := F_supplementary_a.ext E15
  replace V_y := V_y.ext E15
  replace V_b10 := V_b10.ext E15
  replace Z0 : n0 ≤ h15.size := Nat.le_trans Z0 E15.1
  have V_b15 : Arv Z h15 b15 k15 .int 2 [(.int 0), (.int 0)] (.int 0) := (Arv.new A15 (by decide)).pad (pad_rep [] (.int 0) 2)
  refine Gs st15 ?_
  show Goes _ _ _ _ _ (fT T15 m 117 #[vr a, vr y, vi (own_hb (-1 : Int32) c0), vr y, vi 1, vi 1, vi c0] [(.ref b15), (.ref a)])
  obtain ⟨T16, h16, X16, e16, W16, st16⟩ := putF X15 hx hZ hown (host := "") (Or.inl (gw hw 18 rfl)) Via.refl e15 F_codePoints_a A_a (Or.inl (gw hw 19 rfl)) (gw hw 8 rfl) (ty := (.array .int)) (by decide) rfl rfl (g := (mkF m 117 #[vr a, vr y, vi (own_hb (-1 : Int32) c0), vr y, vi 1, vi 1, vi c0] [(.ref b15), (.ref a)])) rfl rfl (hb hby d6_117)
  have N16 := Fr.snoc X16 N13 g_a
  replace A_a := A_a.wr W16
  replace F_basic_a := F_basic_a.other W16 (Or.inr (slot_ne (Or.inl (gw hw 17 rfl)) (Or.inl (gw hw 19 rfl)) (by decide) (t := (.array .int)) (t' := (.array .int)) (by decide) (by decide)))
  replace F_size_a := F_size_a.other W16 (Or.inr (slot_ne (Or.inl (gw hw 41 rfl)) (Or.inl (gw hw 19 rfl)) (by decide) (t := .int) (t' := (.array .int)) (by decide) (by decide)))
  replace F_supplementary_a := F_supplementary_a.other W16 (Or.inr (slot_ne (Or.inl (gw hw 44 rfl)) (Or.inl (gw hw 19 rfl)) (by decide) (t := (.array (.array .int))) (t' := (.array .int)) (by decide) (by decide)))
  replace V_y := V_y.other W16 ne_y_a
  replace V_b10 := V_b10.other W16 (Ne.symm ne_a_b10)
  replace V_b15 := V_b15.other W16 (Ne.symm ne_a_b15)
  replace F_codePoints_a := F_codePoints_a.same W16
  replace Z0 : n0 ≤ h16.size := by rw [W16.size]; exact Z0
  refine Gs st16 ?_
  show Goes _ _ _ _ _ (fT T16 m 120 #[vr a, vr y, vi (own_hb (-1 : Int32) c0), vr y, vi 1, vi 1, vi c0] [])
  refine gA X16 hx hby d6_120 rfl rfl rfl ?_
  obtain ⟨T17, X17, e17, st17⟩ := getF X16 hx hZ hown (host := "") (Or.inl (gw hw 18 rfl)) Via.refl e16 F_codePoints_a (g := (mkF m 121 #[vr a, vr y, vi (own_hb (-1 : Int32) c0), vr y, vi 1, vi 1, vi c0] [(.ref a)])) rfl rfl (hb hby d6_121)
  refine Gs st17 ?_
  show Goes _ _ _ _ _ (fT T17 m 124 #[vr a, vr y, vi (own_hb (-1 : Int32) c0), vr y, vi 1, vi 1, vi c0] [(.ref b15)])
  refine gC X17 hx hby d6_124 ?_
  refine gC X17 hx hby d6_125 ?_
  obtain ⟨cl18, Ar18, q18, S18, N18z, H18, G18⟩ := V_b15
  have hin18 : ¬ ((0 : Int32) < 0 ∨ cl18.slots.size ≤ ((0 : Int32)).toNatClampNeg) := inb_of S18 ⟨by decide, by decide⟩
  obtain ⟨T18, h18, X18, e18, W18, st18⟩ := stI X17 hx hZ e17 Ar18 (j := (0 : Int32)) hin18 (g := (mkF m 126 #[vr a, vr y, vi (own_hb (-1 : Int32) c0), vr y, vi 1, vi 1, vi c0] [(.int (-1 : Int32)), (.int 0), (.ref b15)])) rfl rfl (hb hby d6_126)
  have Vn18 := Arv.set Ar18 q18 S18 N18z H18 G18 rfl W18 0 rfl (Nat.le_of_ble_eq_true rfl)
  have N18 := Fr.snoc X18 N16 g_b15
  replace A_a := A_a.wr W18
  replace F_basic_a := F_basic_a.other W18 (Or.inl ne_a_b15)
  replace F_codePoints_a := F_codePoints_a.other W18 (Or.inl ne_a_b15)
  replace F_size_a := F_size_a.other W18 (Or.inl ne_a_b15)
  replace F_supplementary_a := F_supplementary_a.other W18 (Or.inl ne_a_b15)
  replace V_y := V_y.other W18 ne_y_b15
  replace V_b10 := V_b10.other W18 ne_b10_b15
  have V_b15 : Arv Z h18 b15 _ .int 2 [(.int (-1 : Int32)), (.int 0)] (.int 0) := Vn18
  replace Z0 : n0 ≤ h18.size := by rw [W18.size]; exact Z0
  refine Gs st18 ?_
  show Goes _ _ _ _ _ (fT T18 m 127 #[vr a, vr y, vi (own_hb (-1 : Int32) c0), vr y, vi 1, vi 1, vi c0] [])
  refine gA X18 hx hby d6_127 rfl rfl rfl ?_
  refine Gz (XS.astoreN X18.here hx rfl (hb hby d6_128) rfl rfl (l' := #[vr a, vr y, vi (own_hb (-1 : Int32) c0), vr y, vi 1, vi 1, vi c0]) rfl) ?_
  refine gA X18 hx hby d6_129 rfl rfl rfl ?_
  obtain ⟨cl19, Ar19, -, S19, N19z, -, -⟩ := id V_y
  refine Gs (fun _ tk => X18.arraylength hx (by rw [e18]; exact Ar19.1) (State.isArrayOf_alike hZ.alike Ar19.2.1) (g := (mkF m 130 #[vr a, vr y, vi (own_hb (-1 : Int32) c0), vr y, vi 1, vi 1, vi c0] [(.ref y)])) rfl rfl (hb hby d6_130) _ tk) ?_
  rw [len_of S19 N19z]
  show Goes _ _ _ _ _ (fT T18 m 131 #[vr a, vr y, vi (own_hb (-1 : Int32) c0), vr y, vi 1, vi 1, vi c0] [(.int 1)])
  refine gS X18 hx hby d6_131 #[vr a, vr y, vi (own_hb (-1 : Int32) c0), vr y, vi 1, vi 1, vi c0] ?_
  refine gC X18 hx hby d6_133 ?_
  refine gS X18 hx hby d6_134 #[vr a, vr y, vi (own_hb (-1 : Int32) c0), vr y, vi 1, vi 0, vi c0] ?_
  show Goes _ _ _ _ _ (fT T18 m 136 #[vr a, vr y, vi (own_hb (-1 : Int32) c0), vr y, vi 1, vi 0, vi c0] [])
  have AL_a : AlOf Z h18 a (fun _ => (-1 : Int32)) ((own_hb (-1 : Int32) c0) + 1) (0 : Int32) (2 : Int32) := own_al0 A_a F_basic_a F_codePoints_a F_size_a F_supplementary_a V_b10 V_b15 rfl lt_a_b10 lt_a_b15 ne_b10_b15 (own_nb hb1).2 (own_nb hb1).1
  refine gI X18 hx hby d6_136 rfl rfl ?_
  refine gI X18 hx hby d6_138 rfl rfl ?_
  refine gU X18 hx hby d6_140 (tlt (by decide : ((0 : Int32) < (1 : Int32)))).2.1 ?_
  refine gA X18 hx hby d6_143 rfl rfl rfl ?_
  refine gI X18 hx hby d6_144 rfl rfl ?_
  obtain ⟨cl20, Ar20, -, S20, N20z, H20, -⟩ := id V_y
  have hin20 : ¬ ((0 : Int32) < 0 ∨ cl20.slots.size ≤ ((0 : Int32)).toNatClampNeg) := inb_of S20 ⟨by decide, by decide⟩
  have hat20 : cl20.slots[((0 : Int32)).toNatClampNeg]? = some (.int c0) := Has.at H20 hin20 rfl
  refine Gs (fun _ tk => X18.iaload hx (j := (0 : Int32)) (v := (.int c0)) (by rw [e18]; exact Ar20.1) (State.isArrayOf_alike hZ.alike Ar20.2.1) Ar20.2.2 hin20 hat20 (g := (mkF m 146 #[vr a, vr y, vi (own_hb (-1 : Int32) c0), vr y, vi 1, vi 0, vi c0] [(.int 0), (.ref y)])) rfl rfl (hb hby d6_146) _ tk) ?_
  show Goes _ _ _ _ _ (fT T18 m 147 #[vr a, vr y, vi (own_hb (-1 : Int32) c0), vr y, vi 1, vi 0, vi c0] [(.int c0)])
  refine gS X18 hx hby d6_147 #[vr a, vr y, vi (own_hb (-1 : Int32) c0), vr y, vi 1, vi 0, vi c0] ?_
  refine gA X18 hx hby d6_149 rfl rfl rfl ?_
  refine gI X18 hx hby d6_150 rfl rfl ?_
  refine cV X18 hx hZ hw hown hby hml e18 mN4 30 31 33 32 34 9 0 (rm_label l Z a0 hw [] a (fun _ => (-1 : Int32)) ((own_hb (-1 : Int32) c0) + 1) (0 : Int32) (2 : Int32) c0 h18 n0 Z0 AL_a r_c0.1 r_c0.2) A_a d6_152 (lenOf own_pd0 rfl) N18 (fun T21 L21 X21 e21 N21 => ?_)
  show Goes _ _ _ _ _ (fT T21 m 155 #[vr a, vr y, vi (own_hb (-1 : Int32) c0), vr y, vi 1, vi 0, vi c0] [(.int ((fun _ => (-1 : Int32)) c0.toNatClampNeg))])
  refine gC X21 hx hby d6_155 ?_
  have hc156_22 : ((fun _ => (-1 : Int32)) c0.toNatClampNeg) = (-1 : Int32) := rfl
  refine gY X21 hx hby d6_156 156 174 (teq hc156_22).1 ?_
  refine gA X21 hx hby d6_174 rfl rfl rfl ?_
  refine gI X21 hx hby d6_175 rfl rfl ?_
  have hs0 := own_cb hb1 r_c0.1 hk0.2.2
  refine cVg X21 hx hZ hw hown hby hml e21 mN5 35 36 38 37 39 9 0 (rm_add l Z a0 hw [] a (fun _ => (-1 : Int32)) ((own_hb (-1 : Int32) c0) + 1) (0 : Int32) (2 : Int32) c0 h18 n0 Z0 AL_a r_c0.1 r_c0.2 hs0 (by decide) (by decide) g_a) A_a d6_177 (lenOf own_pd0 rfl) (fun _ T23 L23 X23 hQ23 => ?_)
  obtain ⟨rfl, N23q, K23, ALn23⟩ := hQ23
  have N23 := Fr.app N21 N23q
  replace AL_a : AlOf Z T23.heap a (own_up (fun _ => (-1 : Int32)) c0.toNatClampNeg (1 : Int32)) ((own_hb (-1 : Int32) c0) + 1) (1 : Int32) (2 : Int32) := ALn23
  replace Z0 := Nat.le_trans Z0 K23.1
  show Goes _ _ _ _ _ (fT T23 m 180 #[vr a, vr y, vi (own_hb (-1 : Int32) c0), vr y, vi 1, vi 0, vi c0] [(.int 1)])
  refine Gz (XS.pop X23.here hx rfl (hb hby d6_180) rfl rfl) ?_
  show Goes _ _ _ _ _ (fT T23 m 181 #[vr a, vr y, vi (own_hb (-1 : Int32) c0), vr y, vi 1, vi 0, vi c0] [])
  refine Gz (XS.iinc X23.here hx rfl (hb hby d6_181) rfl (l' := #[vr a, vr y, vi (own_hb (-1 : Int32) c0), vr y, vi 1, vi ((0 : Int32) + (1 : Int32)), vi c0]) rfl) ?_
  show Goes _ _ _ _ _ (fT T23 m 184 #[vr a, vr y, vi (own_hb (-1 : Int32) c0), vr y, vi 1, vi 1, vi c0] [])
  refine gG X23 hx hby d6_184 184 136 ?_
  refine gI X23 hx hby d6_136 rfl rfl ?_
  refine gI X23 hx hby d6_138 rfl rfl ?_
  refine gY X23 hx hby d6_140 140 187 (flt (by decide : ¬ ((1 : Int32) < (1 : Int32)))).2.1 ?_
  refine Goes.ret X23 none (fun _ => rfl) hlk (by decide) (by decide) ?_ (fun fs hr => ?_)
  ·exact ⟨rfl, N23, AL_a, Z0⟩
  ·exact X23.returnOut hx hret (hb hby d6_187) hr
 intro J87
 by_cases hc77_24 : c0 < 65536
 ·refine gU X6 hx hby d6_77 (tlt hc77_24).2.1 ?_
  refine gN X6 hx hby d6_80 rfl rfl ?_
  refine gI X6 hx hby d6_81 rfl rfl ?_
  refine cS X6 hx hZ hw hown hby hml e6 mN1 22 23 25 24 0 (rm_max l Z a0 hw [] (-1 : Int32) c0 h6 n0 Z0) d6_83 (lenOf own_pd2 rfl) N6 (fun T25 L25 X25 e25 N25 => ?_)
  show Goes _ _ _ _ _ (fT T25 m 86 #[vr a, vr y, vi (-1 : Int32), vr y, vi 1, vi 0, vi c0] [(.int (own_mx (-1 : Int32) c0))])
  refine gs X25 hx hby d6_86 #[vr a, vr y, vi (own_mx (-1 : Int32) c0), vr y, vi 1, vi 0, vi c0] ?_
  show Goes _ _ _ _ _ (fT T25 m 87 #[vr a, vr y, vi (own_mx (-1 : Int32) c0), vr y, vi 1, vi 0, vi c0] [])
  rw [show (own_hb (-1 : Int32) c0) = (own_mx (-1 : Int32) c0) from if_pos hc77_24] at J87
  exact J87 _ _ X25 e25 N25
 ·refine gY X6 hx hby d6_77 77 87 (flt hc77_24).2.1 ?_
  show Goes _ _ _ _ _ (fT T6 m 87 #[vr a, vr y, vi (-1 : Int32), vr y, vi 1, vi 0, vi c0] [])
  rw [show (own_hb (-1 : Int32) c0) = (-1 : Int32) from if_neg hc77_24] at J87
  exact J87 _ _ X6 e6 N6
theorem own_ef_rm_init2 (m : MethodId) (x0 : Addr) (x1 : Addr) : entryFrame m #[(.ref x0), (.ref x1)] 7 = mkF m 0 #[vr x0, vr x1, vu, vu, vu, vu, vu] [] := by first | (simp [entryFrame, mkF, argsToLocals, Value.category]; done) | rfl
def Q_rm_init2 (Z : State) (a : Addr) (y : Addr) (ky : ClassId) (c0 : Int32) (c1 : Int32) (h0 : Heap) (n0 : Nat) (v : Option Value) (h : Heap) (L : List Loc) : Prop := v = none ∧ Fr n0 L ∧ AlOf Z h a (own_up (own_up (fun _ => (-1 : Int32)) c0.toNatClampNeg (1 : Int32)) c1.toNatClampNeg (2 : Int32)) ((own_hb (own_hb (-1 : Int32) c0) c1) + 1) (2 : Int32) (3 : Int32) ∧ n0 ≤ h.size
theorem rm_init2 (l : Launch) (Z : State) (a0 : Array Value) (hw : HW a0 Z) (ws : List Jvm.Cond) (a : Addr) (y : Addr) (ky : ClassId) (c0 : Int32) (c1 : Int32) (h0 : Heap) (n0 : Nat) (Z0 : n0 ≤ h0.size) (A_a : Exa Z h0 a "com/example/tandemtrie/tandemtrie/array/Alphabet") (F_basic_a : Fld Z h0 a "com/example/tandemtrie/tandemtrie/array/Alphabet" "basic" "[I" .null) (F_codePoints_a : Fld Z h0 a "com/example/tandemtrie/tandemtrie/array/Alphabet" "codePoints" "[I" .null) (F_size_a : Fld Z h0 a "com/example/tandemtrie/tandemtrie/array/Alphabet" "size" "I" (.int 0)) (F_supplementary_a : Fld Z h0 a "com/example/tandemtrie/tandemtrie/array/Alphabet" "supplementary" "[[I" .null) (V_y : Arv Z h0 y ky .int 2 [(.int c0), (.int c1)] (.int 0)) (ly : y < a) (g_a : n0 ≤ a) (r_c0 : 0 ≤ c0.toInt ∧ c0.toInt < 1114112) (r_c1 : 0 ≤ c1.toInt ∧ c1.toInt < 1114112) (d_c0_c1 : ¬ (c0 = c1)) :
  Met l Z mN6 prog_6_method_1_code 7 none ({ frames := 2, cells := 8, slots := 74244, locals := 30 } : Room) ws #[(.ref a), (.ref y)] h0 (Q_rm_init2 Z a y ky c0 c1 h0 n0) := by
 refine own_met (plainFor_of_name own_pn1) ?_
 intro p e s m below meth c s₁ hret hx hby hlk hml hown hnm X0 e0 hZ hh
 have N0 := Fr.nil n0
 refine Gz (castTop (own_ef_rm_init2 m a y)) ?_
 show Goes _ _ _ _ _ (fT s₁ m 0 #[vr a, vr y, vu, vu, vu, vu, vu] [])
 have ne_y_a : y ≠ a := Nat.ne_of_lt ly
 have hb0 := own_m1
 have hk0 := own_hbOk hb0 r_c0.1
 have hb1 := hk0.1
 have hk1 := own_hbOk hb1 r_c1.1
 have hb2 := hk1.1
 refine gA X0 hx hby d6_0 rfl rfl rfl ?_
 obtain ⟨T1, X1, e1, st1⟩ := initO X0 hx hZ hown (gw hw 13 rfl) (gw hw 14 rfl) (gw hw 15 rfl) e0 (g := (mkF m 1 #[vr a, vr y, vu, vu, vu, vu, vu] [(.ref a)])) rfl hml.symm rfl (hb hby d6_1) (by decide) (W := 0) (wz rfl) (by decide)
 refine Gs st1 ?_
 show Goes _ _ _ _ _ (fT T1 m 4 #[vr a, vr y, vu, vu, vu, vu, vu] [])
 refine gA X1 hx hby d6_4 rfl rfl rfl ?_
 refine gC X1 hx hby d6_5 ?_
 obtain ⟨T2, h2, k2, X2, e2, E2, A2, st2⟩ := newP X1 hx hZ (gw hw 6 rfl) e1 (g := (mkF m 6 #[vr a, vr y, vu, vu, vu, vu, vu] [(.int 0), (.ref a)])) rfl (hb hby d6_6) rfl (by decide) (cap := 0) (by decide) (by decide) (by decide) (by decide)
 obtain ⟨b2, gq2⟩ : ∃ z, z = h0.size := ⟨_, rfl⟩
 rw [← gq2] at A2 st2
 replace A_a := A_a.ext E2
 replace F_basic_a := F_basic_a.ext E2
 replace F_codePoints_a := F_codePoints_a.ext E2
 replace F_size_a := F_size_a.ext E2
 replace F_supplementary_a := F_supplementary_a.ext E2
 replace V_y := V_y.ext E2
 replace Z0 : n0 ≤ h2.size := Nat.le_trans Z0 E2.1
 refine Gs st2 ?_
 show Goes _ _ _ _ _ (fT T2 m 8 #[vr a, vr y, vu, vu, vu, vu, vu] [(.ref b2), (.ref a)])
 obtain ⟨T3, h3, X3, e3, W3, st3⟩ := putF X2 hx hZ hown (host := "") (Or.inl (gw hw 16 rfl)) Via.refl e2 F_basic_a A_a (Or.inl (gw hw 17 rfl)) (gw hw 8 rfl) (ty := (.array .int)) (by decide) rfl rfl (g := (mkF m 8 #[vr a, vr y, vu, vu, vu, vu, vu] [(.ref b2), (.ref a)])) rfl rfl (hb hby d6_8)
 have N3 := Fr.snoc X3 N0 g_a
 replace A_a := A_a.wr W3
 replace F_codePoints_a := F_codePoints_a.other W3 (Or.inr (slot_ne (Or.inl (gw hw 19 rfl)) (Or.inl (gw hw 17 rfl)) (by decide) (t := (.array .int)) (t' := (.array .int)) (by decide) (by decide)))
 replace F_size_a := F_size_a.other W3 (Or.inr (slot_ne (Or.inl (gw hw 41 rfl)) (Or.inl (gw hw 17 rfl)) (by decide) (t := .int) (t' := (.array .int)) (by decide) (by decide)))
 replace F_supplementary_a := F_supplementary_a.other W3 (Or.inr (slot_ne (Or.inl (gw hw 44 rfl)) (Or.inl (gw hw 17 rfl)) (by decide) (t := (.array (.array .int))) (t' := (.array .int)) (by decide) (by decide)))
 replace V_y := V_y.other W3 ne_y_a
 replace F_basic_a := F_basic_a.same W3
 replace Z0 : n0 ≤ h3.size := by rw [W3.size]; exact Z0
 refine Gs st3 ?_
 show Goes _ _ _ _ _ (fT T3 m 11 #[vr a, vr y, vu, vu, vu, vu, vu] [])
 refine gA X3 hx hby d6_11 rfl rfl rfl ?_
 refine gC X3 hx hby d6_12 ?_
 obtain ⟨T4, h4, k4, X4, e4, E4, A4, st4⟩ := newP X3 hx hZ (gw hw 6 rfl) e3 (g := (mkF m 13 #[vr a, vr y, vu, vu, vu, vu, vu] [(.int 1), (.ref a)])) rfl (hb hby d6_13) rfl (by decide) (cap := 1) (by decide) (by decide) (by decide) (by decide)
 obtain ⟨b4, gq4⟩ : ∃ z, z = h3.size := ⟨_, rfl⟩
 rw [← gq4] at A4 st4
 have g_b4 : n0 ≤ b4 := by rw [gq4]; exact Z0
 have ne_a_b4 : a ≠ b4 := by rw [gq4]; exact Nat.ne_of_lt A_a.lt
 have ne_y_b4 : y ≠ b4 := by rw [gq4]; exact Nat.ne_of_lt V_y.lt
 replace A_a := A_a.ext E4
 replace F_basic_a := F_basic_a.ext E4
 replace F_codePoints_a := F_codePoints_a.ext E4
 replace F_size_a := F_size_a.ext E4
 replace F_supplementary_a := F_supplementary_a.ext E4
 replace V_y := V_y.ext E4
 replace Z0 : n0 ≤ h4.size := Nat.le_trans Z0 E4.1
 have V_b4 : Arv Z h4 b4 k4 .int 1 [(.int 0)] (.int 0) := (Arv.new A4 (by decide)).pad (pad_rep [] (.int 0) 1)
 refine Gs st4 ?_
 show Goes _ _ _ _ _ (fT T4 m 15 #[vr a, vr y, vu, vu, vu, vu, vu] [(.ref b4), (.ref a)])
 refine Gz (XS.dup X4.here hx rfl (hb hby d6_15) rfl rfl) ?_
 refine gC X4 hx hby d6_16 ?_
 refine gC X4 hx hby d6_17 ?_
 obtain ⟨cl5, Ar5, q5, S5, N5z, H5, G5⟩ := V_b4
 have hin5 : ¬ ((0 : Int32) < 0 ∨ cl5.slots.size ≤ ((0 : Int32)).toNatClampNeg) := inb_of S5 ⟨by decide, by decide⟩
 obtain ⟨T5, h5, X5, e5, W5, st5⟩ := stI X4 hx hZ e4 Ar5 (j := (0 : Int32)) hin5 (g := (mkF m 18 #[vr a, vr y, vu, vu, vu, vu, vu] [(.int (-1 : Int32)), (.int 0), (.ref b4), (.ref b4), (.ref a)])) rfl rfl (hb hby d6_18)
 have Vn5 := Arv.set Ar5 q5 S5 N5z H5 G5 rfl W5 0 rfl (Nat.le_of_ble_eq_true rfl)
 have N5 := Fr.snoc X5 N3 g_b4
 replace A_a := A_a.wr W5
 replace F_basic_a := F_basic_a.other W5 (Or.inl ne_a_b4)
 replace F_codePoints_a := F_codePoints_a.other W5 (Or.inl ne_a_b4)
 replace F_size_a := F_size_a.other W5 (Or.inl ne_a_b4)
 replace F_supplementary_a := F_supplementary_a.other W5 (Or.inl ne_a_b4)
 replace V_y := V_y.other W5 ne_y_b4
 replace Z0 : n0 ≤ h5.size := by rw [W5.size]; exact Z0
 refine Gs st5 ?_
 show Goes _ _ _ _ _ (fT T5 m 19 #[vr a, vr y, vu, vu, vu, vu, vu] [(.ref b4), (.ref a)])
 obtain ⟨T6, h6, X6, e6, W6, st6⟩ := putF X5 hx hZ hown (host := "") (Or.inl (gw hw 18 rfl)) Via.refl e5 F_codePoints_a A_a (Or.inl (gw hw 19 rfl)) (gw hw 8 rfl) (ty := (.array .int)) (by decide) rfl rfl (g := (mkF m 19 #[vr a, vr y, vu, vu, vu, vu, vu] [(.ref b4), (.ref a)])) rfl rfl (hb hby d6_19)
 have N6 := Fr.snoc X6 N5 g_a
 replace A_a := A_a.wr W6
 replace F_basic_a := F_basic_a.other W6 (Or.inr (slot_ne (Or.inl (gw hw 17 rfl)) (Or.inl (gw hw 19 rfl)) (by decide) (t := (.array .int)) (t' := (.array .int)) (by decide) (by decide)))
 replace F_size_a := F_size_a.other W6 (Or.inr (slot_ne (Or.inl (gw hw 41 rfl)) (Or.inl (gw hw 19 rfl)) (by decide) (t := .int) (t' := (.array .int)) (by decide) (by decide)))
 replace F_supplementary_a := F_supplementary_a.other W6 (Or.inr (slot_ne (Or.inl (gw hw 44 rfl)) (Or.inl (gw hw 19 rfl)) (by decide) (t := (.array (.array .int))) (t' := (.array .int)) (by decide) (by decide)))
 replace V_y := V_y.other W6 ne_y_a
 replace F_codePoints_a := F_codePoints_a.same W6
 replace Z0 : n0 ≤ h6.size := by rw [W6.size]; exact Z0
 refine Gs st6 ?_
 show Goes _ _ _ _ _ (fT T6 m 22 #[vr a, vr y, vu, vu, vu, vu, vu] [])
 refine gC X6 hx hby d6_22 ?_
 refine gs X6 hx hby d6_23 #[vr a, vr y, vi (-1 : Int32), vu, vu, vu, vu] ?_
 refine gA X6 hx hby d6_24 rfl rfl rfl ?_
 refine Gz (XS.astoreN X6.here hx rfl (hb hby d6_25) rfl rfl (l' := #[vr a, vr y, vi (-1 : Int32), vr y, vu, vu, vu]) rfl) ?_
 refine gA X6 hx hby d6_26 rfl rfl rfl ?_
 obtain ⟨cl7, Ar7, -, S7, N7z, -, -⟩ := id V_y
 refine Gs (fun _ tk => X6.arraylength hx (by rw [e6]; exact Ar7.1) (State.isArrayOf_alike hZ.alike Ar7.2.1) (g := (mkF m 27 #[vr a, vr y, vi (-1 : Int32), vr y, vu, vu, vu] [(.ref y)])) rfl rfl (hb hby d6_27) _ tk) ?_
 rw [len_of S7 N7z]
 show Goes _ _ _ _ _ (fT T6 m 28 #[vr a, vr y, vi (-1 : Int32), vr y, vu, vu, vu] [(.int 2)])
 refine gS X6 hx hby d6_28 #[vr a, vr y, vi (-1 : Int32), vr y, vi 2, vu, vu] ?_
 refine gC X6 hx hby d6_30 ?_
 refine gS X6 hx hby d6_31 #[vr a, vr y, vi (-1 : Int32), vr y, vi 2, vi 0, vu] ?_
 show Goes _ _ _ _ _ (fT T6 m 33 #[vr a, vr y, vi (-1 : Int32), vr y, vi 2, vi 0, vu] [])
 refine gI X6 hx hby d6_33 rfl rfl ?_
 refine gI X6 hx hby d6_35 rfl rfl ?_
 refine gU X6 hx hby d6_37 (tlt (by decide : ((0 : Int32) < (2 : Int32)))).2.1 ?_
 refine gA X6 hx hby d6_40 rfl rfl rfl ?_
 refine gI X6 hx hby d6_41 rfl rfl ?_
 obtain ⟨cl8, Ar8, -, S8, N8z, H8, -⟩ := id V_y
 have hin8 : ¬ ((0 : Int32) < 0 ∨ cl8.slots.size ≤ ((0 : Int32)).toNatClampNeg) := inb_of S8 ⟨by decide, by decide⟩
 have hat8 : cl8.slots[((0 : Int32)).toNatClampNeg]? = some (.int c0) := Has.at H8 hin8 rfl
 refine Gs (fun _ tk => X6.iaload hx (j := (0 : Int32)) (v := (.int c0)) (by rw [e6]; exact Ar8.1) (State.isArrayOf_alike hZ.alike Ar8.2.1) Ar8.2.2 hin8 hat8 (g := (mkF m 43 #[vr a, vr y, vi (-1 : Int32), vr y, vi 2, vi 0, vu] [(.int 0), (.ref y)])) rfl rfl (hb hby d6_43) _ tk) ?_
 show Goes _ _ _ _ _ (fT T6 m 44 #[vr a, vr y, vi (-1 : Int32), vr y, vi 2, vi 0, vu] [(.int c0)])
 refine gS X6 hx hby d6_44 #[vr a, vr y, vi (-1 : Int32), vr y, vi 2, vi 0, vi c0] ?_
 refine gI X6 hx hby d6_46 rfl rfl ?_
 refine gu X6 hx hby d6_48 ((if0 _ _).trans (flt (own_nn r_c0.1)).1) ?_
 refine gI X6 hx hby d6_51 rfl rfl ?_
 refine Gz (Jvm.Stand.ldcI X6 hx hown (gz hZ hw 20 rfl) rfl (hb hby d6_53)) ?_
 show Goes _ _ _ _ _ (fT T6 m 55 #[vr a, vr y, vi (-1 : Int32), vr y, vi 2, vi 0, vi c0] [(.int 1114111), (.int c0)])
 refine gY X6 hx hby d6_55 55 73 (flt (own_cpN r_c0.2)).2.2.2 ?_
 refine gI X6 hx hby d6_73 rfl rfl ?_
 refine Gz (Jvm.Stand.ldcI X6 hx hown (gz hZ hw 21 rfl) rfl (hb hby d6_75)) ?_
 show Goes _ _ _ _ _ (fT T6 m 77 #[vr a, vr y, vi (-1 : Int32), vr y, vi 2, vi 0, vi c0] [(.int 65536), (.int c0)])
 refine own_joinT X6 e6 N6 (B := fun T => T.setTop (mkF m 87 #[vr a, vr y, vi (own_hb (-1 : Int32) c0), vr y, vi 2, vi 0, vi c0] [])) ?_ ?_
 ·intro T9 L9 X9 e9 N9
  show Goes _ _ _ _ _ (fT T9 m 87 #[vr a, vr y, vi (own_hb (-1 : Int32) c0), vr y, vi 2, vi 0, vi c0] [])
  refine Gz (XS.iinc X9.here hx rfl (hb hby d6_87) rfl (l' := #[vr a, vr y, vi (own_hb (-1 : Int32) c0), vr y, vi 2, vi ((0 : Int32) + (1 : Int32)), vi c0]) rfl) ?_
  show Goes _ _ _ _ _ (fT T9 m 90 #[vr a, vr y, vi (own_hb (-1 : Int32) c0), vr y, vi 2, vi 1, vi c0] [])
  refine gG X9 hx hby d6_90 90 33 ?_
  refine gI X9 hx hby d6_33 rfl rfl ?_
  refine gI X9 hx hby d6_35 rfl rfl ?_
  refine gU X9 hx hby d6_37 (tlt (by decide : ((1 : Int32) < (2 : Int32)))).2.1 ?_
  refine gA X9 hx hby d6_40 rfl rfl rfl ?_
  refine gI X9 hx hby d6_41 rfl rfl ?_
  show Goes _ _ _ _ _ (fT T9 m 43 #[vr a, vr y, vi (own_hb (-1 : Int32) c0), vr y, vi 2, vi 1, vi c0] [(.int 1), (.ref y)])
  obtain ⟨cl10, Ar10, -, S10, N10z, H10, -⟩ := id V_y
  have hin10 : ¬ ((1 : Int32) < 0 ∨ cl10.slots.size ≤ ((1 : Int32)).toNatClampNeg) := inb_of S10 ⟨by decide, by decide⟩
  have hat10 : cl10.slots[((1 : Int32)).toNatClampNeg]? = some (.int c1) := Has.at H10 hin10 rfl
  refine Gs (fun _ tk => X9.iaload hx (j := (1 : Int32)) (v := (.int c1)) (by rw [e9]; exact Ar10.1) (State.isArrayOf_alike hZ.alike Ar10.2.1) Ar10.2.2 hin10 hat10 (g := (mkF m 43 #[vr a, vr y, vi (own_hb (-1 : Int32) c0), vr y, vi 2, vi 1, vi c0] [(.int 1), (.ref y)])) rfl rfl (hb hby d6_43) _ tk) ?_
  show Goes _ _ _ _ _ (fT T9 m 44 #[vr a, vr y, vi (own_hb (-1 : Int32) c0), vr y, vi 2, vi 1, vi c0] [(.int c1)])
  refine gS X9 hx hby d6_44 #[vr a, vr y, vi (own_hb (-1 : Int32) c0), vr y, vi 2, vi 1, vi c1] ?_
  refine gI X9 hx hby d6_46 rfl rfl ?_
  refine gu X9 hx hby d6_48 ((if0 _ _).trans (flt (own_nn r_c1.1)).1) ?_
  refine gI X9 hx hby d6_51 rfl rfl ?_
  refine Gz (Jvm.Stand.ldcI X9 hx hown (gz hZ hw 20 rfl) rfl (hb hby d6_53)) ?_
  show Goes _ _ _ _ _ (fT T9 m 55 #[vr a, vr y, vi (own_hb (-1 : Int32) c0), vr y, vi 2, vi 1, vi c1] [(.int 1114111), (.int c1)])
  refine gY X9 hx hby d6_55 55 73 (flt (own_cpN r_c1.2)).2.2.2 ?_
  refine gI X9 hx hby d6_73 rfl rfl ?_
  refine Gz (Jvm.Stand.ldcI X9 hx hown (gz hZ hw 21 rfl) rfl (hb hby d6_75)) ?_
  show Goes _ _ _ _ _ (fT T9 m 77 #[vr a, vr y, vi (own_hb (-1 : Int32) c0), vr y, vi 2, vi 1, vi c1] [(.int 65536), (.int c1)])
  refine own_joinT X9 e9 N9 (B := fun T => T.setTop (mkF m 87 #[vr a, vr y, vi (own_hb (own_hb (-1 : Int32) c0) c1), vr y, vi 2, vi 1, vi c1] [])) ?_ ?_
  ·intro T11 L11 X11 e11 N11
   show Goes _ _ _ _ _ (fT T11 m 87 #[vr a, vr y, vi (own_hb (own_hb (-1 : Int32) c0) c1), vr y, vi 2, vi 1, vi c1] [])
   refine Gz (XS.iinc X11.here hx rfl (hb hby d6_87) rfl (l' := #[vr a, vr y, vi (own_hb (own_hb (-1 : Int32) c0) c1), vr y, vi 2, vi ((1 : Int32) + (1 : Int32)), vi c1]) rfl) ?_
   show Goes _ _ _ _ _ (fT T11 m 90 #[vr a, vr y, vi (own_hb (own_hb (-1 : Int32) c0) c1), vr y, vi 2, vi 2, vi c1] [])
   refine gG X11 hx hby d6_90 90 33 ?_
   refine gI X11 hx hby d6_33 rfl rfl ?_
   refine gI X11 hx hby d6_35 rfl rfl ?_
   refine gY X11 hx hby d6_37 37 93 (flt (by decide : ¬ ((2 : Int32) < (2 : Int32)))).2.1 ?_
   refine gA X11 hx hby d6_93 rfl rfl rfl ?_
   refine gN X11 hx hby d6_94 rfl rfl ?_
   show Goes _ _ _ _ _ (fT T11 m 95 #[vr a, vr y, vi (own_hb (own_hb (-1 : Int32) c0) c1), vr y, vi 2, vi 2, vi c1] [(.int (own_hb (own_hb (-1 : Int32) c0) c1)), (.ref a)])
   refine gC X11 hx hby d6_95 ?_
   show Goes _ _ _ _ _ (fT T11 m 96 #[vr a, vr y, vi (own_hb (own_hb (-1 : Int32) c0) c1), vr y, vi 2, vi 2, vi c1] [(.int 1), (.int (own_hb (own_hb (-1 : Int32) c0) c1)), (.ref a)])
   refine Gz (XS.iadd X11.here hx rfl (hb hby d6_96) rfl) ?_
   show Goes _ _ _ _ _ (fT T11 m 97 #[vr a, vr y, vi (own_hb (own_hb (-1 : Int32) c0) c1), vr y, vi 2, vi 2, vi c1] [(.int ((own_hb (own_hb (-1 : Int32) c0) c1) + 1)), (.ref a)])
   obtain ⟨T12, h12, k12, X12, e12, E12, A12, st12⟩ := newP X11 hx hZ (gw hw 6 rfl) e11 (g := (mkF m 97 #[vr a, vr y, vi (own_hb (own_hb (-1 : Int32) c0) c1), vr y, vi 2, vi 2, vi c1] [(.int ((own_hb (own_hb (-1 : Int32) c0) c1) + 1)), (.ref a)])) rfl (hb hby d6_97) rfl (own_nb hb2).1 (cap := 65536) (own_nb hb2).2 (by decide) (by decide) (by decide)
   obtain ⟨b12, gq12⟩ : ∃ z, z = h6.size := ⟨_, rfl⟩
   rw [← gq12] at A12 st12
   have g_b12 : n0 ≤ b12 := by rw [gq12]; exact Z0
   have ne_a_b12 : a ≠ b12 := by rw [gq12]; exact Nat.ne_of_lt A_a.lt
   have lt_a_b12 : a < b12 := by rw [gq12]; exact A_a.lt
   have ne_y_b12 : y ≠ b12 := by rw [gq12]; exact Nat.ne_of_lt V_y.lt
   replace A_a := A_a.ext E12
   replace F_basic_a := F_basic_a.ext E12
   replace F_codePoints_a := F_codePoints_a.ext E12
   replace F_size_a := F_size_a.ext E12
   replace F_supplementary_a := F_supplementary_a.ext E12
   replace V_y := V_y.ext E12
   replace Z0 : n0 ≤ h12.size := Nat.le_trans Z0 E12.1
   have V_b12 : Arv Z h12 b12 k12 .int ((own_hb (own_hb (-1 : Int32) c0) c1) + 1) [] (.int 0) := Arv.new A12 (own_nb hb2).1
   refine Gs st12 ?_
   show Goes _ _ _ _ _ (fT T12 m 99 #[vr a, vr y, vi (own_hb (own_hb (-1 : Int32) c0) c1), vr y, vi 2, vi 2, vi c1] [(.ref b12), (.ref a)])
   obtain ⟨T13, h13, X13, e13, W13, st13⟩ := putF X12 hx hZ hown (host := "") (Or.inl (gw hw 16 rfl)) Via.refl e12 F_basic_a A_a (Or.inl (gw hw 17 rfl)) (gw hw 8 rfl) (ty := (.array .int)) (by decide) rfl rfl (g := (mkF m 99 #[vr a, vr y, vi (own_hb (own_hb (-1 : Int32) c0) c1), vr y, vi 2, vi 2, vi c1] [(.ref b12), (.ref a)])) rfl rfl (hb hby d6_99)
   have N13 := Fr.snoc X13 N11 g_a
   replace A_a := A_a.wr W13
   replace F_codePoints_a := F_codePoints_a.other W13 (Or.inr (slot_ne (Or.inl (gw hw 19 rfl)) (Or.inl (gw hw 17 rfl)) (by decide) (t := (.array .int)) (t' := (.array .int)) (by decide) (by decide)))
   replace F_size_a := F_size_a.other W13 (Or.inr (slot_ne (Or.inl (gw hw 41 rfl)) (Or.inl (gw hw 17 rfl)) (by decide) (t := .int) (t' := (.array .int)) (by decide) (by decide)))
   replace F_supplementary_a := F_supplementary_a.other W13 (Or.inr (slot_ne (Or.inl (gw hw 44 rfl)) (Or.inl (gw hw 17 rfl)) (by decide) (t := (.array (.array .int))) (t' := (.array .int)) (by decide) (by decide)))
   replace V_y := V_y.other W13 ne_y_a
   replace V_b12 := V_b12.other W13 (Ne.symm ne_a_b12)
   replace F_basic_a := F_basic_a.same W13
   replace Z0 : n0 ≤ h13.size := by rw [W13.size]; exact Z0
   refine Gs st13 ?_
   show Goes _ _ _ _ _ (fT T13 m 102 #[vr a, vr y, vi (own_hb (own_hb (-1 : Int32) c0) c1), vr y, vi 2, vi 2, vi c1] [])
   refine gA X13 hx hby d6_102 rfl rfl rfl ?_
   obtain ⟨T14, X14, e14, st14⟩ := getF X13 hx hZ hown (host := "") (Or.inl (gw hw 16 rfl)) Via.refl e13 F_basic_a (g := (mkF m 103 #[vr a, vr y, vi (own_hb (own_hb (-1 : Int32) c0) c1), vr y, vi 2, vi 2, vi c1] [(.ref a)])) rfl rfl (hb hby d6_103)
   refine Gs st14 ?_
   show Goes _ _ _ _ _ (fT T14 m 106 #[vr a, vr y, vi (own_hb (own_hb (-1 : Int32) c0) c1), vr y, vi 2, vi 2, vi c1] [(.ref b12)])
   refine gC X14 hx hby d6_106 ?_
   refine cSg X14 hx hZ hw hown hby hml e14 mN3 26 27 29 28 0 (rm_fill l Z a0 hw [] b12 k12 ((own_hb (own_hb (-1 : Int32) c0) c1) + 1) (-1 : Int32) h13 n0 Z0 V_b12 g_b12) d6_107 (lenOf own_pd1 rfl) (fun _ T15 L15 X15 hQ15 => ?_)
   obtain ⟨rfl, N15q, K15, V_b12_15'⟩ := hQ15
   have N15 := Fr.app N13 N15q
   replace A_a := A_a.keep K15
   replace F_basic_a := F_basic_a.keep K15 (ninS ne_a_b12 nin0)
   replace F_codePoints_a := F_codePoints_a.keep K15 (ninS ne_a_b12 nin0)
   replace F_size_a := F_size_a.keep K15 (ninS ne_a_b12 nin0)
   replace F_supplementary_a := F_supplementary_a.keep K15 (ninS ne_a_b12 nin0)
   replace V_y := V_y.keep K15 (ninS ne_y_b12 nin0)
   replace Z0 := Nat.le_trans Z0 K15.1
   have V_b12 := V_b12_15'
   show Goes _ _ _ _ _ (fT T15 m 110 #[vr a, vr y, vi (own_hb (own_hb (-1 : Int32) c0) c1), vr y, vi 2, vi 2, vi c1] [])
   refine gA X15 hx hby d6_110 rfl rfl rfl ?_
   refine gA X15 hx hby d6_111 rfl rfl rfl ?_
   obtain ⟨cl16, Ar16, -, S16, N16z, -, -⟩ := id V_y
   refine Gs (fun _ tk => X15.arraylength hx Ar16.1 (State.isArrayOf_alike hZ.alike Ar16.2.1) (g := (mkF m 112 #[vr a, vr y, vi (own_hb (own_hb (-1 : Int32) c0) c1), vr y, vi 2, vi 2, vi c1] [(.ref y), (.ref a)])) rfl rfl (hb hby d6_112) _ tk) ?_
   rw [len_of S16 N16z]
   show Goes _ _ _ _ _ (fT T15 m 113 #[vr a, vr y, vi (own_hb (own_hb (-1 : Int32) c0) c1), vr y, vi 2, vi 2, vi c1] [(.int 2), (.ref a)])
   refine gC X15 hx hby d6_113 ?_
   show Goes _ _ _ _ _ (fT T15 m 114 #[vr a, vr y, vi (own_hb (own_hb (-1 : Int32) c0) c1), vr y, vi 2, vi 2, vi c1] [(.int 1), (.int 2), (.ref a)])
   refine Gz (XS.iadd X15.here hx rfl (hb hby d6_114) rfl) ?_
   show Goes _ _ _ _ _ (fT T15 m 115 #[vr a, vr y, vi (own_hb (own_hb (-1 : Int32) c0) c1), vr y, vi 2, vi 2, vi c1] [(.int 3), (.ref a)])
   obtain ⟨T17, h17, k17, X17, e17, E17, A17, st17⟩ := newP X15 hx hZ (gw hw 6 rfl) rfl (g := (mkF m 115 #[vr a, vr y, vi (own_hb (own_hb (-1 : Int32) c0) c1), vr y, vi 2, vi 2, vi c1] [(.int 3), (.ref a)])) rfl (hb hby d6_115) rfl (by decide) (cap := 3) (by decide) (by decide) (by decide) (by decide)
   obtain ⟨b17, gq17⟩ : ∃ z, z = T15.heap.size := ⟨_, rfl⟩
   rw [← gq17] at A17 st17
   have g_b17 : n0 ≤ b17 := by rw [gq17]; exact Z0
   have ne_a_b17 : a ≠ b17 := by rw [gq17]; exact Nat.ne_of_lt A_a.lt
   have lt_a_b17 : a < b17 := by rw [gq17]; exact A_a.lt
   have ne_y_b17 : y ≠ b17 := by rw [gq17]; exact Nat.ne_of_lt V_y.lt
   have ne_b12_b17 : b12 ≠ b17 := by rw [gq17]; exact Nat.ne_of_lt V_b12.lt
   replace A_a := A_a.ext E17
   replace F_basic_a := F_basic_a.ext E17
   replace F_codePoints_a := F_codePoints_a.ext E17
   replace F_size_a := F_size_a.ext E17
   replace F_supplementary_a := F_supplementary_a.ext E17
   replace V_y := V_y.ext E17
   replace V_b12 := V_b12.ext E17
   replace Z0 : n0 ≤ h17.size := Nat.le_trans Z0 E17.1
   have V_b17 : Arv Z h17 b17 k17 .int 3 [(.int 0), (.int 0), (.int 0)] (.int 0) := (Arv.new A17 (by decide)).pad (pad_rep [] (.int 0) 3)
   refine Gs st17 ?_
   show Goes _ _ _ _ _ (fT T17 m 117 #[vr a, vr y, vi (own_hb (own_hb (-1 : Int32) c0) c1), vr y, vi 2, vi 2, vi c1] [(.ref b17), (.ref a)])
   obtain ⟨T18, h18, X18, e18, W18, st18⟩ := putF X17 hx hZ hown (host := "") (Or.inl (gw hw 18 rfl)) Via.refl e17 F_codePoints_a A_a (Or.inl (gw hw 19 rfl)) (gw hw 8 rfl) (ty := (.array .int)) (by decide) rfl rfl (g := (mkF m 117 #[vr a, vr y, vi (own_hb (own_hb (-1 : Int32) c0) c1), vr y, vi 2, vi 2, vi c1] [(.ref b17), (.ref a)])) rfl rfl (hb hby d6_117)
   have N18 := Fr.snoc X18 N15 g_a
   replace A_a := A_a.wr W18
   replace F_basic_a := F_basic_a.other W18 (Or.inr (slot_ne (Or.inl (gw hw 17 rfl)) (Or.inl (gw hw 19 rfl)) (by decide) (t := (.array .int)) (t' := (.array .int)) (by decide) (by decide)))
   replace F_size_a := F_size_a.other W18 (Or.inr (slot_ne (Or.inl (gw hw 41 rfl)) (Or.inl (gw hw 19 rfl)) (by decide) (t := .int) (t' := (.array .int)) (by decide) (by decide)))
   replace F_supplementary_a := F_supplementary_a.other W18 (Or.inr (slot_ne (Or.inl (gw hw 44 rfl)) (Or.inl (gw hw 19 rfl)) (by decide) (t := (.array (.array .int))) (t' := (.array .int)) (by decide) (by decide)))
   replace V_y := V_y.other W18 ne_y_a
   replace V_b12 := V_b12.other W18 (Ne.symm ne_a_b12)
   replace V_b17 := V_b17.other W18 (Ne.symm ne_a_b17)
   replace F_codePoints_a := F_codePoints_a.same W18
   replace Z0 : n0 ≤ h18.size := by rw [W18.size]; exact Z0
   refine Gs st18 ?_
   show Goes _ _ _ _ _ (fT T18 m 120 #[vr a, vr y, vi (own_hb (own_hb (-1 : Int32) c0) c1), vr y, vi 2, vi 2, vi c1] [])
   refine gA X18 hx hby d6_120 rfl rfl rfl ?_
   obtain ⟨T19, X19, e19, st19⟩ := getF X18 hx hZ hown (host := "") (Or.inl (gw hw 18 rfl)) Via.refl e18 F_codePoints_a (g := (mkF m 121 #[vr a, vr y, vi (own_hb (own_hb (-1 : Int32) c0) c1), vr y, vi 2, vi 2, vi c1] [(.ref a)])) rfl rfl (hb hby d6_121)
   refine Gs st19 ?_
   show Goes _ _ _ _ _ (fT T19 m 124 #[vr a, vr y, vi (own_hb (own_hb (-1 : Int32) c0) c1), vr y, vi 2, vi 2, vi c1] [(.ref b17)])
   refine gC X19 hx hby d6_124 ?_
   refine gC X19 hx hby d6_125 ?_
   obtain ⟨cl20, Ar20, q20, S20, N20z, H20, G20⟩ := V_b17
   have hin20 : ¬ ((0 : Int32) < 0 ∨ cl20.slots.size ≤ ((0 : Int32)).toNatClampNeg) := inb_of S20 ⟨by decide, by decide⟩
   obtain ⟨T20, h20, X20, e20, W20, st20⟩ := stI X19 hx hZ e19 Ar20 (j := (0 : Int32)) hin20 (g := (mkF m 126 #[vr a, vr y, vi (own_hb (own_hb (-1 : Int32) c0) c1), vr y, vi 2, vi 2, vi c1] [(.int (-1 : Int32)), (.int 0), (.ref b17)])) rfl rfl (hb hby d6_126)
   have Vn20 := Arv.set Ar20 q20 S20 N20z H20 G20 rfl W20 0 rfl (Nat.le_of_ble_eq_true rfl)
   have N20 := Fr.snoc X20 N18 g_b17
   replace A_a := A_a.wr W20
   replace F_basic_a := F_basic_a.other W20 (Or.inl ne_a_b17)
   replace F_codePoints_a := F_codePoints_a.other W20 (Or.inl ne_a_b17)
   replace F_size_a := F_size_a.other W20 (Or.inl ne_a_b17)
   replace F_supplementary_a := F_supplementary_a.other W20 (Or.inl ne_a_b17)
   replace V_y := V_y.other W20 ne_y_b17
   replace V_b12 := V_b12.other W20 ne_b12_b17
   have V_b17 : Arv Z h20 b17 _ .int 3 [(.int (-1 : Int32)), (.int 0), (.int 0)] (.int 0) := Vn20
   replace Z0 : n0 ≤ h20.size := by rw [W20.size]; exact Z0
   refine Gs st20 ?_
   show Goes _ _ _ _ _ (fT T20 m 127 #[vr a, vr y, vi (own_hb (own_hb (-1 : Int32) c0) c1), vr y, vi 2, vi 2, vi c1] [])
   refine gA X20 hx hby d6_127 rfl rfl rfl ?_
   refine Gz (XS.astoreN X20.here hx rfl (hb hby d6_128) rfl rfl (l' := #[vr a, vr y, vi (own_hb (own_hb (-1 : Int32) c0) c1), vr y, vi 2, vi 2, vi c1]) rfl) ?_
   refine gA X20 hx hby d6_129 rfl rfl rfl ?_
   obtain ⟨cl21, Ar21, -, S21, N21z, -, -⟩ := id V_y
   refine Gs (fun _ tk => X20.arraylength hx (by rw [e20]; exact Ar21.1) (State.isArrayOf_alike hZ.alike Ar21.2.1) (g := (mkF m 130 #[vr a, vr y, vi (own_hb (own_hb (-1 : Int32) c0) c1), vr y, vi 2, vi 2, vi c1] [(.ref y)])) rfl rfl (hb hby d6_130) _ tk) ?_
   rw [len_of S21 N21z]
   show Goes _ _ _ _ _ (fT T20 m 131 #[vr a, vr y, vi (own_hb (own_hb (-1 : Int32) c0) c1), vr y, vi 2, vi 2, vi c1] [(.int 2)])
   refine gS X20 hx hby d6_131 #[vr a, vr y, vi (own_hb (own_hb (-1 : Int32) c0) c1), vr y, vi 2, vi 2, vi c1] ?_
   refine gC X20 hx hby d6_133 ?_
   refine gS X20 hx hby d6_134 #[vr a, vr y, vi (own_hb (own_hb (-1 : Int32) c0) c1), vr y, vi 2, vi 0, vi c1] ?_
   show Goes _ _ _ _ _ (fT T20 m 136 #[vr a, vr y, vi (own_hb (own_hb (-1 : Int32) c0) c1), vr y, vi 2, vi 0, vi c1] [])
   have AL_a : AlOf Z h20 a (fun _ => (-1 : Int32)) ((own_hb (own_hb (-1 : Int32) c0) c1) + 1) (0 : Int32) (3 : Int32) := own_al0 A_a F_basic_a F_codePoints_a F_size_a F_supplementary_a V_b12 V_b17 rfl lt_a_b12 lt_a_b17 ne_b12_b17 (own_nb hb2).2 (own_nb hb2).1
   refine gI X20 hx hby d6_136 rfl rfl ?_
   refine gI X20 hx hby d6_138 rfl rfl ?_
   refine gU X20 hx hby d6_140 (tlt (by decide : ((0 : Int32) < (2 : Int32)))).2.1 ?_
   refine gA X20 hx hby d6_143 rfl rfl rfl ?_
   refine gI X20 hx hby d6_144 rfl rfl ?_
   obtain ⟨cl22, Ar22, -, S22, N22z, H22, -⟩ := id V_y
   have hin22 : ¬ ((0 : Int32) < 0 ∨ cl22.slots.size ≤ ((0 : Int32)).toNatClampNeg) := inb_of S22 ⟨by decide, by decide⟩
   have hat22 : cl22.slots[((0 : Int32)).toNatClampNeg]? = some (.int c0) := Has.at H22 hin22 rfl
   refine Gs (fun _ tk => X20.iaload hx (j := (0 : Int32)) (v := (.int c0)) (by rw [e20]; exact Ar22.1) (State.isArrayOf_alike hZ.alike Ar22.2.1) Ar22.2.2 hin22 hat22 (g := (mkF m 146 #[vr a, vr y, vi (own_hb (own_hb (-1 : Int32) c0) c1), vr y, vi 2, vi 0, vi c1] [(.int 0), (.ref y)])) rfl rfl (hb hby d6_146) _ tk) ?_
   show Goes _ _ _ _ _ (fT T20 m 147 #[vr a, vr y, vi (own_hb (own_hb (-1 : Int32) c0) c1), vr y, vi 2, vi 0, vi c1] [(.int c0)])
   refine gS X20 hx hby d6_147 #[vr a, vr y, vi (own_hb (own_hb (-1 : Int32) c0) c1), vr y, vi 2, vi 0, vi c0] ?_
   refine gA X20 hx hby d6_149 rfl rfl rfl ?_
   refine gI X20 hx hby d6_150 rfl rfl ?_
   refine cV X20 hx hZ hw hown hby hml e20 mN4 30 31 33 32 34 9 0 (rm_label l Z a0 hw [] a (fun _ => (-1 : Int32)) ((own_hb (own_hb (-1 : Int32) c0) c1) + 1) (0 : Int32) (3 : Int32) c0 h20 n0 Z0 AL_a r_c0.1 r_c0.2) A_a d6_152 (lenOf own_pd0 rfl) N20 (fun T23 L23 X23 e23 N23 => ?_)
   show Goes _ _ _ _ _ (fT T23 m 155 #[vr a, vr y, vi (own_hb (own_hb (-1 : Int32) c0) c1), vr y, vi 2, vi 0, vi c0] [(.int ((fun _ => (-1 : Int32)) c0.toNatClampNeg))])
   refine gC X23 hx hby d6_155 ?_
   have hc156_24 : ((fun _ => (-1 : Int32)) c0.toNatClampNeg) = (-1 : Int32) := rfl
   refine gY X23 hx hby d6_156 156 174 (teq hc156_24).1 ?_
   refine gA X23 hx hby d6_174 rfl rfl rfl ?_
   refine gI X23 hx hby d6_175 rfl rfl ?_
   have hs0 := own_cb hb2 r_c0.1 (fun q => Int.le_trans (hk0.2.2 q) hk1.2.1)
   refine cVg X23 hx hZ hw hown hby hml e23 mN5 35 36 38 37 39 9 0 (rm_add l Z a0 hw [] a (fun _ => (-1 : Int32)) ((own_hb (own_hb (-1 : Int32) c0) c1) + 1) (0 : Int32) (3 : Int32) c0 h20 n0 Z0 AL_a r_c0.1 r_c0.2 hs0 (by decide) (by decide) g_a) A_a d6_177 (lenOf own_pd0 rfl) (fun _ T25 L25 X25 hQ25 => ?_)
   obtain ⟨rfl, N25q, K25, ALn25⟩ := hQ25
   have N25 := Fr.app N23 N25q
   replace AL_a : AlOf Z T25.heap a (own_up (fun _ => (-1 : Int32)) c0.toNatClampNeg (1 : Int32)) ((own_hb (own_hb (-1 : Int32) c0) c1) + 1) (1 : Int32) (3 : Int32) := ALn25
   replace A_a := AL_a.exa
   replace V_y := K25.arv V_y ly
   replace Z0 := Nat.le_trans Z0 K25.1
   show Goes _ _ _ _ _ (fT T25 m 180 #[vr a, vr y, vi (own_hb (own_hb (-1 : Int32) c0) c1), vr y, vi 2, vi 0, vi c0] [(.int 1)])
   refine Gz (XS.pop X25.here hx rfl (hb hby d6_180) rfl rfl) ?_
   show Goes _ _ _ _ _ (fT T25 m 181 #[vr a, vr y, vi (own_hb (own_hb (-1 : Int32) c0) c1), vr y, vi 2, vi 0, vi c0] [])
   refine Gz (XS.iinc X25.here hx rfl (hb hby d6_181) rfl (l' := #[vr a, vr y, vi (own_hb (own_hb (-1 : Int32) c0) c1), vr y, vi 2, vi ((0 : Int32) + (1 : Int32)), vi c0]) rfl) ?_
   show Goes _ _ _ _ _ (fT T25 m 184 #[vr a, vr y, vi (own_hb (own_hb (-1 : Int32) c0) c1), vr y, vi 2, vi 1, vi c0] [])
   refine gG X25 hx hby d6_184 184 136 ?_
   refine gI X25 hx hby d6_136 rfl rfl ?_
   refine gI X25 hx hby d6_138 rfl rfl ?_
   refine gU X25 hx hby d6_140 (tlt (by decide : ((1 : Int32) < (2 : Int32)))).2.1 ?_
   refine gA X25 hx hby d6_143 rfl rfl rfl ?_
   refine gI X25 hx hby d6_144 rfl rfl ?_
   show Goes _ _ _ _ _ (fT T25 m 146 #[vr a, vr y, vi (own_hb (own_hb (-1 : Int32) c0) c1), vr y, vi 2, vi 1, vi c0] [(.int 1), (.ref y)])
   obtain ⟨cl26, Ar26, -, S26, N26z, H26, -⟩ := id V_y
   have hin26 : ¬ ((1 : Int32) < 0 ∨ cl26.slots.size ≤ ((1 : Int32)).toNatClampNeg) := inb_of S26 ⟨by decide, by decide⟩
   have hat26 : cl26.slots[((1 : Int32)).toNatClampNeg]? = some (.int c1) := Has.at H26 hin26 rfl
   refine Gs (fun _ tk => X25.iaload hx (j := (1 : Int32)) (v := (.int c1)) Ar26.1 (State.isArrayOf_alike hZ.alike Ar26.2.1) Ar26.2.2 hin26 hat26 (g := (mkF m 146 #[vr a, vr y, vi (own_hb (own_hb (-1 : Int32) c0) c1), vr y, vi 2, vi 1, vi c0] [(.int 1), (.ref y)])) rfl rfl (hb hby d6_146) _ tk) ?_
   show Goes _ _ _ _ _ (fT T25 m 147 #[vr a, vr y, vi (own_hb (own_hb (-1 : Int32) c0) c1), vr y, vi 2, vi 1, vi c0] [(.int c1)])
   refine gS X25 hx hby d6_147 #[vr a, vr y, vi (own_hb (own_hb (-1 : Int32) c0) c1), vr y, vi 2, vi 1, vi c1] ?_
   refine gA X25 hx hby d6_149 rfl rfl rfl ?_
   refine gI X25 hx hby d6_150 rfl rfl ?_
   refine cV X25 hx hZ hw hown hby hml rfl mN4 30 31 33 32 34 9 0 (rm_label l Z a0 hw [] a (own_up (fun _ => (-1 : Int32)) c0.toNatClampNeg (1 : Int32)) ((own_hb (own_hb (-1 : Int32) c0) c1) + 1) (1 : Int32) (3 : Int32) c1 T25.heap n0 Z0 AL_a r_c1.1 r_c1.2) A_a d6_152 (lenOf own_pd0 rfl) N25 (fun T27 L27 X27 e27 N27 => ?_)
   show Goes _ _ _ _ _ (fT T27 m 155 #[vr a, vr y, vi (own_hb (own_hb (-1 : Int32) c0) c1), vr y, vi 2, vi 1, vi c1] [(.int ((own_up (fun _ => (-1 : Int32)) c0.toNatClampNeg (1 : Int32)) c1.toNatClampNeg))])
   refine gC X27 hx hby d6_155 ?_
   have hc156_28 : ((own_up (fun _ => (-1 : Int32)) c0.toNatClampNeg (1 : Int32)) c1.toNatClampNeg) = (-1 : Int32) := by rw [own_upN (fun e => d_c0_c1 (own_tnE r_c0.1 r_c1.1 e.symm))]
   refine gY X27 hx hby d6_156 156 174 (teq hc156_28).1 ?_
   refine gA X27 hx hby d6_174 rfl rfl rfl ?_
   refine gI X27 hx hby d6_175 rfl rfl ?_
   have hs1 := own_cb hb2 r_c1.1 hk1.2.2
   refine cVg X27 hx hZ hw hown hby hml e27 mN5 35 36 38 37 39 9 0 (rm_add l Z a0 hw [] a (own_up (fun _ => (-1 : Int32)) c0.toNatClampNeg (1 : Int32)) ((own_hb (own_hb (-1 : Int32) c0) c1) + 1) (1 : Int32) (3 : Int32) c1 T25.heap n0 Z0 AL_a r_c1.1 r_c1.2 hs1 (by decide) (by decide) g_a) A_a d6_177 (lenOf own_pd0 rfl) (fun _ T29 L29 X29 hQ29 => ?_)
   obtain ⟨rfl, N29q, K29, ALn29⟩ := hQ29
   have N29 := Fr.app N27 N29q
   replace AL_a : AlOf Z T29.heap a (own_up (own_up (fun _ => (-1 : Int32)) c0.toNatClampNeg (1 : Int32)) c1.toNatClampNeg (2 : Int32)) ((own_hb (own_hb (-1 : Int32) c0) c1) + 1) (2 : Int32) (3 : Int32) := ALn29
   replace Z0 := Nat.le_trans Z0 K29.1
   show Goes _ _ _ _ _ (fT T29 m 180 #[vr a, vr y, vi (own_hb (own_hb (-1 : Int32) c0) c1), vr y, vi 2, vi 1, vi c1] [(.int 2)])
   refine Gz (XS.pop X29.here hx rfl (hb hby d6_180) rfl rfl) ?_
   show Goes _ _ _ _ _ (fT T29 m 181 #[vr a, vr y, vi (own_hb (own_hb (-1 : Int32) c0) c1), vr y, vi 2, vi 1, vi c1] [])
   refine Gz (XS.iinc X29.here hx rfl (hb hby d6_181) rfl (l' := #[vr a, vr y, vi (own_hb (own_hb (-1 : Int32) c0) c1), vr y, vi 2, vi ((1 : Int32) + (1 : Int32)), vi c1]) rfl) ?_
   show Goes _ _ _ _ _ (fT T29 m 184 #[vr a, vr y, vi (own_hb (own_hb (-1 : Int32) c0) c1), vr y, vi 2, vi 2, vi c1] [])
   refine gG X29 hx hby d6_184 184 136 ?_
   refine gI X29 hx hby d6_136 rfl rfl ?_
   refine gI X29 hx hby d6_138 rfl rfl ?_
   refine gY X29 hx hby d6_140 140 187 (flt (by decide : ¬ ((2 : Int32) < (2 : Int32)))).2.1 ?_
   refine Goes.ret X29 none (fun _ => rfl) hlk (by decide) (by decide) ?_ (fun fs hr => ?_)
   ·exact ⟨rfl, N29, AL_a, Z0⟩
   ·exact X29.returnOut hx hret (hb hby d6_187) hr
  intro J87
  by_cases hc77_30 : c1 < 65536
  ·refine gU X9 hx hby d6_77 (tlt hc77_30).2.1 ?_
   refine gN X9 hx hby d6_80 rfl rfl ?_
   refine gI X9 hx hby d6_81 rfl rfl ?_
   refine cS X9 hx hZ hw hown hby hml e9 mN1 22 23 25 24 0 (rm_max l Z a0 hw [] (own_hb (-1 : Int32) c0) c1 h6 n0 Z0) d6_83 (lenOf own_pd2 rfl) N9 (fun T31 L31 X31 e31 N31 => ?_)
   show Goes _ _ _ _ _ (fT T31 m 86 #[vr a, vr y, vi (own_hb (-1 : Int32) c0), vr y, vi 2, vi 1, vi c1] [(.int (own_mx (own_hb (-1 : Int32) c0) c1))])
   refine gs X31 hx hby d6_86 #[vr a, vr y, vi (own_mx (own_hb (-1 : Int32) c0) c1), vr y, vi 2, vi 1, vi c1] ?_
   show Goes _ _ _ _ _ (fT T31 m 87 #[vr a, vr y, vi (own_mx (own_hb (-1 : Int32) c0) c1), vr y, vi 2, vi 1, vi c1] [])
   rw [show (own_hb (own_hb (-1 : Int32) c0) c1) = (own_mx (own_hb (-1 : Int32) c0) c1) from if_pos hc77_30] at J87
   exact J87 _ _ X31 e31 N31
  ·refine gY X9 hx hby d6_77 77 87 (flt hc77_30).2.1 ?_
   show Goes _ _ _ _ _ (fT T9 m 87 #[vr a, vr y, vi (own_hb (-1 : Int32) c0), vr y, vi 2, vi 1, vi c1] [])
   rw [show (own_hb (own_hb (-1 : Int32) c0) c1) = (own_hb (-1 : Int32) c0) from if_neg hc77_30] at J87
   exact J87 _ _ X9 e9 N9
 intro J87
 by_cases hc77_32 : c0 < 65536
 ·refine gU X6 hx hby d6_77 (tlt hc77_32).2.1 ?_
  refine gN X6 hx hby d6_80 rfl rfl ?_
  refine gI X6 hx hby d6_81 rfl rfl ?_
  refine cS X6 hx hZ hw hown hby hml e6 mN1 22 23 25 24 0 (rm_max l Z a0 hw [] (-1 : Int32) c0 h6 n0 Z0) d6_83 (lenOf own_pd2 rfl) N6 (fun T33 L33 X33 e33 N33 => ?_)
  show Goes _ _ _ _ _ (fT T33 m 86 #[vr a, vr y, vi (-1 : Int32), vr y, vi 2, vi 0, vi c0] [(.int (own_mx (-1 : Int32) c0))])
  refine gs X33 hx hby d6_86 #[vr a, vr y, vi (own_mx (-1 : Int32) c0), vr y, vi 2, vi 0, vi c0] ?_
  show Goes _ _ _ _ _ (fT T33 m 87 #[vr a, vr y, vi (own_mx (-1 : Int32) c0), vr y, vi 2, vi 0, vi c0] [])
  rw [show (own_hb (-1 : Int32) c0) = (own_mx (-1 : Int32) c0) from if_pos hc77_32] at J87
  exact J87 _ _ X33 e33 N33
 ·refine gY X6 hx hby d6_77 77 87 (flt hc77_32).2.1 ?_
  show Goes _ _ _ _ _ (fT T6 m 87 #[vr a, vr y, vi (-1 : Int32), vr y, vi 2, vi 0, vi c0] [])
  rw [show (own_hb (-1 : Int32) c0) = (-1 : Int32) from if_neg hc77_32] at J87
  exact J87 _ _ X6 e6 N6
theorem own_ef_rm_init3 (m : MethodId) (x0 : Addr) (x1 : Addr) : entryFrame m #[(.ref x0), (.ref x1)] 7 = mkF m 0 #[vr x0, vr x1, vu, vu, vu, vu, vu] [] := by first | (simp [entryFrame, mkF, argsToLocals, Value.category]; done) | rfl
def Q_rm_init3 (Z : State) (a : Addr) (y : Addr) (ky : ClassId) (c0 : Int32) (c1 : Int32) (c2 : Int32) (h0 : Heap) (n0 : Nat) (v : Option Value) (h : Heap) (L : List Loc) : Prop := v = none ∧ Fr n0 L ∧ AlOf Z h a (own_up (own_up (own_up (fun _ => (-1 : Int32)) c0.toNatClampNeg (1 : Int32)) c1.toNatClampNeg (2 : Int32)) c2.toNatClampNeg (3 : Int32)) ((own_hb (own_hb (own_hb (-1 : Int32) c0) c1) c2) + 1) (3 : Int32) (4 : Int32) ∧ n0 ≤ h.size
theorem rm_init3 (l : Launch) (Z : State) (a0 : Array Value) (hw : HW a0 Z) (ws : List Jvm.Cond) (a : Addr) (y : Addr) (ky : ClassId) (c0 : Int32) (c1 : Int32) (c2 : Int32) (h0 : Heap) (n0 : Nat) (Z0 : n0 ≤ h0.size) (A_a : Exa Z h0 a "com/example/tandemtrie/tandemtrie/array/Alphabet") (F_basic_a : Fld Z h0 a "com/example/tandemtrie/tandemtrie/array/Alphabet" "basic" "[I" .null) (F_codePoints_a : Fld Z h0 a "com/example/tandemtrie/tandemtrie/array/Alphabet" "codePoints" "[I" .null) (F_size_a : Fld Z h0 a "com/example/tandemtrie/tandemtrie/array/Alphabet" "size" "I" (.int 0)) (F_supplementary_a : Fld Z h0 a "com/example/tandemtrie/tandemtrie/array/Alphabet" "supplementary" "[[I" .null) (V_y : Arv Z h0 y ky .int 3 [(.int c0), (.int c1), (.int c2)] (.int 0)) (ly : y < a) (g_a : n0 ≤ a) (r_c0 : 0 ≤ c0.toInt ∧ c0.toInt < 1114112) (r_c1 : 0 ≤ c1.toInt ∧ c1.toInt < 1114112) (r_c2 : 0 ≤ c2.toInt ∧ c2.toInt < 1114112) (d_c0_c1 : ¬ (c0 = c1)) (d_c0_c2 : ¬ (c0 = c2)) (d_c1_c2 : ¬ (c1 = c2)) :
  Met l Z mN6 prog_6_method_1_code 7 none ({ frames := 2, cells := 10, slots := 78597, locals := 30 } : Room) ws #[(.ref a), (.ref y)] h0 (Q_rm_init3 Z a y ky c0 c1 c2 h0 n0) := by
 refine own_met (plainFor_of_name own_pn1) ?_
 intro p e s m below meth c s₁ hret hx hby hlk hml hown hnm X0 e0 hZ hh
 have N0 := Fr.nil n0
 refine Gz (castTop (own_ef_rm_init3 m a y)) ?_
 show Goes _ _ _ _ _ (fT s₁ m 0 #[vr a, vr y, vu, vu, vu, vu, vu] [])
 have ne_y_a : y ≠ a := Nat.ne_of_lt ly
 have hb0 := own_m1
 have hk0 := own_hbOk hb0 r_c0.1
 have hb1 := hk0.1
 have hk1 := own_hbOk hb1 r_c1.1
 have hb2 := hk1.1
 have hk2 := own_hbOk hb2 r_c2.1
 have hb3 := hk2.1
 refine gA X0 hx hby d6_0 rfl rfl rfl ?_
 obtain ⟨T1, X1, e1, st1⟩ := initO X0 hx hZ hown (gw hw 13 rfl) (gw hw 14 rfl) (gw hw 15 rfl) e0 (g := (mkF m 1 #[vr a, vr y, vu, vu, vu, vu, vu] [(.ref a)])) rfl hml.symm rfl (hb hby d6_1) (by decide) (W := 0) (wz rfl) (by decide)
 refine Gs st1 ?_
 show Goes _ _ _ _ _ (fT T1 m 4 #[vr a, vr y, vu, vu, vu, vu, vu] [])
 refine gA X1 hx hby d6_4 rfl rfl rfl ?_
 refine gC X1 hx hby d6_5 ?_
 obtain ⟨T2, h2, k2, X2, e2, E2, A2, st2⟩ := newP X1 hx hZ (gw hw 6 rfl) e1 (g := (mkF m 6 #[vr a, vr y, vu, vu, vu, vu, vu] [(.int 0), (.ref a)])) rfl (hb hby d6_6) rfl (by decide) (cap := 0) (by decide) (by decide) (by decide) (by decide)
 obtain ⟨b2, gq2⟩ : ∃ z, z = h0.size := ⟨_, rfl⟩
 rw [← gq2] at A2 st2
 replace A_a := A_a.ext E2
 replace F_basic_a := F_basic_a.ext E2
 replace F_codePoints_a := F_codePoints_a.ext E2
 replace F_size_a := F_size_a.ext E2
 replace F_supplementary_a := F_supplementary_a.ext E2
 replace V_y := V_y.ext E2
 replace Z0 : n0 ≤ h2.size := Nat.le_trans Z0 E2.1
 refine Gs st2 ?_
 show Goes _ _ _ _ _ (fT T2 m 8 #[vr a, vr y, vu, vu, vu, vu, vu] [(.ref b2), (.ref a)])
 obtain ⟨T3, h3, X3, e3, W3, st3⟩ := putF X2 hx hZ hown (host := "") (Or.inl (gw hw 16 rfl)) Via.refl e2 F_basic_a A_a (Or.inl (gw hw 17 rfl)) (gw hw 8 rfl) (ty := (.array .int)) (by decide) rfl rfl (g := (mkF m 8 #[vr a, vr y, vu, vu, vu, vu, vu] [(.ref b2), (.ref a)])) rfl rfl (hb hby d6_8)
 have N3 := Fr.snoc X3 N0 g_a
 replace A_a := A_a.wr W3
 replace F_codePoints_a := F_codePoints_a.other W3 (Or.inr (slot_ne (Or.inl (gw hw 19 rfl)) (Or.inl (gw hw 17 rfl)) (by decide) (t := (.array .int)) (t' := (.array .int)) (by decide) (by decide)))
 replace F_size_a := F_size_a.other W3 (Or.inr (slot_ne (Or.inl (gw hw 41 rfl)) (Or.inl (gw hw 17 rfl)) (by decide) (t := .int) (t' := (.array .int)) (by decide) (by decide)))
 replace F_supplementary_a := F_supplementary_a.other W3 (Or.inr (slot_ne (Or.inl (gw hw 44 rfl)) (Or.inl (gw hw 17 rfl)) (by decide) (t := (.array (.array .int))) (t' := (.array .int)) (by decide) (by decide)))
 replace V_y := V_y.other W3 ne_y_a
 replace F_basic_a := F_basic_a.same W3
 replace Z0 : n0 ≤ h3.size := by rw [W3.size]; exact Z0
 refine Gs st3 ?_
 show Goes _ _ _ _ _ (fT T3 m 11 #[vr a, vr y, vu, vu, vu, vu, vu] [])
 refine gA X3 hx hby d6_11 rfl rfl rfl ?_
 refine gC X3 hx hby d6_12 ?_
 obtain ⟨T4, h4, k4, X4, e4, E4, A4, st4⟩ := newP X3 hx hZ (gw hw 6 rfl) e3 (g := (mkF m 13 #[vr a, vr y, vu, vu, vu, vu, vu] [(.int 1), (.ref a)])) rfl (hb hby d6_13) rfl (by decide) (cap := 1) (by decide) (by decide) (by decide) (by decide)
 obtain ⟨b4, gq4⟩ : ∃ z, z = h3.size := ⟨_, rfl⟩
 rw [← gq4] at A4 st4
 have g_b4 : n0 ≤ b4 := by rw [gq4]; exact Z0
 have ne_a_b4 : a ≠ b4 := by rw [gq4]; exact Nat.ne_of_lt A_a.lt
 have ne_y_b4 : y ≠ b4 := by rw [gq4]; exact Nat.ne_of_lt V_y.lt
 replace A_a := A_a.ext E4
 replace F_basic_a := F_basic_a.ext E4
 replace F_codePoints_a := F_codePoints_a.ext E4
 replace F_size_a := F_size_a.ext E4
 replace F_supplementary_a := F_supplementary_a.ext E4
 replace V_y := V_y.ext E4
 replace Z0 : n0 ≤ h4.size := Nat.le_trans Z0 E4.1
 have V_b4 : Arv Z h4 b4 k4 .int 1 [(.int 0)] (.int 0) := (Arv.new A4 (by decide)).pad (pad_rep [] (.int 0) 1)
 refine Gs st4 ?_
 show Goes _ _ _ _ _ (fT T4 m 15 #[vr a, vr y, vu, vu, vu, vu, vu] [(.ref b4), (.ref a)])
 refine Gz (XS.dup X4.here hx rfl (hb hby d6_15) rfl rfl) ?_
 refine gC X4 hx hby d6_16 ?_
 refine gC X4 hx hby d6_17 ?_
 obtain ⟨cl5, Ar5, q5, S5, N5z, H5, G5⟩ := V_b4
 have hin5 : ¬ ((0 : Int32) < 0 ∨ cl5.slots.size ≤ ((0 : Int32)).toNatClampNeg) := inb_of S5 ⟨by decide, by decide⟩
 obtain ⟨T5, h5, X5, e5, W5, st5⟩ := stI X4 hx hZ e4 Ar5 (j := (0 : Int32)) hin5 (g := (mkF m 18 #[vr a, vr y, vu, vu, vu, vu, vu] [(.int (-1 : Int32)), (.int 0), (.ref b4), (.ref b4), (.ref a)])) rfl rfl (hb hby d6_18)
 have Vn5 := Arv.set Ar5 q5 S5 N5z H5 G5 rfl W5 0 rfl (Nat.le_of_ble_eq_true rfl)
 have N5 := Fr.snoc X5 N3 g_b4
 replace A_a := A_a.wr W5
 replace F_basic_a := F_basic_a.other W5 (Or.inl ne_a_b4)
 replace F_codePoints_a := F_codePoints_a.other W5 (Or.inl ne_a_b4)
 replace F_size_a := F_size_a.other W5 (Or.inl ne_a_b4)
 replace F_supplementary_a := F_supplementary_a.other W5 (Or.inl ne_a_b4)
 replace V_y := V_y.other W5 ne_y_b4
 replace Z0 : n0 ≤ h5.size := by rw [W5.size]; exact Z0
 refine Gs st5 ?_
 show Goes _ _ _ _ _ (fT T5 m 19 #[vr a, vr y, vu, vu, vu, vu, vu] [(.ref b4), (.ref a)])
 obtain ⟨T6, h6, X6, e6, W6, st6⟩ := putF X5 hx hZ hown (host := "") (Or.inl (gw hw 18 rfl)) Via.refl e5 F_codePoints_a A_a (Or.inl (gw hw 19 rfl)) (gw hw 8 rfl) (ty := (.array .int)) (by decide) rfl rfl (g := (mkF m 19 #[vr a, vr y, vu, vu, vu, vu, vu] [(.ref b4), (.ref a)])) rfl rfl (hb hby d6_19)
 have N6 := Fr.snoc X6 N5 g_a
 replace A_a := A_a.wr W6
 replace F_basic_a := F_basic_a.other W6 (Or.inr (slot_ne (Or.inl (gw hw 17 rfl)) (Or.inl (gw hw 19 rfl)) (by decide) (t := (.array .int)) (t' := (.array .int)) (by decide) (by decide)))
 replace F_size_a := F_size_a.other W6 (Or.inr (slot_ne (Or.inl (gw hw 41 rfl)) (Or.inl (gw hw 19 rfl)) (by decide) (t := .int) (t' := (.array .int)) (by decide) (by decide)))
 replace F_supplementary_a := F_supplementary_a.other W6 (Or.inr (slot_ne (Or.inl (gw hw 44 rfl)) (Or.inl (gw hw 19 rfl)) (by decide) (t := (.array (.array .int))) (t' := (.array .int)) (by decide) (by decide)))
 replace V_y := V_y.other W6 ne_y_a
 replace F_codePoints_a := F_codePoints_a.same W6
 replace Z0 : n0 ≤ h6.size := by rw [W6.size]; exact Z0
 refine Gs st6 ?_
 show Goes _ _ _ _ _ (fT T6 m 22 #[vr a, vr y, vu, vu, vu, vu, vu] [])
 refine gC X6 hx hby d6_22 ?_
 refine gs X6 hx hby d6_23 #[vr a, vr y, vi (-1 : Int32), vu, vu, vu, vu] ?_
 refine gA X6 hx hby d6_24 rfl rfl rfl ?_
 refine Gz (XS.astoreN X6.here hx rfl (hb hby d6_25) rfl rfl (l' := #[vr a, vr y, vi (-1 : Int32), vr y, vu, vu, vu]) rfl) ?_
 refine gA X6 hx hby d6_26 rfl rfl rfl ?_
 obtain ⟨cl7, Ar7, -, S7, N7z, -, -⟩ := id V_y
 refine Gs (fun _ tk => X6.arraylength hx (by rw [e6]; exact Ar7.1) (State.isArrayOf_alike hZ.alike Ar7.2.1) (g := (mkF m 27 #[vr a, vr y, vi (-1 : Int32), vr y, vu, vu, vu] [(.ref y)])) rfl rfl (hb hby d6_27) _ tk) ?_
 rw [len_of S7 N7z]
 show Goes _ _ _ _ _ (fT T6 m 28 #[vr a, vr y, vi (-1 : Int32), vr y, vu, vu, vu] [(.int 3)])
 refine gS X6 hx hby d6_28 #[vr a, vr y, vi (-1 : Int32), vr y, vi 3, vu, vu] ?_
 refine gC X6 hx hby d6_30 ?_
 refine gS X6 hx hby d6_31 #[vr a, vr y, vi (-1 : Int32), vr y, vi 3, vi 0, vu] ?_
 show Goes _ _ _ _ _ (fT T6 m 33 #[vr a, vr y, vi (-1 : Int32), vr y, vi 3, vi 0, vu] [])
 refine gI X6 hx hby d6_33 rfl rfl ?_
 refine gI X6 hx hby d6_35 rfl rfl ?_
 refine gU X6 hx hby d6_37 (tlt (by decide : ((0 : Int32) < (3 : Int32)))).2.1 ?_
 refine gA X6 hx hby d6_40 rfl rfl rfl ?_
 refine gI X6 hx hby d6_41 rfl rfl ?_
 obtain ⟨cl8, Ar8, -, S8, N8z, H8, -⟩ := id V_y
 have hin8 : ¬ ((0 : Int32) < 0 ∨ cl8.slots.size ≤ ((0 : Int32)).toNatClampNeg) := inb_of S8 ⟨by decide, by decide⟩
 have hat8 : cl8.slots[((0 : Int32)).toNatClampNeg]? = some (.int c0) := Has.at H8 hin8 rfl
 refine Gs (fun _ tk => X6.iaload hx (j := (0 : Int32)) (v := (.int c0)) (by rw [e6]; exact Ar8.1) (State.isArrayOf_alike hZ.alike Ar8.2.1) Ar8.2.2 hin8 hat8 (g := (mkF m 43 #[vr a, vr y, vi (-1 : Int32), vr y, vi 3, vi 0, vu] [(.int 0), (.ref y)])) rfl rfl (hb hby d6_43) _ tk) ?_
 show Goes _ _ _ _ _ (fT T6 m 44 #[vr a, vr y, vi (-1 : Int32), vr y, vi 3, vi 0, vu] [(.int c0)])
 refine gS X6 hx hby d6_44 #[vr a, vr y, vi (-1 : Int32), vr y, vi 3, vi 0, vi c0] ?_
 refine gI X6 hx hby d6_46 rfl rfl ?_
 refine gu X6 hx hby d6_48 ((if0 _ _).trans (flt (own_nn r_c0.1)).1) ?_
 refine gI X6 hx hby d6_51 rfl rfl ?_
 refine Gz (Jvm.Stand.ldcI X6 hx hown (gz hZ hw 20 rfl) rfl (hb hby d6_53)) ?_
 show Goes _ _ _ _ _ (fT T6 m 55 #[vr a, vr y, vi (-1 : Int32), vr y, vi 3, vi 0, vi c0] [(.int 1114111), (.int c0)])
 refine gY X6 hx hby d6_55 55 73 (flt (own_cpN r_c0.2)).2.2.2 ?_
 refine gI X6 hx hby d6_73 rfl rfl ?_
 refine Gz (Jvm.Stand.ldcI X6 hx hown (gz hZ hw 21 rfl) rfl (hb hby d6_75)) ?_
 show Goes _ _ _ _ _ (fT T6 m 77 #[vr a, vr y, vi (-1 : Int32), vr y, vi 3, vi 0, vi c0] [(.int 65536), (.int c0)])
 refine own_joinT X6 e6 N6 (B := fun T => T.setTop (mkF m 87 #[vr a, vr y, vi (own_hb (-1 : Int32) c0), vr y, vi 3, vi 0, vi c0] [])) ?_ ?_
 ·intro T9 L9 X9 e9 N9
  show Goes _ _ _ _ _ (fT T9 m 87 #[vr a, vr y, vi (own_hb (-1 : Int32) c0), vr y, vi 3, vi 0, vi c0] [])
  refine Gz (XS.iinc X9.here hx rfl (hb hby d6_87) rfl (l' := #[vr a, vr y, vi (own_hb (-1 : Int32) c0), vr y, vi 3, vi ((0 : Int32) + (1 : Int32)), vi c0]) rfl) ?_
  show Goes _ _ _ _ _ (fT T9 m 90 #[vr a, vr y, vi (own_hb (-1 : Int32) c0), vr y, vi 3, vi 1, vi c0] [])
  refine gG X9 hx hby d6_90 90 33 ?_
  refine gI X9 hx hby d6_33 rfl rfl ?_
  refine gI X9 hx hby d6_35 rfl rfl ?_
  refine gU X9 hx hby d6_37 (tlt (by decide : ((1 : Int32) < (3 : Int32)))).2.1 ?_
  refine gA X9 hx hby d6_40 rfl rfl rfl ?_
  refine gI X9 hx hby d6_41 rfl rfl ?_
  show Goes _ _ _ _ _ (fT T9 m 43 #[vr a, vr y, vi (own_hb (-1 : Int32) c0), vr y, vi 3, vi 1, vi c0] [(.int 1), (.ref y)])
  obtain ⟨cl10, Ar10, -, S10, N10z, H10, -⟩ := id V_y
  have hin10 : ¬ ((1 : Int32) < 0 ∨ cl10.slots.size ≤ ((1 : Int32)).toNatClampNeg) := inb_of S10 ⟨by decide, by decide⟩
  have hat10 : cl10.slots[((1 : Int32)).toNatClampNeg]? = some (.int c1) := Has.at H10 hin10 rfl
  refine Gs (fun _ tk => X9.iaload hx (j := (1 : Int32)) (v := (.int c1)) (by rw [e9]; exact Ar10.1) (State.isArrayOf_alike hZ.alike Ar10.2.1) Ar10.2.2 hin10 hat10 (g := (mkF m 43 #[vr a, vr y, vi (own_hb (-1 : Int32) c0), vr y, vi 3, vi 1, vi c0] [(.int 1), (.ref y)])) rfl rfl (hb hby d6_43) _ tk) ?_
  show Goes _ _ _ _ _ (fT T9 m 44 #[vr a, vr y, vi (own_hb (-1 : Int32) c0), vr y, vi 3, vi 1, vi c0] [(.int c1)])
  refine gS X9 hx hby d6_44 #[vr a, vr y, vi (own_hb (-1 : Int32) c0), vr y, vi 3, vi 1, vi c1] ?_
  refine gI X9 hx hby d6_46 rfl rfl ?_
  refine gu X9 hx hby d6_48 ((if0 _ _).trans (flt (own_nn r_c1.1)).1) ?_
  refine gI X9 hx hby d6_51 rfl rfl ?_
  refine Gz (Jvm.Stand.ldcI X9 hx hown (gz hZ hw 20 rfl) rfl (hb hby d6_53)) ?_
  show Goes _ _ _ _ _ (fT T9 m 55 #[vr a, vr y, vi (own_hb (-1 : Int32) c0), vr y, vi 3, vi 1, vi c1] [(.int 1114111), (.int c1)])
  refine gY X9 hx hby d6_55 55 73 (flt (own_cpN r_c1.2)).2.2.2 ?_
  refine gI X9 hx hby d6_73 rfl rfl ?_
  refine Gz (Jvm.Stand.ldcI X9 hx hown (gz hZ hw 21 rfl) rfl (hb hby d6_75)) ?_
  show Goes _ _ _ _ _ (fT T9 m 77 #[vr a, vr y, vi (own_hb (-1 : Int32) c0), vr y, vi 3, vi 1, vi c1] [(.int 65536), (.int c1)])
  refine own_joinT X9 e9 N9 (B := fun T => T.setTop (mkF m 87 #[vr a, vr y, vi (own_hb (own_hb (-1 : Int32) c0) c1), vr y, vi 3, vi 1, vi c1] [])) ?_ ?_
  ·intro T11 L11 X11 e11 N11
   show Goes _ _ _ _ _ (fT T11 m 87 #[vr a, vr y, vi (own_hb (own_hb (-1 : Int32) c0) c1), vr y, vi 3, vi 1, vi c1] [])
   refine Gz (XS.iinc X11.here hx rfl (hb hby d6_87) rfl (l' := #[vr a, vr y, vi (own_hb (own_hb (-1 : Int32) c0) c1), vr y, vi 3, vi ((1 : Int32) + (1 : Int32)), vi c1]) rfl) ?_
   show Goes _ _ _ _ _ (fT T11 m 90 #[vr a, vr y, vi (own_hb (own_hb (-1 : Int32) c0) c1), vr y, vi 3, vi 2, vi c1] [])
   refine gG X11 hx hby d6_90 90 33 ?_
   refine gI X11 hx hby d6_33 rfl rfl ?_
   refine gI X11 hx hby d6_35 rfl rfl ?_
   refine gU X11 hx hby d6_37 (tlt (by decide : ((2 : Int32) < (3 : Int32)))).2.1 ?_
   refine gA X11 hx hby d6_40 rfl rfl rfl ?_
   refine gI X11 hx hby d6_41 rfl rfl ?_
   show Goes _ _ _ _ _ (fT T11 m 43 #[vr a, vr y, vi (own_hb (own_hb (-1 : Int32) c0) c1), vr y, vi 3, vi 2, vi c1] [(.int 2), (.ref y)])
   obtain ⟨cl12, Ar12, -, S12, N12z, H12, -⟩ := id V_y
   have hin12 : ¬ ((2 : Int32) < 0 ∨ cl12.slots.size ≤ ((2 : Int32)).toNatClampNeg) := inb_of S12 ⟨by decide, by decide⟩
   have hat12 : cl12.slots[((2 : Int32)).toNatClampNeg]? = some (.int c2) := Has.at H12 hin12 rfl
   refine Gs (fun _ tk => X11.iaload hx (j := (2 : Int32)) (v := (.int c2)) (by rw [e11]; exact Ar12.1) (State.isArrayOf_alike hZ.alike Ar12.2.1) Ar12.2.2 hin12 hat12 (g := (mkF m 43 #[vr a, vr y, vi (own_hb (own_hb (-1 : Int32) c0) c1), vr y, vi 3, vi 2, vi c1] [(.int 2), (.ref y)])) rfl rfl (hb hby d6_43) _ tk) ?_
   show Goes _ _ _ _ _ (fT T11 m 44 #[vr a, vr y, vi (own_hb (own_hb (-1 : Int32) c0) c1), vr y, vi 3, vi 2, vi c1] [(.int c2)])
   refine gS X11 hx hby d6_44 #[vr a, vr y, vi (own_hb (own_hb (-1 : Int32) c0) c1), vr y, vi 3, vi 2, vi c2] ?_
   refine gI X11 hx hby d6_46 rfl rfl ?_
   refine gu X11 hx hby d6_48 ((if0 _ _).trans (flt (own_nn r_c2.1)).1) ?_
   refine gI X11 hx hby d6_51 rfl rfl ?_
   refine Gz (Jvm.Stand.ldcI X11 hx hown (gz hZ hw 20 rfl) rfl (hb hby d6_53)) ?_
   show Goes _ _ _ _ _ (fT T11 m 55 #[vr a, vr y, vi (own_hb (own_hb (-1 : Int32) c0) c1), vr y, vi 3, vi 2, vi c2] [(.int 1114111), (.int c2)])
   refine gY X11 hx hby d6_55 55 73 (flt (own_cpN r_c2.2)).2.2.2 ?_
   refine gI X11 hx hby d6_73 rfl rfl ?_
   refine Gz (Jvm.Stand.ldcI X11 hx hown (gz hZ hw 21 rfl) rfl (hb hby d6_75)) ?_
   show Goes _ _ _ _ _ (fT T11 m 77 #[vr a, vr y, vi (own_hb (own_hb (-1 : Int32) c0) c1), vr y, vi 3, vi 2, vi c2] [(.int 65536), (.int c2)])
   refine own_joinT X11 e11 N11 (B := fun T => T.setTop (mkF m 87 #[vr a, vr y, vi (own_hb (own_hb (own_hb (-1 : Int32) c0) c1) c2), vr y, vi 3, vi 2, vi c2] [])) ?_ ?_
   ·intro T13 L13 X13 e13 N13
    show Goes _ _ _ _ _ (fT T13 m 87 #[vr a, vr y, vi (own_hb (own_hb (own_hb (-1 : Int32) c0) c1) c2), vr y, vi 3, vi 2, vi c2] [])
    refine Gz (XS.iinc X13.here hx rfl (hb hby d6_87) rfl (l' := #[vr a, vr y, vi (own_hb (own_hb (own_hb (-1 : Int32) c0) c1) c2), vr y, vi 3, vi ((2 : Int32) + (1 : Int32)), vi c2]) rfl) ?_
    show Goes _ _ _ _ _ (fT T13 m 90 #[vr a, vr y, vi (own_hb (own_hb (own_hb (-1 : Int32) c0) c1) c2), vr y, vi 3, vi 3, vi c2] [])
    refine gG X13 hx hby d6_90 90 33 ?_
    refine gI X13 hx hby d6_33 rfl rfl ?_
    refine gI X13 hx hby d6_35 rfl rfl ?_
    refine gY X13 hx hby d6_37 37 93 (flt (by decide : ¬ ((3 : Int32) < (3 : Int32)))).2.1 ?_
    refine gA X13 hx hby d6_93 rfl rfl rfl ?_
    refine gN X13 hx hby d6_94 rfl rfl ?_
    show Goes _ _ _ _ _ (fT T13 m 95 #[vr a, vr y, vi (own_hb (own_hb (own_hb (-1 : Int32) c0) c1) c2), vr y, vi 3, vi 3, vi c2] [(.int (own_hb (own_hb (own_hb (-1 : Int32) c0) c1) c2)), (.ref a)])
    refine gC X13 hx hby d6_95 ?_
    show Goes _ _ _ _ _ (fT T13 m 96 #[vr a, vr y, vi (own_hb (own_hb (own_hb (-1 : Int32) c0) c1) c2), vr y, vi 3, vi 3, vi c2] [(.int 1), (.int (own_hb (own_hb (own_hb (-1 : Int32) c0) c1) c2)), (.ref a)])
    refine Gz (XS.iadd X13.here hx rfl (hb hby d6_96) rfl) ?_
    show Goes _ _ _ _ _ (fT T13 m 97 #[vr a, vr y, vi (own_hb (own_hb (own_hb (-1 : Int32) c0) c1) c2), vr y, vi 3, vi 3, vi c2] [(.int ((own_hb (own_hb (own_hb (-1 : Int32) c0) c1) c2) + 1)), (.ref a)])
    obtain ⟨T14, h14, k14, X14, e14, E14, A14, st14⟩ := newP X13 hx hZ (gw hw 6 rfl) e13 (g := (mkF m 97 #[vr a, vr y, vi (own_hb (own_hb (own_hb (-1 : Int32) c0) c1) c2), vr y, vi 3, vi 3, vi c2] [(.int ((own_hb (own_hb (own_hb (-1 : Int32) c0) c1) c2) + 1)), (.ref a)])) rfl (hb hby d6_97) rfl (own_nb hb3).1 (cap := 65536) (own_nb hb3).2 (by decide) (by decide) (by decide)
    obtain ⟨b14, gq14⟩ : ∃ z, z = h6.size := ⟨_, rfl⟩
    rw [← gq14] at A14 st14
    have g_b14 : n0 ≤ b14 := by rw [gq14]; exact Z0
    have ne_a_b14 : a ≠ b14 := by rw [gq14]; exact Nat.ne_of_lt A_a.lt
    have lt_a_b14 : a < b14 := by rw [gq14]; exact A_a.lt
    have ne_y_b14 : y ≠ b14 := by rw [gq14]; exact Nat.ne_of_lt V_y.lt
    replace A_a := A_a.ext E14
    replace F_basic_a := F_basic_a.ext E14
    replace F_codePoints_a := F_codePoints_a.ext E14
    replace F_size_a := F_size_a.ext E14
    replace F_supplementary_a := F_supplementary_a.ext E14
    replace V_y := V_y.ext E14
    replace Z0 : n0 ≤ h14.size := Nat.le_trans Z0 E14.1
    have V_b14 : Arv Z h14 b14 k14 .int ((own_hb (own_hb (own_hb (-1 : Int32) c0) c1) c2) + 1) [] (.int 0) := Arv.new A14 (own_nb hb3).1
    refine Gs st14 ?_
    show Goes _ _ _ _ _ (fT T14 m 99 #[vr a, vr y, vi (own_hb (own_hb (own_hb (-1 : Int32) c0) c1) c2), vr y, vi 3, vi 3, vi c2] [(.ref b14), (.ref a)])
    obtain ⟨T15, h15, X15, e15, W15, st15⟩ := putF X14 hx hZ hown (host := "") (Or.inl (gw hw 16 rfl)) Via.refl e14 F_basic_a A_a (Or.inl (gw hw 17 rfl)) (gw hw 8 rfl) (ty := (.array .int)) (by decide) rfl rfl (g := (mkF m 99 #[vr a, vr y, vi (own_hb (own_hb (own_hb (-1 : Int32) c0) c1) c2), vr y, vi 3, vi 3, vi c2] [(.ref b14), (.ref a)])) rfl rfl (hb hby d6_99)
    have N15 := Fr.snoc X15 N13 g_a
    replace A_a := A_a.wr W15
    replace F_codePoints_a := F_codePoints_a.other W15 (Or.inr (slot_ne (Or.inl (gw hw 19 rfl)) (Or.inl (gw hw 17 rfl)) (by decide) (t := (.array .int)) (t' := (.array .int)) (by decide) (by decide)))
    replace F_size_a := F_size_a.other W15 (Or.inr (slot_ne (Or.inl (gw hw 41 rfl)) (Or.inl (gw hw 17 rfl)) (by decide) (t := .int) (t' := (.array .int)) (by decide) (by decide)))
    replace F_supplementary_a := F_supplementary_a.other W15 (Or.inr (slot_ne (Or.inl (gw hw 44 rfl)) (Or.inl (gw hw 17 rfl)) (by decide) (t := (.array (.array .int))) (t' := (.array .int)) (by decide) (by decide)))
    replace V_y := V_y.other W15 ne_y_a
    replace V_b14 := V_b14.other W15 (Ne.symm ne_a_b14)
    replace F_basic_a := F_basic_a.same W15
    replace Z0 : n0 ≤ h15.size := by rw [W15.size]; exact Z0
    refine Gs st15 ?_
    show Goes _ _ _ _ _ (fT T15 m 102 #[vr a, vr y, vi (own_hb (own_hb (own_hb (-1 : Int32) c0) c1) c2), vr y, vi 3, vi 3, vi c2] [])
    refine gA X15 hx hby d6_102 rfl rfl rfl ?_
    obtain ⟨T16, X16, e16, st16⟩ := getF X15 hx hZ hown (host := "") (Or.inl (gw hw 16 rfl)) Via.refl e15 F_basic_a (g := (mkF m 103 #[vr a, vr y, vi (own_hb (own_hb (own_hb (-1 : Int32) c0) c1) c2), vr y, vi 3, vi 3, vi c2] [(.ref a)])) rfl rfl (hb hby d6_103)
    refine Gs st16 ?_
    show Goes _ _ _ _ _ (fT T16 m 106 #[vr a, vr y, vi (own_hb (own_hb (own_hb (-1 : Int32) c0) c1) c2), vr y, vi 3, vi 3, vi c2] [(.ref b14)])
    refine gC X16 hx hby d6_106 ?_
    refine cSg X16 hx hZ hw hown hby hml e16 mN3 26 27 29 28 0 (rm_fill l Z a0 hw [] b14 k14 ((own_hb (own_hb (own_hb (-1 : Int32) c0) c1) c2) + 1) (-1 : Int32) h15 n0 Z0 V_b14 g_b14) d6_107 (lenOf own_pd1 rfl) (fun _ T17 L17 X17 hQ17 => ?_)
    obtain ⟨rfl, N17q, K17, V_b14_17'⟩ := hQ17
    have N17 := Fr.app N15 N17q
    replace A_a := A_a.keep K17
    replace F_basic_a := F_basic_a.keep K17 (ninS ne_a_b14 nin0)
    replace F_codePoints_a := F_codePoints_a.keep K17 (ninS ne_a_b14 nin0)
    replace F_size_a := F_size_a.keep K17 (ninS ne_a_b14 nin0)
    replace F_supplementary_a := F_supplementary_a.keep K17 (ninS ne_a_b14 nin0)
    replace V_y := V_y.keep K17 (ninS ne_y_b14 nin0)
    replace Z0 := Nat.le_trans Z0 K17.1
    have V_b14 := V_b14_17'
    show Goes _ _ _ _ _ (fT T17 m 110 #[vr a, vr y, vi (own_hb (own_hb (own_hb (-1 : Int32) c0) c1) c2), vr y, vi 3, vi 3, vi c2] [])
    refine gA X17 hx hby d6_110 rfl rfl rfl ?_
    refine gA X17 hx hby d6_111 rfl rfl rfl ?_
    obtain ⟨cl18, Ar18, -, S18, N18z, -, -⟩ := id V_y
    refine Gs (fun _ tk => X17.arraylength hx Ar18.1 (State.isArrayOf_alike hZ.alike Ar18.2.1) (g := (mkF m 112 #[vr a, vr y, vi (own_hb (own_hb (own_hb (-1 : Int32) c0) c1) c2), vr y, vi 3, vi 3, vi c2] [(.ref y), (.ref a)])) rfl rfl (hb hby d6_112) _ tk) ?_
    rw [len_of S18 N18z]
    show Goes _ _ _ _ _ (fT T17 m 113 #[vr a, vr y, vi (own_hb (own_hb (own_hb (-1 : Int32) c0) c1) c2), vr y, vi 3, vi 3, vi c2] [(.int 3), (.ref a)])
    refine gC X17 hx hby d6_113 ?_
    show Goes _ _ _ _ _ (fT T17 m 114 #[vr a, vr y, vi (own_hb (own_hb (own_hb (-1 : Int32) c0) c1) c2), vr y, vi 3, vi 3, vi c2] [(.int 1), (.int 3), (.ref a)])
    refine Gz (XS.iadd X17.here hx rfl (hb hby d6_114) rfl) ?_
    show Goes _ _ _ _ _ (fT T17 m 115 #[vr a, vr y, vi (own_hb (own_hb (own_hb (-1 : Int32) c0) c1) c2), vr y, vi 3, vi 3, vi c2] [(.int 4), (.ref a)])
    obtain ⟨T19, h19, k19, X19, e19, E19, A19, st19⟩ := newP X17 hx hZ (gw hw 6 rfl) rfl (g := (mkF m 115 #[vr a, vr y, vi (own_hb (own_hb (own_hb (-1 : Int32) c0) c1) c2), vr y, vi 3, vi 3, vi c2] [(.int 4), (.ref a)])) rfl (hb hby d6_115) rfl (by decide) (cap := 4) (by decide) (by decide) (by decide) (by decide)
    obtain ⟨b19, gq19⟩ : ∃ z, z = T17.heap.size := ⟨_, rfl⟩
    rw [← gq19] at A19 st19
    have g_b19 : n0 ≤ b19 := by rw [gq19]; exact Z0
    have ne_a_b19 : a ≠ b19 := by rw [gq19]; exact Nat.ne_of_lt A_a.lt
    have lt_a_b19 : a < b19 := by rw [gq19]; exact A_a.lt
    have ne_y_b19 : y ≠ b19 := by rw [gq19]; exact Nat.ne_of_lt V_y.lt
    have ne_b14_b19 : b14 ≠ b19 := by rw [gq19]; exact Nat.ne_of_lt V_b14.lt
    replace A_a := A_a.ext E19
    replace F_basic_a := F_basic_a.ext E19
    replace F_codePoints_a := F_codePoints_a.ext E19
    replace F_size_a := F_size_a.ext E19
    replace F_supplementary_a := F_supplementary_a.ext E19
    replace V_y := V_y.ext E19
    replace V_b14 := V_b14.ext E19
    replace Z0 : n0 ≤ h19.size := Nat.le_trans Z0 E19.1
    have V_b19 : Arv Z h19 b19 k19 .int 4 [(.int 0), (.int 0), (.int 0), (.int 0)] (.int 0) := (Arv.new A19 (by decide)).pad (pad_rep [] (.int 0) 4)
    refine Gs st19 ?_
    show Goes _ _ _ _ _ (fT T19 m 117 #[vr a, vr y, vi (own_hb (own_hb (own_hb (-1 : Int32) c0) c1) c2), vr y, vi 3, vi 3, vi c2] [(.ref b19), (.ref a)])
    obtain ⟨T20, h20, X20, e20, W20, st20⟩ := putF X19 hx hZ hown (host := "") (Or.inl (gw hw 18 rfl)) Via.refl e19 F_codePoints_a A_a (Or.inl (gw hw 19 rfl)) (gw hw 8 rfl) (ty := (.array .int)) (by decide) rfl rfl (g := (mkF m 117 #[vr a, vr y, vi (own_hb (own_hb (own_hb (-1 : Int32) c0) c1) c2), vr y, vi 3, vi 3, vi c2] [(.ref b19), (.ref a)])) rfl rfl (hb hby d6_117)
    have N20 := Fr.snoc X20 N17 g_a
    replace A_a := A_a.wr W20
    replace F_basic_a := F_basic_a.other W20 (Or.inr (slot_ne (Or.inl (gw hw 17 rfl)) (Or.inl (gw hw 19 rfl)) (by decide) (t := (.array .int)) (t' := (.array .int)) (by decide) (by decide)))
    replace F_size_a := F_size_a.other W20 (Or.inr (slot_ne (Or.inl (gw hw 41 rfl)) (Or.inl (gw hw 19 rfl)) (by decide) (t := .int) (t' := (.array .int)) (by decide) (by decide)))
    replace F_supplementary_a := F_supplementary_a.other W20 (Or.inr (slot_ne (Or.inl (gw hw 44 rfl)) (Or.inl (gw hw 19 rfl)) (by decide) (t := (.array (.array .int))) (t' := (.array .int)) (by decide) (by decide)))
    replace V_y := V_y.other W20 ne_y_a
    replace V_b14 := V_b14.other W20 (Ne.symm ne_a_b14)
    replace V_b19 := V_b19.other W20 (Ne.symm ne_a_b19)
    replace F_codePoints_a := F_codePoints_a.same W20
    replace Z0 : n0 ≤ h20.size := by rw [W20.size]; exact Z0
    refine Gs st20 ?_
    show Goes _ _ _ _ _ (fT T20 m 120 #[vr a, vr y, vi (own_hb (own_hb (own_hb (-1 : Int32) c0) c1) c2), vr y, vi 3, vi 3, vi c2] [])
    refine gA X20 hx hby d6_120 rfl rfl rfl ?_
    obtain ⟨T21, X21, e21, st21⟩ := getF X20 hx hZ hown (host := "") (Or.inl (gw hw 18 rfl)) Via.refl e20 F_codePoints_a (g := (mkF m 121 #[vr a, vr y, vi (own_hb (own_hb (own_hb (-1 : Int32) c0) c1) c2), vr y, vi 3, vi 3, vi c2] [(.ref a)])) rfl rfl (hb hby d6_121)
    refine Gs st21 ?_
    show Goes _ _ _ _ _ (fT T21 m 124 #[vr a, vr y, vi (own_hb (own_hb (own_hb (-1 : Int32) c0) c1) c2), vr y, vi 3, vi 3, vi c2] [(.ref b19)])
    refine gC X21 hx hby d6_124 ?_
    refine gC X21 hx hby d6_125 ?_
    obtain ⟨cl22, Ar22, q22, S22, N22z, H22, G22⟩ := V_b19
    have hin22 : ¬ ((0 : Int32) < 0 ∨ cl22.slots.size ≤ ((0 : Int32)).toNatClampNeg) := inb_of S22 ⟨by decide, by decide⟩
    obtain ⟨T22, h22, X22, e22, W22, st22⟩ := stI X21 hx hZ e21 Ar22 (j := (0 : Int32)) hin22 (g := (mkF m 126 #[vr a, vr y, vi (own_hb (own_hb (own_hb (-1 : Int32) c0) c1) c2), vr y, vi 3, vi 3, vi c2] [(.int (-1 : Int32)), (.int 0), (.ref b19)])) rfl rfl (hb hby d6_126)
    have Vn22 := Arv.set Ar22 q22 S22 N22z H22 G22 rfl W22 0 rfl (Nat.le_of_ble_eq_true rfl)
    have N22 := Fr.snoc X22 N20 g_b19
    replace A_a := A_a.wr W22
    replace F_basic_a := F_basic_a.other W22 (Or.inl ne_a_b19)
    replace F_codePoints_a := F_codePoints_a.other W22 (Or.inl ne_a_b19)
    replace F_size_a := F_size_a.other W22 (Or.inl ne_a_b19)
    replace F_supplementary_a := F_supplementary_a.other W22 (Or.inl ne_a_b19)
    replace V_y := V_y.other W22 ne_y_b19
    replace V_b14 := V_b14.other W22 ne_b14_b19
    have V_b19 : Arv Z h22 b19 _ .int 4 [(.int (-1 : Int32)), (.int 0), (.int 0), (.int 0)] (.int 0) := Vn22
    replace Z0 : n0 ≤ h22.size := by rw [W22.size]; exact Z0
    refine Gs st22 ?_
    show Goes _ _ _ _ _ (fT T22 m 127 #[vr a, vr y, vi (own_hb (own_hb (own_hb (-1 : Int32) c0) c1) c2), vr y, vi 3, vi 3, vi c2] [])
    refine gA X22 hx hby d6_127 rfl rfl rfl ?_
    refine Gz (XS.astoreN X22.here hx rfl (hb hby d6_128) rfl rfl (l' := #[vr a, vr y, vi (own_hb (own_hb (own_hb (-1 : Int32) c0) c1) c2), vr y, vi 3, vi 3, vi c2]) rfl) ?_
    refine gA X22 hx hby d6_129 rfl rfl rfl ?_
    obtain ⟨cl23, Ar23, -, S23, N23z, -, -⟩ := id V_y
    refine Gs (fun _ tk => X22.arraylength hx (by rw [e22]; exact Ar23.1) (State.isArrayOf_alike hZ.alike Ar23.2.1) (g := (mkF m 130 #[vr a, vr y, vi (own_hb (own_hb (own_hb (-1 : Int32) c0) c1) c2), vr y, vi 3, vi 3, vi c2] [(.ref y)])) rfl rfl (hb hby d6_130) _ tk) ?_
    rw [len_of S23 N23z]
    show Goes _ _ _ _ _ (fT T22 m 131 #[vr a, vr y, vi (own_hb (own_hb (own_hb (-1 : Int32) c0) c1) c2), vr y, vi 3, vi 3, vi c2] [(.int 3)])
    refine gS X22 hx hby d6_131 #[vr a, vr y, vi (own_hb (own_hb (own_hb (-1 : Int32) c0) c1) c2), vr y, vi 3, vi 3, vi c2] ?_
    refine gC X22 hx hby d6_133 ?_
    refine gS X22 hx hby d6_134 #[vr a, vr y, vi (own_hb (own_hb (own_hb (-1 : Int32) c0) c1) c2), vr y, vi 3, vi 0, vi c2] ?_
    show Goes _ _ _ _ _ (fT T22 m 136 #[vr a, vr y, vi (own_hb (own_hb (own_hb (-1 : Int32) c0) c1) c2), vr y, vi 3, vi 0, vi c2] [])
    have AL_a : AlOf Z h22 a (fun _ => (-1 : Int32)) ((own_hb (own_hb (own_hb (-1 : Int32) c0) c1) c2) + 1) (0 : Int32) (4 : Int32) := own_al0 A_a F_basic_a F_codePoints_a F_size_a F_supplementary_a V_b14 V_b19 rfl lt_a_b14 lt_a_b19 ne_b14_b19 (own_nb hb3).2 (own_nb hb3).1
    refine gI X22 hx hby d6_136 rfl rfl ?_
    refine gI X22 hx hby d6_138 rfl rfl ?_
    refine gU X22 hx hby d6_140 (tlt (by decide : ((0 : Int32) < (3 : Int32)))).2.1 ?_
    refine gA X22 hx hby d6_143 rfl rfl rfl ?_
    refine gI X22 hx hby d6_144 rfl rfl ?_
    obtain ⟨cl24, Ar24, -, S24, N24z, H24, -⟩ := id V_y
    have hin24 : ¬ ((0 : Int32) < 0 ∨ cl24.slots.size ≤ ((0 : Int32)).toNatClampNeg) := inb_of S24 ⟨by decide, by decide⟩
    have hat24 : cl24.slots[((0 : Int32)).toNatClampNeg]? = some (.int c0) := Has.at H24 hin24 rfl
    refine Gs (fun _ tk => X22.iaload hx (j := (0 : Int32)) (v := (.int c0)) (by rw [e22]; exact Ar24.1) (State.isArrayOf_alike hZ.alike Ar24.2.1) Ar24.2.2 hin24 hat24 (g := (mkF m 146 #[vr a, vr y, vi (own_hb (own_hb (own_hb (-1 : Int32) c0) c1) c2), vr y, vi 3, vi 0, vi c2] [(.int 0), (.ref y)])) rfl rfl (hb hby d6_146) _ tk) ?_
    show Goes _ _ _ _ _ (fT T22 m 147 #[vr a, vr y, vi (own_hb (own_hb (own_hb (-1 : Int32) c0) c1) c2), vr y, vi 3, vi 0, vi c2] [(.int c0)])
    refine gS X22 hx hby d6_147 #[vr a, vr y, vi (own_hb (own_hb (own_hb (-1 : Int32) c0) c1) c2), vr y, vi 3, vi 0, vi c0] ?_
    refine gA X22 hx hby d6_149 rfl rfl rfl ?_
    refine gI X22 hx hby d6_150 rfl rfl ?_
    refine cV X22 hx hZ hw hown hby hml e22 mN4 30 31 33 32 34 9 0 (rm_label l Z a0 hw [] a (fun _ => (-1 : Int32)) ((own_hb (own_hb (own_hb (-1 : Int32) c0) c1) c2) + 1) (0 : Int32) (4 : Int32) c0 h22 n0 Z0 AL_a r_c0.1 r_c0.2) A_a d6_152 (lenOf own_pd0 rfl) N22 (fun T25 L25 X25 e25 N25 => ?_)
    show Goes _ _ _ _ _ (fT T25 m 155 #[vr a, vr y, vi (own_hb (own_hb (own_hb (-1 : Int32) c0) c1) c2), vr y, vi 3, vi 0, vi c0] [(.int ((fun _ => (-1 : Int32)) c0.toNatClampNeg))])
    refine gC X25 hx hby d6_155 ?_
    have hc156_26 : ((fun _ => (-1 : Int32)) c0.toNatClampNeg) = (-1 : Int32) := rfl
    refine gY X25 hx hby d6_156 156 174 (teq hc156_26).1 ?_
    refine gA X25 hx hby d6_174 rfl rfl rfl ?_
    refine gI X25 hx hby d6_175 rfl rfl ?_
    have hs0 := own_cb hb3 r_c0.1 (fun q => Int.le_trans ((fun q => Int.le_trans (hk0.2.2 q) hk1.2.1) q) hk2.2.1)
    refine cVg X25 hx hZ hw hown hby hml e25 mN5 35 36 38 37 39 9 0 (rm_add l Z a0 hw [] a (fun _ => (-1 : Int32)) ((own_hb (own_hb (own_hb (-1 : Int32) c0) c1) c2) + 1) (0 : Int32) (4 : Int32) c0 h22 n0 Z0 AL_a r_c0.1 r_c0.2 hs0 (by decide) (by decide) g_a) A_a d6_177 (lenOf own_pd0 rfl) (fun _ T27 L27 X27 hQ27 => ?_)
    obtain ⟨rfl, N27q, K27, ALn27⟩ := hQ27
    have N27 := Fr.app N25 N27q
    replace AL_a : AlOf Z T27.heap a (own_up (fun _ => (-1 : Int32)) c0.toNatClampNeg (1 : Int32)) ((own_hb (own_hb (own_hb (-1 : Int32) c0) c1) c2) + 1) (1 : Int32) (4 : Int32) := ALn27
    replace A_a := AL_a.exa
    replace V_y := K27.arv V_y ly
    replace Z0 := Nat.le_trans Z0 K27.1
    show Goes _ _ _ _ _ (fT T27 m 180 #[vr a, vr y, vi (own_hb (own_hb (own_hb (-1 : Int32) c0) c1) c2), vr y, vi 3, vi 0, vi c0] [(.int 1)])
    refine Gz (XS.pop X27.here hx rfl (hb hby d6_180) rfl rfl) ?_
    show Goes _ _ _ _ _ (fT T27 m 181 #[vr a, vr y, vi (own_hb (own_hb (own_hb (-1 : Int32) c0) c1) c2), vr y, vi 3, vi 0, vi c0] [])
    refine Gz (XS.iinc X27.here hx rfl (hb hby d6_181) rfl (l' := #[vr a, vr y, vi (own_hb (own_hb (own_hb (-1 : Int32) c0) c1) c2), vr y, vi 3, vi ((0 : Int32) + (1 : Int32)), vi c0]) rfl) ?_
    show Goes _ _ _ _ _ (fT T27 m 184 #[vr a, vr y, vi (own_hb (own_hb (own_hb (-1 : Int32) c0) c1) c2), vr y, vi 3, vi 1, vi c0] [])
    refine gG X27 hx hby d6_184 184 136 ?_
    refine gI X27 hx hby d6_136 rfl rfl ?_
    refine gI X27 hx hby d6_138 rfl rfl ?_
    refine gU X27 hx hby d6_140 (tlt (by decide : ((1 : Int32) < (3 : Int32)))).2.1 ?_
    refine gA X27 hx hby d6_143 rfl rfl rfl ?_
    refine gI X27 hx hby d6_144 rfl rfl ?_
    show Goes _ _ _ _ _ (fT T27 m 146 #[vr a, vr y, vi (own_hb (own_hb (own_hb (-1 : Int32) c0) c1) c2), vr y, vi 3, vi 1, vi c0] [(.int 1), (.ref y)])
    obtain ⟨cl28, Ar28, -, S28, N28z, H28, -⟩ := id V_y
    have hin28 : ¬ ((1 : Int32) < 0 ∨ cl28.slots.size ≤ ((1 : Int32)).toNatClampNeg) := inb_of S28 ⟨by decide, by decide⟩
    have hat28 : cl28.slots[((1 : Int32)).toNatClampNeg]? = some (.int c1) := Has.at H28 hin28 rfl
    refine Gs (fun _ tk => X27.iaload hx (j := (1 : Int32)) (v := (.int c1)) Ar28.1 (State.isArrayOf_alike hZ.alike Ar28.2.1) Ar28.2.2 hin28 hat28 (g := (mkF m 146 #[vr a, vr y, vi (own_hb (own_hb (own_hb (-1 : Int32) c0) c1) c2), vr y, vi 3, vi 1, vi c0] [(.int 1), (.ref y)])) rfl rfl (hb hby d6_146) _ tk) ?_
    show Goes _ _ _ _ _ (fT T27 m 147 #[vr a, vr y, vi (own_hb (own_hb (own_hb (-1 : Int32) c0) c1) c2), vr y, vi 3, vi 1, vi c0] [(.int c1)])
    refine gS X27 hx hby d6_147 #[vr a, vr y, vi (own_hb (own_hb (own_hb (-1 : Int32) c0) c1) c2), vr y, vi 3, vi 1, vi c1] ?_
    refine gA X27 hx hby d6_149 rfl rfl rfl ?_
    refine gI X27 hx hby d6_150 rfl rfl ?_
    refine cV X27 hx hZ hw hown hby hml rfl mN4 30 31 33 32 34 9 0 (rm_label l Z a0 hw [] a (own_up (fun _ => (-1 : Int32)) c0.toNatClampNeg (1 : Int32)) ((own_hb (own_hb (own_hb (-1 : Int32) c0) c1) c2) + 1) (1 : Int32) (4 : Int32) c1 T27.heap n0 Z0 AL_a r_c1.1 r_c1.2) A_a d6_152 (lenOf own_pd0 rfl) N27 (fun T29 L29 X29 e29 N29 => ?_)
    show Goes _ _ _ _ _ (fT T29 m 155 #[vr a, vr y, vi (own_hb (own_hb (own_hb (-1 : Int32) c0) c1) c2), vr y, vi 3, vi 1, vi c1] [(.int ((own_up (fun _ => (-1 : Int32)) c0.toNatClampNeg (1 : Int32)) c1.toNatClampNeg))])
    refine gC X29 hx hby d6_155 ?_
    have hc156_30 : ((own_up (fun _ => (-1 : Int32)) c0.toNatClampNeg (1 : Int32)) c1.toNatClampNeg) = (-1 : Int32) := by rw [own_upN (fun e => d_c0_c1 (own_tnE r_c0.1 r_c1.1 e.symm))]
    refine gY X29 hx hby d6_156 156 174 (teq hc156_30).1 ?_
    refine gA X29 hx hby d6_174 rfl rfl rfl ?_
    refine gI X29 hx hby d6_175 rfl rfl ?_
    have hs1 := own_cb hb3 r_c1.1 (fun q => Int.le_trans (hk1.2.2 q) hk2.2.1)
    refine cVg X29 hx hZ hw hown hby hml e29 mN5 35 36 38 37 39 9 0 (rm_add l Z a0 hw [] a (own_up (fun _ => (-1 : Int32)) c0.toNatClampNeg (1 : Int32)) ((own_hb (own_hb (own_hb (-1 : Int32) c0) c1) c2) + 1) (1 : Int32) (4 : Int32) c1 T27.heap n0 Z0 AL_a r_c1.1 r_c1.2 hs1 (by decide) (by decide) g_a) A_a d6_177 (lenOf own_pd0 rfl) (fun _ T31 L31 X31 hQ31 => ?_)
    obtain ⟨rfl, N31q, K31, ALn31⟩ := hQ31
    have N31 := Fr.app N29 N31q
    replace AL_a : AlOf Z T31.heap a (own_up (own_up (fun _ => (-1 : Int32)) c0.toNatClampNeg (1 : Int32)) c1.toNatClampNeg (2 : Int32)) ((own_hb (own_hb (own_hb (-1 : Int32) c0) c1) c2) + 1) (2 : Int32) (4 : Int32) := ALn31
    replace A_a := AL_a.exa
    replace V_y := K31.arv V_y ly
    replace Z0 := Nat.le_trans Z0 K31.1
    show Goes _ _ _ _ _ (fT T31 m 180 #[vr a, vr y, vi (own_hb (own_hb (own_hb (-1 : Int32) c0) c1) c2), vr y, vi 3, vi 1, vi c1] [(.int 2)])
    refine Gz (XS.pop X31.here hx rfl (hb hby d6_180) rfl rfl) ?_
    show Goes _ _ _ _ _ (fT T31 m 181 #[vr a, vr y, vi (own_hb (own_hb (own_hb (-1 : Int32) c0) c1) c2), vr y, vi 3, vi 1, vi c1] [])
    refine Gz (XS.iinc X31.here hx rfl (hb hby d6_181) rfl (l' := #[vr a, vr y, vi (own_hb (own_hb (own_hb (-1 : Int32) c0) c1) c2), vr y, vi 3, vi ((1 : Int32) + (1 : Int32)), vi c1]) rfl) ?_
    show Goes _ _ _ _ _ (fT T31 m 184 #[vr a, vr y, vi (own_hb (own_hb (own_hb (-1 : Int32) c0) c1) c2), vr y, vi 3, vi 2, vi c1] [])
    refine gG X31 hx hby d6_184 184 136 ?_
    refine gI X31 hx hby d6_136 rfl rfl ?_
    refine gI X31 hx hby d6_138 rfl rfl ?_
    refine gU X31 hx hby d6_140 (tlt (by decide : ((2 : Int32) < (3 : Int32)))).2.1 ?_
    refine gA X31 hx hby d6_143 rfl rfl rfl ?_
    refine gI X31 hx hby d6_144 rfl rfl ?_
    show Goes _ _ _ _ _ (fT T31 m 146 #[vr a, vr y, vi (own_hb (own_hb (own_hb (-1 : Int32) c0) c1) c2), vr y, vi 3, vi 2, vi c1] [(.int 2), (.ref y)])
    obtain ⟨cl32, Ar32, -, S32, N32z, H32, -⟩ := id V_y
    have hin32 : ¬ ((2 : Int32) < 0 ∨ cl32.slots.size ≤ ((2 : Int32)).toNatClampNeg) := inb_of S32 ⟨by decide, by decide⟩
    have hat32 : cl32.slots[((2 : Int32)).toNatClampNeg]? = some (.int c2) := Has.at H32 hin32 rfl
    refine Gs (fun _ tk => X31.iaload hx (j := (2 : Int32)) (v := (.int c2)) Ar32.1 (State.isArrayOf_alike hZ.alike Ar32.2.1) Ar32.2.2 hin32 hat32 (g := (mkF m 146 #[vr a, vr y, vi (own_hb (own_hb (own_hb (-1 : Int32) c0) c1) c2), vr y, vi 3, vi 2, vi c1] [(.int 2), (.ref y)])) rfl rfl (hb hby d6_146) _ tk) ?_
    show Goes _ _ _ _ _ (fT T31 m 147 #[vr a, vr y, vi (own_hb (own_hb (own_hb (-1 : Int32) c0) c1) c2), vr y, vi 3, vi 2, vi c1] [(.int c2)])
    refine gS X31 hx hby d6_147 #[vr a, vr y, vi (own_hb (own_hb (own_hb (-1 : Int32) c0) c1) c2), vr y, vi 3, vi 2, vi c2] ?_
    refine gA X31 hx hby d6_149 rfl rfl rfl ?_
    refine gI X31 hx hby d6_150 rfl rfl ?_
    refine cV X31 hx hZ hw hown hby hml rfl mN4 30 31 33 32 34 9 0 (rm_label l Z a0 hw [] a (own_up (own_up (fun _ => (-1 : Int32)) c0.toNatClampNeg (1 : Int32)) c1.toNatClampNeg (2 : Int32)) ((own_hb (own_hb (own_hb (-1 : Int32) c0) c1) c2) + 1) (2 : Int32) (4 : Int32) c2 T31.heap n0 Z0 AL_a r_c2.1 r_c2.2) A_a d6_152 (lenOf own_pd0 rfl) N31 (fun T33 L33 X33 e33 N33 => ?_)
    show Goes _ _ _ _ _ (fT T33 m 155 #[vr a, vr y, vi (own_hb (own_hb (own_hb (-1 : Int32) c0) c1) c2), vr y, vi 3, vi 2, vi c2] [(.int ((own_up (own_up (fun _ => (-1 : Int32)) c0.toNatClampNeg (1 : Int32)) c1.toNatClampNeg (2 : Int32)) c2.toNatClampNeg))])
    refine gC X33 hx hby d6_155 ?_
    have hc156_34 : ((own_up (own_up (fun _ => (-1 : Int32)) c0.toNatClampNeg (1 : Int32)) c1.toNatClampNeg (2 : Int32)) c2.toNatClampNeg) = (-1 : Int32) := by rw [own_upN (fun e => d_c1_c2 (own_tnE r_c1.1 r_c2.1 e.symm)), own_upN (fun e => d_c0_c2 (own_tnE r_c0.1 r_c2.1 e.symm))]
    refine gY X33 hx hby d6_156 156 174 (teq hc156_34).1 ?_
    refine gA X33 hx hby d6_174 rfl rfl rfl ?_
    refine gI X33 hx hby d6_175 rfl rfl ?_
    have hs2 := own_cb hb3 r_c2.1 hk2.2.2
    refine cVg X33 hx hZ hw hown hby hml e33 mN5 35 36 38 37 39 9 0 (rm_add l Z a0 hw [] a (own_up (own_up (fun _ => (-1 : Int32)) c0.toNatClampNeg (1 : Int32)) c1.toNatClampNeg (2 : Int32)) ((own_hb (own_hb (own_hb (-1 : Int32) c0) c1) c2) + 1) (2 : Int32) (4 : Int32) c2 T31.heap n0 Z0 AL_a r_c2.1 r_c2.2 hs2 (by decide) (by decide) g_a) A_a d6_177 (lenOf own_pd0 rfl) (fun _ T35 L35 X35 hQ35 => ?_)
    obtain ⟨rfl, N35q, K35, ALn35⟩ := hQ35
    have N35 := Fr.app N33 N35q
    replace AL_a : AlOf Z T35.heap a (own_up (own_up (own_up (fun _ => (-1 : Int32)) c0.toNatClampNeg (1 : Int32)) c1.toNatClampNeg (2 : Int32)) c2.toNatClampNeg (3 : Int32)) ((own_hb (own_hb (own_hb (-1 : Int32) c0) c1) c2) + 1) (3 : Int32) (4 : Int32) := ALn35
    replace Z0 := Nat.le_trans Z0 K35.1
    show Goes _ _ _ _ _ (fT T35 m 180 #[vr a, vr y, vi (own_hb (own_hb (own_hb (-1 : Int32) c0) c1) c2), vr y, vi 3, vi 2, vi c2] [(.int 3)])
    refine Gz (XS.pop X35.here hx rfl (hb hby d6_180) rfl rfl) ?_
    show Goes _ _ _ _ _ (fT T35 m 181 #[vr a, vr y, vi (own_hb (own_hb (own_hb (-1 : Int32) c0) c1) c2), vr y, vi 3, vi 2, vi c2] [])
    refine Gz (XS.iinc X35.here hx rfl (hb hby d6_181) rfl (l' := #[vr a, vr y, vi (own_hb (own_hb (own_hb (-1 : Int32) c0) c1) c2), vr y, vi 3, vi ((2 : Int32) + (1 : Int32)), vi c2]) rfl) ?_
    show Goes _ _ _ _ _ (fT T35 m 184 #[vr a, vr y, vi (own_hb (own_hb (own_hb (-1 : Int32) c0) c1) c2), vr y, vi 3, vi 3, vi c2] [])
    refine gG X35 hx hby d6_184 184 136 ?_
    refine gI X35 hx hby d6_136 rfl rfl ?_
    refine gI X35 hx hby d6_138 rfl rfl ?_
    refine gY X35 hx hby d6_140 140 187 (flt (by decide : ¬ ((3 : Int32) < (3 : Int32)))).2.1 ?_
    refine Goes.ret X35 none (fun _ => rfl) hlk (by decide) (by decide) ?_ (fun fs hr => ?_)
    ·exact ⟨rfl, N35, AL_a, Z0⟩
    ·exact X35.returnOut hx hret (hb hby d6_187) hr
   intro J87
   by_cases hc77_36 : c2 < 65536
   ·refine gU X11 hx hby d6_77 (tlt hc77_36).2.1 ?_
    refine gN X11 hx hby d6_80 rfl rfl ?_
    refine gI X11 hx hby d6_81 rfl rfl ?_
    refine cS X11 hx hZ hw hown hby hml e11 mN1 22 23 25 24 0 (rm_max l Z a0 hw [] (own_hb (own_hb (-1 : Int32) c0) c1) c2 h6 n0 Z0) d6_83 (lenOf own_pd2 rfl) N11 (fun T37 L37 X37 e37 N37 => ?_)
    show Goes _ _ _ _ _ (fT T37 m 86 #[vr a, vr y, vi (own_hb (own_hb (-1 : Int32) c0) c1), vr y, vi 3, vi 2, vi c2] [(.int (own_mx (own_hb (own_hb (-1 : Int32) c0) c1) c2))])
    refine gs X37 hx hby d6_86 #[vr a, vr y, vi (own_mx (own_hb (own_hb (-1 : Int32) c0) c1) c2), vr y, vi 3, vi 2, vi c2] ?_
    show Goes _ _ _ _ _ (fT T37 m 87 #[vr a, vr y, vi (own_mx (own_hb (own_hb (-1 : Int32) c0) c1) c2), vr y, vi 3, vi 2, vi c2] [])
    rw [show (own_hb (own_hb (own_hb (-1 : Int32) c0) c1) c2) = (own_mx (own_hb (own_hb (-1 : Int32) c0) c1) c2) from if_pos hc77_36] at J87
    exact J87 _ _ X37 e37 N37
   ·refine gY X11 hx hby d6_77 77 87 (flt hc77_36).2.1 ?_
    show Goes _ _ _ _ _ (fT T11 m 87 #[vr a, vr y, vi (own_hb (own_hb (-1 : Int32) c0) c1), vr y, vi 3, vi 2, vi c2] [])
    rw [show (own_hb (own_hb (own_hb (-1 : Int32) c0) c1) c2) = (own_hb (own_hb (-1 : Int32) c0) c1) from if_neg hc77_36] at J87
    exact J87 _ _ X11 e11 N11
  intro J87
  by_cases hc77_38 : c1 < 65536
  ·refine gU X9 hx hby d6_77 (tlt hc77_38).2.1 ?_
   refine gN X9 hx hby d6_80 rfl rfl ?_
   refine gI X9 hx hby d6_81 rfl rfl ?_
   refine cS X9 hx hZ hw hown hby hml e9 mN1 22 23 25 24 0 (rm_max l Z a0 hw [] (own_hb (-1 : Int32) c0) c1 h6 n0 Z0) d6_83 (lenOf own_pd2 rfl) N9 (fun T39 L39 X39 e39 N39 => ?_)
   show Goes _ _ _ _ _ (fT T39 m 86 #[vr a, vr y, vi (own_hb (-1 : Int32) c0), vr y, vi 3, vi 1, vi c1] [(.int (own_mx (own_hb (-1 : Int32) c0) c1))])
   refine gs X39 hx hby d6_86 #[vr a, vr y, vi (own_mx (own_hb (-1 : Int32) c0) c1), vr y, vi 3, vi 1, vi c1] ?_
   show Goes _ _ _ _ _ (fT T39 m 87 #[vr a, vr y, vi (own_mx (own_hb (-1 : Int32) c0) c1), vr y, vi 3, vi 1, vi c1] [])
   rw [show (own_hb (own_hb (-1 : Int32) c0) c1) = (own_mx (own_hb (-1 : Int32) c0) c1) from if_pos hc77_38] at J87
   exact J87 _ _ X39 e39 N39
  ·refine gY X9 hx hby d6_77 77 87 (flt hc77_38).2.1 ?_
   show Goes _ _ _ _ _ (fT T9 m 87 #[vr a, vr y, vi (own_hb (-1 : Int32) c0), vr y, vi 3, vi 1, vi c1] [])
   rw [show (own_hb (own_hb (-1 : Int32) c0) c1) = (own_hb (-1 : Int32) c0) from if_neg hc77_38] at J87
   exact J87 _ _ X9 e9 N9
 intro J87
 by_cases hc77_40 : c0 < 65536
 ·refine gU X6 hx hby d6_77 (tlt hc77_40).2.1 ?_
  refine gN X6 hx hby d6_80 rfl rfl ?_
  refine gI X6 hx hby d6_81 rfl rfl ?_
  refine cS X6 hx hZ hw hown hby hml e6 mN1 22 23 25 24 0 (rm_max l Z a0 hw [] (-1 : Int32) c0 h6 n0 Z0) d6_83 (lenOf own_pd2 rfl) N6 (fun T41 L41 X41 e41 N41 => ?_)
  show Goes _ _ _ _ _ (fT T41 m 86 #[vr a, vr y, vi (-1 : Int32), vr y, vi 3, vi 0, vi c0] [(.int (own_mx (-1 : Int32) c0))])
  refine gs X41 hx hby d6_86 #[vr a, vr y, vi (own_mx (-1 : Int32) c0), vr y, vi 3, vi 0, vi c0] ?_
  show Goes _ _ _ _ _ (fT T41 m 87 #[vr a, vr y, vi (own_mx (-1 : Int32) c0), vr y, vi 3, vi 0, vi c0] [])
  rw [show (own_hb (-1 : Int32) c0) = (own_mx (-1 : Int32) c0) from if_pos hc77_40] at J87
  exact J87 _ _ X41 e41 N41
 ·refine gY X6 hx hby d6_77 77 87 (flt hc77_40).2.1 ?_
  show Goes _ _ _ _ _ (fT T6 m 87 #[vr a, vr y, vi (-1 : Int32), vr y, vi 3, vi 0, vi c0] [])
  rw [show (own_hb (-1 : Int32) c0) = (-1 : Int32) from if_neg hc77_40] at J87
  exact J87 _ _ X6 e6 N6
theorem own_pd3 : parseMethodDescriptor "([I)V" = some ⟨[(.array .int)], none⟩ := by decide +kernel
theorem own_ef_rm_law (m : MethodId) (x0 : Int32) (x1 : Int32) (x2 : Int32) (x3 : Int32) (x4 : Int32) : entryFrame m #[(.int x0), (.int x1), (.int x2), (.int x3), (.int x4)] maxLocals = mkF m 0 #[vi x0, vi x1, vi x2, vi x3, vi x4, vu, vu, vu, vu, vu, vu, vu, vu, vu] [] := by first | (simp [entryFrame, mkF, argsToLocals, Value.category, maxLocals]; done) | rfl
def Q_rm_law (Z : State) (x0 : Int32) (x1 : Int32) (x2 : Int32) (x3 : Int32) (x4 : Int32) (h0 : Heap) (n0 : Nat) (v : Option Value) (h : Heap) (L : List Loc) : Prop := v = some (.int 1) ∧ Fr n0 L
theorem rm_law (l : Launch) (Z : State) (a0 : Array Value) (hw : HW a0 Z) (ws : List Jvm.Cond) (x0 : Int32) (x1 : Int32) (x2 : Int32) (x3 : Int32) (x4 : Int32) (h0 : Heap) (n0 : Nat) (Z0 : n0 ≤ h0.size) :
  Met l Z x code maxLocals ret room_1 ws #[(.int x0), (.int x1), (.int x2), (.int x3), (.int x4)] h0 (Q_rm_law Z x0 x1 x2 x3 x4 h0 n0) := by
 refine own_met (plainFor_of_name own_pn0) ?_
 intro p e s m below meth c s₁ hret hx hby hlk hml hown hnm X0 e0 hZ hh
 have N0 := Fr.nil n0
 refine Gz (castTop (own_ef_rm_law m x0 x1 x2 x3 x4)) ?_
 show Goes _ _ _ _ _ (fT s₁ m 0 #[vi x0, vi x1, vi x2, vi x3, vi x4, vu, vu, vu, vu, vu, vu, vu, vu, vu] [])
 refine gN X0 hx hby at_0 rfl rfl ?_
 refine gC X0 hx hby at_1 ?_
 show Goes _ _ _ _ _ (fT s₁ m 2 #[vi x0, vi x1, vi x2, vi x3, vi x4, vu, vu, vu, vu, vu, vu, vu, vu, vu] [(.int 3), (.int x3)])
 refine Gz (XS.iand X0.here hx rfl (hb hby at_2) rfl) ?_
 show Goes _ _ _ _ _ (fT s₁ m 3 #[vi x0, vi x1, vi x2, vi x3, vi x4, vu, vu, vu, vu, vu, vu, vu, vu, vu] [(.int (x3 &&& 3))])
 generalize hn0' : (x3 &&& 3) = n
 have hn : n = 0 ∨ n = 1 ∨ n = 2 ∨ n = 3 := by rw [← hn0']; exact own_n4 _
 clear hn0'
 show Goes _ _ _ _ _ (fT s₁ m 3 #[vi x0, vi x1, vi x2, vi x3, vi x4, vu, vu, vu, vu, vu, vu, vu, vu, vu] [(.int n)])
 refine gS X0 hx hby at_3 #[vi x0, vi x1, vi x2, vi x3, vi x4, vi n, vu, vu, vu, vu, vu, vu, vu, vu] ?_
 refine gN X0 hx hby at_5 rfl rfl ?_
 refine gC X0 hx hby at_6 ?_
 show Goes _ _ _ _ _ (fT s₁ m 7 #[vi x0, vi x1, vi x2, vi x3, vi x4, vi n, vu, vu, vu, vu, vu, vu, vu, vu] [(.int 2), (.int x3)])
 refine Gz (XS.iushr X0.here hx rfl (hb hby at_7) rfl) ?_
 show Goes _ _ _ _ _ (fT s₁ m 8 #[vi x0, vi x1, vi x2, vi x3, vi x4, vi n, vu, vu, vu, vu, vu, vu, vu, vu] [(.int ((x3.toUInt32 >>> ((2 : Int32) &&& 31).toUInt32).toInt32))])
 refine gB X0 hx hby at_8 ?_
 show Goes _ _ _ _ _ (fT s₁ m 10 #[vi x0, vi x1, vi x2, vi x3, vi x4, vi n, vu, vu, vu, vu, vu, vu, vu, vu] [(.int 7), (.int ((x3.toUInt32 >>> ((2 : Int32) &&& 31).toUInt32).toInt32))])
 refine Gz (XS.iand X0.here hx rfl (hb hby at_10) rfl) ?_
 show Goes _ _ _ _ _ (fT s₁ m 11 #[vi x0, vi x1, vi x2, vi x3, vi x4, vi n, vu, vu, vu, vu, vu, vu, vu, vu] [(.int (((x3.toUInt32 >>> ((2 : Int32) &&& 31).toUInt32).toInt32) &&& (7 : Int32)))])
 generalize (((x3.toUInt32 >>> ((2 : Int32) &&& 31).toUInt32).toInt32) &&& (7 : Int32)) = md
 show Goes _ _ _ _ _ (fT s₁ m 11 #[vi x0, vi x1, vi x2, vi x3, vi x4, vi n, vu, vu, vu, vu, vu, vu, vu, vu] [(.int md)])
 refine gS X0 hx hby at_11 #[vi x0, vi x1, vi x2, vi x3, vi x4, vi n, vi md, vu, vu, vu, vu, vu, vu, vu] ?_
 refine gN X0 hx hby at_13 rfl rfl ?_
 refine cS X0 hx hZ hw hown hby hml e0 mN0 0 1 3 2 0 (rm_cp l Z a0 hw [] x0 h0 n0 Z0) at_14 (lenOf own_pd0 rfl) N0 (fun T1 L1 X1 e1 N1 => ?_)
 show Goes _ _ _ _ _ (fT T1 m 17 #[vi x0, vi x1, vi x2, vi x3, vi x4, vi n, vi md, vu, vu, vu, vu, vu, vu, vu] [(.int ((x0 &&& 2147483647) % 1114112))])
 have r_c0 := own_cp x0
 generalize ((x0 &&& 2147483647) % 1114112) = c0 at r_c0 ⊢
 show Goes _ _ _ _ _ (fT T1 m 17 #[vi x0, vi x1, vi x2, vi x3, vi x4, vi n, vi md, vu, vu, vu, vu, vu, vu, vu] [(.int c0)])
 refine gS X1 hx hby at_17 #[vi x0, vi x1, vi x2, vi x3, vi x4, vi n, vi md, vi c0, vu, vu, vu, vu, vu, vu] ?_
 refine gN X1 hx hby at_19 rfl rfl ?_
 refine cS X1 hx hZ hw hown hby hml e1 mN0 0 1 3 2 0 (rm_cp l Z a0 hw [] x1 h0 n0 Z0) at_20 (lenOf own_pd0 rfl) N1 (fun T2 L2 X2 e2 N2 => ?_)
 show Goes _ _ _ _ _ (fT T2 m 23 #[vi x0, vi x1, vi x2, vi x3, vi x4, vi n, vi md, vi c0, vu, vu, vu, vu, vu, vu] [(.int ((x1 &&& 2147483647) % 1114112))])
 have r_c1 := own_cp x1
 generalize ((x1 &&& 2147483647) % 1114112) = c1 at r_c1 ⊢
 show Goes _ _ _ _ _ (fT T2 m 23 #[vi x0, vi x1, vi x2, vi x3, vi x4, vi n, vi md, vi c0, vu, vu, vu, vu, vu, vu] [(.int c1)])
 refine gS X2 hx hby at_23 #[vi x0, vi x1, vi x2, vi x3, vi x4, vi n, vi md, vi c0, vi c1, vu, vu, vu, vu, vu] ?_
 refine gN X2 hx hby at_25 rfl rfl ?_
 refine cS X2 hx hZ hw hown hby hml e2 mN0 0 1 3 2 0 (rm_cp l Z a0 hw [] x2 h0 n0 Z0) at_26 (lenOf own_pd0 rfl) N2 (fun T3 L3 X3 e3 N3 => ?_)
 show Goes _ _ _ _ _ (fT T3 m 29 #[vi x0, vi x1, vi x2, vi x3, vi x4, vi n, vi md, vi c0, vi c1, vu, vu, vu, vu, vu] [(.int ((x2 &&& 2147483647) % 1114112))])
 have r_c2 := own_cp x2
 generalize ((x2 &&& 2147483647) % 1114112) = c2 at r_c2 ⊢
 show Goes _ _ _ _ _ (fT T3 m 29 #[vi x0, vi x1, vi x2, vi x3, vi x4, vi n, vi md, vi c0, vi c1, vu, vu, vu, vu, vu] [(.int c2)])
 refine gS X3 hx hby at_29 #[vi x0, vi x1, vi x2, vi x3, vi x4, vi n, vi md, vi c0, vi c1, vi c2, vu, vu, vu, vu] ?_
 show Goes _ _ _ _ _ (fT T3 m 31 #[vi x0, vi x1, vi x2, vi x3, vi x4, vi n, vi md, vi c0, vi c1, vi c2, vu, vu, vu, vu] [])
 obtain rfl | rfl | rfl | rfl := hn
 ·show Goes _ _ _ _ _ (fT T3 m 31 #[vi x0, vi x1, vi x2, vi x3, vi x4, vi 0, vi md, vi c0, vi c1, vi c2, vu, vu, vu, vu] [])
  refine gI X3 hx hby at_31 rfl rfl ?_
  refine gC X3 hx hby at_33 ?_
  refine gY X3 hx hby at_34 34 46 (tlt (by decide : ((0 : Int32) < (2 : Int32)))).1 ?_
  refine gI X3 hx hby at_46 rfl rfl ?_
  refine gC X3 hx hby at_48 ?_
  refine gY X3 hx hby at_49 49 68 (tlt (by decide : ((0 : Int32) < (3 : Int32)))).1 ?_
  show Goes _ _ _ _ _ (fT T3 m 68 #[vi x0, vi x1, vi x2, vi x3, vi x4, vi 0, vi md, vi c0, vi c1, vi c2, vu, vu, vu, vu] [])
  refine gI X3 hx hby at_68 rfl rfl ?_
  obtain ⟨T4, h4, k4, X4, e4, E4, A4, st4⟩ := newP X3 hx hZ (gw hw 6 rfl) e3 (g := (mkF m 70 #[vi x0, vi x1, vi x2, vi x3, vi x4, vi 0, vi md, vi c0, vi c1, vi c2, vu, vu, vu, vu] [(.int 0)])) rfl (hb hby at_70) rfl (by decide) (cap := 0) (by decide) (by decide) (by decide) (by decide)
  obtain ⟨b4, gq4⟩ : ∃ z, z = h0.size := ⟨_, rfl⟩
  rw [← gq4] at A4 st4
  replace Z0 : n0 ≤ h4.size := Nat.le_trans Z0 E4.1
  have V_b4 : Arv Z h4 b4 k4 .int 0 [] (.int 0) := Arv.new A4 (by decide)
  refine Gs st4 ?_
  show Goes _ _ _ _ _ (fT T4 m 72 #[vi x0, vi x1, vi x2, vi x3, vi x4, vi 0, vi md, vi c0, vi c1, vi c2, vu, vu, vu, vu] [(.ref b4)])
  refine Gz (XS.astore X4.here hx rfl (hb hby at_72) rfl rfl (l' := #[vi x0, vi x1, vi x2, vi x3, vi x4, vi 0, vi md, vi c0, vi c1, vi c2, vr b4, vu, vu, vu]) rfl) ?_
  refine gI X4 hx hby at_74 rfl rfl ?_
  refine gy X4 hx hby at_76 76 85 ((if0 _ _).trans (flt (by decide : ¬ ((0 : Int32) < (0 : Int32)))).2.2.2) ?_
  refine gI X4 hx hby at_85 rfl rfl ?_
  refine gC X4 hx hby at_87 ?_
  refine gY X4 hx hby at_88 88 97 (flt (by decide : ¬ ((1 : Int32) < (0 : Int32)))).2.2.2 ?_
  show Goes _ _ _ _ _ (fT T4 m 97 #[vi x0, vi x1, vi x2, vi x3, vi x4, vi 0, vi md, vi c0, vi c1, vi c2, vr b4, vu, vu, vu] [])
  refine gI X4 hx hby at_97 rfl rfl ?_
  refine gC X4 hx hby at_99 ?_
  refine gY X4 hx hby at_100 100 109 (flt (by decide : ¬ ((2 : Int32) < (0 : Int32)))).2.2.2 ?_
  show Goes _ _ _ _ _ (fT T4 m 109 #[vi x0, vi x1, vi x2, vi x3, vi x4, vi 0, vi md, vi c0, vi c1, vi c2, vr b4, vu, vu, vu] [])
  obtain ⟨T5, h5, X5, e5, E5, A5, D5, -, st5⟩ := newO X4 hx hZ hown (gw hw 7 rfl) (gw hw 8 rfl) (gw hw 9 rfl) e4 (g := (mkF m 109 #[vi x0, vi x1, vi x2, vi x3, vi x4, vi 0, vi md, vi c0, vi c1, vi c2, vr b4, vu, vu, vu] [])) rfl (hb hby at_109) (by decide) (by decide)
  obtain ⟨b5, gq5⟩ : ∃ z, z = h4.size := ⟨_, rfl⟩
  rw [← gq5] at A5 st5 D5
  have g_b5 : n0 ≤ b5 := by rw [gq5]; exact Z0
  have lt_b4_b5 : b4 < b5 := by rw [gq5]; exact V_b4.lt
  replace V_b4 := V_b4.ext E5
  replace Z0 : n0 ≤ h5.size := Nat.le_trans Z0 E5.1
  have A_b5 : Exa Z h5 b5 "com/example/tandemtrie/tandemtrie/array/Alphabet" := A5
  have F_basic_b5 : Fld Z h5 b5 "com/example/tandemtrie/tandemtrie/array/Alphabet" "basic" "[I" .null := D5 (Or.inl (gw hw 17 rfl)) (ty := (.array .int)) (by decide)
  have F_codePoints_b5 : Fld Z h5 b5 "com/example/tandemtrie/tandemtrie/array/Alphabet" "codePoints" "[I" .null := D5 (Or.inl (gw hw 19 rfl)) (ty := (.array .int)) (by decide)
  have F_size_b5 : Fld Z h5 b5 "com/example/tandemtrie/tandemtrie/array/Alphabet" "size" "I" (.int 0) := D5 (Or.inl (gw hw 41 rfl)) (ty := .int) (by decide)
  have F_supplementary_b5 : Fld Z h5 b5 "com/example/tandemtrie/tandemtrie/array/Alphabet" "supplementary" "[[I" .null := D5 (Or.inl (gw hw 44 rfl)) (ty := (.array (.array .int))) (by decide)
  refine Gs st5 ?_
  show Goes _ _ _ _ _ (fT T5 m 112 #[vi x0, vi x1, vi x2, vi x3, vi x4, vi 0, vi md, vi c0, vi c1, vi c2, vr b4, vu, vu, vu] [(.ref b5)])
  refine Gz (XS.dup X5.here hx rfl (hb hby at_112) rfl rfl) ?_
  refine Gz (XS.aload X5.here hx rfl (hb hby at_113) rfl rfl) ?_
  refine cIg X5 hx hZ hw hown hby hml e5 mN6 10 11 12 9 1 (rm_init0 l Z a0 hw [] b5 b4 k4  h5 n0 Z0 A_b5 F_basic_b5 F_codePoints_b5 F_size_b5 F_supplementary_b5 V_b4 lt_b4_b5 g_b5) at_115 (lenOf own_pd3 rfl) (fun _ T6 L6 X6 hQ6 => ?_)
  obtain ⟨rfl, N6q, AL_b5, Zn⟩ := hQ6
  have N6 := Fr.app N3 N6q
  replace Z0 := Zn
  have A_b5 := AL_b5.exa
  show Goes _ _ _ _ _ (fT T6 m 118 #[vi x0, vi x1, vi x2, vi x3, vi x4, vi 0, vi md, vi c0, vi c1, vi c2, vr b4, vu, vu, vu] [(.ref b5)])
  refine Gz (XS.astore X6.here hx rfl (hb hby at_118) rfl rfl (l' := #[vi x0, vi x1, vi x2, vi x3, vi x4, vi 0, vi md, vi c0, vi c1, vi c2, vr b4, vr b5, vu, vu]) rfl) ?_
  show Goes _ _ _ _ _ (fT T6 m 120 #[vi x0, vi x1, vi x2, vi x3, vi x4, vi 0, vi md, vi c0, vi c1, vi c2, vr b4, vr b5, vu, vu] [])
  refine own_joinTP X6 rfl N6 (P := fun q => 0 ≤ q.toInt ∧ q.toInt < 1114112) (B := fun q T => T.setTop (mkF m 205 #[vi x0, vi x1, vi x2, vi x3, vi x4, vi 0, vi md, vi c0, vi c1, vi c2, vr b4, vr b5, vi q, vu] [])) ?_ ?_
  ·intro T205 L205 q X205 e205 N205 r_q
   show Goes _ _ _ _ _ (fT T205 m 205 #[vi x0, vi x1, vi x2, vi x3, vi x4, vi 0, vi md, vi c0, vi c1, vi c2, vr b4, vr b5, vi q, vu] [])
   refine gI X205 hx hby at_205 rfl rfl ?_
   refine gy X205 hx hby at_207 207 223 ((if0 _ _).trans (flt (by decide : ¬ ((0 : Int32) < (0 : Int32)))).2.2.2) ?_
   refine gI X205 hx hby at_223 rfl rfl ?_
   refine gC X205 hx hby at_225 ?_
   refine gY X205 hx hby at_226 226 242 (flt (by decide : ¬ ((1 : Int32) < (0 : Int32)))).2.2.2 ?_
   refine gI X205 hx hby at_242 rfl rfl ?_
   show Goes _ _ _ _ _ (fT T205 m 244 #[vi x0, vi x1, vi x2, vi x3, vi x4, vi 0, vi md, vi c0, vi c1, vi c2, vr b4, vr b5, vi q, vu] [(.int 0)])
   refine gC X205 hx hby at_244 ?_
   refine gY X205 hx hby at_245 245 261 (flt (by decide : ¬ ((2 : Int32) < (0 : Int32)))).2.2.2 ?_
   refine gC X205 hx hby at_261 ?_
   refine gS X205 hx hby at_262 #[vi x0, vi x1, vi x2, vi x3, vi x4, vi 0, vi md, vi c0, vi c1, vi c2, vr b4, vr b5, vi q, vi (-1 : Int32)] ?_
   refine Gz (XS.aload X205.here hx rfl (hb hby at_264) rfl rfl) ?_
   refine gI X205 hx hby at_266 rfl rfl ?_
   show Goes _ _ _ _ _ (fT T205 m 268 #[vi x0, vi x1, vi x2, vi x3, vi x4, vi 0, vi md, vi c0, vi c1, vi c2, vr b4, vr b5, vi q, vi (-1 : Int32)] [(.int q), (.ref b5)])
   refine cV X205 hx hZ hw hown hby hml e205 mN4 42 31 33 32 34 9 0 (rm_label l Z a0 hw [] b5 (fun _ => (-1 : Int32)) ((-1 : Int32) + (1 : Int32)) (0 : Int32) (1 : Int32) q T6.heap n0 Z0 AL_b5 r_q.1 r_q.2) A_b5 at_268 (lenOf own_pd0 rfl) N205 (fun T7 L7 X7 e7 N7 => ?_)
   show Goes _ _ _ _ _ (fT T7 m 271 #[vi x0, vi x1, vi x2, vi x3, vi x4, vi 0, vi md, vi c0, vi c1, vi c2, vr b4, vr b5, vi q, vi (-1 : Int32)] [(.int ((fun _ => (-1 : Int32)) q.toNatClampNeg))])
   refine gI X7 hx hby at_271 rfl rfl ?_
   have hc273_8 : ((fun _ => (-1 : Int32)) q.toNatClampNeg) = (-1 : Int32) := rfl
   refine gU X7 hx hby at_273 (teq hc273_8).2 ?_
   refine gC X7 hx hby at_276 ?_
   refine gG X7 hx hby at_277 277 281 ?_
   refine Goes.ret X7 (some (.int 1)) (fun h => by rw [hret] at h; cases h) hlk (by decide) (by decide) ?_ (fun fs hr => ?_)
   ·rw [e7]; exact ⟨rfl, N7⟩
   ·exact own_retN X7 hx (t := .boolean) hret (by simp) rfl (hb hby at_281) hr
  intro J205
  refine gI X6 hx hby at_120 rfl rfl ?_
  by_cases hc122_9 : md = 0
  ·refine gu X6 hx hby at_122 ((if0 _ _).trans (teq hc122_9).2) ?_
   refine gI X6 hx hby at_125 rfl rfl ?_
   refine gS X6 hx hby at_127 #[vi x0, vi x1, vi x2, vi x3, vi x4, vi 0, vi md, vi c0, vi c1, vi c2, vr b4, vr b5, vi c0, vu] ?_
   refine gG X6 hx hby at_129 129 205 ?_
   show Goes _ _ _ _ _ (fT T6 m 205 #[vi x0, vi x1, vi x2, vi x3, vi x4, vi 0, vi md, vi c0, vi c1, vi c2, vr b4, vr b5, vi c0, vu] [])
   exact J205 _ _ _ X6 rfl N6 r_c0
  ·refine gy X6 hx hby at_122 122 132 ((if0 _ _).trans (feq hc122_9).2) ?_
   refine gI X6 hx hby at_132 rfl rfl ?_
   refine gC X6 hx hby at_134 ?_
   by_cases hc135_10 : md = 1
   ·refine gU X6 hx hby at_135 (teq hc135_10).2 ?_
    refine gI X6 hx hby at_138 rfl rfl ?_
    show Goes _ _ _ _ _ (fT T6 m 140 #[vi x0, vi x1, vi x2, vi x3, vi x4, vi 0, vi md, vi c0, vi c1, vi c2, vr b4, vr b5, vu, vu] [(.int c1)])
    refine gS X6 hx hby at_140 #[vi x0, vi x1, vi x2, vi x3, vi x4, vi 0, vi md, vi c0, vi c1, vi c2, vr b4, vr b5, vi c1, vu] ?_
    refine gG X6 hx hby at_142 142 205 ?_
    show Goes _ _ _ _ _ (fT T6 m 205 #[vi x0, vi x1, vi x2, vi x3, vi x4, vi 0, vi md, vi c0, vi c1, vi c2, vr b4, vr b5, vi c1, vu] [])
    exact J205 _ _ _ X6 rfl N6 r_c1
   ·refine gY X6 hx hby at_135 135 145 (feq hc135_10).2 ?_
    refine gI X6 hx hby at_145 rfl rfl ?_
    show Goes _ _ _ _ _ (fT T6 m 147 #[vi x0, vi x1, vi x2, vi x3, vi x4, vi 0, vi md, vi c0, vi c1, vi c2, vr b4, vr b5, vu, vu] [(.int md)])
    refine gC X6 hx hby at_147 ?_
    by_cases hc148_11 : md = 2
    ·refine gU X6 hx hby at_148 (teq hc148_11).2 ?_
     refine gI X6 hx hby at_151 rfl rfl ?_
     refine gS X6 hx hby at_153 #[vi x0, vi x1, vi x2, vi x3, vi x4, vi 0, vi md, vi c0, vi c1, vi c2, vr b4, vr b5, vi c2, vu] ?_
     refine gG X6 hx hby at_155 155 205 ?_
     show Goes _ _ _ _ _ (fT T6 m 205 #[vi x0, vi x1, vi x2, vi x3, vi x4, vi 0, vi md, vi c0, vi c1, vi c2, vr b4, vr b5, vi c2, vu] [])
     exact J205 _ _ _ X6 rfl N6 r_c2
    ·refine gY X6 hx hby at_148 148 158 (feq hc148_11).2 ?_
     refine gI X6 hx hby at_158 rfl rfl ?_
     refine gC X6 hx hby at_160 ?_
     by_cases hc161_12 : md = 3
     ·refine gU X6 hx hby at_161 (teq hc161_12).2 ?_
      refine gI X6 hx hby at_164 rfl rfl ?_
      show Goes _ _ _ _ _ (fT T6 m 166 #[vi x0, vi x1, vi x2, vi x3, vi x4, vi 0, vi md, vi c0, vi c1, vi c2, vr b4, vr b5, vu, vu] [(.int c0)])
      refine gI X6 hx hby at_166 rfl rfl ?_
      refine Gz (XS.sipush X6.here hx rfl (hb hby at_168)) ?_
      show Goes _ _ _ _ _ (fT T6 m 171 #[vi x0, vi x1, vi x2, vi x3, vi x4, vi 0, vi md, vi c0, vi c1, vi c2, vr b4, vr b5, vu, vu] [(.int 255), (.int x4), (.int c0)])
      refine Gz (XS.iand X6.here hx rfl (hb hby at_171) rfl) ?_
      show Goes _ _ _ _ _ (fT T6 m 172 #[vi x0, vi x1, vi x2, vi x3, vi x4, vi 0, vi md, vi c0, vi c1, vi c2, vr b4, vr b5, vu, vu] [(.int (x4 &&& 255)), (.int c0)])
      refine Gz (XS.ixor X6.here hx rfl (hb hby at_172) rfl) ?_
      show Goes _ _ _ _ _ (fT T6 m 173 #[vi x0, vi x1, vi x2, vi x3, vi x4, vi 0, vi md, vi c0, vi c1, vi c2, vr b4, vr b5, vu, vu] [(.int (c0 ^^^ (x4 &&& 255)))])
      refine gS X6 hx hby at_173 #[vi x0, vi x1, vi x2, vi x3, vi x4, vi 0, vi md, vi c0, vi c1, vi c2, vr b4, vr b5, vi (c0 ^^^ (x4 &&& 255)), vu] ?_
      refine gG X6 hx hby at_175 175 205 ?_
      show Goes _ _ _ _ _ (fT T6 m 205 #[vi x0, vi x1, vi x2, vi x3, vi x4, vi 0, vi md, vi c0, vi c1, vi c2, vr b4, vr b5, vi (c0 ^^^ (x4 &&& 255)), vu] [])
      exact J205 _ _ _ X6 rfl N6 (own_xor r_c0)
     ·refine gY X6 hx hby at_161 161 178 (feq hc161_12).2 ?_
      refine gI X6 hx hby at_178 rfl rfl ?_
      show Goes _ _ _ _ _ (fT T6 m 180 #[vi x0, vi x1, vi x2, vi x3, vi x4, vi 0, vi md, vi c0, vi c1, vi c2, vr b4, vr b5, vu, vu] [(.int md)])
      refine gC X6 hx hby at_180 ?_
      by_cases hc181_13 : md = 4
      ·refine gU X6 hx hby at_181 (teq hc181_13).2 ?_
       refine gI X6 hx hby at_184 rfl rfl ?_
       refine gI X6 hx hby at_186 rfl rfl ?_
       refine Gz (XS.sipush X6.here hx rfl (hb hby at_188)) ?_
       show Goes _ _ _ _ _ (fT T6 m 191 #[vi x0, vi x1, vi x2, vi x3, vi x4, vi 0, vi md, vi c0, vi c1, vi c2, vr b4, vr b5, vu, vu] [(.int 255), (.int x4), (.int c1)])
       refine Gz (XS.iand X6.here hx rfl (hb hby at_191) rfl) ?_
       show Goes _ _ _ _ _ (fT T6 m 192 #[vi x0, vi x1, vi x2, vi x3, vi x4, vi 0, vi md, vi c0, vi c1, vi c2, vr b4, vr b5, vu, vu] [(.int (x4 &&& 255)), (.int c1)])
       refine Gz (XS.ixor X6.here hx rfl (hb hby at_192) rfl) ?_
       show Goes _ _ _ _ _ (fT T6 m 193 #[vi x0, vi x1, vi x2, vi x3, vi x4, vi 0, vi md, vi c0, vi c1, vi c2, vr b4, vr b5, vu, vu] [(.int (c1 ^^^ (x4 &&& 255)))])
       refine gS X6 hx hby at_193 #[vi x0, vi x1, vi x2, vi x3, vi x4, vi 0, vi md, vi c0, vi c1, vi c2, vr b4, vr b5, vi (c1 ^^^ (x4 &&& 255)), vu] ?_
       refine gG X6 hx hby at_195 195 205 ?_
       show Goes _ _ _ _ _ (fT T6 m 205 #[vi x0, vi x1, vi x2, vi x3, vi x4, vi 0, vi md, vi c0, vi c1, vi c2, vr b4, vr b5, vi (c1 ^^^ (x4 &&& 255)), vu] [])
       exact J205 _ _ _ X6 rfl N6 (own_xor r_c1)
      ·refine gY X6 hx hby at_181 181 198 (feq hc181_13).2 ?_
       refine gI X6 hx hby at_198 rfl rfl ?_
       refine cS X6 hx hZ hw hown hby hml rfl mN0 0 1 3 2 0 (rm_cp l Z a0 hw [] x4 T6.heap n0 Z0) at_200 (lenOf own_pd0 rfl) N6 (fun T14 L14 X14 e14 N14 => ?_)
       show Goes _ _ _ _ _ (fT T14 m 203 #[vi x0, vi x1, vi x2, vi x3, vi x4, vi 0, vi md, vi c0, vi c1, vi c2, vr b4, vr b5, vu, vu] [(.int ((x4 &&& 2147483647) % 1114112))])
       refine gS X14 hx hby at_203 #[vi x0, vi x1, vi x2, vi x3, vi x4, vi 0, vi md, vi c0, vi c1, vi c2, vr b4, vr b5, vi ((x4 &&& 2147483647) % 1114112), vu] ?_
       show Goes _ _ _ _ _ (fT T14 m 205 #[vi x0, vi x1, vi x2, vi x3, vi x4, vi 0, vi md, vi c0, vi c1, vi c2, vr b4, vr b5, vi ((x4 &&& 2147483647) % 1114112), vu] [])
       exact J205 _ _ _ X14 e14 N14 (own_cp x4)
 ·show Goes _ _ _ _ _ (fT T3 m 31 #[vi x0, vi x1, vi x2, vi x3, vi x4, vi 1, vi md, vi c0, vi c1, vi c2, vu, vu, vu, vu] [])
  refine gI X3 hx hby at_31 rfl rfl ?_
  refine gC X3 hx hby at_33 ?_
  refine gY X3 hx hby at_34 34 46 (tlt (by decide : ((1 : Int32) < (2 : Int32)))).1 ?_
  refine gI X3 hx hby at_46 rfl rfl ?_
  refine gC X3 hx hby at_48 ?_
  refine gY X3 hx hby at_49 49 68 (tlt (by decide : ((1 : Int32) < (3 : Int32)))).1 ?_
  show Goes _ _ _ _ _ (fT T3 m 68 #[vi x0, vi x1, vi x2, vi x3, vi x4, vi 1, vi md, vi c0, vi c1, vi c2, vu, vu, vu, vu] [])
  refine gI X3 hx hby at_68 rfl rfl ?_
  obtain ⟨T15, h15, k15, X15, e15, E15, A15, st15⟩ := newP X3 hx hZ (gw hw 6 rfl) e3 (g := (mkF m 70 #[vi x0, vi x1, vi x2, vi x3, vi x4, vi 1, vi md, vi c0, vi c1, vi c2, vu, vu, vu, vu] [(.int 1)])) rfl (hb hby at_70) rfl (by decide) (cap := 1) (by decide) (by decide) (by decide) (by decide)
  obtain ⟨b15, gq15⟩ : ∃ z, z = h0.size := ⟨_, rfl⟩
  rw [← gq15] at A15 st15
  have g_b15 : n0 ≤ b15 := by rw [gq15]; exact Z0
  replace Z0 : n0 ≤ h15.size := Nat.le_trans Z0 E15.1
  have V_b15 : Arv Z h15 b15 k15 .int 1 [(.int 0)] (.int 0) := (Arv.new A15 (by decide)).pad (pad_rep [] (.int 0) 1)
  refine Gs st15 ?_
  show Goes _ _ _ _ _ (fT T15 m 72 #[vi x0, vi x1, vi x2, vi x3, vi x4, vi 1, vi md, vi c0, vi c1, vi c2, vu, vu, vu, vu] [(.ref b15)])
  refine Gz (XS.astore X15.here hx rfl (hb hby at_72) rfl rfl (l' := #[vi x0, vi x1, vi x2, vi x3, vi x4, vi 1, vi md, vi c0, vi c1, vi c2, vr b15, vu, vu, vu]) rfl) ?_
  refine gI X15 hx hby at_74 rfl rfl ?_
  refine gu X15 hx hby at_76 ((if0 _ _).trans (tlt (by decide : ((0 : Int32) < (1 : Int32)))).2.2.2) ?_
  refine Gz (XS.aload X15.here hx rfl (hb hby at_79) rfl rfl) ?_
  refine gC X15 hx hby at_81 ?_
  refine gI X15 hx hby at_82 rfl rfl ?_
  show Goes _ _ _ _ _ (fT T15 m 84 #[vi x0, vi x1, vi x2, vi x3, vi x4, vi 1, vi md, vi c0, vi c1, vi c2, vr b15, vu, vu, vu] [(.int c0), (.int 0), (.ref b15)])
  obtain ⟨cl16, Ar16, q16, S16, N16z, H16, G16⟩ := V_b15
  have hin16 : ¬ ((0 : Int32) < 0 ∨ cl16.slots.size ≤ ((0 : Int32)).toNatClampNeg) := inb_of S16 ⟨by decide, by decide⟩
  obtain ⟨T16, h16, X16, e16, W16, st16⟩ := stI X15 hx hZ e15 Ar16 (j := (0 : Int32)) hin16 (g := (mkF m 84 #[vi x0, vi x1, vi x2, vi x3, vi x4, vi 1, vi md, vi c0, vi c1, vi c2, vr b15, vu, vu, vu] [(.int c0), (.int 0), (.ref b15)])) rfl rfl (hb hby at_84)
  have Vn16 := Arv.set Ar16 q16 S16 N16z H16 G16 rfl W16 0 rfl (Nat.le_of_ble_eq_true rfl)
  have N16 := Fr.snoc X16 N3 g_b15
  have V_b15 : Arv Z h16 b15 _ .int 1 [(.int c0)] (.int 0) := Vn16
  replace Z0 : n0 ≤ h16.size := by rw [W16.size]; exact Z0
  refine Gs st16 ?_
  show Goes _ _ _ _ _ (fT T16 m 85 #[vi x0, vi x1, vi x2, vi x3, vi x4, vi 1, vi md, vi c0, vi c1, vi c2, vr b15, vu, vu, vu] [])
  refine gI X16 hx hby at_85 rfl rfl ?_
  refine gC X16 hx hby at_87 ?_
  refine gY X16 hx hby at_88 88 97 (flt (by decide : ¬ ((1 : Int32) < (1 : Int32)))).2.2.2 ?_
  refine gI X16 hx hby at_97 rfl rfl ?_
  refine gC X16 hx hby at_99 ?_
  refine gY X16 hx hby at_100 100 109 (flt (by decide : ¬ ((2 : Int32) < (1 : Int32)))).2.2.2 ?_
  show Goes _ _ _ _ _ (fT T16 m 109 #[vi x0, vi x1, vi x2, vi x3, vi x4, vi 1, vi md, vi c0, vi c1, vi c2, vr b15, vu, vu, vu] [])
  obtain ⟨T17, h17, X17, e17, E17, A17, D17, -, st17⟩ := newO X16 hx hZ hown (gw hw 7 rfl) (gw hw 8 rfl) (gw hw 9 rfl) e16 (g := (mkF m 109 #[vi x0, vi x1, vi x2, vi x3, vi x4, vi 1, vi md, vi c0, vi c1, vi c2, vr b15, vu, vu, vu] [])) rfl (hb hby at_109) (by decide) (by decide)
  obtain ⟨b17, gq17⟩ : ∃ z, z = h16.size := ⟨_, rfl⟩
  rw [← gq17] at A17 st17 D17
  have g_b17 : n0 ≤ b17 := by rw [gq17]; exact Z0
  have lt_b15_b17 : b15 < b17 := by rw [gq17]; exact V_b15.lt
  replace V_b15 := V_b15.ext E17
  replace Z0 : n0 ≤ h17.size := Nat.le_trans Z0 E17.1
  have A_b17 : Exa Z h17 b17 "com/example/tandemtrie/tandemtrie/array/Alphabet" := A17
  have F_basic_b17 : Fld Z h17 b17 "com/example/tandemtrie/tandemtrie/array/Alphabet" "basic" "[I" .null := D17 (Or.inl (gw hw 17 rfl)) (ty := (.array .int)) (by decide)
  have F_codePoints_b17 : Fld Z h17 b17 "com/example/tandemtrie/tandemtrie/array/Alphabet" "codePoints" "[I" .null := D17 (Or.inl (gw hw 19 rfl)) (ty := (.array .int)) (by decide)
  have F_size_b17 : Fld Z h17 b17 "com/example/tandemtrie/tandemtrie/array/Alphabet" "size" "I" (.int 0) := D17 (Or.inl (gw hw 41 rfl)) (ty := .int) (by decide)
  have F_supplementary_b17 : Fld Z h17 b17 "com/example/tandemtrie/tandemtrie/array/Alphabet" "supplementary" "[[I" .null := D17 (Or.inl (gw hw 44 rfl)) (ty := (.array (.array .int))) (by decide)
  refine Gs st17 ?_
  show Goes _ _ _ _ _ (fT T17 m 112 #[vi x0, vi x1, vi x2, vi x3, vi x4, vi 1, vi md, vi c0, vi c1, vi c2, vr b15, vu, vu, vu] [(.ref b17)])
  refine Gz (XS.dup X17.here hx rfl (hb hby at_112) rfl rfl) ?_
  refine Gz (XS.aload X17.here hx rfl (hb hby at_113) rfl rfl) ?_
  refine cIg X17 hx hZ hw hown hby hml e17 mN6 10 11 12 9 1 (rm_init1 l Z a0 hw [] b17 b15 k15 c0 h17 n0 Z0 A_b17 F_basic_b17 F_codePoints_b17 F_size_b17 F_supplementary_b17 V_b15 lt_b15_b17 g_b17 r_c0) at_115 (lenOf own_pd3 rfl) (fun _ T18 L18 X18 hQ18 => ?_)
  obtain ⟨rfl, N18q, AL_b17, Zn⟩ := hQ18
  have N18 := Fr.app N16 N18q
  replace Z0 := Zn
  have A_b17 := AL_b17.exa
  show Goes _ _ _ _ _ (fT T18 m 118 #[vi x0, vi x1, vi x2, vi x3, vi x4, vi 1, vi md, vi c0, vi c1, vi c2, vr b15, vu, vu, vu] [(.ref b17)])
  refine Gz (XS.astore X18.here hx rfl (hb hby at_118) rfl rfl (l' := #[vi x0, vi x1, vi x2, vi x3, vi x4, vi 1, vi md, vi c0, vi c1, vi c2, vr b15, vr b17, vu, vu]) rfl) ?_
  show Goes _ _ _ _ _ (fT T18 m 120 #[vi x0, vi x1, vi x2, vi x3, vi x4, vi 1, vi md, vi c0, vi c1, vi c2, vr b15, vr b17, vu, vu] [])
  refine own_joinTP X18 rfl N18 (P := fun q => 0 ≤ q.toInt ∧ q.toInt < 1114112) (B := fun q T => T.setTop (mkF m 205 #[vi x0, vi x1, vi x2, vi x3, vi x4, vi 1, vi md, vi c0, vi c1, vi c2, vr b15, vr b17, vi q, vu] [])) ?_ ?_
  ·intro T205 L205 q X205 e205 N205 r_q
   show Goes _ _ _ _ _ (fT T205 m 205 #[vi x0, vi x1, vi x2, vi x3, vi x4, vi 1, vi md, vi c0, vi c1, vi c2, vr b15, vr b17, vi q, vu] [])
   refine gI X205 hx hby at_205 rfl rfl ?_
   refine gu X205 hx hby at_207 ((if0 _ _).trans (tlt (by decide : ((0 : Int32) < (1 : Int32)))).2.2.2) ?_
   refine gI X205 hx hby at_210 rfl rfl ?_
   refine gI X205 hx hby at_212 rfl rfl ?_
   by_cases hc214_19 : q = c0
   ·refine gU X205 hx hby at_214 (teq hc214_19).2 ?_
    refine gC X205 hx hby at_217 ?_
    show Goes _ _ _ _ _ (fT T205 m 218 #[vi x0, vi x1, vi x2, vi x3, vi x4, vi 1, vi md, vi c0, vi c1, vi c2, vr b15, vr b17, vi q, vu] [(.int 1)])
    refine gS X205 hx hby at_218 #[vi x0, vi x1, vi x2, vi x3, vi x4, vi 1, vi md, vi c0, vi c1, vi c2, vr b15, vr b17, vi q, vi 1] ?_
    refine gG X205 hx hby at_220 220 264 ?_
    refine Gz (XS.aload X205.here hx rfl (hb hby at_264) rfl rfl) ?_
    refine gI X205 hx hby at_266 rfl rfl ?_
    refine cV X205 hx hZ hw hown hby hml e205 mN4 42 31 33 32 34 9 0 (rm_label l Z a0 hw [] b17 (own_up (fun _ => (-1 : Int32)) c0.toNatClampNeg (1 : Int32)) ((own_hb (-1 : Int32) c0) + 1) (1 : Int32) (2 : Int32) q T18.heap n0 Z0 AL_b17 r_q.1 r_q.2) A_b17 at_268 (lenOf own_pd0 rfl) N205 (fun T20 L20 X20 e20 N20 => ?_)
    show Goes _ _ _ _ _ (fT T20 m 271 #[vi x0, vi x1, vi x2, vi x3, vi x4, vi 1, vi md, vi c0, vi c1, vi c2, vr b15, vr b17, vi q, vi 1] [(.int ((own_up (fun _ => (-1 : Int32)) c0.toNatClampNeg (1 : Int32)) q.toNatClampNeg))])
    refine gI X20 hx hby at_271 rfl rfl ?_
    have hc273_21 : ((own_up (fun _ => (-1 : Int32)) c0.toNatClampNeg (1 : Int32)) q.toNatClampNeg) = 1 := by rw [hc214_19]; rw [own_upS]
    refine gU X20 hx hby at_273 (teq hc273_21).2 ?_
    refine gC X20 hx hby at_276 ?_
    refine gG X20 hx hby at_277 277 281 ?_
    refine Goes.ret X20 (some (.int 1)) (fun h => by rw [hret] at h; cases h) hlk (by decide) (by decide) ?_ (fun fs hr => ?_)
    ·rw [e20]; exact ⟨rfl, N20⟩
    ·exact own_retN X20 hx (t := .boolean) hret (by simp) rfl (hb hby at_281) hr
   ·refine gY X205 hx hby at_214 214 223 (feq hc214_19).2 ?_
    refine gI X205 hx hby at_223 rfl rfl ?_
    show Goes _ _ _ _ _ (fT T205 m 225 #[vi x0, vi x1, vi x2, vi x3, vi x4, vi 1, vi md, vi c0, vi c1, vi c2, vr b15, vr b17, vi q, vu] [(.int 1)])
    refine gC X205 hx hby at_225 ?_
    refine gY X205 hx hby at_226 226 242 (flt (by decide : ¬ ((1 : Int32) < (1 : Int32)))).2.2.2 ?_
    refine gI X205 hx hby at_242 rfl rfl ?_
    refine gC X205 hx hby at_244 ?_
    refine gY X205 hx hby at_245 245 261 (flt (by decide : ¬ ((2 : Int32) < (1 : Int32)))).2.2.2 ?_
    refine gC X205 hx hby at_261 ?_
    show Goes _ _ _ _ _ (fT T205 m 262 #[vi x0, vi x1, vi x2, vi x3, vi x4, vi 1, vi md, vi c0, vi c1, vi c2, vr b15, vr b17, vi q, vu] [(.int (-1 : Int32))])
    refine gS X205 hx hby at_262 #[vi x0, vi x1, vi x2, vi x3, vi x4, vi 1, vi md, vi c0, vi c1, vi c2, vr b15, vr b17, vi q, vi (-1 : Int32)] ?_
    refine Gz (XS.aload X205.here hx rfl (hb hby at_264) rfl rfl) ?_
    refine gI X205 hx hby at_266 rfl rfl ?_
    refine cV X205 hx hZ hw hown hby hml e205 mN4 42 31 33 32 34 9 0 (rm_label l Z a0 hw [] b17 (own_up (fun _ => (-1 : Int32)) c0.toNatClampNeg (1 : Int32)) ((own_hb (-1 : Int32) c0) + 1) (1 : Int32) (2 : Int32) q T18.heap n0 Z0 AL_b17 r_q.1 r_q.2) A_b17 at_268 (lenOf own_pd0 rfl) N205 (fun T22 L22 X22 e22 N22 => ?_)
    show Goes _ _ _ _ _ (fT T22 m 271 #[vi x0, vi x1, vi x2, vi x3, vi x4, vi 1, vi md, vi c0, vi c1, vi c2, vr b15, vr b17, vi q, vi (-1 : Int32)] [(.int ((own_up (fun _ => (-1 : Int32)) c0.toNatClampNeg (1 : Int32)) q.toNatClampNeg))])
    refine gI X22 hx hby at_271 rfl rfl ?_
    have hc273_23 : ((own_up (fun _ => (-1 : Int32)) c0.toNatClampNeg (1 : Int32)) q.toNatClampNeg) = (-1 : Int32) := by rw [own_upN (fun e => hc214_19 (own_tnE r_q.1 r_c0.1 e))]
    refine gU X22 hx hby at_273 (teq hc273_23).2 ?_
    refine gC X22 hx hby at_276 ?_
    refine gG X22 hx hby at_277 277 281 ?_
    refine Goes.ret X22 (some (.int 1)) (fun h => by rw [hret] at h; cases h) hlk (by decide) (by decide) ?_ (fun fs hr => ?_)
    ·rw [e22]; exact ⟨rfl, N22⟩
    ·exact own_retN X22 hx (t := .boolean) hret (by simp) rfl (hb hby at_281) hr
  intro J205
  refine gI X18 hx hby at_120 rfl rfl ?_
  by_cases hc122_24 : md = 0
  ·refine gu X18 hx hby at_122 ((if0 _ _).trans (teq hc122_24).2) ?_
   refine gI X18 hx hby at_125 rfl rfl ?_
   refine gS X18 hx hby at_127 #[vi x0, vi x1, vi x2, vi x3, vi x4, vi 1, vi md, vi c0, vi c1, vi c2, vr b15, vr b17, vi c0, vu] ?_
   refine gG X18 hx hby at_129 129 205 ?_
   show Goes _ _ _ _ _ (fT T18 m 205 #[vi x0, vi x1, vi x2, vi x3, vi x4, vi 1, vi md, vi c0, vi c1, vi c2, vr b15, vr b17, vi c0, vu] [])
   exact J205 _ _ _ X18 rfl N18 r_c0
  ·refine gy X18 hx hby at_122 122 132 ((if0 _ _).trans (feq hc122_24).2) ?_
   refine gI X18 hx hby at_132 rfl rfl ?_
   refine gC X18 hx hby at_134 ?_
   by_cases hc135_25 : md = 1
   ·refine gU X18 hx hby at_135 (teq hc135_25).2 ?_
    refine gI X18 hx hby at_138 rfl rfl ?_
    show Goes _ _ _ _ _ (fT T18 m 140 #[vi x0, vi x1, vi x2, vi x3, vi x4, vi 1, vi md, vi c0, vi c1, vi c2, vr b15, vr b17, vu, vu] [(.int c1)])
    refine gS X18 hx hby at_140 #[vi x0, vi x1, vi x2, vi x3, vi x4, vi 1, vi md, vi c0, vi c1, vi c2, vr b15, vr b17, vi c1, vu] ?_
    refine gG X18 hx hby at_142 142 205 ?_
    show Goes _ _ _ _ _ (fT T18 m 205 #[vi x0, vi x1, vi x2, vi x3, vi x4, vi 1, vi md, vi c0, vi c1, vi c2, vr b15, vr b17, vi c1, vu] [])
    exact J205 _ _ _ X18 rfl N18 r_c1
   ·refine gY X18 hx hby at_135 135 145 (feq hc135_25).2 ?_
    refine gI X18 hx hby at_145 rfl rfl ?_
    show Goes _ _ _ _ _ (fT T18 m 147 #[vi x0, vi x1, vi x2, vi x3, vi x4, vi 1, vi md, vi c0, vi c1, vi c2, vr b15, vr b17, vu, vu] [(.int md)])
    refine gC X18 hx hby at_147 ?_
    by_cases hc148_26 : md = 2
    ·refine gU X18 hx hby at_148 (teq hc148_26).2 ?_
     refine gI X18 hx hby at_151 rfl rfl ?_
     refine gS X18 hx hby at_153 #[vi x0, vi x1, vi x2, vi x3, vi x4, vi 1, vi md, vi c0, vi c1, vi c2, vr b15, vr b17, vi c2, vu] ?_
     refine gG X18 hx hby at_155 155 205 ?_
     show Goes _ _ _ _ _ (fT T18 m 205 #[vi x0, vi x1, vi x2, vi x3, vi x4, vi 1, vi md, vi c0, vi c1, vi c2, vr b15, vr b17, vi c2, vu] [])
     exact J205 _ _ _ X18 rfl N18 r_c2
    ·refine gY X18 hx hby at_148 148 158 (feq hc148_26).2 ?_
     refine gI X18 hx hby at_158 rfl rfl ?_
     refine gC X18 hx hby at_160 ?_
     by_cases hc161_27 : md = 3
     ·refine gU X18 hx hby at_161 (teq hc161_27).2 ?_
      refine gI X18 hx hby at_164 rfl rfl ?_
      show Goes _ _ _ _ _ (fT T18 m 166 #[vi x0, vi x1, vi x2, vi x3, vi x4, vi 1, vi md, vi c0, vi c1, vi c2, vr b15, vr b17, vu, vu] [(.int c0)])
      refine gI X18 hx hby at_166 rfl rfl ?_
      refine Gz (XS.sipush X18.here hx rfl (hb hby at_168)) ?_
      show Goes _ _ _ _ _ (fT T18 m 171 #[vi x0, vi x1, vi x2, vi x3, vi x4, vi 1, vi md, vi c0, vi c1, vi c2, vr b15, vr b17, vu, vu] [(.int 255), (.int x4), (.int c0)])
      refine Gz (XS.iand X18.here hx rfl (hb hby at_171) rfl) ?_
      show Goes _ _ _ _ _ (fT T18 m 172 #[vi x0, vi x1, vi x2, vi x3, vi x4, vi 1, vi md, vi c0, vi c1, vi c2, vr b15, vr b17, vu, vu] [(.int (x4 &&& 255)), (.int c0)])
      refine Gz (XS.ixor X18.here hx rfl (hb hby at_172) rfl) ?_
      show Goes _ _ _ _ _ (fT T18 m 173 #[vi x0, vi x1, vi x2, vi x3, vi x4, vi 1, vi md, vi c0, vi c1, vi c2, vr b15, vr b17, vu, vu] [(.int (c0 ^^^ (x4 &&& 255)))])
      refine gS X18 hx hby at_173 #[vi x0, vi x1, vi x2, vi x3, vi x4, vi 1, vi md, vi c0, vi c1, vi c2, vr b15, vr b17, vi (c0 ^^^ (x4 &&& 255)), vu] ?_
      refine gG X18 hx hby at_175 175 205 ?_
      show Goes _ _ _ _ _ (fT T18 m 205 #[vi x0, vi x1, vi x2, vi x3, vi x4, vi 1, vi md, vi c0, vi c1, vi c2, vr b15, vr b17, vi (c0 ^^^ (x4 &&& 255)), vu] [])
      exact J205 _ _ _ X18 rfl N18 (own_xor r_c0)
     ·refine gY X18 hx hby at_161 161 178 (feq hc161_27).2 ?_
      refine gI X18 hx hby at_178 rfl rfl ?_
      show Goes _ _ _ _ _ (fT T18 m 180 #[vi x0, vi x1, vi x2, vi x3, vi x4, vi 1, vi md, vi c0, vi c1, vi c2, vr b15, vr b17, vu, vu] [(.int md)])
      refine gC X18 hx hby at_180 ?_
      by_cases hc181_28 : md = 4
      ·refine gU X18 hx hby at_181 (teq hc181_28).2 ?_
       refine gI X18 hx hby at_184 rfl rfl ?_
       refine gI X18 hx hby at_186 rfl rfl ?_
       refine Gz (XS.sipush X18.here hx rfl (hb hby at_188)) ?_
       show Goes _ _ _ _ _ (fT T18 m 191 #[vi x0, vi x1, vi x2, vi x3, vi x4, vi 1, vi md, vi c0, vi c1, vi c2, vr b15, vr b17, vu, vu] [(.int 255), (.int x4), (.int c1)])
       refine Gz (XS.iand X18.here hx rfl (hb hby at_191) rfl) ?_
       show Goes _ _ _ _ _ (fT T18 m 192 #[vi x0, vi x1, vi x2, vi x3, vi x4, vi 1, vi md, vi c0, vi c1, vi c2, vr b15, vr b17, vu, vu] [(.int (x4 &&& 255)), (.int c1)])
       refine Gz (XS.ixor X18.here hx rfl (hb hby at_192) rfl) ?_
       show Goes _ _ _ _ _ (fT T18 m 193 #[vi x0, vi x1, vi x2, vi x3, vi x4, vi 1, vi md, vi c0, vi c1, vi c2, vr b15, vr b17, vu, vu] [(.int (c1 ^^^ (x4 &&& 255)))])
       refine gS X18 hx hby at_193 #[vi x0, vi x1, vi x2, vi x3, vi x4, vi 1, vi md, vi c0, vi c1, vi c2, vr b15, vr b17, vi (c1 ^^^ (x4 &&& 255)), vu] ?_
       refine gG X18 hx hby at_195 195 205 ?_
       show Goes _ _ _ _ _ (fT T18 m 205 #[vi x0, vi x1, vi x2, vi x3, vi x4, vi 1, vi md, vi c0, vi c1, vi c2, vr b15, vr b17, vi (c1 ^^^ (x4 &&& 255)), vu] [])
       exact J205 _ _ _ X18 rfl N18 (own_xor r_c1)
      ·refine gY X18 hx hby at_181 181 198 (feq hc181_28).2 ?_
       refine gI X18 hx hby at_198 rfl rfl ?_
       refine cS X18 hx hZ hw hown hby hml rfl mN0 0 1 3 2 0 (rm_cp l Z a0 hw [] x4 T18.heap n0 Z0) at_200 (lenOf own_pd0 rfl) N18 (fun T29 L29 X29 e29 N29 => ?_)
       show Goes _ _ _ _ _ (fT T29 m 203 #[vi x0, vi x1, vi x2, vi x3, vi x4, vi 1, vi md, vi c0, vi c1, vi c2, vr b15, vr b17, vu, vu] [(.int ((x4 &&& 2147483647) % 1114112))])
       refine gS X29 hx hby at_203 #[vi x0, vi x1, vi x2, vi x3, vi x4, vi 1, vi md, vi c0, vi c1, vi c2, vr b15, vr b17, vi ((x4 &&& 2147483647) % 1114112), vu] ?_
       show Goes _ _ _ _ _ (fT T29 m 205 #[vi x0, vi x1, vi x2, vi x3, vi x4, vi 1, vi md, vi c0, vi c1, vi c2, vr b15, vr b17, vi ((x4 &&& 2147483647) % 1114112), vu] [])
       exact J205 _ _ _ X29 e29 N29 (own_cp x4)
 ·show Goes _ _ _ _ _ (fT T3 m 31 #[vi x0, vi x1, vi x2, vi x3, vi x4, vi 2, vi md, vi c0, vi c1, vi c2, vu, vu, vu, vu] [])
  refine gI X3 hx hby at_31 rfl rfl ?_
  refine gC X3 hx hby at_33 ?_
  refine gU X3 hx hby at_34 (flt (by decide : ¬ ((2 : Int32) < (2 : Int32)))).1 ?_
  refine gI X3 hx hby at_37 rfl rfl ?_
  refine gI X3 hx hby at_39 rfl rfl ?_
  by_cases hc41_30 : c0 = c1
  ·refine gU X3 hx hby at_41 (teq hc41_30).2 ?_
   show Goes _ _ _ _ _ (fT T3 m 44 #[vi x0, vi x1, vi x2, vi x3, vi x4, vi 2, vi md, vi c0, vi c1, vi c2, vu, vu, vu, vu] [])
   refine gC X3 hx hby at_44 ?_
   refine Goes.ret X3 (some (.int 1)) (fun h => by rw [hret] at h; cases h) hlk (by decide) (by decide) ?_ (fun fs hr => ?_)
   ·rw [e3]; exact ⟨rfl, N3⟩
   ·exact own_retN X3 hx (t := .boolean) hret (by simp) rfl (hb hby at_45) hr
  ·refine gY X3 hx hby at_41 41 46 (feq hc41_30).2 ?_
   show Goes _ _ _ _ _ (fT T3 m 46 #[vi x0, vi x1, vi x2, vi x3, vi x4, vi 2, vi md, vi c0, vi c1, vi c2, vu, vu, vu, vu] [])
   refine gI X3 hx hby at_46 rfl rfl ?_
   refine gC X3 hx hby at_48 ?_
   refine gY X3 hx hby at_49 49 68 (tlt (by decide : ((2 : Int32) < (3 : Int32)))).1 ?_
   refine gI X3 hx hby at_68 rfl rfl ?_
   obtain ⟨T31, h31, k31, X31, e31, E31, A31, st31⟩ := newP X3 hx hZ (gw hw 6 rfl) e3 (g := (mkF m 70 #[vi x0, vi x1, vi x2, vi x3, vi x4, vi 2, vi md, vi c0, vi c1, vi c2, vu, vu, vu, vu] [(.int 2)])) rfl (hb hby at_70) rfl (by decide) (cap := 2) (by decide) (by decide) (by decide) (by decide)
   obtain ⟨b31, gq31⟩ : ∃ z, z = h0.size := ⟨_, rfl⟩
   rw [← gq31] at A31 st31
   have g_b31 : n0 ≤ b31 := by rw [gq31]; exact Z0
   replace Z0 : n0 ≤ h31.size := Nat.le_trans Z0 E31.1
   have V_b31 : Arv Z h31 b31 k31 .int 2 [(.int 0), (.int 0)] (.int 0) := (Arv.new A31 (by decide)).pad (pad_rep [] (.int 0) 2)
   refine Gs st31 ?_
   show Goes _ _ _ _ _ (fT T31 m 72 #[vi x0, vi x1, vi x2, vi x3, vi x4, vi 2, vi md, vi c0, vi c1, vi c2, vu, vu, vu, vu] [(.ref b31)])
   refine Gz (XS.astore X31.here hx rfl (hb hby at_72) rfl rfl (l' := #[vi x0, vi x1, vi x2, vi x3, vi x4, vi 2, vi md, vi c0, vi c1, vi c2, vr b31, vu, vu, vu]) rfl) ?_
   refine gI X31 hx hby at_74 rfl rfl ?_
   refine gu X31 hx hby at_76 ((if0 _ _).trans (tlt (by decide : ((0 : Int32) < (2 : Int32)))).2.2.2) ?_
   refine Gz (XS.aload X31.here hx rfl (hb hby at_79) rfl rfl) ?_
   refine gC X31 hx hby at_81 ?_
   refine gI X31 hx hby at_82 rfl rfl ?_
   show Goes _ _ _ _ _ (fT T31 m 84 #[vi x0, vi x1, vi x2, vi x3, vi x4, vi 2, vi md, vi c0, vi c1, vi c2, vr b31, vu, vu, vu] [(.int c0), (.int 0), (.ref b31)])
   obtain ⟨cl32, Ar32, q32, S32, N32z, H32, G32⟩ := V_b31
   have hin32 : ¬ ((0 : Int32) < 0 ∨ cl32.slots.size ≤ ((0 : Int32)).toNatClampNeg) := inb_of S32 ⟨by decide, by decide⟩
   obtain ⟨T32, h32, X32, e32, W32, st32⟩ := stI X31 hx hZ e31 Ar32 (j := (0 : Int32)) hin32 (g := (mkF m 84 #[vi x0, vi x1, vi x2, vi x3, vi x4, vi 2, vi md, vi c0, vi c1, vi c2, vr b31, vu, vu, vu] [(.int c0), (.int 0), (.ref b31)])) rfl rfl (hb hby at_84)
   have Vn32 := Arv.set Ar32 q32 S32 N32z H32 G32 rfl W32 0 rfl (Nat.le_of_ble_eq_true rfl)
   have N32 := Fr.snoc X32 N3 g_b31
   have V_b31 : Arv Z h32 b31 _ .int 2 [(.int c0), (.int 0)] (.int 0) := Vn32
   replace Z0 : n0 ≤ h32.size := by rw [W32.size]; exact Z0
   refine Gs st32 ?_
   show Goes _ _ _ _ _ (fT T32 m 85 #[vi x0, vi x1, vi x2, vi x3, vi x4, vi 2, vi md, vi c0, vi c1, vi c2, vr b31, vu, vu, vu] [])
   refine gI X32 hx hby at_85 rfl rfl ?_
   refine gC X32 hx hby at_87 ?_
   refine gU X32 hx hby at_88 (tlt (by decide : ((1 : Int32) < (2 : Int32)))).2.2.2 ?_
   refine Gz (XS.aload X32.here hx rfl (hb hby at_91) rfl rfl) ?_
   refine gC X32 hx hby at_93 ?_
   refine gI X32 hx hby at_94 rfl rfl ?_
   show Goes _ _ _ _ _ (fT T32 m 96 #[vi x0, vi x1, vi x2, vi x3, vi x4, vi 2, vi md, vi c0, vi c1, vi c2, vr b31, vu, vu, vu] [(.int c1), (.int 1), (.ref b31)])
   obtain ⟨cl33, Ar33, q33, S33, N33z, H33, G33⟩ := V_b31
   have hin33 : ¬ ((1 : Int32) < 0 ∨ cl33.slots.size ≤ ((1 : Int32)).toNatClampNeg) := inb_of S33 ⟨by decide, by decide⟩
   obtain ⟨T33, h33, X33, e33, W33, st33⟩ := stI X32 hx hZ e32 Ar33 (j := (1 : Int32)) hin33 (g := (mkF m 96 #[vi x0, vi x1, vi x2, vi x3, vi x4, vi 2, vi md, vi c0, vi c1, vi c2, vr b31, vu, vu, vu] [(.int c1), (.int 1), (.ref b31)])) rfl rfl (hb hby at_96)
   have Vn33 := Arv.set Ar33 q33 S33 N33z H33 G33 rfl W33 1 rfl (Nat.le_of_ble_eq_true rfl)
   have N33 := Fr.snoc X33 N32 g_b31
   have V_b31 : Arv Z h33 b31 _ .int 2 [(.int c0), (.int c1)] (.int 0) := Vn33
   replace Z0 : n0 ≤ h33.size := by rw [W33.size]; exact Z0
   refine Gs st33 ?_
   show Goes _ _ _ _ _ (fT T33 m 97 #[vi x0, vi x1, vi x2, vi x3, vi x4, vi 2, vi md, vi c0, vi c1, vi c2, vr b31, vu, vu, vu] [])
   refine gI X33 hx hby at_97 rfl rfl ?_
   refine gC X33 hx hby at_99 ?_
   refine gY X33 hx hby at_100 100 109 (flt (by decide : ¬ ((2 : Int32) < (2 : Int32)))).2.2.2 ?_
   show Goes _ _ _ _ _ (fT T33 m 109 #[vi x0, vi x1, vi x2, vi x3, vi x4, vi 2, vi md, vi c0, vi c1, vi c2, vr b31, vu, vu, vu] [])
   obtain ⟨T34, h34, X34, e34, E34, A34, D34, -, st34⟩ := newO X33 hx hZ hown (gw hw 7 rfl) (gw hw 8 rfl) (gw hw 9 rfl) e33 (g := (mkF m 109 #[vi x0, vi x1, vi x2, vi x3, vi x4, vi 2, vi md, vi c0, vi c1, vi c2, vr b31, vu, vu, vu] [])) rfl (hb hby at_109) (by decide) (by decide)
   obtain ⟨b34, gq34⟩ : ∃ z, z = h33.size := ⟨_, rfl⟩
   rw [← gq34] at A34 st34 D34
   have g_b34 : n0 ≤ b34 := by rw [gq34]; exact Z0
   have lt_b31_b34 : b31 < b34 := by rw [gq34]; exact V_b31.lt
   replace V_b31 := V_b31.ext E34
   replace Z0 : n0 ≤ h34.size := Nat.le_trans Z0 E34.1
   have A_b34 : Exa Z h34 b34 "com/example/tandemtrie/tandemtrie/array/Alphabet" := A34
   have F_basic_b34 : Fld Z h34 b34 "com/example/tandemtrie/tandemtrie/array/Alphabet" "basic" "[I" .null := D34 (Or.inl (gw hw 17 rfl)) (ty := (.array .int)) (by decide)
   have F_codePoints_b34 : Fld Z h34 b34 "com/example/tandemtrie/tandemtrie/array/Alphabet" "codePoints" "[I" .null := D34 (Or.inl (gw hw 19 rfl)) (ty := (.array .int)) (by decide)
   have F_size_b34 : Fld Z h34 b34 "com/example/tandemtrie/tandemtrie/array/Alphabet" "size" "I" (.int 0) := D34 (Or.inl (gw hw 41 rfl)) (ty := .int) (by decide)
   have F_supplementary_b34 : Fld Z h34 b34 "com/example/tandemtrie/tandemtrie/array/Alphabet" "supplementary" "[[I" .null := D34 (Or.inl (gw hw 44 rfl)) (ty := (.array (.array .int))) (by decide)
   refine Gs st34 ?_
   show Goes _ _ _ _ _ (fT T34 m 112 #[vi x0, vi x1, vi x2, vi x3, vi x4, vi 2, vi md, vi c0, vi c1, vi c2, vr b31, vu, vu, vu] [(.ref b34)])
   refine Gz (XS.dup X34.here hx rfl (hb hby at_112) rfl rfl) ?_
   refine Gz (XS.aload X34.here hx rfl (hb hby at_113) rfl rfl) ?_
   refine cIg X34 hx hZ hw hown hby hml e34 mN6 10 11 12 9 1 (rm_init2 l Z a0 hw [] b34 b31 k31 c0 c1 h34 n0 Z0 A_b34 F_basic_b34 F_codePoints_b34 F_size_b34 F_supplementary_b34 V_b31 lt_b31_b34 g_b34 r_c0 r_c1 hc41_30) at_115 (lenOf own_pd3 rfl) (fun _ T35 L35 X35 hQ35 => ?_)
   obtain ⟨rfl, N35q, AL_b34, Zn⟩ := hQ35
   have N35 := Fr.app N33 N35q
   replace Z0 := Zn
   have A_b34 := AL_b34.exa
   show Goes _ _ _ _ _ (fT T35 m 118 #[vi x0, vi x1, vi x2, vi x3, vi x4, vi 2, vi md, vi c0, vi c1, vi c2, vr b31, vu, vu, vu] [(.ref b34)])
   refine Gz (XS.astore X35.here hx rfl (hb hby at_118) rfl rfl (l' := #[vi x0, vi x1, vi x2, vi x3, vi x4, vi 2, vi md, vi c0, vi c1, vi c2, vr b31, vr b34, vu, vu]) rfl) ?_
   show Goes _ _ _ _ _ (fT T35 m 120 #[vi x0, vi x1, vi x2, vi x3, vi x4, vi 2, vi md, vi c0, vi c1, vi c2, vr b31, vr b34, vu, vu] [])
   refine own_joinTP X35 rfl N35 (P := fun q => 0 ≤ q.toInt ∧ q.toInt < 1114112) (B := fun q T => T.setTop (mkF m 205 #[vi x0, vi x1, vi x2, vi x3, vi x4, vi 2, vi md, vi c0, vi c1, vi c2, vr b31, vr b34, vi q, vu] [])) ?_ ?_
   ·intro T205 L205 q X205 e205 N205 r_q
    show Goes _ _ _ _ _ (fT T205 m 205 #[vi x0, vi x1, vi x2, vi x3, vi x4, vi 2, vi md, vi c0, vi c1, vi c2, vr b31, vr b34, vi q, vu] [])
    refine gI X205 hx hby at_205 rfl rfl ?_
    refine gu X205 hx hby at_207 ((if0 _ _).trans (tlt (by decide : ((0 : Int32) < (2 : Int32)))).2.2.2) ?_
    refine gI X205 hx hby at_210 rfl rfl ?_
    refine gI X205 hx hby at_212 rfl rfl ?_
    by_cases hc214_36 : q = c0
    ·refine gU X205 hx hby at_214 (teq hc214_36).2 ?_
     refine gC X205 hx hby at_217 ?_
     show Goes _ _ _ _ _ (fT T205 m 218 #[vi x0, vi x1, vi x2, vi x3, vi x4, vi 2, vi md, vi c0, vi c1, vi c2, vr b31, vr b34, vi q, vu] [(.int 1)])
     refine gS X205 hx hby at_218 #[vi x0, vi x1, vi x2, vi x3, vi x4, vi 2, vi md, vi c0, vi c1, vi c2, vr b31, vr b34, vi q, vi 1] ?_
     refine gG X205 hx hby at_220 220 264 ?_
     refine Gz (XS.aload X205.here hx rfl (hb hby at_264) rfl rfl) ?_
     refine gI X205 hx hby at_266 rfl rfl ?_
     refine cV X205 hx hZ hw hown hby hml e205 mN4 42 31 33 32 34 9 0 (rm_label l Z a0 hw [] b34 (own_up (own_up (fun _ => (-1 : Int32)) c0.toNatClampNeg (1 : Int32)) c1.toNatClampNeg (2 : Int32)) ((own_hb (own_hb (-1 : Int32) c0) c1) + 1) (2 : Int32) (3 : Int32) q T35.heap n0 Z0 AL_b34 r_q.1 r_q.2) A_b34 at_268 (lenOf own_pd0 rfl) N205 (fun T37 L37 X37 e37 N37 => ?_)
     show Goes _ _ _ _ _ (fT T37 m 271 #[vi x0, vi x1, vi x2, vi x3, vi x4, vi 2, vi md, vi c0, vi c1, vi c2, vr b31, vr b34, vi q, vi 1] [(.int ((own_up (own_up (fun _ => (-1 : Int32)) c0.toNatClampNeg (1 : Int32)) c1.toNatClampNeg (2 : Int32)) q.toNatClampNeg))])
     refine gI X37 hx hby at_271 rfl rfl ?_
     have hc273_38 : ((own_up (own_up (fun _ => (-1 : Int32)) c0.toNatClampNeg (1 : Int32)) c1.toNatClampNeg (2 : Int32)) q.toNatClampNeg) = 1 := by rw [hc214_36]; rw [own_upN (fun e => hc41_30 (own_tnE r_c0.1 r_c1.1 e)), own_upS]
     refine gU X37 hx hby at_273 (teq hc273_38).2 ?_
     refine gC X37 hx hby at_276 ?_
     refine gG X37 hx hby at_277 277 281 ?_
     refine Goes.ret X37 (some (.int 1)) (fun h => by rw [hret] at h; cases h) hlk (by decide) (by decide) ?_ (fun fs hr => ?_)
     ·rw [e37]; exact ⟨rfl, N37⟩
     ·exact own_retN X37 hx (t := .boolean) hret (by simp) rfl (hb hby at_281) hr
    ·refine gY X205 hx hby at_214 214 223 (feq hc214_36).2 ?_
     refine gI X205 hx hby at_223 rfl rfl ?_
     show Goes _ _ _ _ _ (fT T205 m 225 #[vi x0, vi x1, vi x2, vi x3, vi x4, vi 2, vi md, vi c0, vi c1, vi c2, vr b31, vr b34, vi q, vu] [(.int 2)])
     refine gC X205 hx hby at_225 ?_
     refine gU X205 hx hby at_226 (tlt (by decide : ((1 : Int32) < (2 : Int32)))).2.2.2 ?_
     refine gI X205 hx hby at_229 rfl rfl ?_
     refine gI X205 hx hby at_231 rfl rfl ?_
     by_cases hc233_39 : q = c1
     ·refine gU X205 hx hby at_233 (teq hc233_39).2 ?_
      refine gC X205 hx hby at_236 ?_
      show Goes _ _ _ _ _ (fT T205 m 237 #[vi x0, vi x1, vi x2, vi x3, vi x4, vi 2, vi md, vi c0, vi c1, vi c2, vr b31, vr b34, vi q, vu] [(.int 2)])
      refine gS X205 hx hby at_237 #[vi x0, vi x1, vi x2, vi x3, vi x4, vi 2, vi md, vi c0, vi c1, vi c2, vr b31, vr b34, vi q, vi 2] ?_
      refine gG X205 hx hby at_239 239 264 ?_
      refine Gz (XS.aload X205.here hx rfl (hb hby at_264) rfl rfl) ?_
      refine gI X205 hx hby at_266 rfl rfl ?_
      refine cV X205 hx hZ hw hown hby hml e205 mN4 42 31 33 32 34 9 0 (rm_label l Z a0 hw [] b34 (own_up (own_up (fun _ => (-1 : Int32)) c0.toNatClampNeg (1 : Int32)) c1.toNatClampNeg (2 : Int32)) ((own_hb (own_hb (-1 : Int32) c0) c1) + 1) (2 : Int32) (3 : Int32) q T35.heap n0 Z0 AL_b34 r_q.1 r_q.2) A_b34 at_268 (lenOf own_pd0 rfl) N205 (fun T40 L40 X40 e40 N40 => ?_)
      show Goes _ _ _ _ _ (fT T40 m 271 #[vi x0, vi x1, vi x2, vi x3, vi x4, vi 2, vi md, vi c0, vi c1, vi c2, vr b31, vr b34, vi q, vi 2] [(.int ((own_up (own_up (fun _ => (-1 : Int32)) c0.toNatClampNeg (1 : Int32)) c1.toNatClampNeg (2 : Int32)) q.toNatClampNeg))])
      refine gI X40 hx hby at_271 rfl rfl ?_
      have hc273_41 : ((own_up (own_up (fun _ => (-1 : Int32)) c0.toNatClampNeg (1 : Int32)) c1.toNatClampNeg (2 : Int32)) q.toNatClampNeg) = 2 := by rw [hc233_39]; rw [own_upS]
      refine gU X40 hx hby at_273 (teq hc273_41).2 ?_
      refine gC X40 hx hby at_276 ?_
      refine gG X40 hx hby at_277 277 281 ?_
      refine Goes.ret X40 (some (.int 1)) (fun h => by rw [hret] at h; cases h) hlk (by decide) (by decide) ?_ (fun fs hr => ?_)
      ·rw [e40]; exact ⟨rfl, N40⟩
      ·exact own_retN X40 hx (t := .boolean) hret (by simp) rfl (hb hby at_281) hr
     ·refine gY X205 hx hby at_233 233 242 (feq hc233_39).2 ?_
      refine gI X205 hx hby at_242 rfl rfl ?_
      show Goes _ _ _ _ _ (fT T205 m 244 #[vi x0, vi x1, vi x2, vi x3, vi x4, vi 2, vi md, vi c0, vi c1, vi c2, vr b31, vr b34, vi q, vu] [(.int 2)])
      refine gC X205 hx hby at_244 ?_
      refine gY X205 hx hby at_245 245 261 (flt (by decide : ¬ ((2 : Int32) < (2 : Int32)))).2.2.2 ?_
      refine gC X205 hx hby at_261 ?_
      refine gS X205 hx hby at_262 #[vi x0, vi x1, vi x2, vi x3, vi x4, vi 2, vi md, vi c0, vi c1, vi c2, vr b31, vr b34, vi q, vi (-1 : Int32)] ?_
      refine Gz (XS.aload X205.here hx rfl (hb hby at_264) rfl rfl) ?_
      refine gI X205 hx hby at_266 rfl rfl ?_
      show Goes _ _ _ _ _ (fT T205 m 268 #[vi x0, vi x1, vi x2, vi x3, vi x4, vi 2, vi md, vi c0, vi c1, vi c2, vr b31, vr b34, vi q, vi (-1 : Int32)] [(.int q), (.ref b34)])
      refine cV X205 hx hZ hw hown hby hml e205 mN4 42 31 33 32 34 9 0 (rm_label l Z a0 hw [] b34 (own_up (own_up (fun _ => (-1 : Int32)) c0.toNatClampNeg (1 : Int32)) c1.toNatClampNeg (2 : Int32)) ((own_hb (own_hb (-1 : Int32) c0) c1) + 1) (2 : Int32) (3 : Int32) q T35.heap n0 Z0 AL_b34 r_q.1 r_q.2) A_b34 at_268 (lenOf own_pd0 rfl) N205 (fun T42 L42 X42 e42 N42 => ?_)
      show Goes _ _ _ _ _ (fT T42 m 271 #[vi x0, vi x1, vi x2, vi x3, vi x4, vi 2, vi md, vi c0, vi c1, vi c2, vr b31, vr b34, vi q, vi (-1 : Int32)] [(.int ((own_up (own_up (fun _ => (-1 : Int32)) c0.toNatClampNeg (1 : Int32)) c1.toNatClampNeg (2 : Int32)) q.toNatClampNeg))])
      refine gI X42 hx hby at_271 rfl rfl ?_
      have hc273_43 : ((own_up (own_up (fun _ => (-1 : Int32)) c0.toNatClampNeg (1 : Int32)) c1.toNatClampNeg (2 : Int32)) q.toNatClampNeg) = (-1 : Int32) := by rw [own_upN (fun e => hc233_39 (own_tnE r_q.1 r_c1.1 e)), own_upN (fun e => hc214_36 (own_tnE r_q.1 r_c0.1 e))]
      refine gU X42 hx hby at_273 (teq hc273_43).2 ?_
      refine gC X42 hx hby at_276 ?_
      refine gG X42 hx hby at_277 277 281 ?_
      refine Goes.ret X42 (some (.int 1)) (fun h => by rw [hret] at h; cases h) hlk (by decide) (by decide) ?_ (fun fs hr => ?_)
      ·rw [e42]; exact ⟨rfl, N42⟩
      ·exact own_retN X42 hx (t := .boolean) hret (by simp) rfl (hb hby at_281) hr
   intro J205
   refine gI X35 hx hby at_120 rfl rfl ?_
   by_cases hc122_44 : md = 0
   ·refine gu X35 hx hby at_122 ((if0 _ _).trans (teq hc122_44).2) ?_
    refine gI X35 hx hby at_125 rfl rfl ?_
    refine gS X35 hx hby at_127 #[vi x0, vi x1, vi x2, vi x3, vi x4, vi 2, vi md, vi c0, vi c1, vi c2, vr b31, vr b34, vi c0, vu] ?_
    refine gG X35 hx hby at_129 129 205 ?_
    show Goes _ _ _ _ _ (fT T35 m 205 #[vi x0, vi x1, vi x2, vi x3, vi x4, vi 2, vi md, vi c0, vi c1, vi c2, vr b31, vr b34, vi c0, vu] [])
    exact J205 _ _ _ X35 rfl N35 r_c0
   ·refine gy X35 hx hby at_122 122 132 ((if0 _ _).trans (feq hc122_44).2) ?_
    refine gI X35 hx hby at_132 rfl rfl ?_
    refine gC X35 hx hby at_134 ?_
    by_cases hc135_45 : md = 1
    ·refine gU X35 hx hby at_135 (teq hc135_45).2 ?_
     refine gI X35 hx hby at_138 rfl rfl ?_
     show Goes _ _ _ _ _ (fT T35 m 140 #[vi x0, vi x1, vi x2, vi x3, vi x4, vi 2, vi md, vi c0, vi c1, vi c2, vr b31, vr b34, vu, vu] [(.int c1)])
     refine gS X35 hx hby at_140 #[vi x0, vi x1, vi x2, vi x3, vi x4, vi 2, vi md, vi c0, vi c1, vi c2, vr b31, vr b34, vi c1, vu] ?_
     refine gG X35 hx hby at_142 142 205 ?_
     show Goes _ _ _ _ _ (fT T35 m 205 #[vi x0, vi x1, vi x2, vi x3, vi x4, vi 2, vi md, vi c0, vi c1, vi c2, vr b31, vr b34, vi c1, vu] [])
     exact J205 _ _ _ X35 rfl N35 r_c1
    ·refine gY X35 hx hby at_135 135 145 (feq hc135_45).2 ?_
     refine gI X35 hx hby at_145 rfl rfl ?_
     show Goes _ _ _ _ _ (fT T35 m 147 #[vi x0, vi x1, vi x2, vi x3, vi x4, vi 2, vi md, vi c0, vi c1, vi c2, vr b31, vr b34, vu, vu] [(.int md)])
     refine gC X35 hx hby at_147 ?_
     by_cases hc148_46 : md = 2
     ·refine gU X35 hx hby at_148 (teq hc148_46).2 ?_
      refine gI X35 hx hby at_151 rfl rfl ?_
      refine gS X35 hx hby at_153 #[vi x0, vi x1, vi x2, vi x3, vi x4, vi 2, vi md, vi c0, vi c1, vi c2, vr b31, vr b34, vi c2, vu] ?_
      refine gG X35 hx hby at_155 155 205 ?_
      show Goes _ _ _ _ _ (fT T35 m 205 #[vi x0, vi x1, vi x2, vi x3, vi x4, vi 2, vi md, vi c0, vi c1, vi c2, vr b31, vr b34, vi c2, vu] [])
      exact J205 _ _ _ X35 rfl N35 r_c2
     ·refine gY X35 hx hby at_148 148 158 (feq hc148_46).2 ?_
      refine gI X35 hx hby at_158 rfl rfl ?_
      refine gC X35 hx hby at_160 ?_
      by_cases hc161_47 : md = 3
      ·refine gU X35 hx hby at_161 (teq hc161_47).2 ?_
       refine gI X35 hx hby at_164 rfl rfl ?_
       show Goes _ _ _ _ _ (fT T35 m 166 #[vi x0, vi x1, vi x2, vi x3, vi x4, vi 2, vi md, vi c0, vi c1, vi c2, vr b31, vr b34, vu, vu] [(.int c0)])
       refine gI X35 hx hby at_166 rfl rfl ?_
       refine Gz (XS.sipush X35.here hx rfl (hb hby at_168)) ?_
       show Goes _ _ _ _ _ (fT T35 m 171 #[vi x0, vi x1, vi x2, vi x3, vi x4, vi 2, vi md, vi c0, vi c1, vi c2, vr b31, vr b34, vu, vu] [(.int 255), (.int x4), (.int c0)])
       refine Gz (XS.iand X35.here hx rfl (hb hby at_171) rfl) ?_
       show Goes _ _ _ _ _ (fT T35 m 172 #[vi x0, vi x1, vi x2, vi x3, vi x4, vi 2, vi md, vi c0, vi c1, vi c2, vr b31, vr b34, vu, vu] [(.int (x4 &&& 255)), (.int c0)])
       refine Gz (XS.ixor X35.here hx rfl (hb hby at_172) rfl) ?_
       show Goes _ _ _ _ _ (fT T35 m 173 #[vi x0, vi x1, vi x2, vi x3, vi x4, vi 2, vi md, vi c0, vi c1, vi c2, vr b31, vr b34, vu, vu] [(.int (c0 ^^^ (x4 &&& 255)))])
       refine gS X35 hx hby at_173 #[vi x0, vi x1, vi x2, vi x3, vi x4, vi 2, vi md, vi c0, vi c1, vi c2, vr b31, vr b34, vi (c0 ^^^ (x4 &&& 255)), vu] ?_
       refine gG X35 hx hby at_175 175 205 ?_
       show Goes _ _ _ _ _ (fT T35 m 205 #[vi x0, vi x1, vi x2, vi x3, vi x4, vi 2, vi md, vi c0, vi c1, vi c2, vr b31, vr b34, vi (c0 ^^^ (x4 &&& 255)), vu] [])
       exact J205 _ _ _ X35 rfl N35 (own_xor r_c0)
      ·refine gY X35 hx hby at_161 161 178 (feq hc161_47).2 ?_
       refine gI X35 hx hby at_178 rfl rfl ?_
       show Goes _ _ _ _ _ (fT T35 m 180 #[vi x0, vi x1, vi x2, vi x3, vi x4, vi 2, vi md, vi c0, vi c1, vi c2, vr b31, vr b34, vu, vu] [(.int md)])
       refine gC X35 hx hby at_180 ?_
       by_cases hc181_48 : md = 4
       ·refine gU X35 hx hby at_181 (teq hc181_48).2 ?_
        refine gI X35 hx hby at_184 rfl rfl ?_
        refine gI X35 hx hby at_186 rfl rfl ?_
        refine Gz (XS.sipush X35.here hx rfl (hb hby at_188)) ?_
        show Goes _ _ _ _ _ (fT T35 m 191 #[vi x0, vi x1, vi x2, vi x3, vi x4, vi 2, vi md, vi c0, vi c1, vi c2, vr b31, vr b34, vu, vu] [(.int 255), (.int x4), (.int c1)])
        refine Gz (XS.iand X35.here hx rfl (hb hby at_191) rfl) ?_
        show Goes _ _ _ _ _ (fT T35 m 192 #[vi x0, vi x1, vi x2, vi x3, vi x4, vi 2, vi md, vi c0, vi c1, vi c2, vr b31, vr b34, vu, vu] [(.int (x4 &&& 255)), (.int c1)])
        refine Gz (XS.ixor X35.here hx rfl (hb hby at_192) rfl) ?_
        show Goes _ _ _ _ _ (fT T35 m 193 #[vi x0, vi x1, vi x2, vi x3, vi x4, vi 2, vi md, vi c0, vi c1, vi c2, vr b31, vr b34, vu, vu] [(.int (c1 ^^^ (x4 &&& 255)))])
        refine gS X35 hx hby at_193 #[vi x0, vi x1, vi x2, vi x3, vi x4, vi 2, vi md, vi c0, vi c1, vi c2, vr b31, vr b34, vi (c1 ^^^ (x4 &&& 255)), vu] ?_
        refine gG X35 hx hby at_195 195 205 ?_
        show Goes _ _ _ _ _ (fT T35 m 205 #[vi x0, vi x1, vi x2, vi x3, vi x4, vi 2, vi md, vi c0, vi c1, vi c2, vr b31, vr b34, vi (c1 ^^^ (x4 &&& 255)), vu] [])
        exact J205 _ _ _ X35 rfl N35 (own_xor r_c1)
       ·refine gY X35 hx hby at_181 181 198 (feq hc181_48).2 ?_
        refine gI X35 hx hby at_198 rfl rfl ?_
        refine cS X35 hx hZ hw hown hby hml rfl mN0 0 1 3 2 0 (rm_cp l Z a0 hw [] x4 T35.heap n0 Z0) at_200 (lenOf own_pd0 rfl) N35 (fun T49 L49 X49 e49 N49 => ?_)
        show Goes _ _ _ _ _ (fT T49 m 203 #[vi x0, vi x1, vi x2, vi x3, vi x4, vi 2, vi md, vi c0, vi c1, vi c2, vr b31, vr b34, vu, vu] [(.int ((x4 &&& 2147483647) % 1114112))])
        refine gS X49 hx hby at_203 #[vi x0, vi x1, vi x2, vi x3, vi x4, vi 2, vi md, vi c0, vi c1, vi c2, vr b31, vr b34, vi ((x4 &&& 2147483647) % 1114112), vu] ?_
        show Goes _ _ _ _ _ (fT T49 m 205 #[vi x0, vi x1, vi x2, vi x3, vi x4, vi 2, vi md, vi c0, vi c1, vi c2, vr b31, vr b34, vi ((x4 &&& 2147483647) % 1114112), vu] [])
        exact J205 _ _ _ X49 e49 N49 (own_cp x4)
 ·show Goes _ _ _ _ _ (fT T3 m 31 #[vi x0, vi x1, vi x2, vi x3, vi x4, vi 3, vi md, vi c0, vi c1, vi c2, vu, vu, vu, vu] [])
  refine gI X3 hx hby at_31 rfl rfl ?_
  refine gC X3 hx hby at_33 ?_
  refine gU X3 hx hby at_34 (flt (by decide : ¬ ((3 : Int32) < (2 : Int32)))).1 ?_
  refine gI X3 hx hby at_37 rfl rfl ?_
  refine gI X3 hx hby at_39 rfl rfl ?_
  by_cases hc41_50 : c0 = c1
  ·refine gU X3 hx hby at_41 (teq hc41_50).2 ?_
   show Goes _ _ _ _ _ (fT T3 m 44 #[vi x0, vi x1, vi x2, vi x3, vi x4, vi 3, vi md, vi c0, vi c1, vi c2, vu, vu, vu, vu] [])
   refine gC X3 hx hby at_44 ?_
   refine Goes.ret X3 (some (.int 1)) (fun h => by rw [hret] at h; cases h) hlk (by decide) (by decide) ?_ (fun fs hr => ?_)
   ·rw [e3]; exact ⟨rfl, N3⟩
   ·exact own_retN X3 hx (t := .boolean) hret (by simp) rfl (hb hby at_45) hr
  ·refine gY X3 hx hby at_41 41 46 (feq hc41_50).2 ?_
   show Goes _ _ _ _ _ (fT T3 m 46 #[vi x0, vi x1, vi x2, vi x3, vi x4, vi 3, vi md, vi c0, vi c1, vi c2, vu, vu, vu, vu] [])
   refine gI X3 hx hby at_46 rfl rfl ?_
   refine gC X3 hx hby at_48 ?_
   refine gU X3 hx hby at_49 (flt (by decide : ¬ ((3 : Int32) < (3 : Int32)))).1 ?_
   refine gI X3 hx hby at_52 rfl rfl ?_
   refine gI X3 hx hby at_54 rfl rfl ?_
   by_cases hc56_51 : c0 = c2
   ·refine gY X3 hx hby at_56 56 66 (teq hc56_51).1 ?_
    show Goes _ _ _ _ _ (fT T3 m 66 #[vi x0, vi x1, vi x2, vi x3, vi x4, vi 3, vi md, vi c0, vi c1, vi c2, vu, vu, vu, vu] [])
    refine gC X3 hx hby at_66 ?_
    refine Goes.ret X3 (some (.int 1)) (fun h => by rw [hret] at h; cases h) hlk (by decide) (by decide) ?_ (fun fs hr => ?_)
    ·rw [e3]; exact ⟨rfl, N3⟩
    ·exact own_retN X3 hx (t := .boolean) hret (by simp) rfl (hb hby at_67) hr
   ·refine gU X3 hx hby at_56 (feq hc56_51).1 ?_
    show Goes _ _ _ _ _ (fT T3 m 59 #[vi x0, vi x1, vi x2, vi x3, vi x4, vi 3, vi md, vi c0, vi c1, vi c2, vu, vu, vu, vu] [])
    refine gI X3 hx hby at_59 rfl rfl ?_
    refine gI X3 hx hby at_61 rfl rfl ?_
    by_cases hc63_52 : c1 = c2
    ·refine gU X3 hx hby at_63 (teq hc63_52).2 ?_
     refine gC X3 hx hby at_66 ?_
     refine Goes.ret X3 (some (.int 1)) (fun h => by rw [hret] at h; cases h) hlk (by decide) (by decide) ?_ (fun fs hr => ?_)
     ·rw [e3]; exact ⟨rfl, N3⟩
     ·exact own_retN X3 hx (t := .boolean) hret (by simp) rfl (hb hby at_67) hr
    ·refine gY X3 hx hby at_63 63 68 (feq hc63_52).2 ?_
     refine gI X3 hx hby at_68 rfl rfl ?_
     obtain ⟨T53, h53, k53, X53, e53, E53, A53, st53⟩ := newP X3 hx hZ (gw hw 6 rfl) e3 (g := (mkF m 70 #[vi x0, vi x1, vi x2, vi x3, vi x4, vi 3, vi md, vi c0, vi c1, vi c2, vu, vu, vu, vu] [(.int 3)])) rfl (hb hby at_70) rfl (by decide) (cap := 3) (by decide) (by decide) (by decide) (by decide)
     obtain ⟨b53, gq53⟩ : ∃ z, z = h0.size := ⟨_, rfl⟩
     rw [← gq53] at A53 st53
     have g_b53 : n0 ≤ b53 := by rw [gq53]; exact Z0
     replace Z0 : n0 ≤ h53.size := Nat.le_trans Z0 E53.1
     have V_b53 : Arv Z h53 b53 k53 .int 3 [(.int 0), (.int 0), (.int 0)] (.int 0) := (Arv.new A53 (by decide)).pad (pad_rep [] (.int 0) 3)
     refine Gs st53 ?_
     show Goes _ _ _ _ _ (fT T53 m 72 #[vi x0, vi x1, vi x2, vi x3, vi x4, vi 3, vi md, vi c0, vi c1, vi c2, vu, vu, vu, vu] [(.ref b53)])
     refine Gz (XS.astore X53.here hx rfl (hb hby at_72) rfl rfl (l' := #[vi x0, vi x1, vi x2, vi x3, vi x4, vi 3, vi md, vi c0, vi c1, vi c2, vr b53, vu, vu, vu]) rfl) ?_
     refine gI X53 hx hby at_74 rfl rfl ?_
     refine gu X53 hx hby at_76 ((if0 _ _).trans (tlt (by decide : ((0 : Int32) < (3 : Int32)))).2.2.2) ?_
     refine Gz (XS.aload X53.here hx rfl (hb hby at_79) rfl rfl) ?_
     refine gC X53 hx hby at_81 ?_
     refine gI X53 hx hby at_82 rfl rfl ?_
     show Goes _ _ _ _ _ (fT T53 m 84 #[vi x0, vi x1, vi x2, vi x3, vi x4, vi 3, vi md, vi c0, vi c1, vi c2, vr b53, vu, vu, vu] [(.int c0), (.int 0), (.ref b53)])
     obtain ⟨cl54, Ar54, q54, S54, N54z, H54, G54⟩ := V_b53
     have hin54 : ¬ ((0 : Int32) < 0 ∨ cl54.slots.size ≤ ((0 : Int32)).toNatClampNeg) := inb_of S54 ⟨by decide, by decide⟩
     obtain ⟨T54, h54, X54, e54, W54, st54⟩ := stI X53 hx hZ e53 Ar54 (j := (0 : Int32)) hin54 (g := (mkF m 84 #[vi x0, vi x1, vi x2, vi x3, vi x4, vi 3, vi md, vi c0, vi c1, vi c2, vr b53, vu, vu, vu] [(.int c0), (.int 0), (.ref b53)])) rfl rfl (hb hby at_84)
     have Vn54 := Arv.set Ar54 q54 S54 N54z H54 G54 rfl W54 0 rfl (Nat.le_of_ble_eq_true rfl)
     have N54 := Fr.snoc X54 N3 g_b53
     have V_b53 : Arv Z h54 b53 _ .int 3 [(.int c0), (.int 0), (.int 0)] (.int 0) := Vn54
     replace Z0 : n0 ≤ h54.size := by rw [W54.size]; exact Z0
     refine Gs st54 ?_
     show Goes _ _ _ _ _ (fT T54 m 85 #[vi x0, vi x1, vi x2, vi x3, vi x4, vi 3, vi md, vi c0, vi c1, vi c2, vr b53, vu, vu, vu] [])
     refine gI X54 hx hby at_85 rfl rfl ?_
     refine gC X54 hx hby at_87 ?_
     refine gU X54 hx hby at_88 (tlt (by decide : ((1 : Int32) < (3 : Int32)))).2.2.2 ?_
     refine Gz (XS.aload X54.here hx rfl (hb hby at_91) rfl rfl) ?_
     refine gC X54 hx hby at_93 ?_
     refine gI X54 hx hby at_94 rfl rfl ?_
     show Goes _ _ _ _ _ (fT T54 m 96 #[vi x0, vi x1, vi x2, vi x3, vi x4, vi 3, vi md, vi c0, vi c1, vi c2, vr b53, vu, vu, vu] [(.int c1), (.int 1), (.ref b53)])
     obtain ⟨cl55, Ar55, q55, S55, N55z, H55, G55⟩ := V_b53
     have hin55 : ¬ ((1 : Int32) < 0 ∨ cl55.slots.size ≤ ((1 : Int32)).toNatClampNeg) := inb_of S55 ⟨by decide, by decide⟩
     obtain ⟨T55, h55, X55, e55, W55, st55⟩ := stI X54 hx hZ e54 Ar55 (j := (1 : Int32)) hin55 (g := (mkF m 96 #[vi x0, vi x1, vi x2, vi x3, vi x4, vi 3, vi md, vi c0, vi c1, vi c2, vr b53, vu, vu, vu] [(.int c1), (.int 1), (.ref b53)])) rfl rfl (hb hby at_96)
     have Vn55 := Arv.set Ar55 q55 S55 N55z H55 G55 rfl W55 1 rfl (Nat.le_of_ble_eq_true rfl)
     have N55 := Fr.snoc X55 N54 g_b53
     have V_b53 : Arv Z h55 b53 _ .int 3 [(.int c0), (.int c1), (.int 0)] (.int 0) := Vn55
     replace Z0 : n0 ≤ h55.size := by rw [W55.size]; exact Z0
     refine Gs st55 ?_
     show Goes _ _ _ _ _ (fT T55 m 97 #[vi x0, vi x1, vi x2, vi x3, vi x4, vi 3, vi md, vi c0, vi c1, vi c2, vr b53, vu, vu, vu] [])
     refine gI X55 hx hby at_97 rfl rfl ?_
     refine gC X55 hx hby at_99 ?_
     refine gU X55 hx hby at_100 (tlt (by decide : ((2 : Int32) < (3 : Int32)))).2.2.2 ?_
     refine Gz (XS.aload X55.here hx rfl (hb hby at_103) rfl rfl) ?_
     refine gC X55 hx hby at_105 ?_
     refine gI X55 hx hby at_106 rfl rfl ?_
     show Goes _ _ _ _ _ (fT T55 m 108 #[vi x0, vi x1, vi x2, vi x3, vi x4, vi 3, vi md, vi c0, vi c1, vi c2, vr b53, vu, vu, vu] [(.int c2), (.int 2), (.ref b53)])
     obtain ⟨cl56, Ar56, q56, S56, N56z, H56, G56⟩ := V_b53
     have hin56 : ¬ ((2 : Int32) < 0 ∨ cl56.slots.size ≤ ((2 : Int32)).toNatClampNeg) := inb_of S56 ⟨by decide, by decide⟩
     obtain ⟨T56, h56, X56, e56, W56, st56⟩ := stI X55 hx hZ e55 Ar56 (j := (2 : Int32)) hin56 (g := (mkF m 108 #[vi x0, vi x1, vi x2, vi x3, vi x4, vi 3, vi md, vi c0, vi c1, vi c2, vr b53, vu, vu, vu] [(.int c2), (.int 2), (.ref b53)])) rfl rfl (hb hby at_108)
     have Vn56 := Arv.set Ar56 q56 S56 N56z H56 G56 rfl W56 2 rfl (Nat.le_of_ble_eq_true rfl)
     have N56 := Fr.snoc X56 N55 g_b53
     have V_b53 : Arv Z h56 b53 _ .int 3 [(.int c0), (.int c1), (.int c2)] (.int 0) := Vn56
     replace Z0 : n0 ≤ h56.size := by rw [W56.size]; exact Z0
     refine Gs st56 ?_
     show Goes _ _ _ _ _ (fT T56 m 109 #[vi x0, vi x1, vi x2, vi x3, vi x4, vi 3, vi md, vi c0, vi c1, vi c2, vr b53, vu, vu, vu] [])
     obtain ⟨T57, h57, X57, e57, E57, A57, D57, -, st57⟩ := newO X56 hx hZ hown (gw hw 7 rfl) (gw hw 8 rfl) (gw hw 9 rfl) e56 (g := (mkF m 109 #[vi x0, vi x1, vi x2, vi x3, vi x4, vi 3, vi md, vi c0, vi c1, vi c2, vr b53, vu, vu, vu] [])) rfl (hb hby at_109) (by decide) (by decide)
     obtain ⟨b57, gq57⟩ : ∃ z, z = h56.size := ⟨_, rfl⟩
     rw [← gq57] at A57 st57 D57
     have g_b57 : n0 ≤ b57 := by rw [gq57]; exact Z0
     have lt_b53_b57 : b53 < b57 := by rw [gq57]; exact V_b53.lt
     replace V_b53 := V_b53.ext E57
     replace Z0 : n0 ≤ h57.size := Nat.le_trans Z0 E57.1
     have A_b57 : Exa Z h57 b57 "com/example/tandemtrie/tandemtrie/array/Alphabet" := A57
     have F_basic_b57 : Fld Z h57 b57 "com/example/tandemtrie/tandemtrie/array/Alphabet" "basic" "[I" .null := D57 (Or.inl (gw hw 17 rfl)) (ty := (.array .int)) (by decide)
     have F_codePoints_b57 : Fld Z h57 b57 "com/example/tandemtrie/tandemtrie/array/Alphabet" "codePoints" "[I" .null := D57 (Or.inl (gw hw 19 rfl)) (ty := (.array .int)) (by decide)
     have F_size_b57 : Fld Z h57 b57 "com/example/tandemtrie/tandemtrie/array/Alphabet" "size" "I" (.int 0) := D57 (Or.inl (gw hw 41 rfl)) (ty := .int) (by decide)
     have F_supplementary_b57 : Fld Z h57 b57 "com/example/tandemtrie/tandemtrie/array/Alphabet" "supplementary" "[[I" .null := D57 (Or.inl (gw hw 44 rfl)) (ty := (.array (.array .int))) (by decide)
     refine Gs st57 ?_
     show Goes _ _ _ _ _ (fT T57 m 112 #[vi x0, vi x1, vi x2, vi x3, vi x4, vi 3, vi md, vi c0, vi c1, vi c2, vr b53, vu, vu, vu] [(.ref b57)])
     refine Gz (XS.dup X57.here hx rfl (hb hby at_112) rfl rfl) ?_
     refine Gz (XS.aload X57.here hx rfl (hb hby at_113) rfl rfl) ?_
     refine cIg X57 hx hZ hw hown hby hml e57 mN6 10 11 12 9 1 (rm_init3 l Z a0 hw [] b57 b53 k53 c0 c1 c2 h57 n0 Z0 A_b57 F_basic_b57 F_codePoints_b57 F_size_b57 F_supplementary_b57 V_b53 lt_b53_b57 g_b57 r_c0 r_c1 r_c2 hc41_50 hc56_51 hc63_52) at_115 (lenOf own_pd3 rfl) (fun _ T58 L58 X58 hQ58 => ?_)
     obtain ⟨rfl, N58q, AL_b57, Zn⟩ := hQ58
     have N58 := Fr.app N56 N58q
     replace Z0 := Zn
     have A_b57 := AL_b57.exa
     show Goes _ _ _ _ _ (fT T58 m 118 #[vi x0, vi x1, vi x2, vi x3, vi x4, vi 3, vi md, vi c0, vi c1, vi c2, vr b53, vu, vu, vu] [(.ref b57)])
     refine Gz (XS.astore X58.here hx rfl (hb hby at_118) rfl rfl (l' := #[vi x0, vi x1, vi x2, vi x3, vi x4, vi 3, vi md, vi c0, vi c1, vi c2, vr b53, vr b57, vu, vu]) rfl) ?_
     show Goes _ _ _ _ _ (fT T58 m 120 #[vi x0, vi x1, vi x2, vi x3, vi x4, vi 3, vi md, vi c0, vi c1, vi c2, vr b53, vr b57, vu, vu] [])
     refine own_joinTP X58 rfl N58 (P := fun q => 0 ≤ q.toInt ∧ q.toInt < 1114112) (B := fun q T => T.setTop (mkF m 205 #[vi x0, vi x1, vi x2, vi x3, vi x4, vi 3, vi md, vi c0, vi c1, vi c2, vr b53, vr b57, vi q, vu] [])) ?_ ?_
     ·intro T205 L205 q X205 e205 N205 r_q
      show Goes _ _ _ _ _ (fT T205 m 205 #[vi x0, vi x1, vi x2, vi x3, vi x4, vi 3, vi md, vi c0, vi c1, vi c2, vr b53, vr b57, vi q, vu] [])
      refine gI X205 hx hby at_205 rfl rfl ?_
      refine gu X205 hx hby at_207 ((if0 _ _).trans (tlt (by decide : ((0 : Int32) < (3 : Int32)))).2.2.2) ?_
      refine gI X205 hx hby at_210 rfl rfl ?_
      refine gI X205 hx hby at_212 rfl rfl ?_
      by_cases hc214_59 : q = c0
      ·refine gU X205 hx hby at_214 (teq hc214_59).2 ?_
       refine gC X205 hx hby at_217 ?_
       show Goes _ _ _ _ _ (fT T205 m 218 #[vi x0, vi x1, vi x2, vi x3, vi x4, vi 3, vi md, vi c0, vi c1, vi c2, vr b53, vr b57, vi q, vu] [(.int 1)])
       refine gS X205 hx hby at_218 #[vi x0, vi x1, vi x2, vi x3, vi x4, vi 3, vi md, vi c0, vi c1, vi c2, vr b53, vr b57, vi q, vi 1] ?_
       refine gG X205 hx hby at_220 220 264 ?_
       refine Gz (XS.aload X205.here hx rfl (hb hby at_264) rfl rfl) ?_
       refine gI X205 hx hby at_266 rfl rfl ?_
       refine cV X205 hx hZ hw hown hby hml e205 mN4 42 31 33 32 34 9 0 (rm_label l Z a0 hw [] b57 (own_up (own_up (own_up (fun _ => (-1 : Int32)) c0.toNatClampNeg (1 : Int32)) c1.toNatClampNeg (2 : Int32)) c2.toNatClampNeg (3 : Int32)) ((own_hb (own_hb (own_hb (-1 : Int32) c0) c1) c2) + 1) (3 : Int32) (4 : Int32) q T58.heap n0 Z0 AL_b57 r_q.1 r_q.2) A_b57 at_268 (lenOf own_pd0 rfl) N205 (fun T60 L60 X60 e60 N60 => ?_)
       show Goes _ _ _ _ _ (fT T60 m 271 #[vi x0, vi x1, vi x2, vi x3, vi x4, vi 3, vi md, vi c0, vi c1, vi c2, vr b53, vr b57, vi q, vi 1] [(.int ((own_up (own_up (own_up (fun _ => (-1 : Int32)) c0.toNatClampNeg (1 : Int32)) c1.toNatClampNeg (2 : Int32)) c2.toNatClampNeg (3 : Int32)) q.toNatClampNeg))])
       refine gI X60 hx hby at_271 rfl rfl ?_
       have hc273_61 : ((own_up (own_up (own_up (fun _ => (-1 : Int32)) c0.toNatClampNeg (1 : Int32)) c1.toNatClampNeg (2 : Int32)) c2.toNatClampNeg (3 : Int32)) q.toNatClampNeg) = 1 := by rw [hc214_59]; rw [own_upN (fun e => hc56_51 (own_tnE r_c0.1 r_c2.1 e)), own_upN (fun e => hc41_50 (own_tnE r_c0.1 r_c1.1 e)), own_upS]
       refine gU X60 hx hby at_273 (teq hc273_61).2 ?_
       refine gC X60 hx hby at_276 ?_
       refine gG X60 hx hby at_277 277 281 ?_
       refine Goes.ret X60 (some (.int 1)) (fun h => by rw [hret] at h; cases h) hlk (by decide) (by decide) ?_ (fun fs hr => ?_)
       ·rw [e60]; exact ⟨rfl, N60⟩
       ·exact own_retN X60 hx (t := .boolean) hret (by simp) rfl (hb hby at_281) hr
      ·refine gY X205 hx hby at_214 214 223 (feq hc214_59).2 ?_
       refine gI X205 hx hby at_223 rfl rfl ?_
       show Goes _ _ _ _ _ (fT T205 m 225 #[vi x0, vi x1, vi x2, vi x3, vi x4, vi 3, vi md, vi c0, vi c1, vi c2, vr b53, vr b57, vi q, vu] [(.int 3)])
       refine gC X205 hx hby at_225 ?_
       refine gU X205 hx hby at_226 (tlt (by decide : ((1 : Int32) < (3 : Int32)))).2.2.2 ?_
       refine gI X205 hx hby at_229 rfl rfl ?_
       refine gI X205 hx hby at_231 rfl rfl ?_
       by_cases hc233_62 : q = c1
       ·refine gU X205 hx hby at_233 (teq hc233_62).2 ?_
        refine gC X205 hx hby at_236 ?_
        show Goes _ _ _ _ _ (fT T205 m 237 #[vi x0, vi x1, vi x2, vi x3, vi x4, vi 3, vi md, vi c0, vi c1, vi c2, vr b53, vr b57, vi q, vu] [(.int 2)])
        refine gS X205 hx hby at_237 #[vi x0, vi x1, vi x2, vi x3, vi x4, vi 3, vi md, vi c0, vi c1, vi c2, vr b53, vr b57, vi q, vi 2] ?_
        refine gG X205 hx hby at_239 239 264 ?_
        refine Gz (XS.aload X205.here hx rfl (hb hby at_264) rfl rfl) ?_
        refine gI X205 hx hby at_266 rfl rfl ?_
        refine cV X205 hx hZ hw hown hby hml e205 mN4 42 31 33 32 34 9 0 (rm_label l Z a0 hw [] b57 (own_up (own_up (own_up (fun _ => (-1 : Int32)) c0.toNatClampNeg (1 : Int32)) c1.toNatClampNeg (2 : Int32)) c2.toNatClampNeg (3 : Int32)) ((own_hb (own_hb (own_hb (-1 : Int32) c0) c1) c2) + 1) (3 : Int32) (4 : Int32) q T58.heap n0 Z0 AL_b57 r_q.1 r_q.2) A_b57 at_268 (lenOf own_pd0 rfl) N205 (fun T63 L63 X63 e63 N63 => ?_)
        show Goes _ _ _ _ _ (fT T63 m 271 #[vi x0, vi x1, vi x2, vi x3, vi x4, vi 3, vi md, vi c0, vi c1, vi c2, vr b53, vr b57, vi q, vi 2] [(.int ((own_up (own_up (own_up (fun _ => (-1 : Int32)) c0.toNatClampNeg (1 : Int32)) c1.toNatClampNeg (2 : Int32)) c2.toNatClampNeg (3 : Int32)) q.toNatClampNeg))])
        refine gI X63 hx hby at_271 rfl rfl ?_
        have hc273_64 : ((own_up (own_up (own_up (fun _ => (-1 : Int32)) c0.toNatClampNeg (1 : Int32)) c1.toNatClampNeg (2 : Int32)) c2.toNatClampNeg (3 : Int32)) q.toNatClampNeg) = 2 := by rw [hc233_62]; rw [own_upN (fun e => hc63_52 (own_tnE r_c1.1 r_c2.1 e)), own_upS]
        refine gU X63 hx hby at_273 (teq hc273_64).2 ?_
        refine gC X63 hx hby at_276 ?_
        refine gG X63 hx hby at_277 277 281 ?_
        refine Goes.ret X63 (some (.int 1)) (fun h => by rw [hret] at h; cases h) hlk (by decide) (by decide) ?_ (fun fs hr => ?_)
        ·rw [e63]; exact ⟨rfl, N63⟩
        ·exact own_retN X63 hx (t := .boolean) hret (by simp) rfl (hb hby at_281) hr
       ·refine gY X205 hx hby at_233 233 242 (feq hc233_62).2 ?_
        refine gI X205 hx hby at_242 rfl rfl ?_
        show Goes _ _ _ _ _ (fT T205 m 244 #[vi x0, vi x1, vi x2, vi x3, vi x4, vi 3, vi md, vi c0, vi c1, vi c2, vr b53, vr b57, vi q, vu] [(.int 3)])
        refine gC X205 hx hby at_244 ?_
        refine gU X205 hx hby at_245 (tlt (by decide : ((2 : Int32) < (3 : Int32)))).2.2.2 ?_
        refine gI X205 hx hby at_248 rfl rfl ?_
        refine gI X205 hx hby at_250 rfl rfl ?_
        by_cases hc252_65 : q = c2
        ·refine gU X205 hx hby at_252 (teq hc252_65).2 ?_
         refine gC X205 hx hby at_255 ?_
         show Goes _ _ _ _ _ (fT T205 m 256 #[vi x0, vi x1, vi x2, vi x3, vi x4, vi 3, vi md, vi c0, vi c1, vi c2, vr b53, vr b57, vi q, vu] [(.int 3)])
         refine gS X205 hx hby at_256 #[vi x0, vi x1, vi x2, vi x3, vi x4, vi 3, vi md, vi c0, vi c1, vi c2, vr b53, vr b57, vi q, vi 3] ?_
         refine gG X205 hx hby at_258 258 264 ?_
         refine Gz (XS.aload X205.here hx rfl (hb hby at_264) rfl rfl) ?_
         refine gI X205 hx hby at_266 rfl rfl ?_
         refine cV X205 hx hZ hw hown hby hml e205 mN4 42 31 33 32 34 9 0 (rm_label l Z a0 hw [] b57 (own_up (own_up (own_up (fun _ => (-1 : Int32)) c0.toNatClampNeg (1 : Int32)) c1.toNatClampNeg (2 : Int32)) c2.toNatClampNeg (3 : Int32)) ((own_hb (own_hb (own_hb (-1 : Int32) c0) c1) c2) + 1) (3 : Int32) (4 : Int32) q T58.heap n0 Z0 AL_b57 r_q.1 r_q.2) A_b57 at_268 (lenOf own_pd0 rfl) N205 (fun T66 L66 X66 e66 N66 => ?_)
         show Goes _ _ _ _ _ (fT T66 m 271 #[vi x0, vi x1, vi x2, vi x3, vi x4, vi 3, vi md, vi c0, vi c1, vi c2, vr b53, vr b57, vi q, vi 3] [(.int ((own_up (own_up (own_up (fun _ => (-1 : Int32)) c0.toNatClampNeg (1 : Int32)) c1.toNatClampNeg (2 : Int32)) c2.toNatClampNeg (3 : Int32)) q.toNatClampNeg))])
         refine gI X66 hx hby at_271 rfl rfl ?_
         have hc273_67 : ((own_up (own_up (own_up (fun _ => (-1 : Int32)) c0.toNatClampNeg (1 : Int32)) c1.toNatClampNeg (2 : Int32)) c2.toNatClampNeg (3 : Int32)) q.toNatClampNeg) = 3 := by rw [hc252_65]; rw [own_upS]
         refine gU X66 hx hby at_273 (teq hc273_67).2 ?_
         refine gC X66 hx hby at_276 ?_
         refine gG X66 hx hby at_277 277 281 ?_
         refine Goes.ret X66 (some (.int 1)) (fun h => by rw [hret] at h; cases h) hlk (by decide) (by decide) ?_ (fun fs hr => ?_)
         ·rw [e66]; exact ⟨rfl, N66⟩
         ·exact own_retN X66 hx (t := .boolean) hret (by simp) rfl (hb hby at_281) hr
        ·refine gY X205 hx hby at_252 252 261 (feq hc252_65).2 ?_
         refine gC X205 hx hby at_261 ?_
         show Goes _ _ _ _ _ (fT T205 m 262 #[vi x0, vi x1, vi x2, vi x3, vi x4, vi 3, vi md, vi c0, vi c1, vi c2, vr b53, vr b57, vi q, vu] [(.int (-1 : Int32))])
         refine gS X205 hx hby at_262 #[vi x0, vi x1, vi x2, vi x3, vi x4, vi 3, vi md, vi c0, vi c1, vi c2, vr b53, vr b57, vi q, vi (-1 : Int32)] ?_
         refine Gz (XS.aload X205.here hx rfl (hb hby at_264) rfl rfl) ?_
         refine gI X205 hx hby at_266 rfl rfl ?_
         refine cV X205 hx hZ hw hown hby hml e205 mN4 42 31 33 32 34 9 0 (rm_label l Z a0 hw [] b57 (own_up (own_up (own_up (fun _ => (-1 : Int32)) c0.toNatClampNeg (1 : Int32)) c1.toNatClampNeg (2 : Int32)) c2.toNatClampNeg (3 : Int32)) ((own_hb (own_hb (own_hb (-1 : Int32) c0) c1) c2) + 1) (3 : Int32) (4 : Int32) q T58.heap n0 Z0 AL_b57 r_q.1 r_q.2) A_b57 at_268 (lenOf own_pd0 rfl) N205 (fun T68 L68 X68 e68 N68 => ?_)
         show Goes _ _ _ _ _ (fT T68 m 271 #[vi x0, vi x1, vi x2, vi x3, vi x4, vi 3, vi md, vi c0, vi c1, vi c2, vr b53, vr b57, vi q, vi (-1 : Int32)] [(.int ((own_up (own_up (own_up (fun _ => (-1 : Int32)) c0.toNatClampNeg (1 : Int32)) c1.toNatClampNeg (2 : Int32)) c2.toNatClampNeg (3 : Int32)) q.toNatClampNeg))])
         refine gI X68 hx hby at_271 rfl rfl ?_
         have hc273_69 : ((own_up (own_up (own_up (fun _ => (-1 : Int32)) c0.toNatClampNeg (1 : Int32)) c1.toNatClampNeg (2 : Int32)) c2.toNatClampNeg (3 : Int32)) q.toNatClampNeg) = (-1 : Int32) := by rw [own_upN (fun e => hc252_65 (own_tnE r_q.1 r_c2.1 e)), own_upN (fun e => hc233_62 (own_tnE r_q.1 r_c1.1 e)), own_upN (fun e => hc214_59 (own_tnE r_q.1 r_c0.1 e))]
         refine gU X68 hx hby at_273 (teq hc273_69).2 ?_
         refine gC X68 hx hby at_276 ?_
         refine gG X68 hx hby at_277 277 281 ?_
         refine Goes.ret X68 (some (.int 1)) (fun h => by rw [hret] at h; cases h) hlk (by decide) (by decide) ?_ (fun fs hr => ?_)
         ·rw [e68]; exact ⟨rfl, N68⟩
         ·exact own_retN X68 hx (t := .boolean) hret (by simp) rfl (hb hby at_281) hr
     intro J205
     refine gI X58 hx hby at_120 rfl rfl ?_
     by_cases hc122_70 : md = 0
     ·refine gu X58 hx hby at_122 ((if0 _ _).trans (teq hc122_70).2) ?_
      refine gI X58 hx hby at_125 rfl rfl ?_
      refine gS X58 hx hby at_127 #[vi x0, vi x1, vi x2, vi x3, vi x4, vi 3, vi md, vi c0, vi c1, vi c2, vr b53, vr b57, vi c0, vu] ?_
      refine gG X58 hx hby at_129 129 205 ?_
      show Goes _ _ _ _ _ (fT T58 m 205 #[vi x0, vi x1, vi x2, vi x3, vi x4, vi 3, vi md, vi c0, vi c1, vi c2, vr b53, vr b57, vi c0, vu] [])
      exact J205 _ _ _ X58 rfl N58 r_c0
     ·refine gy X58 hx hby at_122 122 132 ((if0 _ _).trans (feq hc122_70).2) ?_
      refine gI X58 hx hby at_132 rfl rfl ?_
      refine gC X58 hx hby at_134 ?_
      by_cases hc135_71 : md = 1
      ·refine gU X58 hx hby at_135 (teq hc135_71).2 ?_
       refine gI X58 hx hby at_138 rfl rfl ?_
       show Goes _ _ _ _ _ (fT T58 m 140 #[vi x0, vi x1, vi x2, vi x3, vi x4, vi 3, vi md, vi c0, vi c1, vi c2, vr b53, vr b57, vu, vu] [(.int c1)])
       refine gS X58 hx hby at_140 #[vi x0, vi x1, vi x2, vi x3, vi x4, vi 3, vi md, vi c0, vi c1, vi c2, vr b53, vr b57, vi c1, vu] ?_
       refine gG X58 hx hby at_142 142 205 ?_
       show Goes _ _ _ _ _ (fT T58 m 205 #[vi x0, vi x1, vi x2, vi x3, vi x4, vi 3, vi md, vi c0, vi c1, vi c2, vr b53, vr b57, vi c1, vu] [])
       exact J205 _ _ _ X58 rfl N58 r_c1
      ·refine gY X58 hx hby at_135 135 145 (feq hc135_71).2 ?_
       refine gI X58 hx hby at_145 rfl rfl ?_
       show Goes _ _ _ _ _ (fT T58 m 147 #[vi x0, vi x1, vi x2, vi x3, vi x4, vi 3, vi md, vi c0, vi c1, vi c2, vr b53, vr b57, vu, vu] [(.int md)])
       refine gC X58 hx hby at_147 ?_
       by_cases hc148_72 : md = 2
       ·refine gU X58 hx hby at_148 (teq hc148_72).2 ?_
        refine gI X58 hx hby at_151 rfl rfl ?_
        refine gS X58 hx hby at_153 #[vi x0, vi x1, vi x2, vi x3, vi x4, vi 3, vi md, vi c0, vi c1, vi c2, vr b53, vr b57, vi c2, vu] ?_
        refine gG X58 hx hby at_155 155 205 ?_
        show Goes _ _ _ _ _ (fT T58 m 205 #[vi x0, vi x1, vi x2, vi x3, vi x4, vi 3, vi md, vi c0, vi c1, vi c2, vr b53, vr b57, vi c2, vu] [])
        exact J205 _ _ _ X58 rfl N58 r_c2
       ·refine gY X58 hx hby at_148 148 158 (feq hc148_72).2 ?_
        refine gI X58 hx hby at_158 rfl rfl ?_
        refine gC X58 hx hby at_160 ?_
        by_cases hc161_73 : md = 3
        ·refine gU X58 hx hby at_161 (teq hc161_73).2 ?_
         refine gI X58 hx hby at_164 rfl rfl ?_
         show Goes _ _ _ _ _ (fT T58 m 166 #[vi x0, vi x1, vi x2, vi x3, vi x4, vi 3, vi md, vi c0, vi c1, vi c2, vr b53, vr b57, vu, vu] [(.int c0)])
         refine gI X58 hx hby at_166 rfl rfl ?_
         refine Gz (XS.sipush X58.here hx rfl (hb hby at_168)) ?_
         show Goes _ _ _ _ _ (fT T58 m 171 #[vi x0, vi x1, vi x2, vi x3, vi x4, vi 3, vi md, vi c0, vi c1, vi c2, vr b53, vr b57, vu, vu] [(.int 255), (.int x4), (.int c0)])
         refine Gz (XS.iand X58.here hx rfl (hb hby at_171) rfl) ?_
         show Goes _ _ _ _ _ (fT T58 m 172 #[vi x0, vi x1, vi x2, vi x3, vi x4, vi 3, vi md, vi c0, vi c1, vi c2, vr b53, vr b57, vu, vu] [(.int (x4 &&& 255)), (.int c0)])
         refine Gz (XS.ixor X58.here hx rfl (hb hby at_172) rfl) ?_
         show Goes _ _ _ _ _ (fT T58 m 173 #[vi x0, vi x1, vi x2, vi x3, vi x4, vi 3, vi md, vi c0, vi c1, vi c2, vr b53, vr b57, vu, vu] [(.int (c0 ^^^ (x4 &&& 255)))])
         refine gS X58 hx hby at_173 #[vi x0, vi x1, vi x2, vi x3, vi x4, vi 3, vi md, vi c0, vi c1, vi c2, vr b53, vr b57, vi (c0 ^^^ (x4 &&& 255)), vu] ?_
         refine gG X58 hx hby at_175 175 205 ?_
         show Goes _ _ _ _ _ (fT T58 m 205 #[vi x0, vi x1, vi x2, vi x3, vi x4, vi 3, vi md, vi c0, vi c1, vi c2, vr b53, vr b57, vi (c0 ^^^ (x4 &&& 255)), vu] [])
         exact J205 _ _ _ X58 rfl N58 (own_xor r_c0)
        ·refine gY X58 hx hby at_161 161 178 (feq hc161_73).2 ?_
         refine gI X58 hx hby at_178 rfl rfl ?_
         show Goes _ _ _ _ _ (fT T58 m 180 #[vi x0, vi x1, vi x2, vi x3, vi x4, vi 3, vi md, vi c0, vi c1, vi c2, vr b53, vr b57, vu, vu] [(.int md)])
         refine gC X58 hx hby at_180 ?_
         by_cases hc181_74 : md = 4
         ·refine gU X58 hx hby at_181 (teq hc181_74).2 ?_
          refine gI X58 hx hby at_184 rfl rfl ?_
          refine gI X58 hx hby at_186 rfl rfl ?_
          refine Gz (XS.sipush X58.here hx rfl (hb hby at_188)) ?_
          show Goes _ _ _ _ _ (fT T58 m 191 #[vi x0, vi x1, vi x2, vi x3, vi x4, vi 3, vi md, vi c0, vi c1, vi c2, vr b53, vr b57, vu, vu] [(.int 255), (.int x4), (.int c1)])
          refine Gz (XS.iand X58.here hx rfl (hb hby at_191) rfl) ?_
          show Goes _ _ _ _ _ (fT T58 m 192 #[vi x0, vi x1, vi x2, vi x3, vi x4, vi 3, vi md, vi c0, vi c1, vi c2, vr b53, vr b57, vu, vu] [(.int (x4 &&& 255)), (.int c1)])
          refine Gz (XS.ixor X58.here hx rfl (hb hby at_192) rfl) ?_
          show Goes _ _ _ _ _ (fT T58 m 193 #[vi x0, vi x1, vi x2, vi x3, vi x4, vi 3, vi md, vi c0, vi c1, vi c2, vr b53, vr b57, vu, vu] [(.int (c1 ^^^ (x4 &&& 255)))])
          refine gS X58 hx hby at_193 #[vi x0, vi x1, vi x2, vi x3, vi x4, vi 3, vi md, vi c0, vi c1, vi c2, vr b53, vr b57, vi (c1 ^^^ (x4 &&& 255)), vu] ?_
          refine gG X58 hx hby at_195 195 205 ?_
          show Goes _ _ _ _ _ (fT T58 m 205 #[vi x0, vi x1, vi x2, vi x3, vi x4, vi 3, vi md, vi c0, vi c1, vi c2, vr b53, vr b57, vi (c1 ^^^ (x4 &&& 255)), vu] [])
          exact J205 _ _ _ X58 rfl N58 (own_xor r_c1)
         ·refine gY X58 hx hby at_181 181 198 (feq hc181_74).2 ?_
          refine gI X58 hx hby at_198 rfl rfl ?_
          refine cS X58 hx hZ hw hown hby hml rfl mN0 0 1 3 2 0 (rm_cp l Z a0 hw [] x4 T58.heap n0 Z0) at_200 (lenOf own_pd0 rfl) N58 (fun T75 L75 X75 e75 N75 => ?_)
          show Goes _ _ _ _ _ (fT T75 m 203 #[vi x0, vi x1, vi x2, vi x3, vi x4, vi 3, vi md, vi c0, vi c1, vi c2, vr b53, vr b57, vu, vu] [(.int ((x4 &&& 2147483647) % 1114112))])
          refine gS X75 hx hby at_203 #[vi x0, vi x1, vi x2, vi x3, vi x4, vi 3, vi md, vi c0, vi c1, vi c2, vr b53, vr b57, vi ((x4 &&& 2147483647) % 1114112), vu] ?_
          show Goes _ _ _ _ _ (fT T75 m 205 #[vi x0, vi x1, vi x2, vi x3, vi x4, vi 3, vi md, vi c0, vi c1, vi c2, vr b53, vr b57, vi ((x4 &&& 2147483647) % 1114112), vu] [])
          exact J205 _ _ _ X75 e75 N75 (own_cp x4)
theorem comes_1 {Post : Tables → Env → Array Value → State → Outcome → State → Prop} (hpost : ∀ tb e args s v u, (limb_1_1.after args s (.returned v) u = true ∧ limb_1_2.after args s (.returned v) u = true ∧ True) → FrameEnd s (.returned v) u (Jvm.fieldLocs frame_1_writes args s ++ Jvm.arrayLocs frame_1_arrays args s ++ Jvm.staticLocs frame_1_statics s) 32 139904 → Post tb e args s (.returned v) u) :
  ArmFor flags0 classFile x code maxLocals ret World_1 tables_1 room_1 Calls_1 rest_1 Pre_1 Post := by
 intro l hfl _ _ p e ha hc hk s m args below hf hA hF happ hP
 obtain ⟨hcalls, hrest, hpre⟩ := hP
 obtain ⟨-, -, -, hnamed, -, -, -, hat⟩ := (Spec.applies_iff hf).mp happ
 obtain ⟨hg, hn⟩ := and_e (Cond.before_iff.mp (show (Jvm.Cond.and given_1 narrow_1).before args s = true from hpre))
 obtain ⟨g0, hg0⟩ := and_e hg
 obtain ⟨ga0, hg0'⟩ := and_e hg0
 obtain ⟨ga1, hg0''⟩ := and_e hg0'
 obtain ⟨ga2, hg0'''⟩ := and_e hg0''
 obtain ⟨ga3, hg0''''⟩ := and_e hg0'''
 obtain ⟨w0, w1, w2, w3, w4, rfl⟩ : ∃ w0 w1 w2 w3 w4 : Value, args = #[w0, w1, w2, w3, w4] := by
  have hs : args.size = 5 := by simpa [Cond.value, given_1] using g0
  obtain ⟨L⟩ := args
  match L, hs with
  | [w0, w1, w2, w3, w4], _ => exact ⟨w0, w1, w2, w3, w4, rfl⟩
 have hw := fun d (hd : d ∈ tables_1) => atoms_spec (ws := Jvm.Cond.code x code maxLocals ret :: tables_1) hat d (List.mem_cons_of_mem _ hd)
 have hfit : Fit s := fun {y c} hc i hi => by
  obtain ⟨ha, rfl⟩ := Array.getElem?_eq_some_iff.mp hc
  have q := List.all_eq_true.mp ((Array.all_eq_true_iff_forall_mem.mp hF) _ (Array.getElem_mem ha)) i (List.mem_range.mpr hi)
  simpa [Array.getElem?_eq_getElem hi] using q
 obtain ⟨i0, ei0⟩ := is_v ga0
 obtain rfl : w0 = (.int i0) := Option.some.inj ei0
 obtain ⟨i1, ei1⟩ := is_v ga1
 obtain rfl : w1 = (.int i1) := Option.some.inj ei1
 obtain ⟨i2, ei2⟩ := is_v ga2
 obtain rfl : w2 = (.int i2) := Option.some.inj ei2
 obtain ⟨i3, ei3⟩ := is_v ga3
 obtain rfl : w3 = (.int i3) := Option.some.inj ei3
 obtain ⟨i4, ei4⟩ := is_v hg0''''
 obtain rfl : w4 = (.int i4) := Option.some.inj ei4
 obtain ⟨n, o, h1, h2, h3, _, L, rfl, ⟨rfl, N⟩, hq⟩ := rm_law l s _ hw tables_1 i0 i1 i2 i3 i4  s.heap s.heap.size (Nat.le_refl _)  p e ha hc hk s m _ below hf ((Spec.applies_iff_loose hf).mp happ).1 ⟨rfl, State.Warmed39.refl s, rfl⟩ trivial
 refine ⟨n, _, h1, h2, h3, hpost _ _ _ _ _ _ ⟨Cond.after_iff.mpr rfl, Cond.after_iff.mpr (eq_i res_at (Term.int_eval (1)) rfl), trivial⟩ ⟨hq.1, hq.2.1, (hq.2.2.sift fun y hy => Or.inr (N y hy)).mono (by decide) (by decide)⟩⟩
theorem main_1_1 : Claimed_1_1 := comes_1 fun _ _ _ _ _ _ h hF => ⟨h.1, hF⟩
theorem main_1_2 : Claimed_1_2 := comes_1 fun _ _ _ _ _ _ h hF => ⟨h.2.1, hF⟩
end Jvm.Pilot.@@N@@
namespace Jvm.Pilot.@@N@@
open Jvm Jvm.ClassFile Sem Op Lib Jvm.Free Jvm.Stand Jvm.Pilot.@@N@@.Jvm.D
/-! MADE BY PROGRAM (witnessworld.py) out of the Statement's table words and the real class files: 11 classes; the members and pool entries that the words name. The judged class is class 1, her method 2. -/
namespace start1
open Jvm.ClassFile
def u (s : String) : CpInfo := .utf8 (stringToUtf16 s)
/-- a pool by its gaps: so many unusable entries, then the entry; so many at the end -/
def gap : Nat → List CpInfo → List CpInfo
  | 0, r => r
  | n + 1, r => .unusable :: gap n r
def poolList (es : List (Nat × CpInfo)) (last : Nat) : List CpInfo := es.foldr (fun e r => gap e.1 (e.2 :: r)) (gap last [])
def pool (es : List (Nat × CpInfo)) (last : Nat) : Array CpInfo := ⟨poolList es last⟩
def fileOf (pool : Array CpInfo) (this : Nat) (attrs : Array Attribute := #[]) (ms : Array MethodInfo := #[]) (fl : Nat := 33) (sup : Nat := 0) (ifs : Array Nat := #[]) (fds : Array FieldInfo := #[]) : ClassFile where
  minorVersion := 0
  majorVersion := 65
  constantPool := pool
  accessFlags := fl
  thisClass := this
  superClass := sup
  interfaces := ifs
  fields := fds
  methods := ms
  attributes := attrs
def plain (name : String) (sup : Option ClassId) : Class where
  name := name
  kind := .ordinary
  loader := none
  accessFlags := 33
  super := sup
  interfaces := #[]
  cf := none
  fields := #[]
  methods := #[]
  instanceTypes := #[]
  staticTypes := #[]
  resolved := #[]
  callSites := []
  init := .initialized
  statics := none
  mirror := none

def pool0 : Array CpInfo := pool [(5, u "<init>"), (0, u "()V"), (1, .class_ 10), (1, u "java/lang/Object")] 113

def k0c0 : Code := { maxStack := 0, maxLocals := 1, code := object_method_1_code, exceptionTable := #[], attributes := #[] }
def k0m0 : Method := { name := "<init>", desc := "()V", sig := { parameters := [], returnType := none }, accessFlags := 1, code := some k0c0 }
/-- java/lang/Object -/
def k0 : Class := { plain "java/lang/Object" none with
  accessFlags := 33
  interfaces := #[]
  cf := some (fileOf pool0 8 #[] #[{ accessFlags := 1, nameIndex := 5, descriptorIndex := 6, attributes := #[] }] 33 0 #[] #[])
  fields := #[]
  methods := #[k0m0]
  instanceTypes := #[]
  staticTypes := #[]
  resolved := Array.replicate 124 none
  statics := none }

def pool1 : Array CpInfo := pool [(2, .class_ 4), (1, u "java/lang/Object"), (0, u "<init>"), (0, u "()V"), (0, .integer 2147483647), (0, .integer 1114112), (0, .methodref 10 11), (0, .class_ 12), (0, .nameAndType 13 14), (0, u "com/example/tandemtrie/tandemtrie/array/AlphabetLabelPinLaw"), (0, u "cp"), (0, u "(I)I"), (0, .class_ 16), (0, u "com/example/tandemtrie/tandemtrie/array/Alphabet"), (0, .methodref 15 18), (0, .nameAndType 5 19), (0, u "([I)V"), (0, .methodref 15 21), (0, .nameAndType 22 14), (0, u "label"), (2, u "law"), (0, u "(IIIII)Z")] 5

def k1m0 : Method := { name := "<init>", desc := "()V", sig := { parameters := [], returnType := none }, accessFlags := 1, code := none }
def k1c1 : Code := { maxStack := 2, maxLocals := 1, code := method_2_code, exceptionTable := #[], attributes := #[] }
def k1m1 : Method := { name := "cp", desc := "(I)I", sig := { parameters := [.int], returnType := some .int }, accessFlags := 10, code := some k1c1 }
def k1c2 : Code := { maxStack := 3, maxLocals := 14, code := code, exceptionTable := #[], attributes := #[] }
def k1m2 : Method := { name := "law", desc := "(IIIII)Z", sig := { parameters := [.int, .int, .int, .int, .int], returnType := some .boolean }, accessFlags := 9, code := some k1c2 }
/-- com/example/tandemtrie/tandemtrie/array/AlphabetLabelPinLaw -/
def k1 : Class := { plain "com/example/tandemtrie/tandemtrie/array/AlphabetLabelPinLaw" (some 0) with
  accessFlags := 49
  interfaces := #[]
  cf := some (fileOf pool1 10 #[] #[{ accessFlags := 1, nameIndex := 5, descriptorIndex := 6, attributes := #[] }, { accessFlags := 10, nameIndex := 13, descriptorIndex := 14, attributes := #[] }, { accessFlags := 9, nameIndex := 25, descriptorIndex := 26, attributes := #[] }] 49 2 #[] #[])
  fields := #[]
  methods := #[k1m0, k1m1, k1m2]
  instanceTypes := #[]
  staticTypes := #[]
  resolved := Array.replicate 32 none
  statics := none }

def pool2 : Array CpInfo := pool [(3, .class_ 4), (0, u "com/example/tandemtrie/tandemtrie/array/Alphabet"), (0, .methodref 6 7), (0, .class_ 8), (0, .nameAndType 9 10), (0, u "java/lang/Object"), (0, u "<init>"), (0, u "()V"), (0, .fieldref 3 12), (0, .nameAndType 13 14), (0, u "basic"), (0, u "[I"), (0, .fieldref 3 16), (0, .nameAndType 17 14), (0, u "codePoints"), (0, .integer 1114111), (9, .integer 65536), (0, .methodref 30 31), (0, .class_ 32), (0, .nameAndType 33 34), (0, u "java/lang/Math"), (0, u "max"), (0, u "(II)I"), (0, .methodref 36 37), (0, .class_ 38), (0, .nameAndType 39 40), (0, u "java/util/Arrays"), (0, u "fill"), (0, u "([II)V"), (0, .methodref 3 42), (0, .nameAndType 43 44), (0, u "label"), (0, u "(I)I"), (1, .methodref 3 47), (0, .nameAndType 48 44), (0, u "add"), (0, .fieldref 3 50), (0, .nameAndType 51 52), (0, u "supplementary"), (0, u "[[I"), (0, .methodref 3 54), (0, .nameAndType 55 44), (0, u "blockOf"), (0, .fieldref 3 57), (0, .nameAndType 58 59), (0, u "size"), (0, u "I"), (10, .class_ 14), (6, u "NONE"), (2, u "MAX_SIZE"), (1, u "BLOCK_BITS"), (1, u "BLOCK_SIZE"), (1, u "([I)V")] 28

def k2c0 : Code := { maxStack := 5, maxLocals := 7, code := prog_6_method_1_code, exceptionTable := #[], attributes := #[] }
def k2m0 : Method := { name := "<init>", desc := "([I)V", sig := { parameters := [(.array .int)], returnType := none }, accessFlags := 1, code := some k2c0 }
def k2c1 : Code := { maxStack := 3, maxLocals := 3, code := prog_6_method_2_code, exceptionTable := #[], attributes := #[] }
def k2m1 : Method := { name := "label", desc := "(I)I", sig := { parameters := [.int], returnType := some .int }, accessFlags := 1, code := some k2c1 }
def k2c2 : Code := { maxStack := 4, maxLocals := 4, code := prog_6_method_5_code, exceptionTable := #[], attributes := #[] }
def k2m2 : Method := { name := "add", desc := "(I)I", sig := { parameters := [.int], returnType := some .int }, accessFlags := 1, code := some k2c2 }
def k2c3 : Code := { maxStack := 2, maxLocals := 1, code := prog_6_method_7_code, exceptionTable := #[], attributes := #[] }
def k2m3 : Method := { name := "blockOf", desc := "(I)I", sig := { parameters := [.int], returnType := some .int }, accessFlags := 10, code := some k2c3 }
/-- com/example/tandemtrie/tandemtrie/array/Alphabet -/
def k2 : Class := { plain "com/example/tandemtrie/tandemtrie/array/Alphabet" (some 0) with
  accessFlags := 49
  interfaces := #[]
  cf := some (fileOf pool2 3 #[] #[{ accessFlags := 1, nameIndex := 9, descriptorIndex := 86, attributes := #[] }, { accessFlags := 1, nameIndex := 43, descriptorIndex := 44, attributes := #[] }, { accessFlags := 1, nameIndex := 48, descriptorIndex := 44, attributes := #[] }, { accessFlags := 10, nameIndex := 55, descriptorIndex := 44, attributes := #[] }] 49 6 #[] #[{ accessFlags := 25, nameIndex := 77, descriptorIndex := 59, attributes := #[] }, { accessFlags := 26, nameIndex := 80, descriptorIndex := 59, attributes := #[] }, { accessFlags := 26, nameIndex := 82, descriptorIndex := 59, attributes := #[] }, { accessFlags := 26, nameIndex := 84, descriptorIndex := 59, attributes := #[] }, { accessFlags := 2, nameIndex := 13, descriptorIndex := 14, attributes := #[] }, { accessFlags := 2, nameIndex := 51, descriptorIndex := 52, attributes := #[] }, { accessFlags := 2, nameIndex := 17, descriptorIndex := 14, attributes := #[] }, { accessFlags := 2, nameIndex := 58, descriptorIndex := 59, attributes := #[] }])
  fields := #[{ name := "NONE", type := .int, accessFlags := 25, slot := 0, constantValue := 0 }, { name := "MAX_SIZE", type := .int, accessFlags := 26, slot := 1, constantValue := 0 }, { name := "BLOCK_BITS", type := .int, accessFlags := 26, slot := 2, constantValue := 0 }, { name := "BLOCK_SIZE", type := .int, accessFlags := 26, slot := 3, constantValue := 0 }, { name := "basic", type := (.array .int), accessFlags := 2, slot := 0, constantValue := 0 }, { name := "supplementary", type := (.array (.array .int)), accessFlags := 2, slot := 1, constantValue := 0 }, { name := "codePoints", type := (.array .int), accessFlags := 2, slot := 2, constantValue := 0 }, { name := "size", type := .int, accessFlags := 2, slot := 3, constantValue := 0 }]
  methods := #[k2m0, k2m1, k2m2, k2m3]
  instanceTypes := #[(.array .int), (.array (.array .int)), (.array .int), .int]
  staticTypes := #[.int, .int, .int, .int]
  resolved := Array.replicate 115 none
  statics := none }

def pool3 : Array CpInfo := pool [(1, .class_ 2), (0, u "java/lang/Math"), (1, .class_ 6), (1, u "java/lang/Object"), (0, u "<init>"), (0, u "()V"), (89, .class_ 100), (1, u "java/lang/Math$RandomNumberGeneratorHolder"), (71, u "negativeZeroFloatBits"), (0, u "J"), (2, u "negativeZeroDoubleBits"), (21, u "max"), (46, u "$assertionsDisabled"), (0, u "Z"), (88, u "(II)I"), (2, u "twoToTheDoubleScaleDown"), (0, u "D"), (4, u "twoToTheDoubleScaleUp"), (9, u "E"), (3, u "PI"), (2, u "TAU"), (2, u "DEGREES_TO_RADIANS"), (0, u "RADIANS_TO_DEGREES")] 94

def k3m0 : Method := { name := "<init>", desc := "()V", sig := { parameters := [], returnType := none }, accessFlags := 2, code := none }
def k3c1 : Code := { maxStack := 2, maxLocals := 2, code := jdk_29_method_65_code, exceptionTable := #[], attributes := #[] }
def k3m1 : Method := { name := "max", desc := "(II)I", sig := { parameters := [.int, .int], returnType := some .int }, accessFlags := 9, code := some k3c1 }
/-- java/lang/Math -/
def k3 : Class := { plain "java/lang/Math" (some 0) with
  accessFlags := 49
  interfaces := #[]
  cf := some (fileOf pool3 1 #[.nestMembers #[98]] #[{ accessFlags := 2, nameIndex := 7, descriptorIndex := 8, attributes := #[] }, { accessFlags := 9, nameIndex := 198, descriptorIndex := 335, attributes := #[] }] 49 4 #[] #[{ accessFlags := 25, nameIndex := 354, descriptorIndex := 339, attributes := #[] }, { accessFlags := 25, nameIndex := 358, descriptorIndex := 339, attributes := #[] }, { accessFlags := 25, nameIndex := 361, descriptorIndex := 339, attributes := #[] }, { accessFlags := 26, nameIndex := 364, descriptorIndex := 339, attributes := #[] }, { accessFlags := 26, nameIndex := 365, descriptorIndex := 339, attributes := #[] }, { accessFlags := 26, nameIndex := 172, descriptorIndex := 173, attributes := #[] }, { accessFlags := 26, nameIndex := 176, descriptorIndex := 173, attributes := #[] }, { accessFlags := 8, nameIndex := 344, descriptorIndex := 339, attributes := #[] }, { accessFlags := 8, nameIndex := 338, descriptorIndex := 339, attributes := #[] }, { accessFlags := 4120, nameIndex := 245, descriptorIndex := 246, attributes := #[] }])
  fields := #[{ name := "E", type := .double, accessFlags := 25, slot := 0, constantValue := 0 }, { name := "PI", type := .double, accessFlags := 25, slot := 1, constantValue := 0 }, { name := "TAU", type := .double, accessFlags := 25, slot := 2, constantValue := 0 }, { name := "DEGREES_TO_RADIANS", type := .double, accessFlags := 26, slot := 3, constantValue := 0 }, { name := "RADIANS_TO_DEGREES", type := .double, accessFlags := 26, slot := 4, constantValue := 0 }, { name := "negativeZeroFloatBits", type := .long, accessFlags := 26, slot := 5, constantValue := 0 }, { name := "negativeZeroDoubleBits", type := .long, accessFlags := 26, slot := 6, constantValue := 0 }, { name := "twoToTheDoubleScaleUp", type := .double, accessFlags := 8, slot := 7, constantValue := 0 }, { name := "twoToTheDoubleScaleDown", type := .double, accessFlags := 8, slot := 8, constantValue := 0 }, { name := "$assertionsDisabled", type := .boolean, accessFlags := 4120, slot := 9, constantValue := 0 }]
  methods := #[k3m0, k3m1]
  instanceTypes := #[]
  staticTypes := #[.double, .double, .double, .double, .double, .long, .long, .double, .double, .boolean]
  resolved := Array.replicate 460 none
  statics := none }

def pool4 : Array CpInfo := pool [(2, .class_ 4), (1, u "java/lang/Object"), (0, u "<init>"), (0, u "()V"), (7, .class_ 16), (1, u "java/util/Arrays"), (57, .class_ 76), (1, u "java/util/Arrays$NaturalOrder"), (36, .class_ 115), (1, u "java/util/Arrays$LegacyMergeSort"), (1, u "Z"), (257, .class_ 376), (0, u "java/util/Arrays$ArrayList"), (68, u "$assertionsDisabled"), (269, u "MIN_ARRAY_SORT_GRAN"), (0, u "I"), (2, u "INSERTIONSORT_THRESHOLD"), (120, u "fill"), (4, u "([II)V"), (129, .class_ 976), (0, u "java/util/Arrays$ArrayItr")] 52

def k4m0 : Method := { name := "<init>", desc := "()V", sig := { parameters := [], returnType := none }, accessFlags := 2, code := none }
def k4c1 : Code := { maxStack := 3, maxLocals := 4, code := jdk_65_method_103_code, exceptionTable := #[], attributes := #[] }
def k4m1 : Method := { name := "fill", desc := "([II)V", sig := { parameters := [(.array .int), .int], returnType := none }, accessFlags := 9, code := some k4c1 }
/-- java/util/Arrays -/
def k4 : Class := { plain "java/util/Arrays" (some 0) with
  accessFlags := 49
  interfaces := #[]
  cf := some (fileOf pool4 14 #[.nestMembers #[975, 375, 113, 74]] #[{ accessFlags := 2, nameIndex := 5, descriptorIndex := 6, attributes := #[] }, { accessFlags := 9, nameIndex := 840, descriptorIndex := 845, attributes := #[] }] 49 2 #[] #[{ accessFlags := 26, nameIndex := 715, descriptorIndex := 716, attributes := #[] }, { accessFlags := 26, nameIndex := 719, descriptorIndex := 716, attributes := #[] }, { accessFlags := 4120, nameIndex := 445, descriptorIndex := 117, attributes := #[] }])
  fields := #[{ name := "MIN_ARRAY_SORT_GRAN", type := .int, accessFlags := 26, slot := 0, constantValue := 0 }, { name := "INSERTIONSORT_THRESHOLD", type := .int, accessFlags := 26, slot := 1, constantValue := 0 }, { name := "$assertionsDisabled", type := .boolean, accessFlags := 4120, slot := 2, constantValue := 0 }]
  methods := #[k4m0, k4m1]
  instanceTypes := #[]
  staticTypes := #[.int, .int, .boolean]
  resolved := Array.replicate 1029 none
  statics := none }

def pool5 : Array CpInfo := pool [(1, u "java/lang/Cloneable"), (0, .class_ 1), (0, u "java/lang/Object"), (0, .class_ 3)] 3

/-- java/lang/Cloneable -/
def k5 : Class := { plain "java/lang/Cloneable" (some 0) with
  accessFlags := 1537
  interfaces := #[]
  cf := some (fileOf pool5 2 #[] #[] 1537 4 #[] #[])
  fields := #[]
  methods := #[]
  instanceTypes := #[]
  staticTypes := #[]
  resolved := Array.replicate 8 none
  statics := none }

def pool6 : Array CpInfo := pool [(1, u "java/io/Serializable"), (0, .class_ 1), (0, u "java/lang/Object"), (0, .class_ 3)] 3

/-- java/io/Serializable -/
def k6 : Class := { plain "java/io/Serializable" (some 0) with
  accessFlags := 1537
  interfaces := #[]
  cf := some (fileOf pool6 2 #[] #[] 1537 4 #[] #[])
  fields := #[]
  methods := #[]
  instanceTypes := #[]
  staticTypes := #[]
  resolved := Array.replicate 8 none
  statics := none }

/-- the primitive byte -/
def k7 : Class := { plain "byte" none with kind := .primitive 'B', accessFlags := 0x411 }
/-- [B -/
def k8 : Class := { plain "[B" (some 0) with kind := .array 7 .byte, interfaces := #[5, 6], accessFlags := 1041 }

/-- the primitive int -/
def k9 : Class := { plain "int" none with kind := .primitive 'I', accessFlags := 0x411 }
/-- [I -/
def k10 : Class := { plain "[I" (some 0) with kind := .array 9 .int, interfaces := #[5, 6], accessFlags := 1041 }

/-- [[I -/
def k11 : Class := { plain "[[I" (some 0) with kind := .array 10 (.array .int), interfaces := #[5, 6], accessFlags := 1041 }
def heap : Heap := #[]
def classes : Array Class := #[k0, k1, k2, k3, k4, k5, k6, k7, k8, k9, k10, k11]
def interned : List (Array UInt16 × Addr) := []
def slotsUsed : Nat := 0
def theMethod : MethodId := ⟨1, 2⟩
def args0 : Array Value := #[.int 5, .int 70000, .int 7, .int 3, .int 9]
def aboutOver (below : List Frame) : State where
  vm := { classes := classes, interned := interned.toArray }
  heap := heap
  slotsUsed := slotsUsed
  threads := #[{ frames := .invoking theMethod args0 :: below }]
def below0 : List Frame := [.native { method := ⟨0, 0⟩, args := #[] }]
def about1 : State := aboutOver below0
def p0 : Program := .bare "" "" ""
def e0 : Env := launch0.env 0 0 0
theorem w_frames : about1.frames = Frame.invoking theMethod args0 :: below0 := rfl
set_option maxRecDepth 65536 in
theorem w_args : argsFit about1.vm theMethod args0 = true := by decide +kernel
set_option maxRecDepth 65536 in
theorem w_heap : heapFits about1 = true := by decide +kernel
set_option maxRecDepth 65536 in
theorem w_runnable : about1.curStatus? = some .runnable := by decide +kernel
set_option maxRecDepth 65536 in
theorem w_alone : about1.alone = true := by decide +kernel
set_option maxRecDepth 65536 in
theorem w_named : about1.methodNamed? x = some theMethod := by decide +kernel
set_option maxRecDepth 65536 in
theorem w_hears : about1.hears theMethod below0 = true := by decide +kernel
set_option maxRecDepth 65536 in
theorem w_ripe : about1.ripe theMethod args0 below0 = true := by decide +kernel
theorem w_running : about1.status = .running := rfl
set_option maxRecDepth 65536 in
theorem w_room : about1.hasRoom e0.platform room_1 = true :=
  launch0.hasRoom_least _ room_1 (by decide +kernel) (by decide +kernel) (by decide +kernel) (by decide +kernel) (by decide +kernel) (by decide +kernel)
theorem allAtoms_all (ts : List Jvm.Cond) (a : Array Jvm.Value) (st : Jvm.State) : (allAtoms ts).before a st = ts.all (fun c => c.before a st) := by
  induction ts with
  | nil => rfl
  | cons c t ih =>
    show (Jvm.Cond.and c (allAtoms t)).before a st = _
    rw [Jvm.Cond.before_and, ih, List.all_cons]
def words1 : List Jvm.Cond := Jvm.Cond.code x code maxLocals ret :: tables_1
/-- a 'code' word, met by the world's own term for the bytes: nothing is compared byte by byte -/
theorem code_word {y : MethodName} {bytes : ByteArray} {mx : Nat} {rt : Option FieldType} {a : Array Value} {s : State} {m : MethodId} {meth : Method} {c : Code} (h1 : s.methodNamed? y = some m) (h2 : s.vm.method? m = some meth) (h3 : meth.code = some c) (h4 : c.code = bytes)
    (h5 : (c.maxLocals == mx && c.exceptionTable.isEmpty && decide (c.maxStack ≤ mostOperands) && decide (meth.sig.returnType = rt) && !meth.locks && decide (parseMethodDescriptor y.desc = some meth.sig)) = true) : (Jvm.Cond.code y bytes mx rt).before a s = true := by
  simp only [Bool.and_eq_true, beq_iff_eq, Bool.not_eq_true', decide_eq_true_eq] at h5
  obtain ⟨⟨⟨⟨⟨g1, g2⟩, g3⟩, g4⟩, g5⟩, g6⟩ := h5
  simp [Cond.before, Cond.holds, Cond.value, h1, h2, h3, h4, g1, g2, g3, g4, g5, g6]
def isCode : Jvm.Cond → Bool
  | .code _ _ _ _ => true
  | _ => false
theorem all_split {L : List Jvm.Cond} {P : Jvm.Cond → Bool} (h1 : L.all (fun c => isCode c || P c) = true) (h2 : ∀ c ∈ L.filter isCode, P c = true) : L.all P = true := by
  refine List.all_eq_true.mpr fun c hc => ?_
  have h := List.all_eq_true.mp h1 c hc
  rcases Bool.eq_false_or_eq_true (isCode c) with hi | hi
  · exact h2 c (List.mem_filter.mpr ⟨hc, hi⟩)
  · simpa [hi] using h
set_option maxRecDepth 65536 in
theorem w_c0 : (Jvm.Cond.code x code maxLocals ret).before args0 about1 = true := code_word (m := ⟨1, 2⟩) (meth := k1m2) (c := k1c2) (by decide +kernel) rfl rfl rfl (by decide +kernel)
set_option maxRecDepth 65536 in
theorem w_c1 : (Jvm.Cond.code ({ cls := "com/example/tandemtrie/tandemtrie/array/AlphabetLabelPinLaw", name := "cp", desc := "(I)I" } : Jvm.MethodName) method_2_code (1 : Nat) (Option.some Jvm.ClassFile.FieldType.int)).before args0 about1 = true := code_word (m := ⟨1, 1⟩) (meth := k1m1) (c := k1c1) (by decide +kernel) rfl rfl rfl (by decide +kernel)
set_option maxRecDepth 65536 in
theorem w_c2 : (Jvm.Cond.code ({ cls := "com/example/tandemtrie/tandemtrie/array/Alphabet", name := "<init>", desc := "([I)V" } : Jvm.MethodName) prog_6_method_1_code (7 : Nat) (Option.none : Option Jvm.ClassFile.FieldType)).before args0 about1 = true := code_word (m := ⟨2, 0⟩) (meth := k2m0) (c := k2c0) (by decide +kernel) rfl rfl rfl (by decide +kernel)
set_option maxRecDepth 65536 in
theorem w_c3 : (Jvm.Cond.code ({ cls := "java/lang/Object", name := "<init>", desc := "()V" } : Jvm.MethodName) object_method_1_code (1 : Nat) (Option.none : Option Jvm.ClassFile.FieldType)).before args0 about1 = true := code_word (m := ⟨0, 0⟩) (meth := k0m0) (c := k0c0) (by decide +kernel) rfl rfl rfl (by decide +kernel)
set_option maxRecDepth 65536 in
theorem w_c4 : (Jvm.Cond.code ({ cls := "java/lang/Math", name := "max", desc := "(II)I" } : Jvm.MethodName) jdk_29_method_65_code (2 : Nat) (Option.some Jvm.ClassFile.FieldType.int)).before args0 about1 = true := code_word (m := ⟨3, 1⟩) (meth := k3m1) (c := k3c1) (by decide +kernel) rfl rfl rfl (by decide +kernel)
set_option maxRecDepth 65536 in
theorem w_c5 : (Jvm.Cond.code ({ cls := "java/util/Arrays", name := "fill", desc := "([II)V" } : Jvm.MethodName) jdk_65_method_103_code (4 : Nat) (Option.none : Option Jvm.ClassFile.FieldType)).before args0 about1 = true := code_word (m := ⟨4, 1⟩) (meth := k4m1) (c := k4c1) (by decide +kernel) rfl rfl rfl (by decide +kernel)
set_option maxRecDepth 65536 in
theorem w_c6 : (Jvm.Cond.code ({ cls := "com/example/tandemtrie/tandemtrie/array/Alphabet", name := "label", desc := "(I)I" } : Jvm.MethodName) prog_6_method_2_code (3 : Nat) (Option.some Jvm.ClassFile.FieldType.int)).before args0 about1 = true := code_word (m := ⟨2, 1⟩) (meth := k2m1) (c := k2c1) (by decide +kernel) rfl rfl rfl (by decide +kernel)
set_option maxRecDepth 65536 in
theorem w_c7 : (Jvm.Cond.code ({ cls := "com/example/tandemtrie/tandemtrie/array/Alphabet", name := "add", desc := "(I)I" } : Jvm.MethodName) prog_6_method_5_code (4 : Nat) (Option.some Jvm.ClassFile.FieldType.int)).before args0 about1 = true := code_word (m := ⟨2, 2⟩) (meth := k2m2) (c := k2c2) (by decide +kernel) rfl rfl rfl (by decide +kernel)
set_option maxRecDepth 65536 in
theorem w_c8 : (Jvm.Cond.code ({ cls := "com/example/tandemtrie/tandemtrie/array/Alphabet", name := "blockOf", desc := "(I)I" } : Jvm.MethodName) prog_6_method_7_code (1 : Nat) (Option.some Jvm.ClassFile.FieldType.int)).before args0 about1 = true := code_word (m := ⟨2, 3⟩) (meth := k2m3) (c := k2c3) (by decide +kernel) rfl rfl rfl (by decide +kernel)
def codes1 : List Jvm.Cond := [Jvm.Cond.code x code maxLocals ret, Jvm.Cond.code ({ cls := "com/example/tandemtrie/tandemtrie/array/AlphabetLabelPinLaw", name := "cp", desc := "(I)I" } : Jvm.MethodName) method_2_code (1 : Nat) (Option.some Jvm.ClassFile.FieldType.int), Jvm.Cond.code ({ cls := "com/example/tandemtrie/tandemtrie/array/Alphabet", name := "<init>", desc := "([I)V" } : Jvm.MethodName) prog_6_method_1_code (7 : Nat) (Option.none : Option Jvm.ClassFile.FieldType), Jvm.Cond.code ({ cls := "java/lang/Object", name := "<init>", desc := "()V" } : Jvm.MethodName) object_method_1_code (1 : Nat) (Option.none : Option Jvm.ClassFile.FieldType), Jvm.Cond.code ({ cls := "java/lang/Math", name := "max", desc := "(II)I" } : Jvm.MethodName) jdk_29_method_65_code (2 : Nat) (Option.some Jvm.ClassFile.FieldType.int), Jvm.Cond.code ({ cls := "java/util/Arrays", name := "fill", desc := "([II)V" } : Jvm.MethodName) jdk_65_method_103_code (4 : Nat) (Option.none : Option Jvm.ClassFile.FieldType), Jvm.Cond.code ({ cls := "com/example/tandemtrie/tandemtrie/array/Alphabet", name := "label", desc := "(I)I" } : Jvm.MethodName) prog_6_method_2_code (3 : Nat) (Option.some Jvm.ClassFile.FieldType.int), Jvm.Cond.code ({ cls := "com/example/tandemtrie/tandemtrie/array/Alphabet", name := "add", desc := "(I)I" } : Jvm.MethodName) prog_6_method_5_code (4 : Nat) (Option.some Jvm.ClassFile.FieldType.int), Jvm.Cond.code ({ cls := "com/example/tandemtrie/tandemtrie/array/Alphabet", name := "blockOf", desc := "(I)I" } : Jvm.MethodName) prog_6_method_7_code (1 : Nat) (Option.some Jvm.ClassFile.FieldType.int)]
set_option maxRecDepth 65536 in
theorem codes_eq : words1.filter isCode = codes1 := rfl
theorem w_codes : ∀ c ∈ words1.filter isCode, c.before args0 about1 = true := by
  rw [codes_eq]
  intro c hc
  simp only [codes1, List.mem_cons, List.not_mem_nil, or_false] at hc
  rcases hc with rfl | rfl | rfl | rfl | rfl | rfl | rfl | rfl | rfl
  · exact w_c0
  · exact w_c1
  · exact w_c2
  · exact w_c3
  · exact w_c4
  · exact w_c5
  · exact w_c6
  · exact w_c7
  · exact w_c8
set_option maxRecDepth 65536 in
theorem w_t1 : (words1.take 24).all (fun c => isCode c || c.before args0 about1) = true := by decide +kernel
set_option maxRecDepth 65536 in
theorem w_t2 : ((words1.drop 24).take 24).all (fun c => isCode c || c.before args0 about1) = true := by decide +kernel
set_option maxRecDepth 65536 in
theorem w_t3 : ((words1.drop 24).drop 24).all (fun c => isCode c || c.before args0 about1) = true := by decide +kernel
theorem w_tables : (allAtoms (Jvm.Cond.code x code maxLocals ret :: tables_1)).before args0 about1 = true := by
  rw [allAtoms_all]
  show words1.all (fun c => c.before args0 about1) = true
  refine all_split ?_ w_codes
  rw [← List.take_append_drop 24 words1, List.all_append, w_t1, ← List.take_append_drop 24 (words1.drop 24), List.all_append, w_t2, w_t3]
  rfl
set_option maxRecDepth 65536 in
theorem w_case : (Jvm.Cond.and given_1 narrow_1).before args0 about1 = true := by decide +kernel
theorem w_applies : (headSpec (Jvm.Cond.code x code maxLocals ret :: tables_1) room_1).applies x e0.platform about1 = true :=
  (Spec.applies_iff w_frames).mpr ⟨w_running, w_runnable, w_alone, w_named, w_hears, w_ripe, w_room, w_tables⟩
theorem atStart : AtStart classFile x code maxLocals ret World_1 tables_1 room_1 Calls_1 rest_1 Pre_1 launch0 p0 e0 about1 theMethod args0 below0 :=
  ⟨lists_1, trivial, launch0.admits_env _ _ _, launch0.least_env, fairChoices_fair.cas, fairChoices_fair.clock, w_frames, w_args, w_heap, w_applies, trivial, trivial, w_case⟩
end start1
theorem witness_1 : WitnessClaimed_1 := ⟨start1.p0, start1.e0, start1.about1, start1.theMethod, start1.args0, start1.below0, start1.atStart⟩
end Jvm.Pilot.@@N@@
